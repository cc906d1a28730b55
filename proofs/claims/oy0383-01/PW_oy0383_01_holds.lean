import PyProof.Rows.All
import Wide.All
import OpenK.AllK
import Wide.FinOn
import KE.KNestM
import PySem.Challenge.RW_oy0383_01
set_option Elab.async false
set_option maxRecDepth 100000
set_option maxHeartbeats 4000000
set_option linter.all false
open PySem PySem.W PyProof.Rows PySem.Calls
namespace Mine
-- NHead
section
set_option maxHeartbeats 0
open Lean PySem PySem.W PyProof.Rows PySem.Calls
noncomputable abbrev pw : Program := PySem.Challenge.rw_oy0383_01.row.toRowW.prog
noncomputable def qv : Program := { PySem.Challenge.pw_oy0383_01 with main := { PySem.Challenge.pw_oy0383_01.main with body := PySem.Challenge.pw_oy0383_01.main.body.drop 43 } }
noncomputable def lv : List Str := pw.boundNames.filter fun n => !(n == Str.ofString "law")
noncomputable def envT : Env := { scope := pw.main.scope, locals := mainNs, globals := mainNs, cells := [], code := .ref 36, frame := some 37 }
noncomputable def cT : Code := .body (behindTheImports pw) envT
noncomputable def dS : Shared := {}
noncomputable def p0 : Pos := ⟨0, 0, 0, 0⟩
noncomputable def annT : Option Value := some (.ref 6)
noncomputable def tbQ : String → Option Builtin := PySem.W.Fast.tw14364793385576792824
@[irreducible] def NN : Nat := 10754
@[irreducible] noncomputable def s0 (w : World) : Shared := ((PySem.W.Fast.tw10274390034422433532 tbQ (opening pw) w NN (start (opening pw)).1 (start (opening pw)).2).bind (fenceModules? pw)).getD dS
@[irreducible] noncomputable def preR (w : World) : Option (Shared × Thread) := PySem.W.Fast.tw15667345088766844465 tbQ pw w 34 annT 12 (s0 w) (topStub pw)
@[irreducible] noncomputable def sa (w : World) : Shared := ((preR w).map (·.1)).getD dS
@[irreducible] noncomputable def blkR (w : World) : Option (Flow × Shared × Code × Pos) := PySem.W.Fast.tw14374325043358763698 tbQ pw w 34 annT 1 60 (sa w) (blockOf (behindTheImports pw) envT cT p0 [topFrame p0])
@[irreducible] noncomputable def sb (w : World) : Shared := ((blkR w).map (·.2.1)).getD dS
@[irreducible] noncomputable def pb (w : World) : Pos := ((blkR w).map (·.2.2.2)).getD p0
noncomputable def btOf (l : List Obj) : BT := (l.foldl (fun (p : BT × Nat) o => (p.1.ins p.2 o, p.2 + 1)) (BT.nil, 0)).1
@[irreducible] noncomputable def sbT (w : World) : SharedT := ⟨btOf (sb w).heap.objs.toList, 38, (sb w).heap.life, (sb w).gens, (sb w).drawn, (sb w).toks, (sb w).os⟩
theorem tb_eq : treeTable = tbQ := PySem.W.Fast.te14364793385576792824
theorem stub (_ : Hook) {P : Prop} (z : P) : P := z
section
local macro_rules | `(tactic| o_head $H) => `(tactic| refine stub $H ?_)
theorem hd (z : PySem.Challenge.rw_oy0383_01.row.Holds) : PySem.Challenge.rw_oy0383_01.row.Holds := by
  k_head
  exact z
end
noncomputable def vs (x : String) (t : Nat) : Value := .str (Str.ofString x) t
noncomputable def de (P : Params) (x : String) (t : Nat) (v : Value) : DictEntry := ⟨PyData.keyHash P (Str.ofString x), .str (Str.ofString x) t, v⟩
noncomputable def db (P : Params) (x : String) (t : Nat) : DictEntry := de P x t (.builtin x)
noncomputable def dt (P : Params) (x : String) (t : Nat) : DictEntry := de P x t (.type x)
noncomputable def ob0 (P : Params) : Obj := { cls := .type "dict", data := .dict #[de P "__name__" 1 (vs "builtins" 160), de P "__doc__" 2 (.builtin "builtins.__doc__:str#opaque"), de P "__package__" 3 (.builtin "builtins.__package__:str#opaque"), de P "__loader__" 4 (.builtin "builtins.__loader__:shared#opaque"), de P "__spec__" 5 (.builtin "builtins.__spec__#opaque"), db P "__build_class__" 6, db P "__import__" 7, db P "abs" 8, db P "all" 9, db P "any" 10, db P "ascii" 11, db P "bin" 12, db P "breakpoint" 13, db P "callable" 14, db P "chr" 15, db P "compile" 16, db P "delattr" 17, db P "dir" 18, db P "divmod" 19, db P "eval" 20, db P "exec" 21, db P "format" 22, db P "getattr" 23, db P "globals" 24, db P "hasattr" 25, db P "hash" 26, db P "hex" 27, db P "id" 28, db P "input" 29, db P "isinstance" 30, db P "issubclass" 31, db P "iter" 32, db P "aiter" 33, db P "len" 34, db P "locals" 35, db P "max" 36, db P "min" 37, db P "next" 38, db P "anext" 39, db P "oct" 40, db P "ord" 41, db P "pow" 42, db P "print" 43, db P "repr" 44, db P "round" 45, db P "setattr" 46, db P "sorted" 47, db P "sum" 48, db P "vars" 49, de P "None" 50 (.none), de P "Ellipsis" 51 (.ellipsis), de P "NotImplemented" 52 (.notImplemented), de P "False" 53 (.bool false), de P "True" 54 (.bool true), dt P "bool" 55, dt P "memoryview" 56, dt P "bytearray" 57, dt P "bytes" 58, dt P "classmethod" 59, dt P "complex" 60, dt P "dict" 61, dt P "enumerate" 62, dt P "filter" 63, dt P "float" 64, dt P "frozenset" 65, dt P "property" 66, dt P "int" 67, dt P "list" 68, dt P "map" 69, dt P "object" 70, dt P "range" 71, dt P "reversed" 72, dt P "set" 73, dt P "slice" 74, dt P "staticmethod" 75, dt P "str" 76, dt P "super" 77, dt P "tuple" 78, dt P "type" 79, dt P "zip" 80, de P "__debug__" 81 (.bool true), dt P "BaseException" 82, dt P "BaseExceptionGroup" 83, dt P "Exception" 84, dt P "GeneratorExit" 85, dt P "KeyboardInterrupt" 86, dt P "SystemExit" 87, dt P "ArithmeticError" 88, dt P "AssertionError" 89, dt P "AttributeError" 90, dt P "BufferError" 91, dt P "EOFError" 92, dt P "ImportError" 93, dt P "LookupError" 94, dt P "MemoryError" 95, dt P "NameError" 96, dt P "OSError" 97, dt P "ReferenceError" 98, dt P "RuntimeError" 99, dt P "StopAsyncIteration" 100, dt P "StopIteration" 101, dt P "SyntaxError" 102, dt P "SystemError" 103, dt P "TypeError" 104, dt P "ValueError" 105, dt P "Warning" 106, dt P "FloatingPointError" 107, dt P "OverflowError" 108, dt P "ZeroDivisionError" 109, dt P "BytesWarning" 110, dt P "DeprecationWarning" 111, dt P "EncodingWarning" 112, dt P "FutureWarning" 113, dt P "ImportWarning" 114, dt P "PendingDeprecationWarning" 115, dt P "ResourceWarning" 116, dt P "RuntimeWarning" 117, dt P "SyntaxWarning" 118, dt P "UnicodeWarning" 119, dt P "UserWarning" 120, dt P "BlockingIOError" 121, dt P "ChildProcessError" 122, dt P "ConnectionError" 123, dt P "FileExistsError" 124, dt P "FileNotFoundError" 125, dt P "InterruptedError" 126, dt P "IsADirectoryError" 127, dt P "NotADirectoryError" 128, dt P "PermissionError" 129, dt P "ProcessLookupError" 130, dt P "TimeoutError" 131, dt P "IndentationError" 132, dt P "_IncompleteInputError" 133, dt P "IndexError" 134, dt P "KeyError" 135, dt P "ModuleNotFoundError" 136, dt P "NotImplementedError" 137, dt P "PythonFinalizationError" 138, dt P "RecursionError" 139, dt P "UnboundLocalError" 140, dt P "UnicodeError" 141, dt P "BrokenPipeError" 142, dt P "ConnectionAbortedError" 143, dt P "ConnectionRefusedError" 144, dt P "ConnectionResetError" 145, dt P "TabError" 146, dt P "UnicodeDecodeError" 147, dt P "UnicodeEncodeError" 148, dt P "UnicodeTranslateError" 149, dt P "ExceptionGroup" 150, de P "EnvironmentError" 151 (.type "OSError"), de P "IOError" 152 (.type "OSError"), db P "open" 153, de P "quit" 154 (.builtin "builtins.quit#opaque"), de P "exit" 155 (.builtin "builtins.exit#opaque"), de P "copyright" 156 (.builtin "builtins.copyright#opaque"), de P "credits" 157 (.builtin "builtins.credits#opaque"), de P "license" 158 (.builtin "builtins.license#opaque"), de P "help" 159 (.builtin "builtins.help#opaque")] 159 }
noncomputable def t35 : List (Int × Nat) := [(3, 43), (7, 50), (19, 62), (24, 69), (31, 76), (33, 89), (40, 111), (42, 123), (44, 135), (214, 365), (420, 612), (441, 619), (446, 626), (451, 633), (454, 640), (475, 647), (484, 654), (736, 750), (744, 757), (748, 765), (755, 772), (787, 779), (796, 786), (799, 793), (801, 798), (803, 803), (814, 808), (822, 815), (831, 820), (836, 825), (839, 830), (850, 837)]
noncomputable def ob36 : Obj := { cls := .type "code", data := .fields #[vs "<module>" 319, vs "<module>" 320, vs "/claim/cut.py" 321, .int 1 0, .int 0 0, .int 0 0, .int 0 0, .int 0 0, .ref 34, .bool false, .int 318 0, .ref 35, .none, .none, .none, .none, .int 322 0, .int 1 0, vs "/claim/cut.py" 323] }
noncomputable def tabs : List Nat := [8, 39, 46, 58, 65, 75, 92, 110, 122, 139, 146, 153, 160, 168, 175, 182, 189, 196, 203, 210, 217, 224, 231, 238, 245, 252, 260, 268, 276, 284, 291, 298, 306, 314, 321, 328, 335, 342, 349, 369, 376, 383, 390, 397, 404, 412, 420, 428, 436, 444, 451, 458, 465, 472, 479, 486, 493, 500, 507, 514, 521, 529, 537, 545, 553, 561, 568, 575, 582, 589, 596, 608, 615, 622, 629, 636, 643, 658, 665, 673, 681, 688, 695, 702, 709, 717, 724, 731, 746, 753, 761, 768, 775, 782, 789, 796, 801, 806, 811, 818, 823, 828, 833]
noncomputable def ob1 (P : Params) : Obj := { cls := .type "dict", data := .dict #[de P "builtins" 162 (.ref 4), de P "__main__" 163 (.ref 5), de P "_sre" 244 (.ref 12), de P "_collections" 292 (.ref 30)] 4 }
noncomputable def ob35 (n : Nat) : Obj := { cls := .none, data := .fields ((t35.take n).flatMap fun p => [.int p.1 0, .int 0 0, .ref p.2]).toArray }
noncomputable def o0 : Obj := { cls := .none, data := .freed }
noncomputable def find0 (o : Obj) : List (Nat × Obj) → Obj
  | [] => o
  | p :: l => match Nat.beq p.1 0 with
    | true => p.2
    | false => find0 o l
noncomputable def odds : List (Nat × Obj) → List (Nat × Obj)
  | [] => []
  | p :: l => match Nat.beq (Nat.mod p.1 2) 1 with
    | true => (Nat.div p.1 2, p.2) :: odds l
    | false => odds l
noncomputable def evens : List (Nat × Obj) → List (Nat × Obj)
  | [] => []
  | p :: l => match Nat.beq (Nat.mod p.1 2) 1 with
    | true => evens l
    | false => match Nat.beq p.1 0 with
      | true => evens l
      | false => (Nat.pred (Nat.div p.1 2), p.2) :: evens l
noncomputable def sk (f : Nat → Obj) (n : Nat) : Nat → Nat → Nat → List (Nat × Obj) → BT
  | 0, _, _, _ => .nil
  | k + 1, m, c, l => match Nat.blt c n with
    | true => .node (find0 (f c) l) (sk f n k (m + m) (c + m) (odds l)) (sk f n k (m + m) (c + m + m) (evens l))
    | false => .nil
noncomputable def sharedOf (f : Nat → Obj) (ls : List (Nat × Obj)) (n toks : Nat) : SharedT := ⟨sk f n 11 1 0 ls, n, {}, #[], {}, toks, {}⟩
noncomputable def hob (P : Params) (a : Nat) : Obj := match (Mine.hd.heap_1 P).filter fun p => Nat.beq p.1 a with
  | p :: _ => p.2
  | [] => o0
noncomputable def dEs (o : Obj) : List DictEntry := match o.data with
  | .dict es _ => es.toList
  | _ => []
noncomputable def cut3 (P : Params) (m : Nat) (v : Value) : Obj := { cls := .type "dict", data := .dict (de P "__name__" 165 v :: ((dEs (hob P 3)).take m).tail).toArray m }
noncomputable def cut2 (P : Params) (m : Nat) : Obj := { cls := .none, data := .dict ((dEs (hob P 2)).take m).toArray m }
noncomputable def cut127 (P : Params) : Obj := match hob P 127 with
  | ⟨c, d, .cls k, s⟩ => ⟨c, d, .cls { k with subclasses := [] }, s⟩
  | o => o
@[irreducible] noncomputable def bA : List Stmt := (behindTheImports pw).take 4
@[irreducible] noncomputable def bB : List Stmt := ((behindTheImports pw).drop 4).take 8
@[irreducible] noncomputable def bC : List Stmt := (((behindTheImports pw).drop 4).drop 8).take 1
@[irreducible] noncomputable def bD : List Stmt := (((behindTheImports pw).drop 4).drop 8).drop 1
theorem cut_all : behindTheImports pw = bA ++ (bB ++ (bC ++ bD)) := by unfold bA bB bC bD; rw [List.take_append_drop, List.take_append_drop, List.take_append_drop]
noncomputable abbrev p1 : Pos := ⟨17, 0, 17, 10⟩
noncomputable abbrev p2 : Pos := ⟨44, 0, 213, 17⟩
noncomputable abbrev p3 : Pos := ⟨214, 0, 418, 17⟩
noncomputable abbrev p4 : Pos := ⟨850, 0, 857, 77⟩
noncomputable def lsO (P : Params) (lines tb hb : Nat) : List (Nat × Obj) := (0, ob0 P) :: (1, ob1 P) :: (4, { cls := .type "module", dict := some 0 }) :: (35, ob35 lines) :: (36, ob36) :: ((tabs.take tb).map fun a => (a, tabObj #[])) ++ (Mine.hd.heap_1 P).take hb
@[irreducible] noncomputable def M1 (w : World) (f : Nat → Obj) : SharedT := sharedOf f ((2, cut2 w.params 13) :: (3, cut3 w.params 14 (vs "cpy313.locale" 331)) :: lsO w.params 2 3 14) 57 383
@[irreducible] noncomputable def M2 (w : World) (f : Nat → Obj) : SharedT := sharedOf f ((3, cut3 w.params 21 (vs "io" 383)) :: (127, cut127 w.params) :: lsO w.params 9 39 210) 360 753
@[irreducible] noncomputable def M3 (w : World) (f : Nat → Obj) : SharedT := sharedOf f ((3, cut3 w.params 22 (vs "io" 383)) :: lsO w.params 10 71 385) 607 1040
@[irreducible] noncomputable def M4 (w : World) (f : Nat → Obj) : SharedT := sharedOf f (lsO w.params 32 103 544) 839 1370
noncomputable def getR (r : Option (Flow × SharedT × Code × Pos)) (a : Nat) : Obj := match r with
  | some (_, s, _, _) => (s.tree.get a).getD o0
  | none => o0
@[irreducible] noncomputable def seg (w : World) (k : Nat) (b : List Stmt) (q : Pos) (s : SharedT) : Option (Flow × SharedT × Code × Pos) := PySem.W.Fast.tw10110043849684766642 tbQ pw w 34 annT 1 k s (piecesOf b envT cT q [topFrame p0])
@[irreducible] noncomputable def runA (w : World) : Option (Flow × SharedT × Code × Pos) := seg w 200 bA (pb w) (sbT w)
@[irreducible] noncomputable def runB (w : World) (f : Nat → Obj) : Option (Flow × SharedT × Code × Pos) := seg w 2400 bB p1 (M1 w f)
@[irreducible] noncomputable def runC (w : World) (f : Nat → Obj) : Option (Flow × SharedT × Code × Pos) := seg w 1700 bC p2 (M2 w f)
@[irreducible] noncomputable def runD (w : World) (f : Nat → Obj) : Option (Flow × SharedT × Code × Pos) := seg w 1500 bD p3 (M3 w f)
@[irreducible] noncomputable def finR (w : World) (f : Nat → Obj) : Option Shared := PySem.W.Fast.tw14082659384304107361 tbQ pw w 34 annT 9 (M4 w f).abs ⟨doneF .next, cT, p4, [topFrame p0]⟩
@[irreducible] noncomputable def s1F (w : World) (f : Nat → Obj) : Shared := (finR w f).getD dS
noncomputable abbrev XtM : Shared → Bool := fun s => xlAt Mine.qv [] s && recOk (RowW.records PySem.Challenge.rw_oy0383_01.row.toRowW) s
theorem stA (w : World) : ((PySem.W.Fast.tw10274390034422433532 tbQ (opening pw) w NN (start (opening pw)).1 (start (opening pw)).2).bind (fenceModules? pw)) = some (s0 w) ∧ preR w = some (sa w, ⟨PySem.W.Fast.tw11892475500146522536 tbQ cT, cT, p0, [topFrame p0]⟩) ∧ blkR w = some (.next, (sbT w).abs, cT, pb w) ∧ ((s0 w).heap.isNs mainGlobals && (s0 w).gens.size == 0, (s0 w).heap.objs.size, (s0 w).heap.nsMap mainGlobals "__annotations__") = (true, 34, annT) ∧ runA w = some (.next, M1 w (getR (runA w)), cT, p1) :=
  ⟨by kernel_rfl, by kernel_rfl, by kernel_rfl, by kernel_rfl, by kernel_rfl⟩
theorem stB (w : World) (f : Nat → Obj) : runB w f = some (.next, M2 w (getR (runB w f)), cT, p2) := by kernel_rfl
theorem stC (w : World) (f : Nat → Obj) : runC w f = some (.next, M3 w (getR (runC w f)), cT, p3) := by kernel_rfl
theorem stD (w : World) (f : Nat → Obj) : runD w f = some (.next, M4 w (getR (runD w f)), cT, p4) := by kernel_rfl
theorem stE (w : World) (f : Nat → Obj) : finR w f = some (s1F w f) ∧ (staticsOk (importedModules pw.main.body) (s0 w).heap (s1F w f).heap && namesBound pw (s1F w f).heap && gensDone (s1F w f) && laidKept (s0 w).heap (s1F w f).heap) = true ∧ PySem.W.Fast.tw4187177175401517315 qv lv (importedModules pw.main.body) XtM true (s1F w f) = openGood qv lv ∧ (M4 w f).tree.get 753 = some (tabObj #[]) ∧ ((Mine.hd.heap_1 w.params).map fun p => (M4 w f).tree.get p.1) = ((Mine.hd.heap_1 w.params).map fun p => some p.2) ∧ (s1F w f).heap = absHeap (M4 w f).tree 839 {} :=
  ⟨by kernel_rfl, by kernel_rfl, by kernel_rfl, by kernel_rfl, by kernel_rfl, by kernel_rfl⟩
theorem run_at {w : World} {k : Nat} {b : List Stmt} {q : Pos} {s : SharedT} {x r : Option (Flow × SharedT × Code × Pos)} (e : x = seg w k b q s) (h : x = r) : segRunT treeTable pw w 34 annT 1 k s (piecesOf b envT cT q [topFrame p0]) = r := by
  rw [PySem.W.Fast.te10110043849684766642, tb_eq]
  unfold seg at e
  exact e.symm.trans h
noncomputable def G (w : World) : Nat → Obj := getR (runD w (getR (runC w (getR (runB w (getR (runA w)))))))
@[irreducible] noncomputable def s1 (w : World) : Shared := s1F w (G w)
theorem top_run (w : World) : topRun treeTable pw w 34 annT (12 + (60 + (200 + (2400 + (1700 + (1500 + 9)))))) (s0 w) (topStub pw) = some (s1 w) := by
  obtain ⟨_, h2, h3, _, hA⟩ := stA w
  have e2 : topGo treeTable pw w 34 annT 12 (s0 w) (topStub pw) = some (sa w, ⟨denote treeTable cT, cT, p0, [topFrame p0]⟩) := by
    rw [PySem.W.Fast.te15667345088766844465, PySem.W.Fast.te11892475500146522536, tb_eq]; unfold preR at h2; exact h2
  have e3 : segRun treeTable pw w 34 annT 1 60 (sa w) (blockOf (behindTheImports pw) envT cT p0 [topFrame p0]) = some (.next, (sbT w).abs, cT, pb w) := by
    rw [PySem.W.Fast.te14374325043358763698, tb_eq]; unfold blkR at h3; exact h3
  have e5 : topRun treeTable pw w 34 annT 9 (M4 w (G w)).abs ⟨doneF .next, cT, p4, [topFrame p0]⟩ = some (s1 w) := by
    rw [PySem.W.Fast.te14082659384304107361, tb_eq]; have := (stE w (G w)).1; unfold finR at this; unfold s1; exact this
  refine go_top e2 (piece_block e3 ?_)
  have z := piece_app (segRun_of (run_at (by unfold runA; rfl) hA)) (piece_app (segRun_of (run_at (by unfold runB; rfl) (stB w _))) (piece_app (segRun_of (run_at (by unfold runC; rfl) (stC w _))) (piece_app (l := bD) (rest := []) (segRun_of (run_at (by unfold runD; rfl) (stD w _))) (piece_nil e5))))
  rw [List.append_nil, ← cut_all] at z
  exact z
theorem nn_eq : 12 + (60 + (200 + (2400 + (1700 + (1500 + 9))))) + (NN - (12 + (60 + (200 + (2400 + (1700 + (1500 + 9))))))) = NN := by unfold NN; rfl
theorem top_gen {p : Program} {w : World} {N m : Nat} {ann : Option Value} {a b : Shared} (z : (a.heap.isNs mainGlobals && a.gens.size == 0, a.heap.objs.size, a.heap.nsMap mainGlobals "__annotations__") = (true, m, ann))
    (r : topRun treeTable p w m ann N a (topStub p) = some b) (l : (staticsOk (importedModules p.main.body) a.heap b.heap && namesBound p b.heap && gensDone b && laidKept a.heap b.heap) = true) : topFrom treeTable p w N a = some b := by
  obtain ⟨z1, z2, z3⟩ : _ ∧ _ ∧ _ := by simpa only [Prod.mk.injEq] using z
  unfold topFrom
  rw [z1, z2, z3, r]
  show (match staticsOk (importedModules p.main.body) a.heap b.heap && namesBound p b.heap && gensDone b && laidKept a.heap b.heap with | true => _ | false => _) = _
  rw [l]
theorem mono_gen {p : Program} {w : World} {n M N : Nat} {ann : Option Value} {s r : Shared} {t : Thread} (h : topRun treeTable p w n ann M s t = some r) (e : M + (N - M) = N) : topRun treeTable p w n ann N s t = some r := by
  have := topRun_mono (N - M) _ _ _ _ h
  rw [e] at this
  exact this
theorem left_gen {p q : Program} {loose : List Str} {Xt : Shared → Bool} {α : Type} {Yf : Shared → α} {Ya : World → α} {N : Nat} {a b : World → Shared} (h1 : ∀ w, fencedOpening treeTable p w N = some (a w)) (h2 : ∀ w, topFrom treeTable p w N (a w) = some (b w))
    (L : ∀ w, openSeen q loose (importedModules p.main.body) Xt true (b w) = openGood q loose) (Y : ∀ w, Yf (b w) = Ya w) : LeftO p q loose Xt Yf Ya N := fun w => by
  unfold openEnds
  rw [h1 w]
  show (topFrom treeTable p w N (a w)).map _ = _
  rw [h2 w]
  exact congrArg some (Prod.ext (L w) (Y w))
theorem seen_eq {q : Program} {loose mods : List Str} {Xt : Shared → Bool} {s : Shared} {r} (h : PySem.W.Fast.tw4187177175401517315 q loose mods Xt true s = r) : openSeen q loose mods Xt true s = r := by
  rw [PySem.W.Fast.te4187177175401517315]; exact h
theorem all_e1 (w : World) : fencedOpening treeTable pw w NN = some (s0 w) := by
  unfold fencedOpening; rw [PySem.W.Fast.te10274390034422433532, tb_eq]; exact (stA w).1
theorem all_top (w : World) : topFrom treeTable pw w NN (s0 w) = some (s1 w) := top_gen (stA w).2.2.2.1 (mono_gen (top_run w) nn_eq) (by unfold s1; exact (stE w (G w)).2.1)
theorem look1 : PySem.W.Fast.tw11788848310118352699 pw.main = true := by kernel_rfl
theorem look2 : ((PySem.W.Fast.tw9807087744658564304 pw.main.body).isEmpty || PySem.W.Fast.tw12862048085361865435 (PySem.W.Fast.tw9807087744658564304 pw.main.body) pw.main.body) = true := by kernel_rfl
theorem look3 : PySem.W.Fast.tw8377067652309620493 pw = true := by kernel_rfl
theorem nb1 : PySem.W.Fast.tw13343964577679436407 pw pw.main.body { cps := { toList := [118, 97, 114, 115] } } = false := by kernel_rfl
theorem nb2 : PySem.W.Fast.tw13343964577679436407 pw pw.main.body { cps := { toList := [100, 105, 114] } } = false := by kernel_rfl
theorem nb3 : PySem.W.Fast.tw13343964577679436407 pw pw.main.body { cps := { toList := [108, 111, 99, 97, 108, 115] } } = false := by kernel_rfl
theorem strictN : (!R.allR (PySem.W.Fast.tw5923862056798008813 pw.main.body) (PySem.W.Fast.tw3471404346716756564 PySem.W.Fast.tw17691160309236699985)) = false := by kernel_rfl
theorem filt3 {α : Type} {f : α → Bool} {a b c : α} (ha : f a = false) (hb : f b = false) (hc : f c = false) : R.filterR f [a, b, c] = [] := by
  rw [← R.filterR_eq, List.filter_cons_of_neg (by rw [ha]; exact Bool.noConfusion), List.filter_cons_of_neg (by rw [hb]; exact Bool.noConfusion), List.filter_cons_of_neg (by rw [hc]; exact Bool.noConfusion), List.filter_nil]
theorem road0 : PySem.W.Fast.tw8326940854005059898 { strict := false, foot := none, bare := [] } pw.main.body = true := by kernel_rfl
theorem look5 : PySem.W.Fast.tw8326940854005059898 { strict := !R.allR (PySem.W.Fast.tw5923862056798008813 pw.main.body) (PySem.W.Fast.tw3471404346716756564 PySem.W.Fast.tw17691160309236699985), foot := none, bare := R.filterR (PySem.W.Fast.tw13343964577679436407 pw pw.main.body) [{ cps := { toList := [118, 97, 114, 115] } }, { cps := { toList := [100, 105, 114] } }, { cps := { toList := [108, 111, 99, 97, 108, 115] } }] } pw.main.body = true := by
  rw [strictN, filt3 nb1 nb2 nb3]
  exact road0
theorem look6 : (PySem.W.Fast.tw17119622794617984870 pw pw.main.body fun _ n => PySem.W.Fast.tw17868728402115742887 n) = true := by kernel_rfl
theorem and_tt {a b : Bool} (x : a = true) (y : b = true) : (a && b) = true := by rw [x, y]; rfl
theorem looks : PySem.W.Fast.tw12908688711261696721 pw = true := by
  unfold PySem.W.Fast.tw12908688711261696721
  exact and_tt (and_tt (and_tt (and_tt (and_tt look1 look2) look3) (by kernel_rfl)) look5) look6
theorem wellSaid_pf : OpenLaw.wellSaid PySem.Challenge.rw_oy0383_01 = true := by
  rw [PySem.W.Fast.te9446332074065402090]
  unfold PySem.W.Fast.tw9446332074065402090
  simp only [Bool.and_eq_true]
  and_intros
  · unfold PySem.W.Fast.tw17960256430627541270 PySem.W.Fast.tw2436336058641802641
    simp only [Bool.and_eq_true]
    and_intros
    · exact looks
    all_goals kernel_rfl
  all_goals kernel_rfl
noncomputable def lowB (p : Addr × Obj) : Bool := Nat.blt p.1 839 && match p.2 with
  | ⟨_, _, .freed, _⟩ => false
  | _ => true
theorem headL (P : Params) : (Mine.hd.heap_1 P).all lowB = true := by kernel_rfl
theorem alive_of {o : Obj} (h : (match o with | ⟨_, _, .freed, _⟩ => false | _ => true) = true) : alive o = some o := by
  obtain ⟨c, d, dt, sl⟩ := o
  cases dt <;> first | rfl | cases h
theorem mem_of_lookup' {K : Frag} {a : Addr} {o : Obj} (h : K.lookup a = some o) : (a, o) ∈ K := by
  induction K with
  | nil => cases h
  | cons p K ih =>
    obtain ⟨b, q⟩ := p
    rw [List.lookup_cons] at h
    split at h
    · rename_i e
      injection h with h
      rw [h, eq_of_beq e]
      exact .head _
    · exact .tail _ (ih h)
theorem head_in (w : World) : (Mine.hd.heap_1 w.params).In (s1 w).heap ∧ (s1 w).heap.get? 753 = some (tabObj #[]) := by
  obtain ⟨_, _, _, ht, hk, hc⟩ := stE w (G w)
  unfold s1
  rw [hc]
  refine ⟨fun a o e => ?_, ?_⟩
  · have hm := mem_of_lookup' e
    have h1 := List.map_inj_left.mp hk _ hm
    have h2 := List.all_eq_true.mp (headL w.params) _ hm
    unfold lowB at h2
    rw [Bool.and_eq_true] at h2
    have h3 : a < 839 := Nat.le_of_ble_eq_true h2.1
    rw [abs_get h3 h1]
    exact alive_of h2.2
  · rw [abs_get (by decide) ht]
    rfl
noncomputable def hookM : Hook := ⟨Heap, fun s => s.heap, fun w => (s1 w).heap, fun w h => (Mine.hd.heap_1 w.params).In h ∧ h.get? 753 = some (tabObj #[]), fun w s e => by
  rw [show s.heap = (s1 w).heap from e]
  exact head_in w, fun _ _ _ x k => ⟨x.1.keeps k, k _ _ x.2⟩⟩
theorem hd_gen {d : DefRec} {kwd : List (PySem.Str × PySem.Expr)} (h1 : defOf Mine.qv PySem.Challenge.rw_oy0383_01.row.name = some (d, kwd)) (h2 : PySem.Challenge.rw_oy0383_01.row.prog.theDef PySem.Challenge.rw_oy0383_01.row.name = some (d.params, d.body, d.scope))
    (h3 : kwWritten? d.params.kwonlyargs d.params.kw_defaults = some kwd) (said : PySem.Challenge.rw_oy0383_01.row.wellSaid = true) (hw : PySem.Challenge.rw_oy0383_01.row.promised)
    (z : WalkO Mine.qv Mine.lv (XL Mine.qv []) hookM.says PySem.Challenge.rw_oy0383_01.row.toRowW d kwd fun f vs => call f vs) : PySem.Challenge.rw_oy0383_01.row.Holds :=
  holds_open (q := Mine.qv) (loose := Mine.lv) (Xt := XtM) (XP := XL Mine.qv []) (Yf := hookM.obs) (Ya := hookM.val) (YP := hookM.says) (N := Mine.NN) (left_gen (fun w => all_e1 w) (fun w => all_top w) (fun w => by unfold s1; exact seen_eq (stE w (G w)).2.2.1) (fun _ => rfl)) hookM.of hookM.keeps
    (fun s e => xl_of s (Bool.and_eq_true_iff.mp e).1) XL.keeps h1 h2 h3 (fun s e => recFacts_of (Bool.and_eq_true_iff.mp e).2) (by rfl) said (by decide +kernel) ⟨rfl, rfl, rfl, rfl, rfl, by decide +kernel⟩ hw z
end
-- MBase
section
set_option maxHeartbeats 4000000
open PySem PySem.W PyProof.Rows PySem.Calls
noncomputable abbrev loose : List Str := looseW qv lv
noncomputable abbrev MM (w : World) : Model := model PySem.Challenge.pw_oy0383_01 w
noncomputable abbrev cal (nms : List (Str × NameKind)) : Scope := { kind := .function, names := nms, isGenerator := false, isCoroutine := false }
noncomputable abbrev AT (n : Nat) (gd : Option (List Code)) (fr : Option (List Env)) : Around := { handled := none, depth := n, frames := fr, guards := gd, units := 8 * n }
theorem to_AT (n : Nat) {α : Type} {M : Model} {A : Around} {t : Sem α} {Q : α → Shared → Prop} {E : Value → Shared → Prop} {s : Shared} {fr : Option (List Env)} (h1 : A.handled = none) (h2 : A.depth ≤ n) (h3 : A.units ≤ 8 * n) (hf : A.frames = fr)
    (h : wpAny M (AT n A.guards fr) t Q E s) : wpAny M A t Q E s := by
  subst hf
  exact fun Γ p hΓ => h Γ p ⟨hΓ.1.trans h1, Nat.le_trans hΓ.2.1 h2, hΓ.2.2.1, hΓ.2.2.2.1, Nat.le_trans hΓ.2.2.2.2 h3⟩
noncomputable def Lvl (A : Around) (n k : Nat) : Prop := A.handled = none ∧ A.depth ≤ n ∧ A.units + k ≤ 8 * n
theorem lvO {A : Around} {n k : Nat} (h1 : A.handled = none) (h2 : Nat.ble A.depth n = true) (h3 : Nat.ble (A.units + k) (8 * n) = true) : Lvl A n k := ⟨h1, Nat.le_of_ble_eq_true h2, Nat.le_of_ble_eq_true h3⟩
theorem news_sub {h₀ h : Heap} {L : Addr} {l l' : List (Addr × Obj)} (N : News h₀ L h l) (hs : ∀ p ∈ l', p ∈ l) : News h₀ L h l' := fun p hp => N p (hs p hp)
theorem ne_allLt {d : Nat} : ∀ {l : List (Addr × Obj)}, AllLt d l → ∀ p ∈ l, p.1 ≠ d
  | [], _, _, hp => nomatch hp
  | _ :: _, h, _, .head _ => Nat.ne_of_lt h.1
  | _ :: _, h, _, .tail _ hp => ne_allLt h.2 _ hp
theorem slice_eq {x : Str} {i j : Int} (h0 : 0 ≤ i) (h1 : i ≤ j) (h2 : j ≤ x.length) : Txt.slice x (some i) (some j) = ⟨((x.cps.toList.drop i.toNat).take (j - i).toNat).toArray⟩ := eq_of_beq (slice_closesL h0 h1 h2)
theorem slice_one {x : Str} {i j : Int} {c : Nat} (h0 : 0 ≤ i) (hc : x.cps.toList[i.toNat]? = some c) (hj : j = i + 1) : Txt.slice x (some i) (some j) = ⟨#[c]⟩ := by
  obtain ⟨hl, he⟩ := List.getElem?_eq_some_iff.mp hc
  have hl' : i.toNat < x.length := by simpa [Str.length] using hl
  rw [slice_eq h0 (by omega) (by omega)]
  have : (j - i).toNat = 1 := by omega
  rw [this, List.drop_eq_getElem_cons hl, he]
  rfl
theorem ite_no {b : Bool} {P R : Prop} (h : b = false) (x : R) : if b = true then P else R := by subst h; exact x
theorem ite_yes {b : Bool} {P R : Prop} (h : b = true) (x : P) : if b = true then P else R := by subst h; exact x
theorem ite_nno {b : Bool} {P R : Prop} (h : b = true) (x : R) : if (!b) = true then P else R := by subst h; exact x
theorem ite_nyes {b : Bool} {P R : Prop} (h : b = false) (x : P) : if (!b) = true then P else R := by subst h; exact x
theorem str_snoc {ws : List Nat} {j : Nat} {c : Nat} (hj : j < ws.length) (hc : ws[j] = c) : (⟨(ws.take j).toArray⟩ : Str) ++ (⟨#[c]⟩ : Str) = ⟨(ws.take (j + 1)).toArray⟩ := by
  show Str.append _ _ = _
  unfold Str.append
  rw [List.take_succ, List.getElem?_eq_getElem hj, hc]
  simp
noncomputable abbrev envK (ev : Env) (L : Addr) : Env := { ev with scope := { ev.scope with kind := .function }, frame := some L }
theorem envK_eq {env : Env} {L : Addr} (hf : env.frame = some L) (hk : env.scope.kind = .function) : env = envK env L := by
  obtain ⟨sc, a1, a2, a3, a4, a5, a6, fr, a8⟩ := env
  obtain ⟨k, b1, b2, b3, b4⟩ := sc
  simp only at hf hk
  subst hf hk
  rfl
theorem upd_core {d : Addr} {o o' : Obj} {nw nw' : List (Addr × Obj)} (U : Upd d o o' nw nw') : ∃ rest : List (Addr × Obj), (∀ p ∈ rest, p.1 ≠ d) ∧ (∀ p ∈ (d, o) :: rest, p ∈ nw) ∧ (∀ p ∈ nw', p ∈ (d, o') :: rest) ∧ (∀ p ∈ nw, p.1 ≠ d → p ∈ rest) := by
  obtain ⟨pre, post, rfl, rfl, h1, h2⟩ := U.split
  refine ⟨pre ++ post, fun p hp => ?_, fun p hp => ?_, fun p hp => ?_, fun p hp hn => ?_⟩
  · rcases List.mem_append.mp hp with hp | hp
    · exact h1 p hp
    · exact h2 p hp
  · rcases List.mem_cons.mp hp with rfl | hp
    · simp
    · rcases List.mem_append.mp hp with hp | hp <;> simp [hp]
  · rcases List.mem_append.mp hp with hp | hp
    · simp [hp]
    · rcases List.mem_cons.mp hp with rfl | hp <;> simp [*]
  · rcases List.mem_append.mp hp with hp | hp
    · simp [hp]
    · rcases List.mem_cons.mp hp with rfl | hp
      · exact absurd rfl hn
      · simp [hp]
theorem sub_nil {α : Type} {l : List α} : ∀ q ∈ ([] : List α), q ∈ l := fun _ h => nomatch h
theorem sub_self {α : Type} {l : List α} : ∀ q ∈ l, q ∈ l := fun _ h => h
theorem sub_cons {α : Type} {p : α} {l l' : List α} (h : p ∈ l) (hs : ∀ q ∈ l', q ∈ l) : ∀ q ∈ p :: l', q ∈ l := List.forall_mem_cons.mpr ⟨h, hs⟩
theorem sub_keep {α : Type} {a : α} {l l' : List α} (hs : ∀ q ∈ l', q ∈ l) : ∀ q ∈ a :: l', q ∈ a :: l := sub_cons (.head _) fun q h => .tail _ (hs q h)
theorem sub_tail {α : Type} {a : α} {l l' : List α} (hs : ∀ q ∈ l', q ∈ l) : ∀ q ∈ l', q ∈ a :: l := fun q h => .tail _ (hs q h)
/-- a stop of the walk -/
noncomputable def Hold (p : Prop) : Prop := p
theorem hold {p : Prop} (h : Hold p) : p := h
noncomputable def held (f : Nat) (l : List Nat) : Bool := l.contains f
noncomputable def PostQ {α : Type} (QQ : α → Shared → Prop) (a : α) (s : Shared) : Prop := QQ a s
theorem KIf.isPost {α : Type} {M : Model} {A : Around} {t : Sem α} {QQ : α → Shared → Prop} {E : Value → Shared → Prop} {s : Shared} (h : wpAny M A t (PostQ QQ) E s) : wpAny M A t (PostQ QQ) E s := h
theorem KIf.gen_post {α : Type} {M : Model} {A : Around} {t : Sem α} {Q : α → Shared → Prop} {E : Value → Shared → Prop} {s : Shared} (h : ∀ QQ : α → Shared → Prop, (∀ a s, Q a s → PostQ QQ a s) → wpAny M A t (PostQ QQ) E s) : wpAny M A t Q E s := h Q (fun _ _ x => x)
theorem KPost.post_by {α : Type} {QQ Q : α → Shared → Prop} (h : ∀ a s, Q a s → PostQ QQ a s) {a : α} {s : Shared} (x : Q a s) : PostQ QQ a s := h a s x
theorem gen_pass {M : Model} {A : Around} {b : List Stmt} {env : Env} {Q : Flow → Shared → Prop} {E : Value → Shared → Prop} {s : Shared} (hE : PassesOwn M A env E)
    (h : ∀ (QQ : Flow → Shared → Prop) (EE : Value → Shared → Prop), (∀ a s, Q a s → PostQ QQ a s) → (∀ a s, E a s → PostQ EE a s) → PassesOwn M A env (PostQ EE) → wpAny M A (execs b env) (PostQ QQ) (PostQ EE) s) : wpAny M A (execs b env) Q E s := h Q E (fun _ _ x => x) (fun _ _ x => x) hE
theorem gen_both {α : Type} {M : Model} {A : Around} {t : Sem α} {Q : α → Shared → Prop} {E : Value → Shared → Prop} {s : Shared} (h : ∀ (QQ : α → Shared → Prop) (EE : Value → Shared → Prop), (∀ a s, Q a s → PostQ QQ a s) → (∀ a s, E a s → PostQ EE a s) → wpAny M A t (PostQ QQ) (PostQ EE) s) : wpAny M A t Q E s := h Q E (fun _ _ x => x) (fun _ _ x => x)
theorem call_hold {α : Type} {M : Model} {A : Around} {t : Sem α} {Q : α → Shared → Prop} {E : Value → Shared → Prop} {s : Shared} {b : Bool} (_ : b = true) (h : Hold (wpAny M A t Q E s)) : wpAny M A t Q E s := h
theorem KExecFor.at_exec_For {p : Prop} (h : Hold p) : p := h
theorem KExecForCall.at_exec_For_Call {p : Prop} (h : Hold p) : p := h
theorem KExecForSubscript.at_exec_For_Subscript {p : Prop} (h : Hold p) : p := h
theorem KEvalListcomp.at_eval_ListComp {p : Prop} (h : Hold p) : p := h
theorem KExecAssignConsListcomp.at_exec_Assign_cons_ListComp {p : Prop} (h : Hold p) : p := h
theorem KBinaryopAddRefRef.at_binaryOp_Add_ref_ref {p : Prop} (h : Hold p) : p := h
theorem KCallTypeList.at_call_type_list {p : Prop} (h : Hold p) : p := h
theorem KCallTypeRange.at_call_type_range {p : Prop} (h : Hold p) : p := h
theorem KCallBuiltinListExtend.at_call_builtin_list_extend {p : Prop} (h : Hold p) : p := h
theorem KCallBuiltinListPop.at_call_builtin_list_pop {p : Prop} (h : Hold p) : p := h
theorem KCallBuiltinListRemove.at_call_builtin_list_remove {p : Prop} (h : Hold p) : p := h
theorem KCallBuiltinStrJoin.at_call_builtin_str_join {p : Prop} (h : Hold p) : p := h
theorem KCompareopNoteqRefRef.at_compareOp_NotEq_ref_ref {p : Prop} (h : Hold p) : p := h
theorem KCompareopNotinRefRef.at_compareOp_NotIn_ref_ref {p : Prop} (h : Hold p) : p := h
theorem KEvalGeneratorexp.at_eval_GeneratorExp {p : Prop} (h : Hold p) : p := h
theorem KExecWhile.at_exec_While {p : Prop} (h : Hold p) : p := h
theorem KExecWhileConstant.at_exec_While_Constant {p : Prop} (h : Hold p) : p := h
theorem KExecWhileName.at_exec_While_Name {p : Prop} (h : Hold p) : p := h
theorem KExecWhileCompare.at_exec_While_Compare {p : Prop} (h : Hold p) : p := h
theorem KExecWhileBoolop.at_exec_While_BoolOp {p : Prop} (h : Hold p) : p := h
theorem KKswend.at_KswEnd {p : Prop} (h : Hold p) : p := h
theorem KNoteframeRef.at_noteFrame_ref {p : Prop} (h : Hold p) : p := h
theorem KTruthyRef.at_truthy_ref {p : Prop} (h : Hold p) : p := h
theorem KSubscripttailNameNameRefInt.at_subscriptTail_Name_Name_ref_int {p : Prop} (h : Hold p) : p := h
theorem KSubscripttailNameConstantRefInt.at_subscriptTail_Name_Constant_ref_int {p : Prop} (h : Hold p) : p := h
theorem KSubscripttailNameSliceRefRef.at_subscriptTail_Name_Slice_ref_ref {p : Prop} (h : Hold p) : p := h
theorem KSubscripttailList.at_subscriptTail_List {p : Prop} (h : Hold p) : p := h
theorem KSubscripttailConstant.at_subscriptTail_Constant {p : Prop} (h : Hold p) : p := h
theorem KCallBuiltinObjectNew.at_call_builtin_object___new__ {p : Prop} (h : Hold p) : p := h
theorem KOwnmid.at_OwnMid {p : Prop} (h : Hold p) : p := h
theorem KCallTypeCollectionsDeque.at_call_type_collections_deque {p : Prop} (h : Hold p) : p := h
theorem KCallwithRef.at_callWith_ref {p : Prop} (h : Hold p) : p := h
theorem KGetmethodRef.at_getMethod_ref {p : Prop} (h : Hold p) : p := h
theorem KCallBuiltinListAppend.at_call_builtin_list_append {p : Prop} (h : Hold p) : p := h
theorem KCallBuiltinLen.at_call_builtin_len {p : Prop} (h : Hold p) : p := h
theorem KWhlif.at_WhlIf {p : Prop} (h : Hold p) : p := h
theorem ite_a {b : Bool} {P R : Prop} (x : R) (h : b = false := by assumption) : if b = true then P else R := ite_no h x
theorem ite_b {b : Bool} {P R : Prop} (x : P) (h : b = true := by assumption) : if b = true then P else R := ite_yes h x
theorem ite_c {b : Bool} {P R : Prop} (x : R) (h : b = true := by assumption) : if (!b) = true then P else R := ite_nno h x
theorem ite_d {b : Bool} {P R : Prop} (x : P) (h : b = false := by assumption) : if (!b) = true then P else R := ite_nyes h x
theorem ite_e {b : Bool} {P R : Prop} (x : P) (h : b = true := by kernel_rfl!) : if b = true then P else R := ite_yes h x
theorem ite_f {b : Bool} {P R : Prop} (x : R) (h : b = false := by kernel_rfl!) : if b = true then P else R := ite_no h x
section
variable {prog : Program} {w : World} {A : Around} {E : Value → Shared → Prop} {s : Shared} {h₀ : Heap} {L l : Addr} {m : Str → Option Value} {news : List (Addr × Obj)} {its : Array Value} {vs : List Value} {ns : List Int} {vl vu vk : Value} {lo hi : Option Int} {value : Expr} {a b c : Option Expr} {pos : Pos} {Q : Value → Shared → Prop}
theorem KSlice.slice_up (h : ∀ D, (∀ p ∈ news, p.1 < D) → ∀ h', Fr h₀ L h' m → News h₀ L h' ((D, listOf (kms_pick its.toList lo hi).toArray 0) :: news) → Q (.ref D) { s with heap := h' })
    (F : Fr h₀ L s.heap m := by k_asm) (N : News h₀ L s.heap news := by k_asm) (hl : s.heap.IsList l its := by kmk_list) (pl : IsPart vl lo := by kmk_part) (pu : IsPart vu hi := by kmk_part)
    (hs : subscripted (.Slice a b none pos) false (.ref l) (.ref s.heap.objs.size) = operate [.ref s.heap.objs.size, .ref l] (getItem (.ref l) (.ref s.heap.objs.size)) := by with_unfolding_all rfl) (ht : ∀ r, letTemporaryGo value (.ref l) r = pure () := by kmk_pure) (hz : its.size ≤ sizeLine := by assumption) :
    wpAny (model prog w) A (subscriptTail value (.Slice a b none pos) (.ref l) (.ref s.heap.objs.size)) Q E { s with heap := s.heap.push { cls := .type "slice", data := .fields #[vl, vu, .none] } } :=
  kms_slice_lit F N hl pl pu rfl (fun D h' F' N' l1 => h D l1 h' F' N') hs ht hz
theorem KSlice.slice_back (h : ∀ D, (∀ p ∈ news, p.1 < D) → ∀ ws h', Fr h₀ L h' m → News h₀ L h' ((D, listOf (List.toArray ws) 0) :: news) → IntsAre ws ns.reverse → ns.reverse.length = ns.length → Q (.ref D) { s with heap := h' })
    (F : Fr h₀ L s.heap m := by k_asm) (N : News h₀ L s.heap news := by k_asm) (hl : s.heap.IsList l vs.toArray := by kmk_list) (pk : IsPart vk (some (-1)) := by exact IsPart.int _ _) (hi : IntsAre vs ns := by assumption)
    (hs : subscripted (.Slice none none c pos) false (.ref l) (.ref s.heap.objs.size) = operate [.ref s.heap.objs.size, .ref l] (getItem (.ref l) (.ref s.heap.objs.size)) := by with_unfolding_all rfl) (ht : ∀ r, letTemporaryGo value (.ref l) r = pure () := by kmk_pure) (hz : vs.toArray.size ≤ sizeLine := by assumption) :
    wpAny (model prog w) A (subscriptTail value (.Slice none none c pos) (.ref l) (.ref s.heap.objs.size)) Q E { s with heap := s.heap.push { cls := .type "slice", data := .fields #[.none, .none, vk] } } :=
  krv_ints F N hl pk hi (fun D ws h' F' N' l1 => h D l1 ws h' F' N') hs ht hz
end
theorem KSlice.sliceOn {p : Prop} (h : p) : p := h
theorem KWhlrest.at_WhlRest {p : Prop} (h : Hold p) : p := h
end
local macro_rules | `(tactic| walk_at $s) => if ["exec For", "exec For Call", "exec For Subscript", "eval ListComp", "exec Assign cons ListComp", "binaryOp Add ref ref", "call type:list", "call type:range", "call builtin:list.extend", "call builtin:list.pop", "call builtin:list.remove", "call builtin:str.join", "compareOp NotEq ref ref", "compareOp NotIn ref ref", "eval GeneratorExp", "exec While", "exec If BoolOp", "exec While Constant", "exec While Name", "exec While Compare", "exec While BoolOp", "KswEnd", "noteFrame ref", "truthy ref", "subscriptTail Name Name ref int", "subscriptTail Name Constant ref int", "subscriptTail Name Slice ref ref", "subscriptTail List", "subscriptTail Constant", "call builtin:object.__new__", "OwnMid", "call type:collections.deque", "callWith ref", "getMethod ref", "call builtin:list.append", "call builtin:len", "WhlIf", "WhlRest"].contains s.getString then `(tactic| apply $(Lean.mkIdent (.mkSimple ("at_" ++ s.getString.map fun c => if c.isAlphanum then c else '_')))) else Lean.Macro.throwUnsupported
local macro_rules | `(tactic| walk_at "call ref") => `(tactic| (apply $(Lean.mkIdent `callHeld); kernel_rfl!))
local macro_rules | `(tactic| k_all) => `(tactic| first | assumption | (apply $(Lean.mkIdent `allNe_upA) <;> first | assumption | omega))
local macro_rules | `(tactic| walk_at "ite") => `(tactic| with_reducible first | refine ite_a ?_ | refine ite_b ?_ | refine ite_c ?_ | refine ite_d ?_ | (refine $(Lean.mkIdent `iteK) ?_; first | refine ite_e ?_ | refine ite_f ?_))
local macro_rules | `(tactic| walk_at "exec If") => `(tactic| ((fail_if_success (with_reducible refine $(Lean.mkIdent `isPost) ?_)); (with_reducible refine $(Lean.mkIdent `gen_post) ?_); intro _ _))
local macro_rules | `(tactic| walk_at "PostQ") => `(tactic| (refine $(Lean.mkIdent `post_by) ‹_› ?_; (try dsimp only)))
local macro_rules | `(tactic| walk_at $s) => if s.getString.startsWith "subscriptTail Name " && s.getString.endsWith "ref int" then `(tactic| ((try dsimp only); (k_dflt first | refine' $(Lean.mkIdent `item_nw) ?_ | refine' $(Lean.mkIdent `item_last) ?_); intro _; (try dsimp only))) else Lean.Macro.throwUnsupported
local macro_rules | `(tactic| walk_at "subscriptTail Name Slice ref ref") => `(tactic| ((with_reducible refine $(Lean.mkIdent `sliceOn) ?_); k_here; (k_dflt first | refine' $(Lean.mkIdent `slice_up) ?_ | refine' $(Lean.mkIdent `slice_back) ?_); intro _ l1; (try k_lt l1); intros; (try k_sweep)))
-- CRead
section
set_option maxHeartbeats 4000000
open PySem PySem.W PyProof.Rows PySem.Calls
noncomputable abbrev siodT (h : Nat → Int) (t : Nat → Tok) (tp : Tok) (buf : Str) (pos : Int) : List DictEntry := [⟨h 1, .str "_StringIO__newline" (t 1), .str "\n" (t 2)⟩, ⟨h 2, .str "_StringIO__buf" (t 3), .str buf (t 4)⟩, ⟨h 3, .str "_StringIO__pos" (t 5), .int pos tp⟩]
open KPost in
theorem read_core (w : World) (gd : Option (List Code)) (ev : Env) (outer : List Env) (A₀ : Around) (base h₀ : Heap) (L : Addr) (m mg mb : Str → Option Value) (mean : ExcName → Option Value) (s : Shared)
    (Q E : Value → Shared → Prop) (B : Below A₀ base outer h₀) (F : Fr h₀ L s.heap m) (X : (Mine.hd.heap_1 w.params).In h₀) (T : Top Mine.qv loose mean mg mb h₀)
    (io dio : Nat) (hh : Nat → Int) (tt : Nat → Tok) (tp tk : Tok) (buf : Str) (pos : Int) (c : Nat) (rest : List (Addr × Obj)) (hrest : ∀ p ∈ rest, p.1 ≠ dio)
    (N : News h₀ L s.heap ((io, instObj 604 dio) :: (dio, dictOf (siodT hh tt tp buf pos) 3) :: rest))
    (hdx : dio < io) (hp : 0 ≤ pos) (hb : buf.length ≤ 1048576) (hc : buf.cps.toList[pos.toNat]? = some c) (hpl : pos < buf.length)
    (hret : ∀ h' tk' t' tp', Fr h₀ L h' m → News h₀ L h' ((io, instObj 604 dio) :: (dio, dictOf (siodT hh tt tp' buf (pos + 1)) 3) :: rest) → Q (.str ⟨#[c]⟩ t') { s with heap := h', toks := tk' }) :
    wpAny (MM w) (AT 600 gd (some (envK ev L :: outer))) (call (.ref 550) [.ref io, .int 1 tk]) Q E s := by
  walk1
  (try dsimp only)
  refine gen_pass (by first | passes_own | with_unfolding_all passes_own) ?_
  intro QQ EE hQQ hEE hpo
  k_steps
  · rw [slice_one hp hc rfl]
    exact hret _ _ _ _ (by assumption) (by assumption)
  · have e : (buf.length : Int) = pos + 1 := by omega
    rw [slice_one hp hc e]
    exact hret _ _ _ _ (by assumption) (by rw [← e]; assumption)
open KPost in
theorem read_core0 (w : World) (gd : Option (List Code)) (ev : Env) (outer : List Env) (A₀ : Around) (base h₀ : Heap) (L : Addr) (m mg mb : Str → Option Value) (mean : ExcName → Option Value) (s : Shared)
    (Q E : Value → Shared → Prop) (B : Below A₀ base outer h₀) (F : Fr h₀ L s.heap m) (X : (Mine.hd.heap_1 w.params).In h₀) (T : Top Mine.qv loose mean mg mb h₀)
    (io dio : Nat) (hh : Nat → Int) (tt : Nat → Tok) (tp tk : Tok) (buf : Str) (pos : Int) (rest : List (Addr × Obj)) (hrest : ∀ p ∈ rest, p.1 ≠ dio)
    (N : News h₀ L s.heap ((io, instObj 604 dio) :: (dio, dictOf (siodT hh tt tp buf pos) 3) :: rest))
    (hdx : dio < io) (hp : 0 ≤ pos) (hb : buf.length ≤ 1048576) (hpl : (buf.length : Int) ≤ pos)
    (hret : ∀ h' tk' t', Fr h₀ L h' m → News h₀ L h' ((io, instObj 604 dio) :: (dio, dictOf (siodT hh tt tp buf pos) 3) :: rest) → Q (.str "" t') { s with heap := h', toks := tk' }) :
    wpAny (MM w) (AT 600 gd (some (envK ev L :: outer))) (call (.ref 550) [.ref io, .int 1 tk]) Q E s := by
  walk1
  (try dsimp only)
  refine gen_pass (by first | passes_own | with_unfolding_all passes_own) ?_
  intro QQ EE hQQ hEE hpo
  k_steps
  all_goals exact hret _ _ _ (by assumption) (by assumption)
/-- one sign is read -/
theorem read_use {w : World} {A : Around} {env : Env} {outer : List Env} {A₀ : Around} {base h₀ : Heap} {L : Addr} {m mg mb : Str → Option Value} {mean : ExcName → Option Value} {s : Shared} {Q E : Value → Shared → Prop}
    {io dio : Nat} {hh : Nat → Int} {tt : Nat → Tok} {tp tk : Tok} {buf : Str} {pos : Int} {nw : List (Addr × Obj)} (c : Nat)
    (hA : A.frames = some (env :: outer)) (hf : env.frame = some L) (hk : env.scope.kind = .function) (B : Below A₀ base outer h₀) (F : Fr h₀ L s.heap m) (X : (Mine.hd.heap_1 w.params).In h₀) (T : Top Mine.qv loose mean mg mb h₀)
    (N : News h₀ L s.heap nw) (m1 : (io, instObj 604 dio) ∈ nw) (m2 : (dio, dictOf (siodT hh tt tp buf pos) 3) ∈ nw) (hdx : dio < io) (hp : 0 ≤ pos) (hb : buf.length ≤ 1048576) (hc : buf.cps.toList[pos.toNat]? = some c)
    (hret : ∀ h' tk' t' tp', Fr h₀ L h' m → (∀ nw', Upd dio (dictOf (siodT hh tt tp buf pos) 3) (dictOf (siodT hh tt tp' buf (pos + 1)) 3) nw nw' → News h₀ L h' nw') → Q (.str ⟨#[c]⟩ t') { s with heap := h', toks := tk' })
    (lvl : Lvl A 600 0) :
    wpAny (MM w) A (call (.ref 550) [.ref io, .int 1 tk]) Q E s := by
  have hpl : pos < buf.length := by
    obtain ⟨hl, _⟩ := List.getElem?_eq_some_iff.mp hc
    have : pos.toNat < buf.length := by simpa [Str.length] using hl
    omega
  rw [envK_eq hf hk] at hA
  refine to_AT 600 lvl.1 lvl.2.1 lvl.2.2 hA ?_
  let rest := nw.filter fun p => !decide (p.1 = dio)
  have h1 : ∀ p ∈ rest, p.1 ≠ dio := fun p hp => by simpa using (List.mem_filter.mp hp).2
  have h2 : ∀ p ∈ (io, instObj 604 dio) :: (dio, dictOf (siodT hh tt tp buf pos) 3) :: rest, p ∈ nw := fun p hp => by
    rcases List.mem_cons.mp hp with rfl | hp
    · exact m1
    · rcases List.mem_cons.mp hp with rfl | hp
      · exact m2
      · exact (List.mem_filter.mp hp).1
  refine read_core w _ _ _ _ _ _ _ _ _ _ _ _ _ _ B F X T io dio hh tt tp tk buf pos c rest h1 (news_sub N h2) hdx hp hb hc hpl fun h' tk' t' tp' F' N' => hret h' tk' t' tp' F' fun nw' U => news_sub N' fun p hp => ?_
  obtain ⟨pre, post, e1, e2, a1, a2⟩ := U.split
  subst e1 e2
  refine List.mem_cons_of_mem _ ?_
  rcases List.mem_append.mp hp with hp | hp
  · exact List.mem_cons_of_mem _ (List.mem_filter.mpr ⟨List.mem_append_left _ hp, by simpa using a1 p hp⟩)
  · rcases List.mem_cons.mp hp with rfl | hp
    · exact .head _
    · exact List.mem_cons_of_mem _ (List.mem_filter.mpr ⟨List.mem_append_right _ (.tail _ hp), by simpa using a2 p hp⟩)
/-- nothing is left to read -/
theorem read_use0 {w : World} {A : Around} {env : Env} {outer : List Env} {A₀ : Around} {base h₀ : Heap} {L : Addr} {m mg mb : Str → Option Value} {mean : ExcName → Option Value} {s : Shared} {Q E : Value → Shared → Prop}
    {io dio : Nat} {hh : Nat → Int} {tt : Nat → Tok} {tp tk : Tok} {buf : Str} {pos : Int} {nw : List (Addr × Obj)}
    (hA : A.frames = some (env :: outer)) (hf : env.frame = some L) (hk : env.scope.kind = .function) (B : Below A₀ base outer h₀) (F : Fr h₀ L s.heap m) (X : (Mine.hd.heap_1 w.params).In h₀) (T : Top Mine.qv loose mean mg mb h₀)
    (N : News h₀ L s.heap nw) (m1 : (io, instObj 604 dio) ∈ nw) (m2 : (dio, dictOf (siodT hh tt tp buf pos) 3) ∈ nw) (U : Upd dio (dictOf (siodT hh tt tp buf pos) 3) (dictOf (siodT hh tt tp buf pos) 3) nw nw) (hdx : dio < io) (hp : 0 ≤ pos) (hb : buf.length ≤ 1048576) (hc : (buf.length : Int) ≤ pos)
    (hret : ∀ h' tk' t', Fr h₀ L h' m → News h₀ L h' nw → Q (.str "" t') { s with heap := h', toks := tk' })
    (lvl : Lvl A 600 0) :
    wpAny (MM w) A (call (.ref 550) [.ref io, .int 1 tk]) Q E s := by
  have hnd : ∀ p ∈ nw, p.1 = dio → p = (dio, dictOf (siodT hh tt tp buf pos) 3) := fun p hp hq => by
    obtain ⟨pre, post, e1, _, a1, a2⟩ := U.split
    rw [e1] at hp
    rcases List.mem_append.mp hp with hp | hp
    · exact absurd hq (a1 p hp)
    · rcases List.mem_cons.mp hp with rfl | hp
      · rfl
      · exact absurd hq (a2 p hp)
  rw [envK_eq hf hk] at hA
  refine to_AT 600 lvl.1 lvl.2.1 lvl.2.2 hA ?_
  have h2 : ∀ p ∈ (io, instObj 604 dio) :: (dio, dictOf (siodT hh tt tp buf pos) 3) :: nw.filter (fun p => !decide (p.1 = dio)), p ∈ nw := fun p hp => by
    rcases List.mem_cons.mp hp with rfl | hp
    · exact m1
    · rcases List.mem_cons.mp hp with rfl | hp
      · exact m2
      · exact (List.mem_filter.mp hp).1
  refine read_core0 w _ _ _ _ _ _ _ _ _ _ _ _ _ _ B F X T io dio hh tt tp tk buf pos _ (fun p hp => by simpa using (List.mem_filter.mp hp).2) (news_sub N h2) hdx hp hb hc fun h' tk' t' F' N' => hret h' tk' t' F' (news_sub N' fun p hp => ?_)
  by_cases hq : p.1 = dio
  · rw [hnd p hp hq]; exact .tail _ (.head _)
  · exact .tail _ (.tail _ (List.mem_filter.mpr ⟨hp, by simpa using hq⟩))
end
-- CTok
section
set_option maxHeartbeats 4000000
open PySem PySem.W PyProof.Rows PySem.Calls
noncomputable abbrev WCH : Str := Str.ofString "abcdfeghijklmnopqrstuvwxyzABCDEFGHIJKLMNOPQRSTUVWXYZ0123456789_ßàáâãäåæçèéêëìíîïðñòóôõöøùúûüýþÿÀÁÂÃÄÅÆÇÈÉÊËÌÍÎÏÐÑÒÓÔÕÖØÙÚÛÜÝÞ"
/-- the dict of the lexer: k keys' toks, v values' toks -/
noncomputable abbrev lexD (h : Nat → Int) (k v : Nat → Tok) (io d1 d2 : Addr) (state : Value) (tok : Str) (ttk : Tok) : List DictEntry := [
  ⟨h 1, .str "instream" (k 1), .ref io⟩, ⟨h 2, .str "infile" (k 2), .none⟩, ⟨h 3, .str "posix" (k 3), .bool true⟩, ⟨h 4, .str "eof" (k 4), .none⟩,
  ⟨h 5, .str "commenters" (k 5), .str "" (v 5)⟩, ⟨h 6, .str "wordchars" (k 6), .str WCH (v 6)⟩, ⟨h 7, .str "whitespace" (k 7), .str " \t\r\n" (v 7)⟩, ⟨h 8, .str "whitespace_split" (k 8), .bool true⟩,
  ⟨h 9, .str "quotes" (k 9), .str "'\"" (v 9)⟩, ⟨h 10, .str "escape" (k 10), .str "\\" (v 10)⟩, ⟨h 11, .str "escapedquotes" (k 11), .str "\"" (v 11)⟩, ⟨h 12, .str "state" (k 12), state⟩,
  ⟨h 13, .str "pushback" (k 13), .ref d1⟩, ⟨h 14, .str "lineno" (k 14), .int 1 (v 14)⟩, ⟨h 15, .str "debug" (k 15), .int 0 (v 15)⟩, ⟨h 16, .str "token" (k 16), .str tok ttk⟩,
  ⟨h 17, .str "filestack" (k 17), .ref d2⟩, ⟨h 18, .str "source" (k 18), .none⟩, ⟨h 19, .str "_punctuation_chars" (k 19), .str "" (v 19)⟩]
structure RS where
  ph : Nat
  tok : Str
  pos : Int
  qd : Bool
  tp : Tok
  tst : Tok
  ttk : Tok
noncomputable abbrev stOf (n : Nat) : Str := if n = 0 then " " else if n = 1 then "'" else "a"
open PyProof PySem.StrLaws in
theorem occ_one {c d : Nat} (h : c ≠ d) : (Builtin.Str.occurrences ⟨#[d]⟩ { cps := #[c] } 0 1 1).isEmpty = true := by
  have := empty_one ⟨#[d]⟩ c
  rw [show (⟨#[d]⟩ : Str).length = 1 from rfl] at this
  rw [this]
  simp [h]
theorem eq_one {c d : Nat} (h : c ≠ d) : (({ cps := #[c] } : Str) == ⟨#[d]⟩) = false := by
  simp only [beq_eq_false_iff_ne, ne_eq, Str.mk.injEq]
  intro e
  exact h (by simpa using e)
noncomputable def Quoted (buf : Str) (pos : Int) (ws : List Nat) : Prop := 0 < ws.length ∧ (∀ c ∈ ws, c ≠ 10 ∧ c ≠ 39 ∧ c ≠ 92) ∧ buf.cps.toList[pos.toNat]? = some 39 ∧ (∀ (j : Nat) c, ws[j]? = some c → buf.cps.toList[(pos + 1 + j).toNat]? = some c) ∧ buf.cps.toList[(pos + 1 + ws.length).toNat]? = some 39
noncomputable def TokAt (buf : Str) (pos : Int) (ws : List Nat) (q : Int) : Prop := (Quoted buf pos ws ∧ q = pos + 2 + ws.length) ∨ (∃ c, ws = [c] ∧ (c = 120 ∨ c = 37) ∧ buf.cps.toList[pos.toNat]? = some c ∧ q = pos + 1)
theorem TokAt.pos {buf : Str} {pos : Int} {ws : List Nat} {q : Int} (h : TokAt buf pos ws q) : 0 < ws.length := by
  rcases h with ⟨h, _⟩ | ⟨c, rfl, _⟩
  · exact h.1
  · exact Nat.zero_lt_one
theorem KTok.callHeld {M : Model} {A : Around} {f : Addr} {as : List Value} {Q E : Value → Shared → Prop} {s : Shared} (hf : held f [550] = true) (h : Hold (wpAny M A (call (.ref f) as) Q E s)) : wpAny M A (call (.ref f) as) Q E s := call_hold hf h
theorem KTok.iteK {p : Prop} (h : p) : p := h
open KExecWhile KKswend KTok KIf KPost in
theorem tok_core (w : World) (gd : Option (List Code)) (ev : Env) (outer : List Env) (A₀ : Around) (base h₀ : Heap) (L : Addr) (m mg mb : Str → Option Value) (mean : ExcName → Option Value) (s : Shared)
    (Q E : Value → Shared → Prop) (B : Below A₀ base outer h₀) (F : Fr h₀ L s.heap m) (X : (Mine.hd.heap_1 w.params).In h₀) (T : Top Mine.qv loose mean mg mb h₀)
    (x dx io dio d1 d2 : Nat) (hh : Nat → Int) (tt : Nat → Tok) (h : Nat → Int) (k v : Nat → Tok) (tp tst ttk : Tok) (buf : Str) (pos : Int) (rest : List (Addr × Obj)) (hrest : ∀ p ∈ rest, p.1 ≠ dio) (hrest2 : ∀ p ∈ rest, p.1 ≠ dx)
    (N : News h₀ L s.heap ((x, instObj 739 dx) :: (dx, dictOf (lexD h k v io d1 d2 (.str " " tst) "" ttk) 19) :: (io, instObj 604 dio) :: (dio, dictOf (siodT hh tt tp buf pos) 3) :: rest))
    (hdx : dio < io) (hdx2 : dx < x) (hdx3 : x < dio) (hp : 0 ≤ pos) (hb : buf.length ≤ 1048576) (ws : List Nat) (q : Int) (hws : ws.length ≤ 100000)
    (hT : TokAt buf pos ws q) (hb2 : buf.cps.toList[q.toNat]? = some 32 ∨ (buf.length : Int) = q)
    (hret : ∀ h' tk' t' st' p' tp' ttk', (∃ t, st' = .str " " t ∧ p' = q + 1 ∧ buf.cps.toList[q.toNat]? = some 32) ∨ (st' = .none ∧ p' = q ∧ (buf.length : Int) = q) → Fr h₀ L h' m →
      News h₀ L h' ((x, instObj 739 dx) :: (dx, dictOf (lexD h k v io d1 d2 st' "" ttk') 19) :: (io, instObj 604 dio) :: (dio, dictOf (siodT hh tt tp' buf p') 3) :: rest) → Q (.str ⟨ws.toArray⟩ t') { s with heap := h', toks := tk' }) :
    wpAny (MM w) (AT 500 gd (some (envK ev L :: outer))) (call (.ref 707) [.ref x]) Q E s := by
  have hw0 : 0 < ws.length := hT.pos
  have hq0 : 0 ≤ q := by rcases hT with ⟨_, hz⟩ | ⟨c, _, _, _, hz⟩ <;> omega
  k_steps
  unfold Hold
  rename Fr _ _ _ _ => F1
  rename News _ _ _ _ => N1
  obtain ⟨m1, F1, hms, hmq⟩ : ∃ m1 : Str → Option Value, Fr _ _ _ m1 ∧ m1 "self" = some (.ref x) ∧ m1 "quoted" = some (.bool false) := ⟨_, F1, by kernel_rfl, by kernel_rfl⟩
  refine ksw_while (σ := RS) (fun c => (x, instObj 739 dx) :: (dx, dictOf (lexD h k v io d1 d2 (.str (stOf c.ph) c.tst) c.tok c.ttk) 19) :: (io, instObj 604 dio) :: (dio, dictOf (siodT hh tt c.tp buf c.pos) 3) :: rest)
    (fun c => [("self", .ref x), ("quoted", .bool c.qd)]) (fun _ => True) ["nextchar", "escapedstate"]
    (fun c => (c.ph = 0 ∧ c.tok = "" ∧ c.pos = pos ∧ c.qd = false) ∨ (c.ph = 1 ∧ Quoted buf pos ws ∧ q = pos + 2 + ws.length ∧ ∃ j : Nat, j ≤ ws.length ∧ c.tok = ⟨(ws.take j).toArray⟩ ∧ c.pos = pos + 1 + j ∧ (c.qd = true ∨ j = 0)) ∨ (c.ph = 2 ∧ c.tok = ⟨ws.toArray⟩ ∧ c.pos = q))
    (fun c => (buf.length + 1 - c.pos).toNat) ⟨0, "", pos, false, tp, tst, ttk⟩ F1 N1 trivial ?_ (.inl ⟨rfl, rfl, rfl, rfl⟩) ?_
  · exact List.forall_mem_cons.mpr ⟨hms, List.forall_mem_cons.mpr ⟨hmq, List.forall_mem_nil _⟩⟩
  rintro ⟨ph, tok, p, qd, tp', tst', ttk'⟩ u h' tk' - hP F2 N2
  rcases hP with ⟨h1, h2, h3, h4⟩ | ⟨h1, hQu, hqe, j, hj, h2, h3, h4⟩ | ⟨h1, h2, h3⟩
  · simp only at h1 h2 h3 h4
    subst h1 h2 h3 h4
    simp only [stOf] at N2
    simp only [if_pos] at N2
    rcases hT with ⟨hQu, hqe⟩ | ⟨c, hwc, hc | hc, hc0, hqe⟩
    · obtain ⟨hw1, hw, hb0, hbuf, hb1⟩ := hQu
      have hcj := hb0
      have hpl : p < buf.length := by
        obtain ⟨hl, _⟩ := List.getElem?_eq_some_iff.mp hcj
        have : p.toNat < buf.length := by simpa [Str.length] using hl
        omega
      k_steps
      unfold Hold
      refine' read_use (lvl := lvO rfl rfl rfl) _ rfl rfl rfl (by k_asm) (by k_asm) (by k_asm) (by k_asm) (by k_asm) (by k_mem) (by k_mem) ‹_› (by first | assumption | omega) ‹_› ‹_› ?_
      intro hR' tR' tR2' tR3' FR' hU'
      have NR' := hU' _ (by k_upd)
      clear hU'
      (try dsimp only)
      (try k_fold)
      k_steps
      unfold Hold
      rename Fr _ _ _ _ => F9
      rename News _ _ _ _ => N9
      (try rw [show ({ cps := #[39] } : Str) = Str.ofString "'" by kernel_rfl] at N9)
      refine ksw_end ⟨1, "", p + 1, false, _, _, _⟩ F9 N9 (fun _ hq => hq) trivial ?_ ?_ ?_ ?_
      · exact List.forall_mem_cons.mpr ⟨by kernel_rfl, List.forall_mem_cons.mpr ⟨by kernel_rfl, List.forall_mem_nil _⟩⟩
      · intro z h2 h3
        have a1 : z ≠ "self" := h2 _ (.head _)
        have a2 : z ≠ "quoted" := h2 _ (.tail _ (.head _))
        simp only [List.contains_cons, List.contains_nil, Bool.or_false, Bool.or_eq_false_iff, beq_eq_false_iff_ne, ne_eq] at h3
        simp [kstB, a1, a2, h3]
      · exact .inr (.inl ⟨rfl, ⟨hw1, hw, hb0, hbuf, hb1⟩, hqe, 0, Nat.zero_le _, by simp only [List.take_zero]; rfl, by simp only; omega, .inr rfl⟩)
      · simp only; omega
    · subst hwc hc
      have hcj := hc0
      have hpl : p < buf.length := by
        obtain ⟨hl, _⟩ := List.getElem?_eq_some_iff.mp hcj
        have : p.toNat < buf.length := by simpa [Str.length] using hl
        omega
      k_steps
      unfold Hold
      refine' read_use (lvl := lvO rfl rfl rfl) _ rfl rfl rfl (by k_asm) (by k_asm) (by k_asm) (by k_asm) (by k_asm) (by k_mem) (by k_mem) ‹_› (by first | assumption | omega) ‹_› ‹_› ?_
      intro hR' tR' tR2' tR3' FR' hU'
      have NR' := hU' _ (by k_upd)
      clear hU'
      (try dsimp only)
      (try k_fold)
      k_steps
      unfold Hold
      rename Fr _ _ _ _ => F9
      rename News _ _ _ _ => N9
      refine ksw_end ⟨2, ⟨#[120]⟩, p + 1, false, _, _, _⟩ F9 N9 (fun _ hq => hq) trivial ?_ ?_ ?_ ?_
      · exact List.forall_mem_cons.mpr ⟨by kernel_rfl, List.forall_mem_cons.mpr ⟨by kernel_rfl, List.forall_mem_nil _⟩⟩
      · intro z h2 h3
        have a1 : z ≠ "self" := h2 _ (.head _)
        have a2 : z ≠ "quoted" := h2 _ (.tail _ (.head _))
        simp only [List.contains_cons, List.contains_nil, Bool.or_false, Bool.or_eq_false_iff, beq_eq_false_iff_ne, ne_eq] at h3
        simp [kstB, a1, a2, h3]
      · exact .inr (.inr ⟨rfl, rfl, by simp only; omega⟩)
      · simp only; omega
    · subst hwc hc
      have hcj := hc0
      have hpl : p < buf.length := by
        obtain ⟨hl, _⟩ := List.getElem?_eq_some_iff.mp hcj
        have : p.toNat < buf.length := by simpa [Str.length] using hl
        omega
      k_steps
      unfold Hold
      refine' read_use (lvl := lvO rfl rfl rfl) _ rfl rfl rfl (by k_asm) (by k_asm) (by k_asm) (by k_asm) (by k_asm) (by k_mem) (by k_mem) ‹_› (by first | assumption | omega) ‹_› ‹_› ?_
      intro hR' tR' tR2' tR3' FR' hU'
      have NR' := hU' _ (by k_upd)
      clear hU'
      (try dsimp only)
      (try k_fold)
      k_steps
      unfold Hold
      rename Fr _ _ _ _ => F9
      rename News _ _ _ _ => N9
      refine ksw_end ⟨2, ⟨#[37]⟩, p + 1, false, _, _, _⟩ F9 N9 (fun _ hq => hq) trivial ?_ ?_ ?_ ?_
      · exact List.forall_mem_cons.mpr ⟨by kernel_rfl, List.forall_mem_cons.mpr ⟨by kernel_rfl, List.forall_mem_nil _⟩⟩
      · intro z h2 h3
        have a1 : z ≠ "self" := h2 _ (.head _)
        have a2 : z ≠ "quoted" := h2 _ (.tail _ (.head _))
        simp only [List.contains_cons, List.contains_nil, Bool.or_false, Bool.or_eq_false_iff, beq_eq_false_iff_ne, ne_eq] at h3
        simp [kstB, a1, a2, h3]
      · exact .inr (.inr ⟨rfl, rfl, by simp only; omega⟩)
      · simp only; omega
  · simp only at h1 h3
    subst h1
    obtain ⟨hw1, hw, hb0, hbuf, hb1⟩ := hQu
    by_cases hjl : j < ws.length
    · have hcj := hbuf j _ (List.getElem?_eq_getElem hjl)
      rw [← h3] at hcj
      have hcw := hw _ (List.getElem_mem hjl)
      generalize hcd : ws[j] = c at hcj hcw
      have hpl : p < buf.length := by
        obtain ⟨hl, _⟩ := List.getElem?_eq_some_iff.mp hcj
        have : p.toNat < buf.length := by simpa [Str.length] using hl
        omega
      have hp2 : 0 ≤ p := by omega
      simp only [stOf] at N2
      simp only [if_neg (by decide : ¬ (1 = 0)), if_pos] at N2
      have htl : tok.length ≤ 100000 := by
        rw [show tok = ⟨(ws.take j).toArray⟩ from h2]; simp [Str.length]; omega
      have e1 : (({ cps := #[c] } : Str) == Str.ofString "\n") = false := eq_one hcw.1
      have e2 : (({ cps := #[c] } : Str) == Str.ofString "'") = false := eq_one hcw.2.1
      have e3 : (Builtin.Str.occurrences (Str.ofString "\\") { cps := #[c] } 0 (Str.ofString "\\").length 1).isEmpty = true := occ_one hcw.2.2
      k_steps
      unfold Hold
      refine' read_use (lvl := lvO rfl rfl rfl) _ rfl rfl rfl (by k_asm) (by k_asm) (by k_asm) (by k_asm) (by k_asm) (by k_mem) (by k_mem) ‹_› (by first | assumption | omega) ‹_› ‹_› ?_
      intro hR' tR' tR2' tR3' FR' hU'
      have NR' := hU' _ (by k_upd)
      clear hU'
      (try dsimp only)
      (try k_fold)
      k_steps
      unfold Hold
      rename Fr _ _ _ _ => F9
      rename News _ _ _ _ => N9
      refine ksw_end ⟨1, tok ++ ⟨#[c]⟩, p + 1, true, _, _, _⟩ F9 N9 (fun _ hq => hq) trivial ?_ ?_ ?_ ?_
      · exact List.forall_mem_cons.mpr ⟨by kernel_rfl, List.forall_mem_cons.mpr ⟨by kernel_rfl, List.forall_mem_nil _⟩⟩
      · intro z h2 h3
        have a1 : z ≠ "self" := h2 _ (.head _)
        have a2 : z ≠ "quoted" := h2 _ (.tail _ (.head _))
        simp only [List.contains_cons, List.contains_nil, Bool.or_false, Bool.or_eq_false_iff, beq_eq_false_iff_ne, ne_eq] at h3
        simp [kstB, a1, a2, h3]
      · refine .inr (.inl ⟨rfl, ⟨hw1, hw, hb0, hbuf, hb1⟩, hqe, j + 1, hjl, ?_, by simp only; omega, .inl rfl⟩)
        show tok ++ _ = _
        rw [show tok = ⟨(ws.take j).toArray⟩ from h2]; exact str_snoc hjl hcd
      · simp only; omega
    · have hje : j = ws.length := by omega
      subst hje
      have hcj := hb1
      rw [← h3] at hcj
      have hp2 : 0 ≤ p := by omega
      simp only [stOf] at N2
      simp only [if_neg (by decide : ¬ (1 = 0)), if_pos] at N2
      have hpl : p < buf.length := by
        obtain ⟨hl, _⟩ := List.getElem?_eq_some_iff.mp hcj
        have : p.toNat < buf.length := by simpa [Str.length] using hl
        omega
      have htl : tok.length ≤ 100000 := by
        rw [show tok = ⟨(ws.take ws.length).toArray⟩ from h2]; simp [Str.length]; omega
      k_steps
      unfold Hold
      refine' read_use (lvl := lvO rfl rfl rfl) _ rfl rfl rfl (by k_asm) (by k_asm) (by k_asm) (by k_asm) (by k_asm) (by k_mem) (by k_mem) ‹_› (by first | assumption | omega) ‹_› ‹_› ?_
      intro hR' tR' tR2' tR3' FR' hU'
      have NR' := hU' _ (by k_upd)
      clear hU'
      (try dsimp only)
      (try k_fold)
      k_steps
      unfold Hold
      rename Fr _ _ _ _ => F9
      rename News _ _ _ _ => N9
      refine ksw_end ⟨2, tok, p + 1, true, _, _, _⟩ F9 N9 (fun _ hq => hq) trivial ?_ ?_ ?_ ?_
      · exact List.forall_mem_cons.mpr ⟨by kernel_rfl, List.forall_mem_cons.mpr ⟨by kernel_rfl, List.forall_mem_nil _⟩⟩
      · intro z h2 h3
        have a1 : z ≠ "self" := h2 _ (.head _)
        have a2 : z ≠ "quoted" := h2 _ (.tail _ (.head _))
        simp only [List.contains_cons, List.contains_nil, Bool.or_false, Bool.or_eq_false_iff, beq_eq_false_iff_ne, ne_eq] at h3
        simp [kstB, a1, a2, h3]
      · refine .inr (.inr ⟨rfl, ?_, by simp only; omega⟩)
        show tok = _
        rw [show tok = ⟨(ws.take ws.length).toArray⟩ from h2, List.take_length]
      · simp only; omega
  · simp only at h1 h2 h3
    subst h1 h2
    simp only [stOf] at N2
    simp only [if_neg (by decide : ¬ (2 = 0)), if_neg (by decide : ¬ (2 = 1))] at N2
    have hp2 : 0 ≤ p := by omega
    have hlen : (⟨ws.toArray⟩ : Str).length = ws.length := by simp [Str.length]
    have hne : ((⟨ws.toArray⟩ : Str) == Str.ofString "") = false := by
      rw [beq_eq_false_iff_ne]
      intro e
      have e2 := congrArg Str.length e
      rw [hlen, show (Str.ofString "").length = 0 from rfl] at e2
      omega
    rcases hb2 with hb2 | hb2
    · have hcj := hb2
      rw [← h3] at hcj
      k_steps
      unfold Hold
      refine' read_use (lvl := lvO rfl rfl rfl) _ rfl rfl rfl (by k_asm) (by k_asm) (by k_asm) (by k_asm) (by k_asm) (by k_mem) (by k_mem) ‹_› (by first | assumption | omega) ‹_› ‹_› ?_
      intro hR' tR' tR2' tR3' FR' hU'
      have NR' := hU' _ (by k_upd)
      clear hU'
      (try dsimp only)
      (try k_fold)
      k_steps
      all_goals first | (exact hret _ _ _ _ (p + 1) _ _ (.inl ⟨_, rfl, by omega, hb2⟩) (by assumption) (by first | assumption | exact news_sub (by assumption) (fun _ hq => List.mem_cons_of_mem _ hq))) | (exfalso; omega)
    · have hcj : (buf.length : Int) ≤ p := by omega
      k_steps
      unfold Hold
      refine' read_use0 (lvl := lvO rfl rfl rfl) rfl rfl rfl (by k_asm) (by k_asm) (by k_asm) (by k_asm) (by k_asm) (by k_mem) (by k_mem) (by k_upd) ‹_› (by first | assumption | omega) ‹_› ‹_› ?_
      intro hR' tR' tR2' FR' NR'
      (try dsimp only)
      (try k_fold)
      k_steps
      all_goals first | (exact hret _ _ _ _ p _ _ (.inr ⟨rfl, by omega, by omega⟩) (by assumption) (by first | assumption | exact news_sub (by assumption) (fun _ hq => List.mem_cons_of_mem _ hq))) | (exfalso; omega)
end
-- MDeq
section
set_option maxHeartbeats 4000000
open PySem PySem.W PyProof.Rows PySem.Calls
noncomputable abbrev deqO : Obj := { cls := .type "collections.deque", data := .fields #[.none, .int 0 0] }
theorem noBool_deq : typeLookup (.type "collections.deque") "__bool__" = pure none := by rw [typeLookup_type, builtinLookup_eq_fast]; kernel_rfl
theorem slot_deq_len : Slot "collections.deque" "__len__" "collections.deque.__len__" :=
  .of (owner := "collections.deque") (n := "__len__") (by rw [typeLookup_type, builtinLookup_eq_fast]; kernel_rfl) (by decide +kernel) (by decide +kernel) (by decide +kernel)
    (by first | exact .inl (by decide +kernel) | exact .inr (by decide +kernel)) (by rw [isSubtype_type]; kernel_rfl)
theorem entry_deq_len : entryFor table "collections.deque.__len__" = some Builtin.«collections.deque.__len__» := entryFor_of_tree (by kernel_rfl)
theorem args_deq_len (a : Value) : argsOk "collections.deque.__len__" ⟨[a], []⟩ := by unfold argsOk; kernel_rfl
theorem slot_deq_init : Slot "collections.deque" "__init__" "collections.deque.__init__" :=
  .of (owner := "collections.deque") (n := "__init__") (by rw [typeLookup_type, builtinLookup_eq_fast]; kernel_rfl) (by decide +kernel) (by decide +kernel) (by decide +kernel)
    (by first | exact .inl (by decide +kernel) | exact .inr (by decide +kernel)) (by rw [isSubtype_type]; kernel_rfl)
theorem entry_deq_init : entryFor table "collections.deque.__init__" = some Builtin.«collections.deque.__init__» := entryFor_of_tree (by kernel_rfl)
theorem args_deq_init (a : Value) : argsOk "collections.deque.__init__" ⟨[a], []⟩ := by unfold argsOk; kernel_rfl
theorem mro_deq : mroOf (.type "collections.deque") = pure [.type "collections.deque", .type "object"] := by rw [mroOf_type]; kernel_rfl
theorem lookup_deq_new : typeLookup (.type "collections.deque") "__new__" = pure (some (.builtin "collections.deque.__new__")) := by rw [typeLookup_type, builtinLookup_eq_fast]; kernel_rfl
theorem called_deq : TypeCalled "collections.deque" "collections.deque.__new__" "collections.deque.__init__" :=
  ⟨by decide +kernel, by decide +kernel, ⟨_, _, mro_deq⟩, madeBy_type mro_deq lookup_deq_new (by decide +kernel), by decide +kernel, by rw [isSubtype_type]; kernel_rfl, slot_deq_init⟩
theorem typeCall_deq : checkTypeCall "collections.deque" ⟨[], []⟩ = pure () := by kernel_rfl
theorem newCall_deq : checkBuiltinCall "collections.deque.__new__" ⟨[.type "collections.deque"], []⟩ = pure () := by kernel_rfl
theorem entry_deq_new : entryFor table "collections.deque.__new__" = some Builtin.«collections.deque.__new__» := entryFor_of_tree (by kernel_rfl)
theorem plain_deq_new : plainId "collections.deque.__new__" = true := by decide +kernel
theorem sub_deq : isSubtype (.type "collections.deque") (.type "collections.deque") = pure true := by rw [isSubtype_type]; kernel_rfl
section
variable {prog : Program} {w : World} {A : Around} {E : Value → Shared → Prop} {s : Shared}
theorem truthy_deq {d : Addr} {Q : Bool → Shared → Prop} (hd : s.heap.get? d = some deqO) (h : Q false { s with toks := s.toks + 1 + 1 }) : wpAny (model prog w) A (truthy (.ref d)) Q E s := by
  have hT : s.TypeIs (.ref d) "collections.deque" := ⟨_, hd, rfl⟩
  have len : wpAny (model prog w) A.in1.in1 (Builtin.«collections.deque.__len__» ⟨[.ref d], []⟩) (fun fin s' => ∃ v, fin = .done (.ret v) ∧ v = .int 0 s.toks ∧ s' = { s with toks := s.toks + 1 }) E s := by
    unfold Builtin.«collections.deque.__len__»
    refine wpAny_bind (m := slotArgs "__len__" 0 _) (wpAny_pure ?_)
    refine wpAny_bind (wpAny_bind (wpAny_bind (wpAny_load hd (wpAny_pure (wpAny_pure ?_)))))
    exact wpAny_bind (wpAny_mkInt (wpAny_pure ⟨_, rfl, rfl, rfl⟩))
  have key : wpAny (model prog w) A (runValue (.builtin "len" ⟨[.ref d], []⟩)) (fun r s' => r = .int 0 (s.toks + 1) ∧ Q false s') E s := by
    refine wpAny_runValue (codeAny_builtin entry_len ?_)
    rw [Around.under_plainId plain_len _]
    unfold Builtin.«len»
    refine wpAny_bind (m := oneArg "len" _) (wpAny_pure ?_)
    refine wpAny_bind (m := callSpecial? (.ref d) (Str.ofString "__len__")) (wpAny_callSpecial?_slot (name := Str.ofString "__len__") hT slot_deq_len
      (wpAny_call_entry slot_deq_len hT entry_deq_len (wpAny_mono len (fun fin s' h' => ?_) fun _ _ e => e) (args_deq_len _)))
    obtain ⟨v, rfl, rfl, rfl⟩ := h'
    refine ⟨_, rfl, ?_⟩
    refine wpAny_bind (wpAny_holding (wpAny_pure ?_))
    refine wpAny_bind (wpAny_letGo ?_)
    exact wpAny_bind (wpAny_mkInt (wpAny_pure ⟨rfl, h⟩))
  unfold truthy
  first
    | refine wpAny_bind (wpAny_callSpecial?_none (name := Str.ofString "__bool__") hT noBool_deq ?_)
    | refine wpAny_bind (wpAny_pure (wpAny_bind (wpAny_callSpecial?_none (name := Str.ofString "__bool__") hT noBool_deq ?_)))
  first
    | refine wpAny_bind (wpAny_specialOf (name := Str.ofString "__len__") hT slot_deq_len.lookup ?_)
    | refine wpAny_bind (wpAny_pure (wpAny_bind (wpAny_specialOf (name := Str.ofString "__len__") hT slot_deq_len.lookup ?_)))
  first
    | exact wpAny_bind (wpAny_mono key (fun r s' h' => by obtain ⟨rfl, hq⟩ := h'; exact wpAny_pure hq) fun _ _ e => e)
    | exact wpAny_bind (wpAny_pure (wpAny_bind (wpAny_mono key (fun r s' h' => by obtain ⟨rfl, hq⟩ := h'; exact wpAny_pure hq) fun _ _ e => e)))
theorem code_deq_new {Q₁ : Value → Shared → Prop} (h : Q₁ (.ref s.heap.objs.size) { s with heap := s.heap.push deqO }) :
    codeAny (model prog w) A (.call (.builtin "collections.deque.__new__") ⟨[.type "collections.deque"], []⟩) (wants Q₁ E) s := by
  refine codeAny_of_tree ?_
  show wpAny _ A.in1 (do checkBuiltinCall "collections.deque.__new__" ⟨[.type "collections.deque"], []⟩; again (.builtin "collections.deque.__new__" ⟨[.type "collections.deque"], []⟩)) _ _ s
  refine wpAny_bind (wpAny_of_eq newCall_deq (wpAny_pure ⟨plainId_quiet plain_deq_new _, codeAny_builtin entry_deq_new ?_⟩))
  rw [Around.under_plainId plain_deq_new _]
  unfold Builtin.«collections.deque.__new__»
  have h1 : isType (.type "collections.deque") = pure true := by kernel_rfl
  obtain ⟨hp, g, d, tk, os⟩ := s
  refine wpAny_bind ?_
  unfold Builtin.Deque.newArgs Builtin.Deque.ty
  dsimp only
  refine wpAny_bind (wpAny_of_eq h1 ?_)
  simp only [Bool.not_true, Bool.false_eq_true, if_false]
  refine wpAny_bind (wpAny_of_eq sub_deq ?_)
  simp only [Bool.not_true, Bool.false_eq_true, if_false]
  refine wpAny_pure ?_
  dsimp only
  refine wpAny_bind ?_
  show wpAny _ _ (alloc deqO >>= _) _ _ _
  exact wpAny_bind (wpAny_alloc (wpAny_pure (wpAny_pure h)))
theorem code_deq_init {d : Addr} {Q₁ : Value → Shared → Prop} (hd : s.heap.get? d = some deqO) (h : ∀ h', h'.get? d = some deqO → Heap.SameBut d s.heap h' → Q₁ .none { s with heap := h' }) :
    codeAny (model prog w) A (.call (.builtin "collections.deque.__init__") ⟨[.ref d], []⟩) (wants Q₁ E) s := by
  have hT : s.TypeIs (.ref d) "collections.deque" := ⟨_, hd, rfl⟩
  refine codeAny_call_builtin slot_deq_init.plain entry_deq_init (slot_deq_init.check _ _ _ _ _ _ _ _ hT (args_deq_init _) ?_)
  unfold Builtin.«collections.deque.__init__»
  have hz : (Obj.mapFields (fun vs => vs.setIfInBounds 0 .none) deqO) = deqO := by rfl
  have hg : (s.heap.update d (Obj.mapFields fun vs => vs.setIfInBounds 0 .none)).get? d = some deqO := by
    have := Heap.get?_update_self (Obj.mapFields fun vs => vs.setIfInBounds 0 .none) hd (by rfl)
    rw [hz] at this; exact this
  obtain ⟨hp, g, dd, tk, os⟩ := s
  simp only [Builtin.Deque.clear, Builtin.Deque.items, fieldsOf, setField, updateField]
  wp_walk
  exact h _ hg (Heap.SameBut.update ..)
theorem call_deq_0 {Q : Value → Shared → Prop}
    (h : ∀ h', h'.get? s.heap.objs.size = some deqO → Heap.SameBut s.heap.objs.size (s.heap.push deqO) h' → Q (.ref s.heap.objs.size) { s with heap := h' }) :
    wpAny (model prog w) A (call (.type "collections.deque") []) Q E s := by
  obtain ⟨c, tl, hmro⟩ := called_deq.mro
  have hmade := called_deq.made
  have hsub := called_deq.sub
  refine wpAny_call (codeAny_of_tree ?_)
  show wpAny _ _ (callAny (.type "collections.deque") _) _ _ _
  refine wpAny_pure ⟨Code.quiet_builtin _ (by decide +kernel), codeAny_builtin F.entry_type_call ?_⟩
  rw [Around.under_plain (weight_type_call_type "collections.deque" [] []) rfl]
  have h1 := called_deq.notType
  have h2 := called_deq.canCreate
  have hct := typeCall_deq
  repeat (any_goals (first | assumption | wp_step))
  refine codeAny_mono (code_deq_new (E := E) (Q₁ := fun obj s₁ => obj = .ref s.heap.objs.size ∧ s₁ = { s with heap := s.heap.push deqO }) ⟨rfl, rfl⟩) fun r s₁ hr => ?_
  cases r with
  | error e => exact hr
  | ok fl =>
    cases fl with
    | ret obj =>
      obtain ⟨rfl, rfl⟩ := hr
      have hS : (s.heap.push deqO).get? s.heap.objs.size = some deqO := Heap.get?_push_size _ rfl
      have hT : Shared.TypeIs { s with heap := s.heap.push deqO } (.ref s.heap.objs.size) "collections.deque" := ⟨_, hS, rfl⟩
      clear h1 h2 hct hmade
      have hli := called_deq.init.lookup
      have hbi := called_deq.init.bind (.ref s.heap.objs.size)
      repeat (any_goals (first | assumption | wp_step))
      refine codeAny_mono (code_deq_init (E := E) (Q₁ := fun r s₂ => r = .none ∧ Q (.ref s.heap.objs.size) s₂) hS fun h' g1 g2 => ⟨rfl, h h' g1 g2⟩) fun r₂ s₂ hr₂ => ?_
      cases r₂ with
      | error e => exact hr₂
      | ok fl₂ =>
        cases fl₂ with
        | ret r =>
          obtain ⟨rfl, hq⟩ := hr₂
          clear hsub hli hbi hmro
          repeat (any_goals (first | assumption | wp_step))
        | _ => exact hr₂.elim
    | _ => exact hr.elim
theorem deq_K {h₀ : Heap} {L : Addr} {m : Str → Option Value} {news : List (Addr × Obj)} {Q : Value → Shared → Prop} (F : Fr h₀ L s.heap m) (N : News h₀ L s.heap news)
    (h : ∀ d h', Fr h₀ L h' m → News h₀ L h' ((d, deqO) :: news) → (∀ p ∈ news, p.1 < d) → Q (.ref d) { s with heap := h' }) : wpAny (model prog w) A (call (.type "collections.deque") []) Q E s := by
  refine call_deq_0 fun h' g1 g2 => ?_
  have F1 := F.push deqO
  have N1 := N.push F deqO
  have hz := N1 (s.heap.objs.size, deqO) (.head _)
  have hlt : ∀ p ∈ news, p.1 < s.heap.objs.size := fun p hp => Heap.lt_size (N p hp).1
  refine h _ h' (F1.change g2 hz.2.1 hz.2.2) (fun p hp => ?_) hlt
  rcases List.mem_cons.mp hp with rfl | hp
  · exact ⟨g1, hz.2⟩
  · have z := N1 p (.tail _ hp)
    exact ⟨g2.extBut _ _ (Nat.ne_of_lt (hlt p hp)) z.1, z.2⟩
theorem truthy_deqK {h₀ : Heap} {L : Addr} {news : List (Addr × Obj)} {d : Addr} {Q : Bool → Shared → Prop} (N : News h₀ L s.heap news) (hm : (d, deqO) ∈ news) (h : ∀ tk, Q false { s with toks := tk }) : wpAny (model prog w) A (truthy (.ref d)) Q E s := truthy_deq (N _ hm).1 (h _)
end
end
-- MOwn
section
set_option maxHeartbeats 4000000
open PySem PySem.W PyProof.Rows PySem.Calls
section
variable {prog : Program} {w : World} {A : Around} {K : Frag} {C : Addr} {R : Result → Shared → Prop} {s : Shared}
noncomputable def ownMakes (K : Frag) (C : Addr) : Bool := match K.lookup C with
  | some ⟨_, _, .cls cd, _⟩ => !cd.mro.isEmpty && specialIn K (.ref C) "__call__" == some (some (.builtin "type.__call__")) && instIn K (.ref C) (.type "type") == some true && mroIn K C (.ref C) == some true
  | _ => false
noncomputable def OwnMid (prog : Program) (w : World) (A : Around) (K : Frag) (C fI : Addr) (rest : List Value) (R : Result → Shared → Prop) (v : Value) (s' : Shared) : Prop :=
  ∃ x ox odd, v = .ref x ∧ K.In s'.heap ∧ InstAt s'.heap x ox C odd ∧ codeAny (model prog w) (A.under (.builtin "type.__call__" ⟨.ref C :: rest, []⟩)) (.call (.ref fI) ⟨.ref x :: rest, []⟩) (InitBack x R) s'
theorem own_mid {fI x : Addr} {rest : List Value} {ox : Obj} {odd : Option Obj} (X : K.In s.heap) (I : InstAt s.heap x ox C odd) (h : codeAny (model prog w) (A.under (.builtin "type.__call__" ⟨.ref C :: rest, []⟩)) (.call (.ref fI) ⟨.ref x :: rest, []⟩) (InitBack x R) s) :
    OwnMid prog w A K C fI rest R (.ref x) s := ⟨x, ox, odd, rfl, X, I, h⟩
theorem make_own {rest : List Value} {fN fI : Addr}
    (X : K.In s.heap) (hm : ownMakes K C = true) (made : peek K ⟨prog, w.params⟩ (Bind.madeBy (.ref C)) = some none)
    (hga : ∀ (A : Around) (Q : Value → Shared → Prop) (E : Value → Shared → Prop), Q (.ref fN) { s with toks := s.toks + 1 } → wpAny (model prog w) A (getAttr (.ref C) "__new__") Q E s)
    (hi : findIn K (.ref C) "__init__" = some (some (.ref fI))) (hf : typeIn K (.ref fI) = some (.type "function"))
    (hq : wpAny (model prog w) (A.under (.builtin "type.__call__" ⟨.ref C :: rest, []⟩)) (PySem.call (.ref fN) (.ref C :: rest))
      (OwnMid prog w A K C fI rest R)
      (fun e s' => R (.error e) s') { s with toks := s.toks + 1 }) :
    codeAny (model prog w) A (.call (.ref C) ⟨rest, []⟩) R s := by
  obtain ⟨h, g, d, t, os⟩ := s
  unfold ownMakes at hm
  split at hm
  case h_2 => cases hm
  rename_i oc od cd sl hC
  simp only [Bool.and_eq_true, Bool.not_eq_true', beq_iff_eq] at hm
  obtain ⟨⟨⟨e4, call⟩, typ⟩, hsub⟩ := hm
  have hm : clsIn K C = some cd := by unfold clsIn; rw [hC]
  refine codeAny_of_tree ?_
  show wpAny _ _ (callAny (.ref C) _) _ _ _
  refine nd_load (X _ _ hC) ?_
  show wpAny _ _ (callAny.viaDunder (.ref C) _) _ _ _
  unfold callAny.viaDunder
  refine wpAny_bind ((looks_specialIn X call).at ?_)
  dsimp only
  rw [tc_bind]
  refine wpAny_bind (wpAny_pure (wpAny_bind (wpAny_pure ?_)))
  refine wpAny_pure (a := Fin.again (.call (.builtin "type.__call__") ⟨.ref C :: rest, []⟩)) (And.intro rfl ?_)
  refine codeAny_call_builtin_at (Code.quiet_builtin _ (by decide +kernel)) entry_typeCall (check_slot tc_kind tc_split (looks_instIn X typ) (tc_args _ _ _) ?_)
  unfold Builtin.«type.__call__»
  have hmr : Looks (model prog w) h (mroOf (.ref C)) cd.mro := (looks_clsIn X hm).andThen .now
  have hmade : Looks (model prog w) h (Bind.madeBy (.ref C)) none := Looks.of_peek X made
  repeat (first | simp only [e4, Bool.false_eq_true, if_false] | (with_reducible refine hga _ _ _ ?_) | (with_reducible refine wpAny_mono hq ?_ ?_) | lk)
  · rintro v s' ⟨x, ox, odd, rfl, X', I, hc⟩
    refine wpAny_bind ?_
    unfold isInstance
    refine wpAny_bind (I.type.here ((looks_mroIn X' hsub).here ?_))
    simp only [Bool.not_true, Bool.false_eq_true, if_false]
    refine wpAny_bind (wpAny_holding (special_fn X' I hi hf (wpAny_call (codeAny_mono hc fun r s₂ z => ?_))))
    rcases r with e | (v | _ | _ | _) <;> first | exact z | exact z.elim | skip
    obtain ⟨rfl, z⟩ := z
    exact wpAny_pure z
  · exact fun _ _ z => z
noncomputable def newsOwn (K : Frag) (S : Setting) (C : Addr) : Bool := (peek K S (checkBuiltinCall "object.__new__" ⟨[.ref C], []⟩)).isSome && peek K S (isType (.ref C)) == some true && (peek K S (Bind.madeHere "object.__new__" (.ref C))).isSome &&
  (match clsIn K C with | some cd => !cd.abstract && !cd.hasDel | none => false)
theorem new_own {h₀ : Heap} {L : Addr} {m : Str → Option Value} {news : List (Addr × Obj)} {Q : Value → Shared → Prop} {E : Value → Shared → Prop} (F : Fr h₀ L s.heap m) (X₀ : K.In h₀) (N : News h₀ L s.heap news) (hn : newsOwn K ⟨prog, w.params⟩ C = true)
    (h : ∀ x dx h', Fr h₀ L h' m → News h₀ L h' ((x, instObj C dx) :: (dx, dictOf [] 0) :: news) → (∀ p ∈ news, p.1 < dx) → dx < x → Q (.ref x) { s with heap := h' }) :
    wpAny (model prog w) A (PySem.call (.builtin "object.__new__") [.ref C]) Q E s := by
  have X := X₀.keeps F.keep
  unfold newsOwn at hn
  simp only [Bool.and_eq_true, beq_iff_eq] at hn
  obtain ⟨⟨⟨h1, h2⟩, h3⟩, h4⟩ := hn
  obtain ⟨u1, h1⟩ := Option.isSome_iff_exists.mp h1
  obtain ⟨u3, h3⟩ := Option.isSome_iff_exists.mp h3
  split at h4
  case h_2 => cases h4
  rename_i cd hcd
  simp only [Bool.and_eq_true, Bool.not_eq_true'] at h4
  have L1 : Looks (model prog w) s.heap (checkBuiltinCall "object.__new__" ⟨[.ref C], []⟩) u1 := Looks.of_peek X h1
  have L2 : Looks (model prog w) s.heap (isType (.ref C)) true := Looks.of_peek X h2
  have L3 : Looks (model prog w) s.heap (Bind.madeHere "object.__new__" (.ref C)) u3 := Looks.of_peek X h3
  have L4 : Looks (model prog w) s.heap (classData C) cd := looks_clsIn X hcd
  have N' := (N.push F (dictOf [] 0)).push (F.push _) (instObj C s.heap.objs.size)
  rw [Heap.size_push] at N'
  have fin := h _ s.heap.objs.size _ ((F.push _).push _) N' (fun p hp => Heap.lt_size (N p hp).1) (Nat.lt_succ_self _)
  have FF := PySem.F.objNew
  obtain ⟨hh, g, d, t, os⟩ := s
  refine wpAny_call (codeAny_call_builtin_at (Code.quiet_builtin _ FF.quiet) FF.entry (L1.at ?_))
  unfold Builtin.«object.__new__»
  repeat (first | simp only [h4.1, List.isEmpty_nil, Bool.not_true, Bool.or_false, Bool.false_eq_true, if_false] | lk)
  obtain ⟨o, ho, hod⟩ : ∃ o, hh.get? C = some o ∧ o.data = .cls cd := by
    unfold clsIn at hcd
    split at hcd
    · rename_i oc od cd' sl hl
      cases hcd
      exact ⟨_, X _ _ hl, rfl⟩
    · cases hcd
  refine nd_load (Heap.get?_push_of_some _ (Heap.get?_push_of_some _ ho)) (wpAny_pure ?_)
  rw [hod]
  refine wpAny_pure ?_
  simp only [h4.2, Bool.false_eq_true, if_false]
  refine wpAny_pure (wpAny_pure ?_)
  show Q _ _
  rw [Heap.size_push]
  exact fin
end
end
-- CNext
section
set_option maxHeartbeats 4000000
open PySem PySem.W PyProof.Rows PySem.Calls
theorem upd_mem {d : Addr} {o o' : Obj} {nw nw' : List (Addr × Obj)} (U : Upd d o o' nw nw') : (∀ p ∈ nw', p = (d, o') ∨ (p ∈ nw ∧ p.1 ≠ d)) := by
  obtain ⟨pre, post, rfl, rfl, h1, h2⟩ := U.split
  intro p hp
  rcases List.mem_append.mp hp with hp | hp
  · exact .inr ⟨List.mem_append_left _ hp, h1 p hp⟩
  · rcases List.mem_cons.mp hp with rfl | hp
    · exact .inl rfl
    · exact .inr ⟨List.mem_append_right _ (.tail _ hp), h2 p hp⟩
/-- a token is read -/
theorem tok_use {w : World} {A : Around} {env : Env} {outer : List Env} {A₀ : Around} {base h₀ : Heap} {L : Addr} {m mg mb : Str → Option Value} {mean : ExcName → Option Value} {s : Shared} {Q E : Value → Shared → Prop}
    {x dx io dio d1 d2 : Nat} {hh : Nat → Int} {tt : Nat → Tok} {h : Nat → Int} {k v : Nat → Tok} {tp tst ttk : Tok} {buf : Str} {pos : Int} {nw : List (Addr × Obj)} {ws : List Nat} {q : Int}
    (hA : A.frames = some (env :: outer)) (hf : env.frame = some L) (hk : env.scope.kind = .function) (B : Below A₀ base outer h₀) (F : Fr h₀ L s.heap m) (X : (Mine.hd.heap_1 w.params).In h₀) (T : Top Mine.qv loose mean mg mb h₀)
    (N : News h₀ L s.heap nw) (m1 : (x, instObj 739 dx) ∈ nw) (m2 : (dx, dictOf (lexD h k v io d1 d2 (.str " " tst) "" ttk) 19) ∈ nw) (m3 : (io, instObj 604 dio) ∈ nw) (m4 : (dio, dictOf (siodT hh tt tp buf pos) 3) ∈ nw)
    (hdx : dio < io) (hdx2 : dx < x) (hdx3 : x < dio) (hp : 0 ≤ pos) (hb : buf.length ≤ 1048576) (hws : ws.length ≤ 100000)
    (hT : TokAt buf pos ws q) (hb2 : buf.cps.toList[q.toNat]? = some 32 ∨ (buf.length : Int) = q)
    (hret : ∀ h' tk' t' st' p' tp' ttk', (∃ t, st' = .str " " t ∧ p' = q + 1 ∧ buf.cps.toList[q.toNat]? = some 32) ∨ (st' = .none ∧ p' = q ∧ (buf.length : Int) = q) → Fr h₀ L h' m →
      (∀ nw1 nw', Upd dx (dictOf (lexD h k v io d1 d2 (.str " " tst) "" ttk) 19) (dictOf (lexD h k v io d1 d2 st' "" ttk') 19) nw nw1 → Upd dio (dictOf (siodT hh tt tp buf pos) 3) (dictOf (siodT hh tt tp' buf p') 3) nw1 nw' → News h₀ L h' nw') → Q (.str ⟨ws.toArray⟩ t') { s with heap := h', toks := tk' })
    (lvl : Lvl A 500 0) :
    wpAny (MM w) A (call (.ref 707) [.ref x]) Q E s := by
  rw [envK_eq hf hk] at hA
  refine to_AT 500 lvl.1 lvl.2.1 lvl.2.2 hA ?_
  have e1 : ∀ p ∈ nw.filter (fun p => !decide (p.1 = dio) && !decide (p.1 = dx)), p ∈ nw ∧ p.1 ≠ dio ∧ p.1 ≠ dx := fun p hp => by simpa using List.mem_filter.mp hp
  refine tok_core w _ _ _ _ _ _ _ _ _ _ _ _ _ _ B F X T x dx io dio d1 d2 hh tt h k v tp tst ttk buf pos (nw.filter (fun p => !decide (p.1 = dio) && !decide (p.1 = dx))) (fun p hp => (e1 p hp).2.1) (fun p hp => (e1 p hp).2.2) (news_sub N fun p hp => ?_)
    hdx hdx2 hdx3 hp hb ws q hws hT hb2 fun h' tk' t' st' p' tp' ttk' a b N' => hret h' tk' t' st' p' tp' ttk' a b fun nw1 nw' U1 U2 => news_sub N' fun p hp => ?_
  · rcases List.mem_cons.mp hp with rfl | hp
    · exact m1
    rcases List.mem_cons.mp hp with rfl | hp
    · exact m2
    rcases List.mem_cons.mp hp with rfl | hp
    · exact m3
    rcases List.mem_cons.mp hp with rfl | hp
    · exact m4
    exact (e1 p hp).1
  · rcases upd_mem U2 p hp with rfl | ⟨hp, n2⟩
    · exact .tail _ (.tail _ (.tail _ (.head _)))
    rcases upd_mem U1 p hp with rfl | ⟨hp, n1⟩
    · exact .tail _ (.head _)
    exact .tail _ (.tail _ (.tail _ (.tail _ (List.mem_filter.mpr ⟨hp, by simp [n1, n2]⟩))))
theorem KCNext.callHeld {M : Model} {A : Around} {f : Addr} {as : List Value} {Q E : Value → Shared → Prop} {s : Shared} (hf : held f [707] = true) (h : Hold (wpAny M A (call (.ref f) as) Q E s)) : wpAny M A (call (.ref f) as) Q E s := call_hold hf h
theorem KCNextE.callHeld {M : Model} {A : Around} {f : Addr} {as : List Value} {Q E : Value → Shared → Prop} {s : Shared} (hf : held f [550] = true) (h : Hold (wpAny M A (call (.ref f) as) Q E s)) : wpAny M A (call (.ref f) as) Q E s := call_hold hf h
theorem KCNextE.iteK {p : Prop} (h : p) : p := h
open KCNext KTruthyRef in
theorem next_core (w : World) (gd : Option (List Code)) (ev : Env) (outer : List Env) (A₀ : Around) (base h₀ : Heap) (L : Addr) (m mg mb : Str → Option Value) (mean : ExcName → Option Value) (s : Shared)
    (Q : Option Value → Shared → Prop) (E : Value → Shared → Prop) (B : Below A₀ base outer h₀) (F : Fr h₀ L s.heap m) (X : (Mine.hd.heap_1 w.params).In h₀) (T : Top Mine.qv loose mean mg mb h₀)
    (x dx io dio d1 d2 : Nat) (hh : Nat → Int) (tt : Nat → Tok) (h : Nat → Int) (k v : Nat → Tok) (tp tst ttk : Tok) (buf : Str) (pos : Int) (rest : List (Addr × Obj)) (hrest : ∀ p ∈ rest, p.1 ≠ dio) (hrest2 : ∀ p ∈ rest, p.1 ≠ dx)
    (N : News h₀ L s.heap ((x, instObj 739 dx) :: (dx, dictOf (lexD h k v io d1 d2 (.str " " tst) "" ttk) 19) :: (io, instObj 604 dio) :: (dio, dictOf (siodT hh tt tp buf pos) 3) :: (d1, deqO) :: (d2, deqO) :: rest))
    (hdx : dio < io) (hdx2 : dx < x) (hdx3 : x < dio) (hd1 : io < d1) (hd2 : d1 < d2) (hp : 0 ≤ pos) (hb : buf.length ≤ 1048576) (ws : List Nat) (q : Int) (hws : ws.length ≤ 100000)
    (hT : TokAt buf pos ws q) (hb2 : buf.cps.toList[q.toNat]? = some 32 ∨ (buf.length : Int) = q)
    (hret : ∀ h' tk' t' st' p' tp' ttk', (∃ t, st' = .str " " t ∧ p' = q + 1 ∧ buf.cps.toList[q.toNat]? = some 32) ∨ (st' = .none ∧ p' = q ∧ (buf.length : Int) = q) → Fr h₀ L h' m →
      News h₀ L h' ((x, instObj 739 dx) :: (dx, dictOf (lexD h k v io d1 d2 st' "" ttk') 19) :: (io, instObj 604 dio) :: (dio, dictOf (siodT hh tt tp' buf p') 3) :: (d1, deqO) :: (d2, deqO) :: rest) → Q (some (.str ⟨ws.toArray⟩ t')) { s with heap := h', toks := tk' }) :
    wpAny (MM w) (AT 450 gd (some (envK ev L :: outer))) (pyNext (.ref x)) Q E s := by
  have hd3 : @Ne Nat d1 dio := by omega
  refine' owit_next ?F ?X ?I ?hs ?hf ?_
  case F => exact F
  case X => exact X
  case I => k_inst
  case hs => k_is
  case hf => k_is
  k_steps
  unfold Hold
  refine' truthy_deqK (by k_asm) (by k_mem) ?_
  intro tkD'
  k_steps
  unfold Hold
  refine' tok_use (lvl := lvO rfl rfl rfl) rfl rfl rfl (by k_asm) (by k_asm) (by k_asm) (by k_asm) (by k_asm) (by k_mem) (by k_mem) (by k_mem) (by k_mem) ‹_› ‹_› ‹_› ‹_› ‹_› ‹_› ‹_› ‹_› ?_
  intro hR' tR' tR2' stR' pR' tpR' ttkR' dR' FR' hU'
  have NR' := hU' _ _ (by k_upd) (by k_upd)
  clear hU'
  (try dsimp only)
  (try k_fold)
  k_steps
  all_goals exact hret _ _ _ _ _ _ _ (by assumption) (by assumption) (by assumption)
theorem frame_memK {ev : Env} {L b : Addr} {outer : List Env} (hm : b ∈ (envK ev L :: outer).filterMap (·.frame)) : b = L ∨ b ∈ outer.filterMap (·.frame) := by
  obtain ⟨env, he, hf⟩ := List.mem_filterMap.mp hm
  rcases List.mem_cons.mp he with rfl | he
  · exact .inl (Option.some.inj hf).symm
  · exact .inr (List.mem_filterMap.mpr ⟨env, he, hf⟩)
/-- the base with the frames' slots as they stand now -/
theorem ground_K {A₀ : Around} {base g G B h₅ : Heap} {outer : List Env} {L : Addr} {m : Str → Option Value} {ev : Env} (K : Below A₀ base outer g) (F : Fr g L G m) (hBG : ∀ b o, G.get? b = some o → b ∉ (envK ev L :: outer).filterMap (·.frame) → B.get? b = some o) (hBh : B.StaysIn h₅) (hsm : G.UpToSlots h₅) :
    ∃ g', KtsTurn (outer.filterMap (·.frame)) g g' ∧ Fr g' L h₅ m ∧ Below A₀ base outer g' := by
  obtain ⟨T, S⟩ := kts_turn_at (h := h₅) (fs := outer.filterMap (·.frame)) (g := g)
    (fun b hb => by
      obtain ⟨_, o, ho, _⟩ := K.frames.mem hb
      exact ⟨o, ho⟩)
    (fun b o e nm => hBh b o (hBG b o (F.keep b o e) (fun hm => by
      rcases frame_memK hm with z | z
      · rw [z, kts_self F] at e
        cases e
      · exact nm z)))
    (fun b o e hm => by
      obtain ⟨_, o', ho', hd⟩ := K.frames.mem hm
      rw [e] at ho'
      cases ho'
      exact hsm b o (F.keep b o e) hd)
  refine ⟨_, T, ⟨hsm.ns F.ns, S, by rw [T.size]; exact F.above⟩, ⟨K.stack, fun b o e => T.other b o (K.stays b o e) (fun hm => by
    rw [(K.frames.mem hm).1] at e
    cases e), K.frames.of_keeps fun b o e _ => ?_⟩⟩
  obtain ⟨sl, hs⟩ := T.up e
  exact ⟨_, hs, rfl⟩
theorem owit_stopS {M : Model} {A A₀ : Around} {E : Value → Shared → Prop} {s : Shared} {Q : Option Value → Shared → Prop} {base g G : Heap} {outer : List Env} {L e t : Addr} {m : Str → Option Value} {ev : Env} {vs : List Value} {news : List (Addr × Obj)} {X : String}
    (R : RaisedS base G (envK ev L :: outer) e (.type X) t vs news s.heap) (F : Fr g L G m) (K : Below A₀ base outer g) (hsm : G.UpToSlots s.heap) (D : KtsDicts (outer.filterMap (·.frame)) g) (hsub : isSubtype (.type X) (.type "StopIteration") = pure true)
    (k : ∀ g', KtsTurn (outer.filterMap (·.frame)) g g' → Fr g' L s.heap m → News g' L s.heap news → Below A₀ base outer g' → KtsDicts (outer.filterMap (·.frame)) g' → Q none s) : OwitStop M A Q E (.ref e) s := by
  obtain ⟨⟨B, hB, hBG, hl, hfl, hnew⟩, htup⟩ := R
  have hL : B.get? L = none := by
    obtain ⟨_, ⟨L', _, hf, hn', _⟩, _⟩ := hfl.2.2.1
    obtain rfl : L = L' := Option.some.inj hf
    exact hn'
  obtain ⟨g₅, T₅, F₅, K₅⟩ := ground_K K F hBG hfl.1 hsm
  have Nl : News g₅ L s.heap news := fun q hq => ⟨hfl.1 _ _ (hl q hq).1, (fun z => by have := (hl q hq).1; rw [z, hL] at this; cases this), T₅.none_ _ (kts_none F.keep (hl q hq).2.1)⟩
  obtain ⟨ob, hob, hobc⟩ := hfl.there
  have hT : s.TypeIs (.ref e) X := (show ∃ o, s.heap.get? e = some o ∧ o.cls = .type X from ⟨ob, hob, hobc⟩)
  unfold OwitStop
  refine wpAny_isInstance hT hsub ?_
  show (if true = true then Q none s else E (.ref e) s)
  rw [if_pos rfl]
  exact k g₅ T₅ F₅ Nl K₅ (D.turn T₅)
open KCNextE KTruthyRef in
theorem next_end (w : World) (gd : Option (List Code)) (ev : Env) (outer : List Env) (A₀ : Around) (base h₀ : Heap) (L : Addr) (m mg mb : Str → Option Value) (mean : ExcName → Option Value) (s : Shared)
    (Q : Option Value → Shared → Prop) (E : Value → Shared → Prop) (B : Below A₀ base outer h₀) (F : Fr h₀ L s.heap m) (X : (Mine.hd.heap_1 w.params).In h₀) (T : Top Mine.qv loose mean mg mb h₀) (XB : (Mine.hd.heap_1 w.params).In base) (TB : Top Mine.qv loose mean mg mb base) (D : KtsDicts (outer.filterMap (·.frame)) h₀)
    (x dx io dio d1 d2 : Nat) (hh : Nat → Int) (tt : Nat → Tok) (h : Nat → Int) (k v : Nat → Tok) (tp ttk : Tok) (buf : Str) (pos : Int) (rest : List (Addr × Obj)) (hrest : ∀ p ∈ rest, p.1 ≠ dio) (hrest2 : ∀ p ∈ rest, p.1 ≠ dx)
    (N : News h₀ L s.heap ((x, instObj 739 dx) :: (dx, dictOf (lexD h k v io d1 d2 .none "" ttk) 19) :: (io, instObj 604 dio) :: (dio, dictOf (siodT hh tt tp buf pos) 3) :: (d1, deqO) :: (d2, deqO) :: rest))
    (hdx : dio < io) (hdx2 : dx < x) (hdx3 : x < dio) (hd1 : io < d1) (hd2 : d1 < d2) (hp : 0 ≤ pos) (hb : buf.length ≤ 1048576) (hpl : (buf.length : Int) ≤ pos)
    (hret : ∀ g h' tk' ttk', KtsTurn (outer.filterMap (·.frame)) h₀ g → Fr g L h' m → News g L h' ((x, instObj 739 dx) :: (dx, dictOf (lexD h k v io d1 d2 .none "" ttk') 19) :: (io, instObj 604 dio) :: (dio, dictOf (siodT hh tt tp buf pos) 3) :: (d1, deqO) :: (d2, deqO) :: rest) →
      Below A₀ base outer g → (Mine.hd.heap_1 w.params).In g → Top Mine.qv loose mean mg mb g → KtsDicts (outer.filterMap (·.frame)) g → Q none { s with heap := h', toks := tk' }) :
    wpAny (MM w) (AT 450 gd (some (envK ev L :: outer))) (pyNext (.ref x)) Q E s := by
  have hd3 : @Ne Nat d1 dio := by omega
  refine' owit_next ?F ?X ?I ?hs ?hf ?_
  case F => exact F
  case X => exact X
  case I => k_inst
  case hs => k_is
  case hf => k_is
  k_steps
  unfold Hold
  refine' truthy_deqK (by k_asm) (by k_mem) ?_
  intro tkD'
  k_steps
  unfold Hold
  refine' read_use0 (lvl := lvO rfl rfl rfl) rfl rfl rfl (by k_asm) (by k_asm) (by k_asm) (by k_asm) (by k_asm) (by k_mem) (by k_mem) (by k_upd) ‹_› (by first | assumption | omega) ‹_› ‹_› ?_
  intro hR' tR' tR2' FR' NR'
  (try dsimp only)
  (try k_fold)
  k_steps
  unfold Hold
  refine' truthy_deqK (by k_asm) (by k_mem) ?_
  intro tkD'
  k_steps
  rename RaisedS _ _ _ _ _ _ _ _ _ => rkX
  refine' owit_stopS rkX ?oF ?oK ?oU ?oD ?oS ?_
  case oF => assumption
  case oK => assumption
  case oU => assumption
  case oD => assumption
  case oS => first | rfl | kernel_rfl | decide
  intro g9 T9 F9 N9 K9 D9
  exact hret g9 _ _ _ T9 F9 N9 K9 (XB.keeps K9.stays) (TB.keeps K9.stays) D9
end
-- CList
section
set_option maxHeartbeats 4000000
open PySem PySem.W PyProof.Rows PySem.Calls
noncomputable def LineAt (buf : Str) : Int → List (List Nat) → Prop
  | _, [] => False
  | p, [ws] => ∃ q, ws.length ≤ 100000 ∧ TokAt buf p ws q ∧ (buf.length : Int) = q
  | p, ws :: r => ∃ q, ws.length ≤ 100000 ∧ TokAt buf p ws q ∧ buf.cps.toList[q.toNat]? = some 32 ∧ LineAt buf (q + 1) r
theorem TokAt.pos2 {buf : Str} {pos : Int} {ws : List Nat} {q : Int} (h : TokAt buf pos ws q) (hp : 0 ≤ pos) : 0 ≤ q := by rcases h with ⟨_, hz⟩ | ⟨c, _, _, _, hz⟩ <;> omega
noncomputable abbrev lexL (x dx io dio d1 d2 : Nat) (hh : Nat → Int) (tt : Nat → Tok) (h : Nat → Int) (k v : Nat → Tok) (buf : Str) (st : Value) (ttk tp : Tok) (pos : Int) (rest : List (Addr × Obj)) : List (Addr × Obj) :=
  (x, instObj 739 dx) :: (dx, dictOf (lexD h k v io d1 d2 st "" ttk) 19) :: (io, instObj 604 dio) :: (dio, dictOf (siodT hh tt tp buf pos) 3) :: (d1, deqO) :: (d2, deqO) :: rest
section
variable {w : World} {A A₀ : Around} {ev : Env} {outer : List Env} {base h₀ : Heap} {L : Addr} {m mg mb : Str → Option Value} {mean : ExcName → Option Value} {s : Shared} {R : Result → Shared → Prop}
theorem lex_loop (hA : A.frames = some (envK ev L :: outer)) (hA1 : A.handled = none) (hA2 : A.depth ≤ 450) (hA3 : A.units + 1 ≤ 3600) (XB : (Mine.hd.heap_1 w.params).In base) (TB : Top Mine.qv loose mean mg mb base) (B : Below A₀ base outer h₀) (X : (Mine.hd.heap_1 w.params).In h₀) (T : Top Mine.qv loose mean mg mb h₀) (D : KtsDicts (outer.filterMap (·.frame)) h₀)
    (x dx io dio d1 d2 dl : Nat) (hh : Nat → Int) (tt : Nat → Tok) (h : Nat → Int) (k v : Nat → Tok) (buf : Str) (rest : List (Addr × Obj)) (hrest : ∀ p ∈ rest, p.1 ≠ dio) (hrest2 : ∀ p ∈ rest, p.1 ≠ dx) (hrest3 : ∀ p ∈ rest, p.1 ≠ dl)
    (hdx : dio < io) (hdx2 : dx < x) (hdx3 : x < dio) (hd1 : io < d1) (hd2 : d1 < d2) (hdl : d2 < dl) (hb : buf.length ≤ 1048576)
    (hfin : ∀ g h' tk' ttk' tp' p' zs c', KtsTurn (outer.filterMap (·.frame)) h₀ g → Fr g L h' m → News g L h' (lexL x dx io dio d1 d2 hh tt h k v buf .none ttk' tp' p' ((dl, listOf zs c') :: rest)) →
      Below A₀ base outer g → (Mine.hd.heap_1 w.params).In g → Top Mine.qv loose mean mg mb g → KtsDicts (outer.filterMap (·.frame)) g → zs.toList.map (fun z => match z with | .str y _ => y.cps.toList | _ => []) = ls ∧ (∀ z ∈ zs.toList, ∃ y t, z = .str y t) → R (.ok (.ret .none)) { s with heap := h', toks := tk' }) :
    ∀ (l pre : List (List Nat)) (st : Value) (p : Int) (ys : Array Value) (c : Nat) (h' : Heap) (tk' : Nat) (ttk tp : Tok), pre ++ l = ls → pre.length + l.length ≤ 100000 → ((l = [] ∧ st = .none ∧ (buf.length : Int) ≤ p) ∨ (∃ t, st = .str " " t ∧ LineAt buf p l)) → 0 ≤ p →
      ys.size = pre.length → ys.toList.map (fun z => match z with | .str y _ => y.cps.toList | _ => []) = pre → (∀ z ∈ ys.toList, ∃ y t, z = .str y t) →
      Fr h₀ L h' m → News h₀ L h' (lexL x dx io dio d1 d2 hh tt h k v buf st ttk tp p ((dl, listOf ys c) :: rest)) →
      codeAny (MM w) A (.builtin "list.extend.loop" ⟨[.ref dl, .ref x, .none], []⟩) R { s with heap := h', toks := tk' } := by
  intro l
  induction l with
  | nil =>
    intro pre st p ys c h' tk' ttk tp hpre hlen hst hp hys hyv hyk F N
    rcases hst with ⟨_, rfl, hbp⟩ | ⟨t, _, hz⟩
    case inr => exact hz.elim
    refine codeAny_builtin PySem.F.entry_extend_loop ?_
    rw [Around.under_plainId PySem.F.plain_extend_loop _]
    show wpAny _ A.in1 (pyNext (.ref x) >>= _) _ _ _
    refine wpAny_bind (to_AT 450 hA1 hA2 hA3 hA ?_)
    refine next_end w _ _ _ A₀ _ _ _ _ _ _ _ _ _ _ B F X T XB TB D x dx io dio d1 d2 hh tt h k v tp ttk buf p ((dl, listOf ys c) :: rest) ?_ ?_ N hdx hdx2 hdx3 hd1 hd2 hp hb hbp fun g h2 tk2 ttk2 T2 F2 N2 B2 X2 P2 D2 => ?_
    · exact List.forall_mem_cons.mpr ⟨by show dl ≠ dio; omega, hrest⟩
    · exact List.forall_mem_cons.mpr ⟨by show dl ≠ dx; omega, hrest2⟩
    exact wpAny_pure (hfin g h2 tk2 _ _ _ _ _ T2 F2 N2 B2 X2 P2 D2 ⟨by rw [hyv, ← hpre, List.append_nil], hyk⟩)
  | cons ws l ih =>
    intro pre st p ys c h' tk' ttk tp hpre hlen hst hp hys hyv hyk F N
    rcases hst with ⟨hz, _⟩ | ⟨t, rfl, hz⟩
    · cases hz
    obtain ⟨q, hws, hT, hq⟩ : ∃ q, ws.length ≤ 100000 ∧ TokAt buf p ws q ∧ ((l = [] ∧ (buf.length : Int) = q) ∨ (l ≠ [] ∧ buf.cps.toList[q.toNat]? = some 32 ∧ LineAt buf (q + 1) l)) := by
      cases l with
      | nil => obtain ⟨q, a, b, c⟩ := hz; exact ⟨q, a, b, .inl ⟨rfl, c⟩⟩
      | cons _ _ => obtain ⟨q, a, b, c, d⟩ := hz; exact ⟨q, a, b, .inr ⟨(fun e => nomatch e), c, d⟩⟩
    refine codeAny_builtin PySem.F.entry_extend_loop ?_
    rw [Around.under_plainId PySem.F.plain_extend_loop _]
    show wpAny _ A.in1 (pyNext (.ref x) >>= _) _ _ _
    refine wpAny_bind (to_AT 450 hA1 hA2 hA3 hA ?_)
    refine next_core w _ _ _ A₀ _ _ _ _ _ _ _ _ _ _ B F X T x dx io dio d1 d2 hh tt h k v tp t ttk buf p ((dl, listOf ys c) :: rest) ?_ ?_ N hdx hdx2 hdx3 hd1 hd2 hp hb ws q hws hT ?_ fun h2 tk2 t2 st2 p2 tp2 ttk2 hd F2 N2 => ?_
    · exact List.forall_mem_cons.mpr ⟨by show dl ≠ dio; omega, hrest⟩
    · exact List.forall_mem_cons.mpr ⟨by show dl ≠ dx; omega, hrest2⟩
    · rcases hq with ⟨_, e⟩ | ⟨_, e, _⟩
      · exact .inr e
      · exact .inl e
    have hS := (N2 (dl, listOf ys c) (.tail _ (.tail _ (.tail _ (.tail _ (.tail _ (.tail _ (.head _)))))))).1
    show wpAny _ A.in1 (updateSeq dl (·.push (.str ⟨ws.toArray⟩ t2)) >>= _) _ _ _
    obtain ⟨F3, N3⟩ := news_upd (f := Obj.mapSeq (·.push (.str ⟨ws.toArray⟩ t2))) (pre := [(x, instObj 739 dx), (dx, dictOf (lexD h k v io d1 d2 st2 "" ttk2) 19), (io, instObj 604 dio), (dio, dictOf (siodT hh tt tp2 buf p2) 3), (d1, deqO), (d2, deqO)]) F2 N2 (by
      intro z hz
      simp only [List.mem_cons, List.not_mem_nil, or_false] at hz
      rcases hz with rfl | rfl | rfl | rfl | rfl | rfl <;> (show (_ : Nat) ≠ dl; simp only; omega)) hrest3 (o' := listOf (ys.push (.str ⟨ws.toArray⟩ t2)) (c + 1)) (by simp [Obj.mapSeq]) (by rfl)
    have hst2 : (l = [] ∧ st2 = .none ∧ (buf.length : Int) ≤ p2) ∨ (∃ t, st2 = .str " " t ∧ LineAt buf p2 l) := by
      rcases hd with ⟨t3, e1, e2, e3⟩ | ⟨e1, e2, e3⟩
      · rcases hq with ⟨_, e⟩ | ⟨_, _, e⟩
        · exfalso
          obtain ⟨hl, _⟩ := List.getElem?_eq_some_iff.mp e3
          have : q.toNat < buf.length := by simpa [Str.length] using hl
          omega
        · exact .inr ⟨t3, e1, by rw [e2]; exact e⟩
      · rcases hq with ⟨e, _⟩ | ⟨_, e, _⟩
        · exact .inl ⟨e, e1, by omega⟩
        · exfalso
          obtain ⟨hl, _⟩ := List.getElem?_eq_some_iff.mp e
          have : q.toNat < buf.length := by simpa [Str.length] using hl
          omega
    have hp2 : 0 ≤ p2 := by
      have := hT.pos2 hp
      rcases hd with ⟨_, _, e2, _⟩ | ⟨_, e2, _⟩ <;> omega
    have hlen' : pre.length + (l.length + 1) ≤ 100000 := hlen
    refine wpAny_bind (wpAny_updateSeq hS rfl (wpAny_pure ⟨plainId_quiet PySem.F.plain_extend_loop _, ih (pre ++ [ws]) st2 p2 _ (c + 1) _ tk2 ttk2 tp2 (by rw [← hpre]; simp) (by simp; omega) hst2 hp2 (by simp [hys]) (by simp [hyv]) ?_ F3 N3⟩) (by rw [hys, sizeLine_eq]; omega) (by show (ys.push _).size ≤ _; rw [Array.size_push, hys, sizeLine_eq]; omega))
    intro z hz
    simp only [Array.toList_push, List.mem_append, List.mem_singleton] at hz
    rcases hz with hz | rfl
    · exact hyk z hz
    · exact ⟨_, _, rfl⟩
theorem iter_core (w : World) (gd : Option (List Code)) (ev : Env) (outer : List Env) (A₀ : Around) (base h₀ : Heap) (L : Addr) (m mg mb : Str → Option Value) (mean : ExcName → Option Value) (s : Shared)
    (Q E : Value → Shared → Prop) (B : Below A₀ base outer h₀) (F : Fr h₀ L s.heap m) (X : (Mine.hd.heap_1 w.params).In h₀) (T : Top Mine.qv loose mean mg mb h₀)
    (x dx : Nat) (es : List DictEntry) (rest : List (Addr × Obj)) (N : News h₀ L s.heap ((x, instObj 739 dx) :: (dx, dictOf es 19) :: rest))
    (hret : ∀ h' tk', Fr h₀ L h' m → News h₀ L h' ((x, instObj 739 dx) :: (dx, dictOf es 19) :: rest) → Q (.ref x) { s with heap := h', toks := tk' }) :
    wpAny (MM w) (AT 450 gd (some (envK ev L :: outer))) (pyIter (.ref x)) Q E s := by
  refine' owit_iter ?F ?X ?I ?hs ?hf ?_
  case F => exact F
  case X => exact X
  case I => k_inst
  case hs => k_is
  case hf => k_is
  k_steps
  all_goals exact hret _ _ (by assumption) (by assumption)
theorem list_lex {Q E : Value → Shared → Prop} (hA : A.frames = some (envK ev L :: outer)) (hA1 : A.handled = none) (hA2 : A.depth ≤ 450) (hA3 : A.units + 5 ≤ 3600) (XB : (Mine.hd.heap_1 w.params).In base) (TB : Top Mine.qv loose mean mg mb base) (B : Below A₀ base outer h₀) (X : (Mine.hd.heap_1 w.params).In h₀) (T : Top Mine.qv loose mean mg mb h₀) (D : KtsDicts (outer.filterMap (·.frame)) h₀)
    (x dx io dio d1 d2 : Nat) (hh : Nat → Int) (tt : Nat → Tok) (h : Nat → Int) (k v : Nat → Tok) (tp ttk tst : Tok) (buf : Str) (rest : List (Addr × Obj)) (hrest : ∀ p ∈ rest, p.1 ≠ dio) (hrest2 : ∀ p ∈ rest, p.1 ≠ dx)
    (hdx : dio < io) (hdx2 : dx < x) (hdx3 : x < dio) (hd1 : io < d1) (hd2 : d1 < d2) (hb : buf.length ≤ 1048576) (l : List (List Nat)) (hl : l.length ≤ 100000) (hline : LineAt buf 0 l)
    (F : Fr h₀ L s.heap m) (N : News h₀ L s.heap (lexL x dx io dio d1 d2 hh tt h k v buf (.str " " tst) ttk tp 0 rest))
    (hfin : ∀ g h' tk' dl zs c', KtsTurn (outer.filterMap (·.frame)) h₀ g → Fr g L h' m → News g L h' ((dl, listOf zs c') :: rest) → Below A₀ base outer g → (Mine.hd.heap_1 w.params).In g → Top Mine.qv loose mean mg mb g → KtsDicts (outer.filterMap (·.frame)) g →
      zs.toList.map (fun z => match z with | .str y _ => y.cps.toList | _ => []) = l → (∀ z ∈ zs.toList, ∃ y t, z = .str y t) → (∀ p ∈ rest, p.1 < dl) → Q (.ref dl) { s with heap := h', toks := tk' }) :
    wpAny (MM w) A (call (.type "list") [.ref x]) Q E s := by
  refine callType_codes (Q₁ := fun obj s₁ => obj = .ref s.heap.objs.size ∧ s₁ = { s with heap := s.heap.push { cls := .type "list", data := .seq #[] } }) PySem.F.called_list (PySem.F.typeCall_list_1 _) PySem.F.entry_list_init
    (code_list_new _ ⟨rfl, rfl⟩) fun obj s₁ h₁ => ?_
  obtain ⟨rfl, rfl⟩ := h₁
  have hlt : ∀ p ∈ lexL x dx io dio d1 d2 hh tt h k v buf (.str " " tst) ttk tp 0 rest, p.1 < s.heap.objs.size := fun p hp => Heap.lt_size (N p hp).1
  have hS : (s.heap.push { cls := .type "list", data := .seq #[] }).get? s.heap.objs.size = some { cls := .type "list", data := .seq #[] } := Heap.get?_push_size _ rfl
  refine ⟨⟨_, hS, rfl⟩, PySem.F.args_list_init_2 _ _, ?_⟩
  have F1 := F.push { cls := .type "list", data := .seq #[] }
  have N1 := N.push F { cls := .type "list", data := .seq #[] }
  have hz := N1 _ (.head _)
  generalize hdl : s.heap.objs.size = dl at *
  show wpAny _ A.in1.in1 (do let old ← Builtin.List.listItems (.ref dl); Builtin.List.listUpdate (.ref dl) (fun _ => #[]); letGo old.toList.reverse; Builtin.List.listExtendWith (.ref dl) (.ref x) .none) _ _ _
  refine wpAny_bind ?_
  unfold Builtin.List.listItems
  refine wpAny_bind (wpAny_seqItems hS rfl (wpAny_pure ?_))
  show wpAny _ A.in1.in1 (updateSeq dl (fun _ => #[]) >>= fun _ => letGo (#[] : Array Value).toList.reverse >>= fun _ => Builtin.List.listExtendWith (.ref dl) (.ref x) .none) _ _ _
  refine wpAny_bind (wpAny_updateSeq hS rfl ?_)
  have hltd : ∀ p ∈ lexL x dx io dio d1 d2 hh tt h k v buf (.str " " tst) ttk tp 0 rest, p.1 ≠ dl := fun p hp => Nat.ne_of_lt (hlt p hp)
  obtain ⟨F2, N2⟩ := news_upd (f := Obj.mapSeq (fun _ => (#[] : Array Value))) (pre := []) F1 N1 (fun _ hp => nomatch hp) hltd (o' := listOf #[] 0) (by rfl) (by rfl)
  refine wpAny_bind (wpAny_letGo ?_)
  unfold Builtin.List.listExtendWith
  have I2 := InstAt.of_news (C := 739) N2 (x := x) (.tail _ (.head _)) (.tail _ (.tail _ (.head _)))
  have X2 := X.keeps F2.keep
  refine wpAny_bind (I2.type.here ?_)
  have e1 : Builtin.List.listSameRef (.ref dl) (.ref x) = false := by
    have := hltd _ (.head _)
    simp only [Builtin.List.listSameRef, beq_eq_false_iff_ne, ne_eq]
    exact fun e => this e.symm
  simp only [e1, show (Value.ref 739 == Value.type "list") = false from rfl, show (Value.ref 739 == Value.type "tuple") = false from rfl, Bool.or_false, Bool.false_eq_true, if_false]
  refine wpAny_bind (to_AT 450 hA1 hA2 (by show A.units + 1 + 1 ≤ _; omega) hA ?_)
  refine iter_core w _ _ _ A₀ _ _ _ _ _ _ _ _ _ _ B F2 X T x dx (lexD h k v io d1 d2 (.str " " tst) "" ttk) ((io, instObj 604 dio) :: (dio, dictOf (siodT hh tt tp buf 0) 3) :: (d1, deqO) :: (d2, deqO) :: (dl, listOf #[] 0) :: rest) (news_sub N2 fun p hp => ?_) fun h3 tk3 F3 N3 => ?_
  · simp only [lexL, List.nil_append, List.mem_cons] at hp ⊢
    rcases hp with hp | hp | hp | hp | hp | hp | hp | hp
    · exact .inr (.inl hp)
    · exact .inr (.inr (.inl hp))
    · exact .inr (.inr (.inr (.inl hp)))
    · exact .inr (.inr (.inr (.inr (.inl hp))))
    · exact .inr (.inr (.inr (.inr (.inr (.inl hp)))))
    · exact .inr (.inr (.inr (.inr (.inr (.inr (.inl hp))))))
    · exact .inl hp
    · exact .inr (.inr (.inr (.inr (.inr (.inr (.inr hp))))))
  have I3 := InstAt.of_news (C := 739) N3 (x := x) (.head _) (.tail _ (.head _))
  have X3 := X.keeps F3.keep
  have L1 : Looks (MM w) h3 (specialOf (.ref x) "__len__") none := I3.type.andThen (looks_findIn X3 (by k_is))
  have L2 : Looks (MM w) h3 (specialOf (.ref x) "__length_hint__") none := I3.type.andThen (looks_findIn X3 (by k_is))
  refine wpAny_bind (wpAny_holding ?_)
  unfold Builtin.List.listLengthHint
  refine wpAny_bind (L1.at ?_)
  show wpAny _ A.in1.in1 (specialOf (Value.ref x) (Str.ofString "__length_hint__") >>= _) _ _ _
  refine wpAny_bind (L2.at ?_)
  refine wpAny_pure ?_
  show wpAny _ A.in1.in1 (rule "list.extend.makes-room" >>= fun _ => Builtin.List.listTouch (.ref dl) >>= fun _ =>
    again (.builtin "list.extend.loop" ⟨[.ref dl, .ref x, .none], []⟩)) _ _ _
  refine wpAny_bind (wpAny_rule ?_)
  refine wpAny_bind ?_
  show wpAny _ A.in1.in1 (updateSeq dl (·.push .none) >>= fun _ => updateSeq dl (·.pop)) _ _ _
  have hord : ∀ p ∈ ([(x, instObj 739 dx), (dx, dictOf (lexD h k v io d1 d2 (.str " " tst) "" ttk) 19), (io, instObj 604 dio), (dio, dictOf (siodT hh tt tp buf 0) 3), (d1, deqO), (d2, deqO)] : List (Addr × Obj)), p.1 ≠ dl := fun p hp => by
    refine hltd p ?_
    simp only [List.mem_cons, List.not_mem_nil, or_false] at hp
    rcases hp with rfl | rfl | rfl | rfl | rfl | rfl
    · exact .head _
    · exact .tail _ (.head _)
    · exact .tail _ (.tail _ (.head _))
    · exact .tail _ (.tail _ (.tail _ (.head _)))
    · exact .tail _ (.tail _ (.tail _ (.tail _ (.head _))))
    · exact .tail _ (.tail _ (.tail _ (.tail _ (.tail _ (.head _)))))
  have hrd : ∀ p ∈ rest, p.1 ≠ dl := fun p hp => hltd p (.tail _ (.tail _ (.tail _ (.tail _ (.tail _ (.tail _ hp))))))
  have hS3 := (N3 (dl, listOf #[] 0) (.tail _ (.tail _ (.tail _ (.tail _ (.tail _ (.tail _ (.head _)))))))).1
  obtain ⟨F4, N4⟩ := news_upd (f := Obj.mapSeq (·.push Value.none)) (pre := [(x, instObj 739 dx), (dx, dictOf (lexD h k v io d1 d2 (.str " " tst) "" ttk) 19), (io, instObj 604 dio), (dio, dictOf (siodT hh tt tp buf 0) 3), (d1, deqO), (d2, deqO)]) F3 N3 hord hrd (o' := listOf #[.none] 1) (by rfl) (by rfl)
  refine wpAny_bind (wpAny_updateSeq hS3 rfl ?_)
  have hS4 := (N4 (dl, listOf #[.none] 1) (.tail _ (.tail _ (.tail _ (.tail _ (.tail _ (.tail _ (.head _)))))))).1
  obtain ⟨F5, N5⟩ := news_upd (f := Obj.mapSeq (·.pop)) (pre := [(x, instObj 739 dx), (dx, dictOf (lexD h k v io d1 d2 (.str " " tst) "" ttk) 19), (io, instObj 604 dio), (dio, dictOf (siodT hh tt tp buf 0) 3), (d1, deqO), (d2, deqO)]) F4 N4 hord hrd (o' := listOf #[] 2) (by rfl) (by rfl)
  refine wpAny_updateSeq (hz := by seq_fits) hS4 rfl ?_
  refine wpAny_pure ⟨plainId_quiet PySem.F.plain_extend_loop _, ?_⟩
  have hdl2 : d2 < dl := by
    have := hlt (d2, deqO) (.tail _ (.tail _ (.tail _ (.tail _ (.tail _ (.head _))))))
    exact this
  refine lex_loop (A := A.in1) (A₀ := A₀) (ls := l) (s := s) (tk' := tk3) hA hA1 hA2 (by show A.units + 1 + 1 ≤ _; omega) XB TB B X T D x dx io dio d1 d2 dl hh tt h k v buf rest hrest hrest2 hrd hdx hdx2 hdx3 hd1 hd2 hdl2 hb ?_
    l [] _ 0 #[] 2 _ ttk tp rfl (by simpa using hl) (.inr ⟨tst, rfl, hline⟩) (Int.le_refl _) rfl rfl (fun _ hz => nomatch hz) F5 N5
  intro g h' tk' ttk' tp' p' zs c' T' F' N' B' X' P' D' hz
  exact ⟨rfl, hfin g h' tk' dl zs c' T' F' (news_sub N' fun p hp => .tail _ (.tail _ (.tail _ (.tail _ (.tail _ (.tail _ hp)))))) B' X' P' D' hz.1 hz.2 (fun p hp => hlt p (.tail _ (.tail _ (.tail _ (.tail _ (.tail _ (.tail _ hp)))))))⟩
end
end
-- CSio
section
set_option maxHeartbeats 4000000
open PySem PySem.W PyProof.Rows PySem.Calls
open KCallBuiltinObjectNew KOwnmid
noncomputable def pick3 {α : Type} (a b c : α) : Nat → α := fun n => match n with | 1 => a | 2 => b | _ => c
noncomputable def pick5 {α : Type} (a b c d e : α) : Nat → α := fun n => match n with | 1 => a | 2 => b | 3 => c | 4 => d | _ => e
theorem news_24 {h₀ h : Heap} {L : Addr} {a b c d : Addr × Obj} {l : List (Addr × Obj)} (N : News h₀ L h (a :: b :: c :: d :: l)) : News h₀ L h (a :: b :: l) := fun p hp => N p (by
  rcases List.mem_cons.mp hp with rfl | hp
  · exact .head _
  · rcases List.mem_cons.mp hp with rfl | hp
    · exact .tail _ (.head _)
    · exact .tail _ (.tail _ (.tail _ (.tail _ hp))))
theorem ltAll_of {d : Nat} : ∀ {l : List (Addr × Obj)}, AllLt d l → ∀ p ∈ l, p.1 < d
  | [], _, _, hp => nomatch hp
  | _ :: _, h, _, .head _ => h.1
  | _ :: _, h, _, .tail _ hp => ltAll_of h.2 _ hp
theorem sio_core (w : World) (gd : Option (List Code)) (ev : Env) (outer : List Env) (A₀ : Around) (base h₀ : Heap) (L : Addr) (m mg mb : Str → Option Value) (mean : ExcName → Option Value) (s : Shared)
    (Q E : Value → Shared → Prop) (B : Below A₀ base outer h₀) (F : Fr h₀ L s.heap m) (X : (Mine.hd.heap_1 w.params).In h₀) (T : Top Mine.qv loose mean mg mb h₀)
    (line : Str) (t : Tok) (rest : List (Addr × Obj)) (N : News h₀ L s.heap rest) (hb : line.length ≤ 1048576)
    (hret : ∀ io dio h' tk' hh tt tp, Fr h₀ L h' m → News h₀ L h' ((io, instObj 604 dio) :: (dio, dictOf (siodT hh tt tp line 0) 3) :: rest) → (∀ p ∈ rest, p.1 < dio) → dio < io → Q (.ref io) { s with heap := h', toks := tk' }) :
    wpAny (MM w) (AT 600 gd (some (envK ev L :: outer))) (call (.ref 604) [.str line t]) Q E s := by
  have X' := X.keeps F.keep
  refine wpAny_call (make_own (K := Mine.hd.heap_1 w.params) (fN := 97) (fI := 374) X' (by kernel_rfl) (by kernel_rfl) ?_ (by kernel_rfl) (by kernel_rfl) ?_)
  · intro A Q E h
    refine' cls_sm (K := Mine.hd.heap_1 w.params) F X ?k3 ?k4 ?k5 ?k6 ?k7 h
    case k3 => k_is
    case k4 => k_is
    case k5 => k_is
    case k6 => k_is
    case k7 => k_handed
  k_steps
  unfold Hold
  refine' new_own (by k_asm) (by k_asm) (by k_asm) (by kernel_rfl) ?_
  intro x' d' h' F' N' l1 l2
  (try k_lt l1)
  (try k_lt2 l2)
  (try k_sweep)
  k_steps
  unfold Hold
  refine' own_mid (by k_in) (by k_inst) ?_
  k_enter
  k_steps
  rename News _ _ _ _ => N9
  exact hret _ _ _ _ (pick3 _ _ _) (pick5 _ _ _ _ _) _ (by assumption) (news_24 N9) (ltAll_of (And.right (And.right (by assumption)))) (by assumption)
theorem sio_use {w : World} {A : Around} {env : Env} {outer : List Env} {A₀ : Around} {base h₀ : Heap} {L : Addr} {m mg mb : Str → Option Value} {mean : ExcName → Option Value} {s : Shared} {Q E : Value → Shared → Prop} {line : Str} {t : Tok} {nw : List (Addr × Obj)}
    (hA : A.frames = some (env :: outer)) (hf : env.frame = some L) (hk : env.scope.kind = .function) (B : Below A₀ base outer h₀) (F : Fr h₀ L s.heap m) (X : (Mine.hd.heap_1 w.params).In h₀) (T : Top Mine.qv loose mean mg mb h₀)
    (N : News h₀ L s.heap nw) (hb : line.length ≤ 1048576)
    (hret : ∀ io dio h' tk' hh tt tp, Fr h₀ L h' m → News h₀ L h' ((io, instObj 604 dio) :: (dio, dictOf (siodT hh tt tp line 0) 3) :: nw) → (∀ p ∈ nw, p.1 < dio) → dio < io → Q (.ref io) { s with heap := h', toks := tk' })
    (lvl : Lvl A 600 0) :
    wpAny (MM w) A (call (.ref 604) [.str line t]) Q E s := by
  rw [envK_eq hf hk] at hA
  exact to_AT 600 lvl.1 lvl.2.1 lvl.2.2 hA (sio_core w _ _ _ _ _ _ _ _ _ _ _ _ _ _ B F X T line t nw N hb hret)
end
-- CSplit
section
set_option maxHeartbeats 4000000
open PySem PySem.W PyProof.Rows PySem.Calls
noncomputable abbrev scK (cs : Scope) : Scope := { cs with kind := .function }
theorem list_use {w : World} {A A₀ : Around} {env : Env} {outer : List Env} {base h₀ : Heap} {L : Addr} {m mg mb : Str → Option Value} {mean : ExcName → Option Value} {s : Shared}
    {Q E : Value → Shared → Prop} {x dx io dio d1 d2 : Nat} {hh : Nat → Int} {tt : Nat → Tok} {h : Nat → Int} {k v : Nat → Tok} {tp ttk tst : Tok} {buf : Str} {rest : List (Addr × Obj)} {l : List (List Nat)}
    (hA : A.frames = some (env :: outer)) (hf : env.frame = some L) (hk : env.scope.kind = .function)
    (XB : (Mine.hd.heap_1 w.params).In base) (TB : Top Mine.qv loose mean mg mb base) (B : Below A₀ base outer h₀) (X : (Mine.hd.heap_1 w.params).In h₀) (T : Top Mine.qv loose mean mg mb h₀) (D : KtsDicts (outer.filterMap (·.frame)) h₀)
    (hrest : ∀ p ∈ rest, p.1 ≠ dio) (hrest2 : ∀ p ∈ rest, p.1 ≠ dx)
    (hdx : dio < io) (hdx2 : dx < x) (hdx3 : x < dio) (hd1 : io < d1) (hd2 : d1 < d2) (hb : buf.length ≤ 1048576) (hl : l.length ≤ 100000) (hline : LineAt buf 0 l)
    (F : Fr h₀ L s.heap m) (N : News h₀ L s.heap (lexL x dx io dio d1 d2 hh tt h k v buf (.str " " tst) ttk tp 0 rest))
    (hfin : ∀ g h' tk' dl zs c', KtsTurn (outer.filterMap (·.frame)) h₀ g → Fr g L h' m → News g L h' ((dl, listOf zs c') :: rest) → Below A₀ base outer g → (Mine.hd.heap_1 w.params).In g → Top Mine.qv loose mean mg mb g → KtsDicts (outer.filterMap (·.frame)) g →
      zs.toList.map (fun z => match z with | .str y _ => y.cps.toList | _ => []) = l → (∀ z ∈ zs.toList, ∃ y t, z = .str y t) → (∀ p ∈ rest, p.1 < dl) → Q (.ref dl) { s with heap := h', toks := tk' })
    (lvl : Lvl A 450 5) :
    wpAny (MM w) A (call (.type "list") [.ref x]) Q E s := by
  rw [envK_eq hf hk] at hA
  exact list_lex hA lvl.1 lvl.2.1 lvl.2.2 XB TB B X T D x dx io dio d1 d2 hh tt h k v tp ttk tst buf rest hrest hrest2 hdx hdx2 hdx3 hd1 hd2 hb l hl hline F N hfin
noncomputable def pick19 {α : Type} (a1 a2 a3 a4 a5 a6 a7 a8 a9 a10 a11 a12 a13 a14 a15 a16 a17 a18 a19 : α) : Nat → α := fun n => match n with | 1 => a1 | 2 => a2 | 3 => a3 | 4 => a4 | 5 => a5 | 6 => a6 | 7 => a7 | 8 => a8 | 9 => a9 | 10 => a10 | 11 => a11 | 12 => a12 | 13 => a13 | 14 => a14 | 15 => a15 | 16 => a16 | 17 => a17 | 18 => a18 | _ => a19
noncomputable def pickV {α : Type} (a5 a6 a7 a9 a10 a11 a14 a15 a19 : α) : Nat → α := fun n => match n with | 5 => a5 | 6 => a6 | 7 => a7 | 9 => a9 | 10 => a10 | 11 => a11 | 14 => a14 | 15 => a15 | _ => a19
theorem news_perm6 {h₀ h : Heap} {L : Addr} {a b c d e f : Addr × Obj} {l : List (Addr × Obj)} (N : News h₀ L h (a :: b :: c :: d :: e :: f :: l)) : News h₀ L h (e :: f :: c :: d :: b :: a :: l) := fun p hp => N p (by
  simp only [List.mem_cons] at hp ⊢
  rcases hp with hp | hp | hp | hp | hp | hp | hp <;> simp only [hp, true_or, or_true])
theorem lex_shape {g hp : Heap} {L io d1 d2 dx : Addr} {a b c d e : Addr × Obj} {l : List (Addr × Obj)} {h1 h2 h3 h4 h5 h6 h7 h8 h9 h10 h11 h12 h13 h14 h15 h16 h17 h18 h19 : Int} {k1 k2 k3 k4 k5 k6 k7 k8 k9 k10 k11 k12 k13 k14 k15 k16 k17 k18 k19 v5 v6 v7 v9 v10 v11 v14 v15 v19 tst ttk : Tok}
    (N : News g L hp (a :: b :: c :: d :: e :: (dx, dictOf [⟨h1, .str "instream" k1, .ref io⟩, ⟨h2, .str "infile" k2, .none⟩, ⟨h3, .str "posix" k3, .bool true⟩, ⟨h4, .str "eof" k4, .none⟩, ⟨h5, .str "commenters" k5, .str "" v5⟩, ⟨h6, .str "wordchars" k6, .str WCH v6⟩, ⟨h7, .str "whitespace" k7, .str " \t\r\n" v7⟩, ⟨h8, .str "whitespace_split" k8, .bool true⟩, ⟨h9, .str "quotes" k9, .str "'\"" v9⟩, ⟨h10, .str "escape" k10, .str "\\" v10⟩, ⟨h11, .str "escapedquotes" k11, .str "\"" v11⟩, ⟨h12, .str "state" k12, .str " " tst⟩, ⟨h13, .str "pushback" k13, .ref d1⟩, ⟨h14, .str "lineno" k14, .int 1 v14⟩, ⟨h15, .str "debug" k15, .int 0 v15⟩, ⟨h16, .str "token" k16, .str "" ttk⟩, ⟨h17, .str "filestack" k17, .ref d2⟩, ⟨h18, .str "source" k18, .none⟩, ⟨h19, .str "_punctuation_chars" k19, .str "" v19⟩] 19) :: l)) : ∃ h k v tst ttk, News g L hp (e :: (dx, dictOf (lexD h k v io d1 d2 (.str " " tst) "" ttk) 19) :: c :: d :: b :: a :: l) :=
  ⟨pick19 h1 h2 h3 h4 h5 h6 h7 h8 h9 h10 h11 h12 h13 h14 h15 h16 h17 h18 h19, pick19 k1 k2 k3 k4 k5 k6 k7 k8 k9 k10 k11 k12 k13 k14 k15 k16 k17 k18 k19, pickV v5 v6 v7 v9 v10 v11 v14 v15 v19, tst, ttk, news_perm6 N⟩
theorem KCSplit.callHeld {M : Model} {A : Around} {f : Addr} {as : List Value} {Q E : Value → Shared → Prop} {s : Shared} (hf : held f [604] = true) (h : Hold (wpAny M A (call (.ref f) as) Q E s)) : wpAny M A (call (.ref f) as) Q E s := call_hold hf h
open KPost KCallTypeList KCallTypeCollectionsDeque KCSplit
theorem split_core (w : World) (gd : Option (List Code)) (cn : Str) (cs : Scope) (a : Addr) (ccd : Value) (outer : List Env) (A₀ : Around) (base h₀ : Heap) (L : Addr) (m mg mb : Str → Option Value) (mean : ExcName → Option Value) (s : Shared)
    (Q E : Value → Shared → Prop) (B : Below A₀ base outer h₀) (F : Fr h₀ L s.heap m) (X : (Mine.hd.heap_1 w.params).In h₀) (T : Top Mine.qv loose mean mg mb h₀) (XB : (Mine.hd.heap_1 w.params).In base) (TB : Top Mine.qv loose mean mg mb base) (D : KtsDicts (outer.filterMap (·.frame)) h₀)
    (line : Str) (t : Tok) (rest : List (Addr × Obj)) (N : News h₀ L s.heap rest) (hb : line.length ≤ 1048576) (l : List (List Nat)) (hl : l.length ≤ 100000) (hline : LineAt line 0 l)
    (hret : ∀ g h' tk' dl zs c', KtsTurn (outer.filterMap (·.frame)) h₀ g → Fr g L h' m → News g L h' ((dl, listOf zs c') :: rest) → Below A₀ base outer g → (Mine.hd.heap_1 w.params).In g → Top Mine.qv loose mean mg mb g → KtsDicts (outer.filterMap (·.frame)) g →
      zs.toList.map (fun z => match z with | .str y _ => y.cps.toList | _ => []) = l → (∀ z ∈ zs.toList, ∃ y t, z = .str y t) → (∀ p ∈ rest, p.1 < dl) → Q (.ref dl) { s with heap := h', toks := tk' }) :
    wpAny (MM w) (AT 400 gd (some (envOf cn (scK cs) L a ccd :: outer))) (call (.ref 751) [.str line t]) Q E s := by
  refine wpAny_call ?_
  have X9 := X
  have T9 := T
  kts_go
  refine gen_pass (by first | passes_own | with_unfolding_all passes_own) ?_
  intro QQ EE hQQ hEE hpo
  k_steps
  unfold Hold
  refine' sio_use (lvl := lvO rfl rfl rfl) rfl rfl rfl (by k_asm) (by k_asm) (by k_asm) (by k_asm) (by k_asm) ‹_› ?_
  intro io' dio' h' tk' hh' tt' tp' F' N' l1 l2
  (try k_lt l1)
  (try k_lt2 l2)
  (try k_sweep)
  (try dsimp only)
  (try k_fold)
  k_steps
  unfold Hold
  refine' deq_K (by k_asm) (by k_asm) ?_
  intro d' h' F' N' l1
  (try k_lt l1)
  (try k_sweep)
  k_steps
  unfold Hold
  refine' deq_K (by k_asm) (by k_asm) ?_
  intro d' h' F' N' l1
  (try k_lt l1)
  (try k_sweep)
  k_steps
  unfold Hold
  rename News _ _ _ _ => N9
  obtain ⟨hF, kF, vF, tstF, ttkF, N10⟩ := lex_shape N9
  refine' list_use (h := hF) (k := kF) (v := vF) ?kA ?kF ?kK ?k1 ?k2 ?k3 ?k4 ?k5 ?k6 ?r1 ?r2 ?o1 ?o2 ?o3 ?o4 ?o5 ?k7 ?k8 ?k9 ?k10 ?k11 ?_ ?e1
  case kA => exact rfl
  case kF => exact rfl
  case kK => exact rfl
  case k1 => exact XB
  case k2 => exact TB
  case k3 => assumption
  case k10 => assumption
  case k11 => exact N10
  case k4 => assumption
  case k5 => assumption
  case k6 => assumption
  case r1 => exact ne_allLt (And.right (And.right (by assumption)))
  case r2 => exact fun p hp => Nat.ne_of_lt ((by assumption : ∀ p ∈ rest, p.1 < _) p hp)
  case o1 => assumption
  case o2 => assumption
  case o3 => exact And.left (by assumption)
  case o4 => exact And.left (by assumption)
  case o5 => exact And.left (by assumption)
  case k7 => exact hb
  case k8 => exact hl
  case k9 => exact hline
  case e1 => exact lvO rfl rfl rfl
  intro g1 h1 tk1 dl zs c1 T1 F1 N1 B1 X1 P1 D1 z1 z2 z3
  dsimp only
  k_steps
  exact hret _ _ _ _ _ _ (by assumption) (by assumption) (by assumption) (by assumption) (by assumption) (by assumption) (by assumption) z1 z2 z3
end
-- CEnt
section
set_option maxHeartbeats 4000000
open PySem PySem.W PyProof.Rows PySem.Calls
section
variable {prog : Program} {w : World} {A₀ A : Around} {s s' : Shared} {base h₀ : Heap} {outer : List Env} {L : Addr} {m : Str → Option Value} {env : Env} {news : List (Addr × Obj)} {K : Frag} {p : Program} {loose : List Str} {mean : ExcName → Option Value} {mg mb : Str → Option Value}
  {R : Result → Shared → Prop} {name qual : Str} {params : Arguments} {body : List Stmt} {scope : Scope} {dV kV doc pm cdv ct oc : Value} {an od : Option Addr} {osl : Array (Option Value)} {f : Addr} {args : Args} {binds : List (Str × Value)}
theorem frames_mem (hf : env.frame = some L) {b : Addr} (hb : b ∈ (env :: outer).filterMap (·.frame)) : b = L ∨ b ∈ outer.filterMap (·.frame) := by
  rw [List.filterMap_cons, hf] at hb
  exact List.mem_cons.mp hb
/-- back out of a callee that has turned the base: any caller's env -/
theorem back_S (B : Below A₀ base outer h₀) (F : Fr h₀ L s.heap m) (N : News h₀ L s.heap news) (hf : env.frame = some L) (st : h₀.StaysIn (hideAll s.heap (news.map (·.1)))) (FG : Fr h₀ L (hideAll s.heap (news.map (·.1))) m) (XB : K.In base) (TB : Top p loose mean mg mb base) (D : KtsDicts (outer.filterMap (·.frame)) h₀)
    {g' : Heap} {L' : Addr} {m' : Str → Option Value} {news' : List (Addr × Obj)} (T' : KtsTurn ((env :: outer).filterMap (·.frame)) (hideAll s.heap (news.map (·.1))) g') (F' : Fr g' L' s'.heap m') (N' : News g' L' s'.heap news') :
    ∃ h₁, KtsTurn (outer.filterMap (·.frame)) h₀ h₁ ∧ Fr h₁ L s'.heap m ∧ News h₁ L s'.heap news' ∧ Below A₀ base outer h₁ ∧ K.In h₁ ∧ Top p loose mean mg mb h₁ ∧ KtsDicts (outer.filterMap (·.frame)) h₁ := by
  obtain ⟨oL, es, ep, hL, hLd, hLk, hLf⟩ := FG.ns
  obtain ⟨sl, hs⟩ := T'.up hL
  have self : h₀.get? L = none := kts_self F
  have out : ∀ b o, h₀.get? b = some o → b ∉ outer.filterMap (·.frame) → s'.heap.get? b = some o := fun b o e hb => by
    refine F'.keep b o (T'.other b o (st b o e) fun hm => ?_)
    rcases frames_mem hf hm with q | q
    · rw [q, self] at e; cases e
    · exact hb q
  obtain ⟨T₁, S₁⟩ := kts_turn_at (h := s'.heap) (fs := outer.filterMap (·.frame)) (g := h₀) (fun b hb => ⟨_, (B.frames.mem hb).2.choose_spec.1⟩) out fun b o e _ => by
    obtain ⟨sl', hs'⟩ := T'.up (st b o e)
    exact ⟨sl', F'.keep _ _ hs'⟩
  have B₁ : Below A₀ base outer (ktsHeap s'.heap (outer.filterMap (·.frame)) h₀) := by
    refine ⟨B.stack, fun b o e => T₁.other b o (B.stays b o e) fun hm => ?_, B.frames.of_keeps fun b o e _ => ?_⟩
    · rw [(B.frames.mem hm).1] at e; cases e
    · obtain ⟨sl', hs'⟩ := T₁.up e
      exact ⟨_, hs', rfl⟩
  refine ⟨_, T₁, ⟨⟨_, es, ep, F'.keep _ _ hs, hLd, hLk, hLf⟩, S₁, by rw [T₁.size]; exact F.above⟩, fun q hq => ⟨(N' q hq).1, fun e => ?_, ?_⟩, B₁, XB.keeps B₁.stays, TB.keeps B₁.stays, D.turn T₁⟩
  · have z := (N' q hq).2.2
    rw [e, hs] at z
    cases z
  · refine T₁.none_ _ ?_
    cases e : h₀.get? q.1 with
    | none => rfl
    | some o =>
      obtain ⟨sl', hs'⟩ := T'.up (st _ _ e)
      have z := (N' q hq).2.2
      rw [hs'] at z
      cases z
theorem dicts_S (B : Below A₀ base outer h₀) (hf : env.frame = some L) (st : h₀.StaysIn (hideAll s.heap (news.map (·.1)))) (FG : Fr h₀ L (hideAll s.heap (news.map (·.1))) m) (D : KtsDicts (outer.filterMap (·.frame)) h₀) : KtsDicts ((env :: outer).filterMap (·.frame)) (hideAll s.heap (news.map (·.1))) := fun b hb => by
  rcases frames_mem hf hb with rfl | hb
  · obtain ⟨oL, es, ep, hL, hLd, _⟩ := FG.ns
    exact ⟨oL, es, ep, hL, hLd⟩
  · obtain ⟨o, es, n, ho, hd⟩ := D b hb
    exact ⟨o, es, n, st b o ho, hd⟩
/-- a call whose callee may turn the base; any caller's env, a callee without cells -/
theorem code_S (B : Below A₀ base outer h₀) (F : Fr h₀ L s.heap m) (X₀ : K.In h₀) (N : News h₀ L s.heap news) (T : Top p loose mean mg mb h₀) (XB : K.In base) (TB : Top p loose mean mg mb base) (D : KtsDicts (outer.filterMap (·.frame)) h₀)
    (hA : A.frames = some (env :: outer)) (hf : env.frame = some L) (hke : env.scope.kind = .function)
    (ho : K.lookup f = some ⟨oc, od, .func (fnOf name qual params body scope dV kV doc pm an cdv ct), osl⟩) (hcd : codeIn K cdv qual = true) (hroom : A.depth < recursionLimit)
    (hbind : BindsTo s (fnOf name qual params body scope dV kV doc pm an cdv ct) args binds) (hloc : ∀ y ∈ binds, scope.names.lookup y.1 = some .local)
    (h : ∀ g L' h₁, Fr h₀ L g m → Fr g L' h₁ (fun y => binds.reverse.lookup y) → News g L' h₁ news → Below A base (env :: outer) g → K.In g → Top p loose mean mg mb g → KtsDicts ((env :: outer).filterMap (·.frame)) g →
      wpAny (model prog w) (A.deeper (envOf qual scope L' f cdv)) (execs body (envOf qual scope L' f cdv))
        (fun fl s' => LeaveS ((env :: outer).filterMap (·.frame)) A₀ base outer K p loose mean mg mb h₀ h₀ L m g R (match fl with | .ret v => v | _ => .none) s')
        (fun e s' => wpAny (model prog w) (A.deeper (envOf qual scope L' f cdv)) (leaving (envOf qual scope L' f cdv) e) (fun _ s'' => R (.error e) s'') (fun e' s'' => R (.error e') s'') s')
        { s with heap := h₁, toks := s.toks + binds.length })
    (hco : scope.isCoroutine = false) (hgen : scope.isGenerator = false) (hk : scope.kind = .function)
    (hcell : ∀ x ∈ scope.names, x.2 ≠ .cell) : codeAny (model prog w) A (.call (.ref f) args) R s := by
  obtain ⟨FG, BG, st, lv⟩ := groundX (R := R) B F N hA hf hke
  have X := X₀.keeps F.keep
  refine codeAny_call_def (fd := fnOf name qual params body scope dV kV doc pm an cdv ct) (body := body) (binds := binds) hroom (X _ _ ho) rfl (T.nolimit.keeps F.keep) (codeRec_of X hcd) rfl hbind hcell hloc (fun h₁ hns hk₁ => ?_) hco hgen hk
  refine wpAny_mono (h _ s.heap.objs.size h₁ FG ⟨hns, fun b o e => hk₁ b o (of_hideAll _ e), Nat.le_of_eq (hideAll_size _ _)⟩
    (fun q hq => ⟨hk₁ _ _ (N q hq).1, Nat.ne_of_lt (Heap.lt_size (N q hq).1), hideAll_none _ (List.mem_map_of_mem hq)⟩) BG (X₀.keeps st) (T.keeps st) (dicts_S B hf st FG D)) (fun fl s' hl => ?_) fun _ _ y => y
  rcases hl with ⟨L', m', news', F', N', k⟩ | ⟨g', L', m', news', T', F', N', k⟩
  · exact lv _ _ ⟨L', m', news', F', N', k⟩
  · obtain ⟨h₂, a1, a2, a3, a4, a5, a6, a7⟩ := back_S B F N hf st FG XB TB D T' F' N'
    exact k h₂ a1 a2 a3 a4 a5 a6 a7
/-- the same for a callee with cells -/
theorem code_SC (B : Below A₀ base outer h₀) (F : Fr h₀ L s.heap m) (X₀ : K.In h₀) (N : News h₀ L s.heap news) (T : Top p loose mean mg mb h₀) (XB : K.In base) (TB : Top p loose mean mg mb base) (D : KtsDicts (outer.filterMap (·.frame)) h₀)
    (hA : A.frames = some (env :: outer)) (hf : env.frame = some L) (hke : env.scope.kind = .function)
    (ho : K.lookup f = some ⟨oc, od, .func (fnOf name qual params body scope dV kV doc pm an cdv ct), osl⟩) (hcd : codeIn K cdv qual = true) (hroom : A.depth < recursionLimit)
    (hbind : BindsTo s (fnOf name qual params body scope dV kV doc pm an cdv ct) args binds) (hkind : (binds.all fun y => scope.names.lookup y.1 == some .local || scope.names.lookup y.1 == some .cell) = true)
    (hnd : ((cellsFrom 0 scope.names []).map (·.1)).Nodup)
    (h : ∀ g L' h₁ tk cells, Fr h₀ L g m → Fr g L' h₁ (bindL (envOfC qual scope L' f cdv).kindOf binds fun _ => none) → News g L' h₁ (cells ++ news) →
      CellsAre (bindC (envOfC qual scope L' f cdv).kindOf binds fun _ => none) (cellsFrom (L' + 1) scope.names []) cells → Below A base (env :: outer) g → K.In g → Top p loose mean mg mb g → (∀ p ∈ news, p.1 < L') → KtsDicts ((env :: outer).filterMap (·.frame)) g →
      wpAny (model prog w) (A.deeper (envOfC qual scope L' f cdv)) (execs body (envOfC qual scope L' f cdv))
        (fun fl s' => LeaveS ((env :: outer).filterMap (·.frame)) A₀ base outer K p loose mean mg mb h₀ h₀ L m g R (match fl with | .ret v => v | _ => .none) s')
        (fun e s' => wpAny (model prog w) (A.deeper (envOfC qual scope L' f cdv)) (leaving (envOfC qual scope L' f cdv) e) (fun _ s'' => R (.error e) s'') (fun e' s'' => R (.error e') s'') s')
        { s with heap := h₁, toks := tk })
    (hco : scope.isCoroutine = false) (hgen : scope.isGenerator = false) (hk : scope.kind = .function) : codeAny (model prog w) A (.call (.ref f) args) R s := by
  obtain ⟨FG, BG, st, lv⟩ := groundX (R := R) B F N hA hf hke
  have X := X₀.keeps F.keep
  refine codeAny_call_function hroom (X _ _ ho) rfl hco hgen rfl (codeRec_of X hcd) (hbind _ _ _ _ ?_)
  refine wpAny_newFunctionEnv_cells hk (kindsX hkind _) fun env' he s₂ x => ?_
  subst he
  refine ⟨(T.nolimit.keeps F.keep).keeps x.toInCall.keep, codeAny_func ?_⟩
  obtain ⟨h₁, tk, rfl, _⟩ := x.done
  have hk₁ := x.toInCall.keep
  obtain ⟨cells, NC, Y⟩ := Cl.news (h₀ := s.heap) (Nat.le_refl _) fun n c hm => ⟨x.cell n c (lookup_of_mem_nodup (cellsFrom_names scope.names 0 (s.heap.objs.size + 1) [] [] rfl ▸ hnd) hm), x.above n c hm⟩
  refine wpAny_mono (h _ s.heap.objs.size h₁ tk cells FG ⟨x.toInCall.ns, fun b o e => hk₁ b o (of_hideAll _ e), Nat.le_of_eq (hideAll_size _ _)⟩ (fun q hq => ?_) Y BG (X₀.keeps st) (T.keeps st) (fun q hq => Heap.lt_size (N q hq).1) (dicts_S B hf st FG D)) (fun fl s' hl => ?_) fun _ _ y => y
  · rcases List.mem_append.mp hq with hq | hq
    · refine ⟨(NC q hq).1, (NC q hq).2.1, ?_⟩
      cases e : (hideAll s.heap (news.map (·.1))).get? q.1 with
      | none => rfl
      | some o => have z := (NC q hq).2.2; rw [of_hideAll _ e] at z; cases z
    · exact ⟨hk₁ _ _ (N q hq).1, Nat.ne_of_lt (Heap.lt_size (N q hq).1), hideAll_none _ (List.mem_map_of_mem hq)⟩
  · rcases hl with ⟨L', m', news', F', N', k⟩ | ⟨g', L', m', news', T', F', N', k⟩
    · exact lv _ _ ⟨L', m', news', F', N', k⟩
    · obtain ⟨h₂, a1, a2, a3, a4, a5, a6, a7⟩ := back_S B F N hf st FG XB TB D T' F' N'
      exact k h₂ a1 a2 a3 a4 a5 a6 a7
end
end
-- CQuote
section
set_option maxHeartbeats 4000000
open PySem PySem.W PyProof.Rows PySem.Calls PySem.Builtin.Re
/-- what the pattern's search tells of a text -/
noncomputable def found (K : Frag) (S : Setting) (x : Str) (t : Tok) : Option Bool := match peek K S (reTarget "re.Pattern.search" "search" ⟨[.ref 56, .str x t], []⟩) with
  | some tg => (match peek K S (reRunToEnd (Sre.forSearch tg.code tg.text tg.groups tg.pos tg.lim false)) with
    | some none => some false
    | some (some _) => if tg.groups = 0 then some true else none
    | none => none)
  | none => none
noncomputable def wordP (k c : Nat) : Str := ⟨(List.replicate k 32 ++ [c]).toArray⟩
noncomputable def qsafe (k c : Nat) : Bool := k == 0 && (c == 120 || c == 37)
theorem found_list (w : World) (t : Tok) : ((List.range 15).all fun k => [120, 37, 126, 35].all fun c => found (Mine.hd.heap_1 w.params) ⟨PySem.Challenge.pw_oy0383_01, w.params⟩ (wordP k c) t == some (!qsafe k c)) = true := by kernel_rfl
theorem found_all (w : World) (t : Tok) {k c : Nat} (hk : k < 15) (hc : c ∈ [120, 37, 126, 35]) : found (Mine.hd.heap_1 w.params) ⟨PySem.Challenge.pw_oy0383_01, w.params⟩ (wordP k c) t = some (!qsafe k c) :=
  eq_of_beq (List.all_eq_true.mp (List.all_eq_true.mp (found_list w t) k (List.mem_range.mpr hk)) c hc)
theorem callWith_P {M : Model} {A : Around} {E : Value → Shared → Prop} {s : Shared} {K : Frag} {env : Env} {pos : Pos} {f : Value} {first : List Value} {Q : Value → Shared → Prop} {h₀ : Heap} {e : Expr} {rest : List Expr} (_X : K.In h₀) (hk : peek K ⟨M.prog, M.w.params⟩ (keeperOf f) = some .machine)
    (h : wpAny M A (spliced (backTo pos (starEach (e :: rest) env))) (fun vs s₁ => K.In s₁.heap ∧ wpAny M A (call f (first ++ vs)) Q E s₁) E s)
    (he : starEach (e :: rest) env = (false, eval e env) :: starEach rest env := by rfl) (hplain : (backTo pos (starEach rest env)).any (·.1) = false := by rfl) :
    wpAny M A (callWith pos f first (backTo pos (starEach (e :: rest) env)) []) Q E s := by
  rw [he] at h ⊢
  exact callWith_of (P := K.In) (by show ((false || (backTo pos (starEach rest env)).any (·.1)) || false) = false; rw [hplain]; rfl) (fun h X => ⟨.machine, .inr (.inl rfl), Looks.of_peek X hk⟩) (evalArgs_plain h)
theorem entry_search : entryFor table "re.Pattern.search" = some Builtin.«re.Pattern.search» := entryFor_of_tree (by kernel_rfl)
theorem plain_search : plainId "re.Pattern.search" = true := by decide +kernel
section
variable {w : World} {A : Around} {E : Value → Shared → Prop} {s : Shared} {Q : Value → Shared → Prop} {h₀ : Heap} {L : Addr} {m : Str → Option Value} {nw : List (Addr × Obj)}
theorem search_K (b : Bool) {x : Str} {t : Tok} (F : Fr h₀ L s.heap m) (X₀ : (Mine.hd.heap_1 w.params).In h₀) (N : News h₀ L s.heap nw) (hf : found (Mine.hd.heap_1 w.params) ⟨PySem.Challenge.pw_oy0383_01, w.params⟩ x t = some b)
    (hret : ∀ h' tk' v, Fr h₀ L h' m → News h₀ L h' nw → (v = .none ∧ b = false ∨ ∃ a, v = .ref a ∧ b = true) → Q v { s with heap := h', toks := tk' }) :
    wpAny (MM w) A (call (.ref 759) [.str x t]) Q E s := by
  have X := X₀.keeps F.keep
  unfold found at hf
  split at hf
  case h_2 => cases hf
  rename_i tg htg
  obtain ⟨hh, g, d, tk, os⟩ := s
  have o759 : hh.get? 759 = some { cls := .type "builtin_function_or_method", data := .fields #[.builtin "re.Pattern.search", .ref 56] } := X _ _ (by kernel_rfl)
  refine wpAny_call (codeAny_of_tree ?_)
  show wpAny _ _ (callAny (.ref 759) _) _ _ _
  refine nd_load o759 ?_
  show wpAny _ _ (checkBoundCall "re.Pattern.search" ⟨[.ref 56, .str x t], []⟩ >>= fun _ => again (.builtin "re.Pattern.search" ⟨[.ref 56, .str x t], []⟩)) _ _ _
  have L1 : Looks (MM w) hh (checkBoundCall "re.Pattern.search" ⟨[.ref 56, .str x t], []⟩) () := Looks.of_peek X (by kernel_rfl)
  refine wpAny_bind (L1.at (wpAny_pure ⟨plainId_quiet plain_search _, codeAny_builtin entry_search ?_⟩))
  rw [Around.under_plainId plain_search _]
  unfold Builtin.«re.Pattern.search»
  have L2 : Looks (MM w) hh (reTarget "re.Pattern.search" "search" ⟨[.ref 56, .str x t], []⟩) tg := Looks.of_peek X htg
  refine wpAny_bind (L2.at ?_)
  unfold reAnswer
  split at hf
  · rename_i hr
    have L3 : Looks (MM w) hh _ none := Looks.of_peek X hr
    refine wpAny_bind (L3.at (wpAny_pure ?_))
    cases hf
    exact hret _ _ _ F N (.inl ⟨rfl, rfl⟩)
  · rename_i mm hr
    split at hf
    case isFalse => cases hf
    rename_i hg
    have L3 : Looks (MM w) hh _ (some mm) := Looks.of_peek X hr
    refine wpAny_bind (L3.at ?_)
    cases hf
    dsimp only
    rw [hg]
    refine wpAny_bind ?_
    unfold reNewMatch
    simp only [List.range_zero, List.flatMap_nil, List.any_nil, Bool.false_eq_true, if_false, newTuple, newFields, newObj]
    wp_walk
    exact hret _ _ _ ((F.push _).push _) (N.grown fun b o e => Heap.get?_push_of_some _ (Heap.get?_push_of_some _ e)) (.inr ⟨_, rfl, rfl⟩)
  · cases hf
end
theorem search_some {w : World} {A : Around} {E : Value → Shared → Prop} {s : Shared} {Q : Value → Shared → Prop} {h₀ : Heap} {L : Addr} {m : Str → Option Value} {nw : List (Addr × Obj)} {x : Str} {t : Tok} (F : Fr h₀ L s.heap m) (X₀ : (Mine.hd.heap_1 w.params).In h₀) (N : News h₀ L s.heap nw) (hf : found (Mine.hd.heap_1 w.params) ⟨PySem.Challenge.pw_oy0383_01, w.params⟩ x t = some true)
    (hret : ∀ h' tk' a, Fr h₀ L h' m → News h₀ L h' nw → Q (.ref a) { s with heap := h', toks := tk' }) : wpAny (MM w) A (call (.ref 759) [.str x t]) Q E s :=
  search_K true F X₀ N hf fun h' tk' v F' N' hv => by
    rcases hv with ⟨_, hb⟩ | ⟨a, rfl, _⟩
    · cases hb
    · exact hret h' tk' a F' N'
theorem search_none {w : World} {A : Around} {E : Value → Shared → Prop} {s : Shared} {Q : Value → Shared → Prop} {h₀ : Heap} {L : Addr} {m : Str → Option Value} {nw : List (Addr × Obj)} {x : Str} {t : Tok} (F : Fr h₀ L s.heap m) (X₀ : (Mine.hd.heap_1 w.params).In h₀) (N : News h₀ L s.heap nw) (hf : found (Mine.hd.heap_1 w.params) ⟨PySem.Challenge.pw_oy0383_01, w.params⟩ x t = some false)
    (hret : ∀ h' tk', Fr h₀ L h' m → News h₀ L h' nw → Q .none { s with heap := h', toks := tk' }) : wpAny (MM w) A (call (.ref 759) [.str x t]) Q E s :=
  search_K false F X₀ N hf fun h' tk' v F' N' hv => by
    rcases hv with ⟨rfl, _⟩ | ⟨a, _, hb⟩
    · exact hret h' tk' F' N'
    · cases hb
end
-- CJoin
section
set_option maxHeartbeats 4000000
open PySem PySem.W PyProof.Rows PySem.Calls PySem.Builtin.Re
noncomputable def EndN (Q : Value → Shared → Prop) (v : Value) (s : Shared) : Prop := Q v s
theorem endN_and {P : Value → Prop} {R : Shared → Prop} {v : Value} {s : Shared} (h : P v) (k : R s) : EndN (fun v s' => P v ∧ R s') v s := ⟨h, k⟩
section
variable {prog : Program} {w : World} {A : Around} {s : Shared} {K : Frag} {p : Program} {loose : List Str} {mean : ExcName → Option Value} {mg mb : Str → Option Value} {Q E : Value → Shared → Prop}
  {name qual : Str} {params : Arguments} {body : List Stmt} {scope : Scope} {dV kV doc pm cdv ct oc : Value} {an od : Option Addr} {osl : Array (Option Value)} {f : Addr} {args : List Value} {binds : List (Str × Value)}
/-- a def is called: all that stands keeps; no word of the frames around -/
theorem call_keeps (X : K.In s.heap) (T : Top p loose mean mg mb s.heap)
    (ho : K.lookup f = some ⟨oc, od, .func (fnOf name qual params body scope dV kV doc pm an cdv ct), osl⟩) (hcd : codeIn K cdv qual = true) (hroom : A.depth < recursionLimit)
    (hbind : BindsTo s (fnOf name qual params body scope dV kV doc pm an cdv ct) ⟨args, []⟩ binds) (hloc : ∀ y ∈ binds, scope.names.lookup y.1 = some .local)
    (h : ∀ L' h₁, Fr s.heap L' h₁ (fun y => binds.reverse.lookup y) → News s.heap L' h₁ [] →
      wpAny (model prog w) (A.deeper (envOf qual scope L' f cdv)) (execs body (envOf qual scope L' f cdv))
        (fun fl s' => EndN Q (match fl with | .ret v => v | _ => .none) s')
        (fun e s' => wpAny (model prog w) (A.deeper (envOf qual scope L' f cdv)) (leaving (envOf qual scope L' f cdv) e) (fun _ s'' => E e s'') (fun e' s'' => E e' s'') s')
        { s with heap := h₁, toks := s.toks + binds.length })
    (hco : scope.isCoroutine = false) (hgen : scope.isGenerator = false) (hk : scope.kind = .function) (hcell : ∀ x ∈ scope.names, x.2 ≠ .cell) : wpAny (model prog w) A (call (.ref f) args) Q E s := by
  refine wpAny_call ?_
  refine codeAny_call_def (fd := fnOf name qual params body scope dV kV doc pm an cdv ct) (body := body) (binds := binds) hroom (X _ _ ho) rfl T.nolimit (codeRec_of X hcd) rfl hbind hcell hloc (fun h₁ hns hk₁ => ?_) hco hgen hk
  exact h s.heap.objs.size h₁ ⟨hns, hk₁, Nat.le_refl _⟩ (fun _ hp => nomatch hp)
end
theorem KCJoin.callHeld {M : Model} {A : Around} {f : Addr} {as : List Value} {Q E : Value → Shared → Prop} {s : Shared} (hf : held f [759] = true) (h : Hold (wpAny M A (call (.ref f) as) Q E s)) : wpAny M A (call (.ref f) as) Q E s := call_hold hf h
open KCallwithRef KCJoin
theorem keeps_of {h₀ h : Heap} {L : Addr} {m : Str → Option Value} {s : Shared} {tk : Nat} (e : h₀ = s.heap) (F : Fr h₀ L h m) : Keeps s { s with heap := h, toks := tk } := by subst e; exact ⟨h, tk, rfl, F.keep⟩
theorem quote_keeps (w : World) (A : Around) (E : Value → Shared → Prop) (s : Shared) (mg mb : Str → Option Value) (mean : ExcName → Option Value) (X : (Mine.hd.heap_1 w.params).In s.heap) (T : Top Mine.qv loose mean mg mb s.heap) (hroom : A.depth < recursionLimit)
    (x : Str) (t : Tok) (hx0 : ((x.length : Int) != 0) = true) (hx : x.length ≤ 100) (hrep : Txt.replace x "'" "'\"'\"'" = x) (hf : ∀ t, found (Mine.hd.heap_1 w.params) ⟨PySem.Challenge.pw_oy0383_01, w.params⟩ x t = some true) :
    wpAny (MM w) A (call (.ref 766) [.str x t]) (fun v s' => (∃ t', v = .str (Str.ofString "'" ++ x ++ Str.ofString "'") t') ∧ Keeps s s') E s := by
  have hf1 := hf t
  refine' call_keeps X T ?k6 ?k7 hroom ?k9 ?kB ?_ ?c2 ?c3 ?c4 ?c5
  case k6 => k_is
  case k7 => k_is
  case k9 => exact BindsTo.of_eq rfl
  case kB => exact locs rfl
  case c2 => exact rfl
  case c3 => exact rfl
  case c4 => exact rfl
  case c5 => decide
  intro L' h₁ F N
  have X1 := X
  have T1 := T
  dsimp only
  k_steps
  unfold Hold
  refine' callWith_P (by k_asm) (by kernel_rfl) ?_
  k_steps
  unfold Hold
  refine' search_some (by k_asm) (by k_asm) (by k_asm) ‹_› ?_
  intro h' tk' a' F' N'
  (try dsimp only)
  k_steps
  rw [hrep]
  k_steps
  refine endN_and ⟨_, rfl⟩ ?_
  exact ⟨_, _, rfl, Fr.keep (by assumption)⟩
theorem quote_keeps0 (w : World) (A : Around) (E : Value → Shared → Prop) (s : Shared) (mg mb : Str → Option Value) (mean : ExcName → Option Value) (X : (Mine.hd.heap_1 w.params).In s.heap) (T : Top Mine.qv loose mean mg mb s.heap) (hroom : A.depth < recursionLimit)
    (x : Str) (t : Tok) (hx0 : ((x.length : Int) != 0) = true) (hx : x.length ≤ 100) (hf : ∀ t, found (Mine.hd.heap_1 w.params) ⟨PySem.Challenge.pw_oy0383_01, w.params⟩ x t = some false) :
    wpAny (MM w) A (call (.ref 766) [.str x t]) (fun v s' => (∃ t', v = .str x t') ∧ Keeps s s') E s := by
  have hf1 := hf t
  refine' call_keeps X T ?k6 ?k7 hroom ?k9 ?kB ?_ ?c2 ?c3 ?c4 ?c5
  case k6 => k_is
  case k7 => k_is
  case k9 => exact BindsTo.of_eq rfl
  case kB => exact locs rfl
  case c2 => exact rfl
  case c3 => exact rfl
  case c4 => exact rfl
  case c5 => decide
  intro L' h₁ F N
  have X1 := X
  have T1 := T
  dsimp only
  k_steps
  unfold Hold
  refine' callWith_P (by k_asm) (by kernel_rfl) ?_
  k_steps
  unfold Hold
  refine' search_none (by k_asm) (by k_asm) (by k_asm) ‹_› ?_
  intro h' tk' F' N'
  (try dsimp only)
  k_steps
  refine endN_and ⟨_, rfl⟩ ?_
  exact ⟨_, _, rfl, Fr.keep (by assumption)⟩
/-- a word as quote writes it -/
noncomputable def qw (k c : Nat) : Str := if qsafe k c then wordP k c else Str.ofString "'" ++ wordP k c ++ Str.ofString "'"
theorem word_list : ((List.range 15).all fun k => [120, 37, 126, 35].all fun c => ((wordP k c).length : Int) != 0 && decide ((wordP k c).length ≤ 100) && (Txt.replace (wordP k c) "'" "'\"'\"'" == wordP k c)) = true := by kernel_rfl
theorem quote_word (w : World) (A : Around) (E : Value → Shared → Prop) (s : Shared) (mg mb : Str → Option Value) (mean : ExcName → Option Value) (X : (Mine.hd.heap_1 w.params).In s.heap) (T : Top Mine.qv loose mean mg mb s.heap) (hroom : A.depth < recursionLimit)
    {k c : Nat} (hk : k < 15) (hc : c ∈ [120, 37, 126, 35]) (t : Tok) :
    wpAny (MM w) A (call (.ref 766) [.str (wordP k c) t]) (fun v s' => (∃ t', v = .str (qw k c) t') ∧ Keeps s s') E s := by
  have hz := List.all_eq_true.mp (List.all_eq_true.mp word_list k (List.mem_range.mpr hk)) c hc
  simp only [Bool.and_eq_true, decide_eq_true_eq] at hz
  unfold qw
  cases hq : qsafe k c with
  | true =>
    simp only [if_true]
    exact quote_keeps0 w A E s mg mb mean X T hroom _ t hz.1.1 hz.1.2 fun t => by rw [found_all w t hk hc, hq]; rfl
  | false =>
    simp only [Bool.false_eq_true, if_false]
    exact quote_keeps w A E s mg mb mean X T hroom _ t hz.1.1 hz.1.2 (eq_of_beq hz.2) fun t => by rw [found_all w t hk hc, hq]; rfl
end
-- CJoin2
section
set_option maxHeartbeats 4000000
open PySem PySem.W PyProof.Rows PySem.Calls
noncomputable abbrev tabO (ps : Array Value) : Obj := { cls := .none, data := .fields ps }
theorem code_757 (w : World) : (Mine.hd.heap_1 w.params).lookup 757 = some { cls := .type "code", data := .fields #[.str "join" 1250, .str "join" 1251, .str "/claim/cut.py" 1252, .int 744 0, .int 1 0, .int 0 0, .int 0 0, .int 3 0, .ref 752, .bool true, .int 318 0, .ref 753, .none, .ref 754, .ref 755, .ref 756, .int 1254 0, .int 744 0, .str "/claim/cut.py" 1255] } := by kernel_rfl
theorem passing_all (n : Nat) : passing (fun _ => true) n 0 = List.range n := by simp [passing]
/-- the code of a generator expression: at hand, or made and noted in the table -/
theorem code_step {M : Model} {A : Around} {E : Value → Shared → Prop} {s : Shared} {env : Env} {c P : Addr} {ps : Array Value} {pos : Pos} {qualname : Str} {scope : Scope} {Q : Value → Shared → Prop} (hc : env.code = .ref c) (hok : s.heap.IsCode c P ps) (htab : s.heap.TableAt c P ps)
    (hps : codeAmong pos ps.toList = none ∨ ∃ c', codeAmong pos ps.toList = some (.ref c'))
    (hQ : ∀ code h' tk ps', Heap.ExtBut P s.heap h' → s.heap.objs.size ≤ h'.objs.size → h'.IsCode c P ps' → h'.TableAt c P ps' → (∃ c', codeAmong pos ps'.toList = some (.ref c')) → (∃ more, ps' = ps ++ more) → Q code { s with heap := h', toks := tk }) :
    wpAny M A (genexprCode env pos qualname scope) Q E s := by
  rcases hps with hn | ⟨c', hs⟩
  · refine wpAny_genexprCodeX hc hok htab hn fun c' h' tk hx h1 h2 h3 _ h5 _ => hQ _ h' tk _ hx (Nat.le_trans h1 (Nat.le_of_lt h2)) h3 h5 ⟨c', ?_⟩ ⟨_, rfl⟩
    obtain ⟨o, vs, file, tf, flags, tg, inF, text, tt, op, _, _, _, _, _, _, _, _, _, htr, _⟩ := hok
    rw [show (ps ++ #[rawInt pos.line, rawInt pos.col, Value.ref c']).toList = ps.toList ++ [rawInt pos.line, rawInt pos.col, .ref c'] by simp]
    exact codeAmong_snoc _ htr hn
  · exact wpAny_genexprCode_hit hc hok hs (hQ _ s.heap s.toks ps (Heap.ExtBut.refl _ _) (Nat.le_refl _) hok htab ⟨c', hs⟩ ⟨#[], by simp⟩)
section
variable {w : World} {A : Around} {E : Value → Shared → Prop} {s : Shared} {Q : Value → Shared → Prop} {h₀ : Heap} {L : Addr} {m mg mb : Str → Option Value} {mean : ExcName → Option Value} {env : Env}
theorem genexp_J {elt iter : Expr} {x : Str} {px : Pos} {scope : Scope} {pos : Pos} (Fe : Nat → Value → Prop) (F : Fr h₀ L s.heap m) (X : (Mine.hd.heap_1 w.params).In h₀) (T : Top Mine.qv loose mean mg mb h₀) (hcode : env.code = .ref 757) (hglob : env.globals = mainGlobals)
    {lst : Addr} {vs ps : Array Value} {nn : Nat} {rest : List (Addr × Obj)} (N : News h₀ L s.heap ((lst, listOf vs nn) :: (753, tabO ps) :: rest)) (hvs : vs.size ≤ 1000) (hne : lst ≠ 753)
    (hps : codeAmong pos ps.toList = none ∨ ∃ c', codeAmong pos ps.toList = some (.ref c')) (htr : TriplesOk ps.toList) (hAB : AllBare s.gens) (h753 : ∀ p ∈ rest, p.1 ≠ 753)
    (hh : A.handled = none) (hco : scope.isCoroutine = false) (hclos : closureFor scope env = pure []) (hcell : ∀ y ∈ scope.names, y.2 ≠ .cell) (h0 : scope.names.lookup (".0" : Str) = some NameKind.local)
    (hx : scope.names.lookup x = some .local) (hkind : scope.kind = .function) (hroom : A.depth < recursionLimit)
    (hiter : wpAny (MM w) A (eval iter env) (fun xv s₁ => xv = .ref lst ∧ s₁ = s) E s)
    (hel : ∀ (A' : Around) E' i v (s₂ : Shared) m₂ C code, A'.handled = none → A'.depth ≤ A.depth + 1 → vs[i]? = some v → Fr h₀ C s₂.heap m₂ → m₂ x = some v → wpAny (MM w) A' (eval elt (genEnv scope [] C code builtinsNs env)) (fun y s₃ => Fe i y ∧ Keeps s₂ s₃) E' s₂)
    (hQ : ∀ s₅ a K ps', Fr h₀ L s₅.heap m → News h₀ L s₅.heap ((lst, listOf vs nn) :: (753, tabO ps') :: rest) → L ≤ K → (∀ p ∈ (lst, listOf vs nn) :: (753, tabO ps') :: rest, p.1 ≤ K) → AllBare s₅.gens → s₅.os = s.os → (∃ c', codeAmong pos ps'.toList = some (.ref c')) → TriplesOk ps'.toList → (∃ more, ps' = ps ++ more) →
      Gen PySem.Challenge.pw_oy0383_01 w A K a vs.size (fun j y => j < vs.size ∧ Fe j y) s₅ → Q (.ref a) s₅)
    (hs : ∀ x, genFold iter env x = pure x) :
    wpAny (MM w) A (eval (.GeneratorExp elt [⟨.Name x px, iter, [], 0⟩] scope pos) env) Q E s := by
  have XK := X.keeps F.keep
  have hPl : s.heap.get? 753 = some (tabO ps) := (N _ (.tail _ (.head _))).1
  have hP0 : h₀.get? 753 = none := (N (753, tabO ps) (.tail _ (.head _))).2.2
  have hLl : L ≠ 753 := fun e => (N (753, tabO ps) (.tail _ (.head _))).2.1 e.symm
  have hl : s.heap.IsList lst vs := ⟨_, (N _ (.head _)).1, rfl, nn, rfl⟩
  have hlt : ∀ p ∈ (lst, listOf vs nn) :: (753, tabO ps) :: rest, p.1 < s.heap.objs.size := fun p hp => Heap.lt_size (N p hp).1
  have hlst : lst < s.heap.objs.size := hlt _ (.head _)
  have hL : L < s.heap.objs.size := F.ns.lt
  obtain ⟨bm, ob, BM⟩ := bmod_of_top T
  have c757 := XK _ _ (code_757 w)
  refine wpAny_GeneratorExp_walksQD hh hco hclos hcell h0 hx hkind hroom (wpAny_mono hiter (fun xv s₁ h₁ => ?_) fun _ _ e => e) hs
  obtain ⟨rfl, rfl⟩ := h₁
  refine wpAny_pyIter_list hl ⟨(T.nolimit.keeps F.keep).push _, ?_⟩
  generalize hs₂ : ({ s₁ with heap := s₁.heap.push { cls := .type "list_iterator", data := .fields #[.ref lst, .int 0 0] } } : Shared) = s₂
  have hAB' : AllBare s₂.gens := by rw [← hs₂]; exact hAB
  have hos' : s₂.os = s₁.os := by rw [← hs₂]
  have e2 : s₂.heap = s₁.heap.push { cls := .type "list_iterator", data := .fields #[.ref lst, .int 0 0] } := by rw [← hs₂]
  have up₂ : ∀ b o, s₁.heap.get? b = some o → s₂.heap.get? b = some o := fun b o e => by rw [e2]; exact Heap.get?_push_of_some _ e
  have sz₂ : s₂.heap.objs.size = s₁.heap.objs.size + 1 := by rw [e2, Heap.size_push]
  have hIC : s₂.heap.IsCode 757 753 ps := ⟨_, _, _, _, _, _, _, _, _, _, up₂ _ _ c757, rfl, rfl, rfl, rfl, rfl, rfl, up₂ _ _ hPl, rfl, htr, by decide⟩
  have hTA : s₂.heap.TableAt 757 753 ps := ⟨⟨_, _, up₂ _ _ c757, rfl, rfl, rfl⟩, up₂ _ _ hPl⟩
  refine code_step hcode hIC hTA hps fun code h₃ tk₃ ps' hx₃ hge hIC₃ hTA₃ hca hmore => ?_
  have k0 : ∀ b o, h₀.get? b = some o → h₃.get? b = some o := fun b o e => hx₃ b o (fun q => by rw [q, hP0] at e; cases e) (up₂ _ _ (F.keep b o e))
  rw [hglob]
  refine wpAny_builtinsFor (BM.ns.keeps k0) BM.name BM.ne (k0 _ _ BM.obj) BM.cls BM.dict BM.data ?_
  have upx : ∀ b o, b ≠ 753 → s₁.heap.get? b = some o → h₃.get? b = some o := fun b o hb e => hx₃ b o hb (up₂ _ _ e)
  have hl3 : h₃.IsList lst vs := ⟨_, upx _ _ hne (N _ (.head _)).1, rfl, nn, rfl⟩
  have hI3 : h₃.get? s₁.heap.objs.size = some { cls := .type "list_iterator", data := .fields #[.ref lst, .int 0 0] } := hx₃ _ _ (fun e => by have hz : (753 : Nat) < s₁.heap.objs.size := hlt (753, tabO ps) (.tail _ (.head _)); rw [e] at hz; exact Nat.lt_irrefl _ hz) (by rw [e2]; exact Heap.get?_push_size _ rfl)
  have hlim3 : h₃.NoLimit := T.nolimit.keeps k0
  have hsz3 : s₁.heap.objs.size + 1 ≤ h₃.objs.size := by rw [← sz₂]; exact hge
  have ns3 := F.ns
  refine ⟨s₁.heap.objs.size, [s₁.heap.objs.size, lst], [s₁.heap.objs.size], vs.size, _, _, fun _ => true, Fe, rfl, fun A' hA => Walks.list hA _ _ (Nat.ne_of_lt hlst) vs, ⟨⟨_, hI3, rfl, rfl⟩, hl3⟩, ?_, hlim3, ?_, fun href hk => ⟨?_, ?_⟩, ?_⟩
  · intro b hb
    rcases List.mem_cons.mp hb with rfl | hb
    · exact Nat.lt_of_lt_of_le (Nat.lt_succ_self _) hsz3
    · rw [List.mem_singleton.mp hb]; exact Nat.lt_of_lt_of_le (Nat.lt_succ_of_lt hlst) hsz3
  · intro hb
    have hc : cStatics < s₁.heap.objs.size := let ⟨_, hn, _⟩ := T.nolimit.keeps F.keep; hn.lt
    rw [List.mem_singleton.mp hb] at hc
    exact Nat.lt_irrefl _ hc
  · intro A' E' i v s₅ m₂ hA _ _ hv hn hm hk5
    exact wpAny_pure ⟨rfl, s₅.heap, s₅.toks, rfl, fun _ _ e => e⟩
  · intro A' E' i v s₅ m₂ hA hd _ hv _ hn hm hk5
    refine hel A' E' i v s₅ m₂ _ _ hA hd hv ⟨hn, fun b o e => ?_, ?_⟩ hm
    · refine hk5 b (List.mem_range.mpr ?_) (fun q => ?_) o (hk _ _ (k0 b o e))
      · exact Heap.lt_size (k0 b o e)
      · have hb : b < s₁.heap.objs.size := Heap.lt_size (F.keep b o e)
        rw [List.mem_singleton.mp q] at hb
        exact Nat.lt_irrefl _ hb
    · show h₀.objs.size ≤ h₃.objs.size
      exact Nat.le_of_lt (Nat.lt_of_le_of_lt F.above (Nat.lt_of_lt_of_le hL (Nat.le_trans (Nat.le_succ _) hsz3)))
  · intro a h₅ tk gs hgb hag hsz₅ hk₅ W hat
    obtain ⟨K, hK⟩ : ∃ K, s₁.heap.objs.size = K + 1 := ⟨s₁.heap.objs.size - 1, by have hz : 0 < s₁.heap.objs.size := Nat.lt_of_le_of_lt (Nat.zero_le _) hL; omega⟩
    rw [passing_all, List.length_range] at W
    have eP : (fun (j : Nat) (y : Value) => ∃ i, (List.range vs.size)[j]? = some i ∧ Fe i y) = fun j y => j < vs.size ∧ Fe j y := by
      funext j y
      refine propext ⟨fun ⟨i, hi, h⟩ => ?_, fun ⟨hj, h⟩ => ⟨j, by simp [hj], h⟩⟩
      obtain ⟨hj, e⟩ := List.getElem?_eq_some_iff.mp hi
      simp only [List.getElem_range, List.length_range] at e hj
      subst e
      exact ⟨hj, h⟩
    rw [eP] at W
    have hL2 : (L : Nat) < K + 1 := by rw [← hK]; exact hL
    have n753 : ∀ b o, s₁.heap.get? b = some o → b ≠ 753 → h₅.get? b = some o := fun b o e hb => hk₅ _ _ (upx b o hb e)
    obtain ⟨oL, es, ep, hoL, hLr⟩ := F.ns
    refine hQ _ a K ps' ⟨⟨oL, es, ep, n753 _ _ hoL hLl, hLr⟩, fun b o e => hk₅ _ _ (k0 b o e), F.above⟩ (fun p hp => ?_) (Nat.le_of_lt_succ hL2) (fun p hp => ?_) (hAB'.push hgb) hos' hca ?_ hmore ⟨_, _, _, _, W, hat, (fun i s' st => st.1.typeIs), List.mem_cons_self, ?_, ?_⟩
    · rcases List.mem_cons.mp hp with rfl | hp
      · exact ⟨n753 _ _ (N _ (.head _)).1 hne, (N _ (.head _)).2⟩
      · rcases List.mem_cons.mp hp with rfl | hp
        · exact ⟨hk₅ _ _ hTA₃.2, (N (753, tabO ps) (.tail _ (.head _))).2⟩
        · exact ⟨n753 _ _ (N _ (.tail _ (.tail _ hp))).1 (h753 p hp), (N _ (.tail _ (.tail _ hp))).2⟩
    · have hz : ∀ b : Nat, b < s₁.heap.objs.size → b ≤ K := fun b hb => by omega
      rcases List.mem_cons.mp hp with rfl | hp
      · exact hz _ hlst
      · rcases List.mem_cons.mp hp with rfl | hp
        · exact hz _ (hlt (753, tabO ps) (.tail _ (.head _)))
        · exact hz _ (hlt _ (.tail _ (.tail _ hp)))
    · obtain ⟨o, vs', file, tf, flags, tg, inF, text, tt, op, _, _, _, _, _, _, _, _, _, htr', _⟩ := hIC₃
      exact htr'
    · intro b hb
      show b < h₅.objs.size
      rw [hsz₅]
      rcases List.mem_cons.mp hb with rfl | hb
      · exact Nat.lt_succ_self _
      · rcases List.mem_cons.mp hb with rfl | hb
        · exact Nat.lt_succ_of_lt hag
        · exact Nat.lt_succ_of_lt (Nat.lt_trans (List.mem_range.mp hb) hag)
    · intro b hb
      rcases List.mem_cons.mp hb with rfl | hb
      · show (K : Nat) < h₃.objs.size
        omega
      · rw [List.mem_singleton.mp hb]
        show (K : Nat) < s₁.heap.objs.size
        omega
end
end
-- CJoin3
section
set_option maxHeartbeats 4000000
open PySem PySem.W PyProof.Rows PySem.Calls
noncomputable abbrev posJ : Pos := { line := 745, col := 20, endLine := 745, endCol := 57 }
structure TabJ (ps : Array Value) : Prop where
  tr : TriplesOk ps.toList
  has : codeAmong posJ ps.toList = none ∨ ∃ c', codeAmong posJ ps.toList = some (.ref c')
structure KC (k c : Nat) : Prop where
  k15 : k < 15
  ink : c ∈ [120, 37, 126, 35]
structure WordsAre (vs : Array Value) (ws : List (Nat × Nat)) : Prop where
  size : vs.size = ws.length
  words : ∀ (i : Nat) (v : Value), vs[i]? = some v → ∃ (kc : Nat × Nat) (t : Tok), ws[i]? = some kc ∧ v = Value.str (wordP kc.1 kc.2) t
structure WsOk (ws : List (Nat × Nat)) : Prop where
  len : ws.length ≤ 20
  ok : ∀ kc ∈ ws, KC kc.1 kc.2
noncomputable def FeJ (ws : List (Nat × Nat)) (i : Nat) (y : Value) : Prop := ∃ (kc : Nat × Nat) (t : Tok), ws[i]? = some kc ∧ y = Value.str (qw kc.1 kc.2) t
theorem range_getD' (l : List (Nat × Nat)) (f : Nat × Nat → Str) : (List.range l.length).map (fun j => (l.map f).getD j "") = l.map f := by
  apply List.ext_getElem
  · simp
  · intro i h1 h2
    simp only [List.length_map, List.length_range] at h1
    simp [h1]
theorem Keeps.trans' {s s' s'' : Shared} (a : Keeps s s') (b : Keeps s' s'') : Keeps s s'' := by
  obtain ⟨h1, t1, rfl, k1⟩ := a
  obtain ⟨h2, t2, rfl, k2⟩ := b
  exact ⟨h2, t2, rfl, fun b o e => k2 b o (k1 b o e)⟩
theorem quote_rule {w : World} {A : Around} {E Q : Value → Shared → Prop} {s : Shared} {h₀ : Heap} {L : Addr} {m mg mb : Str → Option Value} {mean : ExcName → Option Value} (F : Fr h₀ L s.heap m) (X : (Mine.hd.heap_1 w.params).In h₀) (T : Top Mine.qv loose mean mg mb h₀) (hroom : A.depth < recursionLimit)
    {k c : Nat} (hk : KC k c) {t : Tok} (h : ∀ t' s', Keeps s s' → Q (.str (qw k c) t') s') : wpAny (MM w) A (call (.ref 766) [.str (wordP k c) t]) Q E s :=
  wpAny_mono (quote_word w A E s mg mb mean (X.keeps F.keep) (T.keeps F.keep) hroom hk.k15 hk.ink t) (fun v s' hq => by obtain ⟨⟨t', rfl⟩, hk⟩ := hq; exact h t' s' hk) fun _ _ z => z
theorem elt_J {w : World} {A : Around} {E : Value → Shared → Prop} {s : Shared} {h₀ : Heap} {C : Addr} {m₂ mg mb : Str → Option Value} {mean : ExcName → Option Value} {ge : Env} {p1 p2 p3 : Pos}
    (g1 : ge.scope.kind = .function) (g2 : ge.kindOf "quote" = some .globalImplicit) (g3 : ge.globals = mainGlobals) (g4 : ge.kindOf "arg" = some .local) (g5 : ge.locals = C)
    (F : Fr h₀ C s.heap m₂) (X : (Mine.hd.heap_1 w.params).In h₀) (T : Top Mine.qv loose mean mg mb h₀) (hroom : A.depth < recursionLimit) {k c : Nat} (hk : KC k c) {t : Tok} (hm : m₂ "arg" = some (.str (wordP k c) t)) :
    wpAny (MM w) A (eval (.Call (.Name "quote" p1) [.Name "arg" p2] [] p3) ge) (fun y s₃ => (∃ t', y = .str (qw k c) t') ∧ Keeps s s₃) E s := by
  refine KIf.gen_post fun QQ hQQ => ?_
  walk1
  refine Name_function_global g1 g2 (loadGlobal_global (by rw [g3]; exact T.g.keeps F.keep) (mg_of (v := .ref 766) X T.g (by k_is)) ?_) (by decide)
  walk1
  walk1
  refine wpAny_Name (wpAny_loadName_local g1 g4 (by rw [g5]; exact F.ns) hm ?_) (by decide)
  walk1
  refine ⟨X.keeps F.keep, ?_⟩
  exact wpAny_mono (quote_word w A E s mg mb mean (X.keeps F.keep) (T.keeps F.keep) hroom hk.k15 hk.ink t) (fun v s' hq => hQQ v s' hq) fun _ _ z => z
open KCallBuiltinStrJoin KEvalGeneratorexp
theorem qw_list : ((List.range 15).all fun k => [120, 37, 126, 35].all fun c => decide ((qw k c).length ≤ 17)) = true := by kernel_rfl
theorem qw_len {k c : Nat} (h : KC k c) : (qw k c).length ≤ 17 := of_decide_eq_true (List.all_eq_true.mp (List.all_eq_true.mp qw_list k (List.mem_range.mpr h.k15)) c h.ink)
theorem joinOk_ws {ws : List (Nat × Nat)} (hws : WsOk ws) : JoinOk " " (ws.map fun kc => qw kc.1 kc.2) = true := by
  refine joinOk_of ?_
  have h1 := sumLen_le_of_bound (fun kc : Nat × Nat => qw kc.1 kc.2) 17 ws fun a ha => qw_len (hws.ok a ha)
  have h2 := hws.len
  have h3 : ws.length * Str.length " " ≤ 20 * 1 := Nat.mul_le_mul h2 (by decide)
  rw [List.length_map]; omega
theorem join_core (w : World) (gd : Option (List Code)) (ev : Env) (outer : List Env) (A₀ : Around) (base h₀ : Heap) (L : Addr) (m mg mb : Str → Option Value) (mean : ExcName → Option Value) (s : Shared)
    (Q E : Value → Shared → Prop) (B : Below A₀ base outer h₀) (F : Fr h₀ L s.heap m) (X : (Mine.hd.heap_1 w.params).In h₀) (T : Top Mine.qv loose mean mg mb h₀)
    (lst : Nat) (vs ps : Array Value) (nn : Nat) (rest : List (Addr × Obj)) (N : News h₀ L s.heap ((lst, listOf vs nn) :: (753, tabO ps) :: rest)) (hne : lst ≠ 753) (h753 : ∀ p ∈ rest, p.1 ≠ 753) (hJ : TabJ ps) (hAB : AllBare s.gens)
    (ws : List (Nat × Nat)) (hws : WsOk ws) (hvs : WordsAre vs ws)
    (hret : ∀ s' t' ps', Fr h₀ L s'.heap m → News h₀ L s'.heap ((lst, listOf vs nn) :: (753, tabO ps') :: rest) → TabJ ps' → (∃ more, ps' = ps ++ more) → AllBare s'.gens → s'.os = s.os → Q (.str (Txt.join " " (ws.map fun kc => qw kc.1 kc.2)) t') s') :
    wpAny (MM w) (AT 600 gd (some (envK ev L :: outer))) (call (.ref 758) [.ref lst]) Q E s := by
  k_steps
  unfold Hold
  rename Fr _ _ _ _ => F1
  rename News _ _ _ _ => N1
  refine' genexp_J (FeJ ws) F1 ?X ?T ?hcode ?hglob N1 ?hvs hne hJ.has hJ.tr hAB h753 ?hh ?hco ?hclos ?hcell ?h0 ?hx ?hkind ?hroom ?hiter ?hel ?hQ ?hs
  case X => assumption
  case T => assumption
  case hcode => exact rfl
  case hglob => exact rfl
  case hvs => rw [hvs.size]; exact Nat.le_trans hws.len (by decide)
  case hh => exact rfl
  case hco => exact rfl
  case hclos => exact rfl
  case hcell => decide
  case h0 => exact rfl
  case hx => exact rfl
  case hkind => exact rfl
  case hroom => k_room
  case hiter =>
    refine' nameX_L F1 ?v ?_ ?a ?b
    case a => rfl
    case b => rfl
    case v => rfl
    exact ⟨rfl, rfl⟩
  case hs => intro _; rfl
  case hel =>
    intro A' E' i v s₂ m₂ C code hA hd hv F2 hm
    obtain ⟨kc, t, hkc, rfl⟩ := hvs.words i v hv
    have hkc1 := hws.ok kc (List.mem_of_getElem? hkc)
    have hroom2 : A'.depth < recursionLimit := Nat.lt_of_le_of_lt hd (by k_room)
    refine wpAny_mono (elt_J ?g1 ?g2 ?g3 ?g4 ?g5 F2 ‹_› ‹_› hroom2 hkc1 hm) (fun y s₃ hq => ?post) fun _ _ z => z
    case g1 => exact rfl
    case g2 => exact rfl
    case g3 => exact rfl
    case g4 => exact rfl
    case g5 => exact rfl
    case post => obtain ⟨⟨t', rfl⟩, hk⟩ := hq; exact ⟨⟨kc, t', hkc, rfl⟩, hk⟩
  case hQ =>
    intro s₅ a K ps' F5 N5 hK hKs hAB5 hos5 hca htr5 hmore X5
    walk1
    walk1
    unfold Hold
    have hlen := hvs.size
    refine join_rowsK F5 hAB5 X5 hK (fun j => ((ws.map fun kc => qw kc.1 kc.2).getD j "")) (fun j v hv => ?_) ?_ (fun s' t' F6 G6 hos6 hk6 => ?_) (by rw [hlen, PySem.sizeLine_eq]; have := hws.len; omega)
    · obtain ⟨hj, kc, t, hkc, rfl⟩ := hv
      exact ⟨t, by simp [hkc]⟩
    · rw [show (List.range vs.size).map (fun j => (ws.map fun kc => qw kc.1 kc.2).getD j "") = ws.map fun kc => qw kc.1 kc.2 from by rw [hlen]; exact range_getD' _ _]
      exact joinOk_ws hws
    · have N6 := fun p hp => (⟨hk6 _ _ (hKs p hp) (N5 p hp).1, (N5 p hp).2⟩ : s'.heap.get? p.1 = some p.2 ∧ p.1 ≠ _ ∧ Heap.get? _ p.1 = none)
      rw [show (List.range vs.size).map (fun j => (ws.map fun kc => qw kc.1 kc.2).getD j "") = ws.map fun kc => qw kc.1 kc.2 from by rw [hlen]; exact range_getD' _ _]
      have N7 : News _ _ s'.heap _ := N6
      clear N6 N5
      k_steps
      exact hret _ _ _ (by assumption) (by assumption) ⟨htr5, .inr hca⟩ hmore G6 (hos6.trans hos5)
theorem join_use {w : World} {A : Around} {env : Env} {outer : List Env} {A₀ : Around} {base h₀ : Heap} {L : Addr} {m mg mb : Str → Option Value} {mean : ExcName → Option Value} {s : Shared} {Q E : Value → Shared → Prop}
    {lst : Nat} {vs ps : Array Value} {nn : Nat} {nw : List (Addr × Obj)} {ws : List (Nat × Nat)}
    (hA : A.frames = some (env :: outer)) (hf : env.frame = some L) (hk : env.scope.kind = .function) (B : Below A₀ base outer h₀) (F : Fr h₀ L s.heap m) (X : (Mine.hd.heap_1 w.params).In h₀) (T : Top Mine.qv loose mean mg mb h₀)
    (N : News h₀ L s.heap nw) (m1 : (lst, listOf vs nn) ∈ nw) (m2 : (753, tabO ps) ∈ nw) (hne : lst ≠ 753) (hJ : TabJ ps) (hAB : AllBare s.gens) (hws : WsOk ws) (hvs : WordsAre vs ws)
    (hret : ∀ s' t' ps', Fr h₀ L s'.heap m → (∀ nw', Upd 753 (tabO ps) (tabO ps') nw nw' → News h₀ L s'.heap nw') → TabJ ps' → (∃ more, ps' = ps ++ more) → AllBare s'.gens → s'.os = s.os → Q (.str (Txt.join " " (ws.map fun kc => qw kc.1 kc.2)) t') s')
    (lvl : Lvl A 600 0) :
    wpAny (MM w) A (call (.ref 758) [.ref lst]) Q E s := by
  rw [envK_eq hf hk] at hA
  refine to_AT 600 lvl.1 lvl.2.1 lvl.2.2 hA ?_
  have e1 : ∀ p ∈ nw.filter (fun p => !decide (p.1 = 753)), p ∈ nw ∧ p.1 ≠ 753 := fun p hp => by simpa using List.mem_filter.mp hp
  refine join_core w _ _ _ _ _ _ _ _ _ _ _ _ _ _ B F X T lst vs ps nn (nw.filter (fun p => !decide (p.1 = 753))) (news_sub N fun p hp => ?_) hne (fun p hp => (e1 p hp).2) hJ hAB ws hws hvs
    fun s' t' ps' F' N' hJ' hmore G6 hos => hret s' t' ps' F' (fun nw' U => news_sub N' fun p hp => ?_) hJ' hmore G6 hos
  · rcases List.mem_cons.mp hp with rfl | hp
    · exact m1
    rcases List.mem_cons.mp hp with rfl | hp
    · exact m2
    exact (e1 p hp).1
  · rcases upd_mem U p hp with rfl | ⟨hp, n2⟩
    · exact .tail _ (.head _)
    exact .tail _ (.tail _ (List.mem_filter.mpr ⟨hp, by simp [n2]⟩))
end
-- CComp
section
set_option maxHeartbeats 4000000
open PySem PySem.W PyProof.Rows PySem.Calls PyProof.Rows.LCg
/-- where a turn of a comprehension stands: the base may be a new one -/
noncomputable def CTurn (L : Addr) (m : Str → Option Value) (Inv : Nat → List Value → Heap → List (Addr × Obj) → Shared → Prop) (I : Addr) (oI : Obj) (C : Addr) (oC : Obj) (D : Addr) (oD : Obj) (i : Nat) (ys : List Value) (s : Shared) : Prop :=
  ∃ g nw, Fr g L s.heap m ∧ News g L s.heap ((I, oI) :: (C, oC) :: (D, oD) :: nw) ∧ Off3 I C D nw ∧ Inv i ys g nw s
noncomputable abbrev testsOf (ifs : List Expr) (env : Env) : Sem Bool := forIn ifs true fun c r => if r = true then do let ok ← isTrue c env (eval c env); pure (ForInStep.yield ok) else pure (ForInStep.yield r)
section
variable {w : World} {A : Around} {E : Value → Shared → Prop} {s : Shared} {L : Addr} {m : Str → Option Value} {env : Env}
/-- what an element has to show -/
noncomputable def CElt (w : World) (A : Around) (L : Addr) (m : Str → Option Value) (env : Env) (ifs : List Expr) (elt : Expr) (x : Str) (scope : Scope) (cl : List (Str × Addr)) (n : Nat) (P : Nat → Value → Prop) (Inv : Nat → List Value → Heap → List (Addr × Obj) → Shared → Prop) : Prop :=
  ∀ (i : Nat) (v : Value) (I : Addr) (oI : Obj) (C : Addr) (oC : Obj) (D : Addr) (m₂ : Str → Option Value) (g : Heap) (nw : List (Addr × Obj)) (ys : List Value) (s : Shared) (E' : Value → Shared → Prop), i < n → P i v → NsObj oC m₂ → m₂ x = some v → Fr g L s.heap m →
    News g L s.heap ((I, oI) :: (C, oC) :: (D, lst ys) :: nw) → Off3 I C D nw → ((@Ne Nat I C) ∧ (@Ne Nat I D) ∧ (@Ne Nat C D)) → Inv i ys g nw s →
    wpAny (MM w) A (testsOf ifs (compEnvC scope cl C env)) (fun ok s' => if ok = true then wpAny (MM w) A (eval elt (compEnvC scope cl C env)) (fun y s'' => CTurn L m Inv I oI C oC D (lst ys) (i + 1) (ys ++ [y]) s'') E' s'
      else CTurn L m Inv I oI C oC D (lst ys) (i + 1) ys s') E' s
theorem comp_block {elt iter : Expr} {ifs : List Expr} {x : Str} {px : Pos} {scope : Scope} {cl : List (Str × Addr)} {pos : Pos} {s₂ : Shared} {I : Addr} {fp : List Addr} {n : Nat} {P : Nat → Value → Prop} {St : Nat → Heap → Prop} {g₀ : Heap} {nw₀ : List (Addr × Obj)}
    {Inv : Nat → List Value → Heap → List (Addr × Obj) → Shared → Prop} {RR : Value → Addr → Result → Shared → Prop}
    (W : Walks PySem.Challenge.pw_oy0383_01 w A I fp [I] n P St) (hsz : n ≤ sizeLine) (hIo : ∀ i h, St i h → ∃ o, h.get? I = some o)
    (hSt : ∀ i h s' o ys g nw, St i h → h.get? I = some o → s'.heap.get? I = some o → News g L s'.heap nw → Inv i ys g nw s' → St i s'.heap)
    (hInv : ∀ i ys g nw s h tk, Inv i ys g nw s → Inv i ys g nw { s with heap := h, toks := tk })
    (hcell : ∀ y ∈ scope.names, y.2 ≠ .cell) (hkind : scope.kind = .function) (hx : scope.names.lookup x = some .local) (hst : St 0 s₂.heap) (hfp : ∀ b ∈ fp, b < s₂.heap.objs.size)
    (F : Fr g₀ L s₂.heap m) (N : News g₀ L s₂.heap nw₀) (hIL : L ≠ I) (hI₀ : g₀.get? I = none) (off : ∀ p ∈ nw₀, p.1 ≠ I) (hS : Inv 0 [] g₀ nw₀ s₂)
    (R : CElt w A L m env ifs elt x scope cl n P Inv)
    (hRR : ∀ D C m' ys g nw s', Fr g L s'.heap m → News g L s'.heap ((D, lst ys) :: nw) → Off1 D nw → s'.heap.Ns C m' → g.get? C = none → C ≠ L → D ≠ L → C ≠ D → (∀ p ∈ nw, p.1 ≠ C) → Inv n ys g nw s' → RR (.ref D) C (.ok .next) s') :
    wpAny (MM w) A (newList []) (fun acc s₃ => wpAny (MM w) A (newFunctionEnv scope env.globals cl [] env.qual none .none (some env)) (fun cenv s₄ =>
      codeAny (MM w) A (.compStart (.ListComp elt [⟨.Name x px, iter, ifs, 0⟩] scope pos) 0 (.ref I) acc { cenv with scope := relabel scope env }) (RR acc cenv.locals) s₄) E s₃) E s₂ := by
  refine wpAny_newObj_type (wpAny_newFunctionEnv hcell (by intro y hy; simp at hy) (fun h₁ hns₁ hsb₁ => ?_) hkind)
  dsimp only at hns₁ hsb₁ ⊢
  generalize hD : s₂.heap.objs.size = D at hns₁ hsb₁ ⊢
  generalize hH2 : s₂.heap.push { cls := .type "list", dict := none, data := .seq ([] : List Value).toArray } = H2 at hns₁ hsb₁ ⊢
  generalize hC : H2.objs.size = C at hns₁ hsb₁ ⊢
  have eC : (C : Nat) = D + 1 := by rw [← hC, ← hH2, Heap.size_push, hD]
  have lD : ∀ b o, s₂.heap.get? b = some o → (b : Nat) < D := fun b o e => by rw [← hD]; exact Heap.lt_size e
  have up2 : ∀ b o, s₂.heap.get? b = some o → H2.get? b = some o := fun b o e => hH2 ▸ Heap.get?_push_of_some _ e
  have dD2 : H2.get? D = some (lst []) := by rw [← hH2, ← hD]; exact Heap.get?_push_size _ rfl
  have nDC : D ≠ C := by rw [eC]; exact Nat.ne_of_lt (Nat.lt_succ_self _)
  have old : ∀ b o, s₂.heap.get? b = some o → h₁.get? b = some o := fun b o e => hsb₁.extBut b o (by rw [eC]; exact Nat.ne_of_lt (Nat.lt_succ_of_lt (lD b o e))) (Heap.get?_push_of_some _ (up2 b o e))
  have hacc : h₁.get? D = some (lst []) := hsb₁.extBut _ _ nDC (Heap.get?_push_of_some _ dD2)
  have hIf : I ∈ fp := W.sub I (List.mem_singleton.mpr rfl)
  have lfp : ∀ b ∈ fp, (b : Nat) < D := fun b hb => by rw [← hD]; exact hfp b hb
  have hDf : D ∉ fp := fun hm => Nat.lt_irrefl _ (lfp _ hm)
  have hCf : C ∉ fp := fun hm => by have := lfp _ hm; rw [eC] at this; exact Nat.lt_irrefl _ (Nat.lt_of_succ_lt this)
  have lI : (I : Nat) < D := lfp I hIf
  have lL : (L : Nat) < D := by rw [← hD]; exact F.ns.lt
  have nDL : D ≠ L := Ne.symm (Nat.ne_of_lt lL)
  have nCL : C ≠ L := fun e => by rw [← e, eC] at lL; exact Nat.lt_irrefl _ (Nat.lt_of_succ_lt lL)
  have nIC : I ≠ C := fun e => by rw [e, eC] at lI; exact Nat.lt_irrefl _ (Nat.lt_of_succ_lt lI)
  have nID : I ≠ D := Nat.ne_of_lt lI
  have no₀ : ∀ a : Addr, (D : Nat) ≤ a → g₀.get? a = none := fun a ha => by
    cases e : g₀.get? a with
    | none => rfl
    | some o' => exact absurd (lD a o' (F.keep a o' e)) (Nat.not_lt.mpr ha)
  have hst₁ : St 0 h₁ := W.frame _ _ _ hst fun b _ o e => old b o e
  have off₀ : Off3 I C D nw₀ := Off3.of fun p hp => by
    have z := lD _ _ (N p hp).1
    exact ⟨off p hp, fun e => by rw [e, eC] at z; exact Nat.lt_irrefl _ (Nat.lt_of_succ_lt z), Nat.ne_of_lt z⟩
  have loop : ∀ s₃ : Shared, s₃ = { s₂ with heap := h₁, toks := s₂.toks + ([] : List (Str × Value)).length } →
      codeAny (MM w) A (.compLoop (.ListComp elt [⟨.Name x px, iter, ifs, 0⟩] scope pos) 0 (.ref I) (.ref D) (compEnvC scope cl C env)) (RR (.ref D) C) s₃ := by
    rintro s₃ rfl
    refine codeAny_compLoop_tests
      (fun k s' => ∃ i ys m' g nw, i ≤ n ∧ k = n + 1 - i ∧ ys.length ≤ i ∧ St i s'.heap ∧ Fr g L s'.heap m ∧ s'.heap.Ns C m' ∧ g.get? I = none ∧ g.get? C = none ∧ News g L s'.heap ((D, lst ys) :: nw) ∧ Off3 I C D nw ∧ Inv i ys g nw s') ?_ (n + 1)
      ⟨0, [], _, g₀, nw₀, Nat.zero_le _, rfl, Nat.le_refl _, hst₁, F.keeps old, hns₁, hI₀, no₀ C (by rw [eC]; exact Nat.le_succ _), fun p hp => ?_, off₀, hInv _ _ _ _ _ _ _ hS⟩
    · rintro k s' ⟨i, ys, m', g, nw, hi, rfl, hyl, hst', F', hn', zI₀, zC₀, N', off', hV⟩
      have off3 := off'.mem
      by_cases hlt : i < n
      · refine W.item i _ _ _ hlt hst' fun v h₂ tk₂ hPv hst₂ hk₂ => ?_
        refine wpAny_assign_Name (wpAny_storeName_local (lookup_relabel_local hx) (hn'.at' fun o e => hk₂ _ o (by simpa using Ne.symm nIC) e) (fun h₃ hn₃ hs₃ => ?_) (by simp [compEnvC, relabel, hkind]))
        have hst₃ : St (i + 1) h₃ := W.frame _ _ _ hst₂ fun b hb o e => hs₃.extBut b o (fun q => hCf (by have q' : b = C := q; rw [← q']; exact hb)) e
        obtain ⟨oI, heI⟩ := hIo _ _ hst₃
        obtain ⟨oC, heC, hoC⟩ := ns_obj hn₃
        have F₃ : Fr g L h₃ m := (fr_but F' hk₂ hIL zI₀).change hs₃ nCL zC₀
        have N₂ : News g L h₂ ((D, lst ys) :: nw) := news_but N' hk₂ fun p hp => by
          rcases List.mem_cons.mp hp with rfl | hp
          · exact Ne.symm nID
          · exact (off3 p hp).1
        have N₃ : News g L h₃ ((I, oI) :: (C, oC) :: (D, lst ys) :: nw) := fun p hp => by
          rcases List.mem_cons.mp hp with rfl | hp
          · exact ⟨heI, Ne.symm hIL, zI₀⟩
          rcases List.mem_cons.mp hp with rfl | hp
          · exact ⟨heC, nCL, zC₀⟩
          have z := N₂ p hp
          refine ⟨hs₃.extBut _ _ ?_ z.1, z.2⟩
          rcases List.mem_cons.mp hp with rfl | hp
          · exact nDC
          · exact (off3 p hp).2.1
        have next : ∀ ys' s₄, CTurn L m Inv I oI C oC D (lst ys) (i + 1) ys' s₄ → ∃ g nw, St (i + 1) s₄.heap ∧ Fr g L s₄.heap m ∧ (∃ m', s₄.heap.Ns C m') ∧ g.get? I = none ∧ g.get? C = none ∧ News g L s₄.heap ((D, lst ys) :: nw) ∧ Off3 I C D nw ∧ Inv (i + 1) ys' g nw s₄ := by
          rintro ys' s₄ ⟨g', nw', F₄, N₄, off₄, hV₄⟩
          have zI := N₄ (I, oI) (.head _)
          have zC := N₄ (C, oC) (.tail _ (.head _))
          have N₅ : News g' L s₄.heap ((D, lst ys) :: nw') := fun p hp => N₄ p (.tail _ (.tail _ hp))
          exact ⟨g', nw', hSt _ _ _ _ _ _ _ hst₃ heI zI.1 (fun p hp => N₅ p (.tail _ hp)) hV₄, F₄, ⟨_, hoC.ns zC.1⟩, zI.2.2, zC.2.2, N₅, off₄, hV₄⟩
        refine wpAny_mono (R i v I oI C oC D _ g nw ys _ _ hlt hPv hoC (by simp) F₃ N₃ off' ⟨nIC, nID, Ne.symm nDC⟩ (hInv _ _ _ _ s' h₃ _ hV)) (fun ok s₄ h₄ => ?_) fun _ _ e => e
        cases ok with
        | false =>
          simp only [Bool.false_eq_true, if_false] at h₄ ⊢
          obtain ⟨g', nw', a1, a2, ⟨m₅, a3⟩, a4, a5, a6, a7, a8⟩ := next _ _ h₄
          exact ⟨n + 1 - (i + 1), by omega, i + 1, ys, m₅, g', nw', hlt, rfl, Nat.le_succ_of_le hyl, a1, a2, a3, a4, a5, a6, a7, a8⟩
        | true =>
          simp only [if_true] at h₄ ⊢
          refine wpAny_mono h₄ (fun y s₅ h₅ => ?_) fun _ _ e => e
          obtain ⟨g', nw', a1, a2, ⟨m₅, a3⟩, a4, a5, a6, a7, a8⟩ := next _ _ h₅
          have zD := a6 (D, lst ys) (.head _)
          refine append_at (hsz := by show ys.toArray.size ≤ sizeLine; rw [List.size_toArray]; exact Nat.le_trans hyl (Nat.le_trans hi hsz)) zD.1 fun h₆ hs₆ hD₆ => ?_
          refine ⟨n + 1 - (i + 1), by omega, i + 1, ys ++ [y], m₅, g', nw', hlt, rfl, by rw [List.length_append, List.length_singleton]; exact Nat.succ_le_succ hyl, W.frame _ _ _ a1 fun b hb o e => hs₆.extBut b o (fun q => hDf (q ▸ hb)) e, a2.change hs₆ nDL zD.2.2,
            a3.sameBut hs₆ (Ne.symm nDC), a4, a5, fun p hp => ?_, a7, hInv _ _ _ _ _ _ s₅.toks a8⟩
          rcases List.mem_cons.mp hp with rfl | hp
          · exact ⟨hD₆.trans (congrArg some (lst_snoc ys y)), nDL, zD.2.2⟩
          · exact ⟨hs₆.extBut _ _ (a7.mem p hp).2.2 (a6 p (.tail _ hp)).1, (a6 p (.tail _ hp)).2⟩
      · obtain rfl : i = n := Nat.le_antisymm hi (Nat.not_lt.mp hlt)
        refine W.done _ _ _ hst' fun h₂ tk₂ hk₂ => ?_
        exact hRR _ _ _ ys g nw _ (fr_but F' hk₂ hIL zI₀) (news_but N' hk₂ fun p hp => by
          rcases List.mem_cons.mp hp with rfl | hp
          · exact Ne.symm nID
          · exact (off3 p hp).1) off'.one (hn'.at' fun o e => hk₂ _ o (by simpa using Ne.symm nIC) e) zC₀ nCL nDL (Ne.symm nDC) (fun p hp => (off3 p hp).2.1) (hInv _ _ _ _ _ _ _ hV)
    · rcases List.mem_cons.mp hp with rfl | hp
      · exact ⟨hacc, nDL, no₀ D (Nat.le_refl _)⟩
      · exact ⟨old _ _ (N p hp).1, (N p hp).2⟩
  exact codeAny_compStart_list (loop _ rfl) (W.self 0 _ _ _ hst₁ (loop _ rfl))
/-- the source: a list of the ledger, or a range -/
noncomputable def CSrc (w : World) (A : Around) (L : Addr) (m : Str → Option Value) (env : Env) (ifs : List Expr) (elt : Expr) (x : Str) (scope : Scope) (cl : List (Str × Addr)) (Fin : Nat → (Nat → List Value → Heap → List (Addr × Obj) → Shared → Prop) → Prop) (xv : Value) (s₁ : Shared) : Prop :=
  ∃ (g : Heap) (nw : List (Addr × Obj)) (Inv : Nat → List Value → Heap → List (Addr × Obj) → Shared → Prop), A.handled = none ∧ Fr g L s₁.heap m ∧ News g L s₁.heap nw ∧ (∀ i ys g nw s h tk, Inv i ys g nw s → Inv i ys g nw { s with heap := h, toks := tk }) ∧ Inv 0 [] g nw s₁ ∧
   ((∃ (ax : Addr) (its : Array Value), xv = .ref ax ∧ its.size ≤ sizeLine ∧ (∀ i ys g nw s, Inv i ys g nw s → ∃ k, (ax, ({ cls := .type "list", data := .seq its k } : Obj)) ∈ nw) ∧
      CElt w A L m env ifs elt x scope cl its.size (fun i v => its[i]? = some v) Inv ∧ Fin its.size Inv) ∨
    (∃ (r : Addr) (a b : Int) (t u v : Tok) (n : Nat), xv = .ref r ∧ IsRange s₁.heap r a b 1 t u v ∧ Builtin.Range.small a b 1 = true ∧ Builtin.Range.rangeSize a b 1 = ((n : Nat) : Int) ∧ n ≤ sizeLine ∧
      CElt w A L m env ifs elt x scope cl n (fun i v => ∃ t, v = .int (a + (i : Int)) t) Inv ∧ Fin n Inv))
theorem comp_src {elt iter : Expr} {ifs : List Expr} {x : Str} {px : Pos} {scope : Scope} {cl : List (Str × Addr)} {pos : Pos} {xv : Value} {s₁ : Shared} {Fin : Nat → (Nat → List Value → Heap → List (Addr × Obj) → Shared → Prop) → Prop} {RR : Value → Addr → Result → Shared → Prop}
    (hcell : ∀ y ∈ scope.names, y.2 ≠ .cell) (hkind : scope.kind = .function) (hx : scope.names.lookup x = some .local)
    (h : CSrc w A L m env ifs elt x scope cl Fin xv s₁)
    (hRR : ∀ n Inv, (∀ i ys g nw s h tk, Inv i ys g nw s → Inv i ys g nw { s with heap := h, toks := tk }) → Fin n Inv → ∀ D C m' ys g nw s', Fr g L s'.heap m → News g L s'.heap ((D, lst ys) :: nw) → Off1 D nw → s'.heap.Ns C m' → g.get? C = none → C ≠ L → D ≠ L → C ≠ D → (∀ p ∈ nw, p.1 ≠ C) → Inv n ys g nw s' → RR (.ref D) C (.ok .next) s') :
    wpAny (MM w) A (pyIter xv) (fun it s₂ => wpAny (MM w) A (newList []) (fun acc s₃ => wpAny (MM w) A (newFunctionEnv scope env.globals cl [] env.qual none .none (some env)) (fun cenv s₄ =>
      codeAny (MM w) A (.compStart (.ListComp elt [⟨.Name x px, iter, ifs, 0⟩] scope pos) 0 it acc { cenv with scope := relabel scope env }) (RR acc cenv.locals) s₄) E s₃) E s₂) E s₁ := by
  obtain ⟨g, nw, Inv, hh, F, N, hInv, hV, ⟨ax, its, rfl, hsz, hsrc, R, fin⟩ | ⟨r, a, b, t, u, v, n, rfl, hr, hsm, hn, hsz, R, fin⟩⟩ := h
  · obtain ⟨k, hm⟩ := hsrc _ _ _ _ _ hV
    have hl : s₁.heap.IsList ax its := ⟨_, (N _ hm).1, rfl, k, rfl⟩
    have hlt : ax < s₁.heap.objs.size := Heap.lt_size (N _ hm).1
    refine wpAny_pyIter_list hl ?_
    have up : ∀ b o, s₁.heap.get? b = some o → (s₁.heap.push { cls := .type "list_iterator", data := .fields #[.ref ax, .int 0 0] }).get? b = some o := fun b o e => Heap.get?_push_of_some _ e
    refine comp_block (Walks.list hh s₁.heap.objs.size ax (Nat.ne_of_lt hlt) its) hsz (fun i h st => by obtain ⟨o, e, _⟩ := st.1; exact ⟨o, e⟩) (fun i h s' o ys g nw st e e' N' hV' => ?_) hInv hcell hkind hx ⟨⟨_, Heap.get?_push_size _ rfl, rfl, rfl⟩, hl.push _⟩ (fun b hb => ?_)
      (F.keeps up) (N.grown up) (Nat.ne_of_lt F.ns.lt) (next_is_new F) (fun p hp => Nat.ne_of_lt (Heap.lt_size (N p hp).1)) (hInv _ _ _ _ s₁ _ s₁.toks hV) R (hRR _ _ hInv fin)
    · obtain ⟨k', hm'⟩ := hsrc _ _ _ _ _ hV'
      exact ⟨by obtain ⟨o', q, r⟩ := st.1; rw [e] at q; cases q; exact ⟨o, e', r⟩, _, (N' _ hm').1, rfl, k', rfl⟩
    · show b < (s₁.heap.push _).objs.size
      rw [Heap.size_push]
      rcases List.mem_cons.mp hb with rfl | hb
      · exact Nat.lt_succ_self _
      · rw [List.mem_singleton.mp hb]; exact Nat.lt_succ_of_lt hlt
  · refine wpAny_pyIter_range hr hsm ?_
    refine comp_block (range_walks hh a n) hsz (fun i h st => ⟨_, st⟩) (fun i h s' o ys g nw st e e' _ _ => ?_) hInv hcell hkind hx (by show IsRangeIter _ _ _ _ _; rw [hn]; simpa using Heap.get?_push_size _ rfl) (fun b hb => ?_)
      (F.keeps fun _ _ e => Heap.get?_push_of_some _ e) (N.grown fun _ _ e => Heap.get?_push_of_some _ e) (Nat.ne_of_lt F.ns.lt) (next_is_new F) (fun p hp => Nat.ne_of_lt (Heap.lt_size (N p hp).1)) (hInv _ _ _ _ s₁ _ s₁.toks hV) R (hRR _ _ hInv fin)
    · have st' : h.get? s₁.heap.objs.size = some _ := st
      show s'.heap.get? s₁.heap.objs.size = some _
      rw [e', ← e]; exact st'
    · rw [List.mem_singleton.mp hb]
      show s₁.heap.objs.size < (s₁.heap.push _).objs.size
      rw [Heap.size_push]; exact Nat.lt_succ_self _
theorem comp_J {elt iter : Expr} {ifs : List Expr} {x : Str} {px : Pos} {scope : Scope} {cl : List (Str × Addr)} {pos : Pos} {Q : Value → Shared → Prop}
    (hclos : closureFor scope env = pure cl) (hcell : ∀ y ∈ scope.names, y.2 ≠ .cell) (hkind : scope.kind = .function)
    (hnames : ∀ y ∈ scope.names, y.2 = .local → scope.names.lookup y.1 = some .local) (hx : scope.names.lookup x = some .local)
    (h : wpAny (MM w) A (eval iter env) (CSrc w A L m env ifs elt x scope cl (fun n Inv => ∀ D ys g nw s', Fr g L s'.heap m → News g L s'.heap ((D, lst ys) :: nw) → Off1 D nw → Inv n ys g nw s' → Q (.ref D) s')) E s)
    (hs : ∀ x, foldedSetIterable iter env x = pure x) :
    wpAny (MM w) A (eval (.ListComp elt [⟨.Name x px, iter, ifs, 0⟩] scope pos) env) Q E s := by
  rw [eval_ListComp]
  refine wpAny_comprehension_free (use := none) rfl hs hclos hkind hnames (wpAny_mono h (fun xv s₁ h₁ => ?_) fun _ _ e => e)
  refine comp_src hcell hkind hx h₁ fun n Inv hInv fin D C m' ys g nw s' F' N' o1 hn hC₀ hCL hDL hCD offC hV => ⟨m', hn, fun h'' hs'' => fin D ys g nw _ (F'.change hs'' hCL hC₀) (fun p hp => ?_) o1 (hInv _ _ _ _ s' _ s'.toks hV)⟩
  refine ⟨hs''.extBut _ _ ?_ (N' p hp).1, (N' p hp).2⟩
  rcases List.mem_cons.mp hp with rfl | hp
  · exact Ne.symm hCD
  · exact offC p hp
theorem comp_JA {elt iter : Expr} {ifs : List Expr} {x y : Str} {px py : Pos} {scope : Scope} {cl : List (Str × Addr)} {pos spos : Pos} {Q : Flow → Shared → Prop} (hLe : env.locals = L)
    (hsw : swapsWith (.ListComp elt [⟨.Name x px, iter, ifs, 0⟩] scope pos) (some (.Name y py)) spos.line env = pure true)
    (hclos : closureFor scope env = pure cl) (hcell : ∀ z ∈ scope.names, z.2 ≠ .cell) (hkind : scope.kind = .function)
    (hnames : ∀ z ∈ scope.names, z.2 = .local → scope.names.lookup z.1 = some .local) (hx : scope.names.lookup x = some .local)
    (hy : env.kindOf y = some .local) (hp : (env.scope.kind == .class || (env.scope.kind == .module && env.locals != env.globals)) = false)
    (h : wpAny (MM w) A (eval iter env) (CSrc w A L m env ifs elt x scope cl (fun n Inv => ∀ D ys g nw s', Fr g L s'.heap (fun z => if z = y then some (.ref D) else m z) → News g L s'.heap ((D, lst ys) :: nw) → Off1 D nw → Inv n ys g nw s' → Q .next s')) E s)
    (hs : ∀ x, foldedSetIterable iter env x = pure x) :
    wpAny (MM w) A (exec (.Assign [.Name y py] (.ListComp elt [⟨.Name x px, iter, ifs, 0⟩] scope pos) spos) env) Q E s := by
  subst hLe
  rw [exec_Assign_Name_used _ _ _ _ hsw]
  refine wpAny_bind (wpAny_standAt (wpAny_bind ?_))
  show wpAny _ A (do let _ ← comprehension (.ListComp elt [⟨.Name x px, iter, ifs, 0⟩] scope pos) scope env _ (newList []) false (eval iter env) (some (assign (.Name y py) env))) _ _ s
  refine wpAny_bind (wpAny_mono (wpAny_comprehension_free (use := some (assign (.Name y py) env)) (Q := fun _ s' => Q .next s') rfl hs hclos hkind hnames
    (wpAny_mono h (fun xv s₁ h₁ => ?_) fun _ _ e => e)) (fun _ s' hq => wpAny_pure (wpAny_pure hq)) fun _ _ e => e)
  refine comp_src hcell hkind hx h₁ fun n Inv hInv fin D C m' ys g nw s' F' N' o1 hn hC₀ hCL hDL hCD offC hV => ?_
  show wpAny _ A (assign (.Name y py) env (.ref D)) _ _ _
  refine wpAny_assign_Name (wpAny_storeName_local hy F'.ns (fun h₂ hn₂ hs₂ => ?_) hp)
  have hL₀ : g.get? env.locals = none := Heap.get?_none_of_le F'.above
  have F₂ : Fr g env.locals h₂ (fun z => if z = y then some (.ref D) else m z) := ⟨hn₂, fun b o e => hs₂.extBut b o (fun q => by rw [q, hL₀] at e; cases e) (F'.keep b o e), F'.above⟩
  refine ⟨m', hn.sameBut hs₂ hCL, fun h'' hs'' => fin D ys g nw _ (F₂.change hs'' hCL hC₀) (fun p hp => ?_) o1 (hInv _ _ _ _ s' _ _ hV)⟩
  have z : h₂.get? p.1 = some p.2 := hs₂.extBut _ _ (N' p hp).2.1 (N' p hp).1
  refine ⟨hs''.extBut _ _ ?_ z, (N' p hp).2⟩
  rcases List.mem_cons.mp hp with rfl | hp
  · exact Ne.symm hCD
  · exact offC p hp
end
end
-- CExc
section
set_option maxHeartbeats 4000000
open PySem PySem.W PyProof.Rows PySem.Calls
/-- an IndexError just made -/
structure ExcNew (h h' : Heap) (e : Addr) (vs : Array Value) : Prop where
  keeps : ∀ b o, h.get? b = some o → h'.get? b = some o
  new : h.get? e = none
  there : ∃ ob, h'.get? e = some ob ∧ ob.cls = .type "IndexError" ∧ ob.data = .fields vs
/-- the exception's object and the head of its traceback, as things of the ledger -/
structure ExcO (oe oT : Obj) (e T : Addr) (vs : Array Value) (fl : Value) : Prop where
  cls : oe.cls = .type "IndexError"
  data : oe.data = .fields vs
  tb : vs[1]? = some (.ref T)
  ne : T ≠ e
  flight : ∃ ts, oT.data = .fields ts ∧ ts[3]? = some fl
section
variable {M : Model} {A A₀ : Around} {E : Value → Shared → Prop} {s' : Shared} {base g h : Heap} {outer : List Env} {L a e : Addr} {m : Str → Option Value} {name : Str} {scope : Scope} {cd : Value} {Q : Unit → Shared → Prop} {news : List (Addr × Obj)} {vs : Array Value}
theorem noted_E (hAf : A.frames = some (envOf name scope L a cd :: outer)) (K : Below A₀ base outer g) (F : Fr g L h m) (N : News g L h news) (hx : ExcNew h s'.heap e vs) (h1 : vs[1]? = some .none)
    (hQ : ∀ h' g' oe T oT, KtsTurn (outer.filterMap (·.frame)) g g' → Fr g' L h' m → News g' L h' ((e, oe) :: (T, oT) :: news) → ExcO oe oT e T (vs.setIfInBounds 1 (.ref T)) (rawInt L) → Below A₀ base outer g' → (∀ p ∈ news, p.1 ≠ e ∧ p.1 ≠ T) → Q () { s' with heap := h' })
    (hk : scope.kind = .function := by rfl) : wpAny M A (noteFrame (.ref e) (envOf name scope L a cd)) Q E s' := by
  have K' := K.push (name := name) (a := a) (cd := cd) F hk
  have hl : s'.heap.FunFrames base (envOf name scope L a cd :: outer) := K'.frames.of_keeps fun b o hb _ => ⟨o, hx.keeps b o hb, rfl⟩
  obtain ⟨oe, he, hc, hd⟩ := hx.there
  have hene : e ∉ (envOf name scope L a cd :: outer).filterMap (·.frame) := fun hm => by
    obtain ⟨_, o, ho, hnf⟩ := hl.mem hm
    rw [he] at ho; injection ho with ho; subst ho; exact hnf vs hd
  have hsz : 1 < vs.size := (Array.getElem?_eq_some_iff.mp h1).1
  unfold noteFrame
  show wpAny M A (do let head ← field (.ref e) 1; _) _ _ _
  refine wpAny_bind (wpAny_field he hd h1 ?_)
  rw [if_neg (by decide)]
  refine wpAny_bind (wpAny_frameOf_fun hAf hl rfl fun h₁ hs₁ => ?_)
  refine wpAny_bind (wpAny_entryPlaceOf fun pl hpl => ?_)
  unfold EntryCells.newEntry newFields
  refine wpAny_bind (wpAny_newObj_type ?_ (hpl.sizeOk5 _ _ _ _ _))
  have he₁ : h₁.get? e = some oe := (hs₁.2.1 e hene).trans he
  generalize hTv : ([Value.none, .ref L, .none, rawInt L, .none] ++ (if pl.isEmpty then List.replicate 6 Value.none else pl)).toArray = ts
  have h3 : ts[3]? = some (rawInt L) := by
    rw [← hTv]
    first | (simp; done) | (rcases hpl with rfl | ⟨_, _, _, _, _, _, _, rfl⟩ <;> simp)
  have he₂ := Heap.get?_push_of_some (h := h₁) { cls := .type "traceback", dict := none, data := .fields ts } he₁
  refine wpAny_setField he₂ hd hsz ?_
  generalize hTn : h₁.objs.size = T
  have hTe : T ≠ e := by rw [← hTn]; exact Nat.ne_of_gt (Heap.lt_size he₁)
  have hd₃ := Obj.data_mapFields hd (·.setIfInBounds 1 (Value.ref T))
  have he₃ := Heap.get?_update_self (Obj.mapFields (·.setIfInBounds 1 (Value.ref T))) he₂ (Obj.isFreed_of_fields hd₃)
  have hT₃ := (Heap.get?_update_other (h₁.push { cls := .type "traceback", dict := none, data := .fields ts }) (Obj.mapFields (·.setIfInBounds 1 (Value.ref T))) (Ne.symm hTe)).trans (hTn ▸ Heap.get?_push_size h₁ rfl)
  generalize hH : (h₁.push { cls := .type "traceback", dict := none, data := .fields ts }).update e (Obj.mapFields (·.setIfInBounds 1 (Value.ref T))) = H at he₃ hT₃ ⊢
  have keep : ∀ b o, b ≠ e → h₁.get? b = some o → H.get? b = some o := fun b o hbe hb => by
    rw [← hH, Heap.get?_update_other _ _ (Ne.symm hbe)]
    exact Heap.get?_push_of_some _ hb
  have ne_e : ∀ b o, h.get? b = some o → b ≠ e := fun b o hb q => by rw [q, hx.new] at hb; cases hb
  have hBG : ∀ b o, h.get? b = some o → b ∉ (envOf name scope L a cd :: outer).filterMap (·.frame) → (hideAll h ((envOf name scope L a cd :: outer).filterMap (·.frame))).get? b = some o := fun b o hb nm => hideAll_get _ hb nm
  have hBh : (hideAll h ((envOf name scope L a cd :: outer).filterMap (·.frame))).StaysIn H := fun b o hb => by
    have hb' := of_hideAll _ hb
    have nm : b ∉ (envOf name scope L a cd :: outer).filterMap (·.frame) := fun hm => by rw [hideAll_none _ hm] at hb; cases hb
    exact keep b o (ne_e b o hb') ((hs₁.2.1 b nm).trans (hx.keeps b o hb'))
  have hsm : h.UpToSlots H := fun b o hb _ => by
    obtain ⟨sl, hs⟩ := hs₁.2.2 b o (hx.keeps b o hb)
    exact ⟨sl, keep b _ (ne_e b o hb) hs⟩
  obtain ⟨g', T', F', K''⟩ := kts_ground K F hBG hBh hsm
  have hg0 : ∀ b, h.get? b = none → g'.get? b = none := fun b hb => T'.none_ _ (kts_none F.keep hb)
  have hTh : h.get? T = none := by
    cases q : h.get? T with
    | none => rfl
    | some o =>
      obtain ⟨sl, hs⟩ := hs₁.2.2 T o (hx.keeps T o q)
      have := Heap.lt_size hs
      rw [← hTn] at this
      exact absurd this (Nat.lt_irrefl _)
  have N' : News g' L H news := fun q hq => by
    refine ⟨hBh _ _ (hBG _ _ (N q hq).1 fun hm => ?_), (N q hq).2.1, T'.none_ _ (N q hq).2.2⟩
    rcases kts_mem hm with z | z
    · exact (N q hq).2.1 z
    · obtain ⟨o, ho, _⟩ := (K.frames.mem z).2
      rw [(N q hq).2.2] at ho; cases ho
  refine hQ _ g' _ T _ T' F' (News.more F' (News.more F' N' hT₃ (fun es n q => by cases q) (hg0 T hTh)) he₃ (fun es n q => by rw [hd₃] at q; cases q) (hg0 e hx.new)) ⟨(Obj.cls_mapFields _ _).trans hc, hd₃, by simp [hsz], hTe, ts, rfl, h3⟩ K'' fun p hp => ⟨ne_e _ _ (N p hp).1, fun q => by have z := (N p hp).1; rw [q, hTh] at z; cases z⟩
/-- the frame is noted already -/
theorem again_E {oe oT : Obj} {T : Addr} (N : News g L s'.heap news) (m1 : (e, oe) ∈ news) (m2 : (T, oT) ∈ news) (X : ExcO oe oT e T vs (rawInt L)) (h : Q () s') : wpAny M A (noteFrame (.ref e) (envOf name scope L a cd)) Q E s' := by
  obtain ⟨_, hd, h1, hTe, ts, hdT, h3⟩ := X
  unfold noteFrame
  show wpAny M A (do let head ← field (.ref e) 1; _) _ _ _
  refine wpAny_bind (wpAny_field (N _ m1).1 hd h1 ?_)
  rw [if_pos (show (Value.ref T != Value.none) = true from by simp)]
  refine wpAny_bind (wpAny_field (N _ m2).1 hdT h3 ?_)
  rw [if_pos (show (rawInt L == rawInt L) = true from by simp)]
  exact wpAny_pure h
theorem flight_E {oe oT : Obj} {T : Addr} {fl : Value} {fr : Option Addr} {rest : List (Addr × Obj)} (F : Fr g L s'.heap m) (N : News g L s'.heap ((e, oe) :: (T, oT) :: rest)) (X : ExcO oe oT e T vs fl) (hne : ∀ p ∈ rest, p.1 ≠ T)
    (h : ∀ h' oT', Fr g L h' m → News g L h' ((e, oe) :: (T, oT') :: rest) → ExcO oe oT' e T vs (fr.elim .none fun f => rawInt f) → Q () { s' with heap := h' }) : wpAny M A (setFlight (.ref e) fr) Q E s' := by
  obtain ⟨hc, hd, h1, hTe, ts, hdT, h3⟩ := X
  have hT := N (T, oT) (.tail _ (.head _))
  have he := N (e, oe) (.head _)
  have hsz3 : 3 < ts.size := (Array.getElem?_eq_some_iff.mp h3).1
  have other : ∀ b, b ≠ T → (s'.heap.update T (Obj.mapFields (·.setIfInBounds 3 (fr.elim Value.none fun f => rawInt f)))).get? b = s'.heap.get? b := fun b hb => Heap.get?_update_other _ _ (Ne.symm hb)
  unfold setFlight
  refine wpAny_bind (wpAny_field he.1 hd h1 ?_)
  rw [if_pos (show (Value.ref T != Value.none) = true from by simp)]
  have hT₃ := Heap.get?_update_self (Obj.mapFields (·.setIfInBounds 3 (fr.elim Value.none fun f => rawInt f))) hT.1 (Obj.isFreed_of_fields (Obj.data_mapFields hdT _))
  have h3' : (ts.setIfInBounds 3 (fr.elim Value.none fun f => rawInt f))[3]? = some (fr.elim Value.none fun f => rawInt f) := by simp [hsz3]
  obtain ⟨oL, es, ep, hoL, hLr⟩ := F.ns
  refine wpAny_setField hT.1 hdT hsz3 (h _ _ ⟨⟨oL, es, ep, (other L (Ne.symm hT.2.1)).trans hoL, hLr⟩, fun b o hb => (other b fun q => by rw [q, hT.2.2] at hb; cases hb).trans (F.keep b o hb), F.above⟩ (fun p hp => ?_) ⟨hc, hd, h1, hTe, _, Obj.data_mapFields hdT (·.setIfInBounds 3 (fr.elim Value.none fun f => rawInt f)), h3'⟩)
  rcases List.mem_cons.mp hp with rfl | hp
  · exact ⟨(other _ (Ne.symm hTe)).trans he.1, he.2⟩
  rcases List.mem_cons.mp hp with rfl | hp
  · exact ⟨hT₃, hT.2⟩
  · have z := N p (.tail _ (.tail _ hp))
    exact ⟨(other _ (hne p hp)).trans z.1, z.2⟩
end
end
-- CExc2
section
set_option maxHeartbeats 4000000
open PySem PySem.W PyProof.Rows PySem.Calls
theorem entry_unchain : entryFor table "proto.unchain" = some Builtin.«proto.unchain» := entryFor_of_tree (by kernel_rfl)
section
variable {prog : Program} {w : World} {A : Around} {E : Value → Shared → Prop} {s : Shared}
/-- a raise while another exception is being handled -/
theorem raise_M {α : Type} {msg : String} {Q : α → Shared → Prop} {e : Addr} {oe : Obj} {vs : Array Value} (hh : A.handled = some (.ref e)) (he : s.heap.get? e = some oe) (hd : oe.data = .fields vs) (h2 : vs[2]? = some .none)
    (h : ∀ h' tk e2 t, ExcNew s.heap h' e2 #[t, .none, .ref e, .none, .bool false, .none] → E (.ref e2) { s with heap := h', toks := tk }) :
    wpAny (model prog w) A (raiseErrorWords "IndexError" msg : Sem α) Q E s := by
  have hp := plainExc_IndexError
  unfold raiseErrorWords
  refine wpAny_bind (wpAny_mkText (wpAny_bind ?_))
  unfold newExc newTuple
  refine wpAny_bind (wpAny_newObj_type ?_)
  refine wpAny_bind (m := firstArgMember _ _) (wpAny_of_eq (a := Value.none) (by simp only [firstArgMember, hp.first]; rfl) ?_)
  rw [hp.own]
  refine wpAny_newObj_type ?_
  unfold raiseNew
  refine wpAny_bind (wpAny_handled ?_)
  rw [hh]
  generalize hH : s.heap.push _ = H1
  have he1 : H1.get? e = some oe := hH ▸ Heap.get?_push_of_some _ he
  have lt : (e : Nat) < H1.objs.size := Heap.lt_size he1
  have hne : (Value.ref e != Value.ref H1.objs.size) = true := by simp [Nat.ne_of_lt lt]
  dsimp only
  rw [if_pos hne]
  have he2 := Heap.get?_push_of_some (h := H1) { cls := .type "IndexError", data := .fields (#[Value.ref s.heap.objs.size, Value.none, Value.none, Value.none, Value.bool false, Value.none] ++ #[]) } he1
  have hnew : ∀ a : Addr, (s.heap.objs.size : Nat) ≤ a → s.heap.get? a = none := fun a ha => Heap.get?_none_of_le ha
  have hsz : H1.objs.size = s.heap.objs.size + 1 := by rw [← hH, Heap.size_push]
  refine wpAny_bind (wpAny_holding (wpAny_runValue (codeAny_builtin entry_unchain ?_)))
  show wpAny _ _ (do let context ← field (.ref e) 2; _) _ _ _
  refine wpAny_bind (wpAny_field he2 hd h2 ?_)
  rw [if_pos (by decide)]
  refine wpAny_pure ?_
  dsimp only
  have hx := Heap.get?_push_size H1 (o := { cls := .type "IndexError", data := .fields (#[Value.ref s.heap.objs.size, Value.none, Value.none, Value.none, Value.bool false, Value.none] ++ #[]) }) rfl
  unfold updateField
  refine wpAny_bind (wpAny_bind (wpAny_load hx ?_))
  dsimp only
  rw [if_pos (by simp)]
  refine wpAny_update hx (wpAny_throw ?_)
  refine h _ _ _ (.ref s.heap.objs.size) ⟨fun b o hb => ?_, hnew _ (by rw [hsz]; exact Nat.le_succ _), _, Heap.get?_update_self _ hx (Obj.isFreed_of_fields (Obj.data_mapFields rfl _)), rfl, ?_⟩
  · have hb1 : H1.get? b = some o := hH ▸ Heap.get?_push_of_some _ hb
    exact (Heap.get?_update_other _ _ (Nat.ne_of_gt (Heap.lt_size hb1))).trans (Heap.get?_push_of_some _ hb1)
  · exact (Obj.data_mapFields rfl _).trans rfl
/-- an index past the end of a list while another exception is being handled -/
theorem item_outM {value slice : PySem.Expr} {l : Addr} {items : Array Value} {k : Int} {u : Tok} {Q : Value → Shared → Prop} {e : Addr} {oe : Obj} {vs : Array Value} (hh : A.handled = some (.ref e)) (he : s.heap.get? e = some oe) (hd' : oe.data = .fields vs) (h2 : vs[2]? = some .none)
    (hl : s.heap.IsList l items) (hout : (items.size : Int) ≤ k) (hhi : k < 2 ^ 63)
    (hE : ∀ h' tk e2 t, ExcNew s.heap h' e2 #[t, .none, .ref e, .none, .bool false, .none] → E (.ref e2) { s with heap := h', toks := tk })
    (hs : subscripted slice false (.ref l) (.int k u) = operate [.ref l, .int (j : Int) u] (getItem (.ref l) (.int k u))) :
    wpAny (model prog w) A (subscriptTail value slice (.ref l) (.int k u)) Q E s := by
  refine tail_any hl.typeIs slot_list_getitem.lookup ?_ hs
  obtain ⟨o, ho, hc, ne, hd⟩ := id hl
  unfold getItem
  try with_reducible refine wpAny_holding ?_
  first | refine wpAny_bind (wpAny_pure ?_) | skip
  refine wpAny_bind (wpAny_sequenceKey hl.typeIs (by decide) ?_)
  refine wpAny_bind (wpAny_callSpecial?_slot (name := Str.ofString "__getitem__") hl.typeIs slot_list_getitem
    (wpAny_call_entry slot_list_getitem hl.typeIs entry_list_getitem ?_ (args_list_getitem _ _)))
  show wpAny _ _ (Builtin.List.listSubscript? (.int k u) >>= _) _ _ s
  refine wpAny_bind (wpAny_listSubscript_int (fitsIndex_both (by omega) hhi) ?_)
  clear hhi hs
  cases k with
  | negSucc j => exact absurd hout (by have := Int.negSucc_lt_zero j; omega)
  | ofNat j =>
  have hx : items[j]? = none := Array.getElem?_eq_none (by have : (items.size : Int) ≤ (j : Int) := hout; omega)
  show wpAny _ _ ((seqItemAt l j >>= fun r => pure (r.map (j, ·))) >>= _) _ _ s
  refine wpAny_bind (wpAny_bind (wpAny_seqItemAt ho hd (wpAny_pure ?_)))
  rw [hx]
  first
    | exact wpAny_bind (wpAny_rule (raise_M hh he hd' h2 hE))
    | exact wpAny_bind (wpAny_rule (wpAny_bind (raise_M hh he hd' h2 hE)))
    | exact wpAny_bind (wpAny_bind (wpAny_rule (raise_M hh he hd' h2 hE)))
    | exact wpAny_rule (raise_M hh he hd' h2 hE)
end
section
variable {prog : Program} {w : World} {KF : Frag} {p : Program} {loose : List Str} {mg mb : Str → Option Value} {mean : ExcName → Option Value} {A : Around} {E : Value → Shared → Prop} {s' : Shared} {g : Heap} {L a e T : Addr} {oe oT : Obj} {m : Str → Option Value} {name : Str} {scope : Scope} {cd fl : Value} {vs : Array Value} {rest : List (Addr × Obj)}
theorem cameBack_E {outerE : Value → Shared → Prop} (F : Fr g L s'.heap m) (N : News g L s'.heap ((e, oe) :: (T, oT) :: rest)) (X : ExcO oe oT e T vs fl) (hne : ∀ p ∈ rest, p.1 ≠ T)
    (h : ∀ h' oT', Fr g L h' m → News g L h' ((e, oe) :: (T, oT') :: rest) → ExcO oe oT' e T vs (rawInt L) → outerE (.ref e) { s' with heap := h' }) : cameBackBy (model prog w) A (envOf name scope L a cd) outerE (.ref e) s' := by
  unfold cameBackBy
  refine wpAny_bind (wpAny_field (N _ (.head _)).1 X.data X.tb ?_)
  rw [if_neg (show ¬ ((Value.ref T == Value.none) = true) from by simp)]
  first
    | exact flight_E (fr := some L) F N X hne h
    | exact wpAny_bind (wpAny_pure (flight_E (fr := some L) F N X hne h))
theorem isIE : isSubtype (.type "IndexError") (.type "IndexError") = pure true := by rw [isSubtype_type]; kernel_rfl
theorem caught_E {b₀ : Stmt} {suite : List Stmt} {pos np : Pos} {hs : List ExceptHandler} {Q : Flow → Shared → Prop} (XF : KF.In g) (TF : Top p loose mean mg mb g) (ex : nsIn KF mainGlobals "IndexError" = some none)
    (F : Fr g L s'.heap m) (N : News g L s'.heap ((e, oe) :: (T, oT) :: rest)) (X : ExcO oe oT e T vs fl) (hne : ∀ p ∈ rest, p.1 ≠ T)
    (h : ∀ h' oT', Fr g L h' m → News g L h' ((e, oe) :: (T, oT') :: rest) → ExcO oe oT' e T vs .none →
      wpAny (model prog w) (A.mark (some (.ref e))) (execs (b₀ :: suite) (envOf name scope L a cd)) Q (notedBy (model prog w) (A.mark (some (.ref e))) (envOf name scope L a cd) (cameBackBy (model prog w) A (envOf name scope L a cd) E)) { s' with heap := h' })
    (hk : scope.kind = .function := by rfl) (hx : (envOf name scope L a cd).kindOf "IndexError" = some .globalImplicit := by rfl) :
    wpAny (model prog w) A (handleBy (.ref e) (envOf name scope L a cd) (.ExceptHandler (some (.Name "IndexError" np)) none (b₀ :: suite) pos :: hs)) Q E s' := by
  refine wpAny_handleBy_builtin (X := "IndexError") (T := "IndexError") (b := true) PySem.F.isExc_IndexError PySem.F.notTuple_IndexError isIE (name_B F XF (topRead_of TF) ex PyProof.Rows.Boot.«IndexError» (by decide) ⟨rfl, ⟨oe, (N _ (.head _)).1, X.cls⟩, ?_⟩ hk hx (by decide))
  rw [if_pos rfl]
  exact flight_E (fr := none) F N X hne h
end
section
variable {prog : Program} {w : World} {A : Around} {E : Value → Shared → Prop} {s : Shared} {h₀ : Heap} {L D b : Addr} {m : Str → Option Value} {news : List (Addr × Obj)} {its its2 : Array Value} {n n2 : Nat}
theorem extend_nil {Q : Value → Shared → Prop} (F : Fr h₀ L s.heap m) (N : News h₀ L s.heap news) (mD : (D, listOf its n) ∈ news) (mb : (b, listOf its2 n2) ∈ news) (he : its2 = #[]) (hsz : its.size ≤ 1000)
    (h : ∀ h', Fr h₀ L h' m → News h₀ L h' news → Q .none { s with heap := h' }) : wpAny (model prog w) A (call (.builtin "list.extend") [.ref D, .ref b]) Q E s := by
  subst he
  have z := N _ mD
  have hl : (1000 : Nat) ≤ sizeLine := by rw [PySem.sizeLine_eq]; decide
  have same : ∀ x, (s.heap.update D (Obj.mapSeq fun x => x ++ #[])).get? x = s.heap.get? x := fun x => by
    by_cases hx : x = D
    · subst hx
      rw [Heap.get?_update_self _ z.1 (by rw [mapSeq_app]; rfl), z.1, mapSeq_app]
      simp
    · exact Heap.get?_update_other _ _ (Ne.symm hx)
  refine call_meets PySem.F.slot_list_extend ⟨_, z.1, rfl⟩ PySem.F.entry_list_extend (PySem.F.args_list_extend_2 _ _) (AutoSeq1.list_extend_list_list_0 D its n b #[] n2 (extend_door (by simp; omega)) (Nat.le_trans hsz hl)) ⟨z.1, (N _ mb).1, h _ ?_ ?_⟩
  · exact F.keeps fun x o e => (same x).trans e
  · exact N.grown fun x o e => (same x).trans e
end
end
-- CSld
section
set_option maxHeartbeats 4000000
open PySem PySem.W PyProof.Rows PySem.Calls
noncomputable def missF (ks : List Int) (i : Nat) : List Int := ((List.range i).map Int.ofNat).filter fun k => !ks.contains k
theorem missF_succ (ks : List Int) (i : Nat) : missF ks (i + 1) = if ks.contains (i : Int) then missF ks i else missF ks i ++ [(i : Int)] := by
  unfold missF
  rw [List.range_succ, List.map_append, List.filter_append]
  cases h : ks.contains (i : Int) <;> simp_all
theorem ints_get {vs : Array Value} {ks : List Int} (h : IntsAre vs.toList ks) {i : Nat} {k : Int} (hk : ks[i]? = some k) : ∃ t, vs[i]? = some (.int k t) := by
  suffices hs : ∃ t, vs.toList[i]? = some (.int k t) by
    obtain ⟨t, e⟩ := hs
    exact ⟨t, by rw [← e]; exact Array.getElem?_toList.symm⟩
  generalize vs.toList = l at h
  induction ks generalizing l i with
  | nil => cases hk
  | cons a ks ih =>
    cases h with
    | cons n t h =>
      cases i with
      | zero => injection hk with e; subst e; exact ⟨_, rfl⟩
      | succ i => exact ih hk _ h
theorem ints_getZ {vs : Array Value} {ks : List Int} (h : IntsAre vs.toList ks) {i : Nat} {x k : Int} (hx : x = i) (hk : ks[i]? = some k) : ∃ t, vs[Int.toNat x]? = some (.int k t) := by
  subst hx
  exact ints_get h hk
theorem range_get {n i : Nat} (h : i < n) : ((List.range n).map Int.ofNat)[i]? = some (i : Int) := by simp [h]
theorem getD_get {ks : List Int} {j : Nat} (h : j < ks.length) : ks[j]? = some (ks.getD j 0) := by rw [List.getD_eq_getElem?_getD, List.getElem?_eq_getElem h]; rfl
theorem missF_len (ks : List Int) (i : Nat) : (missF ks i).length ≤ i := by
  unfold missF
  refine Nat.le_trans (List.length_filter_le _ _) ?_
  simp
structure SldOk (ks : List Int) (a : Nat) : Prop where
  small : a < 100
  len : 0 < ks.length ∧ ks.length ≤ 20
  last : ks.getD (ks.length - 1) 0 = a
  first : ∀ k ∈ ks, ks.getD 0 0 ≤ k
  le : ∀ k ∈ ks, 0 ≤ k ∧ k ≤ a
  gap : ∀ j : Nat, j + 1 < ks.length → ks.getD j 0 < ks.getD (j + 1) 0 ∧ ∀ k ∈ ks, k ≤ ks.getD j 0 ∨ ks.getD (j + 1) 0 ≤ k
structure SS where
  i : Nat
  j : Nat
  mv : Array Value
  n : Nat
  ti : Tok
  tj : Tok
structure SP (ks : List Int) (a : Nat) (c : SS) : Prop where
  mi : IntsAre c.mv.toList (missF ks c.i)
  ia : c.i ≤ a
  jl : c.j < ks.length
  up : (c.i : Int) ≤ ks.getD c.j 0
  all : ∀ k ∈ ks, k < c.i ∨ ks.getD c.j 0 ≤ k
section
variable {KF : Frag} {p : Program} {loose : List Str} {mean : ExcName → Option Value} {mg mb : Str → Option Value} {M : Model} {A A₀ : Around} {E : Value → Shared → Prop} {s' : Shared} {base g g₀ h : Heap} {outer : List Env} {L a e : Addr} {m : Str → Option Value} {name : Str} {scope : Scope} {cd : Value} {Q : Unit → Shared → Prop} {news : List (Addr × Obj)} {vs : Array Value}
theorem note_new (hAf : A.frames = some (envOf name scope L a cd :: outer)) (K : Below A₀ base outer g) (F : Fr g L h m) (N : News g L h news) (hx : ExcNew h s'.heap e vs) (h1 : vs[1]? = some .none)
    (XB : KF.In base) (TB : Top p loose mean mg mb base) (D : KtsDicts (outer.filterMap (·.frame)) g) (T0 : KtsTurn (outer.filterMap (·.frame)) g₀ g)
    (hQ : ∀ h' g' oe T oT, KtsTurn (outer.filterMap (·.frame)) g₀ g' → Fr g' L h' m → News g' L h' ((e, oe) :: (T, oT) :: news) → ExcO oe oT e T (vs.setIfInBounds 1 (.ref T)) (rawInt L) → (∀ p ∈ news, p.1 ≠ e ∧ p.1 ≠ T) → Below A₀ base outer g' → KF.In g' → Top p loose mean mg mb g' →
      KtsDicts (outer.filterMap (·.frame)) g' → Q () { s' with heap := h' })
    (hk : scope.kind = .function := by rfl) : wpAny M A (noteFrame (.ref e) (envOf name scope L a cd)) Q E s' :=
  noted_E hAf K F N hx h1 (fun h' g' oe T oT a1 a2 a3 a4 a5 a6 => hQ h' g' oe T oT (T0.trans a1) a2 a3 a4 a6 a5 (XB.keeps a5.stays) (TB.keeps a5.stays) (D.turn a1)) hk
theorem excNew_of (hx : Heap.NewExc h s'.heap e "IndexError") : ∃ t, ExcNew h s'.heap e #[t, .none, .none, .none, .bool false, .none] := by
  obtain ⟨ob, t, he, hc, hd⟩ := hx.there
  exact ⟨t, hx.keeps, hx.new, ob, he, hc, hd⟩
end
theorem pick_past {l : List Value} {x : Int} (h : (l.length : Int) ≤ x) : kms_pick l (some x) none = [] := by
  unfold kms_pick
  have e : kms_lo (some x) l.length = l.length := by
    obtain ⟨n, rfl⟩ := Int.eq_ofNat_of_zero_le (Int.le_trans (Int.natCast_nonneg _) h)
    show (if (n : Int) < 0 then l.length - (-(n : Int)).toNat else min n l.length) = l.length
    rw [if_neg (Int.not_lt.mpr (Int.natCast_nonneg n)), Nat.min_eq_right (Int.ofNat_le.mp h)]
  rw [e]
  simp
theorem KItem.item_nw {prog : Program} {w : World} {A : Around} {E : Value → Shared → Prop} {s : Shared} {g : Heap} {L l : Addr} {news : List (Addr × Obj)} {items : Array Value} {n : Nat} {k v : Int} {u : Tok} {value slice : Expr} {Q : Value → Shared → Prop}
    (h : ∀ t, Q (.int v t) s) (N : News g L s.heap news := by assumption) (hm : (l, listOf items n) ∈ news := by k_mem) (h0 : 0 ≤ k := by omega) (hfit : k < 2 ^ 63 := by omega) (hx : ∃ t, items[k.toNat]? = some (.int v t) := by assumption)
    (hs : subscripted slice false (.ref l) (.int k u) = operate [.ref l, .int k u] (getItem (.ref l) (.int k u)) := by with_unfolding_all rfl) : wpAny (model prog w) A (subscriptTail value slice (.ref l) (.int k u)) Q E s := by
  obtain ⟨t, hx⟩ := hx
  have hl : s.heap.IsList l items := ⟨_, (N _ hm).1, rfl, n, rfl⟩
  exact tail_any hl.typeIs slot_list_getitem.lookup (wpAny_getItem_list hl h0 hfit hx (h t)) hs
theorem append_nw {prog : Program} {w : World} {A : Around} {E : Value → Shared → Prop} {s : Shared} {g : Heap} {L D : Addr} {m : Str → Option Value} {news news' : List (Addr × Obj)} {its : Array Value} {n : Nat} {x : Value} {Q : Value → Shared → Prop}
    (F : Fr g L s.heap m) (N : News g L s.heap news) (U : Upd D (listOf its n) (listOf (its.push x) (n + 1)) news news') (hsz : its.size ≤ 1000) (h : ∀ h', Fr g L h' m → News g L h' news' → Q .none { s with heap := h' }) : wpAny (model prog w) A (call (.builtin "list.append") [.ref D, x]) Q E s := by
  obtain ⟨pre, post, rfl, rfl, a, c⟩ := U.split
  have z := N (D, listOf its n) (List.mem_append.mpr (.inr (.head _)))
  refine append_at (hsz := Nat.le_trans hsz (by rw [PySem.sizeLine_eq]; decide)) z.1 fun h' hs hD => h h' (F.change hs z.2.1 z.2.2) fun p hp => ?_
  rcases List.mem_append.mp hp with hp | hp
  · have y := N p (List.mem_append_left _ hp)
    exact ⟨hs.extBut _ _ (a p hp) y.1, y.2⟩
  rcases List.mem_cons.mp hp with rfl | hp
  · exact ⟨hD, z.2⟩
  · have y := N p (List.mem_append_right _ (.tail _ hp))
    exact ⟨hs.extBut _ _ (c p hp) y.1, y.2⟩
section
theorem KCSld.iteK {p : Prop} (h : p) : p := h
open KItem KSlice KSubscripttailNameNameRefInt KNoteframeRef KCallBuiltinListExtend KIf KPost KExecWhileConstant KCSld
local macro_rules | `(tactic| walk_at "call builtin:list.append") => `(tactic| (k_here; k_dflt (refine' append_nw ?F ?N ?U ?z ?_; (case F => k_asm); (case N => k_asm); (case U => k_upd); (case z => omega)); intro h' F' N'; (try dsimp only)))
local macro_rules | `(tactic| walk_at "exec While Compare") => `(tactic| (k_here; refine whl_start 100 ?_))
local macro_rules | `(tactic| walk_at "WhlRest") => `(tactic| (k_dflt (refine' whl_turn ?hE ?_; (case hE => assumption)); (try k_sweep)))
local macro_rules | `(tactic| walk_at "WhlIf") => `(tactic| first | (refine WhlIf.no ?h ?_; case h => assumption) | (refine WhlIf.yes ?h ?_; case h => assumption))
theorem sld_core (w : World) (gd : Option (List Code)) (cn : Str) (cs : Scope) (a : Addr) (ccd : Value) (outer : List Env) (A₀ : Around) (base h₀ : Heap) (L : Addr) (m mg mb : Str → Option Value) (mean : ExcName → Option Value) (s : Shared)
    (Q E : Value → Shared → Prop) (B : Below A₀ base outer h₀) (F : Fr h₀ L s.heap m) (X : (Mine.hd.heap_1 w.params).In h₀) (T : Top Mine.qv loose mean mg mb h₀) (XB : (Mine.hd.heap_1 w.params).In base) (TB : Top Mine.qv loose mean mg mb base) (D : KtsDicts (outer.filterMap (·.frame)) h₀)
    (x y n1 n2 : Nat) (ev av : Array Value) (ks : List Int) (top : Nat) (hok : SldOk ks top) (hev : IntsAre ev.toList ((List.range (top + 1)).map Int.ofNat)) (hav : IntsAre av.toList ks) (rest : List (Addr × Obj)) (N : News h₀ L s.heap ((y, listOf av n2) :: (x, listOf ev n1) :: rest))
    (hret : ∀ g h' tk' (D l1 : Nat) mv n l2, KtsTurn (outer.filterMap (·.frame)) h₀ g → Fr g L h' m → News g L h' ((D, { cls := .type "tuple", data := .seq #[.ref l1, .ref l2] }) :: (l1, listOf mv n) :: (y, listOf av n2) :: (x, listOf ev n1) :: rest) → Below A₀ base outer g → (Mine.hd.heap_1 w.params).In g → Top Mine.qv loose mean mg mb g → KtsDicts (outer.filterMap (·.frame)) g →
      IntsAre mv.toList (missF ks top) → (y < l1 ∧ x < l1 ∧ AllLt l1 rest) → l1 < D → Q (.ref D) { s with heap := h', toks := tk' }) :
    wpAny (MM w) (AT 400 gd (some (envOf cn (scK cs) L a ccd :: outer))) (call (.ref 773) [.ref x, .ref y]) Q E s := by
  refine wpAny_call ?_
  have X9 := X
  have T9 := T
  kts_go
  k_steps
  unfold Hold
  rename Fr _ _ _ _ => F1
  rename News _ _ _ _ => N1
  have hle : ev.size = top + 1 := by have := hev.length; simpa using this
  have hla : av.size = ks.length := by have := hav.length; simpa using this
  obtain ⟨m1, l1, l2, F1, N1, q1, q2, q3, q4, ⟨ti0, q5⟩, ⟨tj0, q6⟩, o1, o2⟩ : ∃ (m1 : Str → Option Value) (l1 l2 : Nat), Fr _ _ _ m1 ∧ News _ _ _ ((l2, listOf #[] 0) :: (l1, listOf #[] 0) :: (y, listOf av n2) :: (x, listOf ev n1) :: rest) ∧
    m1 "expected" = some (.ref x) ∧ m1 "actual" = some (.ref y) ∧ m1 "missing" = some (.ref l1) ∧ m1 "unexpected" = some (.ref l2) ∧ (∃ t, m1 "i" = some (.int 0 t)) ∧ (∃ t, m1 "j" = some (.int 0 t)) ∧ (y < l1 ∧ x < l1 ∧ AllLt l1 rest) ∧ (l1 < l2 ∧ y < l2 ∧ x < l2 ∧ AllLt l2 rest) :=
    ⟨_, _, _, F1, N1, by kernel_rfl, by kernel_rfl, by kernel_rfl, by kernel_rfl, ⟨_, by rfl⟩, ⟨_, by rfl⟩, by assumption, by assumption⟩
  obtain ⟨hm0, hl20⟩ := hok.len
  have hze : ev.size ≤ sizeLine := by have := hok.small; rw [hle, sizeLine_eq]; omega
  have hza : av.size ≤ sizeLine := by rw [hla, sizeLine_eq]; omega
  refine ksw_while (σ := SS) (fun c => (l2, listOf #[] 0) :: (l1, listOf c.mv c.n) :: (y, listOf av n2) :: (x, listOf ev n1) :: rest)
    (fun c => [("expected", .ref x), ("actual", .ref y), ("missing", .ref l1), ("unexpected", .ref l2), ("i", .int c.i c.ti), ("j", .int c.j c.tj)]) (fun _ => True) ["e", "a"] (fun c => SP ks top c) (fun c => top + 1 - c.i) ⟨0, 0, #[], 0, ti0, tj0⟩ F1 N1 trivial ?_ ?_ ?_
  · simp only [List.forall_mem_cons, List.forall_mem_nil, and_true]
    exact ⟨q1, q2, q3, q4, q5, q6, fun _ h => nomatch h⟩
  · exact ⟨by simpa [missF] using IntsAre.nil, Nat.zero_le _, hm0, (hok.le _ (by rw [List.getD_eq_getElem?_getD, List.getElem?_eq_getElem hm0]; simp)).1, fun k hk => .inr (hok.first k hk)⟩
  rintro ⟨i, j, mv, n, ti, tj⟩ u h' tk' - ⟨hmi, hia, hjl, hup, hall⟩ F2 N2
  dsimp only at hmi hia hjl hup hall N2 F2 ⊢
  rcases Int.lt_or_eq_of_le hup with hlt | heq
  · have hc1 : ks.contains (i : Int) = false := by
      cases hq : ks.contains (i : Int) with
      | false => rfl
      | true =>
        have := hall _ (List.contains_iff_mem.mp hq)
        omega
    have hjk : ks.getD j 0 ∈ ks := by rw [List.getD_eq_getElem?_getD, List.getElem?_eq_getElem hjl]; simp
    have hia' : i + 1 ≤ top := by have := (hok.le _ hjk).2; omega
    have hsm := hok.small
    have hmz : mv.size ≤ 1000 := by have h1 := hmi.length; have h2 := missF_len ks i; rw [Array.length_toList] at h1; omega
    have e1 : ∃ t, ev[Int.toNat (i : Int)]? = some (.int (i : Int) t) := ints_getZ hev rfl (range_get (by omega))
    have e2 : ∃ t, ev[Int.toNat ((i : Int) + 1)]? = some (.int ((i : Int) + 1) t) := ints_getZ (i := i + 1) hev (by omega) (range_get (by omega))
    have e3 : ∃ t, av[Int.toNat (j : Int)]? = some (.int (ks.getD j 0) t) := ints_getZ hav rfl (getD_get hjl)
    have d2 : (((i : Int) + 1) == (i : Int)) = false := by rw [beq_eq_false_iff_ne]; omega
    have d1 : decide ((i : Int) < ks.getD j 0) = true := by simpa using hlt
    k_steps
    rename News _ _ _ _ => N9
    refine' ksw_end ⟨i + 1, j, _, n + 1, ?ti, tj⟩ ?F N9 (fun p hp => hp) trivial ?ps ?same ?P ?mu
    case F => assumption
    case ps => kst_all
    case same =>
      intro z h2 h3
      simp only [List.forall_mem_cons, List.not_mem_nil, false_implies, implies_true, and_true, ne_eq] at h2
      simp only [List.contains_cons, List.contains_nil, Bool.or_false, Bool.or_eq_false_iff, beq_eq_false_iff_ne, ne_eq] at h3
      simp [kstB, h2, h3]
    case P =>
      refine ⟨?_, hia', hjl, by dsimp only; omega, fun k hk => ?_⟩
      · dsimp only
        rw [missF_succ, hc1]
        show IntsAre (mv.toList.concat _) (missF ks i ++ [(i : Int)])
        rw [List.concat_eq_append]
        exact hmi.append (.cons _ _ .nil)
      · dsimp only
        have := hall k hk
        omega
    case mu =>
      (try dsimp only)
      omega
  · have hjk : ks.getD j 0 ∈ ks := by rw [List.getD_eq_getElem?_getD, List.getElem?_eq_getElem hjl]; simp
    have hc1 : ks.contains (i : Int) = true := by rw [heq]; exact List.contains_iff_mem.mpr hjk
    have hsm := hok.small
    have hmz : mv.size ≤ 1000 := by have h1 := hmi.length; have h2 := missF_len ks i; rw [Array.length_toList] at h1; omega
    have e1 : ∃ t, ev[Int.toNat (i : Int)]? = some (.int (i : Int) t) := ints_getZ hev rfl (range_get (by omega))
    have e3 : ∃ t, av[Int.toNat (j : Int)]? = some (.int (i : Int) t) := ints_getZ hav rfl (by rw [heq]; exact getD_get hjl)
    have d1 : decide ((i : Int) < (i : Int)) = false := by simp
    have d2 : (((i : Int) + 1) == (i : Int)) = false := by rw [beq_eq_false_iff_ne]; omega
    by_cases hlast : j + 1 < ks.length
    · obtain ⟨hg1, hg2⟩ := hok.gap j hlast
      have hjk2 : ks.getD (j + 1) 0 ∈ ks := by rw [List.getD_eq_getElem?_getD, List.getElem?_eq_getElem hlast]; simp
      have hia' : i + 1 ≤ top := by have := (hok.le _ hjk2).2; omega
      have e2 : ∃ t, ev[Int.toNat ((i : Int) + 1)]? = some (.int ((i : Int) + 1) t) := ints_getZ (i := i + 1) hev (by omega) (range_get (by omega))
      have e4 : ∃ t, av[Int.toNat ((j : Int) + 1)]? = some (.int (ks.getD (j + 1) 0) t) := ints_getZ (i := j + 1) hav (by omega) (getD_get hlast)
      have d3 : (ks.getD (j + 1) 0 == (i : Int)) = false := by rw [beq_eq_false_iff_ne]; omega
      k_steps
      rename News _ _ _ _ => N9
      refine' ksw_end ⟨i + 1, j + 1, mv, n, ?tiB, ?tjB⟩ ?F N9 (fun p hp => hp) trivial ?ps ?same ?P ?mu
      case F => assumption
      case ps => kst_all
      case same =>
        intro z h2 h3
        simp only [List.forall_mem_cons, List.not_mem_nil, false_implies, implies_true, and_true, ne_eq] at h2
        simp only [List.contains_cons, List.contains_nil, Bool.or_false, Bool.or_eq_false_iff, beq_eq_false_iff_ne, ne_eq] at h3
        simp [kstB, h2, h3]
      case P =>
        refine ⟨?_, hia', hlast, by dsimp only; omega, fun k hk => ?_⟩
        · dsimp only
          rw [missF_succ, hc1]
          exact hmi
        · dsimp only
          have := hg2 k hk
          omega
      case mu =>
        dsimp only
        omega
    · have hj : j = ks.length - 1 := by omega
      have hit : i = top := by have := hok.last; rw [← hj] at this; omega
      k_steps
      unfold Hold
      rename Fr _ _ _ _ => F0
      rename News _ _ _ _ => N0
      with_unfolding_all refine' item_outK rfl ⟨_, (N0 (x, listOf ev n1) (by k_mem)).1, rfl, _, rfl⟩ ?o1 ?o2 ?o3 ?_ ?o5
      case o1 => omega
      case o2 => omega
      case o3 => omega
      case o5 => with_unfolding_all rfl
      intro h1 tk1 ee1 hx1
      k_steps
      unfold Hold
      obtain ⟨t1, hx2⟩ := excNew_of (s' := ⟨_, s.gens, s.drawn, s.toks, s.os⟩) hx1
      clear hx1
      refine' note_new ?f ?K ?F ?N hx2 (by rfl) XB TB ?D KtsTurn.refl ?_
      case f => exact rfl
      case K => assumption
      case F => assumption
      case N => assumption
      case D => assumption
      clear hx2
      intro h2 g2 oe1 T1 oT1 TT1 F2 N2 O1 ne1 K2 X2 P2 D2
      show FinallyRaised _ _ _ _ _ _ _ _ _
      refine ⟨by nofun, ?_⟩
      refine again_E N2 (.head _) (.tail _ (.head _)) O1 ?_
      refine flight_E F2 N2 O1 (fun p hp => (ne1 p hp).2) fun h3 oT2 F3 N3 O2 => ?_
      simp only [List.forall_mem_cons] at ne1
      clear N2 F2 O1
      refine gen_pass (by first | passes_own | with_unfolding_all passes_own) ?_
      intro QQ1 EE1 hQ1 hE1 hP1
      k_steps
      (try dsimp only)
      rename Fr _ _ _ _ => F4
      rename News _ _ _ _ => N4
      refine item_outM rfl (N4 (ee1, oe1) (by k_mem)).1 O2.data rfl ⟨_, (N4 (y, listOf av n2) (by k_mem)).1, rfl, _, rfl⟩ (by omega) (by omega) (fun h5 tk5 e2 t2 hx2 => ?_) (by with_unfolding_all rfl)
      (try dsimp only)
      refine hE1 _ _ ?_
      (try dsimp only)
      unfold notedBy
      clear hQ1 hE1 hP1
      refine' note_new ?f2 ?K2 ?F2 ?N2 hx2 (by rfl) XB TB ?D2 ?T2 ?_
      case f2 => exact rfl
      case K2 => assumption
      case F2 => assumption
      case N2 => assumption
      case D2 => assumption
      case T2 => assumption
      clear hx2
      intro h6 g6 oe6 T6 oT6 TT6 F6 N6 O6 ne6 K6 X6 P6 D6
      refine cameBack_E F6 N6 O6 (fun p hp => (ne6 p hp).2) fun h7 oT7 F7 N7 O7 => ?_
      (try dsimp only)
      refine again_E N7 (.head _) (.tail _ (.head _)) O7 ?_
      refine flight_E (fr := none) F7 N7 O7 (fun p hp => (ne6 p hp).2) fun h8 oT8 F8 N8 O8 => ?_
      refine' caught_E X6 P6 ?ex F8 N8 O8 (fun p hp => (ne6 p hp).2) (fun h9 oT9 F9 N9 O9 => ?_)
      case ex => k_is
      simp only [List.forall_mem_cons] at ne6
      refine gen_both ?_
      intro QQ2 EE2 hQ2 hE2
      clear N8 F8 O8 N7 F7 O7 N6 F6 O6 N4 F4 O2
      k_steps
      unfold Hold
      rename Fr _ _ _ _ => Fa
      rename News _ _ _ _ => Na
      refine extend_nil (D := l1) (its := mv) (n := n) Fa Na (by k_mem) (.head _) (by rw [pick_past (by rw [Array.length_toList, hle]; omega)]) hmz fun h10 Fb Nb => ?_
      clear Fa Na
      k_steps
      unfold Hold
      rename Fr _ _ _ _ => Fc
      rename News _ _ _ _ => Nc
      refine extend_nil (D := l2) (its := #[]) (n := 0) Fc Nc (by k_mem) (.head _) (by rw [pick_past (by rw [Array.length_toList, hla]; omega)]) (by simp) fun h11 Fd Nd => ?_
      clear Fc Nc
      k_steps
      rename News _ _ _ _ => Ne
      subst hit
      refine hret _ _ _ _ l1 mv n l2 (by assumption) (by assumption) (news_sub Ne fun p hp => ?_) (by assumption) (by assumption) (by assumption) (by assumption) hmi o1 (by omega)
      rcases List.mem_cons.mp hp with rfl | hp
      · exact .head _
      refine .tail _ (.tail _ (.tail _ (.tail _ (.tail _ (.tail _ (.tail _ (.tail _ ?_)))))))
      exact hp
end
end
-- CStrip
section
set_option maxHeartbeats 4000000
open PySem PySem.W PyProof.Rows PySem.Calls
section
theorem KCStrip.iteK {p : Prop} (h : p) : p := h
open KCStrip
local macro_rules | `(tactic| walk_at "exec While BoolOp") => `(tactic| (k_here; refine whl_start 100 ?_))
local macro_rules | `(tactic| walk_at "exec While") => `(tactic| (k_here; refine whl_start 100 ?_))
local macro_rules | `(tactic| walk_at "WhlIf") => `(tactic| first | (refine WhlIf.no ?h ?_; case h => assumption) | (refine WhlIf.yes ?h ?_; case h => assumption) | (refine WhlIf.no ?h ?_; case h => kernel_rfl!) | (refine WhlIf.yes ?h ?_; case h => kernel_rfl!))
theorem strip_keeps (w : World) (A : Around) (E : Value → Shared → Prop) (s : Shared) (mg mb : Str → Option Value) (mean : ExcName → Option Value) (X : (Mine.hd.heap_1 w.params).In s.heap) (T : Top Mine.qv loose mean mg mb s.heap) (hroom : A.depth < recursionLimit)
    (x : Str) (t u : Tok) (hlen : 2 ≤ (x.length : Int)) (hlen2 : (x.length : Int) ≤ 100) (hfirst : (Txt.item x 0 == " ") = true) (y : Str) (hy : Txt.slice x (some (0 + 1)) (some ((x.length : Int) - 1 + 1)) = y) :
    wpAny (MM w) A (call (.ref 51) [.str x t, .int 1 u]) (fun v s' => (∃ t', v = .str y t') ∧ Keeps s s') E s := by
  refine' call_keeps X T ?k6 ?k7 hroom ?k9 ?kB ?_ ?c2 ?c3 ?c4 ?c5
  case k6 => k_is
  case k7 => k_is
  case k9 => exact BindsTo.of_eq rfl
  case kB => exact locs rfl
  case c2 => exact rfl
  case c3 => exact rfl
  case c4 => exact rfl
  case c5 => decide
  intro L' h₁ F N
  have X1 := X
  have T1 := T
  dsimp only
  k_steps
  refine endN_and ⟨_, by dsimp only; rw [hy]⟩ ?_
  exact ⟨_, _, rfl, Fr.keep (by assumption)⟩
end
theorem strip_list : ((List.range 14).all fun k => [120, 37, 126, 35].all fun c => decide ((wordP (k + 1) c).length = k + 2) && (Txt.item (wordP (k + 1) c) 0 == " ") && (Txt.slice (wordP (k + 1) c) (some 1) (some ((k : Int) + 2)) == wordP k c)) = true := by kernel_rfl
theorem strip_word (w : World) (A : Around) (E : Value → Shared → Prop) (s : Shared) (mg mb : Str → Option Value) (mean : ExcName → Option Value) (X : (Mine.hd.heap_1 w.params).In s.heap) (T : Top Mine.qv loose mean mg mb s.heap) (hroom : A.depth < recursionLimit)
    {k c : Nat} (hk : KC (k + 1) c) (t u : Tok) : wpAny (MM w) A (call (.ref 51) [.str (wordP (k + 1) c) t, .int 1 u]) (fun v s' => (∃ t', v = .str (wordP k c) t') ∧ Keeps s s') E s := by
  have hz := List.all_eq_true.mp (List.all_eq_true.mp strip_list k (List.mem_range.mpr (by have := hk.k15; omega))) c hk.ink
  simp only [Bool.and_eq_true, decide_eq_true_eq] at hz
  obtain ⟨⟨h1, h2⟩, h3⟩ := hz
  have := hk.k15
  refine strip_keeps w A E s mg mb mean X T hroom _ t u (by omega) (by omega) h2 _ ?_
  rw [show (((wordP (k + 1) c).length : Nat) : Int) - 1 + 1 = (k : Int) + 2 from by omega]
  exact eq_of_beq h3
end
-- PLine
section
set_option maxHeartbeats 4000000
open PySem PySem.W PyProof.Rows PySem.Calls
theorem str_app (x y : Str) : (x ++ y).cps.toList = x.cps.toList ++ y.cps.toList := by
  show (Str.append x y).cps.toList = _
  unfold Str.append
  simp
noncomputable abbrev signsW (kc : Nat × Nat) : List Nat := List.replicate kc.1 32 ++ [kc.2]
noncomputable def lineW (ws : List (Nat × Nat)) : Str := Txt.join " " (ws.map fun kc => qw kc.1 kc.2)
theorem sign_ne {c : Nat} (hc : c ∈ [120, 37, 126, 35]) : c ≠ 10 ∧ c ≠ 39 ∧ c ≠ 92 := by
  simp only [List.mem_cons, List.not_mem_nil, or_false] at hc
  rcases hc with rfl | rfl | rfl | rfl <;> decide
theorem qw_tok {k c : Nat} (h : KC k c) (buf : Str) (pre post : List Nat) (hb : buf.cps.toList = pre ++ (qw k c).cps.toList ++ post) : TokAt buf (pre.length : Nat) (signsW (k, c)) ((pre.length + (qw k c).cps.toList.length : Nat) : Int) := by
  unfold qw at hb ⊢
  split at hb
  · rename_i hq
    rw [if_pos hq]
    refine .inr ⟨c, ?_⟩
    unfold qsafe at hq
    simp only [Bool.and_eq_true, beq_iff_eq, Bool.or_eq_true] at hq
    obtain ⟨rfl, hq⟩ := hq
    refine ⟨rfl, hq, ?_, ?_⟩
    · rw [hb]; simp [wordP]
    · simp [wordP]
  · rename_i hq
    rw [if_neg hq]
    have e : (Str.ofString "'" ++ wordP k c ++ Str.ofString "'").cps.toList = 39 :: (signsW (k, c) ++ [39]) := by
      rw [str_app, str_app]
      rfl
    rw [e] at hb ⊢
    have hl : (signsW (k, c)).length = k + 1 := by simp
    refine .inl ⟨⟨by omega, fun d hd => ?_, ?_, fun j d hj => ?_, ?_⟩, ?_⟩
    · simp only [signsW, List.mem_append, List.mem_replicate, List.mem_singleton] at hd
      rcases hd with ⟨_, rfl⟩ | rfl
      · decide
      · exact sign_ne h.ink
    · rw [hb]; simp
    · obtain ⟨hjl, _⟩ := List.getElem?_eq_some_iff.mp hj
      rw [hb, show ((pre.length : Nat) + 1 + (j : Int) : Int).toNat = pre.length + (1 + j) from by omega]
      rw [List.append_assoc, List.getElem?_append_right (by omega), show pre.length + (1 + j) - pre.length = j + 1 from by omega]
      rw [List.cons_append, List.getElem?_cons_succ, List.append_assoc, List.getElem?_append_left hjl]
      exact hj
    · rw [hb, show ((pre.length : Nat) + 1 + ((signsW (k, c)).length : Int) : Int).toNat = pre.length + (1 + (signsW (k, c)).length) from by omega]
      rw [List.append_assoc, List.getElem?_append_right (by omega), show pre.length + (1 + (signsW (k, c)).length) - pre.length = (signsW (k, c)).length + 1 from by omega]
      rw [List.cons_append, List.getElem?_cons_succ, List.append_assoc, List.getElem?_append_right (by omega)]
      simp
    · simp only [List.length_cons, List.length_append, List.length_nil]
      omega
theorem join_two (x y : Str) (r : List Str) : (Txt.join " " (x :: y :: r)).cps.toList = x.cps.toList ++ [32] ++ (Txt.join " " (y :: r)).cps.toList := by
  unfold Txt.join
  rw [StrLaws.glued_eq_join, StrLaws.glued_eq_join]
  show ((x ++ " ") ++ Str.join " " (y :: r)).cps.toList = _
  rw [str_app, str_app]
  rfl
theorem join_one (x : Str) : Txt.join " " [x] = x := by
  unfold Txt.join
  rw [StrLaws.glued_eq_join]
  rfl
theorem lineAt_join : ∀ (ws : List (Nat × Nat)), ws ≠ [] → (∀ kc ∈ ws, KC kc.1 kc.2) → ∀ (pre : List Nat) (buf : Str), buf.cps.toList = pre ++ (lineW ws).cps.toList → LineAt buf (pre.length : Nat) (ws.map signsW)
  | [], h, _, _, _, _ => absurd rfl h
  | [kc], _, hk, pre, buf, hb => by
    have h1 := hk kc (.head _)
    have hb' : buf.cps.toList = pre ++ (qw kc.1 kc.2).cps.toList ++ [] := by
      rw [hb, lineW, List.map_cons, List.map_nil, join_one, List.append_nil]
    refine ⟨_, ?_, qw_tok h1 buf pre [] hb', ?_⟩
    · have := h1.k15; simp; omega
    · show ((buf.cps.size : Nat) : Int) = _
      have := congrArg List.length hb'
      simp only [Array.length_toList, List.append_nil, List.length_append] at this ⊢
      rw [this]
  | kc :: kd :: r, _, hk, pre, buf, hb => by
    have h1 := hk kc (.head _)
    have hb' : buf.cps.toList = pre ++ (qw kc.1 kc.2).cps.toList ++ ([32] ++ (lineW (kd :: r)).cps.toList) := by
      rw [hb, lineW, List.map_cons, List.map_cons, join_two]
      simp [lineW]
    refine ⟨_, ?_, qw_tok h1 buf pre _ hb', ?_, ?_⟩
    · have := h1.k15; simp; omega
    · rw [hb', Int.toNat_natCast, List.getElem?_append_right (by simp)]
      simp
    · have := lineAt_join (kd :: r) (by simp) (fun x hx => hk x (.tail _ hx)) (pre ++ (qw kc.1 kc.2).cps.toList ++ [32]) buf (by rw [hb']; simp)
      have e : (pre ++ (qw kc.1 kc.2).cps.toList ++ [32]).length = pre.length + (qw kc.1 kc.2).cps.toList.length + 1 := by simp only [List.length_append, List.length_singleton]
      rw [e] at this
      exact this
theorem line_len {ws : List (Nat × Nat)} (h : WsOk ws) : (lineW ws).length ≤ 1048576 := by
  unfold lineW Txt.join
  rw [StrLaws.glued_eq_join]
  refine Nat.le_trans (StrLaws.join_length_le _ _) ?_
  rw [List.length_map]
  have h1 := sumLen_le_of_bound (fun kc : Nat × Nat => qw kc.1 kc.2) 17 ws fun a ha => qw_len (h.ok a ha)
  have h2 := h.len
  have h3 : ws.length * Str.length " " ≤ 20 * 1 := Nat.mul_le_mul h2 (by decide)
  have h5 : ws.length * (Str.ofString " ").length ≤ 20 := h3
  show (List.map (fun x => x.length) (List.map (fun kc : Nat × Nat => qw kc.1 kc.2) ws)).sum + ws.length * (Str.ofString " ").length ≤ _
  omega
end
-- PLaw
section
set_option maxHeartbeats 4000000
open PySem PySem.W PyProof.Rows PySem.Calls
noncomputable def wsOf (z : List Nat) (c : Nat) : List (Nat × Nat) := z.map fun k => (k - 1, c)
noncomputable def lackF (z : List Nat) : Nat := ((List.range (z.headD 0)).filter fun k => !z.contains k).getLastD 0
noncomputable def slopeF (z : List Nat) : Nat := z.headD 0 - lackF z
noncomputable def leastF (z : List Nat) : Nat := z.getLastD 0
noncomputable def stepF (z : List Nat) : List Nat := if slopeF z < leastF z then (z.take (slopeF z)).map (· - 1) ++ z.drop (slopeF z) ++ [slopeF z] else (z.take (leastF z)).map (· + 1) ++ z.dropLast.drop (leastF z)
noncomputable def sizesB (z : List Nat) : Bool := z.all (fun k => decide (1 ≤ k ∧ k ≤ 15)) && decide (1 ≤ z.length ∧ z.length ≤ 19)
noncomputable def fallsB : List Nat → Bool
  | a :: b :: r => decide (b < a) && fallsB (b :: r)
  | _ => true
noncomputable def goodB (z : List Nat) : Bool := sizesB z && fallsB z && sizesB (stepF z) && decide (1 ≤ slopeF z ∧ slopeF z ≤ z.length) && (!decide (slopeF z < leastF z) || (z.take (slopeF z)).all fun k => decide (2 ≤ k)) && (decide (slopeF z < leastF z) || (z.take (leastF z)).all fun k => decide (k ≤ 14))
/-- what _law_due says -/
noncomputable def dslopeF (z : List Nat) : Nat := ((List.range z.length).filter fun k => z.getD k 0 + k == z.getD 0 0).length
noncomputable def dueF (z : List Nat) : List Nat := if dslopeF z < leastF z then ((List.range z.length).map fun k => if k < dslopeF z then z.getD k 0 - 1 else z.getD k 0) ++ [dslopeF z]
  else if leastF z = z.length then z.map (· + 1) else (List.range (z.length - 1)).map fun k => if k < leastF z then z.getD k 0 + 1 else z.getD k 0
noncomputable def stairB (z : List Nat) : Bool := z.headD 0 == leastF z + (z.length - 1) && decide (z.length ≤ leastF z ∧ leastF z ≤ z.length + 1)
noncomputable def stepOk (z : List Nat) : Bool := goodB z && stepF z == dueF z && sizesB (dueF z) && (stairB z || (goodB (stepF z) && stepF (stepF z) == z))
/-- the law's own rows -/
noncomputable def gapF (r : Nat) : Nat := [1, 1, 1, 2, 3].getD r 0
noncomputable def sizesF : List Nat → List Nat → List Nat
  | acc, [] => acc
  | acc, r :: rs => sizesF ((acc.headD 0 + gapF r) :: acc) rs
noncomputable def fives : List Nat := [0, 1, 2, 3, 4]
noncomputable def rowsA : List (List Nat) := [sizesF [1 + 1] [0, 0]] ++ fives.map (fun a => sizesF [1 + a] [1, 0, 0]) ++ (fives.flatMap fun a => fives.map fun b => sizesF [1 + a] [b, 1, 0, 0]) ++ (fives.flatMap fun a => fives.flatMap fun b => fives.map fun d => sizesF [1 + a] [b, d, 1, 0, 0])
theorem rowsA_ok : rowsA.all stepOk = true := by kernel_rfl
/-- the rows of the sum n -/
noncomputable def rowsUp (n : Nat) (size : Nat) (rows : List (List Nat)) : List (List Nat) := rows ++ (rows.filter fun r => decide (r.sum + size ≤ n)).map (· ++ [size])
noncomputable def rowsTo (n : Nat) : Nat → List (List Nat)
  | 0 => [[]]
  | i + 1 => rowsUp n (n - i) (rowsTo n i)
noncomputable def rowsF (n : Nat) : List (List Nat) := (rowsTo n n).filter fun r => r.sum == n
noncomputable def lowF (n : Nat) : List (List Nat) := ((List.range n).filter fun i => (i + 1) * (3 * (i + 1) - 1) == 2 * n).map fun i => (List.range (i + 1)).map fun j => 2 * (i + 1) - 1 - j
noncomputable def highF (n : Nat) : List (List Nat) := ((List.range n).filter fun i => (i + 1) * (3 * (i + 1) + 1) == 2 * n).map fun i => (List.range (i + 1)).map fun j => 2 * (i + 1) - j
noncomputable def stairsF (n : Nat) : List (List Nat) := lowF n ++ highF n
noncomputable def takeOff : List Str → List Str → Option (List Str)
  | [], os => some os
  | p :: ps, os => if os.contains p then takeOff ps (os.erase p) else none
noncomputable def aloneF (n side : Nat) : List (List Nat) := (rowsF n).filter fun r => r.length % 2 == side && !(stairsF n).contains r
noncomputable def othersF (n side : Nat) : List (List Nat) := (rowsF n).filter fun r => !(r.length % 2 == side)
noncomputable def leftF (n side : Nat) : List (List Nat) := (stairsF n).filter fun r => !(r.length % 2 == side)
noncomputable def lineF (z : List Nat) (c : Nat) : Str := lineW (wsOf z c)
noncomputable def pairOk (n side c : Nat) : Bool := (aloneF n side).all goodB && (rowsF n).all sizesB && (stairsF n).all sizesB && decide ((rowsF n).length ≤ 100) && (takeOff ((aloneF n side).map fun r => lineF (stepF r) c).reverse ((othersF n side).map fun r => lineF r c) == some ((leftF n side).map fun r => lineF r c))
theorem pairs_ok : ((List.range 8).all fun i => [0, 1].all fun side => [120, 37, 126, 35].all fun c => pairOk (i + 1) side c) = true := by kernel_rfl
end
-- CLine
section
set_option maxHeartbeats 4000000
open PySem PySem.W PyProof.Rows PySem.Calls PyProof.Rows.LCg
noncomputable abbrev inkS (c : Nat) : Str := ⟨#[c]⟩
theorem word_keeps (w : World) (A : Around) (E : Value → Shared → Prop) (s : Shared) (mg mb : Str → Option Value) (mean : ExcName → Option Value) (X : (Mine.hd.heap_1 w.params).In s.heap) (T : Top Mine.qv loose mean mg mb s.heap) (hroom : A.depth < recursionLimit)
    (n : Int) (h1 : 1 ≤ n) (h2 : n ≤ 100) (x : Str) (t u : Tok) (hx : x.length ≤ 10) (y : Str) (hy : Txt.mul " " (n - 1) ++ x = y) :
    wpAny (MM w) A (call (.ref 794) [.int n u, .str x t]) (fun v s' => (∃ t', v = .str y t') ∧ Keeps s s') E s := by
  refine' call_keeps X T ?k6 ?k7 hroom ?k9 ?kB ?_ ?c2 ?c3 ?c4 ?c5
  case k6 => k_is
  case k7 => k_is
  case k9 => exact BindsTo.of_eq rfl
  case kB => exact locs rfl
  case c2 => exact rfl
  case c3 => exact rfl
  case c4 => exact rfl
  case c5 => decide
  intro L' h₁ F N
  have X1 := X
  have T1 := T
  dsimp only
  k_steps
  refine endN_and ⟨_, by dsimp only; rw [hy]⟩ ?_
  exact ⟨_, _, rfl, Fr.keep (by assumption)⟩
theorem word_list2 : ((List.range 15).all fun k => [120, 37, 126, 35].all fun c => (Txt.mul " " (((k + 1 : Nat) : Int) - 1) ++ inkS c == wordP k c)) = true := by kernel_rfl
theorem word_word (w : World) (A : Around) (E : Value → Shared → Prop) (s : Shared) (mg mb : Str → Option Value) (mean : ExcName → Option Value) (X : (Mine.hd.heap_1 w.params).In s.heap) (T : Top Mine.qv loose mean mg mb s.heap) (hroom : A.depth < recursionLimit)
    {n c : Nat} (h1 : 1 ≤ n ∧ n ≤ 15) (hc : c ∈ [120, 37, 126, 35]) (t u : Tok) : wpAny (MM w) A (call (.ref 794) [.int (n : Int) u, .str (inkS c) t]) (fun v s' => (∃ t', v = .str (wordP (n - 1) c) t') ∧ Keeps s s') E s := by
  obtain ⟨k, rfl⟩ : ∃ k, n = k + 1 := ⟨n - 1, by omega⟩
  have hz := List.all_eq_true.mp (List.all_eq_true.mp word_list2 k (List.mem_range.mpr (by omega))) c hc
  exact word_keeps w A E s mg mb mean X T hroom _ (by omega) (by omega) _ t u (Nat.le_of_ble_eq_true rfl) _ (eq_of_beq hz)
theorem word_rule {w : World} {A : Around} {E Q : Value → Shared → Prop} {s : Shared} {h₀ : Heap} {L : Addr} {m mg mb : Str → Option Value} {mean : ExcName → Option Value} (F : Fr h₀ L s.heap m) (X : (Mine.hd.heap_1 w.params).In h₀) (T : Top Mine.qv loose mean mg mb h₀)
    {n c : Nat} (h1 : 1 ≤ n ∧ n ≤ 15) (hc : c ∈ [120, 37, 126, 35]) {t u : Tok} (hroom : A.depth < recursionLimit) (h : ∀ t' h' tk', Heap.StaysIn s.heap h' → Q (.str (wordP (n - 1) c) t') { s with heap := h', toks := tk' }) : wpAny (MM w) A (call (.ref 794) [.int (n : Int) u, .str (inkS c) t]) Q E s :=
  wpAny_mono (word_word w A E s mg mb mean (X.keeps F.keep) (T.keeps F.keep) hroom h1 hc t u) (fun v s' hq => by obtain ⟨⟨t', rfl⟩, h', tk', rfl, hk⟩ := hq; exact h t' h' tk' hk) fun _ _ z => z
theorem strip_rule {w : World} {A : Around} {E Q : Value → Shared → Prop} {s : Shared} {h₀ : Heap} {L : Addr} {m mg mb : Str → Option Value} {mean : ExcName → Option Value} (F : Fr h₀ L s.heap m) (X : (Mine.hd.heap_1 w.params).In h₀) (T : Top Mine.qv loose mean mg mb h₀)
    {k c : Nat} (hk : KC (k + 1) c) {t u : Tok} (hroom : A.depth < recursionLimit) (h : ∀ t' h' tk', Heap.StaysIn s.heap h' → Q (.str (wordP k c) t') { s with heap := h', toks := tk' }) : wpAny (MM w) A (call (.ref 51) [.str (wordP (k + 1) c) t, .int 1 u]) Q E s :=
  wpAny_mono (strip_word w A E s mg mb mean (X.keeps F.keep) (T.keeps F.keep) hroom hk t u) (fun v s' hq => by obtain ⟨⟨t', rfl⟩, h', tk', rfl, hk⟩ := hq; exact h t' h' tk' hk) fun _ _ z => z
structure SizesOk (z : List Nat) : Prop where
  len : z.length ≤ 20
  ok : ∀ k ∈ z, 1 ≤ k ∧ k ≤ 15
noncomputable def StillInv (g₀ : Heap) (nw₀ : List (Addr × Obj)) (s₀ : Shared) (R : Nat → List Value → Prop) (i : Nat) (ys : List Value) (g : Heap) (nw : List (Addr × Obj)) (s : Shared) : Prop := g = g₀ ∧ nw = nw₀ ∧ s.gens = s₀.gens ∧ s.os = s₀.os ∧ R i ys
theorem StillInv.stay {g₀ : Heap} {nw₀ : List (Addr × Obj)} {s₀ : Shared} {R : Nat → List Value → Prop} : ∀ i ys g nw s h tk, StillInv g₀ nw₀ s₀ R i ys g nw s → StillInv g₀ nw₀ s₀ R i ys g nw { s with heap := h, toks := tk } := fun _ _ _ _ _ _ _ h => h
theorem ints_at {vs : Array Value} {z : List Nat} (h : IntsAre vs.toList (z.map Int.ofNat)) {i : Nat} {v : Value} (hv : vs[i]? = some v) : ∃ k t, z[i]? = some k ∧ v = Value.int (k : Int) t := by
  have hv' : vs.toList[i]? = some v := by rw [← hv]; exact Array.getElem?_toList
  clear hv
  generalize vs.toList = l at h hv'
  induction z generalizing l i with
  | nil => cases h; cases hv'
  | cons k z ih =>
    cases h with
    | cons n t h =>
      cases i with
      | zero => exact ⟨k, _, rfl, by injection hv' with e; exact e.symm⟩
      | succ i => exact ih _ h hv'
theorem words_snoc {ys : List Value} {ws : List (Nat × Nat)} {k c : Nat} {t : Tok} {i : Nat} (h : WordsAre ys.toArray (ws.take i)) (hi : ws[i]? = some (k, c)) : WordsAre (ys ++ [Value.str (wordP k c) t]).toArray (ws.take (i + 1)) := by
  have hlt : i < ws.length := (List.getElem?_eq_some_iff.mp hi).1
  have hy : ys.length = i := by have := h.size; simp at this; omega
  refine ⟨by simp; omega, fun j v hv => ?_⟩
  simp only [List.getElem?_toArray] at hv
  by_cases hj : j < i
  · rw [List.getElem?_append_left (by omega)] at hv
    obtain ⟨kc, t', e, rfl⟩ := h.words j v (by simpa using hv)
    rw [List.getElem?_take_of_lt hj] at e
    exact ⟨kc, t', by rw [List.getElem?_take_of_lt (by omega)]; exact e, rfl⟩
  · obtain ⟨hj2, e⟩ := List.getElem?_eq_some_iff.mp hv
    simp only [List.length_append, List.length_singleton] at hj2
    have hji : j = i := by omega
    subst hji
    rw [List.getElem_append_right (by omega)] at e
    simp only [List.getElem_singleton] at e
    exact ⟨(k, c), t, by rw [List.getElem?_take_of_lt (by omega)]; exact hi, e.symm⟩
section
variable {w : World} {A : Around} {E : Value → Shared → Prop} {s : Shared} {L : Addr} {m : Str → Option Value} {env : Env}
theorem comp_JF {g : Heap} {elt iter : Expr} {ifs : List Expr} {x : Str} {px : Pos} {scope : Scope} {cl : List (Str × Addr)} {pos : Pos} {Q : Value → Shared → Prop} (_F : Fr g L s.heap m)
    (hclos : closureFor scope env = pure cl) (hcell : ∀ y ∈ scope.names, y.2 ≠ .cell) (hkind : scope.kind = .function)
    (hnames : ∀ y ∈ scope.names, y.2 = .local → scope.names.lookup y.1 = some .local) (hx : scope.names.lookup x = some .local)
    (h : wpAny (MM w) A (eval iter env) (CSrc w A L m env ifs elt x scope cl (fun n Inv => ∀ D ys g nw s', Fr g L s'.heap m → News g L s'.heap ((D, lst ys) :: nw) → Off1 D nw → Inv n ys g nw s' → Q (.ref D) s')) E s)
    (hs : ∀ x, foldedSetIterable iter env x = pure x) :
    wpAny (MM w) A (eval (.ListComp elt [⟨.Name x px, iter, ifs, 0⟩] scope pos) env) Q E s := comp_J hclos hcell hkind hnames hx h hs
theorem comp_JAF {g : Heap} {elt iter : Expr} {ifs : List Expr} {x y : Str} {px py : Pos} {scope : Scope} {cl : List (Str × Addr)} {pos spos : Pos} {Q : Flow → Shared → Prop} (_F : Fr g L s.heap m) (hLe : env.locals = L)
    (hsw : swapsWith (.ListComp elt [⟨.Name x px, iter, ifs, 0⟩] scope pos) (some (.Name y py)) spos.line env = pure true)
    (hclos : closureFor scope env = pure cl) (hcell : ∀ z ∈ scope.names, z.2 ≠ .cell) (hkind : scope.kind = .function)
    (hnames : ∀ z ∈ scope.names, z.2 = .local → scope.names.lookup z.1 = some .local) (hx : scope.names.lookup x = some .local)
    (hy : env.kindOf y = some .local) (hp : (env.scope.kind == .class || (env.scope.kind == .module && env.locals != env.globals)) = false)
    (h : wpAny (MM w) A (eval iter env) (CSrc w A L m env ifs elt x scope cl (fun n Inv => ∀ D ys g nw s', Fr g L s'.heap (fun z => if z = y then some (.ref D) else m z) → News g L s'.heap ((D, lst ys) :: nw) → Off1 D nw → Inv n ys g nw s' → Q .next s')) E s)
    (hs : ∀ x, foldedSetIterable iter env x = pure x) :
    wpAny (MM w) A (exec (.Assign [.Name y py] (.ListComp elt [⟨.Name x px, iter, ifs, 0⟩] scope pos) spos) env) Q E s := comp_JA hLe hsw hclos hcell hkind hnames hx hy hp h hs
end
theorem csrc_list {w : World} {A : Around} {L : Addr} {m : Str → Option Value} {env : Env} {ifs : List Expr} {elt : Expr} {x : Str} {scope : Scope} {cl : List (Str × Addr)} {Fin : Nat → (Nat → List Value → Heap → List (Addr × Obj) → Shared → Prop) → Prop} {s₁ : Shared} {g : Heap} {nw : List (Addr × Obj)} {ax : Addr} {its : Array Value} {k : Nat} (R : Nat → List Value → Prop)
    (hh : A.handled = none) (F : Fr g L s₁.heap m) (N : News g L s₁.heap nw) (hm : (ax, listOf its k) ∈ nw) (hsz : its.size ≤ sizeLine) (hR : R 0 [])
    (helt : CElt w A L m env ifs elt x scope cl its.size (fun i v => its[i]? = some v) (StillInv g nw s₁ R)) (hfin : Fin its.size (StillInv g nw s₁ R)) : CSrc w A L m env ifs elt x scope cl Fin (.ref ax) s₁ :=
  ⟨g, nw, StillInv g nw s₁ R, hh, F, N, StillInv.stay, ⟨rfl, rfl, rfl, rfl, hR⟩, .inl ⟨ax, its, rfl, hsz, fun i ys g' nw' s' h => ⟨k, by obtain ⟨rfl, rfl, _⟩ := h; exact hm⟩, helt, hfin⟩⟩
theorem csrc_range {w : World} {A : Around} {L : Addr} {m : Str → Option Value} {env : Env} {ifs : List Expr} {elt : Expr} {x : Str} {scope : Scope} {cl : List (Str × Addr)} {Fin : Nat → (Nat → List Value → Heap → List (Addr × Obj) → Shared → Prop) → Prop} {s₁ : Shared} {g : Heap} {nw : List (Addr × Obj)} {r : Addr} {a b : Int} {t u v : Tok} {n : Nat} (R : Nat → List Value → Prop)
    (hh : A.handled = none) (F : Fr g L s₁.heap m) (N : News g L s₁.heap nw) (hr : IsRange s₁.heap r a b 1 t u v) (hsm : Builtin.Range.small a b 1 = true) (hn : Builtin.Range.rangeSize a b 1 = ((n : Nat) : Int)) (hsz : n ≤ sizeLine) (hR : R 0 [])
    (helt : CElt w A L m env ifs elt x scope cl n (fun i v => ∃ t, v = .int (a + (i : Int)) t) (StillInv g nw s₁ R)) (hfin : Fin n (StillInv g nw s₁ R)) : CSrc w A L m env ifs elt x scope cl Fin (.ref r) s₁ :=
  ⟨g, nw, StillInv g nw s₁ R, hh, F, N, StillInv.stay, ⟨rfl, rfl, rfl, rfl, hR⟩, .inr ⟨r, a, b, t, u, v, n, rfl, hr, hsm, hn, hsz, helt, hfin⟩⟩
theorem wsOk_of {z : List Nat} {c : Nat} (hz : SizesOk z) (hc : c ∈ [120, 37, 126, 35]) : WsOk (wsOf z c) := ⟨by simp [wsOf, hz.len], fun kc hk => by
  obtain ⟨k, h, rfl⟩ := List.mem_map.mp hk
  have := hz.ok k h
  exact ⟨by dsimp only; omega, hc⟩⟩
section
theorem KCLine.callHeld {M : Model} {A : Around} {f : Addr} {as : List Value} {Q E : Value → Shared → Prop} {s : Shared} (hf : held f [758, 794] = true) (h : Hold (wpAny M A (call (.ref f) as) Q E s)) : wpAny M A (call (.ref f) as) Q E s := call_hold hf h
open KEvalListcomp KCLine
theorem line_core (w : World) (gd : Option (List Code)) (ev : Env) (outer : List Env) (A₀ : Around) (base h₀ : Heap) (L : Addr) (m mg mb : Str → Option Value) (mean : ExcName → Option Value) (s : Shared)
    (Q E : Value → Shared → Prop) (B : Below A₀ base outer h₀) (F : Fr h₀ L s.heap m) (X : (Mine.hd.heap_1 w.params).In h₀) (T : Top Mine.qv loose mean mg mb h₀)
    (lst0 : Nat) (its ps : Array Value) (nn : Nat) (rest : List (Addr × Obj)) (N : News h₀ L s.heap ((lst0, listOf its nn) :: (753, tabO ps) :: rest)) (hne : @Ne Nat lst0 753) (h753 : ∀ p ∈ rest, p.1 ≠ 753) (hJ : TabJ ps) (hAB : AllBare s.gens)
    (z : List Nat) (c : Nat) (hc : c ∈ [120, 37, 126, 35]) (hz : SizesOk z) (hi : IntsAre its.toList (z.map Int.ofNat)) (t : Tok)
    (hret : ∀ s' t' ps', Fr h₀ L s'.heap m → News h₀ L s'.heap ((lst0, listOf its nn) :: (753, tabO ps') :: rest) → TabJ ps' → AllBare s'.gens → s'.os = s.os → Q (.str (lineF z c) t') s') :
    wpAny (MM w) (AT 590 gd (some (envK ev L :: outer))) (call (.ref 799) [.ref lst0, .str (inkS c) t]) Q E s := by
  k_steps
  unfold Hold
  rename Fr _ _ _ _ => F1
  rename News _ _ _ _ => N1
  refine' comp_JF F1 ?h1 ?h2 ?h3 ?h4 ?h5 ?_ ?h7
  case h1 => with_unfolding_all rfl
  case h2 => decide
  case h3 => rfl
  case h4 => decide
  case h5 => rfl
  case h7 => intro _; rfl
  walk1
  refine csrc_list (its := its) (k := nn) (fun i ys => WordsAre ys.toArray ((wsOf z c).take i)) rfl F1 N1 (by k_mem) ?_ ?_ ?_ ?_
  · have := hi.length; have := hz.len; simp at *; rw [sizeLine_eq]; omega
  · exact ⟨by simp, fun i v hv => by simp at hv⟩
  · intro i v I oI C oC D m₂ g nw ys s2 E' hi' hv hC hx F2 N2 off ne hV
    obtain ⟨rfl, rfl, hg, ho, hR⟩ := hV
    obtain ⟨k, tk, hk, rfl⟩ := ints_at hi hv
    refine wpAny_tests_nil ?_
    rw [if_pos rfl]
    clear F1 N1
    k_steps
    unfold Hold
    refine word_rule F2 (by assumption) (by assumption) (hz.ok k (List.mem_of_getElem? hk)) hc (by k_room) fun t' h' tk' hkp => ?_
    refine ⟨_, _, F2.keeps hkp, N2.grown hkp, off, rfl, rfl, hg, ho, words_snoc hR ?_⟩
    simp [wsOf, hk]
  · intro D ys g nw s' F2 N2 off hV
    obtain ⟨rfl, rfl, hg, ho, hR⟩ := hV
    clear F1 N1
    k_steps
    unfold Hold
    have hle : its.size = z.length := by have := hi.length; simpa using this
    refine join_use (lvl := lvO rfl rfl rfl) (ws := wsOf z c) (vs := ys.toArray) (nn := ys.length) rfl rfl rfl (by assumption) F2 (by assumption) (by assumption) N2 (.head _) (.tail _ (.tail _ (.tail _ (.head _)))) ?_ hJ ?_ ?_ ?_ fun s4 t4 ps4 F4 N4 hJ4 hm4 hAB4 hos4 => ?_
    · exact fun e => off.2.2.1 e.symm
    · rw [hg]; exact hAB
    · exact wsOk_of hz hc
    · rw [hle, List.take_of_length_le (by simp [wsOf])] at hR
      exact hR
    have n2 : @Ne Nat D 753 := fun e => off.2.2.1 e.symm
    have N5 := N4 _ (by k_upd)
    clear N4 N2 F2
    k_steps
    rename News _ _ _ _ => N6
    exact hret _ _ _ (by assumption) (news_sub N6 fun p hp => .tail _ (.tail _ hp)) hJ4 hAB4 (hos4.trans ho)
theorem line_use {w : World} {A : Around} {env : Env} {outer : List Env} {A₀ : Around} {base h₀ : Heap} {L : Addr} {m mg mb : Str → Option Value} {mean : ExcName → Option Value} {s : Shared} {Q E : Value → Shared → Prop}
    {lst0 : Nat} {its ps : Array Value} {nn : Nat} {nw : List (Addr × Obj)} {z : List Nat} {c : Nat} {t : Tok}
    (hA : A.frames = some (env :: outer)) (hf : env.frame = some L) (hk : env.scope.kind = .function) (B : Below A₀ base outer h₀) (F : Fr h₀ L s.heap m) (X : (Mine.hd.heap_1 w.params).In h₀) (T : Top Mine.qv loose mean mg mb h₀)
    (N : News h₀ L s.heap nw) (m1 : (lst0, listOf its nn) ∈ nw) (m2 : (753, tabO ps) ∈ nw) (hne : @Ne Nat lst0 753) (hJ : TabJ ps) (hAB : AllBare s.gens) (hc : c ∈ [120, 37, 126, 35]) (hz : SizesOk z) (hi : IntsAre its.toList (z.map Int.ofNat))
    (hret : ∀ s' t' ps', Fr h₀ L s'.heap m → (∀ nw', Upd 753 (tabO ps) (tabO ps') nw nw' → News h₀ L s'.heap nw') → TabJ ps' → AllBare s'.gens → s'.os = s.os → Q (.str (lineF z c) t') s')
    (lvl : Lvl A 590 0) :
    wpAny (MM w) A (call (.ref 799) [.ref lst0, .str (inkS c) t]) Q E s := by
  rw [envK_eq hf hk] at hA
  refine to_AT 590 lvl.1 lvl.2.1 lvl.2.2 hA ?_
  have e1 : ∀ p ∈ nw.filter (fun p => !decide (p.1 = 753)), p ∈ nw ∧ p.1 ≠ 753 := fun p hp => by simpa using List.mem_filter.mp hp
  refine line_core w _ _ _ _ _ _ _ _ _ _ _ _ _ _ B F X T lst0 its ps nn (nw.filter (fun p => !decide (p.1 = 753))) (news_sub N fun p hp => ?_) hne (fun p hp => (e1 p hp).2) hJ hAB z c hc hz hi t
    fun s' t' ps' F' N' hJ' G6 hos => hret s' t' ps' F' (fun nw' U => news_sub N' fun p hp => ?_) hJ' G6 hos
  · rcases List.mem_cons.mp hp with rfl | hp
    · exact m1
    rcases List.mem_cons.mp hp with rfl | hp
    · exact m2
    exact (e1 p hp).1
  · rcases upd_mem U p hp with rfl | ⟨hp, n2⟩
    · exact .tail _ (.head _)
    exact .tail _ (.tail _ (List.mem_filter.mpr ⟨hp, by simp [n2]⟩))
end
end
-- CPart
section
set_option maxHeartbeats 4000000
open PySem PySem.W PyProof.Rows PySem.Calls PyProof.Rows.LCg
noncomputable def ksOf (z : List Nat) : List Int := (z.map Int.ofNat).reverse
noncomputable def sldB (z : List Nat) : Bool := decide ((ksOf z).getD ((ksOf z).length - 1) 0 = (z.headD 0 : Nat)) && (ksOf z).all (fun k => decide ((ksOf z).getD 0 0 ≤ k) && decide (0 ≤ k ∧ k ≤ (z.headD 0 : Nat))) &&
  (List.range ((ksOf z).length - 1)).all (fun j => decide ((ksOf z).getD j 0 < (ksOf z).getD (j + 1) 0) && (ksOf z).all fun k => decide (k ≤ (ksOf z).getD j 0 ∨ (ksOf z).getD (j + 1) 0 ≤ k)) && ((missF (ksOf z) (z.headD 0)).getLast? == some ((lackF z : Nat) : Int)) && decide (lackF z ≤ z.headD 0)
theorem rowsA_sld : rowsA.all (fun z => sldB z && (stairB z || sldB (stepF z))) = true := by kernel_rfl
theorem rowsF_sld : (List.range 8).all (fun i => (rowsF (i + 1)).all sldB) = true := by kernel_rfl
theorem sldB_ok {z : List Nat} (h : sldB z = true) (hz : SizesOk z) (h1 : 1 ≤ z.length) (hh : z.headD 0 ≤ 15) : SldOk (ksOf z) (z.headD 0) ∧ (missF (ksOf z) (z.headD 0)).getLast? = some ((lackF z : Nat) : Int) ∧ lackF z ≤ z.headD 0 := by
  unfold sldB at h
  simp only [Bool.and_eq_true, List.all_eq_true, decide_eq_true_eq, beq_iff_eq] at h
  obtain ⟨⟨⟨⟨a1, a2⟩, a3⟩, a4⟩, a5⟩ := h
  have hl : (ksOf z).length = z.length := by simp [ksOf]
  exact ⟨⟨by omega, by have := hz.len; omega, a1, fun k hk => (a2 k hk).1, fun k hk => (a2 k hk).2, fun j hj => ⟨(a3 j (List.mem_range.mpr (by omega))).1, fun k hk => (a3 j (List.mem_range.mpr (by omega))).2 k hk⟩⟩, a4, a5⟩
structure GoodRow (z : List Nat) : Prop where
  sld : sldB z = true
  sizes : SizesOk z
  len : 1 ≤ z.length
  falls : fallsB z = true
  next : SizesOk (stepF z)
  slope : 1 ≤ slopeF z ∧ slopeF z ≤ z.length
  down : slopeF z < leastF z → ∀ k ∈ z.take (slopeF z), 2 ≤ k
  up : ¬ slopeF z < leastF z → ∀ k ∈ z.take (leastF z), k ≤ 14
theorem sizesB_ok {z : List Nat} (h : sizesB z = true) : SizesOk z ∧ 1 ≤ z.length := by
  unfold sizesB at h
  simp only [Bool.and_eq_true, List.all_eq_true, decide_eq_true_eq] at h
  exact ⟨⟨by omega, h.1⟩, h.2.1⟩
theorem goodB_row {z : List Nat} (h : goodB z = true) (h' : sldB z = true) : GoodRow z := by
  unfold goodB at h
  simp only [Bool.and_eq_true, List.all_eq_true, decide_eq_true_eq, Bool.or_eq_true, Bool.not_eq_true', decide_eq_false_iff_not] at h
  obtain ⟨⟨⟨⟨⟨h1, h2⟩, h3⟩, h4⟩, h5⟩, h6⟩ := h
  exact ⟨h', (sizesB_ok h1).1, (sizesB_ok h1).2, h2, (sizesB_ok h3).1, h4, fun q => (h5.resolve_left fun e => e q), fun q => (h6.resolve_left fun e => q e)⟩
theorem scK_eq {sc : Scope} (h : sc.kind = .function) : sc = scK sc := by
  obtain ⟨k, b1, b2, b3, b4⟩ := sc
  simp only at h
  subst h
  rfl
section
variable {w : World} {A A₀ : Around} {outer : List Env} {base h₀ : Heap} {L a : Addr} {m mg mb : Str → Option Value} {mean : ExcName → Option Value} {s : Shared} {Q E : Value → Shared → Prop} {name : Str} {sc : Scope} {cd : Value} {nw : List (Addr × Obj)}
theorem split_use {line : Str} {t : Tok} {l : List (List Nat)} (hA : A.frames = some (envOf name sc L a cd :: outer)) (hk : sc.kind = .function) (B : Below A₀ base outer h₀) (F : Fr h₀ L s.heap m) (X : (Mine.hd.heap_1 w.params).In h₀) (T : Top Mine.qv loose mean mg mb h₀) (XB : (Mine.hd.heap_1 w.params).In base) (TB : Top Mine.qv loose mean mg mb base) (D : KtsDicts (outer.filterMap (·.frame)) h₀)
    (N : News h₀ L s.heap nw) (hb : line.length ≤ 1048576) (hl : l.length ≤ 100000) (hline : LineAt line 0 l)
    (hret : ∀ g h' tk' (dl : Nat) zs c', KtsTurn (outer.filterMap (·.frame)) h₀ g → Fr g L h' m → News g L h' ((dl, listOf zs c') :: nw) → Below A₀ base outer g → (Mine.hd.heap_1 w.params).In g → Top Mine.qv loose mean mg mb g → KtsDicts (outer.filterMap (·.frame)) g →
      zs.toList.map (fun z => match z with | .str y _ => y.cps.toList | _ => []) = l → (∀ z ∈ zs.toList, ∃ y t, z = .str y t) → (∀ p ∈ nw, p.1 < dl) → Q (.ref dl) { s with heap := h', toks := tk' })
    (lvl : Lvl A 400 0) :
    wpAny (MM w) A (call (.ref 751) [.str line t]) Q E s := by
  rw [scK_eq hk] at hA
  refine to_AT 400 lvl.1 lvl.2.1 lvl.2.2 hA ?_
  exact split_core w _ name sc a cd outer A₀ base h₀ L m mg mb mean s Q E B F X T XB TB D line t nw N hb l hl hline hret
theorem sld_use {x y n1 n2 : Nat} {ev av : Array Value} {ks : List Int} {top : Nat} (hA : A.frames = some (envOf name sc L a cd :: outer)) (hk : sc.kind = .function) (B : Below A₀ base outer h₀) (F : Fr h₀ L s.heap m) (X : (Mine.hd.heap_1 w.params).In h₀) (T : Top Mine.qv loose mean mg mb h₀) (XB : (Mine.hd.heap_1 w.params).In base) (TB : Top Mine.qv loose mean mg mb base) (D : KtsDicts (outer.filterMap (·.frame)) h₀)
    (N : News h₀ L s.heap nw) (mx : (x, listOf ev n1) ∈ nw) (my : (y, listOf av n2) ∈ nw) (hok : SldOk ks top) (hev : IntsAre ev.toList ((List.range (top + 1)).map Int.ofNat)) (hav : IntsAre av.toList ks)
    (hret : ∀ g h' tk' (D l1 : Nat) mv n l2, KtsTurn (outer.filterMap (·.frame)) h₀ g → Fr g L h' m → News g L h' ((D, { cls := .type "tuple", data := .seq #[.ref l1, .ref l2] }) :: (l1, listOf mv n) :: nw) → Below A₀ base outer g → (Mine.hd.heap_1 w.params).In g → Top Mine.qv loose mean mg mb g → KtsDicts (outer.filterMap (·.frame)) g →
      IntsAre mv.toList (missF ks top) → AllLt l1 nw → l1 < D → Q (.ref D) { s with heap := h', toks := tk' })
    (lvl : Lvl A 400 0) :
    wpAny (MM w) A (call (.ref 773) [.ref x, .ref y]) Q E s := by
  rw [scK_eq hk] at hA
  refine to_AT 400 lvl.1 lvl.2.1 lvl.2.2 hA ?_
  refine sld_core w _ name sc a cd outer A₀ base h₀ L m mg mb mean s Q E B F X T XB TB D x y n1 n2 ev av ks top hok hev hav nw (news_sub N fun p hp => ?_) fun g h' tk' D l1 mv n l2 c1 c2 c3 c4 c5 c6 c7 c8 c9 c10 => hret g h' tk' D l1 mv n l2 c1 c2 (news_sub c3 fun p hp => ?_) c4 c5 c6 c7 c8 c9.2.2 c10
  · rcases List.mem_cons.mp hp with rfl | hp
    · exact my
    rcases List.mem_cons.mp hp with rfl | hp
    · exact mx
    exact hp
  · rcases List.mem_cons.mp hp with rfl | hp
    · exact .head _
    rcases List.mem_cons.mp hp with rfl | hp
    · exact .tail _ (.head _)
    exact .tail _ (.tail _ (.tail _ (.tail _ hp)))
end
theorem wordP_len (k c : Nat) : (wordP k c).length = k + 1 := by
  show (List.toArray _).size = _
  simp
theorem words_of_split {zs : Array Value} {ws : List (Nat × Nat)} (h1 : zs.toList.map (fun z => match z with | .str y _ => y.cps.toList | _ => []) = ws.map signsW) (h2 : ∀ z ∈ zs.toList, ∃ y t, z = Value.str y t) : WordsAre zs ws := by
  have hl : zs.size = ws.length := by have := congrArg List.length h1; simpa using this
  refine ⟨hl, fun i v hv => ?_⟩
  have hv' : zs.toList[i]? = some v := by rw [← hv]; exact Array.getElem?_toList
  obtain ⟨y, t, rfl⟩ := h2 v (List.mem_of_getElem? hv')
  have h3 := congrArg (fun l => l[i]?) h1
  simp only [List.getElem?_map, hv', Option.map_some] at h3
  cases hw : ws[i]? with
  | none => rw [hw] at h3; cases h3
  | some kc =>
    rw [hw] at h3
    simp only [Option.map_some, Option.some.injEq] at h3
    refine ⟨kc, t, rfl, ?_⟩
    obtain ⟨⟨yl⟩⟩ := y
    simp only at h3
    subst h3
    rfl
theorem good_ne {c : Nat} {z : List Nat} (h : GoodRow z) : wsOf z c ≠ [] := by
  intro e
  have h1 := congrArg List.length e
  have h2 := h.len
  simp only [wsOf, List.length_map, List.length_nil] at h1
  omega
theorem ints_snoc {ys : List Value} {z : List Nat} {k : Nat} {t : Tok} {i : Nat} (h : IntsAre ys ((z.take i).map Int.ofNat)) (hi : z[i]? = some k) : IntsAre (ys ++ [Value.int (k : Int) t]) ((z.take (i + 1)).map Int.ofNat) := by
  rw [List.take_add_one, hi]
  simp only [Option.toList_some, List.map_append, List.map_cons, List.map_nil]
  exact h.append (.cons _ _ .nil)
theorem wsOf_get {z : List Nat} {c i : Nat} {kc : Nat × Nat} (h : (wsOf z c)[i]? = some kc) : ∃ k, z[i]? = some k ∧ kc = (k - 1, c) := by
  unfold wsOf at h
  rw [List.getElem?_map] at h
  cases hz : z[i]? with
  | none => rw [hz] at h; cases h
  | some k => rw [hz] at h; exact ⟨k, rfl, by injection h with h; exact h.symm⟩
theorem KItem.item_last {prog : Program} {w : World} {A : Around} {E : Value → Shared → Prop} {s : Shared} {g : Heap} {L l : Addr} {news : List (Addr × Obj)} {items : Array Value} {n : Nat} {v : Int} {u : Tok} {value slice : Expr} {Q : Value → Shared → Prop}
    (h : ∀ t, Q (.int v t) s) (N : News g L s.heap news := by assumption) (hm : (l, listOf items n) ∈ news := by k_mem) (hx : ∃ t, items[items.size - 1]? = some (.int v t) := by assumption)
    (hs : subscripted slice false (.ref l) (.int (-1) u) = operate [.ref l, .int (-1) u] (getItem (.ref l) (.int (-1) u)) := by with_unfolding_all rfl) : wpAny (model prog w) A (subscriptTail value slice (.ref l) (.int (-1) u)) Q E s := by
  obtain ⟨t, hx⟩ := hx
  have hl : s.heap.IsList l items := ⟨_, (N _ hm).1, rfl, n, rfl⟩
  have hlt : items.size - 1 < items.size := (Array.getElem?_eq_some_iff.mp hx).1
  refine tail_any hl.typeIs slot_list_getitem.lookup (wpAny_getItem_list_neg hl (by decide) (by omega) (by decide) ?_ (h t)) hs
  rw [show (-1 + (items.size : Int)).toNat = items.size - 1 from by omega]
  exact hx
theorem ints_last {vs : Array Value} {ks : List Int} {k : Int} (h : IntsAre vs.toList ks) (hk : ks.getLast? = some k) : ∃ t, vs[vs.size - 1]? = some (.int k t) := by
  have hl : vs.size = ks.length := by have := h.length; simpa using this
  rw [List.getLast?_eq_getElem?] at hk
  rw [hl]
  exact ints_get h hk
theorem lastD_get {z : List Nat} (h : GoodRow z) : (z.map Int.ofNat).getLast? = some ((leastF z : Nat) : Int) := by
  have h1 := h.len
  unfold leastF
  cases z with
  | nil => simp at h1
  | cons a r => rw [List.getLast?_map, List.getLastD_eq_getLast?, List.getLast?_cons]; rfl
theorem pick_to {l : List Value} {x : Int} {n : Nat} (h : x = n) : kms_pick l none (some x) = l.take n := by
  have e : kms_hi (some x) l.length = min n l.length := by
    subst h
    show (if (n : Int) < 0 then l.length - (-(n : Int)).toNat else min n l.length) = min n l.length
    rw [if_neg (Int.not_lt.mpr (Int.natCast_nonneg n))]
  unfold kms_pick
  rw [e]
  show List.take (min n l.length - 0) (l.drop 0) = _
  rw [Nat.sub_zero, List.drop_zero, kmk_take_min]
theorem pick_lo {x : Int} {n k : Nat} (h : x = n) : kms_lo (some x) k = min n k := by
  subst h
  show (if (n : Int) < 0 then k - (-(n : Int)).toNat else min n k) = min n k
  rw [if_neg (Int.not_lt.mpr (Int.natCast_nonneg n))]
theorem sub_min {a b : Nat} : a - min b a = a - b := by
  rcases Nat.le_total b a with h | h
  · rw [Nat.min_eq_left h]
  · rw [Nat.min_eq_right h, Nat.sub_self, Nat.sub_eq_zero_of_le h]
theorem min_sub_le {a b k : Nat} (h : b ≤ k) : min a b + (b - a) ≤ k := by
  rcases Nat.le_total a b with g | g
  · rw [Nat.min_eq_left g, Nat.add_sub_cancel' g]; exact h
  · rw [Nat.min_eq_right g, Nat.sub_eq_zero_of_le g]; exact h
theorem min_sub_le1 {a b k : Nat} (h : b ≤ k) : min a b + (b - 1 - a) ≤ k := Nat.le_trans (Nat.add_le_add_left (Nat.sub_le_sub_right (Nat.sub_le b 1) a) _) (min_sub_le h)
theorem pick_from {l : List Value} {x : Int} {n : Nat} (h : x = n) : kms_pick l (some x) none = l.drop n := by
  unfold kms_pick
  rw [pick_lo h, kmk_drop_min]
  show List.take (l.length - min n l.length) _ = _
  rw [show l.length - min n l.length = (l.drop n).length from by rw [List.length_drop, sub_min], List.take_length]
theorem pick_mid {l : List Value} {x : Int} {n : Nat} (h : x = n) : kms_pick l (some x) (some (-1)) = l.dropLast.drop n := by
  unfold kms_pick
  rw [pick_lo h, kmk_drop_min]
  show List.take (l.length - 1 - min n l.length) _ = _
  rw [List.dropLast_eq_take, List.drop_take]
  rcases Nat.le_total n l.length with h | h
  · rw [Nat.min_eq_left h]
  · rw [List.drop_eq_nil_of_le h]; simp
theorem words_take {l : List Value} {ws : List (Nat × Nat)} (h : WordsAre l.toArray ws) (n : Nat) : WordsAre (l.take n).toArray (ws.take n) := by
  have hl : l.length = ws.length := by have := h.size; simpa using this
  refine ⟨by simp [hl], fun i v hv => ?_⟩
  simp only [List.getElem?_toArray] at hv
  by_cases hi : i < n
  · rw [List.getElem?_take_of_lt hi] at hv ⊢
    exact h.words i v (by simpa using hv)
  · rw [List.getElem?_take_eq_none (by omega)] at hv
    cases hv
theorem words_drop {l : List Value} {ws : List (Nat × Nat)} (h : WordsAre l.toArray ws) (n : Nat) : WordsAre (l.drop n).toArray (ws.drop n) := by
  have hl : l.length = ws.length := by have := h.size; simpa using this
  refine ⟨by simp [hl], fun i v hv => ?_⟩
  simp only [List.getElem?_toArray, List.getElem?_drop] at hv ⊢
  exact h.words _ v (by simpa using hv)
theorem words_app {l r : List Value} {us vs : List (Nat × Nat)} (h1 : WordsAre l.toArray us) (h2 : WordsAre r.toArray vs) : WordsAre (l ++ r).toArray (us ++ vs) := by
  have hl : l.length = us.length := by have := h1.size; simpa using this
  have hr : r.length = vs.length := by have := h2.size; simpa using this
  refine ⟨by simp [hl, hr], fun i v hv => ?_⟩
  simp only [List.getElem?_toArray] at hv
  by_cases hi : i < l.length
  · rw [List.getElem?_append_left hi] at hv
    rw [List.getElem?_append_left (by omega)]
    exact h1.words i v (by simpa using hv)
  · rw [List.getElem?_append_right (by omega)] at hv
    rw [List.getElem?_append_right (by omega), ← hl]
    exact h2.words _ v (by simpa using hv)
theorem word_ruleZ {w : World} {A : Around} {E Q : Value → Shared → Prop} {s : Shared} {h₀ : Heap} {L : Addr} {m mg mb : Str → Option Value} {mean : ExcName → Option Value} (F : Fr h₀ L s.heap m) (X : (Mine.hd.heap_1 w.params).In h₀) (T : Top Mine.qv loose mean mg mb h₀)
    {x : Int} {n c : Nat} (hx : x = n) (h1 : 1 ≤ n ∧ n ≤ 15) (hc : c ∈ [120, 37, 126, 35]) {t u : Tok} (hroom : A.depth < recursionLimit) (h : ∀ t' h' tk', Heap.StaysIn s.heap h' → Q (.str (wordP (n - 1) c) t') { s with heap := h', toks := tk' }) : wpAny (MM w) A (call (.ref 794) [.int x u, .str (inkS c) t]) Q E s := by
  subst hx
  exact word_rule F X T h1 hc hroom h
theorem words_arr {vs : Array Value} {ws : List (Nat × Nat)} (h : WordsAre vs ws) : WordsAre vs.toList.toArray ws := by rw [Array.toArray_toList]; exact h
theorem wsOf_app (a b : List Nat) (c : Nat) : wsOf (a ++ b) c = wsOf a c ++ wsOf b c := by simp [wsOf]
theorem wsOf_take (a : List Nat) (n c : Nat) : wsOf (a.take n) c = (wsOf a c).take n := by simp [wsOf, List.map_take]
theorem wsOf_drop (a : List Nat) (n c : Nat) : wsOf (a.drop n) c = (wsOf a c).drop n := by simp [wsOf, List.map_drop]
theorem add_words {prog : Program} {w : World} {A : Around} {E : Value → Shared → Prop} {s : Shared} {h₀ : Heap} {L a b : Addr} {m : Str → Option Value} {nw : List (Addr × Obj)} {va vb : Array Value} {na nb : Nat} {us vs : List (Nat × Nat)} {Q : Value → Shared → Prop}
    (F : Fr h₀ L s.heap m) (N : News h₀ L s.heap nw) (ma : (a, listOf va na) ∈ nw) (mb : (b, listOf vb nb) ∈ nw) (ha : WordsAre va us) (hb : WordsAre vb vs) (hl : us.length + vs.length ≤ 1000)
    (h : ∀ (D : Nat) h' vc, Fr h₀ L h' m → News h₀ L h' ((D, listOf vc 0) :: nw) → (∀ p ∈ nw, p.1 < D) → WordsAre vc (us ++ vs) → Q (.ref D) { s with heap := h' }) : wpAny (model prog w) A (binaryOp .Add (.ref a) (.ref b)) Q E s := by
  refine kmk_add_lit F N ⟨_, (N _ ma).1, rfl, _, rfl⟩ ⟨_, (N _ mb).1, rfl, _, rfl⟩ rfl (fun D h' F' N' l => h D h' _ F' N' l (words_app (words_arr ha) (words_arr hb))) ?_
  rw [Array.length_toList, Array.length_toList, ha.size, hb.size, sizeLine_eq]
  omega
theorem words_one {k c : Nat} {t : Tok} : WordsAre #[Value.str (wordP k c) t] [(k, c)] := ⟨rfl, fun i v hv => by
  cases i with
  | zero => injection hv with e; exact ⟨(k, c), t, rfl, e.symm⟩
  | succ i => simp at hv⟩
theorem blank_word (k c : Nat) : Str.ofString " " ++ wordP k c = wordP (k + 1) c := by
  have e : ∀ x y : Str, x.cps.toList = y.cps.toList → x = y := fun ⟨x⟩ ⟨y⟩ h => congrArg Str.mk (Array.toList_inj.mp h)
  refine e _ _ ?_
  rw [str_app]
  show [32] ++ (List.replicate k 32 ++ [c]) = List.replicate (k + 1) 32 ++ [c]
  rw [List.replicate_succ]
  rfl
theorem words_dropLast {l : List Value} {ws : List (Nat × Nat)} (h : WordsAre l.toArray ws) : WordsAre l.dropLast.toArray ws.dropLast := by
  have hl : l.length = ws.length := by have := h.size; simpa using this
  rw [List.dropLast_eq_take, List.dropLast_eq_take, hl]
  exact words_take h _
theorem wsOf_dropLast (a : List Nat) (c : Nat) : wsOf a.dropLast c = (wsOf a c).dropLast := by simp [wsOf, List.map_dropLast]
theorem lastZ_get {z : List Nat} (h : GoodRow z) : z[z.length - 1]? = some (leastF z) := by
  have h1 := h.len
  unfold leastF
  cases z with
  | nil => simp at h1
  | cons a r => rw [← List.getLast?_eq_getElem?, List.getLastD_eq_getLast?, List.getLast?_cons]; rfl
theorem headD_get {z : List Nat} (h : GoodRow z) : z[0]? = some (z.headD 0) := by
  have := h.len
  cases z with
  | nil => simp at this
  | cons a r => rfl
theorem headD_ok {z : List Nat} (h : GoodRow z) : z.headD 0 ≤ 15 ∧ 1 ≤ z.headD 0 := by
  have := h.sizes.ok _ (List.mem_of_getElem? (headD_get h))
  omega
section
theorem KCPart.callHeld {M : Model} {A : Around} {f : Addr} {as : List Value} {Q E : Value → Shared → Prop} {s : Shared} (hf : held f [758, 773, 751, 794, 51] = true) (h : Hold (wpAny M A (call (.ref f) as) Q E s)) : wpAny M A (call (.ref f) as) Q E s := call_hold hf h
open KItem KSlice KPost KBinaryopAddRefRef KEvalListcomp KExecAssignConsListcomp KCPart
theorem part_core (w : World) (gd : Option (List Code)) (ev : Env) (outer : List Env) (A₀ : Around) (base h₀ : Heap) (L : Addr) (m mg mb : Str → Option Value) (mean : ExcName → Option Value) (s : Shared)
    (Q E : Value → Shared → Prop) (B : Below A₀ base outer h₀) (F : Fr h₀ L s.heap m) (X : (Mine.hd.heap_1 w.params).In h₀) (T : Top Mine.qv loose mean mg mb h₀) (XB : (Mine.hd.heap_1 w.params).In base) (TB : Top Mine.qv loose mean mg mb base) (D : KtsDicts (outer.filterMap (·.frame)) h₀)
    (z : List Nat) (c : Nat) (hc : c ∈ [120, 37, 126, 35]) (hz : GoodRow z) (t u : Tok) (ps : Array Value) (rest : List (Addr × Obj)) (N : News h₀ L s.heap ((753, tabO ps) :: rest)) (h753 : ∀ p ∈ rest, p.1 ≠ 753) (hJ : TabJ ps) (hAB : AllBare s.gens)
    (hret : ∀ g s' t' ps', KtsTurn (outer.filterMap (·.frame)) h₀ g → Fr g L s'.heap m → News g L s'.heap ((753, tabO ps') :: rest) → Below A₀ base outer g → (Mine.hd.heap_1 w.params).In g → Top Mine.qv loose mean mg mb g → KtsDicts (outer.filterMap (·.frame)) g →
      TabJ ps' → AllBare s'.gens → s'.os = s.os → Q (.str (lineF (stepF z) c) t') s') :
    wpAny (MM w) (AT 390 gd (some (envK ev L :: outer))) (call (.ref 804) [.str (lineF z c) t, .str (inkS c) u]) Q E s := by
  refine wpAny_call ?_
  have X9 := X
  have T9 := T
  refine' code_S (env := envK ev L) ?k1 ?k2 ?k3 ?k4 ?k5 ?kX ?kT ?kD ?kA ?kF ?kK ?k6 ?k7 ?k8 ?k9 ?kB ?_ ?c2 ?c3 ?c4 ?c5
  case kA => exact rfl
  case kF => exact rfl
  case kK => exact rfl
  case k1 => exact B
  case k2 => exact F
  case k3 => exact X
  case k4 => exact N
  case k5 => exact T
  case kX => exact XB
  case kT => exact TB
  case kD => exact D
  case k6 => k_is
  case k7 => k_is
  case k8 => k_room
  case k9 => exact BindsTo.of_eq rfl
  case kB => exact locs rfl
  case c2 => exact rfl
  case c3 => exact rfl
  case c4 => exact rfl
  case c5 => decide
  intro g' L' h' FG' F' N' B' X' T' D'
  (try dsimp only)
  (try k_fold)
  refine gen_pass (by first | passes_own | with_unfolding_all passes_own) ?_
  intro QQ EE hQQ hEE hpo
  k_steps
  unfold Hold
  have hsz := hz.sizes
  have hws := wsOk_of hsz hc
  refine split_use (lvl := lvO rfl rfl rfl) (l := (wsOf z c).map signsW) rfl rfl (by assumption) (by assumption) (by assumption) (by assumption) XB TB (by assumption) (by assumption) (line_len hws) (by simp [wsOf]; have := hsz.len; omega) (lineAt_join _ (good_ne hz) hws.ok [] _ rfl) fun g1 h1 tk1 dl zs c1 T1 F1 N1 B1 X1 P1 D1 z1 z2 z3 => ?_
  have hwa := words_of_split z1 z2
  have o1 : @LT.lt Nat _ 753 dl := z3 _ (.head _)
  have o2 : AllLt dl rest := allLt_of fun p hp => z3 p (.tail _ hp)
  clear z1 z2 z3
  dsimp only
  k_steps
  unfold Hold
  rename Fr _ _ _ _ => F2
  rename News _ _ _ _ => N2
  refine' comp_JAF F2 ?l1 ?l2 ?h1 ?h2 ?h3 ?h4 ?h5 ?h6 ?h7 ?_ ?h9
  case l1 => rfl
  case l2 => with_unfolding_all rfl
  case h1 => with_unfolding_all rfl
  case h2 => decide
  case h3 => rfl
  case h4 => decide
  case h5 => rfl
  case h6 => rfl
  case h7 => rfl
  case h9 => intro _; rfl
  walk1
  refine csrc_list (its := zs) (k := c1) (fun i ys => IntsAre ys ((z.take i).map Int.ofNat)) rfl F2 N2 (by k_mem) ?_ ?_ ?_ ?_
  · rw [hwa.size, sizeLine_eq]; simp [wsOf]; have := hsz.len; omega
  · exact .nil
  · intro i v I oI C oC D m₂ g nw ys s2 E' hi' hv hC hx F3 N3 off ne hV
    obtain ⟨rfl, rfl, hg, ho, hR⟩ := hV
    obtain ⟨kc, t5, hkc, rfl⟩ := hwa.words i v hv
    obtain ⟨k, hk, rfl⟩ := wsOf_get hkc
    refine wpAny_tests_nil ?_
    rw [if_pos rfl]
    clear F2 N2
    have hk1 := hsz.ok k (List.mem_of_getElem? hk)
    have hlw : (wordP (k - 1) c).length ≤ 100 := by rw [wordP_len]; omega
    k_steps
    refine ⟨_, _, F3, N3, off, rfl, rfl, hg, ho, ?_⟩
    rw [wordP_len, show k - 1 + 1 = k from by omega]
    exact ints_snoc hR hk
  · intro D ys g nw s' F3 N3 off hV
    obtain ⟨rfl, rfl, hg, ho, hR⟩ := hV
    simp only [Off1, and_true] at off
    clear F2 N2
    have hyl : ys.length = z.length := by have := hR.length; rw [hwa.size] at this; simp [wsOf] at this; omega
    have hRz : IntsAre ys (z.map Int.ofNat) := by rw [List.take_of_length_le (by rw [hwa.size]; simp [wsOf])] at hR; exact hR
    have hh : z.headD 0 ≤ 15 ∧ 1 ≤ z.headD 0 := headD_ok hz
    have e0 : ∃ t, ys.toArray[Int.toNat 0]? = some (.int ((z.headD 0 : Nat) : Int) t) := ints_getZ (i := 0) (by simpa using hRz) rfl (by rw [List.getElem?_map, headD_get hz]; rfl)
    have hz9 : ys.toArray.size ≤ sizeLine := by rw [List.size_toArray, hyl, sizeLine_eq]; have := hsz.len; omega
    obtain ⟨hok, hlast, hlk⟩ := sldB_ok hz.sld hsz hz.len hh.1
    k_steps
    unfold Hold
    rename IntsAre _ _ => hrev
    rename IntsAre _ (rangeKs _ _) => hrng
    rename Fr _ _ _ _ => F2
    rename News _ _ _ _ => N2
    refine sld_use (lvl := lvO rfl rfl rfl) rfl rfl (by assumption) F2 (by assumption) (by assumption) XB TB (by assumption) N2 (by k_mem) (by k_mem) hok ?_ ?_ fun g2 h2 tk2 D2 l1 mv n2 l2 T2 F4 N4 B2 X2 P2 DD2 hmv o3 o4 => ?_
    · have e : ((((z.headD 0 : Nat) : Int) + 1 - 0).toNat) = z.headD 0 + 1 := by omega
      rw [e] at hrng
      have e2 : rangeKs 0 (z.headD 0 + 1) = (List.range (z.headD 0 + 1)).map Int.ofNat := by
        unfold rangeKs
        exact List.map_congr_left fun i _ => by show (0 : Int) + (i : Int) = Int.ofNat i; rw [Int.zero_add]; rfl
      rw [e2] at hrng
      simpa using hrng
    · simpa [ksOf] using hrev
    simp only [AllLt] at o3
    have T12 := T1.trans T2
    clear T1 T2
    have hmvl := ints_last hmv hlast
    have hyll := ints_last (vs := ys.toArray) hRz (lastD_get hz)
    clear hrng
    have hsl : ((z.headD 0 : Nat) : Int) - ((lackF z : Nat) : Int) = ((slopeF z : Nat) : Int) := by unfold slopeF; omega
    have hzz : zs.size ≤ sizeLine := by rw [hwa.size, sizeLine_eq]; simp [wsOf]; have := hsz.len; omega
    have hzl : zs.size = z.length := by rw [hwa.size]; simp [wsOf]
    have hls1 := hsz.ok _ (List.mem_of_getElem? (show z[z.length - 1]? = some (leastF z) from lastZ_get hz))
    dsimp only
    rcases Nat.lt_or_ge (slopeF z) (leastF z) with hb | hb
    · have hdec : (b2i (decide (((z.headD 0 : Nat) : Int) - ((lackF z : Nat) : Int) < ((leastF z : Nat) : Int))) - b2i (decide (((leastF z : Nat) : Int) < ((z.headD 0 : Nat) : Int) - ((lackF z : Nat) : Int))) == 1) = true := by
        rw [hsl, decide_eq_true (by omega), decide_eq_false (by omega)]; rfl
      k_steps
      unfold Hold
      rename Fr _ _ _ _ => F5
      refine' comp_JF F5 ?h1 ?h2 ?h3 ?h4 ?h5 ?_ ?h7
      case h1 => with_unfolding_all rfl
      case h2 => decide
      case h3 => rfl
      case h4 => decide
      case h5 => rfl
      case h7 => intro _; rfl
      k_steps
      rename Fr _ _ _ _ => F6
      rename News _ _ _ _ => N6
      have hwt := words_take (words_arr hwa) (slopeF z)
      rw [← pick_to (x := ((z.headD 0 : Nat) : Int) - ((lackF z : Nat) : Int)) hsl] at hwt
      refine csrc_list (fun i ys => WordsAre ys.toArray ((wsOf ((z.take (slopeF z)).map (· - 1)) c).take i)) rfl F6 N6 (.head _) ?_ ?_ ?_ ?_
      · rw [hwt.size, sizeLine_eq]; simp [wsOf]; exact Nat.le_trans (Nat.min_le_right ..) (Nat.le_trans hsz.len (by decide))
      · exact ⟨by simp, fun i v hv => by simp at hv⟩
      · intro i v I oI C oC D2 m₂ g nw ys2 s2 E' hi' hv hC hx F7 N7 off ne hV
        obtain ⟨rfl, rfl, hg7, ho7, hR7⟩ := hV
        obtain ⟨kc, t5, hkc, rfl⟩ := hwt.words i v hv
        rw [← wsOf_take] at hkc
        obtain ⟨k, hk, rfl⟩ := wsOf_get hkc
        have hk2 := hz.down hb k (List.mem_of_getElem? hk)
        have hk1 := hsz.ok k (List.mem_of_mem_take (List.mem_of_getElem? hk))
        obtain ⟨k2, rfl⟩ : ∃ k2, k = k2 + 2 := ⟨k - 2, by omega⟩
        have e5 : k2 + 2 - 1 = k2 + 1 := rfl
        dsimp only at hv hx
        rw [e5] at hv hx
        refine wpAny_tests_nil ?_
        rw [if_pos rfl]
        clear F6 N6
        k_steps
        unfold Hold
        refine' strip_rule (k := k2) (c := c) ?sF ?sX ?sT ?sK ?sR ?_
        case sF => exact F7
        case sX => assumption
        case sT => assumption
        case sK => exact ⟨by omega, hc⟩
        case sR => k_room
        intro t' h' tk' hkp
        refine ⟨_, _, F7.keeps hkp, N7.grown hkp, off, rfl, rfl, hg7, ho7, words_snoc hR7 ?_⟩
        simp only [wsOf, List.getElem?_map, hk]
        rfl
      · intro D3 ys2 g nw s3 F7 N7 off hV
        obtain ⟨rfl, rfl, hg7, ho7, hR7⟩ := hV
        simp only [Off1, and_true] at off
        clear F6 N6
        have hRf : WordsAre ys2.toArray (wsOf ((z.take (slopeF z)).map (· - 1)) c) := by
          rw [List.take_of_length_le (by rw [hwt.size]; simp [wsOf])] at hR7; exact hR7
        k_steps
        unfold Hold
        rename Fr _ _ _ _ => F8
        rename News _ _ _ _ => N8
        have hwd := words_drop (words_arr hwa) (slopeF z)
        rw [← pick_from (x := ((z.headD 0 : Nat) : Int) - ((lackF z : Nat) : Int)) hsl] at hwd
        refine add_words (va := ys2.toArray) (na := ys2.length) F8 N8 (by k_mem) (.head _) hRf hwd (by simp [wsOf]; exact min_sub_le (Nat.le_trans hsz.len (by decide))) fun D4 h4 vc F9 N9 l4 hc4 => ?_
        k_lt l4
        clear F8 N8
        (try dsimp only)
        k_steps
        unfold Hold
        refine word_ruleZ F9 (by assumption) (by assumption) hsl ⟨hz.slope.1, by have := hsz.len; have := hz.slope.2; omega⟩ hc (by k_room) fun t' h' tk' hkp => ?_
        have Fa := F9.keeps hkp
        have Na := N9.grown hkp
        clear F9 N9
        (try dsimp only)
        k_steps
        unfold Hold
        rename Fr _ _ _ _ => Fb
        rename News _ _ _ _ => Nb
        refine add_words Fb Nb (by k_mem) (.head _) hc4 words_one (by simp [wsOf]; exact min_sub_le (Nat.le_trans hsz.len (by decide))) fun D5 h5 vd Fc Nc l5 hc5 => ?_
        k_lt l5
        clear Fb Nb
        (try dsimp only)
        k_steps
        unfold Hold
        rename Fr _ _ _ _ => Fa
        rename News _ _ _ _ => Na
        refine join_use (lvl := lvO rfl rfl rfl) (ws := wsOf (stepF z) c) rfl rfl rfl (by assumption) Fa (by assumption) (by assumption) Na (by k_mem) (by k_mem) (by show _ ≠ _; omega) hJ (by rw [show _ = s.gens from hg7.trans hg]; exact hAB) (wsOk_of hz.next hc) ?_ fun s4 t4 ps4 Fb Nb' hJ4 hm4 hAB4 hos4 => ?_
        · have e : stepF z = (z.take (slopeF z)).map (· - 1) ++ z.drop (slopeF z) ++ [slopeF z] := by unfold stepF; rw [if_pos hb]
          rw [e, wsOf_app, wsOf_app, wsOf_drop]; exact hc5
        have Nb := Nb' _ (by k_upd)
        clear Nb' Na Fa
        (try dsimp only)
        k_steps
        rename News _ _ _ _ => Nz
        exact hret _ _ _ _ (by assumption) (by assumption) (news_sub Nz fun p hp => by repeat (first | exact hp | refine List.Mem.tail _ ?_)) (by assumption) (by assumption) (by assumption) (by assumption) hJ4 hAB4 (hos4.trans (ho7.trans ho))
    · have hdec : (b2i (decide (((z.headD 0 : Nat) : Int) - ((lackF z : Nat) : Int) < ((leastF z : Nat) : Int))) - b2i (decide (((leastF z : Nat) : Int) < ((z.headD 0 : Nat) : Int) - ((lackF z : Nat) : Int))) == 1) = false := by
        rw [hsl, decide_eq_false (by omega)]
        by_cases hq : ((leastF z : Nat) : Int) < ((slopeF z : Nat) : Int)
        · rw [decide_eq_true hq]; rfl
        · rw [decide_eq_false hq]; rfl
      k_steps
      unfold Hold
      rename Fr _ _ _ _ => F5
      refine' comp_JF F5 ?h1 ?h2 ?h3 ?h4 ?h5 ?_ ?h7
      case h1 => with_unfolding_all rfl
      case h2 => decide
      case h3 => rfl
      case h4 => decide
      case h5 => rfl
      case h7 => intro _; rfl
      k_steps
      rename Fr _ _ _ _ => F6
      rename News _ _ _ _ => N6
      have hwt := words_take (words_arr hwa) (leastF z)
      rw [← pick_to (x := ((leastF z : Nat) : Int)) rfl] at hwt
      refine csrc_list (fun i ys => WordsAre ys.toArray ((wsOf ((z.take (leastF z)).map (· + 1)) c).take i)) rfl F6 N6 (.head _) ?_ ?_ ?_ ?_
      · rw [hwt.size, sizeLine_eq]; simp [wsOf]; exact Nat.le_trans (Nat.min_le_right ..) (Nat.le_trans hsz.len (by decide))
      · exact ⟨by simp, fun i v hv => by simp at hv⟩
      · intro i v I oI C oC D2 m₂ g nw ys2 s2 E' hi' hv hC hx F7 N7 off ne hV
        obtain ⟨rfl, rfl, hg7, ho7, hR7⟩ := hV
        obtain ⟨kc, t5, hkc, rfl⟩ := hwt.words i v hv
        rw [← wsOf_take] at hkc
        obtain ⟨k, hk, rfl⟩ := wsOf_get hkc
        have hk1 := hsz.ok k (List.mem_of_mem_take (List.mem_of_getElem? hk))
        have hlw : (wordP (k - 1) c).length ≤ 100 := by rw [wordP_len]; omega
        refine wpAny_tests_nil ?_
        rw [if_pos rfl]
        clear F6 N6
        k_steps
        rw [blank_word, show k - 1 + 1 = k from by omega]
        refine ⟨_, _, F7, N7, off, rfl, rfl, hg7, ho7, words_snoc hR7 ?_⟩
        simp only [wsOf, List.getElem?_map, hk]
        rfl
      · intro D3 ys2 g nw s3 F7 N7 off hV
        obtain ⟨rfl, rfl, hg7, ho7, hR7⟩ := hV
        simp only [Off1, and_true] at off
        clear F6 N6
        have hRf : WordsAre ys2.toArray (wsOf ((z.take (leastF z)).map (· + 1)) c) := by
          rw [List.take_of_length_le (by rw [hwt.size]; simp [wsOf])] at hR7; exact hR7
        k_steps
        unfold Hold
        rename Fr _ _ _ _ => F8
        rename News _ _ _ _ => N8
        have hwd := words_drop (words_dropLast (words_arr hwa)) (leastF z)
        rw [← pick_mid (x := ((leastF z : Nat) : Int)) rfl] at hwd
        refine add_words (va := ys2.toArray) (na := ys2.length) F8 N8 (by k_mem) (.head _) hRf hwd (by simp [wsOf]; exact min_sub_le1 (Nat.le_trans hsz.len (by decide))) fun D4 h4 vc F9 N9 l4 hc4 => ?_
        k_lt l4
        clear F8 N8
        (try dsimp only)
        k_steps
        unfold Hold
        rename Fr _ _ _ _ => Fa
        rename News _ _ _ _ => Na
        refine join_use (lvl := lvO rfl rfl rfl) (ws := wsOf (stepF z) c) rfl rfl rfl (by assumption) Fa (by assumption) (by assumption) Na (by k_mem) (by k_mem) (by show _ ≠ _; omega) hJ (by rw [show _ = s.gens from hg7.trans hg]; exact hAB) (wsOk_of hz.next hc) ?_ fun s4 t4 ps4 Fb Nb' hJ4 hm4 hAB4 hos4 => ?_
        · have e : stepF z = (z.take (leastF z)).map (· + 1) ++ z.dropLast.drop (leastF z) := by unfold stepF; rw [if_neg (by omega)]
          rw [e, wsOf_app, wsOf_drop, wsOf_dropLast]; exact hc4
        have Nb := Nb' _ (by k_upd)
        clear Nb' Na Fa
        (try dsimp only)
        k_steps
        rename News _ _ _ _ => Nz
        exact hret _ _ _ _ (by assumption) (by assumption) (news_sub Nz fun p hp => by repeat (first | exact hp | refine List.Mem.tail _ ?_)) (by assumption) (by assumption) (by assumption) (by assumption) hJ4 hAB4 (hos4.trans (ho7.trans ho))
end
end
-- CDue
section
set_option maxHeartbeats 4000000
open PySem PySem.W PyProof.Rows PySem.Calls PyProof.Rows.LCg
theorem range_sz {n : Nat} : Builtin.Range.rangeSize 0 (n : Int) 1 = ((n : Nat) : Int) := by
  unfold Builtin.Range.rangeSize
  simp
  omega
theorem fitsL {i : Int} (h0 : 0 ≤ i) (h1 : i ≤ 1000) : Builtin.Range.rangeFitsLong i = true := by
  unfold Builtin.Range.rangeFitsLong
  rw [Bool.and_eq_true, decide_eq_true_eq, decide_eq_true_eq]
  exact ⟨Int.le_trans (by decide) h0, Int.lt_of_le_of_lt h1 (by decide)⟩
theorem small_up {n : Nat} (h : n ≤ 1000) : Builtin.Range.small 0 (n : Int) 1 = true := by
  unfold Builtin.Range.small
  rw [range_sz, fitsL (i := 0) (by decide) (by decide), fitsL (i := (n : Int)) (by omega) (by omega), fitsL (i := 1) (by decide) (by decide), if_pos (by decide), show (n : Int) + (1 - 1) = n from by omega, fitsL (i := (n : Int)) (by omega) (by omega)]
  simp
theorem len_nw {prog : Program} {w : World} {A : Around} {E : Value → Shared → Prop} {s : Shared} {g : Heap} {L D : Addr} {news : List (Addr × Obj)} {ys : List Value} {k : Nat} {Q : Value → Shared → Prop}
    (N : News g L s.heap news) (hm : (D, lst ys) ∈ news) (hk : ys.length = k) (hf : k ≤ 1000) (h : ∀ t tk, Q (.int (k : Int) t) { s with toks := tk }) : wpAny (model prog w) A (call (.builtin "len") [.ref D]) Q E s := by
  have hl : s.heap.IsList D ys.toArray := ⟨_, (N _ hm).1, rfl, _, rfl⟩
  have hsz : ys.toArray.size = k := by rw [List.size_toArray]; exact hk
  refine call_len_list hl (by rw [hsz]; omega) ?_
  rw [hsz]
  exact h _ _
theorem lastD_get1 {z : List Nat} (h1 : 1 ≤ z.length) : (z.map Int.ofNat).getLast? = some ((leastF z : Nat) : Int) := by
  unfold leastF
  cases z with
  | nil => simp at h1
  | cons a r => rw [List.getLast?_map, List.getLastD_eq_getLast?, List.getLast?_cons]; rfl
theorem lastZ_get1 {z : List Nat} (h1 : 1 ≤ z.length) : z[z.length - 1]? = some (leastF z) := by
  unfold leastF
  cases z with
  | nil => simp at h1
  | cons a r => rw [← List.getLast?_eq_getElem?, List.getLastD_eq_getLast?, List.getLast?_cons]; rfl
theorem allNe_up {d d' : Nat} {l : List (Addr × Obj)} (h : AllLt d l) (hd : d ≤ d') : ∀ p ∈ l, p.1 ≠ d' := fun p hp e => by
  have h1 : @LT.lt Nat _ p.1 d := by
    induction l with
    | nil => cases hp
    | cons q r ih =>
      rcases List.mem_cons.mp hp with rfl | hp
      · exact h.1
      · exact ih h.2 hp
  have h2 : @Eq Nat p.1 d' := e
  rw [h2] at h1
  exact Nat.lt_irrefl _ (Nat.lt_of_lt_of_le h1 hd)
theorem allNe_upA {p : Prop} {d d' : Nat} {l : List (Addr × Obj)} (h : p ∧ AllLt d l) (hd : d ≤ d') : ∀ q ∈ l, q.1 ≠ d' := allNe_up h.2 hd
theorem ints_snocZ {ys : List Value} {ks : List Int} {x k : Int} {t : Tok} (h : IntsAre ys ks) (hx : x = k) : IntsAre (ys ++ [Value.int x t]) (ks ++ [k]) := by
  subst hx
  exact h.append (.cons _ _ .nil)
theorem map_range_succ {α : Type} (f : Nat → α) (i : Nat) : (List.range (i + 1)).map f = (List.range i).map f ++ [f i] := by
  rw [List.range_succ, List.map_append]
  rfl
theorem getD_mem {z : List Nat} {i : Nat} (h : i < z.length) : z.getD i 0 ∈ z := by
  rw [List.getD_eq_getElem?_getD, List.getElem?_eq_getElem h]
  exact List.getElem_mem h
theorem getD_NN {z : List Nat} {i : Nat} (h : i < z.length) : z[i]? = some (z.getD i 0) := by
  rw [List.getD_eq_getElem?_getD, List.getElem?_eq_getElem h]
  rfl
theorem off1_mem {D : Addr} : ∀ {l : List (Addr × Obj)}, Off1 D l → ∀ p ∈ l, p.1 ≠ D
  | [], _, _, hp => nomatch hp
  | _ :: _, h, _, .head _ => h.1
  | _ :: _, h, _, .tail _ hp => off1_mem h.2 _ hp
theorem getD_getN {z : List Nat} {i : Nat} (h : i < z.length) : (z.map Int.ofNat)[i]? = some ((z.getD i 0 : Nat) : Int) := by
  rw [List.getElem?_map, List.getElem?_eq_getElem h, List.getD_eq_getElem?_getD, List.getElem?_eq_getElem h]
  rfl
section
open KItem KBinaryopAddRefRef KEvalListcomp
local macro_rules | `(tactic| walk_at "call builtin:len") => `(tactic| (k_here; (with_reducible show wpAny _ _ (call (Value.builtin "len") [Value.ref _]) _ _ _); k_dflt (refine' len_nw ?N ?m ?k ?f ?_; (case N => k_asm); (case m => k_mem); (case k => assumption); (case f => omega)); intro t' tk'))
open KPost in
theorem due_core (w : World) (gd : Option (List Code)) (ev : Env) (outer : List Env) (A₀ : Around) (base h₀ : Heap) (L : Addr) (m mg mb : Str → Option Value) (mean : ExcName → Option Value) (s : Shared)
    (Q E : Value → Shared → Prop) (B : Below A₀ base outer h₀) (F : Fr h₀ L s.heap m) (X : (Mine.hd.heap_1 w.params).In h₀) (T : Top Mine.qv loose mean mg mb h₀)
    (lst0 : Nat) (its : Array Value) (nn : Nat) (rest : List (Addr × Obj)) (N : News h₀ L s.heap ((lst0, listOf its nn) :: rest))
    (z : List Nat) (hz : SizesOk z) (h1 : 1 ≤ z.length) (hi : IntsAre its.toList (z.map Int.ofNat))
    (hret : ∀ s' (D : Nat) vs n, Fr h₀ L s'.heap m → News h₀ L s'.heap ((D, listOf vs n) :: (lst0, listOf its nn) :: rest) → (∀ p ∈ (lst0, listOf its nn) :: rest, p.1 ≠ D) → IntsAre vs.toList ((dueF z).map Int.ofNat) → s'.gens = s.gens → s'.os = s.os → Q (.ref D) s') :
    wpAny (MM w) (AT 590 gd (some (envK ev L :: outer))) (call (.ref 809) [.ref lst0]) Q E s := by
  have hle : its.size = z.length := by have := hi.length; simpa using this
  have hl20 := hz.len
  have hszl : z.length ≤ sizeLine := by rw [sizeLine_eq]; omega
  walk1
  (try dsimp only)
  refine gen_pass (by first | passes_own | with_unfolding_all passes_own) ?_
  intro QQ EE hQQ hEE hpo
  k_steps
  unfold Hold
  rename Fr _ _ _ _ => F5
  refine' comp_JF F5 ?h1 ?h2 ?h3 ?h4 ?h5 ?_ ?h7
  case h1 => with_unfolding_all rfl
  case h2 => decide
  case h3 => rfl
  case h4 => decide
  case h5 => rfl
  case h7 => intro _; rfl
  k_steps
  rename Fr _ _ _ _ => F6
  rename News _ _ _ _ => N6
  rename IsRange _ _ _ _ _ _ _ _ => hr6
  refine csrc_range (n := z.length) (fun i ys => ys.length = ((List.range i).filter fun k => z.getD k 0 + k == z.getD 0 0).length) rfl F6 N6 hr6 (small_up (by omega)) range_sz hszl (by rfl) ?_ ?_
  · intro i v I oI C oC D m₂ g nw ys s2 E' hi' hv hC hx F7 N7 off ne hV
    obtain ⟨rfl, rfl, hg7, ho7, hR7⟩ := hV
    obtain ⟨tv, rfl⟩ := hv
    have hi1 : ∃ t, its[Int.toNat (0 + (i : Int))]? = some (.int ((z.getD i 0 : Nat) : Int) t) := ints_getZ (i := i) hi (by omega) (getD_getN hi')
    have hi0 : ∃ t, its[Int.toNat 0]? = some (.int ((z.getD 0 0 : Nat) : Int) t) := ints_getZ (i := 0) hi rfl (getD_getN h1)
    clear F6 N6
    refine wpAny_tests_one ?_
    cases hb : (((z.getD i 0 : Nat) : Int) == ((z.getD 0 0 : Nat) : Int) - (0 + (i : Int))) with
    | true =>
      k_steps
      refine ⟨_, _, F7, N7, off, rfl, rfl, hg7, ho7, ?_⟩
      dsimp only
      rw [List.range_succ, List.filter_append, List.length_append, List.length_append, hR7]
      have : (z.getD i 0 + i == z.getD 0 0) = true := by rw [beq_iff_eq] at hb ⊢; omega
      rw [List.filter_cons, if_pos this]
      rfl
    | false =>
      k_steps
      refine ⟨_, _, F7, N7, off, rfl, rfl, hg7, ho7, ?_⟩
      dsimp only
      rw [List.range_succ, List.filter_append, List.length_append, hR7]
      have : (z.getD i 0 + i == z.getD 0 0) = false := by rw [beq_eq_false_iff_ne] at hb ⊢; omega
      rw [List.filter_cons, if_neg (by rw [this]; decide)]
      rfl
  · intro D ys g nw s3 F7 N7 off hV
    obtain ⟨rfl, rfl, hg7, ho7, hR7⟩ := hV
    simp only [Off1] at off
    clear F6 N6
    have hlen : ys.length = dslopeF z := hR7
    have hdl : dslopeF z ≤ z.length := by unfold dslopeF; refine Nat.le_trans (List.length_filter_le _ _) ?_; simp
    have hlast := ints_last hi (lastD_get1 h1)
    have hls1 := hz.ok _ (List.mem_of_getElem? (lastZ_get1 h1))
    rcases Nat.lt_or_ge (dslopeF z) (leastF z) with hb | hb
    · have hdec : decide (((dslopeF z : Nat) : Int) < ((leastF z : Nat) : Int)) = true := decide_eq_true (by omega)
      k_steps
      unfold Hold
      rename Fr _ _ _ _ => G5
      refine' comp_JF G5 ?h1 ?h2 ?h3 ?h4 ?h5 ?_ ?h7
      case h1 => with_unfolding_all rfl
      case h2 => decide
      case h3 => rfl
      case h4 => decide
      case h5 => rfl
      case h7 => intro _; rfl
      k_steps
      rename Fr _ _ _ _ => G6
      rename News _ _ _ _ => M6
      rename IsRange _ _ _ _ _ _ _ _ => hr6
      refine csrc_range (n := z.length) (fun i ys => IntsAre ys (((List.range i).map fun k => if k < dslopeF z then z.getD k 0 - 1 else z.getD k 0).map Int.ofNat)) rfl G6 M6 hr6 (small_up (by omega)) range_sz hszl .nil ?_ ?_
      · intro i v I oI C oC D2 m₂ g nw ys2 s2 E' hi' hv hC hx F8 N8 off2 ne hV
        obtain ⟨rfl, rfl, hg8, ho8, hR8⟩ := hV
        obtain ⟨tv, rfl⟩ := hv
        have hi1 : ∃ t, its[Int.toNat (0 + (i : Int))]? = some (.int ((z.getD i 0 : Nat) : Int) t) := ints_getZ (i := i) hi (by omega) (getD_getN (by omega))
        have hp1 := (hz.ok _ (getD_mem (show i < z.length from by omega))).1
        clear G6 M6
        refine wpAny_tests_nil ?_
        rw [if_pos rfl]
        by_cases hk : i < dslopeF z
        · have hd : decide (0 + (i : Int) < ((dslopeF z : Nat) : Int)) = true := decide_eq_true (by omega)
          k_steps
          refine ⟨_, _, F8, N8, off2, rfl, rfl, hg8, ho8, ?_⟩
          dsimp only
          rw [map_range_succ, if_pos hk, List.map_append]
          exact ints_snocZ hR8 (by show _ = (((z.getD i 0 - 1 : Nat)) : Int); omega)
        · have hd : decide (0 + (i : Int) < ((dslopeF z : Nat) : Int)) = false := decide_eq_false (by omega)
          k_steps
          refine ⟨_, _, F8, N8, off2, rfl, rfl, hg8, ho8, ?_⟩
          dsimp only
          rw [map_range_succ, if_neg hk, List.map_append]
          exact ints_snocZ hR8 rfl
      · intro D2 ys2 g nw s4 F8 N8 off2 hV
        obtain ⟨rfl, rfl, hg8, ho8, hR8⟩ := hV
        simp only [Off1] at off2
        clear G6 M6
        k_steps
        unfold Hold
        rename Fr _ _ _ _ => Fa
        rename News _ _ _ _ => Na
        refine kmk_add_ints (vs := ys2) Fa Na ⟨_, (Na (D2, lst ys2) (by k_mem)).1, rfl, _, rfl⟩ ⟨_, (Na _ (.head _)).1, rfl, _, rfl⟩ hR8 (.cons _ _ .nil) (fun D4 us h4 Fb Nb l4 hus => ?_) (by rw [sizeLine_eq]; simp; omega)
        clear Fa Na
        have l5 := l4
        k_lt l4
        (try dsimp only)
        k_steps
        rename News _ _ _ _ => Nz
        refine hret _ D4 us.toArray 0 (by assumption) (news_sub Nz fun p hp => ?_) ?_ ?_ (hg8.trans hg7) (ho8.trans ho7)
        · rcases List.mem_cons.mp hp with rfl | hp
          · exact .head _
          · repeat (first | exact hp | refine List.Mem.tail _ ?_)
        · exact fun p hp => Nat.ne_of_lt (l5 p (by repeat (first | exact hp | refine List.Mem.tail _ ?_)))
        · unfold dueF
          rw [if_pos hb, List.map_append]
          simpa using hus
    · have hdec : decide (((dslopeF z : Nat) : Int) < ((leastF z : Nat) : Int)) = false := decide_eq_false (by omega)
      by_cases hm : leastF z = z.length
      · have hdec2 : (((leastF z : Nat) : Int) == ((z.length : Nat) : Int)) = true := by rw [beq_iff_eq]; omega
        k_steps
        unfold Hold
        rename Fr _ _ _ _ => G5
        refine' comp_JF G5 ?h1 ?h2 ?h3 ?h4 ?h5 ?_ ?h7
        case h1 => with_unfolding_all rfl
        case h2 => decide
        case h3 => rfl
        case h4 => decide
        case h5 => rfl
        case h7 => intro _; rfl
        k_steps
        rename Fr _ _ _ _ => G6
        rename News _ _ _ _ => M6
        refine csrc_list (its := its) (k := nn) (fun i ys => IntsAre ys (((z.take i).map (· + 1)).map Int.ofNat)) rfl G6 M6 (by k_mem) (by rw [hle]; exact hszl) .nil ?_ ?_
        · intro i v I oI C oC D2 m₂ g nw ys2 s2 E' hi' hv hC hx F8 N8 off2 ne hV
          obtain ⟨rfl, rfl, hg8, ho8, hR8⟩ := hV
          obtain ⟨k, tk3, hk, rfl⟩ := ints_at hi hv
          have hk1 := hz.ok k (List.mem_of_getElem? hk)
          clear G6 M6
          refine wpAny_tests_nil ?_
          rw [if_pos rfl]
          k_steps
          refine ⟨_, _, F8, N8, off2, rfl, rfl, hg8, ho8, ?_⟩
          dsimp only
          rw [List.take_add_one, hk]
          simp only [Option.toList_some, List.map_append, List.map_cons, List.map_nil]
          exact ints_snocZ hR8 rfl
        · intro D2 ys2 g nw s4 F8 N8 off2 hV
          obtain ⟨rfl, rfl, hg8, ho8, hR8⟩ := hV
          have off3 := off1_mem off2
          simp only [Off1] at off2
          clear G6 M6
          k_steps
          rename News _ _ _ _ => Nz
          refine hret _ D2 ys2.toArray ys2.length (by assumption) (news_sub Nz fun p hp => ?_) ?_ ?_ (hg8.trans hg7) (ho8.trans ho7)
          · rcases List.mem_cons.mp hp with rfl | hp
            · exact .head _
            · repeat (first | exact hp | refine List.Mem.tail _ ?_)
          · exact fun p hp => off3 p (by repeat (first | exact hp | refine List.Mem.tail _ ?_))
          · unfold dueF
            rw [if_neg (by omega), if_pos hm]
            rw [List.take_of_length_le (by omega)] at hR8
            simpa using hR8
      · have hdec2 : (((leastF z : Nat) : Int) == ((z.length : Nat) : Int)) = false := by rw [beq_eq_false_iff_ne]; omega
        k_steps
        unfold Hold
        rename Fr _ _ _ _ => G5
        refine' comp_JF G5 ?h1 ?h2 ?h3 ?h4 ?h5 ?_ ?h7
        case h1 => with_unfolding_all rfl
        case h2 => decide
        case h3 => rfl
        case h4 => decide
        case h5 => rfl
        case h7 => intro _; rfl
        k_steps
        rename Fr _ _ _ _ => G6
        rename News _ _ _ _ => M6
        rename IsRange _ _ _ _ _ _ _ _ => hr6
        have e9 : ((z.length : Nat) : Int) - 1 = ((z.length - 1 : Nat) : Int) := by omega
        refine csrc_range (n := z.length - 1) (fun i ys => IntsAre ys (((List.range i).map fun k => if k < leastF z then z.getD k 0 + 1 else z.getD k 0).map Int.ofNat)) rfl G6 M6 hr6 (by rw [e9]; exact small_up (by omega)) (by rw [e9]; exact range_sz) (by omega) .nil ?_ ?_
        · intro i v I oI C oC D2 m₂ g nw ys2 s2 E' hi' hv hC hx F8 N8 off2 ne hV
          obtain ⟨rfl, rfl, hg8, ho8, hR8⟩ := hV
          obtain ⟨tv, rfl⟩ := hv
          have hi1 : ∃ t, its[Int.toNat (0 + (i : Int))]? = some (.int ((z.getD i 0 : Nat) : Int) t) := ints_getZ (i := i) hi (by omega) (getD_getN (by omega))
          have hp1 := (hz.ok _ (getD_mem (show i < z.length from by omega))).1
          clear G6 M6
          refine wpAny_tests_nil ?_
          rw [if_pos rfl]
          by_cases hk : i < leastF z
          · have hd : decide (0 + (i : Int) < ((leastF z : Nat) : Int)) = true := decide_eq_true (by omega)
            k_steps
            refine ⟨_, _, F8, N8, off2, rfl, rfl, hg8, ho8, ?_⟩
            dsimp only
            rw [map_range_succ, if_pos hk, List.map_append]
            exact ints_snocZ hR8 (by rfl)
          · have hd : decide (0 + (i : Int) < ((leastF z : Nat) : Int)) = false := decide_eq_false (by omega)
            k_steps
            refine ⟨_, _, F8, N8, off2, rfl, rfl, hg8, ho8, ?_⟩
            dsimp only
            rw [map_range_succ, if_neg hk, List.map_append]
            exact ints_snocZ hR8 rfl
        · intro D2 ys2 g nw s4 F8 N8 off2 hV
          obtain ⟨rfl, rfl, hg8, ho8, hR8⟩ := hV
          have off3 := off1_mem off2
          simp only [Off1] at off2
          clear G6 M6
          k_steps
          rename News _ _ _ _ => Nz
          refine hret _ D2 ys2.toArray ys2.length (by assumption) (news_sub Nz fun p hp => ?_) ?_ ?_ (hg8.trans hg7) (ho8.trans ho7)
          · rcases List.mem_cons.mp hp with rfl | hp
            · exact .head _
            · repeat (first | exact hp | refine List.Mem.tail _ ?_)
          · exact fun p hp => off3 p (by repeat (first | exact hp | refine List.Mem.tail _ ?_))
          · unfold dueF
            rw [if_neg (by omega), if_neg hm]
            simpa using hR8
end
end
-- CStep
section
set_option maxHeartbeats 4000000
open PySem PySem.W PyProof.Rows PySem.Calls PyProof.Rows.LCg
section
variable {w : World} {A A₀ : Around} {outer : List Env} {base h₀ : Heap} {L a : Addr} {m mg mb : Str → Option Value} {mean : ExcName → Option Value} {s : Shared} {Q E : Value → Shared → Prop} {name : Str} {sc : Scope} {cd : Value} {nw : List (Addr × Obj)}
theorem part_use {z : List Nat} {c : Nat} {t u : Tok} {ps : Array Value} {env : Env} (hA : A.frames = some (env :: outer)) (hf : env.frame = some L) (hk : env.scope.kind = .function) (B : Below A₀ base outer h₀) (F : Fr h₀ L s.heap m) (X : (Mine.hd.heap_1 w.params).In h₀) (T : Top Mine.qv loose mean mg mb h₀) (XB : (Mine.hd.heap_1 w.params).In base) (TB : Top Mine.qv loose mean mg mb base) (D : KtsDicts (outer.filterMap (·.frame)) h₀)
    (N : News h₀ L s.heap nw) (m2 : (753, tabO ps) ∈ nw) (hJ : TabJ ps) (hAB : AllBare s.gens) (hc : c ∈ [120, 37, 126, 35]) (hz : GoodRow z)
    (hret : ∀ g s' t' ps', KtsTurn (outer.filterMap (·.frame)) h₀ g → Fr g L s'.heap m → (∀ nw', Upd 753 (tabO ps) (tabO ps') nw nw' → News g L s'.heap nw') → Below A₀ base outer g → (Mine.hd.heap_1 w.params).In g → Top Mine.qv loose mean mg mb g → KtsDicts (outer.filterMap (·.frame)) g →
      TabJ ps' → AllBare s'.gens → s'.os = s.os → Q (.str (lineF (stepF z) c) t') s')
    (lvl : Lvl A 390 0) :
    wpAny (MM w) A (call (.ref 804) [.str (lineF z c) t, .str (inkS c) u]) Q E s := by
  rw [envK_eq hf hk] at hA
  refine to_AT 390 lvl.1 lvl.2.1 lvl.2.2 hA ?_
  have e1 : ∀ p ∈ nw.filter (fun p => !decide (p.1 = 753)), p ∈ nw ∧ p.1 ≠ 753 := fun p hp => by simpa using List.mem_filter.mp hp
  refine part_core w _ _ outer A₀ base h₀ L m mg mb mean s Q E B F X T XB TB D z c hc hz t u ps (nw.filter (fun p => !decide (p.1 = 753))) (news_sub N fun p hp => ?_) (fun p hp => (e1 p hp).2) hJ hAB
    fun g s' t' ps' c1 c2 c3 c4 c5 c6 c7 c8 c9 c10 => hret g s' t' ps' c1 c2 (fun nw' U => news_sub c3 fun p hp => ?_) c4 c5 c6 c7 c8 c9 c10
  · rcases List.mem_cons.mp hp with rfl | hp
    · exact m2
    exact (e1 p hp).1
  · rcases upd_mem U p hp with rfl | ⟨hp, n2⟩
    · exact .head _
    exact .tail _ (List.mem_filter.mpr ⟨hp, by simp [n2]⟩)
theorem due_use {z : List Nat} {lst0 nn : Nat} {its : Array Value} {env : Env} (hA : A.frames = some (env :: outer)) (hf : env.frame = some L) (hk : env.scope.kind = .function) (B : Below A₀ base outer h₀) (F : Fr h₀ L s.heap m) (X : (Mine.hd.heap_1 w.params).In h₀) (T : Top Mine.qv loose mean mg mb h₀)
    (N : News h₀ L s.heap nw) (m1 : (lst0, listOf its nn) ∈ nw) (hz : SizesOk z) (h1 : 1 ≤ z.length) (hi : IntsAre its.toList (z.map Int.ofNat))
    (hret : ∀ s' (D : Nat) vs n, Fr h₀ L s'.heap m → News h₀ L s'.heap ((D, listOf vs n) :: nw) → (∀ p ∈ nw, p.1 ≠ D) → IntsAre vs.toList ((dueF z).map Int.ofNat) → s'.gens = s.gens → s'.os = s.os → Q (.ref D) s')
    (lvl : Lvl A 590 0) :
    wpAny (MM w) A (call (.ref 809) [.ref lst0]) Q E s := by
  rw [envK_eq hf hk] at hA
  refine to_AT 590 lvl.1 lvl.2.1 lvl.2.2 hA ?_
  refine due_core w _ _ _ _ _ _ _ _ _ _ _ _ _ _ B F X T lst0 its nn nw (news_sub N fun p hp => ?_) z hz h1 hi fun s' D vs n c1 c2 c3 c4 c5 c6 => hret s' D vs n c1 (news_sub c2 fun p hp => ?_) (fun p hp => c3 p (.tail _ hp)) c4 c5 c6
  · rcases List.mem_cons.mp hp with rfl | hp
    · exact m1
    exact hp
  · rcases List.mem_cons.mp hp with rfl | hp
    · exact .head _
    exact .tail _ (.tail _ hp)
end
structure StepRow (z : List Nat) : Prop where
  good : GoodRow z
  due : stepF z = dueF z
  sizes : SizesOk (dueF z)
  back : stairB z = true ∨ (GoodRow (stepF z) ∧ stepF (stepF z) = z)
theorem stepOk_row {z : List Nat} (h : stepOk z = true) (h' : (sldB z && (stairB z || sldB (stepF z))) = true) : StepRow z := by
  unfold stepOk at h
  simp only [Bool.and_eq_true, Bool.or_eq_true, beq_iff_eq] at h h'
  obtain ⟨⟨⟨a1, a2⟩, a3⟩, a4⟩ := h
  refine ⟨goodB_row a1 h'.1, a2, (sizesB_ok a3).1, ?_⟩
  rcases a4 with a4 | ⟨a4, a5⟩
  · exact .inl a4
  rcases h'.2 with b | b
  · exact .inl b
  · exact .inr ⟨goodB_row a4 b, a5⟩
section
noncomputable def TestIs (B : Bool) (s : Shared) (b : Bool) (s' : Shared) : Prop := b = B ∧ ∃ tk, s' = { s with toks := tk }
theorem if_spec {M : Model} {A : Around} {env : Env} {test : Expr} {body orelse : List Stmt} {pos : Pos} {Q : Flow → Shared → Prop} {E : Value → Shared → Prop} {s : Shared} (B : Bool) (h : wpAny M A (isTrue test env (eval test env)) (TestIs B s) E s)
    (k : ∀ tk, if B = true then wpAny M A (execs body env) Q E { s with toks := tk } else wpAny M A (execs orelse env) Q E { s with toks := tk }) : wpAny M A (exec (.If test body orelse pos) env) Q E s :=
  wpAny_If (wpAny_mono h (fun b s' hb => by obtain ⟨rfl, tk, rfl⟩ := hb; exact k tk) fun _ _ e => e)
theorem KStepIf.at_exec_If_BoolOp {p : Prop} (h : Hold p) : p := h
theorem KCStep.callHeld {M : Model} {A : Around} {f : Addr} {as : List Value} {Q E : Value → Shared → Prop} {s : Shared} (hf : held f [799, 804, 809] = true) (h : Hold (wpAny M A (call (.ref f) as) Q E s)) : wpAny M A (call (.ref f) as) Q E s := call_hold hf h
open KItem KCStep KStepIf
open KPost in
theorem step_core (w : World) (gd : Option (List Code)) (cn : Str) (cs : Scope) (a : Addr) (ccd : Value) (outer : List Env) (A₀ : Around) (base h₀ : Heap) (L : Addr) (m mg mb : Str → Option Value) (mean : ExcName → Option Value) (s : Shared)
    (Q E : Value → Shared → Prop) (B : Below A₀ base outer h₀) (F : Fr h₀ L s.heap m) (X : (Mine.hd.heap_1 w.params).In h₀) (T : Top Mine.qv loose mean mg mb h₀) (XB : (Mine.hd.heap_1 w.params).In base) (TB : Top Mine.qv loose mean mg mb base) (D : KtsDicts (outer.filterMap (·.frame)) h₀)
    (lst0 nn : Nat) (its : Array Value) (z : List Nat) (c : Nat) (hc : c ∈ [120, 37, 126, 35]) (hz : StepRow z) (hi : IntsAre its.toList (z.map Int.ofNat)) (u : Tok) (ps : Array Value) (rest : List (Addr × Obj)) (N : News h₀ L s.heap ((lst0, listOf its nn) :: (753, tabO ps) :: rest)) (hne : @Ne Nat lst0 753) (h753 : ∀ p ∈ rest, p.1 ≠ 753) (hJ : TabJ ps) (hAB : AllBare s.gens)
    (hret : ∀ g s' ps', KtsTurn (outer.filterMap (·.frame)) h₀ g → Fr g L s'.heap m → News g L s'.heap ((lst0, listOf its nn) :: (753, tabO ps') :: rest) → Below A₀ base outer g → (Mine.hd.heap_1 w.params).In g → Top Mine.qv loose mean mg mb g → KtsDicts (outer.filterMap (·.frame)) g →
      TabJ ps' → AllBare s'.gens → s'.os = s.os → Q (.bool true) s') :
    wpAny (MM w) (AT 380 gd (some (envOf cn (scK cs) L a ccd :: outer))) (call (.ref 816) [.ref lst0, .str (inkS c) u]) Q E s := by
  have hgz := hz.good
  have hsz := hgz.sizes
  have hle : its.size = z.length := by have := hi.length; simpa using this
  have hl20 := hsz.len
  have hl1 := hgz.len
  refine wpAny_call ?_
  have X9 := X
  have T9 := T
  kts_go
  refine gen_pass (by first | passes_own | with_unfolding_all passes_own) ?_
  intro QQ EE hQQ hEE hpo
  k_steps
  unfold Hold
  rename Fr _ _ _ _ => F1
  rename News _ _ _ _ => N1
  refine line_use (lvl := lvO rfl rfl rfl) rfl rfl rfl (by assumption) F1 (by assumption) (by assumption) N1 (by k_mem) (by k_mem) hne hJ hAB hc hsz hi fun s2 t2 ps2 F2 N2' hJ2 hAB2 hos2 => ?_
  have N2 := N2' _ (by k_upd)
  clear N2' N1 F1
  (try dsimp only)
  k_steps
  unfold Hold
  rename Fr _ _ _ _ => F3
  rename News _ _ _ _ => N3
  refine part_use (lvl := lvO rfl rfl rfl) rfl rfl rfl (by assumption) F3 (by assumption) (by assumption) XB TB (by assumption) N3 (by k_mem) hJ2 hAB2 hc hgz fun g3 s4 t4 ps4 T4 F4 N4' B4 X4 P4 D4 hJ4 hAB4 hos4 => ?_
  have N4 := N4' _ (by k_upd)
  clear N4' N3 F3
  (try dsimp only)
  k_steps
  unfold Hold
  rename Fr _ _ _ _ => F5
  rename News _ _ _ _ => N5
  refine due_use (lvl := lvO rfl rfl rfl) rfl rfl rfl (by assumption) F5 (by assumption) (by assumption) N5 (by k_mem) hsz hl1 hi fun s6 D6 vs6 n6 F6 N6 o6 hi6 hg6 hos6 => ?_
  clear N5 F5
  (try dsimp only)
  have n6a : @Ne Nat lst0 D6 := o6 _ (.head _)
  have n6b : @Ne Nat D6 753 := fun e => o6 _ (.tail _ (.head _)) e.symm
  k_steps
  unfold Hold
  rename Fr _ _ _ _ => F7
  rename News _ _ _ _ => N7
  refine line_use (lvl := lvO rfl rfl rfl) rfl rfl rfl (by assumption) F7 (by assumption) (by assumption) N7 (by k_mem) (by k_mem) n6b hJ4 (by rw [show _ = s4.gens from hg6]; exact hAB4) hc hz.sizes hi6 fun s8 t8 ps8 F8 N8' hJ8 hAB8 hos8 => ?_
  have N8 := N8' _ (by k_upd)
  clear N8' N7 F7
  have heq : (lineF (stepF z) c == lineF (dueF z) c) = true := by rw [hz.due]; exact beq_self_eq_true _
  have hneq : (lineF (stepF z) c != lineF (dueF z) c) = false := by rw [hz.due]; exact bne_self_eq_false _
  have hh := headD_ok hgz
  have e0 : ∃ t, its[Int.toNat 0]? = some (.int ((z.headD 0 : Nat) : Int) t) := ints_getZ (i := 0) hi rfl (by rw [List.getElem?_map, headD_get hgz]; rfl)
  have hlast := ints_last hi (lastD_get hgz)
  have hls1 := hsz.ok _ (List.mem_of_getElem? (lastZ_get hgz))
  (try dsimp only)
  k_steps
  unfold Hold
  rename Fr _ _ _ _ => F9
  rename News _ _ _ _ => N9
  refine if_spec (stairB z) ?test fun tk => ?_
  case test =>
    cases hb1 : (((z.headD 0 : Nat) : Int) - ((leastF z : Nat) : Int) == ((z.length : Nat) : Int) - 1) with
    | false =>
      k_steps
      refine ⟨?_, _, rfl⟩
      rw [beq_eq_false_iff_ne] at hb1
      unfold stairB
      rw [show (z.headD 0 == leastF z + (z.length - 1)) = false from by rw [beq_eq_false_iff_ne]; omega]
      rfl
    | true =>
      have hb1' := hb1
      rw [beq_iff_eq] at hb1'
      cases hb2 : decide ((0 : Int) ≤ ((leastF z : Nat) : Int) - ((z.length : Nat) : Int)) with
      | false =>
        k_steps
        refine ⟨?_, _, rfl⟩
        rw [decide_eq_false_iff_not] at hb2
        unfold stairB
        rw [decide_eq_false (p := z.length ≤ leastF z ∧ leastF z ≤ z.length + 1) (by omega), Bool.and_false]
      | true =>
        rw [decide_eq_true_eq] at hb2
        cases hb3 : decide (((leastF z : Nat) : Int) - ((z.length : Nat) : Int) ≤ 1) with
        | false =>
          have hb2' : decide ((0 : Int) ≤ ((leastF z : Nat) : Int) - ((z.length : Nat) : Int)) = true := decide_eq_true hb2
          k_steps
          refine ⟨?_, _, rfl⟩
          rw [decide_eq_false_iff_not] at hb3
          unfold stairB
          rw [decide_eq_false (p := z.length ≤ leastF z ∧ leastF z ≤ z.length + 1) (by omega), Bool.and_false]
        | true =>
          have hb2' : decide ((0 : Int) ≤ ((leastF z : Nat) : Int) - ((z.length : Nat) : Int)) = true := decide_eq_true hb2
          k_steps
          refine ⟨?_, _, rfl⟩
          rw [decide_eq_true_eq] at hb3
          unfold stairB
          rw [decide_eq_true (p := z.length ≤ leastF z ∧ leastF z ≤ z.length + 1) (by omega), show (z.headD 0 == leastF z + (z.length - 1)) = true from by rw [beq_iff_eq]; omega]
          rfl
  cases hst : stairB z with
  | false =>
    refine ite_no rfl ?_
    (try dsimp only)
    k_steps
    unfold Hold
    rename Fr _ _ _ _ => FA
    rename News _ _ _ _ => NA
    obtain ⟨hgz2, hback⟩ := hz.back.resolve_left (by rw [hst]; decide)
    refine part_use (lvl := lvO rfl rfl rfl) rfl rfl rfl (by assumption) FA (by assumption) (by assumption) XB TB (by assumption) NA (by k_mem) hJ8 hAB8 hc hgz2 fun g10 s10 t10 ps10 T10 F10 N10' B10 X10 P10 D10 hJ10 hAB10 hos10 => ?_
    have N10 := N10' _ (by k_upd)
    have T12 := T4.trans T10
    clear N10' NA FA T4 T10
    rw [hback]
    (try dsimp only)
    k_steps
    rename News _ _ _ _ => Nz
    rw [show (lineF z c == lineF z c) = true from beq_self_eq_true _]
    exact hret _ _ _ (by assumption) (by assumption) (news_sub Nz fun p hp => by repeat (first | exact hp | refine List.Mem.tail _ ?_)) (by assumption) (by assumption) (by assumption) (by assumption) hJ10 hAB10 (hos10.trans (hos8.trans (hos6.trans (hos4.trans hos2))))
  | true =>
    refine ite_yes rfl ?_
    (try dsimp only)
    k_steps
    rename News _ _ _ _ => Nz
    exact hret _ _ _ (by assumption) (by assumption) (news_sub Nz fun p hp => by repeat (first | exact hp | refine List.Mem.tail _ ?_)) (by assumption) (by assumption) (by assumption) (by assumption) hJ8 hAB8 (hos8.trans (hos6.trans (hos4.trans hos2)))
end
end
-- PLaw2
section
set_option maxHeartbeats 4000000
open PySem PySem.W PyProof.Rows PySem.Calls
noncomputable def fiveOf (x : Int) : Nat := (x % 5).toNat
noncomputable def numbersF (ns : List Int) : List Int := ns.take 3 ++ [1, 0, 0]
noncomputable def lawSizes (ns : List Int) : List Nat := sizesF [1 + fiveOf ((numbersF ns).headD 0)] ((numbersF ns).tail.map fiveOf)
theorem five_mem (x : Int) : fiveOf x ∈ fives := by
  have h1 := Int.emod_nonneg x (show (5 : Int) ≠ 0 by decide)
  have h2 := Int.emod_lt_of_pos x (show (0 : Int) < 5 by decide)
  unfold fiveOf fives
  have : (x % 5).toNat < 5 := by omega
  generalize (x % 5).toNat = k at this
  match k, this with
  | 0, _ => simp
  | 1, _ => simp
  | 2, _ => simp
  | 3, _ => simp
  | 4, _ => simp
theorem lawSizes_mem (ns : List Int) : lawSizes ns ∈ rowsA := by
  unfold rowsA
  simp only [List.mem_append]
  match ns with
  | [] => exact .inl (.inl (.inl (by decide)))
  | [a] => exact .inl (.inl (.inr (List.mem_map.mpr ⟨fiveOf a, five_mem a, rfl⟩)))
  | [a, b] => exact .inl (.inr (List.mem_flatMap.mpr ⟨fiveOf a, five_mem a, List.mem_map.mpr ⟨fiveOf b, five_mem b, rfl⟩⟩))
  | a :: b :: d :: r => exact .inr (List.mem_flatMap.mpr ⟨fiveOf a, five_mem a, List.mem_flatMap.mpr ⟨fiveOf b, five_mem b, List.mem_map.mpr ⟨fiveOf d, five_mem d, rfl⟩⟩⟩)
theorem lawSizes_row (ns : List Int) : StepRow (lawSizes ns) := stepOk_row (List.all_eq_true.mp rowsA_ok _ (lawSizes_mem ns)) (List.all_eq_true.mp rowsA_sld _ (lawSizes_mem ns))
end
-- CUld
section
set_option maxHeartbeats 4000000
open PySem PySem.W PyProof.Rows PySem.Calls PyProof.Rows.LCg
noncomputable def isTx (p : Str) : Value → Bool
  | .str y _ => y.cps.toList == p.cps.toList
  | _ => false
theorem tx_eq {p : Str} {t : Tok} {l : List Value} {os : List Str} (h : StrsAre l os) : ∀ y, y ∈ l → MeetsSeq.EqGives y (.str p t) (isTx p y) := by
  induction h with
  | nil => exact fun _ h => nomatch h
  | cons x u _ ih =>
    intro y hy
    rcases List.mem_cons.mp hy with rfl | hy
    · exact SeqRoads2.EqGives.str x p u t
    · exact ih y hy
theorem str_listbeq (x y : Str) : (x.cps.toList == y.cps.toList) = (x == y) := by
  rw [Bool.eq_iff_iff, beq_iff_eq, beq_iff_eq]
  exact ⟨fun h => by obtain ⟨x⟩ := x; obtain ⟨y⟩ := y; exact congrArg Str.mk (Array.toList_inj.mp h), fun h => by rw [h]⟩
theorem strs_erase : ∀ {vs : List Value} {os : List Str} (j : Nat), StrsAre vs os → StrsAre (vs.eraseIdx j) (os.eraseIdx j)
  | _, _, _, .nil => .nil
  | _, _, 0, .cons _ _ h => h
  | _, _, j + 1, .cons y t h => .cons y t (strs_erase j h)
theorem tx_at {p : Str} : ∀ {l : List Value} {os : List Str}, StrsAre l os → os.contains p = true → ∃ j, ∃ hj : j < l.length, isTx p l[j] = true ∧ (∀ i (hi : i < l.length), i < j → isTx p l[i] = false) ∧ os.erase p = os.eraseIdx j
  | _, _, .nil, h => by simp at h
  | _, _, .cons (vs := vs) (ys := ys) y t hs, h => by
    cases hy : (y == p) with
    | true => exact ⟨0, Nat.zero_lt_succ _, by show (y.cps.toList == p.cps.toList) = true; rw [str_listbeq]; exact hy, fun i _ hi => absurd hi (Nat.not_lt_zero _), by rw [eq_of_beq hy, List.erase_cons_head]; rfl⟩
    | false =>
      have h' : ys.contains p = true := by
        rw [List.contains_cons, Bool.or_eq_true] at h
        rcases h with h | h
        · rw [beq_iff_eq] at h; rw [h] at hy; simp at hy
        · exact h
      obtain ⟨j, hj, a1, a2, a3⟩ := tx_at hs h'
      refine ⟨j + 1, Nat.succ_lt_succ hj, a1, fun i hi hlt => ?_, ?_⟩
      · cases i with
        | zero => show (y.cps.toList == p.cps.toList) = false; rw [str_listbeq]; exact hy
        | succ i => exact a2 i (Nat.lt_of_succ_lt_succ hi) (Nat.lt_of_succ_lt_succ hlt)
      · rw [List.erase_cons_tail (by rw [hy]; decide), a3]
        rfl
structure US where
  vs : Array Value
  n1 : Nat
  av : Array Value
  n2 : Nat
  ks : List Str
  os : List Str
structure UP (res : List Str) (c : US) : Prop where
  e : StrsAre c.vs.toList c.ks
  a : StrsAre c.av.toList c.os
  t : takeOff c.ks.reverse c.os = some res
  l1 : c.ks.length ≤ 100
  l2 : c.os.length ≤ 100
section
variable {prog : Program} {w : World} {A : Around} {E : Value → Shared → Prop} {s : Shared} {h₀ : Heap} {L D : Addr} {m : Str → Option Value} {nw nw' : List (Addr × Obj)} {its : Array Value} {n : Nat}
theorem truthy_nw {Q : Bool → Shared → Prop} {b : Bool} (N : News h₀ L s.heap nw) (hm : (D, listOf its n) ∈ nw) (hf : its.size ≤ 1000) (hb : (!its.isEmpty) = b) (h : ∀ t, Q b { s with toks := t }) : wpAny (model prog w) A (truthy (.ref D)) Q E s := by
  subst hb
  exact wpAny_truthy_list ⟨_, (N _ hm).1, rfl, _, rfl⟩ (by omega) (h _)
theorem remove_nw {p : Str} {t : Tok} {os : List Str} {Q : Value → Shared → Prop} (F : Fr h₀ L s.heap m) (N : News h₀ L s.heap nw) (hi : StrsAre its.toList os) (hc : os.contains p = true) (hz : its.size ≤ 1000)
    (h : ∀ h' q, StrsAre q.toList (os.erase p) → q.size + 1 = its.size → Fr h₀ L h' m → (∀ nw', Upd D (listOf its n) (listOf q (n + 1)) nw nw' → News h₀ L h' nw') → Q .none { s with heap := h' }) (hm : ∃ pre post, nw = pre ++ (D, listOf its n) :: post ∧ (∀ p ∈ pre, p.1 ≠ D) ∧ (∀ p ∈ post, p.1 ≠ D)) : wpAny (model prog w) A (call (.builtin "list.remove") [.ref D, .str p t]) Q E s := by
  obtain ⟨pre, post, rfl, a', b'⟩ := hm
  have z := N (D, listOf its n) (List.mem_append.mpr (.inr (.head _)))
  obtain ⟨j, hj, a, b, c⟩ := tx_at hi hc
  have hs : its.toList.length = its.size := Array.length_toList
  have hz' : its.size ≤ sizeLine := by rw [sizeLine_eq]; omega
  have hsz : (its.eraseIdxIfInBounds j).size + 1 = its.size := by
    rw [← Array.length_toList, Array.toList_eraseIdxIfInBounds, List.length_eraseIdx_of_lt (by omega)]
    omega
  refine call_meets PySem.F.slot_list_remove ⟨_, z.1, rfl⟩ PySem.F.entry_list_remove (PySem.F.args_list_remove_2 _ _)
    (MeetsSeq.list_remove D its n (.str p t) (isTx p) (fun y hy => tx_eq hi y (by simpa using hy)) j (by omega) (by simpa using a) (fun i hi' hlt => (b i (by omega) hlt : isTx p its.toList[i] = false)) hz')
    ⟨z.1, h _ (its.eraseIdxIfInBounds j) ?_ hsz (F.change (Heap.SameBut.update ..) z.2.1 z.2.2) fun nw' U => ?_⟩
  · rw [Array.toList_eraseIdxIfInBounds, c]
    exact strs_erase j hi
  · have N2 := ki_turn (fun xs => xs.eraseIdxIfInBounds j) (n' := n + 1) N a' b' rfl (by rw [if_neg (by rw [beq_iff_eq]; omega)])
    exact news_sub N2 fun p hp => by
      rcases upd_mem U p hp with rfl | ⟨hp, n2⟩
      · exact List.mem_append.mpr (.inr (.head _))
      · rcases List.mem_append.mp hp with hp | hp
        · exact List.mem_append_left _ hp
        · rcases List.mem_cons.mp hp with rfl | hp
          · exact absurd rfl n2
          · exact List.mem_append_right _ (.tail _ hp)
theorem ne_lt {d : Nat} : ∀ {l : List (Addr × Obj)}, AllLt d l → ∀ p ∈ l, p.1 < d
  | [], _, _, hp => nomatch hp
  | _ :: _, h, _, .head _ => h.1
  | _ :: _, h, _, .tail _ hp => ne_lt h.2 _ hp
theorem strs_snoc : ∀ {l : List Value} {ks : List Str} {p : Str}, StrsAre l (ks ++ [p]) → ∃ q t, l = q ++ [Value.str p t] ∧ StrsAre q ks
  | _, [], _, h => by
    cases h with
    | cons y t h => cases h; exact ⟨[], t, rfl, .nil⟩
  | _, k :: ks, p, h => by
    cases h with
    | cons y t h =>
      obtain ⟨q, u, rfl, hq⟩ := strs_snoc h
      exact ⟨.str k t :: q, u, rfl, .cons k t hq⟩
theorem kl_last_snoc (q : List Value) (y : Value) : kl_last (q ++ [y]) = some (q, y) := by
  induction q with
  | nil => rfl
  | cons a q ih => show (match kl_last (q ++ [y]) with | some (p, y) => some (a :: p, y) | none => some ([], a)) = _; rw [ih]
open KExecWhileName KTruthyRef KCallBuiltinListPop KCallBuiltinListRemove
local macro_rules | `(tactic| walk_at "getMethod ref") => `(tactic| (k_here; (with_reducible show wpAny _ _ (getMethod (Value.ref _) (PySem.Str.ofString "remove") _) _ _ _); k_dflt (refine' kf_method ?N ?m PySem.F.slot_list_remove PySem.F.type_list_remove ?_; (case N => k_asm); (case m => k_mem))))
open KPost in
theorem uld_core (w : World) (gd : Option (List Code)) (ev : Env) (outer : List Env) (A₀ : Around) (base h₀ : Heap) (L : Addr) (m mg mb : Str → Option Value) (mean : ExcName → Option Value) (s : Shared)
    (Q E : Value → Shared → Prop) (B : Below A₀ base outer h₀) (F : Fr h₀ L s.heap m) (X : (Mine.hd.heap_1 w.params).In h₀) (T : Top Mine.qv loose mean mg mb h₀)
    (x y n1 n2 : Nat) (vs av : Array Value) (ks os res : List Str) (hp : UP res ⟨vs, n1, av, n2, ks, os⟩) (rest : List (Addr × Obj)) (N : News h₀ L s.heap ((y, listOf av n2) :: (x, listOf vs n1) :: rest)) (hxy : @Ne Nat y x) (hx : ∀ p ∈ rest, p.1 ≠ x) (hy : ∀ p ∈ rest, p.1 ≠ y)
    (hret : ∀ h' tk' (D l1 : Nat) rv k1 k2 n1', Fr h₀ L h' m → News h₀ L h' ((D, { cls := .type "tuple", data := .seq #[.ref l1, .ref y] }) :: (l1, listOf #[] k1) :: (y, listOf rv k2) :: (x, listOf #[] n1') :: rest) → StrsAre rv.toList res → (∀ p ∈ rest, p.1 < l1) → l1 < D → y < l1 → x < l1 → Q (.ref D) { s with heap := h', toks := tk' }) :
    wpAny (MM w) (AT 590 gd (some (envK ev L :: outer))) (call (.ref 780) [.ref x, .ref y]) Q E s := by
  walk1
  (try dsimp only)
  refine gen_pass (by first | passes_own | with_unfolding_all passes_own) ?_
  intro QQ EE hQQ hEE hpo
  k_steps
  unfold Hold
  rename Fr _ _ _ _ => F1
  rename News _ _ _ _ => N1
  obtain ⟨m1, l1, F1, N1, q1, q2, q3, o1⟩ : ∃ (m1 : Str → Option Value) (l1 : Nat), Fr _ _ _ m1 ∧ News _ _ _ ((l1, listOf #[] 0) :: (y, listOf av n2) :: (x, listOf vs n1) :: rest) ∧
    m1 "expected" = some (.ref x) ∧ m1 "actual" = some (.ref y) ∧ m1 "missing" = some (.ref l1) ∧ (y < l1 ∧ x < l1 ∧ AllLt l1 rest) :=
    ⟨_, _, F1, N1, by kernel_rfl, by kernel_rfl, by kernel_rfl, by assumption⟩
  refine ksw_while (σ := US) (fun c => (l1, listOf #[] 0) :: (y, listOf c.av c.n2) :: (x, listOf c.vs c.n1) :: rest)
    (fun c => [("expected", .ref x), ("actual", .ref y), ("missing", .ref l1)]) (fun _ => True) ["item"] (UP res) (fun c => c.ks.length) ⟨vs, n1, av, n2, ks, os⟩ F1 N1 trivial ?_ hp ?_ ?_
  · simp only [List.forall_mem_cons, List.forall_mem_nil, and_true]
    exact ⟨q1, q2, q3, fun _ h => nomatch h⟩
  · clear hp F1 N1
    rintro ⟨vs, n1, av, n2, ks, os⟩ u h' tk' - ⟨he, ha, ht, hl1, hl2⟩ F2 N2
    dsimp only at he ha ht hl1 hl2 F2 N2 ⊢
    rcases List.eq_nil_or_concat ks with rfl | ⟨ks', p, rfl⟩
    · have hv : vs = #[] := by cases vs with | mk l => cases he; rfl
      subst hv
      have hres : os = res := by injection ht
      subst hres
      k_steps
      unfold Hold
      refine truthy_nw (b := false) N2 (.tail _ (.tail _ (.head _))) (by simp) rfl fun tk2 => ?_
      (try dsimp only)
      rw [if_neg (by decide)]
      k_steps
      rename News _ _ _ _ => Nz
      exact hret _ _ _ l1 av 0 n2 n1 (by assumption) (news_sub Nz fun p hp => by repeat (first | exact hp | refine List.Mem.tail _ ?_)) ha (fun p hp => ne_lt o1.2.2 p hp) (by omega) o1.1 o1.2.1
    · rw [List.concat_eq_append] at he ht hl1 ⊢
      obtain ⟨q, t, hq, hqs⟩ := strs_snoc he
      have hvs : vs.size = ks'.length + 1 := by have := StrsAre.length he; simpa using this
      have has : av.size = os.length := by have := StrsAre.length ha; simpa using this
      rw [List.reverse_append] at ht
      simp only [List.reverse_cons, List.reverse_nil, List.nil_append, List.singleton_append] at ht
      unfold takeOff at ht
      split at ht
      case isFalse => cases ht
      rename_i hc
      simp only [List.length_append, List.length_singleton] at hl1
      k_steps
      unfold Hold
      refine truthy_nw (b := true) N2 (.tail _ (.tail _ (.head _))) (by omega) (by rw [Bool.not_eq_true', Array.isEmpty_eq_false_iff]; intro e; rw [e] at hvs; simp at hvs) fun tk2 => ?_
      (try dsimp only)
      rw [if_pos rfl]
      k_steps
      unfold Hold
      refine kl_pop (p := q) (y := .str p t) F2 N2 (by rw [hq]; exact kl_last_snoc q _) (by k_upd) (by rw [Array.length_toList, sizeLine_eq]; omega) fun h3 F3 N3 => ?_
      clear F2 N2
      (try dsimp only)
      k_steps
      unfold Hold
      rename Fr _ _ _ _ => F4
      rename News _ _ _ _ => N4
      refine remove_nw (D := y) (its := av) (n := n2) F4 N4 ha hc (by omega) (fun h5 r hr hrs F5 N5' => ?_) ⟨[(l1, listOf #[] 0)], (x, listOf q.toArray (n1 + 1)) :: rest, rfl, ?_, ?_⟩
      · have N5 := N5' _ (by k_upd)
        clear N5' F4 N4
        (try dsimp only)
        k_steps
        rename News _ _ _ _ => N9
        refine' ksw_end ⟨q.toArray, n1 + 1, r, n2 + 1, ks', os.erase p⟩ ?F N9 (fun p hp => hp) trivial ?ps ?same ?P ?mu
        case F => assumption
        case ps => kst_all
        case same =>
          intro z h2 h3
          simp only [List.forall_mem_cons, List.not_mem_nil, false_implies, implies_true, and_true, ne_eq] at h2
          simp only [List.contains_cons, List.contains_nil, Bool.or_false, Bool.or_eq_false_iff, beq_eq_false_iff_ne, ne_eq] at h3
          simp [kstB, h2, h3]
        case P =>
          have := List.length_erase_le (l := os) (a := p)
          exact ⟨hqs, hr, ht, by show ks'.length ≤ 100; omega, by show (os.erase p).length ≤ 100; omega⟩
        case mu => show ks'.length < (ks' ++ [p]).length; simp
      · exact List.forall_mem_cons.mpr ⟨by show @Ne Nat l1 y; omega, List.forall_mem_nil _⟩
      · exact List.forall_mem_cons.mpr ⟨by show @Ne Nat x y; exact Ne.symm hxy, hy⟩
  · first | passes_own | with_unfolding_all passes_own
end
end
-- CFor
section
set_option maxHeartbeats 4000000
open PySem PySem.W PyProof.Rows PySem.Calls PyProof.Rows.LCg
/-- where a turn of a for loop stands: the base and the locals may be new ones -/
noncomputable def FTurn (L : Addr) (Inv : Nat → (Str → Option Value) → Heap → List (Addr × Obj) → Shared → Prop) (I : Addr) (oI : Obj) (i : Nat) (s : Shared) : Prop :=
  ∃ m g nw, Fr g L s.heap m ∧ News g L s.heap ((I, oI) :: nw) ∧ (∀ p ∈ nw, p.1 ≠ I) ∧ Inv i m g nw s
noncomputable def FPost (L : Addr) (Inv : Nat → (Str → Option Value) → Heap → List (Addr × Obj) → Shared → Prop) (I : Addr) (oI : Obj) (i : Nat) (Q : Flow → Shared → Prop) (f : Flow) (s : Shared) : Prop :=
  match f with
  | .brk => Q .next s
  | .ret v => Q (.ret v) s
  | _ => FTurn L Inv I oI i s
section
variable {w : World} {A : Around} {E : Value → Shared → Prop} {s : Shared} {env : Env} {Q : Flow → Shared → Prop}
/-- what a turn has to show -/
noncomputable def FBody (w : World) (A : Around) (env : Env) (body : List Stmt) (x : Str) (n : Nat) (P : Nat → Value → Prop) (Inv : Nat → (Str → Option Value) → Heap → List (Addr × Obj) → Shared → Prop) (Q : Flow → Shared → Prop) (E : Value → Shared → Prop) : Prop :=
  ∀ (i : Nat) (v : Value) (I : Addr) (oI : Obj) (m : Str → Option Value) (g : Heap) (nw : List (Addr × Obj)) (s : Shared), i < n → P i v → Fr g env.locals s.heap m →
    News g env.locals s.heap ((I, oI) :: nw) → (∀ p ∈ nw, p.1 ≠ I) → Inv i m g nw s → wpAny (MM w) A (storeName env x v) (fun _ s₂ => wpAny (MM w) A (execs body env) (FPost env.locals Inv I oI (i + 1) Q) E s₂) E s
theorem for_block {x : Str} {px : Pos} {body : List Stmt} {I : Addr} {fp : List Addr} {n : Nat} {P : Nat → Value → Prop} {St : Nat → Heap → Prop} {g₀ : Heap} {nw₀ : List (Addr × Obj)} {m₀ : Str → Option Value} {s₂ : Shared}
    {Inv : Nat → (Str → Option Value) → Heap → List (Addr × Obj) → Shared → Prop} (hE : PassesOwn (MM w) A env E)
    (W : Walks PySem.Challenge.pw_oy0383_01 w A I fp [I] n P St) (hIo : ∀ i h, St i h → ∃ o, h.get? I = some o)
    (hSt : ∀ i h s' o m g nw, St i h → h.get? I = some o → s'.heap.get? I = some o → News g env.locals s'.heap nw → Inv i m g nw s' → St i s'.heap)
    (hInv : ∀ i m g nw s h tk, Inv i m g nw s → Inv i m g nw { s with heap := h, toks := tk })
    (hst : St 0 s₂.heap) (F : Fr g₀ env.locals s₂.heap m₀) (N : News g₀ env.locals s₂.heap nw₀) (hI₀ : g₀.get? I = none) (off : ∀ p ∈ nw₀, p.1 ≠ I) (hIL : env.locals ≠ I) (hS : Inv 0 m₀ g₀ nw₀ s₂)
    (R : FBody w A env body x n P Inv Q E)
    (done : ∀ m g nw s', Fr g env.locals s'.heap m → News g env.locals s'.heap nw → Inv n m g nw s' → Q .next s') :
    codeAny (MM w) A (.forLoop (.Name x px) (.ref I) body [] env) (fun r s' => match r with | .ok f => Q f s' | .error e => cameBackBy (MM w) A env E e s') s₂ := by
  refine codeAny_forLoop (fun k s' => ∃ i m g nw, i ≤ n ∧ k = n + 1 - i ∧ St i s'.heap ∧ Fr g env.locals s'.heap m ∧ g.get? I = none ∧ News g env.locals s'.heap nw ∧ (∀ p ∈ nw, p.1 ≠ I) ∧ Inv i m g nw s') ?_ (n + 1)
    ⟨0, m₀, g₀, nw₀, Nat.zero_le _, rfl, hst, F, hI₀, N, off, hS⟩
  rintro k s' ⟨i, m, g, nw, hi, rfl, hst', F', zI, N', off', hV⟩
  by_cases hlt : i < n
  · refine W.item i _ _ _ hlt hst' fun v h₂ tk₂ hPv hst₂ hk₂ => ?_
    obtain ⟨oI, heI⟩ := hIo _ _ hst₂
    have F₂ := fr_but F' hk₂ hIL zI
    have N₂ : News g env.locals h₂ nw := news_but N' hk₂ off'
    have N₃ : News g env.locals h₂ ((I, oI) :: nw) := fun p hp => by
      rcases List.mem_cons.mp hp with rfl | hp
      · exact ⟨heI, Ne.symm hIL, zI⟩
      · exact N₂ p hp
    refine wpAny_assign_Name (wpAny_mono (wpAny_passesOwn hE (R i v I oI m g nw _ hlt hPv F₂ N₃ off' (hInv _ _ _ _ s' h₂ _ hV))) (fun _ s₃ h₃ => wpAny_mono (wpAny_passesOwn hE h₃) (fun f s₄ h₄ => ?_) fun _ _ e => e) fun _ _ e => e)
    have next : FTurn env.locals Inv I oI (i + 1) s₄ → ∃ m, m < n + 1 - i ∧ ∃ i m' g nw, i ≤ n ∧ m = n + 1 - i ∧ St i s₄.heap ∧ Fr g env.locals s₄.heap m' ∧ g.get? I = none ∧ News g env.locals s₄.heap nw ∧ (∀ p ∈ nw, p.1 ≠ I) ∧ Inv i m' g nw s₄ := by
      rintro ⟨m', g', nw', F₄, N₄, off₄, hV₄⟩
      have zI₄ := N₄ (I, oI) (.head _)
      have N₅ : News g' env.locals s₄.heap nw' := fun p hp => N₄ p (.tail _ hp)
      exact ⟨n + 1 - (i + 1), by omega, i + 1, m', g', nw', hlt, rfl, hSt _ _ _ _ _ _ _ hst₂ heI zI₄.1 N₅ hV₄, F₄, zI₄.2.2, N₅, off₄, hV₄⟩
    cases f with
    | next => exact next h₄
    | cont => exact next h₄
    | brk => exact h₄
    | ret v => exact h₄
  · obtain rfl : i = n := Nat.le_antisymm hi (Nat.not_lt.mp hlt)
    refine W.done _ _ _ hst' fun h₂ tk₂ hk₂ => ?_
    exact wpAny_execs_nil (done _ _ _ _ (fr_but F' hk₂ hIL zI) (news_but N' hk₂ off') (hInv _ _ _ _ s' h₂ tk₂ hV))
/-- a for loop over a list of the ledger, or over a range -/
noncomputable def FSrc (w : World) (A : Around) (env : Env) (body : List Stmt) (x : Str) (Q : Flow → Shared → Prop) (E : Value → Shared → Prop) (xv : Value) (s₁ : Shared) : Prop :=
  ∃ (m : Str → Option Value) (g : Heap) (nw : List (Addr × Obj)) (Inv : Nat → (Str → Option Value) → Heap → List (Addr × Obj) → Shared → Prop) (n : Nat), A.handled = none ∧ Fr g env.locals s₁.heap m ∧ News g env.locals s₁.heap nw ∧ (∀ i m g nw s h tk, Inv i m g nw s → Inv i m g nw { s with heap := h, toks := tk }) ∧ Inv 0 m g nw s₁ ∧
   (∀ m g nw s', Fr g env.locals s'.heap m → News g env.locals s'.heap nw → Inv n m g nw s' → Q .next s') ∧
   ((∃ (ax : Addr) (its : Array Value), xv = .ref ax ∧ n = its.size ∧ (∀ i m g nw s, Inv i m g nw s → ∃ k, (ax, ({ cls := .type "list", data := .seq its k } : Obj)) ∈ nw) ∧ FBody w A env body x n (fun i v => its[i]? = some v) Inv Q E) ∨
    (∃ (r : Addr) (a b c : Int) (t u v : Tok), xv = .ref r ∧ IsRange s₁.heap r a b c t u v ∧ Builtin.Range.small a b c = true ∧ Builtin.Range.rangeSize a b c = ((n : Nat) : Int) ∧ FBody w A env body x n (fun i v => ∃ t, v = .int (a + (i : Int) * c) t) Inv Q E))
theorem for_J {x : Str} {px : Pos} {iter : Expr} {body : List Stmt} {pos : Pos} (h : wpAny (MM w) A (eval iter env) (FSrc w A env body x Q E) E s) (hE : PassesOwn (MM w) A env E) (hs : ∀ x, foldedSetIterable iter env x = pure x) :
    wpAny (MM w) A (exec (.For (.Name x px) iter body [] pos) env) Q E s := by
  refine wpAny_For (wpAny_mono h (fun xv s₁ h₁ => ?_) fun _ _ e => e) hs
  obtain ⟨m, g, nw, Inv, n, hh, F, N, hInv, hV, done, ⟨ax, its, rfl, rfl, hsrc, R⟩ | ⟨r, a, b, c, t, u, v, rfl, hr, hsm, hn, R⟩⟩ := h₁
  · obtain ⟨k, hm⟩ := hsrc _ _ _ _ _ hV
    have hl : s₁.heap.IsList ax its := ⟨_, (N _ hm).1, rfl, k, rfl⟩
    have hlt : ax < s₁.heap.objs.size := Heap.lt_size (N _ hm).1
    refine wpAny_pyIter_list hl ?_
    have up : ∀ b o, s₁.heap.get? b = some o → (s₁.heap.push { cls := .type "list_iterator", data := .fields #[.ref ax, .int 0 0] }).get? b = some o := fun b o e => Heap.get?_push_of_some _ e
    refine for_block hE (Walks.list hh s₁.heap.objs.size ax (Nat.ne_of_lt hlt) its) (fun i h st => by obtain ⟨o, e, _⟩ := st.1; exact ⟨o, e⟩) (fun i h s' o m' g nw st e e' N' hV' => ?_) hInv ⟨⟨_, Heap.get?_push_size _ rfl, rfl, rfl⟩, hl.push _⟩
      (F.keeps up) (N.grown up) (next_is_new F) (fun p hp => Nat.ne_of_lt (Heap.lt_size (N p hp).1)) (Nat.ne_of_lt F.ns.lt) (hInv _ _ _ _ s₁ _ s₁.toks hV) R done
    · obtain ⟨k', hm'⟩ := hsrc _ _ _ _ _ hV'
      exact ⟨by obtain ⟨o', q, r⟩ := st.1; rw [e] at q; cases q; exact ⟨o, e', r⟩, _, (N' _ hm').1, rfl, k', rfl⟩
  · refine wpAny_pyIter_range hr hsm ?_
    refine for_block hE (Walks.range hh _ a c n) (fun i h st => ⟨_, st⟩) (fun i h s' o m' g nw st e e' _ _ => ?_) hInv (by show IsRangeIter _ _ _ _ _; rw [hn]; simpa using Heap.get?_push_size _ rfl)
      (F.keeps fun _ _ e => Heap.get?_push_of_some _ e) (N.grown fun _ _ e => Heap.get?_push_of_some _ e) (next_is_new F) (fun p hp => Nat.ne_of_lt (Heap.lt_size (N p hp).1)) (Nat.ne_of_lt F.ns.lt) (hInv _ _ _ _ s₁ _ s₁.toks hV) R done
    · have st' : h.get? s₁.heap.objs.size = some _ := st
      show s'.heap.get? s₁.heap.objs.size = some _
      rw [e', ← e]; exact st'
theorem fsrc_range {x : Str} {body : List Stmt} {s₁ : Shared} {m : Str → Option Value} {g : Heap} {nw : List (Addr × Obj)} {r : Addr} {a b c : Int} {t u v : Tok} {n : Nat} (Inv : Nat → (Str → Option Value) → Heap → List (Addr × Obj) → Shared → Prop) (hh : A.handled = none) (F : Fr g env.locals s₁.heap m) (N : News g env.locals s₁.heap nw)
    (hInv : ∀ i m g nw s h tk, Inv i m g nw s → Inv i m g nw { s with heap := h, toks := tk }) (hr : IsRange s₁.heap r a b c t u v) (hsm : Builtin.Range.small a b c = true) (hn : Builtin.Range.rangeSize a b c = ((n : Nat) : Int)) (hV : Inv 0 m g nw s₁)
    (R : FBody w A env body x n (fun i v => ∃ t, v = .int (a + (i : Int) * c) t) Inv Q E) (done : ∀ m g nw s', Fr g env.locals s'.heap m → News g env.locals s'.heap nw → Inv n m g nw s' → Q .next s') : FSrc w A env body x Q E (.ref r) s₁ :=
  ⟨m, g, nw, Inv, n, hh, F, N, hInv, hV, done, .inr ⟨r, a, b, c, t, u, v, rfl, hr, hsm, hn, R⟩⟩
theorem fsrc_list {x : Str} {body : List Stmt} {s₁ : Shared} {m : Str → Option Value} {g : Heap} {nw : List (Addr × Obj)} {ax : Addr} {its : Array Value} (Inv : Nat → (Str → Option Value) → Heap → List (Addr × Obj) → Shared → Prop) (hh : A.handled = none) (F : Fr g env.locals s₁.heap m) (N : News g env.locals s₁.heap nw)
    (hInv : ∀ i m g nw s h tk, Inv i m g nw s → Inv i m g nw { s with heap := h, toks := tk }) (hsrc : ∀ i m g nw s, Inv i m g nw s → ∃ k, (ax, ({ cls := .type "list", data := .seq its k } : Obj)) ∈ nw) (hV : Inv 0 m g nw s₁)
    (R : FBody w A env body x its.size (fun i v => its[i]? = some v) Inv Q E) (done : ∀ m g nw s', Fr g env.locals s'.heap m → News g env.locals s'.heap nw → Inv its.size m g nw s' → Q .next s') : FSrc w A env body x Q E (.ref ax) s₁ :=
  ⟨m, g, nw, Inv, its.size, hh, F, N, hInv, hV, done, .inl ⟨ax, its, rfl, rfl, hsrc, R⟩⟩
end
end
-- CRows
section
set_option maxHeartbeats 4000000
open PySem PySem.W PyProof.Rows PySem.Calls PyProof.Rows.LCg
structure RowsIn (nw : List (Addr × Obj)) (vs : List Value) (rows : List (List Nat)) : Prop where
  size : vs.length = rows.length
  at_ : ∀ (i : Nat) (v : Value), vs[i]? = some v → ∃ (a : Nat) (its : Array Value) (k : Nat) (r : List Nat), v = .ref a ∧ rows[i]? = some r ∧ (a, listOf its k) ∈ nw ∧ IntsAre its.toList (r.map Int.ofNat) ∧ @Ne Nat a 753
theorem RowsIn.mono {nw nw' : List (Addr × Obj)} {vs : List Value} {rows : List (List Nat)} (h : RowsIn nw vs rows) (hs : ∀ p ∈ nw, p ∈ nw') : RowsIn nw' vs rows := ⟨h.size, fun i v hv => by
  obtain ⟨a, its, k, r, e1, e2, e3, e4, e5⟩ := h.at_ i v hv
  exact ⟨a, its, k, r, e1, e2, hs _ e3, e4, e5⟩⟩
theorem RowsIn.nil {nw : List (Addr × Obj)} : RowsIn nw [] [] := ⟨rfl, fun i v hv => by simp at hv⟩
theorem RowsIn.app {nw : List (Addr × Obj)} {vs ws : List Value} {rows rows' : List (List Nat)} (h : RowsIn nw vs rows) (h' : RowsIn nw ws rows') : RowsIn nw (vs ++ ws) (rows ++ rows') := ⟨by simp [h.size, h'.size], fun i v hv => by
  by_cases hi : i < vs.length
  · rw [List.getElem?_append_left hi] at hv
    rw [List.getElem?_append_left (by rw [← h.size]; exact hi)]
    exact h.at_ i v hv
  · rw [List.getElem?_append_right (by omega)] at hv
    rw [List.getElem?_append_right (by rw [← h.size]; omega), ← h.size]
    exact h'.at_ _ v hv⟩
theorem RowsIn.one {nw : List (Addr × Obj)} {a k : Nat} {its : Array Value} {r : List Nat} (hm : (a, listOf its k) ∈ nw) (hi : IntsAre its.toList (r.map Int.ofNat)) (hne : @Ne Nat a 753) : RowsIn nw [.ref a] [r] := ⟨rfl, fun i v hv => by
  cases i with
  | zero => injection hv with e; exact ⟨a, its, k, r, e.symm, rfl, hm, hi, hne⟩
  | succ i => simp at hv⟩
noncomputable def frG {g h : Heap} {L : Addr} {m : Str → Option Value} (_ : Fr g L h m) : Heap := g
noncomputable def frL {g h : Heap} {L : Addr} {m : Str → Option Value} (_ : Fr g L h m) : Nat := L
theorem kst_one {m : Str → Option Value} {x : Str} {v : Value} (h : m x = some v) : m = kstB m [(x, v)] := by
  symm
  funext y
  exact kstB_eq (ps := [(x, v)]) (m₁ := m) (fun p hp => by rw [List.mem_singleton.mp hp]; exact h) fun _ => rfl
noncomputable def GrowInv (g₀ : Heap) (nw₀ : List (Addr × Obj)) (s₀ : Shared) (R : Nat → List Value → List (Addr × Obj) → Prop) (i : Nat) (ys : List Value) (g : Heap) (nw : List (Addr × Obj)) (s : Shared) : Prop :=
  g = g₀ ∧ s.gens = s₀.gens ∧ s.os = s₀.os ∧ ∃ Z, nw = Z ++ nw₀ ∧ (∀ p ∈ Z, ∀ q ∈ nw₀, p.1 ≠ q.1) ∧ R i ys Z
theorem GrowInv.stay {g₀ : Heap} {nw₀ : List (Addr × Obj)} {s₀ : Shared} {R : Nat → List Value → List (Addr × Obj) → Prop} : ∀ i ys g nw s h tk, GrowInv g₀ nw₀ s₀ R i ys g nw s → GrowInv g₀ nw₀ s₀ R i ys g nw { s with heap := h, toks := tk } := fun _ _ _ _ _ _ _ h => h
theorem csrc_grow {w : World} {A : Around} {L : Addr} {m : Str → Option Value} {env : Env} {ifs : List Expr} {elt : Expr} {x : Str} {scope : Scope} {cl : List (Str × Addr)} {Fin : Nat → (Nat → List Value → Heap → List (Addr × Obj) → Shared → Prop) → Prop} {s₁ : Shared} {g : Heap} {nw : List (Addr × Obj)} {ax : Addr} {its : Array Value} {k : Nat} (R : Nat → List Value → List (Addr × Obj) → Prop)
    (hh : A.handled = none) (F : Fr g L s₁.heap m) (N : News g L s₁.heap nw) (hm : (ax, listOf its k) ∈ nw) (hsz : its.size ≤ sizeLine) (hR : R 0 [] [])
    (helt : CElt w A L m env ifs elt x scope cl its.size (fun i v => its[i]? = some v) (GrowInv g nw s₁ R)) (hfin : Fin its.size (GrowInv g nw s₁ R)) : CSrc w A L m env ifs elt x scope cl Fin (.ref ax) s₁ :=
  ⟨g, nw, GrowInv g nw s₁ R, hh, F, N, GrowInv.stay, ⟨rfl, rfl, rfl, [], rfl, (fun _ h => nomatch h), hR⟩, .inl ⟨ax, its, rfl, hsz, fun i ys g' nw' s' h => ⟨k, by obtain ⟨_, _, _, Z, e, _⟩ := h; rw [e]; exact List.mem_append_right _ hm⟩, helt, hfin⟩⟩
theorem csrc_growR {w : World} {A : Around} {L : Addr} {m : Str → Option Value} {env : Env} {ifs : List Expr} {elt : Expr} {x : Str} {scope : Scope} {cl : List (Str × Addr)} {Fin : Nat → (Nat → List Value → Heap → List (Addr × Obj) → Shared → Prop) → Prop} {s₁ : Shared} {g : Heap} {nw : List (Addr × Obj)} {r : Addr} {a b : Int} {t u v : Tok} {n : Nat} (R : Nat → List Value → List (Addr × Obj) → Prop)
    (hh : A.handled = none) (F : Fr g L s₁.heap m) (N : News g L s₁.heap nw) (hr : IsRange s₁.heap r a b 1 t u v) (hsm : Builtin.Range.small a b 1 = true) (hn : Builtin.Range.rangeSize a b 1 = ((n : Nat) : Int)) (hsz : n ≤ sizeLine) (hR : R 0 [] [])
    (helt : CElt w A L m env ifs elt x scope cl n (fun i v => ∃ t, v = .int (a + (i : Int)) t) (GrowInv g nw s₁ R)) (hfin : Fin n (GrowInv g nw s₁ R)) : CSrc w A L m env ifs elt x scope cl Fin (.ref r) s₁ :=
  ⟨g, nw, GrowInv g nw s₁ R, hh, F, N, GrowInv.stay, ⟨rfl, rfl, rfl, [], rfl, (fun _ h => nomatch h), hR⟩, .inr ⟨r, a, b, t, u, v, n, rfl, hr, hsm, hn, hsz, helt, hfin⟩⟩
theorem rows_small (n : Nat) (hn : 1 ≤ n ∧ n ≤ 8) : ∀ i, i ≤ n → (rowsTo n i).length ≤ 100 ∧ ∀ r ∈ rowsTo n i, r.length ≤ 8 ∧ ∀ k ∈ r, k ≤ 8 := by
  have h : ((List.range 9).all fun n => (List.range (n + 1)).all fun i => decide ((rowsTo n i).length ≤ 100) && (rowsTo n i).all fun r => decide (r.length ≤ 8) && r.all fun k => decide (k ≤ 8)) = true := by kernel_rfl
  intro i hi
  have h1 := List.all_eq_true.mp (List.all_eq_true.mp h n (List.mem_range.mpr (by omega))) i (List.mem_range.mpr (by omega))
  simp only [Bool.and_eq_true, decide_eq_true_eq, List.all_eq_true] at h1
  exact ⟨h1.1, fun r hr => h1.2 r hr⟩
noncomputable def RowsInv (Lx : Nat) (g₀ : Heap) (s₀ : Shared) (ps : Array Value) (rest : List (Addr × Obj)) (n : Nat) (t : Tok) (i : Nat) (m : Str → Option Value) (g : Heap) (nw : List (Addr × Obj)) (s : Shared) : Prop :=
  g = g₀ ∧ s.gens = s₀.gens ∧ s.os = s₀.os ∧ ∃ (D : Nat) (vs : Array Value) (k : Nat) (on oz : Obj) (Y : List (Addr × Obj)), nw = (D, listOf vs k) :: (Lx + 1 + 1, oz) :: (Lx + 1, on) :: (753, tabO ps) :: Y ∧ (∃ u, m = kstB u [("rows", .ref D)]) ∧ on.data = .cell (some (.int (n : Int) t)) ∧ (∃ vz, oz.data = .cell vz) ∧
    RowsIn Y vs.toList (rowsTo n i) ∧ (∀ p ∈ Y, p.1 ≠ 753) ∧ (∀ p ∈ rest, p ∈ Y) ∧ @Ne Nat D 753 ∧ (∀ p ∈ Y, p.1 ≠ Lx + 1 + 1) ∧ @Ne Nat D (Lx + 1 + 1)
theorem news_rows {g h : Heap} {L : Addr} {a b c d e : Addr × Obj} {l : List (Addr × Obj)} (N : News g L h (a :: b :: c :: d :: e :: l)) : News g L h (a :: c :: d :: e :: b :: l) := fun p hp => N p (by
  simp only [List.mem_cons] at hp ⊢
  rcases hp with hp | hp | hp | hp | hp | hp <;> simp only [hp, true_or, or_true])
theorem sum_ofNat (r : List Nat) : (r.map Int.ofNat).sum = (r.sum : Int) := by
  induction r with
  | nil => rfl
  | cons a r ih => rw [List.map_cons, List.sum_cons, ih, List.sum_cons]; rfl
theorem filt_yes {α β : Type} {l : List α} {P : α → Bool} {f : α → β} {j : Nat} {r : α} (h : l[j]? = some r) (hp : P r = true) : ((l.take (j + 1)).filter P).map f = ((l.take j).filter P).map f ++ [f r] := by
  rw [List.take_add_one, h, List.filter_append, List.map_append]
  simp [hp]
theorem filt_no {α β : Type} {l : List α} {P : α → Bool} {f : α → β} {j : Nat} {r : α} (h : l[j]? = some r) (hp : P r = false) : ((l.take (j + 1)).filter P).map f = ((l.take j).filter P).map f := by
  rw [List.take_add_one, h, List.filter_append, List.map_append]
  simp [hp]
theorem filtq_yes {α : Type} {l : List α} {P : α → Bool} {j : Nat} {r : α} (h : l[j]? = some r) (hp : P r = true) : (l.take (j + 1)).filter P = (l.take j).filter P ++ [r] := by
  rw [List.take_add_one, h, List.filter_append]
  simp [hp]
theorem filtq_no {α : Type} {l : List α} {P : α → Bool} {j : Nat} {r : α} (h : l[j]? = some r) (hp : P r = false) : (l.take (j + 1)).filter P = (l.take j).filter P := by
  rw [List.take_add_one, h, List.filter_append]
  simp [hp]
theorem isList_arr {h : Heap} {g : Heap} {L a : Addr} {nw : List (Addr × Obj)} {its : Array Value} {k : Nat} (N : News g L h nw) (hm : (a, listOf its k) ∈ nw) : h.IsList a its.toList.toArray := ⟨_, (N _ hm).1, rfl, k, by rw [Array.toArray_toList]⟩
noncomputable def p1ne (D : Nat) (q : Addr × Obj) : Prop := @Ne Nat D q.1
section
open KEvalListcomp KExecFor KExecForCall KBinaryopAddRefRef
open KPost in
theorem rows_core (w : World) (gd : Option (List Code)) (ev : Env) (outer : List Env) (A₀ : Around) (base h₀ : Heap) (L : Addr) (m mg mb : Str → Option Value) (mean : ExcName → Option Value) (s : Shared)
    (Q E : Value → Shared → Prop) (B : Below A₀ base outer h₀) (F : Fr h₀ L s.heap m) (X : (Mine.hd.heap_1 w.params).In h₀) (T : Top Mine.qv loose mean mg mb h₀)
    (n : Nat) (hn : 1 ≤ n ∧ n ≤ 8) (t : Tok) (ps : Array Value) (rest : List (Addr × Obj)) (N : News h₀ L s.heap ((753, tabO ps) :: rest)) (h753 : ∀ p ∈ rest, p.1 ≠ 753)
    (hret : ∀ s' (D : Nat) vs k Y, Fr h₀ L s'.heap m → News h₀ L s'.heap ((D, listOf vs k) :: (753, tabO ps) :: Y) → (∀ p ∈ Y, p.1 ≠ 753) → (∀ p ∈ rest, p ∈ Y) → @Ne Nat D 753 → RowsIn Y vs.toList (rowsF n) → s'.gens = s.gens → s'.os = s.os → Q (.ref D) s') :
    wpAny (MM w) (AT 590 gd (some (envK ev L :: outer))) (call (.ref 821) [.int (n : Int) t]) Q E s := by
  walk1
  (try dsimp only)
  refine gen_pass (by first | passes_own | with_unfolding_all passes_own) ?_
  intro QQ EE hQQ hEE hpo
  k_steps
  unfold Hold
  rename Fr _ _ _ _ => F1
  rename News _ _ _ _ => N1
  obtain ⟨Lx, hLx⟩ : ∃ x : Nat, x = frL F1 := ⟨_, rfl⟩
  unfold frL at hLx
  subst hLx
  obtain ⟨gx, hgx⟩ : ∃ x : Heap, x = frG F1 := ⟨_, rfl⟩
  unfold frG at hgx
  subst hgx
  have hq2 : ∀ p ∈ rest, p.1 ≠ Lx + 1 + 1 := allNe_up (And.right (by assumption : 753 < Lx ∧ AllLt Lx rest)) (by omega)
  have hq1 : 753 < Lx := And.left (by assumption : 753 < Lx ∧ AllLt Lx rest)
  refine for_J ?_ hpo (fun _ => rfl)
  k_steps
  rename Fr _ _ _ _ => F2
  rename News _ _ _ _ => N2
  rename IsRange _ _ _ _ _ _ _ _ => hr
  refine fsrc_range (n := n) (RowsInv Lx gx s ps rest n t) rfl F2 (news_rows N2) (fun _ _ _ _ _ _ _ h => h) hr (small_down (by omega) (by omega) (by omega) (by omega)) (by rw [rangeSize_downNat]; omega) ?zero ?body ?done
  case zero =>
    refine ⟨rfl, rfl, rfl, _, #[.ref _], 0, _, _, (_, listOf #[] 0) :: rest, rfl, ⟨_, kst_one rfl⟩, ?_, ?_, ?_, ?_, fun p hp => .tail _ hp, ?_, ?_, ?_⟩
    · assumption
    · exact ⟨_, by assumption⟩
    · exact RowsIn.one (.head _) .nil (by show @Ne Nat _ 753; omega)
    · exact List.forall_mem_cons.mpr ⟨by show @Ne Nat _ 753; omega, h753⟩
    · show @Ne Nat _ 753; omega
    · exact List.forall_mem_cons.mpr ⟨by show @Ne Nat _ _; omega, hq2⟩
    · show @Ne Nat _ _; omega
  case done =>
    intro m2 g nw s2 F3 N3 hV
    obtain ⟨rfl, hg, ho, D, vs, k, on, oz, Y, rfl, ⟨u, rfl⟩, don, ⟨vz, doz⟩, hR, hY1, hY2, hD1, hY3, hD2⟩ := hV
    clear F2 N2
    have hsm := rows_small n hn n (Nat.le_refl _)
    have hvl : vs.size = (rowsTo n n).length := by have := hR.size; simpa using this
    k_steps
    unfold Hold
    refine' comp_JF F3 ?h1 ?h2 ?h3 ?h4 ?h5 ?_ ?h7
    case h1 => with_unfolding_all rfl
    case h2 => decide
    case h3 => rfl
    case h4 => decide
    case h5 => rfl
    case h7 => intro _; rfl
    walk1
    refine csrc_list (its := vs) (k := k) (fun j ys => RowsIn Y ys (((rowsTo n n).take j).filter fun r => r.sum == n)) rfl F3 N3 (.head _) (by rw [hvl, sizeLine_eq]; have := hsm.1; omega) RowsIn.nil ?_ ?_
    · intro j v2 I2 oI2 C oC D2 m₂ g2 nw2 ys s3 E' hj hv2 hC hx F5 N5 off2 ne hV2
      obtain ⟨rfl, rfl, hg2, ho2, hR2⟩ := hV2
      obtain ⟨a, its, kk, r, rfl, hr1, hmem, hints, ha⟩ := hR.at_ j v2 (by rw [← hv2]; exact Array.getElem?_toList)
      have N6 : News g2 Lx s3.heap ((I2, oI2) :: (C, oC) :: (D2, lst ys) :: (a, listOf its kk) :: (D, listOf vs k) :: (Lx + 1 + 1, oz) :: (Lx + 1, on) :: (753, tabO ps) :: Y) := news_sub N5 (sub_cons (.head _) (sub_cons (.tail _ (.head _)) (sub_cons (.tail _ (.tail _ (.head _))) (sub_cons (.tail _ (.tail _ (.tail _ (.tail _ (.tail _ (.tail _ (.tail _ (hmem)))))))) (sub_cons (.tail _ (.tail _ (.tail _ (.head _)))) (sub_cons (.tail _ (.tail _ (.tail _ (.tail _ (.head _))))) (sub_cons (.tail _ (.tail _ (.tail _ (.tail _ (.tail _ (.head _)))))) (sub_cons (.tail _ (.tail _ (.tail _ (.tail _ (.tail _ (.tail _ (.head _))))))) (fun _ h => .tail _ (.tail _ (.tail _ (.tail _ (.tail _ (.tail _ (.tail _ (h))))))))))))))))
      clear N5 F3 N3
      refine wpAny_tests_one ?_
      k_steps
      · have hq9 : (r.map Int.ofNat).sum = (n : Int) := by assumption
        rw [sum_ofNat] at hq9
        rename Fr _ _ _ _ => F7
        rename News _ _ _ _ => N7
        refine ⟨g2, _, F7, news_sub N7 fun p hp => ?_, off2, rfl, rfl, hg2, ho2, ?_⟩
        · exact (sub_keep (sub_keep (sub_keep (sub_tail (sub_self))))) p hp
        · dsimp only
          rw [filtq_yes hr1 (by rw [beq_iff_eq]; omega)]
          exact hR2.app (RowsIn.one hmem hints ha)
      · have hq9 : ¬ (r.map Int.ofNat).sum = (n : Int) := by assumption
        rw [sum_ofNat] at hq9
        rename Fr _ _ _ _ => F7
        rename News _ _ _ _ => N7
        refine ⟨g2, _, F7, news_sub N7 fun p hp => ?_, off2, rfl, rfl, hg2, ho2, ?_⟩
        · exact (sub_keep (sub_keep (sub_keep (sub_tail (sub_self))))) p hp
        · dsimp only
          rw [filtq_no hr1 (by rw [beq_eq_false_iff_ne]; omega)]
          exact hR2
    · intro D2 ys g2 nw2 s3 F5 N5 off2 hV2
      obtain ⟨rfl, rfl, hg2, ho2, hR2⟩ := hV2
      have off3 := off1_mem off2
      clear F3 N3
      k_steps
      rename News _ _ _ _ => Nz
      rw [List.take_of_length_le (Nat.le_of_eq hvl.symm)] at hR2
      refine hret _ D2 ys.toArray ys.length Y (by assumption) (news_sub Nz fun p hp => ?_) hY1 hY2 ?_ hR2 (hg2.trans hg) (ho2.trans ho)
      · exact (sub_cons (.head _) (sub_cons (.tail _ (.tail _ (.tail _ (.tail _ (.head _))))) (fun _ h => .tail _ (.tail _ (.tail _ (.tail _ (.tail _ (h)))))))) p hp
      · exact fun e => off3 (753, tabO ps) (.tail _ (.tail _ (.tail _ (.head _)))) e.symm
  case body =>
    intro i v I oI m2 g nw s2 hi hv F3 N3 off hV
    obtain ⟨rfl, hg, ho, D, vs, k, on, oz, Y, rfl, ⟨u, rfl⟩, don, ⟨vz, doz⟩, hR, hY1, hY2, hD1, hY3, hD2⟩ := hV
    obtain ⟨tv, rfl⟩ := hv
    rw [show (n : Int) + (i : Int) * (-1) = ((n - i : Nat) : Int) from by omega]
    have nI : @Ne Nat I (Lx + 1 + 1) := fun e => off _ (.tail _ (.head _)) e.symm
    clear F2 N2
    k_steps
    unfold Hold
    rename Fr _ _ _ _ => F4
    rename News _ _ _ _ => N4
    rename Obj => oz2
    rename oz2.data = _ => dz2
    have hsm := rows_small n hn i (by omega)
    have hvl : vs.size = (rowsTo n i).length := by have := hR.size; simpa using this
    refine' comp_JF F4 ?h1 ?h2 ?h3 ?h4 ?h5 ?_ ?h7
    case h1 => with_unfolding_all rfl
    case h2 => decide
    case h3 => rfl
    case h4 => decide
    case h5 => rfl
    case h7 => intro _; rfl
    walk1
    refine csrc_grow (its := vs) (k := k) (fun j ys nw => RowsIn nw ys ((((rowsTo n i).take j).filter fun r => decide (r.sum + (n - i) ≤ n)).map (· ++ [n - i]))) rfl F4 N4 (.tail _ (.head _)) (by rw [hvl, sizeLine_eq]; have := hsm.1; omega) RowsIn.nil ?_ ?_
    · intro j v2 I2 oI2 C oC D2 m₂ g2 nw2 ys s3 E' hj hv2 hC hx F5 N5 off2 ne hV2
      obtain ⟨rfl, hg2, ho2, Z, hnw2, new2, hR2⟩ := hV2
      have sub2 : ∀ p ∈ _, p ∈ nw2 := fun p hp => by rw [hnw2]; exact List.mem_append_right Z hp
      obtain ⟨a, its, kk, r, rfl, hr1, hmem, hints, ha⟩ := hR.at_ j v2 (by rw [← hv2]; exact Array.getElem?_toList)
      have hrs := hsm.2 r (List.mem_of_getElem? hr1)
      have N6 : News g2 Lx s3.heap ((I2, oI2) :: (C, oC) :: (D2, lst ys) :: (a, listOf its kk) :: (Lx + 1 + 1, oz2) :: (Lx + 1, on) :: nw2) := news_sub N5 (sub_cons (.head _) (sub_cons (.tail _ (.head _)) (sub_cons (.tail _ (.tail _ (.head _))) (sub_cons (.tail _ (.tail _ (.tail _ (sub2 _ (.tail _ (.tail _ (.tail _ (.tail _ (.tail _ hmem))))))))) (sub_cons (.tail _ (.tail _ (.tail _ (sub2 _ (.tail _ (.tail _ (.head _))))))) (sub_cons (.tail _ (.tail _ (.tail _ (sub2 _ (.tail _ (.tail _ (.tail _ (.head _)))))))) (fun _ h => .tail _ (.tail _ (.tail _ (h))))))))))
      clear N5 F4 N4 F3 N3
      refine wpAny_tests_one ?_
      k_steps
      · unfold Hold
        rename Fr _ _ _ _ => F7
        rename News _ _ _ _ => N7
        rename _ + _ ≤ _ => hle9
        rw [sum_ofNat] at hle9
        refine kmk_add_ints (vs := its.toList) F7 N7 (isList_arr N7 (by k_mem)) ⟨_, (N7 _ (.head _)).1, rfl, _, rfl⟩ hints (.cons _ _ .nil) (fun D9 us h9 F9 N9 l9 hus => ?_) (by rw [sizeLine_eq]; simp; omega)
        have h7 : @LT.lt Nat _ 753 D9 := l9 (753, tabO ps) (.tail _ (.tail _ (.tail _ (.tail _ (.tail _ (.tail _ (.tail _ (sub2 _ (.tail _ (.tail _ (.tail _ (.tail _ (.head _))))))))))))) 
        have n1 : @Ne Nat D9 I2 := fun e => Nat.lt_irrefl D9 (by have := l9 _ (.tail _ (.head _)); rw [e] at this ⊢; exact this)
        have n2 : @Ne Nat D9 C := fun e => Nat.lt_irrefl D9 (by have := l9 _ (.tail _ (.tail _ (.head _))); rw [e] at this ⊢; exact this)
        have n3 : @Ne Nat D9 D2 := fun e => Nat.lt_irrefl D9 (by have := l9 _ (.tail _ (.tail _ (.tail _ (.head _)))); rw [e] at this ⊢; exact this)
        refine ⟨g2, (D9, listOf us.toArray 0) :: nw2, F9, news_sub N9 fun p hp => ?_, ⟨⟨n1, n2, n3⟩, off2⟩, rfl, hg2, ho2, (D9, listOf us.toArray 0) :: Z, by rw [hnw2]; rfl, fun p hp => ?_, ?_⟩
        · exact (sub_cons (.tail _ (.tail _ (.head _))) (sub_cons (.tail _ (.tail _ (.tail _ (.head _)))) (sub_cons (.tail _ (.tail _ (.tail _ (.tail _ (.head _))))) (sub_cons (.head _) (fun _ h => .tail _ (.tail _ (.tail _ (.tail _ (.tail _ (.tail _ (.tail _ (.tail _ (h))))))))))))) p hp
        · rcases List.mem_cons.mp hp with rfl | hp
          · exact fun q hq e => Nat.lt_irrefl D9 (by have := l9 q (.tail _ (.tail _ (.tail _ (.tail _ (.tail _ (.tail _ (.tail _ (sub2 _ hq)))))))); rw [← e] at this; exact this)
          · exact new2 p hp
        · dsimp only
          rw [filt_yes hr1 (decide_eq_true (by omega))]
          refine (hR2.mono fun p hp => .tail _ hp).app (RowsIn.one (.head _) ?_ (by show @Ne Nat D9 753; omega))
          simpa using hus
      · rename ¬ (_ + _ ≤ _) => hle9
        rw [sum_ofNat] at hle9
        rename Fr _ _ _ _ => F7
        rename News _ _ _ _ => N7
        refine ⟨g2, nw2, F7, news_sub N7 fun p hp => ?_, off2, rfl, hg2, ho2, Z, hnw2, new2, ?_⟩
        · exact (sub_keep (sub_keep (sub_keep (sub_tail (sub_tail (sub_tail (sub_self))))))) p hp
        · dsimp only
          rw [filt_no hr1 (decide_eq_false (by omega))]
          exact hR2
    · intro D2 ys g2 nw2 s3 F5 N5 off2 hV2
      obtain ⟨rfl, hg2, ho2, Z, hnw2, new2, hR2⟩ := hV2
      have sub2 : ∀ p ∈ _, p ∈ nw2 := fun p hp => by rw [hnw2]; exact List.mem_append_right Z hp
      have N6 : News g2 Lx s3.heap ((D2, lst ys) :: (I, oI) :: (D, listOf vs k) :: (Lx + 1 + 1, oz2) :: (Lx + 1, on) :: (753, tabO ps) :: nw2) := news_sub N5 fun p hp => by
        rcases List.mem_cons.mp hp with rfl | hp
        · exact .head _
        refine .tail _ ?_
        rcases List.mem_cons.mp hp with rfl | hp
        · exact sub2 _ (.head _)
        rcases List.mem_cons.mp hp with rfl | hp
        · exact sub2 _ (.tail _ (.head _))
        rcases List.mem_cons.mp hp with rfl | hp
        · exact sub2 _ (.tail _ (.tail _ (.head _)))
        rcases List.mem_cons.mp hp with rfl | hp
        · exact sub2 _ (.tail _ (.tail _ (.tail _ (.head _))))
        rcases List.mem_cons.mp hp with rfl | hp
        · exact sub2 _ (.tail _ (.tail _ (.tail _ (.tail _ (.head _)))))
        exact hp
      clear N5 F4 N4 F3 N3
      k_steps
      unfold Hold
      have hys : ys.length ≤ 100 := by
        rw [hR2.size, List.length_map]
        refine Nat.le_trans (List.length_filter_le _ _) ?_
        rw [List.length_take]
        have := hsm.1
        omega
      refine kmk_add_lit (its := vs) (its2 := ys.toArray) F5 N6 ⟨_, (N6 (D, listOf vs k) (by k_mem)).1, rfl, _, rfl⟩ ⟨_, (N6 (D2, lst ys) (.head _)).1, rfl, _, rfl⟩ rfl (fun D9 h9 F9 N9 l9 => ?_) (by rw [sizeLine_eq, Array.length_toList, hvl]; have := hsm.1; simp; omega)
      have l10 := l9
      k_lt l9
      clear F5 N6
      (try dsimp only)
      k_steps
      rename Fr _ _ _ _ => Fz
      rename News _ _ _ _ => Nz
      have nD : ∀ q ∈ ((I, oI) :: (D, listOf vs k) :: (Lx + 1 + 1, oz2) :: (Lx + 1, on) :: (753, tabO ps) :: nw2 : List (Addr × Obj)), p1ne D9 q := fun q hq e => Nat.lt_irrefl D9 (by have := l10 q (.tail _ hq); rw [← e] at this; exact this)
      refine ⟨_, g2, (D9, listOf (vs.toList ++ ys.toArray.toList).toArray 0) :: (Lx + 1 + 1, oz2) :: (Lx + 1, on) :: (753, tabO ps) :: (Z ++ Y), Fz, news_sub Nz fun p hp => ?_, fun p hp => ?_, rfl, hg2.trans hg, ho2.trans ho, D9, _, 0, on, oz2, Z ++ Y, rfl, ⟨_, kst_one rfl⟩, don, ⟨_, dz2⟩, ?_, ?_, fun p hp => List.mem_append_right _ (hY2 p hp), ?_, ?_, ?_⟩
      · simp only [List.mem_cons, List.mem_append] at hp ⊢
        rcases hp with hp | hp | hp | hp | hp | hp | hp
        · exact .inr (.inr (.inl hp))
        · exact .inl hp
        · exact .inr (.inr (.inr (.inr (.inl hp))))
        · exact .inr (.inr (.inr (.inr (.inr (.inl hp)))))
        · exact .inr (.inr (.inr (.inr (.inr (.inr (.inl hp))))))
        · exact .inr (.inr (.inr (.inr (.inr (.inr (.inr (by rw [hnw2]; exact List.mem_append_left _ hp)))))))
        · exact .inr (.inr (.inr (.inr (.inr (.inr (.inr (sub2 _ (.tail _ (.tail _ (.tail _ (.tail _ (.tail _ hp)))))))))))) 
      · simp only [List.mem_cons, List.mem_append] at hp
        rcases hp with rfl | rfl | rfl | rfl | hp | hp
        · exact nD (I, oI) (.head _)
        · exact fun e => nI e.symm
        · exact off (Lx + 1, on) (.tail _ (.tail _ (.head _)))
        · exact off (753, tabO ps) (.tail _ (.tail _ (.tail _ (.head _))))
        · exact new2 p hp (I, oI) (.head _)
        · exact off p (.tail _ (.tail _ (.tail _ (.tail _ hp))))
      · have e : rowsTo n (i + 1) = rowsTo n i ++ ((rowsTo n i).filter fun r => decide (r.sum + (n - i) ≤ n)).map (· ++ [n - i]) := rfl
        rw [e]
        rw [List.take_of_length_le (Nat.le_of_eq hvl.symm)] at hR2
        simpa using (hR.mono fun p hp => List.mem_append_right Z hp).app (hR2.mono fun p hp => List.mem_append_left Y hp)
      · intro p hp
        rcases List.mem_append.mp hp with hp | hp
        · exact new2 p hp (753, tabO ps) (.tail _ (.tail _ (.tail _ (.tail _ (.head _)))))
        · exact hY1 p hp
      · exact nD (753, tabO ps) (.tail _ (.tail _ (.tail _ (.tail _ (.head _)))))
      · intro p hp
        rcases List.mem_append.mp hp with hp | hp
        · exact new2 p hp (Lx + 1 + 1, oz2) (.tail _ (.tail _ (.head _)))
        · exact hY3 p hp
      · exact nD (Lx + 1 + 1, oz2) (.tail _ (.tail _ (.head _)))
end
end
-- CStairs
section
set_option maxHeartbeats 4000000
open PySem PySem.W PyProof.Rows PySem.Calls PyProof.Rows.LCg
theorem range_sz1 {n : Nat} : Builtin.Range.rangeSize 1 ((n : Int) + 1) 1 = ((n : Nat) : Int) := by
  unfold Builtin.Range.rangeSize
  rw [if_pos (by decide)]
  split
  · rw [Int.ediv_one]; omega
  · omega
theorem small_up1 {n : Nat} (h : n ≤ 900) : Builtin.Range.small 1 ((n : Int) + 1) 1 = true := by
  unfold Builtin.Range.small
  rw [range_sz1, fitsL (i := 1) (by decide) (by decide), fitsL (i := (n : Int) + 1) (by omega) (by omega), fitsL (i := (n : Int)) (by omega) (by omega), if_pos (by decide), show (n : Int) + 1 + (1 - 1) = (n : Int) + 1 from by omega, fitsL (i := (n : Int) + 1) (by omega) (by omega)]
  simp
theorem low_test : ∀ i < 8, ∀ n < 9, ((1 + ((i : Nat) : Int)) * (3 * (1 + (i : Int)) - 1) == 2 * ((n : Nat) : Int)) = ((i + 1) * (3 * (i + 1) - 1) == 2 * n) := by decide
theorem high_test : ∀ i < 8, ∀ n < 9, ((1 + ((i : Nat) : Int)) * (3 * (1 + (i : Int)) + 1) == 2 * ((n : Nat) : Int)) = ((i + 1) * (3 * (i + 1) + 1) == 2 * n) := by decide
section
variable {prog : Program} {w : World} {A : Around} {E : Value → Shared → Prop} {s : Shared} {h₀ : Heap} {L : Addr} {m : Str → Option Value} {nw : List (Addr × Obj)}
theorem range_dn {a b : Int} {t u v : Tok} {Q : Value → Shared → Prop} (F : Fr h₀ L s.heap m) (N : News h₀ L s.heap nw) (ha : -1000 ≤ a ∧ a ≤ 1000) (hb : -1000 ≤ b ∧ b ≤ 1000)
    (h : ∀ r h', Fr h₀ L h' m → News h₀ L h' nw → IsRange h' r a b (-1) t u v → Q (.ref r) { s with heap := h', toks := s.toks }) : wpAny (model prog w) A (call (.type "range") [.int a t, .int b u, .int (-1) v]) Q E s := by
  refine call_range_3 (by decide) (h _ _ (F.keeps fun _ _ e => Heap.get?_push_of_some _ e) (N.grown fun _ _ e => Heap.get?_push_of_some _ e) (Heap.get?_push_size _ rfl)) (.inl (PyProof.noPylong_small (by omega)))
theorem list_dn {a b : Int} {t u v : Tok} {r : Addr} {n : Nat} {f : Nat → Nat} {Q : Value → Shared → Prop} (hh : A.handled = none) (F : Fr h₀ L s.heap m) (N : News h₀ L s.heap nw) (hr : IsRange s.heap r a b (-1) t u v) (ha : -1000 ≤ a ∧ a ≤ 1000) (hb : -1000 ≤ b ∧ b ≤ 1000) (hn : (a - b).toNat = n) (hf : ∀ i, i < n → a + (i : Int) * (-1) = ((f i : Nat) : Int))
    (h : ∀ (D : Nat) h' tk vs k, Fr h₀ L h' m → News h₀ L h' ((D, listOf vs k) :: nw) → (∀ p ∈ nw, p.1 < D) → IntsAre vs.toList (((List.range n).map f).map Int.ofNat) → Q (.ref D) { s with heap := h', toks := tk }) : wpAny (model prog w) A (call (.type "list") [.ref r]) Q E s := by
  refine call_list_range hh hr (small_down (by omega) (by omega) (by omega) (by omega)) (by rw [rangeSize_downNat, hn]) (by omega) fun h' tk acc c hk hg hI => ?_
  have F' := F.keeps hk
  refine h s.heap.objs.size h' tk acc c F' (fun p hp => ?_) (fun p hp => Heap.lt_size (N p hp).1) ?_
  · rcases List.mem_cons.mp hp with rfl | hp
    · exact ⟨hg, Ne.symm (Nat.ne_of_lt F.ns.lt), next_is_new F⟩
    · exact ⟨hk _ _ (N p hp).1, (N p hp).2⟩
  · obtain ⟨hs, hv⟩ := hI
    have key : ∀ (k : Nat) (l : List Value) (g : Nat → Int), l.length = k → (∀ (j : Nat) (v : Value), l[j]? = some v → ∃ t, v = .int (g j) t) → IntsAre l ((List.range k).map g) := by
      intro k
      induction k with
      | zero => intro l g hl _; rw [List.length_eq_zero_iff.mp hl]; exact .nil
      | succ k ih =>
        intro l g hl hg
        cases l with
        | nil => cases hl
        | cons x l =>
          obtain ⟨t, rfl⟩ := hg 0 x rfl
          rw [List.range_succ_eq_map, List.map_cons, List.map_map]
          exact .cons _ _ (ih l (g ∘ Nat.succ) (by simpa using hl) fun j v hj => hg (j + 1) v hj)
    have := key n acc.toList (fun i => a + (i : Int) * (-1)) (by simpa using hs) fun j v hj => hv j v (by rw [← hj]; exact Array.getElem?_toList.symm)
    rw [List.map_map]
    rw [show (List.range n).map (Int.ofNat ∘ f) = (List.range n).map fun (i : Nat) => a + (i : Int) * (-1) from List.map_congr_left fun i hi => (hf i (List.mem_range.mp hi)).symm]
    exact this
end
section
open KEvalListcomp KExecAssignConsListcomp KCallTypeList KBinaryopAddRefRef
local macro_rules | `(tactic| walk_at "call type:range") => `(tactic| ((with_reducible show wpAny _ _ (call (Value.type "range") [_, _, _]) _ _ _); (refine hold ?_)))
open KPost in
theorem stairs_core (w : World) (gd : Option (List Code)) (ev : Env) (outer : List Env) (A₀ : Around) (base h₀ : Heap) (L : Addr) (m mg mb : Str → Option Value) (mean : ExcName → Option Value) (s : Shared)
    (Q E : Value → Shared → Prop) (B : Below A₀ base outer h₀) (F : Fr h₀ L s.heap m) (X : (Mine.hd.heap_1 w.params).In h₀) (T : Top Mine.qv loose mean mg mb h₀)
    (n : Nat) (hn : 1 ≤ n ∧ n ≤ 8) (t : Tok) (ps : Array Value) (rest : List (Addr × Obj)) (N : News h₀ L s.heap ((753, tabO ps) :: rest)) (h753 : ∀ p ∈ rest, p.1 ≠ 753)
    (hret : ∀ s' (D : Nat) vs k Y, Fr h₀ L s'.heap m → News h₀ L s'.heap ((D, listOf vs k) :: (753, tabO ps) :: Y) → (∀ p ∈ Y, p.1 ≠ 753) → (∀ p ∈ rest, p ∈ Y) → @Ne Nat D 753 → RowsIn Y vs.toList (stairsF n) → s'.gens = s.gens → s'.os = s.os → Q (.ref D) s') :
    wpAny (MM w) (AT 590 gd (some (envK ev L :: outer))) (call (.ref 826) [.int (n : Int) t]) Q E s := by
  walk1
  (try dsimp only)
  refine gen_pass (by first | passes_own | with_unfolding_all passes_own) ?_
  intro QQ EE hQQ hEE hpo
  k_steps
  unfold Hold
  rename Fr _ _ _ _ => F1
  rename News _ _ _ _ => N1
  obtain ⟨Lx, hLx⟩ : ∃ x : Nat, x = frL F1 := ⟨_, rfl⟩
  unfold frL at hLx
  subst hLx
  refine' comp_JAF F1 ?l1 ?l2 ?h1 ?h2 ?h3 ?h4 ?h5 ?h6 ?h7 ?_ ?h9
  case l1 => rfl
  case l2 => with_unfolding_all rfl
  case h1 => with_unfolding_all rfl
  case h2 => decide
  case h3 => rfl
  case h4 => decide
  case h5 => rfl
  case h6 => rfl
  case h7 => rfl
  case h9 => intro _; rfl
  k_steps
  rename Fr _ _ _ _ => F2
  rename News _ _ _ _ => N2
  rename IsRange _ _ _ _ _ _ _ _ => hr
  rename Obj => oN
  refine csrc_growR (n := n) (fun j ys nw => RowsIn nw ys (((List.range j).filter fun i => (i + 1) * (3 * (i + 1) - 1) == 2 * n).map fun i => (List.range (i + 1)).map fun j => 2 * (i + 1) - 1 - j)) rfl F2 N2 hr (small_up1 (by omega)) range_sz1 (by rw [sizeLine_eq]; omega) RowsIn.nil ?_ ?_
  · intro j v2 I2 oI2 C oC D2 m₂ g2 nw2 ys s3 E' hj hv2 hC hx F5 N5 off2 ne hV2
    obtain ⟨rfl, hg2, ho2, Z, hnw2, new2, hR2⟩ := hV2
    have sub2 : ∀ p ∈ _, p ∈ nw2 := fun p hp => by rw [hnw2]; exact List.mem_append_right Z hp
    obtain ⟨tv, rfl⟩ := hv2
    have N6 : News g2 Lx s3.heap ((I2, oI2) :: (C, oC) :: (D2, lst ys) :: (Lx + 1, oN) :: nw2) := news_sub N5 (sub_cons (.head _) (sub_cons (.tail _ (.head _)) (sub_cons (.tail _ (.tail _ (.head _))) (sub_cons (.tail _ (.tail _ (.tail _ (sub2 _ (.head _))))) (fun _ h => .tail _ (.tail _ (.tail _ (h))))))))
    clear N5 F2 N2
    have hlt := low_test j (by omega) n (by omega)
    refine wpAny_tests_one ?_
    cases hb : ((1 + ((j : Nat) : Int)) * (3 * (1 + (j : Int)) - 1) == 2 * ((n : Nat) : Int)) with
    | true =>
      k_steps
      unfold Hold
      refine range_dn F5 N6 (by omega) (by omega) fun r9 h8 F8 N8 hr8 => ?_
      clear F5 N6
      (try dsimp only)
      k_steps
      unfold Hold
      refine list_dn (n := j + 1) (f := fun i => 2 * (j + 1) - 1 - i) rfl F8 N8 hr8 (by omega) (by omega) (by omega) (fun i hi => by omega) fun D9 h9 tk9 us kk F9 N9 l9 hus => ?_
      have n1 : @Ne Nat D9 I2 := fun e => Nat.lt_irrefl D9 (by have := l9 (I2, oI2) (.head _); rw [← e] at this; exact this)
      have n2 : @Ne Nat D9 C := fun e => Nat.lt_irrefl D9 (by have := l9 (C, oC) (.tail _ (.head _)); rw [← e] at this; exact this)
      have n3 : @Ne Nat D9 D2 := fun e => Nat.lt_irrefl D9 (by have := l9 (D2, lst ys) (.tail _ (.tail _ (.head _))); rw [← e] at this; exact this)
      have nw9 : ∀ q ∈ nw2, @Ne Nat D9 q.1 := fun q hq e => Nat.lt_irrefl D9 (by have := l9 q (.tail _ (.tail _ (.tail _ (.tail _ hq)))); rw [← e] at this; exact this)
      refine ⟨g2, (D9, listOf us kk) :: nw2, F9, news_sub N9 fun p hp => ?_, ⟨⟨n1, n2, n3⟩, off2⟩, rfl, hg2, ho2, (D9, listOf us kk) :: Z, by rw [hnw2]; rfl, fun p hp => ?_, ?_⟩
      · exact (sub_cons (.tail _ (.head _)) (sub_cons (.tail _ (.tail _ (.head _))) (sub_cons (.tail _ (.tail _ (.tail _ (.head _)))) (sub_cons (.head _) (fun _ h => .tail _ (.tail _ (.tail _ (.tail _ (.tail _ (h)))))))))) p hp
      · rcases List.mem_cons.mp hp with rfl | hp
        · exact fun q hq => nw9 q (sub2 q hq)
        · exact new2 p hp
      · dsimp only
        rw [List.range_succ, List.filter_append, List.map_append, List.filter_cons, if_pos (by rw [← hlt]; exact hb)]
        exact (hR2.mono fun p hp => .tail _ hp).app (RowsIn.one (.head _) hus (nw9 (753, tabO ps) (sub2 _ (.tail _ (.head _)))))
    | false =>
      k_steps
      refine ⟨g2, nw2, F5, news_sub N6 fun p hp => ?_, off2, rfl, hg2, ho2, Z, hnw2, new2, ?_⟩
      · exact (sub_keep (sub_keep (sub_keep (sub_tail (sub_self))))) p hp
      · dsimp only
        rw [List.range_succ, List.filter_append, List.filter_cons, if_neg (by rw [← hlt, hb]; decide)]
        simpa using hR2
  · intro D2 ys g2 nw2 s3 F5 N5 off2 hV2
    obtain ⟨rfl, hg2, ho2, Z, hnw2, new2, hR2⟩ := hV2
    have sub2 : ∀ p ∈ _, p ∈ nw2 := fun p hp => by rw [hnw2]; exact List.mem_append_right Z hp
    have off3 := off1_mem off2
    have N6 : News g2 Lx s3.heap ((D2, lst ys) :: (Lx + 1, oN) :: (753, tabO ps) :: nw2) := news_sub N5 (sub_cons (.head _) (sub_cons (.tail _ (sub2 _ (.head _))) (sub_cons (.tail _ (sub2 _ (.tail _ (.head _)))) (fun _ h => .tail _ (h)))))
    have hys : ys.length ≤ 8 := by
      rw [hR2.size, List.length_map]
      refine Nat.le_trans (List.length_filter_le _ _) ?_
      rw [List.length_range]
      omega
    clear N5 F2 N2
    have F6 := F5
    clear F5
    k_steps
    unfold Hold
    refine' comp_JF F6 ?h1 ?h2 ?h3 ?h4 ?h5 ?_ ?h7
    case h1 => with_unfolding_all rfl
    case h2 => decide
    case h3 => rfl
    case h4 => decide
    case h5 => rfl
    case h7 => intro _; rfl
    k_steps
    rename Fr _ _ _ _ => F2
    rename News _ _ _ _ => N2
    rename IsRange _ _ _ _ _ _ _ _ => hr
    refine csrc_growR (n := n) (fun j ys nw => RowsIn nw ys (((List.range j).filter fun i => (i + 1) * (3 * (i + 1) + 1) == 2 * n).map fun i => (List.range (i + 1)).map fun j => 2 * (i + 1) - j)) rfl F2 N2 hr (small_up1 (by omega)) range_sz1 (by rw [sizeLine_eq]; omega) RowsIn.nil ?_ ?_
    · intro j v2 I2 oI2 C oC D4 m₂ g4 nw4 zs s5 E' hj hv2 hC hx F5 N5 off4 ne hV4
      obtain ⟨rfl, hg4, ho4, Z4, hnw4, new4, hR4⟩ := hV4
      have sub4 : ∀ p ∈ _, p ∈ nw4 := fun p hp => by rw [hnw4]; exact List.mem_append_right Z4 hp
      obtain ⟨tv, rfl⟩ := hv2
      have N7 : News g4 Lx s5.heap ((I2, oI2) :: (C, oC) :: (D4, lst zs) :: (Lx + 1, oN) :: nw4) := news_sub N5 (sub_cons (.head _) (sub_cons (.tail _ (.head _)) (sub_cons (.tail _ (.tail _ (.head _))) (sub_cons (.tail _ (.tail _ (.tail _ (sub4 _ (.tail _ (.head _)))))) (fun _ h => .tail _ (.tail _ (.tail _ (h))))))))
      clear N5
      have hlt := high_test j (by omega) n (by omega)
      refine wpAny_tests_one ?_
      cases hb : ((1 + ((j : Nat) : Int)) * (3 * (1 + (j : Int)) + 1) == 2 * ((n : Nat) : Int)) with
      | true =>
        k_steps
        unfold Hold
        refine range_dn F5 N7 (by omega) (by omega) fun r9 h8 F8 N8 hr8 => ?_
        clear F5 N7
        (try dsimp only)
        k_steps
        unfold Hold
        refine list_dn (n := j + 1) (f := fun i => 2 * (j + 1) - i) rfl F8 N8 hr8 (by omega) (by omega) (by omega) (fun i hi => by omega) fun D9 h9 tk9 us kk F9 N9 l9 hus => ?_
        have n1 : @Ne Nat D9 I2 := fun e => Nat.lt_irrefl D9 (by have := l9 (I2, oI2) (.head _); rw [← e] at this; exact this)
        have n2 : @Ne Nat D9 C := fun e => Nat.lt_irrefl D9 (by have := l9 (C, oC) (.tail _ (.head _)); rw [← e] at this; exact this)
        have n3 : @Ne Nat D9 D4 := fun e => Nat.lt_irrefl D9 (by have := l9 (D4, lst zs) (.tail _ (.tail _ (.head _))); rw [← e] at this; exact this)
        have nw9 : ∀ q ∈ nw4, @Ne Nat D9 q.1 := fun q hq e => Nat.lt_irrefl D9 (by have := l9 q (.tail _ (.tail _ (.tail _ (.tail _ hq)))); rw [← e] at this; exact this)
        refine ⟨g4, (D9, listOf us kk) :: nw4, F9, news_sub N9 fun p hp => ?_, ⟨⟨n1, n2, n3⟩, off4⟩, rfl, hg4, ho4, (D9, listOf us kk) :: Z4, by rw [hnw4]; rfl, fun p hp => ?_, ?_⟩
        · exact (sub_cons (.tail _ (.head _)) (sub_cons (.tail _ (.tail _ (.head _))) (sub_cons (.tail _ (.tail _ (.tail _ (.head _)))) (sub_cons (.head _) (fun _ h => .tail _ (.tail _ (.tail _ (.tail _ (.tail _ (h)))))))))) p hp
        · rcases List.mem_cons.mp hp with rfl | hp
          · exact fun q hq => nw9 q (sub4 q hq)
          · exact new4 p hp
        · dsimp only
          rw [List.range_succ, List.filter_append, List.map_append, List.filter_cons, if_pos (by rw [← hlt]; exact hb)]
          exact (hR4.mono fun p hp => .tail _ hp).app (RowsIn.one (.head _) hus (nw9 (753, tabO ps) (sub4 _ (.tail _ (.tail _ (.head _))))))
      | false =>
        k_steps
        refine ⟨g4, nw4, F5, news_sub N7 fun p hp => ?_, off4, rfl, hg4, ho4, Z4, hnw4, new4, ?_⟩
        · exact (sub_keep (sub_keep (sub_keep (sub_tail (sub_self))))) p hp
        · dsimp only
          rw [List.range_succ, List.filter_append, List.filter_cons, if_neg (by rw [← hlt, hb]; decide)]
          simpa using hR4

    · intro D4 zs g4 nw4 s5 F5 N5 off4 hV4
      obtain ⟨rfl, hg4, ho4, Z4, hnw4, new4, hR4⟩ := hV4
      have sub4 : ∀ p ∈ _, p ∈ nw4 := fun p hp => by rw [hnw4]; exact List.mem_append_right Z4 hp
      have N7 : News g4 Lx s5.heap ((D4, lst zs) :: (D2, lst ys) :: (753, tabO ps) :: nw4) := news_sub N5 (sub_cons (.head _) (sub_cons (.tail _ (sub4 _ (.head _))) (sub_cons (.tail _ (sub4 _ (.tail _ (.tail _ (.head _))))) (fun _ h => .tail _ (h)))))
      have hzs : zs.length ≤ 8 := by
        rw [hR4.size, List.length_map]
        refine Nat.le_trans (List.length_filter_le _ _) ?_
        rw [List.length_range]
        omega
      clear N5
      k_steps
      unfold Hold
      refine kmk_add_lit (its := ys.toArray) (its2 := zs.toArray) F5 N7 ⟨_, (N7 (D2, lst ys) (.tail _ (.head _))).1, rfl, _, rfl⟩ ⟨_, (N7 (D4, lst zs) (.head _)).1, rfl, _, rfl⟩ rfl (fun D9 h9 F9 N9 l9 => ?_) (by rw [sizeLine_eq]; simp; omega)
      clear F5 N7
      (try dsimp only)
      k_steps
      rename News _ _ _ _ => Nz
      refine hret _ D9 (ys.toArray.toList ++ zs.toArray.toList).toArray 0 (Z4 ++ (Z ++ rest)) (by assumption) (news_sub Nz fun p hp => ?_) (fun p hp => ?_) (fun p hp => List.mem_append_right _ (List.mem_append_right _ hp)) ?_ ?_ (hg4.trans hg2) (ho4.trans ho2)
      · simp only [List.mem_cons, List.mem_append] at hp ⊢
        rcases hp with hp | hp | hp | hp | hp
        · exact .inl hp
        · exact .inr (.inr (.inr (.inl hp)))
        · exact .inr (.inr (.inr (.inr (by rw [hnw4]; exact List.mem_append_left _ hp))))
        · exact .inr (.inr (.inr (.inr (sub4 _ (.tail _ (.tail _ (.tail _ (by rw [hnw2]; exact List.mem_append_left _ hp)))))))) 
        · exact .inr (.inr (.inr (.inr (sub4 _ (.tail _ (.tail _ (.tail _ (sub2 _ (.tail _ (.tail _ hp))))))))))
      · rcases List.mem_append.mp hp with hp | hp
        · exact new4 p hp (753, tabO ps) (.tail _ (.tail _ (.head _)))
        rcases List.mem_append.mp hp with hp | hp
        · exact new2 p hp (753, tabO ps) (.tail _ (.head _))
        · exact h753 p hp
      · exact fun e => Nat.lt_irrefl D9 (by have := l9 (753, tabO ps) (.tail _ (.tail _ (.head _))); rw [← e] at this; exact this)
      · have e : stairsF n = lowF n ++ highF n := rfl
        rw [e]
        unfold lowF highF
        simpa using (hR2.mono fun p hp => List.mem_append_right Z4 (List.mem_append_left rest hp)).app (hR4.mono fun p hp => List.mem_append_left (Z ++ rest) hp)
end
end
-- CEq
section
set_option maxHeartbeats 4000000
open PySem PySem.W PyProof.Rows PySem.Calls PyProof.Rows.LCg PySem.MeetsSeq PySem.SeqAt
theorem ints_uniq : ∀ {l : List Value} {a b : List Int}, IntsAre l a → IntsAre l b → a = b
  | _, _, _, .nil, .nil => rfl
  | _, _, _, .cons _ _ h, .cons _ _ h' => by rw [ints_uniq h h']
theorem map_ofNat_inj {a b : List Nat} (h : a.map Int.ofNat = b.map Int.ofNat) : a = b := (List.map_inj_right fun x y e => Int.ofNat.inj e).mp h
theorem all_range_eq {a b : List Nat} (hl : a.length = b.length) : ((List.range a.length).all fun j => ((a.getD j 0 : Nat) : Int) == ((b.getD j 0 : Nat) : Int)) = decide (a = b) := by
  rw [Bool.eq_iff_iff, List.all_eq_true, decide_eq_true_eq]
  refine ⟨fun h => List.ext_getElem hl fun i h1 h2 => ?_, fun h j _ => by rw [h]; exact beq_self_eq_true _⟩
  have := h i (List.mem_range.mpr h1)
  rw [beq_iff_eq] at this
  simp only [List.getD_eq_getElem?_getD, List.getElem?_eq_getElem h1, List.getElem?_eq_getElem h2, Option.getD_some] at this
  omega
section
variable {A : Around} {s : Shared} {g : Heap} {L : Addr} {nw : List (Addr × Obj)}
theorem same_list (N : News g L s.heap nw) {a : Addr} {its its2 : Array Value} {k k2 : Nat} (h1 : (a, listOf its k) ∈ nw) (h2 : (a, listOf its2 k2) ∈ nw) : its = its2 := by
  have e : some (listOf its k) = some (listOf its2 k2) := (N _ h1).1.symm.trans (N _ h2).1
  injection e with e
  injection e with _ _ e
  injection e
theorem row_eqAt (N : News g L s.heap nw) {a b : Addr} {its its2 : Array Value} {k k2 : Nat} {r r2 : List Nat} (ha : (a, listOf its k) ∈ nw) (hb : (b, listOf its2 k2) ∈ nw) (hi : IntsAre its.toList (r.map Int.ofNat)) (hj : IntsAre its2.toList (r2.map Int.ofNat)) (hu : A.units < cLine) : EqAt A s (.ref b) (.ref a) (decide (r2 = r)) := by
  have l1 : its.size = r.length := by have := hi.length; simpa using this
  have l2 : its2.size = r2.length := by have := hj.length; simpa using this
  by_cases e : b = a
  · subst e
    have := same_list N ha hb
    subst this
    rw [decide_eq_true (map_ofNat_inj (ints_uniq hj hi))]
    exact EqAt.same _
  · refine EqAt.of_refs e ?_
    have hla : s.heap.IsList a its := ⟨_, (N _ ha).1, rfl, _, rfl⟩
    have hlb : s.heap.IsList b its2 := ⟨_, (N _ hb).1, rfl, _, rfl⟩
    by_cases hsz : its2.size = its.size
    · have := RcAt.lists (A := A) (e := fun j => ((r2.getD j 0 : Nat) : Int) == ((r.getD j 0 : Nat) : Int)) hlb hla hsz hu fun j h1 h2 => by
        obtain ⟨t1, e1⟩ := ints_get hj (i := j) (k := ((r2.getD j 0 : Nat) : Int)) (by rw [List.getElem?_map, List.getElem?_eq_getElem (by omega), List.getD_eq_getElem?_getD, List.getElem?_eq_getElem (by omega)]; rfl)
        obtain ⟨t2, e2⟩ := ints_get hi (i := j) (k := ((r.getD j 0 : Nat) : Int)) (by rw [List.getElem?_map, List.getElem?_eq_getElem (by omega), List.getD_eq_getElem?_getD, List.getElem?_eq_getElem (by omega)]; rfl)
        rw [Array.getElem?_eq_getElem h1] at e1
        rw [Array.getElem?_eq_getElem h2] at e2
        rw [Option.some.inj e1, Option.some.inj e2]
        exact EqAt.int_int _ _ _ _
      rw [l2, all_range_eq (by omega)] at this
      exact this
    · rw [decide_eq_false (fun q => hsz (by rw [l1, l2, q]))]
      exact RcAt.lists_lengths hlb hla (by simpa using hsz) hu
open Classical in
theorem row_notIn {prog : Program} {w : World} {E Q : Value → Shared → Prop} (N : News g L s.heap nw) {a D : Addr} {its vs : Array Value} {k kd : Nat} {r : List Nat} {rows : List (List Nat)} (ha : (a, listOf its k) ∈ nw) (hD : (D, listOf vs kd) ∈ nw) (hi : IntsAre its.toList (r.map Int.ofNat)) (hR : RowsIn nw vs.toList rows) (hu : A.units + 8 < cLine)
    (h : Q (.bool (!rows.contains r)) s) : wpAny (model prog w) A (compareOp .NotIn (.ref a) (.ref D)) Q E s := by
  have key : ∀ (i : Nat) (y : Value), vs[i]? = some y → ∃ (b : Nat) (its2 : Array Value) (k2 : Nat) (r2 : List Nat), y = .ref b ∧ rows[i]? = some r2 ∧ (b, listOf its2 k2) ∈ nw ∧ IntsAre its2.toList (r2.map Int.ofNat) := fun i y hy => by
    obtain ⟨b, its2, k2, r2, e1, e2, e3, e4, _⟩ := hR.at_ i y (by rw [← hy]; exact Array.getElem?_toList)
    exact ⟨b, its2, k2, r2, e1, e2, e3, e4⟩
  let e : Value → Bool := fun y => decide (∃ (b : Addr) (its2 : Array Value) (k2 : Nat), y = .ref b ∧ (b, listOf its2 k2) ∈ nw ∧ IntsAre its2.toList (r.map Int.ofNat))
  have he : ∀ (b : Addr) (its2 : Array Value) (k2 : Nat) (r2 : List Nat), (b, listOf its2 k2) ∈ nw → IntsAre its2.toList (r2.map Int.ofNat) → e (.ref b) = decide (r2 = r) := fun b its2 k2 r2 hm hj => by
    show decide _ = decide _
    rw [decide_eq_decide]
    refine ⟨fun ⟨b', its', k', e1, e2, e3⟩ => ?_, fun q => ⟨b, its2, k2, rfl, hm, q ▸ hj⟩⟩
    injection e1 with e1
    subst e1
    have := same_list N hm e2
    subst this
    exact map_ofNat_inj (ints_uniq hj e3)
  refine notIn_listAt e ⟨_, (N _ hD).1, rfl, _, rfl⟩ (fun y hy => ?_) ?_
  · obtain ⟨i, hi', hy⟩ := Array.mem_iff_getElem.mp hy
    obtain ⟨b, its2, k2, r2, rfl, _, e3, e4⟩ := key i y (by rw [← hy]; exact Array.getElem?_eq_getElem hi')
    rw [he b its2 k2 r2 e3 e4]
    exact row_eqAt N ha e3 hi e4 (by show A.units + 1 < cLine; omega)
  · have : vs.any e = rows.contains r := by
      rw [Bool.eq_iff_iff, Array.any_eq_true, List.contains_iff_mem]
      constructor
      · rintro ⟨i, hi', hy⟩
        obtain ⟨b, its2, k2, r2, e1, e2, e3, e4⟩ := key i vs[i] (Array.getElem?_eq_getElem hi')
        rw [e1, he b its2 k2 r2 e3 e4, decide_eq_true_eq] at hy
        exact hy ▸ List.mem_of_getElem? e2
      · intro hm
        obtain ⟨i, hi', hr⟩ := List.mem_iff_getElem.mp hm
        have hsz : i < vs.size := by have := hR.size; simp at this; omega
        obtain ⟨b, its2, k2, r2, e1, e2, e3, e4⟩ := key i vs[i] (Array.getElem?_eq_getElem hsz)
        refine ⟨i, hsz, ?_⟩
        rw [e1, he b its2 k2 r2 e3 e4, decide_eq_true_eq]
        rw [List.getElem?_eq_getElem hi'] at e2
        exact (Option.some.inj e2).symm.trans hr
    rw [this]
    exact h
end
section
variable {A : Around} {s : Shared}
theorem strs_eqAt {a b : Addr} {va vb : Array Value} {ts : List Str} (hl : s.heap.IsList a va) (hb : s.heap.IsList b vb) (h1 : StrsAre va.toList ts) (h2 : StrsAre vb.toList ts) (hu : A.units < cLine) : EqAt A s (.ref a) (.ref b) true := by
  by_cases e : a = b
  · subst e
    exact EqAt.same _
  · refine EqAt.of_refs e ?_
    have l1 : va.size = ts.length := by have := StrsAre.length h1; simpa using this
    have l2 : vb.size = ts.length := by have := StrsAre.length h2; simpa using this
    have := RcAt.lists (A := A) (e := fun _ => true) hl hb (by rw [l1, l2]) hu fun j q1 q2 => by
      obtain ⟨t1, e1⟩ := StrsAre.get h1 j (ts[j]'(by omega)) (List.getElem?_eq_getElem _)
      obtain ⟨t2, e2⟩ := StrsAre.get h2 j (ts[j]'(by omega)) (List.getElem?_eq_getElem _)
      have e1' : va[j]? = some (.str (ts[j]'(by omega)) t1) := by rw [← e1]; exact Array.getElem?_toList.symm
      have e2' : vb[j]? = some (.str (ts[j]'(by omega)) t2) := by rw [← e2]; exact Array.getElem?_toList.symm
      rw [Array.getElem?_eq_getElem q1] at e1'
      rw [Array.getElem?_eq_getElem q2] at e2'
      rw [Option.some.inj e1', Option.some.inj e2']
      have := EqAt.str_str (A := A.in1) (s := s) (ts[j]'(by omega)) t1 (ts[j]'(by omega)) t2
      rw [beq_self_eq_true] at this
      exact this
    rw [List.all_eq_true.mpr (fun _ _ => rfl)] at this
    exact this
theorem pair_ne {prog : Program} {w : World} {E Q : Value → Shared → Prop} {D Dt l1 y De D6 : Addr} {v1 v2 v3 v4 : Array Value} {t1 t2 : List Str} (ht : s.heap.IsTuple D #[.ref l1, .ref y]) (ht2 : s.heap.IsTuple Dt #[.ref De, .ref D6])
    (i1 : s.heap.IsList l1 v1) (i2 : s.heap.IsList y v2) (i3 : s.heap.IsList De v3) (i4 : s.heap.IsList D6 v4) (h1 : StrsAre v1.toList t1) (h2 : StrsAre v2.toList t2) (h3 : StrsAre v3.toList t1) (h4 : StrsAre v4.toList t2) (hu : A.units + 8 < cLine)
    (h : Q (.bool false) s) : wpAny (model prog w) A (compareOp .NotEq (.ref D) (.ref Dt)) Q E s := by
  refine cmp_ofNotEq ?_
  have hu1 : A.in1.units < cLine := by show A.units + 1 < cLine; omega
  have := RcNeAt.tuples (A := A) (e := fun _ => true) ht ht2 (by omega) fun j q1 q2 => by
    match j, q1, q2 with
    | 0, _, _ => exact strs_eqAt i1 i3 h1 h3 hu1
    | 1, _, _ => exact strs_eqAt i2 i4 h2 h4 hu1
    | j + 2, q1, _ => simp at q1; omega
  exact this prog w E Q h
end
end
-- CPair
section
set_option maxHeartbeats 4000000
open PySem PySem.W PyProof.Rows PySem.Calls PyProof.Rows.LCg
section
variable {w : World} {A A₀ : Around} {env : Env} {outer : List Env} {base h₀ : Heap} {L : Addr} {m mg mb : Str → Option Value} {mean : ExcName → Option Value} {s : Shared} {Q E : Value → Shared → Prop} {nw : List (Addr × Obj)} {n : Nat} {t : Tok} {ps : Array Value}
theorem rows_use (hA : A.frames = some (env :: outer)) (hf : env.frame = some L) (hk : env.scope.kind = .function) (B : Below A₀ base outer h₀) (F : Fr h₀ L s.heap m) (X : (Mine.hd.heap_1 w.params).In h₀) (T : Top Mine.qv loose mean mg mb h₀)
    (N : News h₀ L s.heap nw) (m2 : (753, tabO ps) ∈ nw) (hn : 1 ≤ n ∧ n ≤ 8)
    (hret : ∀ s' (D : Nat) vs k Y, Fr h₀ L s'.heap m → News h₀ L s'.heap ((D, listOf vs k) :: (753, tabO ps) :: Y) → (∀ p ∈ Y, p.1 ≠ 753) → (∀ p ∈ nw, p.1 ≠ 753 → p ∈ Y) → @Ne Nat D 753 → RowsIn Y vs.toList (rowsF n) → s'.gens = s.gens → s'.os = s.os → Q (.ref D) s')
    (lvl : Lvl A 590 0) :
    wpAny (MM w) A (call (.ref 821) [.int (n : Int) t]) Q E s := by
  rw [envK_eq hf hk] at hA
  refine to_AT 590 lvl.1 lvl.2.1 lvl.2.2 hA ?_
  have e1 : ∀ p ∈ nw.filter (fun p => !decide (p.1 = 753)), p ∈ nw ∧ p.1 ≠ 753 := fun p hp => by simpa using List.mem_filter.mp hp
  refine rows_core w _ _ _ _ _ _ _ _ _ _ _ _ _ _ B F X T n hn t ps (nw.filter (fun p => !decide (p.1 = 753))) (news_sub N fun p hp => ?_) (fun p hp => (e1 p hp).2)
    fun s' D vs k Y c1 c2 c3 c4 c5 c6 c7 c8 => hret s' D vs k Y c1 c2 c3 (fun p hp hne => c4 p (List.mem_filter.mpr ⟨hp, by simp [hne]⟩)) c5 c6 c7 c8
  rcases List.mem_cons.mp hp with rfl | hp
  · exact m2
  · exact (e1 p hp).1
theorem stairs_use (hA : A.frames = some (env :: outer)) (hf : env.frame = some L) (hk : env.scope.kind = .function) (B : Below A₀ base outer h₀) (F : Fr h₀ L s.heap m) (X : (Mine.hd.heap_1 w.params).In h₀) (T : Top Mine.qv loose mean mg mb h₀)
    (N : News h₀ L s.heap nw) (m2 : (753, tabO ps) ∈ nw) (hn : 1 ≤ n ∧ n ≤ 8)
    (hret : ∀ s' (D : Nat) vs k Y, Fr h₀ L s'.heap m → News h₀ L s'.heap ((D, listOf vs k) :: (753, tabO ps) :: Y) → (∀ p ∈ Y, p.1 ≠ 753) → (∀ p ∈ nw, p.1 ≠ 753 → p ∈ Y) → @Ne Nat D 753 → RowsIn Y vs.toList (stairsF n) → s'.gens = s.gens → s'.os = s.os → Q (.ref D) s')
    (lvl : Lvl A 590 0) :
    wpAny (MM w) A (call (.ref 826) [.int (n : Int) t]) Q E s := by
  rw [envK_eq hf hk] at hA
  refine to_AT 590 lvl.1 lvl.2.1 lvl.2.2 hA ?_
  have e1 : ∀ p ∈ nw.filter (fun p => !decide (p.1 = 753)), p ∈ nw ∧ p.1 ≠ 753 := fun p hp => by simpa using List.mem_filter.mp hp
  refine stairs_core w _ _ _ _ _ _ _ _ _ _ _ _ _ _ B F X T n hn t ps (nw.filter (fun p => !decide (p.1 = 753))) (news_sub N fun p hp => ?_) (fun p hp => (e1 p hp).2)
    fun s' D vs k Y c1 c2 c3 c4 c5 c6 c7 c8 => hret s' D vs k Y c1 c2 c3 (fun p hp hne => c4 p (List.mem_filter.mpr ⟨hp, by simp [hne]⟩)) c5 c6 c7 c8
  rcases List.mem_cons.mp hp with rfl | hp
  · exact m2
  · exact (e1 p hp).1
end
section
variable {w : World} {A A₀ : Around} {env : Env} {outer : List Env} {base h₀ : Heap} {L : Addr} {m mg mb : Str → Option Value} {mean : ExcName → Option Value} {s : Shared} {Q E : Value → Shared → Prop} {nw : List (Addr × Obj)}
theorem uld_use {x y n1 n2 : Nat} {vs av : Array Value} {ks os res : List Str} (hA : A.frames = some (env :: outer)) (hf : env.frame = some L) (hk : env.scope.kind = .function) (B : Below A₀ base outer h₀) (F : Fr h₀ L s.heap m) (X : (Mine.hd.heap_1 w.params).In h₀) (T : Top Mine.qv loose mean mg mb h₀)
    (N : News h₀ L s.heap nw) (mx : (x, listOf vs n1) ∈ nw) (my : (y, listOf av n2) ∈ nw) (hxy : @Ne Nat y x) (hp : UP res ⟨vs, n1, av, n2, ks, os⟩)
    (hret : ∀ h' tk' (D l1 : Nat) rv k1 k2, Fr h₀ L h' m → News h₀ L h' ((D, { cls := .type "tuple", data := .seq #[.ref l1, .ref y] }) :: (l1, listOf #[] k1) :: (y, listOf rv k2) :: nw.filter (fun p => !decide (p.1 = x) && !decide (p.1 = y))) → StrsAre rv.toList res → Q (.ref D) { s with heap := h', toks := tk' })
    (lvl : Lvl A 590 0) :
    wpAny (MM w) A (call (.ref 780) [.ref x, .ref y]) Q E s := by
  rw [envK_eq hf hk] at hA
  refine to_AT 590 lvl.1 lvl.2.1 lvl.2.2 hA ?_
  have e1 : ∀ p ∈ nw.filter (fun p => !decide (p.1 = x) && !decide (p.1 = y)), p ∈ nw ∧ p.1 ≠ x ∧ p.1 ≠ y := fun p hp => by simpa using List.mem_filter.mp hp
  refine uld_core w _ _ _ _ _ _ _ _ _ _ _ _ _ _ B F X T x y n1 n2 vs av ks os res hp (nw.filter (fun p => !decide (p.1 = x) && !decide (p.1 = y))) (news_sub N fun p hp => ?_) hxy (fun p hp => (e1 p hp).2.1) (fun p hp => (e1 p hp).2.2)
    fun h' tk' D l1 rv k1 k2 n1' c1 c2 c3 c4 c5 c6 c7 => hret h' tk' D l1 rv k1 k2 c1 (news_sub c2 fun p hp => ?_) c3
  · rcases List.mem_cons.mp hp with rfl | hp
    · exact my
    rcases List.mem_cons.mp hp with rfl | hp
    · exact mx
    exact (e1 p hp).1
  · simp only [List.mem_cons] at hp ⊢
    rcases hp with hp | hp | hp | hp <;> simp only [hp, true_or, or_true]
end
/-- a list and a cell are not at one place -/
theorem list_not_cell {g h : Heap} {L : Addr} {nw : List (Addr × Obj)} (N : News g L h nw) {a b : Addr} {its : Array Value} {k : Nat} {o : Obj} {v : Option Value} (ha : (a, listOf its k) ∈ nw) (hb : (b, o) ∈ nw) (hd : o.data = .cell v) : a ≠ b := fun e => by
  have h1 := (N _ ha).1
  have h2 := (N _ hb).1
  rw [e] at h1
  have : some (listOf its k) = some o := h1.symm.trans h2
  injection this with this
  rw [← this] at hd
  cases hd
theorem rows_filter {Y : List (Addr × Obj)} {vs : List Value} {rows : List (List Nat)} (h : RowsIn Y vs rows) (P : Nat → Bool) (hP : ∀ (a : Nat) its k, (a, listOf its k) ∈ Y → P a = true) : RowsIn (Y.filter fun p => P p.1) vs rows := ⟨h.size, fun i v hv => by
  obtain ⟨a, its, k, r, e1, e2, e3, e4, e5⟩ := h.at_ i v hv
  exact ⟨a, its, k, r, e1, e2, List.mem_filter.mpr ⟨e3, hP a its k e3⟩, e4, e5⟩⟩
noncomputable def offC (L a : Nat) : Bool := !(a == L + 1) && !(a == L + 1 + 1) && !(a == L + 1 + 1 + 1)
theorem offC_mem {L : Nat} {Y : List (Addr × Obj)} : ∀ p ∈ Y.filter (fun p => offC L p.1), p ∈ Y ∧ p.1 ≠ L + 1 ∧ p.1 ≠ L + 1 + 1 ∧ p.1 ≠ L + 1 + 1 + 1 := fun p hp => by
  obtain ⟨h1, h2⟩ := List.mem_filter.mp hp
  unfold offC at h2
  simp only [Bool.and_eq_true, Bool.not_eq_true', beq_eq_false_iff_ne] at h2
  exact ⟨h1, h2.1.1, h2.1.2, h2.2⟩
theorem offC_of {L a : Nat} (h1 : a ≠ L + 1) (h2 : a ≠ L + 1 + 1) (h3 : a ≠ L + 1 + 1 + 1) : offC L a = true := by
  unfold offC
  simp [h1, h2, h3]
theorem fmod2 (k : Nat) : ((k : Nat) : Int).fmod 2 = ((k % 2 : Nat) : Int) := by
  rw [Int.fmod_eq_emod_of_nonneg _ (by decide)]
  rfl
theorem rowsF_small (n : Nat) (hn : 1 ≤ n ∧ n ≤ 8) : (rowsF n).length ≤ 100 ∧ (stairsF n).length ≤ 100 ∧ (∀ r ∈ rowsF n, goodB r = true ∨ (stairsF n).contains r = true) ∧ (∀ r ∈ rowsF n, sizesB r = true) ∧ ∀ r ∈ stairsF n, sizesB r = true := by
  have h : ((List.range 9).all fun n => n == 0 || (decide ((rowsF n).length ≤ 100) && decide ((stairsF n).length ≤ 100) && ((rowsF n).all fun r => goodB r || (stairsF n).contains r) && ((rowsF n).all sizesB) && (stairsF n).all sizesB)) = true := by kernel_rfl
  have h1 := List.all_eq_true.mp h n (List.mem_range.mpr (by omega))
  have h0 : (n == 0) = false := by rw [beq_eq_false_iff_ne]; omega
  rw [h0, Bool.false_or] at h1
  simp only [Bool.and_eq_true, decide_eq_true_eq, List.all_eq_true, Bool.or_eq_true] at h1
  exact ⟨h1.1.1.1.1, h1.1.1.1.2, h1.1.1.2, h1.1.2, h1.2⟩
noncomputable def PInv (w : World) (A₀ : Around) (base : Heap) (outer : List Env) (mean : ExcName → Option Value) (mg mb : Str → Option Value) (Lx : Nat) (g₀ : Heap) (s₀ : Shared) (D1 D2 k1 k2 : Nat) (vs1 vs2 : Array Value) (oT oI : Obj) (Z : List (Addr × Obj)) (_i : Nat) (m : Str → Option Value) (g : Heap) (nw : List (Addr × Obj)) (s : Shared) : Prop :=
  KtsTurn (outer.filterMap (·.frame)) g₀ g ∧ Below A₀ base outer g ∧ (Mine.hd.heap_1 w.params).In g ∧ Top Mine.qv loose mean mg mb g ∧ KtsDicts (outer.filterMap (·.frame)) g ∧ s.os = s₀.os ∧ AllBare s.gens ∧
   ∃ ps oS, TabJ ps ∧ nw = (D2, listOf vs2 k2) :: (D1, listOf vs1 k1) :: (Lx + 1 + 1 + 1, oS) :: (Lx + 1 + 1, oT) :: (Lx + 1, oI) :: (753, tabO ps) :: Z ∧ (∃ vz, oS.data = .cell vz) ∧ ∃ u, m = kstB u [("rows", .ref D1)]
noncomputable def JInv (w : World) (A₀ : Around) (base : Heap) (outer : List Env) (mean : ExcName → Option Value) (mg mb : Str → Option Value) (g₀ : Heap) (X : List (Addr × Obj)) (s₀ : Shared) (R : Nat → List Value → Prop) (i : Nat) (ys : List Value) (g : Heap) (nw : List (Addr × Obj)) (s : Shared) : Prop :=
  KtsTurn (outer.filterMap (·.frame)) g₀ g ∧ Below A₀ base outer g ∧ (Mine.hd.heap_1 w.params).In g ∧ Top Mine.qv loose mean mg mb g ∧ KtsDicts (outer.filterMap (·.frame)) g ∧ s.os = s₀.os ∧ AllBare s.gens ∧ ∃ ps, TabJ ps ∧ nw = (753, tabO ps) :: X ∧ R i ys
theorem csrc_J {w : World} {A A₀ : Around} {base : Heap} {outer : List Env} {mean : ExcName → Option Value} {mg mb : Str → Option Value} {L : Addr} {m : Str → Option Value} {env : Env} {ifs : List Expr} {elt : Expr} {x : Str} {scope : Scope} {cl : List (Str × Addr)} {Fin : Nat → (Nat → List Value → Heap → List (Addr × Obj) → Shared → Prop) → Prop} {s₁ : Shared} {g : Heap} {X : List (Addr × Obj)} {ps : Array Value} {ax : Addr} {its : Array Value} {k : Nat} (R : Nat → List Value → Prop)
    (hh : A.handled = none) (F : Fr g L s₁.heap m) (N : News g L s₁.heap ((753, tabO ps) :: X)) (hm : (ax, listOf its k) ∈ X) (hsz : its.size ≤ sizeLine) (B : Below A₀ base outer g) (XX : (Mine.hd.heap_1 w.params).In g) (T : Top Mine.qv loose mean mg mb g) (D : KtsDicts (outer.filterMap (·.frame)) g) (hAB : AllBare s₁.gens) (hJ : TabJ ps) (hR : R 0 [])
    (helt : CElt w A L m env ifs elt x scope cl its.size (fun i v => its[i]? = some v) (JInv w A₀ base outer mean mg mb g X s₁ R)) (hfin : Fin its.size (JInv w A₀ base outer mean mg mb g X s₁ R)) : CSrc w A L m env ifs elt x scope cl Fin (.ref ax) s₁ :=
  ⟨g, _, JInv w A₀ base outer mean mg mb g X s₁ R, hh, F, N, fun _ _ _ _ _ _ _ h => h, ⟨KtsTurn.refl, B, XX, T, D, rfl, hAB, ps, hJ, rfl, hR⟩, .inl ⟨ax, its, rfl, hsz, fun i ys g' nw' s' h => ⟨k, by obtain ⟨_, _, _, _, _, _, _, _, _, rfl, _⟩ := h; exact .tail _ hm⟩, helt, hfin⟩⟩
theorem news_front {g h : Heap} {L : Addr} {a b c d e f k : Addr × Obj} {l : List (Addr × Obj)} (N : News g L h (a :: b :: c :: d :: e :: f :: k :: (753, tabO ps) :: l)) : News g L h ((753, tabO ps) :: a :: b :: c :: d :: e :: f :: k :: l) := fun p hp => N p (by
  simp only [List.mem_cons] at hp ⊢
  rcases hp with hp | hp | hp | hp | hp | hp | hp | hp | hp <;> simp only [hp, true_or, or_true])
theorem strs_snoc1 {ys : List Value} {ts : List Str} {x : Str} {t : Tok} (h : StrsAre ys ts) : StrsAre (ys ++ [Value.str x t]) (ts ++ [x]) := strsAre_append h (.cons x t .nil)
section
theorem KCPair.callHeld {M : Model} {A : Around} {f : Addr} {as : List Value} {Q E : Value → Shared → Prop} {s : Shared} (hf : held f [821, 826, 799, 804, 780] = true) (h : Hold (wpAny M A (call (.ref f) as) Q E s)) : wpAny M A (call (.ref f) as) Q E s := call_hold hf h
open KPost KCompareopNotinRefRef KCompareopNoteqRefRef KEvalListcomp KExecAssignConsListcomp KExecFor KExecForCall KCPair
theorem pair_core (w : World) (gd : Option (List Code)) (ev : Env) (outer : List Env) (A₀ : Around) (base h₀ : Heap) (L : Addr) (m mg mb : Str → Option Value) (mean : ExcName → Option Value) (s : Shared)
    (Q E : Value → Shared → Prop) (B : Below A₀ base outer h₀) (F : Fr h₀ L s.heap m) (X : (Mine.hd.heap_1 w.params).In h₀) (T : Top Mine.qv loose mean mg mb h₀) (XB : (Mine.hd.heap_1 w.params).In base) (TB : Top Mine.qv loose mean mg mb base) (D : KtsDicts (outer.filterMap (·.frame)) h₀)
    (n c : Nat) (hn : 1 ≤ n ∧ n ≤ 8) (hc : c ∈ [120, 37, 126, 35]) (t u : Tok) (ps : Array Value) (rest : List (Addr × Obj)) (N : News h₀ L s.heap ((753, tabO ps) :: rest)) (h753 : ∀ p ∈ rest, p.1 ≠ 753) (hJ : TabJ ps) (hAB : AllBare s.gens)
    (hret : ∀ g s' ps', KtsTurn (outer.filterMap (·.frame)) h₀ g → Fr g L s'.heap m → News g L s'.heap ((753, tabO ps') :: rest) → Below A₀ base outer g → (Mine.hd.heap_1 w.params).In g → Top Mine.qv loose mean mg mb g → KtsDicts (outer.filterMap (·.frame)) g →
      TabJ ps' → AllBare s'.gens → s'.os = s.os → Q (.bool true) s') :
    wpAny (MM w) (AT 380 gd (some (envK ev L :: outer))) (call (.ref 831) [.int (n : Int) t, .str (inkS c) u]) Q E s := by
  refine wpAny_call ?_
  refine' code_SC (env := envK ev L) ?k1 ?k2 ?k3 ?k4 ?k5 ?kX ?kT ?kD ?kA ?kF ?kK ?k6 ?k7 ?k8 ?k9 ?kB ?kN ?_ ?c2 ?c3 ?c4
  case kA => exact rfl
  case kF => exact rfl
  case kK => exact rfl
  case k1 => exact B
  case k2 => exact F
  case k3 => exact X
  case k4 => exact N
  case k5 => exact T
  case kX => exact XB
  case kT => exact TB
  case kD => exact D
  case k6 => k_is
  case k7 => k_is
  case k8 => k_room
  case k9 => exact BindsTo.of_eq rfl
  case kB => exact rfl
  case kN => decide +kernel
  case c2 => exact rfl
  case c3 => exact rfl
  case c4 => exact rfl
  intro g' L' h' tk' cells' FG' F' N' Y' B' X' T' l1 D'
  have hlL : @LT.lt Nat _ 753 L' := l1 (753, tabO ps) (.head _)
  have hLr : ∀ p ∈ rest, p.1 < L' := fun p hp => l1 p (.tail _ hp)
  k_cells Y'
  (try simp only [List.cons_append, List.nil_append] at N')
  (try dsimp only)
  (try k_fold)
  rename_i oS oT oI dS dT dI
  refine gen_pass (by first | passes_own | with_unfolding_all passes_own) ?_
  intro QQ EE hQQ hEE hpo
  k_steps
  unfold Hold
  rename Fr _ _ _ _ => F1
  rename News _ _ _ _ => N1
  refine rows_use (lvl := lvO rfl rfl rfl) rfl rfl rfl (by assumption) F1 (by assumption) (by assumption) N1 (by k_mem) hn fun s2 D1 vs1 k1 Y1 F2 N2 hY1 hs1 hD1 hR1 hg2 ho2 => ?_
  have mS : (L' + 1 + 1 + 1, oS) ∈ Y1 := hs1 _ (by k_mem) (by show @Ne Nat _ _; omega)
  have mT : (L' + 1 + 1, oT) ∈ Y1 := hs1 _ (by k_mem) (by show @Ne Nat _ _; omega)
  have mI : (L' + 1, oI) ∈ Y1 := hs1 _ (by k_mem) (by show @Ne Nat _ _; omega)
  have mr : ∀ p ∈ rest, p ∈ Y1 := fun p hp => hs1 p (.tail _ (.tail _ (.tail _ (.tail _ hp)))) (h753 p hp)
  have n1S : @Ne Nat D1 (L' + 1 + 1 + 1) := list_not_cell N2 (.head _) (.tail _ (.tail _ mS)) dS
  have n1T : @Ne Nat D1 (L' + 1 + 1) := list_not_cell N2 (.head _) (.tail _ (.tail _ mT)) dT
  have n1I : @Ne Nat D1 (L' + 1) := list_not_cell N2 (.head _) (.tail _ (.tail _ mI)) dI
  have hR1' := rows_filter hR1 (offC L') fun a its k hm => offC_of (list_not_cell N2 (.tail _ (.tail _ hm)) (.tail _ (.tail _ mI)) dI) (list_not_cell N2 (.tail _ (.tail _ hm)) (.tail _ (.tail _ mT)) dT) (list_not_cell N2 (.tail _ (.tail _ hm)) (.tail _ (.tail _ mS)) dS)
  obtain ⟨Z1, hZ1⟩ : ∃ z, z = Y1.filter (fun p => offC L' p.1) := ⟨_, rfl⟩
  rw [← hZ1] at hR1'
  have hz1 : ∀ p ∈ Z1, p ∈ Y1 ∧ p.1 ≠ L' + 1 ∧ p.1 ≠ L' + 1 + 1 ∧ p.1 ≠ L' + 1 + 1 + 1 := by rw [hZ1]; exact offC_mem
  have mz1 : ∀ p ∈ rest, p ∈ Z1 := fun p hp => by
    have q := hLr p hp
    rw [hZ1]
    exact List.mem_filter.mpr ⟨mr p hp, offC_of (Nat.ne_of_lt (Nat.lt_succ_of_lt q)) (Nat.ne_of_lt (Nat.lt_succ_of_lt (Nat.lt_succ_of_lt q))) (Nat.ne_of_lt (Nat.lt_succ_of_lt (Nat.lt_succ_of_lt (Nat.lt_succ_of_lt q))))⟩
  have N3 : News g' L' s2.heap ((D1, listOf vs1 k1) :: (L' + 1 + 1 + 1, oS) :: (L' + 1 + 1, oT) :: (L' + 1, oI) :: (753, tabO ps) :: Z1) := news_sub N2 (sub_cons (.head _) (sub_cons (.tail _ (.tail _ (mS))) (sub_cons (.tail _ (.tail _ (mT))) (sub_cons (.tail _ (.tail _ (mI))) (sub_cons (.tail _ (.head _)) (fun p h => .tail _ (.tail _ ((hz1 p h).1))))))))
  have hz753 : ∀ p ∈ Z1, p.1 ≠ 753 := fun p hp => hY1 p (hz1 p hp).1
  clear N2 hR1 hs1 mS mT mI mr N1 F1
  (try dsimp only)
  k_steps
  unfold Hold
  rename Fr _ _ _ _ => F4
  rename News _ _ _ _ => N4
  refine stairs_use (lvl := lvO rfl rfl rfl) rfl rfl rfl (by assumption) F4 (by assumption) (by assumption) N4 (by k_mem) hn fun s5 D2 vs2 k2 Y2 F5 N5 hY2 hs2 hD2 hR2 hg5 ho5 => ?_
  have mD : (D1, listOf vs1 k1) ∈ Y2 := hs2 _ (by k_mem) hD1
  have mS : (L' + 1 + 1 + 1, oS) ∈ Y2 := hs2 _ (by k_mem) (by show @Ne Nat _ _; omega)
  have mT : (L' + 1 + 1, oT) ∈ Y2 := hs2 _ (by k_mem) (by show @Ne Nat _ _; omega)
  have mI : (L' + 1, oI) ∈ Y2 := hs2 _ (by k_mem) (by show @Ne Nat _ _; omega)
  have n2S : @Ne Nat D2 (L' + 1 + 1 + 1) := list_not_cell N5 (.head _) (.tail _ (.tail _ mS)) dS
  have n2T : @Ne Nat D2 (L' + 1 + 1) := list_not_cell N5 (.head _) (.tail _ (.tail _ mT)) dT
  have n2I : @Ne Nat D2 (L' + 1) := list_not_cell N5 (.head _) (.tail _ (.tail _ mI)) dI
  have hc2 : ∀ (a : Nat) its k, (a, listOf its k) ∈ Y2 → offC L' a = true := fun a its k hm => offC_of (list_not_cell N5 (.tail _ (.tail _ hm)) (.tail _ (.tail _ mI)) dI) (list_not_cell N5 (.tail _ (.tail _ hm)) (.tail _ (.tail _ mT)) dT) (list_not_cell N5 (.tail _ (.tail _ hm)) (.tail _ (.tail _ mS)) dS)
  have hR2' := rows_filter hR2 (offC L') hc2
  have hR1'' := rows_filter (hR1'.mono fun p hp => hs2 p (.tail _ (.tail _ (.tail _ (.tail _ (.tail _ hp))))) (hz753 p hp)) (offC L') hc2
  obtain ⟨Z2, hZ2⟩ : ∃ z, z = Y2.filter (fun p => offC L' p.1) := ⟨_, rfl⟩
  rw [← hZ2] at hR2' hR1''
  have hz2 : ∀ p ∈ Z2, p ∈ Y2 ∧ p.1 ≠ L' + 1 ∧ p.1 ≠ L' + 1 + 1 ∧ p.1 ≠ L' + 1 + 1 + 1 := by rw [hZ2]; exact offC_mem
  have mz2 : ∀ p ∈ rest, p ∈ Z2 := fun p hp => by
    rw [hZ2]
    have q := hz1 p (mz1 p hp)
    exact List.mem_filter.mpr ⟨hs2 p (.tail _ (.tail _ (.tail _ (.tail _ (.tail _ (mz1 p hp)))))) (h753 p hp), offC_of q.2.1 q.2.2.1 q.2.2.2⟩
  have N6 : News g' L' s5.heap ((D2, listOf vs2 k2) :: (D1, listOf vs1 k1) :: (L' + 1 + 1 + 1, oS) :: (L' + 1 + 1, oT) :: (L' + 1, oI) :: (753, tabO ps) :: Z2) := news_sub N5 (sub_cons (.head _) (sub_cons (.tail _ (.tail _ (mD))) (sub_cons (.tail _ (.tail _ (mS))) (sub_cons (.tail _ (.tail _ (mT))) (sub_cons (.tail _ (.tail _ (mI))) (sub_cons (.tail _ (.head _)) (fun p h => .tail _ (.tail _ ((hz2 p h).1)))))))))
  have hw753 : ∀ p ∈ Z2, p.1 ≠ 753 := fun p hp => hY2 p (hz2 p hp).1
  have hwT : ∀ p ∈ Z2, p.1 ≠ L' + 1 + 1 := fun p hp => (hz2 p hp).2.2.1
  have hwS : ∀ p ∈ Z2, p.1 ≠ L' + 1 + 1 + 1 := fun p hp => (hz2 p hp).2.2.2
  clear N5 hR2 hs2 mS mT mI mD N4 F4 hc2 hR1'
  (try dsimp only)
  k_steps
  unfold Hold
  rename Obj => oT2
  rename oT2.data = _ => dT2
  rename Fr _ _ _ _ => F7
  refine for_J ?_ hpo (fun _ => rfl)
  k_steps
  rename Fr _ _ _ _ => F8
  rename News _ _ _ _ => N8
  rename IsRange _ _ _ _ _ _ _ _ => hr
  refine fsrc_range (n := 2) (PInv w (AT 380 gd (some (envK ev L :: outer))) base (envK ev L :: outer) mean mg mb L' g' s D1 D2 k1 k2 vs1 vs2 oT2 oI Z2) rfl F8 N8 (fun _ _ _ _ _ _ _ h => h) hr (by decide +kernel) (by decide +kernel) ?zero ?body ?done
  case zero =>
    refine ⟨KtsTurn.refl, by assumption, by assumption, by assumption, by assumption, ho5.trans ho2, ?_, ps, oS, hJ, rfl, ⟨_, dS⟩, _, kst_one rfl⟩
    show AllBare s5.gens
    rw [hg5]
    show AllBare s2.gens
    rw [hg2]
    exact hAB
  case done =>
    intro m9 g9 nw9 s9 F9 N9 hV
    obtain ⟨TT, BB, XX, PP, DD, hos, hgs, ps7, oS7, hJ7, rfl, ⟨vz, dS7⟩, u7, rfl⟩ := hV
    clear F8 N8 B' X' T' D'
    k_steps
    rename News _ _ _ _ => Nz
    refine hret _ _ ps7 (by assumption) (by assumption) (news_sub Nz fun p hp => ?_) (by assumption) (by assumption) (by assumption) (by assumption) hJ7 hgs hos
    rcases List.mem_cons.mp hp with rfl | hp
    · repeat (first | exact .head _ | refine List.Mem.tail _ ?_)
    · have := mz2 p hp
      repeat (first | exact this | refine List.Mem.tail _ ?_)
  case body =>
    intro i v I oJ m2 g nw s7 hi hv F9 N9 off hV
    obtain ⟨TT, BB, XX, PP, DD, hos, hgs, ps7, oS7, hJ7, rfl, ⟨vz, dS7⟩, u7, rfl⟩ := hV
    obtain ⟨tv, rfl⟩ := hv
    rw [show (0 : Int) + (i : Int) * 1 = ((i : Nat) : Int) from by omega]
    have nIS : @Ne Nat I (L' + 1 + 1 + 1) := fun e => off _ (.tail _ (.tail _ (.head _))) e.symm
    clear F8 N8 B' X' T' D'
    k_steps
    unfold Hold
    rename Obj => oS8
    rename oS8.data = _ => dS8
    rename Fr _ _ _ _ => F10
    rename News _ _ _ _ => N10
    refine' comp_JAF F10 ?l1 ?l2 ?h1 ?h2 ?h3 ?h4 ?h5 ?h6 ?h7 ?_ ?h9
    case l1 => rfl
    case l2 => with_unfolding_all rfl
    case h1 => with_unfolding_all rfl
    case h2 => decide
    case h3 => rfl
    case h4 => decide
    case h5 => rfl
    case h6 => rfl
    case h7 => rfl
    case h9 => intro _; rfl
    walk1
    obtain ⟨hlr, hls, hgo, hsr, hss⟩ := rowsF_small n hn
    have hv1l : vs1.size = (rowsF n).length := by have := hR1''.size; simpa using this
    refine csrc_list (its := vs1) (k := k1) (fun j ys => RowsIn Z2 ys (((rowsF n).take j).filter fun r => r.length % 2 == i && !(stairsF n).contains r)) rfl F10 N10 (by k_mem) ?_ RowsIn.nil ?_ ?_
    · rw [hv1l, sizeLine_eq]; omega
    · intro j v2 I2 oI2 C oC D3 m₂ g2 nw2 ys s3 E' hj hv2 hC hx F5 N5 off2 ne hV2
      obtain ⟨rfl, rfl, hg2, ho2, hR2⟩ := hV2
      obtain ⟨a, its, kk, r, rfl, hr1, hmem, hints, ha⟩ := hR1''.at_ j v2 (by rw [← hv2]; exact Array.getElem?_toList)
      have N6 : News g2 L' s3.heap ((I2, oI2) :: (C, oC) :: (D3, lst ys) :: (a, listOf its kk) :: (I, oJ) :: (D2, listOf vs2 k2) :: (D1, listOf vs1 k1) :: (L' + 1 + 1 + 1, oS8) :: (L' + 1 + 1, oT2) :: (L' + 1, oI) :: (753, tabO ps7) :: Z2) := news_sub N5 (sub_cons (.head _) (sub_cons (.tail _ (.head _)) (sub_cons (.tail _ (.tail _ (.head _))) (sub_cons (.tail _ (.tail _ (.tail _ (.tail _ (.tail _ (.tail _ (.tail _ (.tail _ (.tail _ (.tail _ (hmem))))))))))) (fun _ h => .tail _ (.tail _ (.tail _ (h))))))))
      clear N5 F10 N10 F9 N9
      have hrl : r.length ≤ 20 := (sizesB_ok (hsr r (List.mem_of_getElem? hr1))).1.len
      refine wpAny_tests_one ?_
      k_steps
      · unfold Hold
        rename Fr _ _ _ _ => F6
        rename News _ _ _ _ => N7
        have hq9 : (((r.map Int.ofNat).length : Nat) : Int).fmod 2 = ((i : Nat) : Int) := by assumption
        rw [fmod2, List.length_map] at hq9
        have hq8 : (r.length % 2 == i) = true := by rw [beq_iff_eq]; omega
        refine' row_notIn (a := a) ?rN ?r1 ?r2 hints ?r3 ?r4 ?_
        case rN => exact N7
        case r1 => k_mem
        case r2 => k_mem
        case r3 => exact hR2'.mono fun p hp => by repeat (first | exact hp | refine List.Mem.tail _ ?_)
        case r4 => exact Nat.le_of_ble_eq_true rfl
        (try dsimp only)
        cases hcn : (stairsF n).contains r with
        | true =>
          k_steps
          refine ⟨g2, _, F6, news_sub N7 fun p hp => ?_, off2, rfl, rfl, hg2, ho2, ?_⟩
          · exact (sub_keep (sub_keep (sub_keep (sub_tail (sub_self))))) p hp
          · dsimp only
            rw [filtq_no hr1 (by rw [hq8, hcn]; rfl)]
            exact hR2
        | false =>
          k_steps
          refine ⟨g2, _, F6, news_sub N7 fun p hp => ?_, off2, rfl, rfl, hg2, ho2, ?_⟩
          · exact (sub_keep (sub_keep (sub_keep (sub_tail (sub_self))))) p hp
          · dsimp only
            rw [filtq_yes hr1 (by rw [hq8, hcn]; rfl)]
            exact hR2.app (RowsIn.one hmem hints ha)
      · have hq9 : ¬ (((r.map Int.ofNat).length : Nat) : Int).fmod 2 = ((i : Nat) : Int) := by assumption
        rw [fmod2, List.length_map] at hq9
        have hq8 : (r.length % 2 == i) = false := by rw [beq_eq_false_iff_ne]; omega
        rename Fr _ _ _ _ => F7
        rename News _ _ _ _ => N7
        refine ⟨g2, _, F7, news_sub N7 fun p hp => ?_, off2, rfl, rfl, hg2, ho2, ?_⟩
        · exact (sub_keep (sub_keep (sub_keep (sub_tail (sub_self))))) p hp
        · dsimp only
          rw [filtq_no hr1 (by rw [hq8]; rfl)]
          exact hR2
    · intro D3 ys3 g2 nw2 s3 F5 N5 off2 hV2
      obtain ⟨rfl, rfl, hg2, ho2, hR3⟩ := hV2
      have off3 := off1_mem off2
      rw [List.take_of_length_le (Nat.le_of_eq hv1l.symm)] at hR3
      clear F10 N10 F9 N9
      k_steps
      unfold Hold
      refine' comp_JAF F5 ?l1 ?l2 ?h1 ?h2 ?h3 ?h4 ?h5 ?h6 ?h7 ?_ ?h9
      case l1 => rfl
      case l2 => with_unfolding_all rfl
      case h1 => with_unfolding_all rfl
      case h2 => decide
      case h3 => rfl
      case h4 => decide
      case h5 => rfl
      case h6 => rfl
      case h7 => rfl
      case h9 => intro _; rfl
      walk1
      have n3 : @Ne Nat D3 753 := fun e => off3 (753, tabO ps7) (by repeat (first | exact .head _ | refine List.Mem.tail _ ?_)) e.symm
      have hX7 : ∀ p ∈ ((D3, lst ys3) :: (I, oJ) :: (D2, listOf vs2 k2) :: (D1, listOf vs1 k1) :: (L' + 1 + 1 + 1, oS8) :: (L' + 1 + 1, oT2) :: (L' + 1, oI) :: Z2 : List (Addr × Obj)), p.1 ≠ 753 := by
        refine List.forall_mem_cons.mpr ⟨n3, List.forall_mem_cons.mpr ⟨fun e => off (753, tabO ps7) (by repeat (first | exact .head _ | refine List.Mem.tail _ ?_)) e.symm, List.forall_mem_cons.mpr ⟨hD2, List.forall_mem_cons.mpr ⟨hD1, List.forall_mem_cons.mpr ⟨by show @Ne Nat _ _; omega, List.forall_mem_cons.mpr ⟨by show @Ne Nat _ _; omega, List.forall_mem_cons.mpr ⟨by show @Ne Nat _ _; omega, hw753⟩⟩⟩⟩⟩⟩⟩
      have N5' := news_front N5
      obtain ⟨XL, hXL⟩ : ∃ x, x = ((D3, lst ys3) :: (I, oJ) :: (D2, listOf vs2 k2) :: (D1, listOf vs1 k1) :: (L' + 1 + 1 + 1, oS8) :: (L' + 1 + 1, oT2) :: (L' + 1, oI) :: Z2 : List (Addr × Obj)) := ⟨_, rfl⟩
      rw [← hXL] at hX7 N5'
      have mD3 : (D3, lst ys3) ∈ XL := by rw [hXL]; exact .head _
      have mI : (L' + 1, oI) ∈ XL := by rw [hXL]; repeat (first | exact .head _ | refine List.Mem.tail _ ?_)
      have mZ : ∀ p ∈ Z2, p ∈ XL := fun p hp => by rw [hXL]; repeat (first | exact hp | refine List.Mem.tail _ ?_)
      have hal : (aloneF n i).length ≤ 100 := Nat.le_trans (List.length_filter_le _ _) hlr
      have hys3 : ys3.length = (aloneF n i).length := hR3.size
      refine csrc_J (k := ys3.length) (fun j ys => StrsAre ys (((aloneF n i).take j).map fun r => lineF (stepF r) c)) rfl F5 N5' mD3 (by rw [List.size_toArray, hys3, sizeLine_eq]; omega) BB XX PP DD (by rw [hg2]; exact hgs) hJ7 .nil ?_ ?_
      · intro j v2 I2 oI2 C oC D4 m₂ g4 nw4 ys s4 E' hj hv2 hC hx F6 N6 off4 ne4 hV4
        obtain ⟨TT4, BB4, XX4, PP4, DD4, hos4, hgs4, ps4, hJ4, rfl, hR4⟩ := hV4
        obtain ⟨a, its, kk, r, rfl, hr1, hmem, hints, ha⟩ := hR3.at_ j v2 (by simpa using hv2)
        have hrow : r ∈ aloneF n i := List.mem_of_getElem? hr1
        have hrm : r ∈ rowsF n := (List.mem_filter.mp hrow).1
        have hsld : sldB r = true := List.all_eq_true.mp (List.all_eq_true.mp rowsF_sld (n - 1) (List.mem_range.mpr (by omega))) r (by rw [show n - 1 + 1 = n from by omega]; exact hrm)
        have hgood : GoodRow r := by
          refine goodB_row ((hgo r hrm).resolve_right fun e => ?_) hsld
          have := (List.mem_filter.mp hrow).2
          rw [e] at this
          simp at this
        have hsr' : SizesOk r := (sizesB_ok (hsr r hrm)).1
        obtain ⟨q1, q2, q3⟩ := off4.1
        have q1' : @Ne Nat I2 753 := fun e => q1 e.symm
        have q2' : @Ne Nat C 753 := fun e => q2 e.symm
        have q3' : @Ne Nat D4 753 := fun e => q3 e.symm
        have N7 : News g4 L' s4.heap ((I2, oI2) :: (C, oC) :: (D4, lst ys) :: (a, listOf its kk) :: (L' + 1, oI) :: (753, tabO ps4) :: XL) := news_sub N6 (sub_cons (.head _) (sub_cons (.tail _ (.head _)) (sub_cons (.tail _ (.tail _ (.head _))) (sub_cons (.tail _ (.tail _ (.tail _ (.tail _ (mZ _ hmem))))) (sub_cons (.tail _ (.tail _ (.tail _ (.tail _ (mI))))) (sub_cons (.tail _ (.tail _ (.tail _ (.head _)))) (fun _ h => .tail _ (.tail _ (.tail _ (.tail _ (h)))))))))))
        clear N6 N5 N5' F5
        refine wpAny_tests_nil ?_
        rw [if_pos rfl]
        k_steps
        unfold Hold
        refine' line_use (lvl := lvO rfl rfl rfl) (c := c) rfl rfl rfl ?lB ?lF ?lX ?lT ?lN ?lm1 ?lm2 ha hJ4 ?lab hc hsr' hints ?_
        case lB => exact BB4
        case lF => exact F6
        case lX => exact XX4
        case lT => exact PP4
        case lN => exact N7
        case lm1 => k_mem
        case lm2 => k_mem
        case lab => exact hgs4
        intro s6 t6 ps6 F8 N8' hJ6 hAB6 hos6
        have N8 := N8' _ (by k_upd)
        clear N8' N7 F6
        (try dsimp only)
        k_steps
        unfold Hold
        refine' part_use (lvl := lvO rfl rfl rfl) rfl rfl rfl ?pB ?pF ?pX ?pT XB TB ?pD ?pN ?pm hJ6 hAB6 hc hgood ?_
        case pB => exact BB4
        case pF => exact F8
        case pX => exact XX4
        case pT => exact PP4
        case pD => exact DD4
        case pN => exact N8
        case pm => k_mem
        intro g9 s9 t9 ps9 T9 F9 N9' B9 X9 P9 D9 hJ9 hAB9 hos9
        have N9 := N9' _ (by k_upd)
        refine ⟨g9, (753, tabO ps9) :: XL, F9, news_sub N9 fun p hp => ?_, ⟨off4.1, off4.2⟩, TT4.trans T9, B9, X9, P9, D9, hos9.trans (hos6.trans hos4), hAB9, ps9, hJ9, rfl, ?_⟩
        · exact (sub_keep (sub_keep (sub_keep (sub_tail (sub_tail (sub_keep (sub_self))))))) p hp
        · dsimp only
          rw [List.take_add_one, show (aloneF n i)[j]? = some r from hr1]
          simp only [Option.toList_some, List.map_append, List.map_cons, List.map_nil]
          exact strs_snoc1 hR4
      · intro D4 ys4 g4 nw4 s4 F6 N6 off4 hV4
        obtain ⟨TT4, BB4, XX4, PP4, DD4, hos4, hgs4, ps4, hJ4, rfl, hR4⟩ := hV4
        rw [List.take_of_length_le (by rw [List.size_toArray, hys3]; exact Nat.le_refl _)] at hR4
        have n4 : @Ne Nat D4 753 := fun e => off4.1 e.symm
        have mS8 : (L' + 1 + 1 + 1, oS8) ∈ XL := by rw [hXL]; repeat (first | exact .head _ | refine List.Mem.tail _ ?_)
        have mT2 : (L' + 1 + 1, oT2) ∈ XL := by rw [hXL]; repeat (first | exact .head _ | refine List.Mem.tail _ ?_)
        have mD1 : (D1, listOf vs1 k1) ∈ XL := by rw [hXL]; repeat (first | exact .head _ | refine List.Mem.tail _ ?_)
        have mD2 : (D2, listOf vs2 k2) ∈ XL := by rw [hXL]; repeat (first | exact .head _ | refine List.Mem.tail _ ?_)
        clear N5 N5' F5
        have N7 : News g4 L' s4.heap ((753, tabO ps4) :: (D4, lst ys4) :: XL) := news_sub N6 (sub_cons (.tail _ (.head _)) (sub_cons (.head _) (fun _ h => .tail _ (.tail _ (h)))))
        have hX4 : ∀ p ∈ (D4, lst ys4) :: XL, p.1 ≠ 753 := List.forall_mem_cons.mpr ⟨n4, hX7⟩
        clear N6
        k_steps
        unfold Hold
        refine' comp_JAF F6 ?l1 ?l2 ?h1 ?h2 ?h3 ?h4 ?h5 ?h6 ?h7 ?_ ?h9
        case l1 => rfl
        case l2 => with_unfolding_all rfl
        case h1 => with_unfolding_all rfl
        case h2 => decide
        case h3 => rfl
        case h4 => decide
        case h5 => rfl
        case h6 => rfl
        case h7 => rfl
        case h9 => intro _; rfl
        walk1
        refine csrc_J (k := k1) (fun j ys => StrsAre ys ((((rowsF n).take j).filter fun r => !(r.length % 2 == i)).map fun r => lineF r c)) rfl F6 N7 (.tail _ mD1) (by rw [hv1l, sizeLine_eq]; omega) BB4 XX4 PP4 DD4 hgs4 hJ4 .nil ?_ ?_
        · intro j v2 I2 oI2 C oC D5 m₂ g5 nw5 ys s5 E' hj hv2 hC hx F8 N8 off5 ne5 hV5
          obtain ⟨TT5, BB5, XX5, PP5, DD5, hos5, hgs5, ps5, hJ5, rfl, hR5⟩ := hV5
          obtain ⟨a, its, kk, r, rfl, hr1, hmem, hints, ha⟩ := hR1''.at_ j v2 (by rw [← hv2]; exact Array.getElem?_toList)
          have hsr' : SizesOk r := (sizesB_ok (hsr r (List.mem_of_getElem? hr1))).1
          have hrl : r.length ≤ 20 := hsr'.len
          obtain ⟨q1, q2, q3⟩ := off5.1
          have q1' : @Ne Nat I2 753 := fun e => q1 e.symm
          have q2' : @Ne Nat C 753 := fun e => q2 e.symm
          have q3' : @Ne Nat D5 753 := fun e => q3 e.symm
          have N8w : News g5 L' s5.heap ((I2, oI2) :: (C, oC) :: (D5, lst ys) :: (a, listOf its kk) :: (L' + 1 + 1 + 1, oS8) :: (L' + 1, oI) :: (753, tabO ps5) :: (D4, lst ys4) :: XL) := news_sub N8 (sub_cons (.head _) (sub_cons (.tail _ (.head _)) (sub_cons (.tail _ (.tail _ (.head _))) (sub_cons (.tail _ (.tail _ (.tail _ (.tail _ (.tail _ (mZ _ hmem)))))) (sub_cons (.tail _ (.tail _ (.tail _ (.tail _ (.tail _ (mS8)))))) (sub_cons (.tail _ (.tail _ (.tail _ (.tail _ (.tail _ (mI)))))) (sub_cons (.tail _ (.tail _ (.tail _ (.head _)))) (sub_cons (.tail _ (.tail _ (.tail _ (.tail _ (.head _))))) (fun _ h => .tail _ (.tail _ (.tail _ (.tail _ (.tail _ (h))))))))))))))
          clear N8 N7 F6
          refine wpAny_tests_one ?_
          k_steps
          · unfold Hold
            have hq9 : ¬ (((r.map Int.ofNat).length : Nat) : Int).fmod 2 = ((i : Nat) : Int) := by assumption
            rw [fmod2, List.length_map] at hq9
            have hq8 : (!(r.length % 2 == i)) = true := by rw [Bool.not_eq_true', beq_eq_false_iff_ne]; omega
            refine' line_use (lvl := lvO rfl rfl rfl) (c := c) rfl rfl rfl ?lB ?lF ?lX ?lT ?lN ?lm1 ?lm2 ha hJ5 ?lab hc hsr' hints ?_
            case lB => exact BB5
            case lF => exact F8
            case lX => exact XX5
            case lT => exact PP5
            case lN => exact N8w
            case lm1 => k_mem
            case lm2 => k_mem
            case lab => exact hgs5
            intro s9 t9 ps9 F9 N9' hJ9 hAB9 hos9
            have N9 := N9' _ (by k_upd)
            refine ⟨_, (753, tabO ps9) :: (D4, lst ys4) :: XL, F9, news_sub N9 fun p hp => ?_, ⟨off5.1, off5.2⟩, TT5, BB5, XX5, PP5, DD5, hos9.trans hos5, hAB9, ps9, hJ9, rfl, ?_⟩
            · exact (sub_keep (sub_keep (sub_keep (sub_tail (sub_tail (sub_tail (sub_self))))))) p hp
            · dsimp only
              rw [filt_yes (P := fun r : List Nat => !(r.length % 2 == i)) (f := fun r => lineF r c) hr1 hq8]
              exact strs_snoc1 hR5
          · have hq9 : (((r.map Int.ofNat).length : Nat) : Int).fmod 2 = ((i : Nat) : Int) := by assumption
            rw [fmod2, List.length_map] at hq9
            have hq8 : (!(r.length % 2 == i)) = false := by rw [Bool.not_eq_false', beq_iff_eq]; omega
            refine ⟨_, (753, tabO ps5) :: (D4, lst ys4) :: XL, F8, news_sub N8w fun p hp => ?_, off5, TT5, BB5, XX5, PP5, DD5, hos5, hgs5, ps5, hJ5, rfl, ?_⟩
            · exact (sub_keep (sub_keep (sub_keep (sub_tail (sub_tail (sub_tail (sub_self))))))) p hp
            · dsimp only
              rw [filt_no (P := fun r : List Nat => !(r.length % 2 == i)) (f := fun r => lineF r c) hr1 hq8]
              exact hR5
        · intro D5 ys5 g5 nw5 s5 F8 N8 off5 hV5
          obtain ⟨TT5, BB5, XX5, PP5, DD5, hos5, hgs5, ps5, hJ5, rfl, hR5⟩ := hV5
          rw [List.take_of_length_le (Nat.le_of_eq hv1l.symm)] at hR5
          have n5 : @Ne Nat D5 753 := fun e => off5.1 e.symm
          have n54 : @Ne Nat D5 D4 := fun e => off5.2.1 e.symm
          clear N7 F6
          have N9 : News g5 L' s5.heap ((753, tabO ps5) :: (D5, lst ys5) :: (D4, lst ys4) :: (L' + 1 + 1, oT2) :: XL) := news_sub N8 (sub_cons (.tail _ (.head _)) (sub_cons (.head _) (sub_cons (.tail _ (.tail _ (.head _))) (sub_cons (.tail _ (.tail _ (.tail _ (mT2)))) (fun _ h => .tail _ (.tail _ (.tail _ (h))))))))
          have hX5 : ∀ p ∈ (D5, lst ys5) :: (D4, lst ys4) :: (L' + 1 + 1, oT2) :: XL, p.1 ≠ 753 := List.forall_mem_cons.mpr ⟨n5, List.forall_mem_cons.mpr ⟨n4, List.forall_mem_cons.mpr ⟨by show @Ne Nat _ _; omega, hX7⟩⟩⟩
          clear N8
          k_steps
          unfold Hold
          refine' comp_JAF F8 ?l1 ?l2 ?h1 ?h2 ?h3 ?h4 ?h5 ?h6 ?h7 ?_ ?h9
          case l1 => rfl
          case l2 => with_unfolding_all rfl
          case h1 => with_unfolding_all rfl
          case h2 => decide
          case h3 => rfl
          case h4 => decide
          case h5 => rfl
          case h6 => rfl
          case h7 => rfl
          case h9 => intro _; rfl
          walk1
          have hv2l : vs2.size = (stairsF n).length := by have := hR2'.size; simpa using this
          refine csrc_J (k := k2) (fun j ys => StrsAre ys ((((stairsF n).take j).filter fun r => !(r.length % 2 == i)).map fun r => lineF r c)) rfl F8 N9 (.tail _ (.tail _ (.tail _ mD2))) (by rw [hv2l, sizeLine_eq]; omega) BB5 XX5 PP5 DD5 hgs5 hJ5 .nil ?_ ?_
          · intro j v2 I2 oI2 C oC D6 m₂ g6 nw6 ys s6 E' hj hv2 hC hx F9 N8 off6 ne6 hV6
            obtain ⟨TT6, BB6, XX6, PP6, DD6, hos6, hgs6, ps6, hJ6, rfl, hR6⟩ := hV6
            obtain ⟨a, its, kk, r, rfl, hr1, hmem, hints, ha⟩ := hR2'.at_ j v2 (by rw [← hv2]; exact Array.getElem?_toList)
            have hsr' : SizesOk r := (sizesB_ok (hss r (List.mem_of_getElem? hr1))).1
            have hrl : r.length ≤ 20 := hsr'.len
            obtain ⟨q1, q2, q3⟩ := off6.1
            have q1' : @Ne Nat I2 753 := fun e => q1 e.symm
            have q2' : @Ne Nat C 753 := fun e => q2 e.symm
            have q3' : @Ne Nat D6 753 := fun e => q3 e.symm
            have N9w : News g6 L' s6.heap ((I2, oI2) :: (C, oC) :: (D6, lst ys) :: (a, listOf its kk) :: (L' + 1 + 1 + 1, oS8) :: (L' + 1, oI) :: (753, tabO ps6) :: (D5, lst ys5) :: (D4, lst ys4) :: (L' + 1 + 1, oT2) :: XL) := news_sub N8 (sub_cons (.head _) (sub_cons (.tail _ (.head _)) (sub_cons (.tail _ (.tail _ (.head _))) (sub_cons (.tail _ (.tail _ (.tail _ (.tail _ (.tail _ (.tail _ (.tail _ (mZ _ hmem)))))))) (sub_cons (.tail _ (.tail _ (.tail _ (.tail _ (.tail _ (.tail _ (.tail _ (mS8)))))))) (sub_cons (.tail _ (.tail _ (.tail _ (.tail _ (.tail _ (.tail _ (.tail _ (mI)))))))) (sub_cons (.tail _ (.tail _ (.tail _ (.head _)))) (sub_cons (.tail _ (.tail _ (.tail _ (.tail _ (.head _))))) (sub_cons (.tail _ (.tail _ (.tail _ (.tail _ (.tail _ (.head _)))))) (sub_cons (.tail _ (.tail _ (.tail _ (.tail _ (.tail _ (.tail _ (.head _))))))) (fun _ h => .tail _ (.tail _ (.tail _ (.tail _ (.tail _ (.tail _ (.tail _ (h))))))))))))))))))
            clear N8 N9 F8
            refine wpAny_tests_one ?_
            k_steps
            · unfold Hold
              have hq9 : ¬ (((r.map Int.ofNat).length : Nat) : Int).fmod 2 = ((i : Nat) : Int) := by assumption
              rw [fmod2, List.length_map] at hq9
              have hq8 : (!(r.length % 2 == i)) = true := by rw [Bool.not_eq_true', beq_eq_false_iff_ne]; omega
              refine' line_use (lvl := lvO rfl rfl rfl) (c := c) rfl rfl rfl ?lB ?lF ?lX ?lT ?lN ?lm1 ?lm2 ha hJ6 ?lab hc hsr' hints ?_
              case lB => exact BB6
              case lF => exact F9
              case lX => exact XX6
              case lT => exact PP6
              case lN => exact N9w
              case lm1 => k_mem
              case lm2 => k_mem
              case lab => exact hgs6
              intro s9 t9 ps9 FA NA' hJ9 hAB9 hos9
              have NA := NA' _ (by k_upd)
              refine ⟨_, (753, tabO ps9) :: ((D5, lst ys5) :: (D4, lst ys4) :: (L' + 1 + 1, oT2) :: XL), FA, news_sub NA fun p hp => ?_, ⟨off6.1, off6.2⟩, TT6, BB6, XX6, PP6, DD6, hos9.trans hos6, hAB9, ps9, hJ9, rfl, ?_⟩
              · exact (sub_keep (sub_keep (sub_keep (sub_tail (sub_tail (sub_tail (sub_self))))))) p hp
              · dsimp only
                rw [filt_yes (P := fun r : List Nat => !(r.length % 2 == i)) (f := fun r => lineF r c) hr1 hq8]
                exact strs_snoc1 hR6
            · have hq9 : (((r.map Int.ofNat).length : Nat) : Int).fmod 2 = ((i : Nat) : Int) := by assumption
              rw [fmod2, List.length_map] at hq9
              have hq8 : (!(r.length % 2 == i)) = false := by rw [Bool.not_eq_false', beq_iff_eq]; omega
              refine ⟨_, (753, tabO ps6) :: ((D5, lst ys5) :: (D4, lst ys4) :: (L' + 1 + 1, oT2) :: XL), F9, news_sub N9w fun p hp => ?_, off6, TT6, BB6, XX6, PP6, DD6, hos6, hgs6, ps6, hJ6, rfl, ?_⟩
              · exact (sub_keep (sub_keep (sub_keep (sub_tail (sub_tail (sub_tail (sub_self))))))) p hp
              · dsimp only
                rw [filt_no (P := fun r : List Nat => !(r.length % 2 == i)) (f := fun r => lineF r c) hr1 hq8]
                exact hR6
          · intro D6 ys6 g6 nw6 s6 F9 N8 off6 hV6
            obtain ⟨TT6, BB6, XX6, PP6, DD6, hos6, hgs6, ps6, hJ6, rfl, hR6⟩ := hV6
            rw [List.take_of_length_le (Nat.le_of_eq hv2l.symm)] at hR6
            have n6 : @Ne Nat D6 753 := fun e => off6.1 e.symm
            clear N9 F8
            k_steps
            unfold Hold
            have hi01 : i ∈ [0, 1] := by
              have : i = 0 ∨ i = 1 := by omega
              rcases this with rfl | rfl <;> simp
            have hpo := List.all_eq_true.mp (List.all_eq_true.mp (List.all_eq_true.mp pairs_ok (n - 1) (List.mem_range.mpr (by omega))) i hi01) c hc
            rw [show n - 1 + 1 = n from by omega] at hpo
            unfold pairOk at hpo
            simp only [Bool.and_eq_true, beq_iff_eq] at hpo
            have o4 := off1_mem off4.2
            have o5 := off1_mem off5.2
            have o6 := off1_mem off6
            refine' uld_use (lvl := lvO rfl rfl rfl) (x := D4) (y := D5) (vs := ys4.toArray) (n1 := ys4.length) (av := ys5.toArray) (n2 := ys5.length) (ks := (aloneF n i).map fun r => lineF (stepF r) c) (os := (othersF n i).map fun r => lineF r c) (res := (leftF n i).map fun r => lineF r c) rfl rfl rfl ?uB ?uF ?uX ?uT ?uN ?umx ?umy n54 ?uP ?_
            case uB => exact BB6
            case uF => exact F9
            case uX => exact XX6
            case uT => exact PP6
            case uN => exact N8
            case umx => k_mem
            case umy => k_mem
            case uP => exact ⟨hR4, hR5, hpo.2, by simpa using hal, by simp; exact Nat.le_trans (List.length_filter_le _ _) hlr⟩
            intro h10 tk10 D10 l10 rv kk1 kk2 F10 N10 hrv
            have hfil : ∀ p ∈ ((D6, lst ys6) :: (753, tabO ps6) :: XL : List (Addr × Obj)), p ∈ ((D6, lst ys6) :: (753, tabO ps6) :: (D5, lst ys5) :: (D4, lst ys4) :: (L' + 1 + 1, oT2) :: XL : List (Addr × Obj)).filter (fun p => !decide (p.1 = D4) && !decide (p.1 = D5)) := by
              intro p hp
              have key : p.1 ≠ D4 ∧ p.1 ≠ D5 := by
                rcases List.mem_cons.mp hp with rfl | hp
                · exact ⟨fun e => o6 (D4, lst ys4) (.tail _ (.tail _ (.head _))) e.symm, fun e => o6 (D5, lst ys5) (.tail _ (.head _)) e.symm⟩
                rcases List.mem_cons.mp hp with rfl | hp
                · exact ⟨fun e => n4 e.symm, fun e => n5 e.symm⟩
                · exact ⟨o4 p hp, o5 p (.tail _ hp)⟩
              refine List.mem_filter.mpr ⟨?_, by simp [key.1, key.2]⟩
              exact (sub_keep (sub_keep (sub_tail (sub_tail (sub_tail (sub_self)))))) p hp
            have N11 : News g6 L' h10 ((D10, { cls := .type "tuple", data := .seq #[.ref l10, .ref D5] }) :: (l10, listOf #[] kk1) :: (D5, listOf rv kk2) :: (D6, lst ys6) :: (753, tabO ps6) :: XL) := news_sub N10 fun p hp => by
              simp only [List.mem_cons] at hp ⊢
              rcases hp with hp | hp | hp | hp
              · exact .inl hp
              · exact .inr (.inl hp)
              · exact .inr (.inr (.inl hp))
              · exact .inr (.inr (.inr (hfil p (by simp only [List.mem_cons]; exact hp))))
            clear N10 N8 F9
            (try dsimp only)
            k_steps
            unfold Hold
            rename Fr _ _ _ _ => FC
            rename News _ _ _ _ => NC
            refine' pair_ne (t1 := []) (t2 := (leftF n i).map fun r => lineF r c) (v1 := #[]) (v2 := rv) (v3 := #[]) (v4 := ys6.toArray) ?t1 ?t2 ?i1 ?i2 ?i3 ?i4 .nil hrv .nil hR6 ?u ?_
            case t1 => exact ⟨_, (NC (D10, { cls := .type "tuple", data := .seq #[.ref l10, .ref D5] }) (by k_mem)).1, rfl, _, rfl⟩
            case t2 => exact ⟨_, (NC _ (.head _)).1, rfl, _, rfl⟩
            case i1 => exact ⟨_, (NC (l10, listOf #[] kk1) (by k_mem)).1, rfl, _, rfl⟩
            case i2 => exact ⟨_, (NC (D5, listOf rv kk2) (by k_mem)).1, rfl, _, rfl⟩
            case i3 => exact ⟨_, (NC _ (.tail _ (.head _))).1, rfl, _, rfl⟩
            case i4 => exact ⟨_, (NC (D6, lst ys6) (by k_mem)).1, rfl, _, rfl⟩
            case u => exact Nat.le_of_ble_eq_true rfl
            (try dsimp only)
            k_steps
            rename Fr _ _ _ _ => FZ
            rename News _ _ _ _ => NZ
            refine ⟨_, g6, (D2, listOf vs2 k2) :: (D1, listOf vs1 k1) :: (L' + 1 + 1 + 1, oS8) :: (L' + 1 + 1, oT2) :: (L' + 1, oI) :: (753, tabO ps6) :: Z2, FZ, news_sub NZ fun p hp => ?_, fun p hp => ?_, TT.trans (TT4.trans (TT5.trans TT6)), BB6, XX6, PP6, DD6, hos6.trans (hos5.trans (hos4.trans (ho2.trans hos))), hgs6, ps6, oS8, hJ6, rfl, ⟨_, dS8⟩, _, kst_one rfl⟩
            · have hXp : p = (753, tabO ps6) ∨ p ∈ XL := by
                simp only [List.mem_cons] at hp
                rcases hp with rfl | rfl | rfl | rfl | rfl | rfl | rfl | hp
                · exact .inr (by rw [hXL]; repeat (first | exact .head _ | refine List.Mem.tail _ ?_))
                · exact .inr mD2
                · exact .inr mD1
                · exact .inr mS8
                · exact .inr mT2
                · exact .inr mI
                · exact .inl rfl
                · exact .inr (mZ p hp)
              rcases hXp with rfl | hq
              · repeat (first | exact .head _ | refine List.Mem.tail _ ?_)
              · repeat (first | exact hq | refine List.Mem.tail _ ?_)
            · simp only [List.mem_cons] at hp
              rcases hp with rfl | rfl | rfl | rfl | rfl | rfl | hp
              · exact off _ (.head _)
              · exact off _ (.tail _ (.head _))
              · exact off (L' + 1 + 1 + 1, oS7) (.tail _ (.tail _ (.head _)))
              · exact off _ (.tail _ (.tail _ (.tail _ (.head _))))
              · exact off _ (.tail _ (.tail _ (.tail _ (.tail _ (.head _)))))
              · exact off (753, tabO ps7) (.tail _ (.tail _ (.tail _ (.tail _ (.tail _ (.head _))))))
              · exact off p (.tail _ (.tail _ (.tail _ (.tail _ (.tail _ (.tail _ hp))))))
end
end
-- CHide
section
set_option maxHeartbeats 4000000
open PySem PySem.W PyProof.Rows PySem.Calls
/-- whatever is no table stands in the heap from which the table is hidden -/
theorem hide_other {h : Heap} (hP : h.get? 753 = some (tabObj #[])) : ∀ b o, h.get? b = some o → o.data ≠ .fields #[] → (hideAll h [753]).get? b = some o := fun b o e hd =>
  hideAll_get [753] e fun hm => by
    rw [List.mem_singleton.mp hm, hP] at e
    injection e with e
    exact hd (by rw [← e])
theorem hide_ns {h : Heap} (hP : h.get? 753 = some (tabObj #[])) {a : Addr} {m : Str → Option Value} (H : h.Ns a m) : (hideAll h [753]).Ns a m :=
  let ⟨o, es, ep, e, d, r⟩ := H
  ⟨o, es, ep, hide_other hP _ _ e (by rw [d]; intro q; cases q), d, r⟩
theorem in_hidden {w : World} {h : Heap} (X : (Mine.hd.heap_1 w.params).In h) : (Mine.hd.heap_1 w.params).In (hideAll h [753]) := fun a o e =>
  hideAll_get [753] (X a o e) fun hm => by
    rw [List.mem_singleton.mp hm, show (Mine.hd.heap_1 w.params).lookup 753 = none from by kernel_rfl] at e
    cases e
theorem recs_law : ((recsOf Mine.qv).all fun d => d.name == "law") = true := by decide +kernel
theorem owns_none : ownsOf Mine.qv = [] := by
  have h : (ownsOf Mine.qv).length = 0 := by decide +kernel
  exact List.eq_nil_of_length_eq_zero h
noncomputable def codeLaw (K : Frag) : Bool := match K.lookup 837 with
  | some o => (match o.data with
    | .fields vs => (match vs.getD 11 .none with
      | .ref a => a == 833
      | _ => false)
    | _ => false)
  | none => false
theorem code_law (w : World) : ∃ oc, (Mine.hd.heap_1 w.params).lookup 837 = some oc ∧ ∃ vs, oc.data = .fields vs ∧ vs.getD 11 .none = .ref 833 := by
  have h : codeLaw (Mine.hd.heap_1 w.params) = true := by kernel_rfl
  unfold codeLaw at h
  split at h
  · rename_i o ho
    split at h
    · rename_i vs hvs
      split at h
      · rename_i a ha
        exact ⟨o, ho, vs, hvs, by rw [ha, show a = 833 from beq_iff_eq.mp h]⟩
      · cases h
    · cases h
  · cases h
theorem top_hidden {w : World} {h : Heap} {mg mb : Str → Option Value} {mean : ExcName → Option Value} (T : Top Mine.qv loose mean mg mb h) (X : (Mine.hd.heap_1 w.params).In h) (hP : h.get? 753 = some (tabObj #[])) : Top Mine.qv loose mean mg mb (hideAll h [753]) := by
  have oth := hide_other hP
  have g := hide_ns hP T.g
  have code : ∀ d ∈ recsOf Mine.qv, ∀ a o fd c P, mg d.name = some (.ref a) → h.get? a = some o → o.data = .func fd → fd.code = .ref c → h.IsCode c P #[] → c = 837 ∧ P = 833 := fun d hd a o fd c P h1 h2 h3 h4 h5 => by
    have hn : d.name = "law" := eq_of_beq (List.all_eq_true.mp recs_law d hd)
    rw [hn] at h1
    have ht : tabIn (Mine.hd.heap_1 w.params) "law" = some (837, 833) := by kernel_rfl
    have hc := law_code X T.g ht h1 h2 h3
    rw [h4] at hc
    injection hc with hc
    subst hc
    obtain ⟨o', vs, file, tf, flags, tg, inF, text, tt, op, a1, a2, a3, _⟩ := h5
    obtain ⟨oc, hk, vs', hd', h11⟩ := code_law w
    rw [X _ _ hk] at a1
    injection a1 with a1
    subst a1
    rw [hd'] at a2
    injection a2 with a2
    subst a2
    rw [h11] at a3
    injection a3 with a3
    exact ⟨rfl, a3.symm⟩
  refine ⟨g, hide_ns hP T.b, ?_, ?_, fun d hd => ?_, fun o ho => ?_, T.const, T.free, T.builtins, fun d hd => ?_, ?_, fun hi => ?_⟩
  · exact let ⟨mc, a, b⟩ := T.nolimit; ⟨mc, hide_ns hP a, b⟩
  · exact let ⟨mc, a, b⟩ := T.nodigits; ⟨mc, hide_ns hP a, b⟩
  · obtain ⟨a, o, pm, cd, doc, h1, h2, h3, c, oc, vs, t, e1, e2, e3, e4⟩ := T.fn d hd
    refine ⟨a, o, pm, cd, doc, h1, oth _ _ h2 (by rw [h3]; intro q; cases q), h3, c, oc, vs, t, e1, oth _ _ e2 ?_, e3, e4⟩
    rw [e3]
    intro q
    injection q with q
    rw [q] at e4
    simp at e4
  · rw [owns_none] at ho
    cases ho
  · obtain ⟨a, o, fd, c, P, h1, h2, h3, h4, h5, h6⟩ := T.tab d hd
    obtain ⟨rfl, rfl⟩ := code d hd a o fd c P h1 h2 h3 h4 h5
    have n1 : ∀ o, h.get? 837 = some o → (hideAll h [753]).get? 837 = some o := fun o e => hideAll_get [753] e (by decide)
    have n2 : ∀ o, h.get? 833 = some o → (hideAll h [753]).get? 833 = some o := fun o e => hideAll_get [753] e (by decide)
    refine ⟨a, o, fd, 837, 833, h1, oth _ _ h2 (by rw [h3]; intro q; cases q), h3, h4, ?_, ?_⟩
    · obtain ⟨o', vs, file, tf, flags, tg, inF, text, tt, op, a1, a2, a3, a4, a5, a6, a7, a8, a9⟩ := h5
      exact ⟨o', vs, file, tf, flags, tg, inF, text, tt, op, n1 _ a1, a2, a3, a4, a5, a6, a7, n2 _ a8, a9⟩
    · obtain ⟨⟨o', vs, a1, a2⟩, a3⟩ := h6
      exact ⟨⟨o', vs, n1 _ a1, a2⟩, n2 _ a3⟩
  · obtain ⟨bm, ob, h1, h2, h3, h4, h5, h6⟩ := T.bmain
    exact ⟨bm, ob, h1, h2, oth _ _ h3 (by rw [h6]; intro q; cases q), h4, h5, h6⟩
  · obtain ⟨⟨mc, a1, a2⟩, ⟨mm, b1, b2⟩, ⟨mb', c1, c2⟩, ⟨mg', bm, ob, d1, d2, d3, d4, d5⟩⟩ := T.seer hi
    refine ⟨⟨mc, hide_ns hP a1, a2⟩, ⟨mm, hide_ns hP b1, b2⟩, ⟨mb', hide_ns hP c1, c2⟩, ⟨mg', bm, ob, hide_ns hP d1, d2, hideAll_get [753] d3 fun hm => ?_, d4, d5⟩⟩
    rw [List.mem_singleton.mp hm, hP] at d3
    injection d3 with d3
    rw [← d3] at d4
    cases d4
end
-- CLaw
section
set_option maxHeartbeats 4000000
open PySem PySem.W PyProof.Rows PySem.Calls PyProof.Rows.LCg
section
variable {w : World} {A A₀ : Around} {outer : List Env} {base h₀ : Heap} {L : Addr} {m mg mb : Str → Option Value} {mean : ExcName → Option Value} {s : Shared} {Q E : Value → Shared → Prop} {nw : List (Addr × Obj)}
theorem step_use {z : List Nat} {c lst0 nn : Nat} {its : Array Value} {u : Tok} {ps : Array Value} {cn : Str} {cs : Scope} {a : Addr} {ccd : Value} (hA : A.frames = some (envOf cn cs L a ccd :: outer)) (hk : cs.kind = .function) (B : Below A₀ base outer h₀) (F : Fr h₀ L s.heap m) (X : (Mine.hd.heap_1 w.params).In h₀) (T : Top Mine.qv loose mean mg mb h₀) (XB : (Mine.hd.heap_1 w.params).In base) (TB : Top Mine.qv loose mean mg mb base) (D : KtsDicts (outer.filterMap (·.frame)) h₀)
    (N : News h₀ L s.heap nw) (m1 : (lst0, listOf its nn) ∈ nw) (m2 : (753, tabO ps) ∈ nw) (hne : @Ne Nat lst0 753) (hc : c ∈ [120, 37, 126, 35]) (hz : StepRow z) (hi : IntsAre its.toList (z.map Int.ofNat)) (hJ : TabJ ps) (hAB : AllBare s.gens)
    (hret : ∀ g s' ps', KtsTurn (outer.filterMap (·.frame)) h₀ g → Fr g L s'.heap m → (∀ nw', Upd 753 (tabO ps) (tabO ps') nw nw' → News g L s'.heap nw') → Below A₀ base outer g → (Mine.hd.heap_1 w.params).In g → Top Mine.qv loose mean mg mb g → KtsDicts (outer.filterMap (·.frame)) g →
      TabJ ps' → AllBare s'.gens → s'.os = s.os → Q (.bool true) s')
    (lvl : Lvl A 380 0) :
    wpAny (MM w) A (call (.ref 816) [.ref lst0, .str (inkS c) u]) Q E s := by
  rw [scK_eq hk] at hA
  refine to_AT 380 lvl.1 lvl.2.1 lvl.2.2 hA ?_
  have e1 : ∀ p ∈ nw.filter (fun p => !decide (p.1 = 753)), p ∈ nw ∧ p.1 ≠ 753 := fun p hp => by simpa using List.mem_filter.mp hp
  refine step_core w _ cn cs a ccd outer A₀ base h₀ L m mg mb mean s Q E B F X T XB TB D lst0 nn its z c hc hz hi u ps (nw.filter (fun p => !decide (p.1 = 753))) (news_sub N fun p hp => ?_) hne (fun p hp => (e1 p hp).2) hJ hAB
    fun g s' ps' c1 c2 c3 c4 c5 c6 c7 c8 c9 c10 => hret g s' ps' c1 c2 (fun nw' U => news_sub c3 fun p hp => ?_) c4 c5 c6 c7 c8 c9 c10
  · rcases List.mem_cons.mp hp with rfl | hp
    · exact m1
    rcases List.mem_cons.mp hp with rfl | hp
    · exact m2
    exact (e1 p hp).1
  · rcases upd_mem U p hp with rfl | ⟨hp, n2⟩
    · exact .tail _ (.head _)
    exact .tail _ (.tail _ (List.mem_filter.mpr ⟨hp, by simp [n2]⟩))
theorem pair_use {n c : Nat} {t u : Tok} {ps : Array Value} {env : Env} (hA : A.frames = some (env :: outer)) (hf : env.frame = some L) (hk : env.scope.kind = .function) (B : Below A₀ base outer h₀) (F : Fr h₀ L s.heap m) (X : (Mine.hd.heap_1 w.params).In h₀) (T : Top Mine.qv loose mean mg mb h₀) (XB : (Mine.hd.heap_1 w.params).In base) (TB : Top Mine.qv loose mean mg mb base) (D : KtsDicts (outer.filterMap (·.frame)) h₀)
    (hn : 1 ≤ n ∧ n ≤ 8) (hc : c ∈ [120, 37, 126, 35]) (N : News h₀ L s.heap nw) (m2 : (753, tabO ps) ∈ nw) (hJ : TabJ ps) (hAB : AllBare s.gens)
    (hret : ∀ g s' ps', KtsTurn (outer.filterMap (·.frame)) h₀ g → Fr g L s'.heap m → News g L s'.heap [(753, tabO ps')] → Below A₀ base outer g → (Mine.hd.heap_1 w.params).In g → Top Mine.qv loose mean mg mb g →
      TabJ ps' → AllBare s'.gens → s'.os = s.os → Q (.bool true) s')
    (lvl : Lvl A 380 0) :
    wpAny (MM w) A (call (.ref 831) [.int (n : Int) t, .str (inkS c) u]) Q E s := by
  rw [envK_eq hf hk] at hA
  refine to_AT 380 lvl.1 lvl.2.1 lvl.2.2 hA ?_
  exact pair_core w _ _ outer A₀ base h₀ L m mg mb mean s Q E B F X T XB TB D n c hn hc t u ps [] (news_sub N fun p hp => by rw [List.mem_singleton.mp hp]; exact m2) (fun p hp => nomatch hp) hJ hAB
    fun g s' ps' c1 c2 c3 c4 c5 c6 _ c8 c9 c10 => hret g s' ps' c1 c2 c3 c4 c5 c6 c8 c9 c10
end
theorem fr_hidden {h₀ h : Heap} {L : Addr} {m : Str → Option Value} (F : Fr h₀ L h m) : Fr (hideAll h₀ [753]) L h m := ⟨F.ns, fun b o e => F.keep b o (of_hideAll _ e), by rw [hideAll_size]; exact F.above⟩
theorem tabJ_nil : TabJ #[] := ⟨trivial, .inl rfl⟩
theorem five_fmod (x : Int) : x.fmod 5 = ((fiveOf x : Nat) : Int) := by
  rw [Int.fmod_eq_emod_of_nonneg _ (by decide)]
  unfold fiveOf
  have h1 := Int.emod_nonneg x (show (5 : Int) ≠ 0 by decide)
  omega
theorem five_lt (x : Int) : fiveOf x < 5 := by
  have h1 := Int.emod_nonneg x (show (5 : Int) ≠ 0 by decide)
  have h2 := Int.emod_lt_of_pos x (show (0 : Int) < 5 by decide)
  unfold fiveOf
  omega
theorem sizesF_ne : ∀ (l acc : List Nat), acc ≠ [] → sizesF acc l ≠ []
  | [], _, h => h
  | _ :: l, _, _ => sizesF_ne l _ (by simp)
theorem sizesF_snoc (r : Nat) : ∀ (l acc : List Nat), sizesF acc (l ++ [r]) = ((sizesF acc l).headD 0 + gapF r) :: sizesF acc l
  | [], _ => rfl
  | _ :: l, _ => sizesF_snoc r l _
theorem headD_at {z : List Nat} (h : z ≠ []) : (z.map Int.ofNat)[0]? = some ((z.headD 0 : Nat) : Int) := by
  cases z with
  | nil => exact absurd rfl h
  | cons a z => rfl
theorem numbersF_at (ns : List Int) : (numbersF ns)[0]? = some ((numbersF ns).headD 0) := by
  unfold numbersF
  cases ns.take 3 with
  | nil => rfl
  | cons a z => rfl
theorem sizesF_len : ∀ (l acc : List Nat), (sizesF acc l).length = acc.length + l.length
  | [], _ => rfl
  | _ :: l, acc => by
    show (sizesF _ l).length = _
    rw [sizesF_len l]
    simp only [List.length_cons]
    omega
theorem gap_at {t0 t1 t2 t3 t4 : Tok} (x : Int) : ∃ t, (#[.int 1 t0, .int 1 t1, .int 1 t2, .int 2 t3, .int 3 t4] : Array Value)[(x.fmod 5).toNat]? = some (.int ((gapF (fiveOf x) : Nat) : Int) t) := by
  have h := five_lt x
  rw [five_fmod, Int.toNat_natCast]
  generalize fiveOf x = k at h
  match k, h with
  | 0, _ => exact ⟨_, rfl⟩
  | 1, _ => exact ⟨_, rfl⟩
  | 2, _ => exact ⟨_, rfl⟩
  | 3, _ => exact ⟨_, rfl⟩
  | 4, _ => exact ⟨_, rfl⟩
theorem five_range (x : Int) : 0 ≤ x.fmod 5 ∧ x.fmod 5 < 2 ^ 63 := by
  rw [five_fmod]
  have h := five_lt x
  exact ⟨by omega, Int.lt_of_lt_of_le (Int.ofNat_lt.mpr h) (by decide)⟩
theorem numbersF_len (ns : List Int) : (numbersF ns).tail.length ≤ 5 := by
  unfold numbersF
  rw [List.length_tail, List.length_append, List.length_take]
  simp only [List.length_cons, List.length_nil]
  omega
theorem fmod_nat (x : Int) (n : Nat) (hn : 0 < n) : ∃ k : Nat, k < n ∧ x.fmod (n : Int) = (k : Int) := by
  have h0 : ((n : Nat) : Int) ≠ 0 := by omega
  have h1 := Int.emod_nonneg x h0
  have h2 := Int.emod_lt_of_pos x (show (0 : Int) < ((n : Nat) : Int) by omega)
  refine ⟨(x % n).toNat, by omega, ?_⟩
  rw [Int.fmod_eq_emod_of_nonneg _ (by omega)]
  omega
theorem ink_at (x : Int) : ∃ c, c ∈ [120, 37, 126, 35] ∧ Txt.item "x%~#" (x.fmod 4) = inkS c := by
  obtain ⟨k, hk, e⟩ := fmod_nat x 4 (by decide)
  rw [show x.fmod 4 = (k : Int) from e]
  match k, hk with
  | 0, _ => exact ⟨120, by decide, by decide⟩
  | 1, _ => exact ⟨37, by decide, by decide⟩
  | 2, _ => exact ⟨126, by decide, by decide⟩
  | 3, _ => exact ⟨35, by decide, by decide⟩
theorem fmod_range (x : Int) : -((4 : Nat) : Int) ≤ x.fmod 4 ∧ x.fmod 4 < ((4 : Nat) : Int) := by
  obtain ⟨k, hk, e⟩ := fmod_nat x 4 (by decide)
  rw [show x.fmod 4 = (k : Int) from e]
  omega
theorem law_old {w : World} {h h' : Heap} {ps : Array Value} (X : (Mine.hd.heap_1 w.params).In h) (hP : h.get? 753 = some (tabObj #[])) (hk : ∀ b o, (hideAll h [753]).get? b = some o → h'.get? b = some o) (ht : h'.get? 753 = some (tabO ps)) : OldK h h' := by
  refine ⟨fun b o e => ?_, fun b o e => ?_⟩
  · by_cases hb : b = 753
    · subst hb
      rw [hP] at e
      injection e with e
      subst e
      exact .inr (.inl ⟨⟨757, _, _, X _ _ (code_757 w), rfl, rfl, rfl⟩, rfl, #[], ps, rfl, by rw [ht]; simp [tabObj]⟩)
    · exact .inl (hk b o (hideAll_get [753] e fun hm => hb (List.mem_singleton.mp hm)))
  · by_cases hb : b = 753
    · subst hb
      exact ⟨_, ht⟩
    · exact ⟨o, hk b o (hideAll_get [753] e fun hm => hb (List.mem_singleton.mp hm))⟩
theorem kst_two {m : Str → Option Value} {x y : Str} {v u : Value} (h : m x = some v) (h' : m y = some u) : m = kstB m [(x, v), (y, u)] := by
  symm
  funext z
  exact kstB_eq (ps := [(x, v), (y, u)]) (m₁ := m) (fun p hp => by
    rcases List.mem_cons.mp hp with rfl | hp
    · exact h
    · rw [List.mem_singleton.mp hp]; exact h') fun _ => rfl
theorem news_law {g h : Heap} {L : Addr} {a b c d e f k : Addr × Obj} {l : List (Addr × Obj)} (N : News g L h (a :: b :: c :: d :: e :: f :: k :: l)) : News g L h (b :: a :: k :: l) := fun p hp => N p (by
  simp only [List.mem_cons] at hp ⊢
  rcases hp with hp | hp | hp | hp <;> simp only [hp, true_or, or_true])
noncomputable def LInv (D : Nat) (its : Array Value) (kk : Nat) (tot : Int) (t : Tok) (a : Nat) (rs : List Nat) (ps : Array Value) (g₀ : Heap) (s₀ : Shared) (i : Nat) (m : Str → Option Value) (g : Heap) (nw : List (Addr × Obj)) (s : Shared) : Prop :=
  g = g₀ ∧ s.gens = s₀.gens ∧ s.os = s₀.os ∧ ∃ (S : Nat) (vs : Array Value) (k : Nat), nw = [(S, listOf vs k), (D, listOf its kk), (753, tabO ps)] ∧ @Ne Nat S 753 ∧ @Ne Nat S D ∧ IntsAre vs.toList ((sizesF [a] (rs.take i)).map Int.ofNat) ∧ ∃ u, m = kstB u [("sizes", .ref S), ("total", .int tot t)]
section
theorem KCLaw.callHeld {M : Model} {A : Around} {f : Addr} {as : List Value} {Q E : Value → Shared → Prop} {s : Shared} (hf : held f [816, 831] = true) (h : Hold (wpAny M A (call (.ref f) as) Q E s)) : wpAny M A (call (.ref f) as) Q E s := call_hold hf h
open KBinaryopAddRefRef KExecFor KExecForSubscript KSubscripttailNameConstantRefInt KSubscripttailList KSubscripttailConstant KCLaw
theorem law_all : PySem.Challenge.rw_oy0383_01.Holds := by
  w_on
  refine holds_law wellSaid_pf fun said => ?_
  refine hd_gen (by rfl) (by rfl) (by rfl) said ?hw ?hc
  case hw => w_witness2
  case hc =>
    intro w s₀ s₁ mg mb G Y fa o pm cd doc dV kV ho hd hcd hD hmg hg args vals as hpre hlay hrd hwl hlo
    have KX := Y.1
    have hP := Y.2
    clear Y
    have V := (Ground.X G).2
    refine Ground.open G ?_
    intro T B D TE TW
    try (refine guard_noD D (by decide +kernel) ?_; clear D)
    have TA := at_of_top T
    try (obtain ⟨_, _, he, B0⟩ := based_of_top T rfl hmg ho hd; have he' : cd = _ := he; subst he'; clear he)
    clear hmg
    wrow_args hpre hlay hrd hwl hlo
    all_goals (
      first | refine callC_kw (enter_call ?_) | refine enter_call ?_ | refine callC_kw (enter_callW ?_) | refine enter_callW ?_ | w_how
      w_top on
      w_call any ho hd hcd hD T F)
    all_goals (try k_fold)
    rename Fr _ _ _ _ => F0
    rename List Int => ns
    rename s₁.heap.IsList _ _ => hL0
    rename IntsAre _ _ => hI0
    have hL1 : (hideAll s₁.heap [753]).IsList _ _ := let ⟨o, e, r⟩ := hL0; ⟨o, hide_other hP _ _ e (by obtain ⟨_, n, d⟩ := r; rw [d]; intro q; cases q), r⟩
    have X9 := in_hidden KX
    have T9 := top_hidden T KX hP
    have F1 := fr_hidden F0
    have N1 : News (hideAll s₁.heap [753]) s₁.heap.objs.size _ [(753, tabO #[])] := fun p hp => by
      rw [List.mem_singleton.mp hp]
      exact ⟨F0.keep _ _ hP, fun e => by have := Heap.lt_size hP; rw [show s₁.heap.objs.size = 753 from e.symm] at this; exact Nat.lt_irrefl _ this, hideAll_none _ (.head _)⟩
    have B9 := below_caller (hideAll s₁.heap [753])
    have hlt := Heap.lt_size hP
    obtain ⟨h9, hh9⟩ : ∃ h, h = hideAll s₁.heap [753] := ⟨_, rfl⟩
    rw [← hh9] at hL1 X9 T9 F1 N1 B9
    clear F0 hL0 T
    rw [show PySem.Challenge.rw_oy0383_01.row.prog = PySem.Challenge.pw_oy0383_01 from rfl]
    k_steps
    unfold Hold
    rename Fr _ _ _ _ => Fa
    rename News _ _ _ _ => Na
    rename IntsAre _ (List.take 3 ns) => hIa
    refine kmk_add_ints Fa Na ⟨_, (Na _ (.tail _ (.head _))).1, rfl, _, rfl⟩ ⟨_, (Na _ (.head _)).1, rfl, _, rfl⟩ hIa (.cons _ _ (.cons _ _ (.cons _ _ .nil))) (fun Db us hb Fb Nb lb hI5 => ?_) (by rw [sizeLine_eq, List.length_take]; simp only [List.length_cons, List.length_nil]; omega)
    k_lt lb
    clear Fa Na
    (try dsimp only)
    k_steps
    unfold Hold
    rename News _ _ _ _ => N5
    refine KItem.item_nw (v := (numbersF ns).headD 0) (fun t1 => ?_) N5 (by k_mem) (by decide) (by decide) (ints_getZ (i := 0) hI5 rfl (numbersF_at ns)) (by with_unfolding_all rfl)
    (try dsimp only)
    k_steps
    unfold Hold
    refine for_J ?_ PassesOwn.leaving (fun _ => rfl)
    k_steps
    rename Fr _ _ _ _ => F8
    rename News _ _ _ _ => N8
    rename IntsAre _ (List.drop 1 _) => hI8

    rename_i tt hA3 t9 lS hA2 lS1 hA1 DD wws hA0 hC hL lD1
    have n1 : @Ne Nat lS 753 := fun e => by omega
    have n2 : @Ne Nat lS DD := fun e => by omega
    have n3 : @Ne Nat DD 753 := fun e => by omega
    clear hC hL
    have hI8' : IntsAre wws (numbersF ns).tail := by rw [← List.drop_one]; exact hI8
    refine fsrc_list (its := wws.toArray) (LInv DD wws.toArray 0 (ns.take 3).sum tt (1 + fiveOf ((numbersF ns).headD 0)) ((numbersF ns).tail.map fiveOf) #[] h9 s₁) rfl F8 (news_law N8) (fun _ _ _ _ _ _ _ h => h) (fun i m g nw s h => ?src) ?zero ?body ?done
    case src =>
      obtain ⟨_, _, _, S, vs, k, rfl, _⟩ := h
      exact ⟨0, by k_mem⟩
    case zero =>
      refine ⟨rfl, rfl, rfl, lS, _, 0, rfl, n1, n2, ?_, _, kst_two rfl rfl⟩
      have e5 : (1 : Int) + ((numbersF ns).headD 0).fmod 5 = Int.ofNat (1 + fiveOf ((numbersF ns).headD 0)) := by
        rw [five_fmod]
        show _ = ((1 + fiveOf ((numbersF ns).headD 0) : Nat) : Int)
        omega
      rw [e5]
      exact .cons _ _ .nil
    case body =>
      intro i v I oI m2 g nw s2 hi hv F3 N3 off hV
      obtain ⟨rfl, hg1, ho1, S, vs, k, rfl, q1, q2, hiv, u, rfl⟩ := hV
      clear F8 N8
      have hil : i < (numbersF ns).tail.length := by
        have h2 : i < wws.toArray.size := hi
        rw [← hI8'.length]
        simpa using h2
      obtain ⟨tx, hx⟩ := ints_get (vs := wws.toArray) hI8' (getD_get hil)
      rw [hx] at hv
      injection hv with hv
      subst hv
      have hz := headD_at (sizesF_ne (((numbersF ns).tail.map fiveOf).take i) [1 + fiveOf ((numbersF ns).headD 0)] (by simp))
      k_steps
      unfold Hold
      rename News _ _ _ _ => N5
      refine KItem.item_nw (fun t1 => ?_) N5 (by k_mem) (by decide) (by decide) (ints_getZ (i := 0) hiv rfl hz) (by with_unfolding_all rfl)
      (try dsimp only)
      k_steps
      unfold Hold
      rename News _ _ _ _ => N6
      refine KItem.item_nw (fun t2 => ?_) N6 (by k_mem) (five_range _).1 (five_range _).2 (gap_at _) (by with_unfolding_all rfl)
      (try dsimp only)
      k_steps
      unfold Hold
      rename Fr _ _ _ _ => F7
      rename News _ _ _ _ => N7
      (try dsimp only)
      refine kmk_add_ints F7 N7 ⟨_, (N7 _ (.head _)).1, rfl, _, rfl⟩ (isList_arr N7 (by k_mem)) (.cons _ _ .nil) hiv (fun D9 us hx9 F9 N9 l9 hus => ?_) (by rw [sizeLine_eq, List.length_map, sizesF_len, List.length_take]; simp only [List.length_cons, List.length_nil, List.length_map]; have := numbersF_len ns; omega)
      have o1 : @LT.lt Nat _ I D9 := l9 (I, oI) (.tail _ (.tail _ (.head _)))
      have o2 : @LT.lt Nat _ DD D9 := l9 (DD, _) (.tail _ (.tail _ (.tail _ (.tail _ (.head _)))))
      have o3 : @LT.lt Nat _ 753 D9 := l9 (753, _) (.tail _ (.tail _ (.tail _ (.tail _ (.tail _ (.head _))))))
      clear F7 N7 l9
      (try dsimp only)
      k_steps
      rename Fr _ _ _ _ => FZ
      rename News _ _ _ _ => NZ
      refine ⟨_, g, [(D9, listOf us.toArray 0), (DD, listOf wws.toArray 0), (753, tabO #[])], FZ, news_sub NZ fun p hp => ?_, fun p hp => ?_, rfl, hg1, ho1, D9, us.toArray, 0, rfl, fun e => by omega, fun e => by omega, ?_, _, kst_two rfl rfl⟩
      · simp only [List.mem_cons] at hp ⊢
        rcases hp with hp | hp | hp | hp | hp
        · exact .inr (.inr (.inr (.inl hp)))
        · exact .inl hp
        · exact .inr (.inr (.inr (.inr (.inr (.inl hp)))))
        · exact .inr (.inr (.inr (.inr (.inr (.inr (.inl hp))))))
        · cases hp
      · rcases List.mem_cons.mp hp with rfl | hp
        · exact fun e => Nat.lt_irrefl I (by rw [show D9 = I from e] at o1; exact o1)
        · exact off p (.tail _ hp)
      · have e : ((numbersF ns).tail.map fiveOf).take (i + 1) = ((numbersF ns).tail.map fiveOf).take i ++ [fiveOf ((numbersF ns).tail.getD i 0)] := by
          rw [List.take_add_one, List.getElem?_map, getD_get hil]
          rfl
        rw [e, sizesF_snoc]
        exact hus
    case done =>
      intro m9 g9 nw9 s9 F9 N9 hV
      obtain ⟨rfl, hg1, ho1, S, vs, k, rfl, q1, q2, hiv, u, rfl⟩ := hV
      clear F8 N8
      rw [List.take_of_length_le (by rw [List.length_map, ← hI8'.length]; simp)] at hiv
      have hrow := lawSizes_row ns
      k_steps
      unfold Hold
      refine KXi.item (n := 4) rfl (fmod_range _).1 (fmod_range _).2 (by decide) (fun hl1 => ?_)
      clear hl1
      obtain ⟨c, hc, hink⟩ := ink_at (ns.take 3).sum
      rw [hink]
      clear hink
      (try dsimp only)
      k_steps
      unfold Hold
      rename Fr _ _ _ _ => F4
      rename News _ _ _ _ => N4
      refine step_use (lvl := lvO rfl rfl rfl) (z := lawSizes ns) rfl rfl B9 F4 X9 T9 X9 T9 ktsDicts_nil N4 (by k_mem) (by k_mem) q1 hc hrow hiv tabJ_nil ?ab fun g5 s5 ps5 T5 F5 N5' B5 X5 P5 D5 hJ5 hAB5 hos5 => ?_
      case ab =>
        refine AllBare.of_eq ?_
        show s9.gens = #[]
        rw [hg1]
        exact hg
      have N5 := N5' _ (by k_upd)
      clear N5' F4 N4
      (try dsimp only)
      k_steps
      unfold Hold
      obtain ⟨k8, hk8, e8⟩ := fmod_nat ((ns.take 3).sum + 5) 8 (by decide)
      rw [show (1 : Int) + ((ns.take 3).sum + 5).fmod 8 = ((1 + k8 : Nat) : Int) from by rw [show ((ns.take 3).sum + 5).fmod 8 = (k8 : Int) from e8]; omega]
      rename Fr _ _ _ _ => F6
      rename News _ _ _ _ => N6
      refine pair_use (lvl := lvO rfl rfl rfl) (n := 1 + k8) rfl rfl rfl B5 F6 X5 P5 X9 T9 ktsDicts_nil ⟨by omega, by omega⟩ hc N6 (by k_mem) hJ5 ?ab fun g7 s7 ps7 T7 F7 N7 B7 X7 P7 hJ7 hAB7 hos7 => ?_
      case ab => exact hAB5
      refine ⟨.inl ⟨_, .bool true, [], rfl, fun _ => rfl, .bool true, by first | wrow_post | exact postW_of (by rfl) (by rfl) rfl | exact postW_of (by decide) (by with_unfolding_all rfl) rfl, fun _ => ⟨List.nodup_nil, fun _ h => nomatch h⟩⟩, law_old KX hP (fun b o e => ?_) (N7 _ (.head _)).1, ?_, hAB7⟩
      · rw [← hh9] at e
        exact F7.keep b o (T7.other b o (T5.other b o e (fun h => nomatch h)) (fun h => nomatch h))
      · exact hos7.trans (hos5.trans ho1)
end
end
end Mine
theorem PySem.Challenge.cw_oy0383_01_holds : PySem.Challenge.rw_oy0383_01.Holds := by
  exact Mine.law_all
