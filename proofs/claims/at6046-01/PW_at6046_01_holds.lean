import PyProof.Rows.All
import Wide.All
import OpenK.AllK
import Wide.FinOn
import Open.Tops
import PySem.Challenge.RW_at6046_01
set_option Elab.async false
section TX7
open PySem PySem.W PyProof.Rows
set_option Elab.async false
namespace Mine
def one : PySem.Expr := .Constant (.int 1) 0 ⟨48, 0, 48, 1⟩
def add : PySem.Expr := .UnaryOp .USub one ⟨48, 0, 48, 1⟩
def stK : Stmt := .Assign [.Name (Str.ofString "KNOWN_TERMINALS") ⟨48,0,48,15⟩] (.List [add, add, add] ⟨48, 18, 48, 30⟩) ⟨48, 0, 48, 30⟩
def pw2 : Program := { PySem.Challenge.pw_at6046_01 with main := { PySem.Challenge.pw_at6046_01.main with body := PySem.Challenge.pw_at6046_01.main.body.take 20 ++ stK :: PySem.Challenge.pw_at6046_01.main.body.drop 21 } }
set_option maxRecDepth 100000 in
set_option maxHeartbeats 8000000 in
open_shared topA for PySem.Challenge.pw_at6046_01 leaving 19
end Mine
end TX7
section TX8
open PySem PySem.W PyProof.Rows
set_option Elab.async false
namespace Mine
set_option maxRecDepth 100000 in
set_option maxHeartbeats 8000000 in
open_shared topB for pw2 leaving 0
end Mine
end TX8
section TX11
open PySem PySem.W PyProof.Rows
set_option Elab.async false
namespace Mine
abbrev hole (t : BT) (o : Obj) : BT := t.set 122 (fun _ => o)
abbrev stB (t : BT) (n tk : Nat) (os : OsState) : SharedT := { tree := t, n := n, life := {}, gens := ⟨[]⟩, drawn := {}, toks := tk, os := os }
abbrev B0 : List Frame := [topFrame ⟨0, 0, 0, 0⟩]
section
variable (p : Program) (b : List Stmt) (w : World) (os : OsState) (o : Obj)
set_option maxRecDepth 100000
set_option maxHeartbeats 8000000
theorem piece4 : 
   segRunT treeTable p w 29 (some (.ref 6)) 1 390 (stB (hole (topB.tree_134 w.params) o) 124 519 os) (piecesOf topB.sts_138 topB.env_1 (Code.body b topB.env_1) ⟨46,0,46,8⟩ B0) = 
   some (.next, stB (hole (topB.tree_196 w.params) o) 181 598 os, Code.body b topB.env_1, ⟨74, 0, 89, 24⟩) := by
  rw [Fast.te10110043849684766642, Fast.te14364793385576792824, Fast.te18264609832631760791, Fast.te12065676111971634041, Fast.te1544524732460599716]
  kernel_rfl
theorem piece5a : 
   segGoT treeTable p w 29 (some (.ref 6)) 1 400 (stB (hole (topB.tree_196 w.params) o) 181 598 os) (piecesOf topB.sts_198 topB.env_1 (Code.body b topB.env_1) ⟨74,0,89,24⟩ B0) = 
   some (stB (hole (topB.tree_329 w.params) o) 227 682 os, topB.thread_329 w p b os) := by
  rw [Fast.te10295753902157049106, Fast.te14364793385576792824, Fast.te6858566288012007009, Fast.te1544524732460599716, Fast.te12880186245997706829]
  kernel_rfl
theorem piece5b : 
   segGoT treeTable p w 29 (some (.ref 6)) 1 400 (stB (hole (topB.tree_329 w.params) o) 227 682 os) (topB.thread_329 w p b os) = 
   some (stB (hole (topB.tree_351 w.params) o) 247 722 os, topB.thread_351 w p b os) := by
  rw [Fast.te10295753902157049106, Fast.te14364793385576792824, Fast.te12880186245997706829, Fast.te9662050373623511473]
  kernel_rfl
theorem piece5c : 
   segGoT treeTable p w 29 (some (.ref 6)) 1 400 (stB (hole (topB.tree_351 w.params) o) 247 722 os) (topB.thread_351 w p b os) = 
   some (stB (hole (topB.tree_360 w.params) o) 254 752 os, topB.thread_360 w p b os) := by
  rw [Fast.te10295753902157049106, Fast.te14364793385576792824, Fast.te9662050373623511473, Fast.te9572777467324362148]
  kernel_rfl
theorem piece5d : 
   segRunT treeTable p w 29 (some (.ref 6)) 1 288 (stB (hole (topB.tree_360 w.params) o) 254 752 os) (topB.thread_360 w p b os) = 
   some (.next, stB (hole (topB.tree_282 w.params) o) 264 765 os, Code.body b topB.env_1, ⟨90, 0, 135, 63⟩) := by
  rw [Fast.te10110043849684766642, Fast.te14364793385576792824, Fast.te9572777467324362148, Fast.te9750402167679836493]
  kernel_rfl
theorem piece6 : 
   segRunT treeTable p w 29 (some (.ref 6)) 1 354 (stB (hole (topB.tree_282 w.params) o) 264 765 os) (piecesOf topB.sts_364 topB.env_1 (Code.body b topB.env_1) ⟨90,0,135,63⟩ B0) = 
   some (.next, stB (hole (topB.tree_437 w.params) o) 336 874 os, Code.body b topB.env_1, ⟨218, 0, 244, 87⟩) := by
  rw [Fast.te10110043849684766642, Fast.te14364793385576792824, Fast.te4677541833742370924, Fast.te9750402167679836493, Fast.te5233188400192865514]
  kernel_rfl
end
end Mine
end TX11
section TX15
open PySem PySem.W PyProof.Rows
set_option Elab.async false
namespace Mine
set_option maxRecDepth 100000
set_option maxHeartbeats 8000000
abbrev pw : Program := PySem.Challenge.pw_at6046_01
abbrev q0 : Program := opening PySem.Challenge.pw_at6046_01
abbrev Sz (os : OsState) : SharedT := ⟨.nil, 0, {}, ⟨[]⟩, {}, 1, os⟩
noncomputable def H0 (P : Params) : Heap := { objs := ⟨[PySem.W.Fast.tw8155208273999219102 P, PySem.W.Fast.tw768015156662801226 P, PySem.W.Fast.tw13202753348436344462 P, PySem.W.Fast.tw11550326757703075411 P, PySem.W.Fast.tw1029908777588345663 P, PySem.W.Fast.tw3005971336084834194 P, PySem.W.Fast.tw6766399359276717105 P, PySem.W.Fast.tw10156079911742607326 P, topA.o_9 P, PySem.W.Fast.tw3490691026451136514 P, PySem.W.Fast.tw230439697160913164 P, PySem.W.Fast.tw17431981491107783754 P, PySem.W.Fast.tw9481547557293586102 P, PySem.W.Fast.tw5191068512089028343 P, PySem.W.Fast.tw6963567374328382303 P, PySem.W.Fast.tw15748867423018144895 P, PySem.W.Fast.tw13967277339869918948 P, PySem.W.Fast.tw9799353157003138811 P, PySem.W.Fast.tw4285334366283699543 P, PySem.W.Fast.tw4915718966184955745 P, PySem.W.Fast.tw16319184945605196453 P, PySem.W.Fast.tw6339109619851075061 P, PySem.W.Fast.tw6768045420290376235 P, PySem.W.Fast.tw406322226519334972 P, PySem.W.Fast.tw15910555860610370871 P, PySem.W.Fast.tw15820347939367842663 P, PySem.W.Fast.tw2929505748058542024 P, topA.o_28 P, PySem.W.Fast.tw11499057595001046934 P]⟩, life := {} }
noncomputable def runE (w : World) (os : OsState) : SharedT × Thread := match Fast.tw14789777615569096658 Fast.tw14364793385576792824 q0 w 926 (Sz os) (start q0).2 with
  | some x => x
  | none => (Sz os, ⟨.unsupported "", .builtin "boot" {}, default, []⟩)
theorem opened1 (w : World) (os : OsState) : impGoT treeTable q0 w 926 (Sz os) (start q0).2 = some ((runE w os).1, (runE w os).2) := by
  rw [Fast.te14789777615569096658, Fast.te14364793385576792824]
  kernel_rfl
theorem opened2 (w : World) (os : OsState) : importEnds treeTable q0 w 1 (runE w os).1.abs (runE w os).2 = some (runE w os).1.abs := by
  rw [Fast.te10274390034422433532, Fast.te14364793385576792824]
  kernel_rfl
theorem fenced (w : World) (os : OsState) : (fenceModules? pw (runE w os).1.abs).map (fun s => (s.heap, s.gens, s.drawn, s.toks)) = some (H0 w.params, ⟨[]⟩, {}, 322) := by
  unfold pw
  rw [Fast.te14289696077712309145, Fast.te194602122574191670]
  kernel_rfl
theorem start_abs (q : Program) : (Sz (start q).1.os).abs = (start q).1 := rfl
theorem opened_gen {p : Program} {w : World} {s' : Shared} {t' : Thread} {α : Type} {F : Shared → α} {X : α} (a : impGo treeTable (opening p) w 926 (Sz (start (opening p)).1.os).abs (start (opening p)).2 = some (s', t'))
    (b : importEnds treeTable (opening p) w 1 s' t' = some s') (f : (fenceModules? p s').map F = some X) : (fencedOpening treeTable p w 5000).map F = some X := by
  have m := importEnds_mono (5000 - (926 + 1)) _ _ _ _ (imp_go a b)
  rw [start_abs] at m
  unfold fencedOpening
  have m' : importEnds treeTable (opening p) w 5000 (start (opening p)).1 (start (opening p)).2 = some s' := m
  rw [m']
  exact f
theorem opened (w : World) : (fencedOpening treeTable pw w 5000).map (fun s => (s.heap, s.gens, s.drawn, s.toks)) = some (H0 w.params, ⟨[]⟩, {}, 322) :=
  opened_gen (p := pw) (impGo_of (opened1 w _)) (opened2 w _) (fenced w _)
end Mine
end TX15
section TX17
open PySem PySem.W PyProof.Rows
set_option Elab.async false
namespace Mine
set_option maxRecDepth 100000
set_option maxHeartbeats 8000000
noncomputable def Ha (P : Params) : Heap := { objs := ⟨[PySem.W.Fast.tw8155208273999219102 P, PySem.W.Fast.tw768015156662801226 P, PySem.W.Fast.tw13202753348436344462 P, PySem.W.Fast.tw11550326757703075411 P, PySem.W.Fast.tw1029908777588345663 P, PySem.W.Fast.tw3005971336084834194 P, PySem.W.Fast.tw6766399359276717105 P, PySem.W.Fast.tw10156079911742607326 P, topA.o_9 P, PySem.W.Fast.tw3490691026451136514 P, PySem.W.Fast.tw230439697160913164 P, PySem.W.Fast.tw17431981491107783754 P, PySem.W.Fast.tw9481547557293586102 P, PySem.W.Fast.tw5191068512089028343 P, PySem.W.Fast.tw6963567374328382303 P, PySem.W.Fast.tw15748867423018144895 P, PySem.W.Fast.tw13967277339869918948 P, PySem.W.Fast.tw9799353157003138811 P, PySem.W.Fast.tw4285334366283699543 P, PySem.W.Fast.tw4915718966184955745 P, PySem.W.Fast.tw16319184945605196453 P, PySem.W.Fast.tw6339109619851075061 P, PySem.W.Fast.tw6768045420290376235 P, PySem.W.Fast.tw406322226519334972 P, PySem.W.Fast.tw15910555860610370871 P, PySem.W.Fast.tw15820347939367842663 P, PySem.W.Fast.tw2929505748058542024 P, topA.o_28 P, PySem.W.Fast.tw11499057595001046934 P, PySem.W.Fast.tw2684901760275514038 P, topA.o_31 P, PySem.W.Fast.tw16997101455965994110 P, PySem.W.Fast.tw3407671984560618018 P]⟩, life := {} }
noncomputable abbrev bP : List Stmt := behindTheImports pw
noncomputable abbrev cP : Code := Code.body bP topA.env_1
theorem pre1 (w : World) (os : OsState) : topGo treeTable pw w 29 (some (.ref 6)) 12 ⟨H0 w.params, ⟨[]⟩, {}, 322, os⟩ (topStub pw) =
    some (⟨Ha w.params, ⟨[]⟩, {}, 328, os⟩, ⟨denote treeTable cP, cP, ⟨0,0,0,0⟩, B0⟩) := by
  rw [Fast.te15667345088766844465, Fast.te11892475500146522536, Fast.te14364793385576792824]
  kernel_rfl
theorem block1 (w : World) (os : OsState) : segRun treeTable pw w 29 (some (.ref 6)) 1 1 ⟨Ha w.params, ⟨[]⟩, {}, 328, os⟩ (blockOf bP topA.env_1 cP ⟨0,0,0,0⟩ B0) =
    some (.next, (stB (topA.tree_33 w.params) 33 328 os).abs, cP, ⟨0,0,0,0⟩) := by
  rw [Fast.te14374325043358763698, Fast.te6175127546646109623]
  kernel_rfl
end Mine
end TX17
section TX18
open PySem PySem.W PyProof.Rows
set_option Elab.async false
namespace Mine
set_option maxRecDepth 100000
set_option maxHeartbeats 8000000
def kName : Str := ⟨⟨[75, 78, 79, 87, 78, 95, 84, 69, 82, 77, 73, 78, 65, 76, 83]⟩⟩
noncomputable def T21 (P : Params) (o : Obj) : BT := ((topA.tree_132 P).ins 122 o).set 3 (Obj.putName kName (PyData.keyHash P kName) (.str kName 509) (.ref 122))
noncomputable abbrev s2122 : List Stmt := topB.sts_131.drop 2
section
variable (p : Program) (b : List Stmt) (w : World) (os : OsState) (o : Obj)
theorem piece3 : 
   segRunT treeTable p w 29 (some (.ref 6)) 1 100 (stB (T21 w.params o) 123 510 os) (piecesOf s2122 topB.env_1 (Code.body b topB.env_1) ⟨44, 0, 44, 15⟩ B0) = 
   some (.next, stB (hole (topB.tree_134 w.params) o) 124 519 os, Code.body b topB.env_1, ⟨46, 0, 46, 8⟩) := by
  refine byRow2 "special-get-raises" (P := fun w => segRunT treeTable p w 29 (some (.ref 6)) 1 100 (stB (T21 w.params o) 123 510 os) (piecesOf s2122 topB.env_1 (Code.body b topB.env_1) ⟨44, 0, 44, 15⟩ B0) = 
   some (.next, stB (hole (topB.tree_134 w.params) o) 124 519 os, Code.body b topB.env_1, ⟨46, 0, 46, 8⟩)) (fun w => ?_) (fun w => ?_) w
  · unfold T21 s2122
    rw [Fast.te10110043849684766642, Fast.te14364793385576792824, Fast.te9516753431709820708, Fast.te12065676111971634041, Fast.te8755931279739267558]
    kernel_rfl
  · unfold T21 s2122
    rw [Fast.te10110043849684766642, Fast.te14364793385576792824, Fast.te9516753431709820708, Fast.te12065676111971634041, Fast.te8755931279739267558]
    kernel_rfl
end
end Mine
end TX18
section TX19
open PySem PySem.W PyProof.Rows
set_option Elab.async false
namespace Mine
abbrev an6 : Option Value := some (.ref 6)
def Sm (p : Program) (w : World) (c : Code) (k : Nat) {α : Type} (m : Sem α) (pos : Pos) (s : Shared) (a : α) (pos' : Pos) (s' : Shared) : Prop :=
  ∀ (K : α → Sem Fin) (H : Value → Sem Fin) (gd : Bool → Bool) (lv : List Value → List Value) (M : Nat) (r : Flow × Shared × Code × Pos),
    segRun treeTable p w 29 an6 1 M s' ⟨K a, c, pos', B0⟩ = some r → segRun treeTable p w 29 an6 1 (M + k) s ⟨m.wrap K H gd lv, c, pos, B0⟩ = some r
section
variable {p : Program} {w : World} {c : Code} {α β : Type} {pos pos1 pos2 : Pos} {s s1 s2 : Shared}
theorem Sm.pure (a : α) : Sm p w c 0 (.pure a) pos s a pos s := fun _ _ _ _ _ _ h => h
theorem Sm.bind {m : Sem α} {f : α → Sem β} {k k' : Nat} {a : α} {b : β} (x : Sm p w c k m pos s a pos1 s1) (y : Sm p w c k' (f a) pos1 s1 b pos2 s2) : Sm p w c (k' + k) (m.bind f) pos s b pos2 s2 := by
  intro K H gd lv M r h
  rw [Sem.bind_eq_wrap, Sem.wrap_wrap, ← Nat.add_assoc]
  exact x _ _ _ _ _ _ (y K H gd lv M r h)
theorem Sm.bind' {m : Sem α} {f : α → Sem β} {k k' : Nat} {a : α} {b : β} (x : Sm p w c k m pos s a pos1 s1) (y : Sm p w c k' (f a) pos1 s1 b pos2 s2) : Sm p w c (k' + k) (m >>= f) pos s b pos2 s2 := Sm.bind x y
theorem Sm.keep {m : Sem α} {k : Nat} {a : α} {vs : List Value} (x : Sm p w c k m pos s a pos1 s1) : Sm p w c k (m.keep vs) pos s a pos1 s1 := by
  intro K H gd lv M r h
  rw [Sem.keep_eq_wrap, Sem.wrap_wrap]
  exact x _ _ _ _ _ _ h
theorem Sm.holding {m : Sem α} {k : Nat} {a : α} {vs : List Value} (x : Sm p w c k m pos s a pos1 s1) : Sm p w c k (holding vs m) pos s a pos1 s1 := by
  unfold PySem.holding
  split
  · exact x
  · exact x.keep
theorem one_step {M : Nat} {t t' : Thread} {r : Flow × Shared × Code × Pos} (he : endAt 1 t = none) (ho : stepOk 29 an6 t = true) (hs : step (denote treeTable) p w s t = .go s1 t') (h : segRun treeTable p w 29 an6 1 M s1 t' = some r) : segRun treeTable p w 29 an6 1 (M + 1) s t = some r := by
  unfold segRun
  rw [he, ho, hs]
  exact h
theorem Sm.load {a : Addr} {q : Option Value} {o : Obj} (h : s.heap.get? a = some o) : Sm p w c 1 (.load a q .pure) pos s o pos s := by
  intro K H gd lv M r hr
  obtain ⟨hp, g, d, tk, os⟩ := s
  refine one_step rfl rfl ?_ hr
  simp only [Sem.wrap, step]
  rw [show hp.get? a = some o from h]
theorem Sm.update {a : Addr} {q : Option Value} {f : Obj → Obj} (ha : (Nat.ble 29 a || a == mainNs) = true) (h : (s.heap.get? a).isSome = true) : Sm p w c 1 (.update a q f .pure) pos s () pos { s with heap := s.heap.update a f } := by
  intro K H gd lv M r hr
  obtain ⟨hp, g, d, tk, os⟩ := s
  refine one_step rfl ?_ ?_ hr
  · show (true && _) = true
    simp only [Bool.true_and, Sem.wrap]
    rw [ha]; rfl
  simp only [Sem.wrap, step]
  rw [if_pos (show (hp.get? a).isSome = true from h)]
theorem Sm.alloc {o : Obj} : Sm p w c 1 (.alloc o .pure) pos s s.heap.objs.size pos { s with heap := s.heap.push o } := by
  intro K H gd lv M r hr
  obtain ⟨hp, g, d, tk, os⟩ := s
  exact one_step rfl rfl rfl hr
theorem Sm.fresh : Sm p w c 1 (.fresh .pure) pos s s.toks pos { s with toks := s.toks + 1 } := by
  intro K H gd lv M r hr
  obtain ⟨hp, g, d, tk, os⟩ := s
  exact one_step rfl rfl rfl hr
theorem Sm.ask : Sm p w c 1 (.ask .pure) pos s ⟨p, w.params⟩ pos s := by
  intro K H gd lv M r hr
  obtain ⟨hp, g, d, tk, os⟩ := s
  exact one_step rfl rfl rfl hr
theorem Sm.rule {t : String} : Sm p w c 1 (.rule t .pure) pos s () pos s := by
  intro K H gd lv M r hr
  obtain ⟨hp, g, d, tk, os⟩ := s
  exact one_step rfl rfl rfl hr
theorem Sm.at : Sm p w c 1 (.at pos1 .pure) pos s () pos1 s := by
  intro K H gd lv M r hr
  obtain ⟨hp, g, d, tk, os⟩ := s
  exact one_step rfl rfl rfl hr
theorem Sm.point {l : List Value} : Sm p w c 1 (.point l .pure) pos s () pos s := by
  intro K H gd lv M r hr
  obtain ⟨hp, g, d, tk, os⟩ := s
  exact one_step rfl rfl rfl hr
end
end Mine
end TX19
section TX20
open PySem PySem.W PyProof.Rows
set_option Elab.async false
namespace Mine
set_option maxRecDepth 100000
theorem hash_call (p : Program) (w : World) (c : Code) (x : Str) (t : Tok) (K : Option Value → Sem Fin) (H : Value → Sem Fin) (gd : Bool → Bool) (lv : List Value → List Value) (M : Nat) (pos : Pos) (hp : Heap) (g : Array GenState) (d : Drawn) (tk : Nat) (os : OsState) :
    segRun treeTable p w 29 an6 1 (M + 6) ⟨hp, g, d, tk, os⟩ ⟨(callSpecialIfBound? (.str x t) "__hash__").wrap K H gd lv, c, pos, B0⟩ =
    segRun treeTable p w 29 an6 1 M ⟨hp, g, d, tk + 1, os⟩ ⟨K (some (.int (PyData.keyHash w.params x) tk)), c, pos, B0⟩ := by
  refine byRow2 "special-get-raises" (P := fun w => segRun treeTable p w 29 an6 1 (M + 6) ⟨hp, g, d, tk, os⟩ ⟨(callSpecialIfBound? (.str x t) "__hash__").wrap K H gd lv, c, pos, B0⟩ =
    segRun treeTable p w 29 an6 1 M ⟨hp, g, d, tk + 1, os⟩ ⟨K (some (.int (PyData.keyHash w.params x) tk)), c, pos, B0⟩) (fun w => ?_) (fun w => ?_) w
  · rw [Fast.te14374325043358763698, Fast.te14364793385576792824]
    kernel_rfl
  · rw [Fast.te14374325043358763698, Fast.te14364793385576792824]
    kernel_rfl
theorem Sm.hash {p : Program} {w : World} {c : Code} {x : Str} {t : Tok} {pos : Pos} {s : Shared} : Sm p w c 6 (callSpecialIfBound? (.str x t) "__hash__") pos s (some (.int (PyData.keyHash w.params x) s.toks)) pos { s with toks := s.toks + 1 } := by
  intro K H gd lv M r h
  obtain ⟨hp, g, d, tk, os⟩ := s
  rw [hash_call]
  exact h
theorem Sm.pyHash {p : Program} {w : World} {c : Code} {x : Str} {t : Tok} {pos : Pos} {s : Shared} : Sm p w c 7 (pyHash (.str x t)) pos s (PyData.keyHash w.params x) pos { s with toks := s.toks + 1 } := by
  show Sm p w c (0 + 1 + 6) ((callSpecialIfBound? (.str x t) "__hash__").bind fun _ => (Sem.ask Sem.pure).bind fun st => Sem.pure (PyData.keyHash st.params x)) pos s _ pos _
  exact Sm.hash.bind (Sm.ask.bind (Sm.pure _))
end Mine
end TX20
section TX21
open PySem PySem.W PyProof.Rows
set_option Elab.async false
namespace Mine
theorem slot_nodummy {t : SetTable} (hd : t.dummies = #[]) (j : Nat) : t.slot j ≠ .dummy := by
  unfold SetTable.slot
  dsimp only
  split
  · exact fun e => nomatch e
  · rw [hd]
    have : SetTable.has #[] j = false := by simp [SetTable.has]
    rw [this]
    exact fun e => nomatch e
theorem probe_nodummy {t : SetTable} (hd : t.dummies = #[]) (f : Nat → Int) (h : Int) : ∀ (n : Nat) (q : SetTable.Probe) (j : Nat) (d : Option Nat), q.dummy = none → SetTable.probe.go t f h n q = some (.empty j d) → d = none
  | 0, _, _, _, _, e => by cases e
  | n + 1, q, j, d, hq, e => by
    unfold SetTable.probe.go at e
    have hadv : (t.advance q).dummy = none := by
      unfold SetTable.advance
      dsimp only
      split <;> exact hq
    split at e
    · cases e; exact hq
    · rename_i hs; exact absurd hs (slot_nodummy hd _)
    · split at e
      · cases e
      · exact probe_nodummy hd f h n _ j d hadv e
theorem insertAt_toList {α : Type} (xs : Array α) (k : Nat) (x : α) : (SetTable.insertAt xs k x).toList = xs.toList.take k ++ x :: xs.toList.drop k := by
  unfold SetTable.insertAt
  simp [List.take_of_length_le]
theorem insertAt_size {α : Type} (xs : Array α) (k : Nat) (x : α) : (SetTable.insertAt xs k x).size = xs.size + 1 := by
  rw [← Array.length_toList, insertAt_toList, List.length_append, List.length_cons, List.length_take, List.length_drop, Array.length_toList]
  omega
theorem insertAt_perm {α : Type} (xs : Array α) (k : Nat) (x : α) : (SetTable.insertAt xs k x).toList.Perm (x :: xs.toList) := by
  rw [insertAt_toList]
  refine List.perm_middle.trans ?_
  rw [List.take_append_drop]
structure TabOk (es : Array (Int × Value)) (t : SetTable) : Prop where
  size : t.place.size = es.size
  nod : t.dummies = #[]
  mask : 7 ≤ t.mask
theorem TabOk.fill {es : Array (Int × Value)} {t : SetTable} (o : TabOk es t) : t.fill = es.size := by
  unfold SetTable.fill
  rw [o.size, o.nod]; rfl
theorem layNew_ok {t : SetTable} {es : Array (Int × Value)} (o : TabOk es t) (h : Int) (x : Value) : TabOk (layNew t es h x).1 (layNew t es h x).2.1 ∧ (layNew t es h x).1.toList.Perm ((h, x) :: es.toList) ∧ (layNew t es h x).2.2.1 = false := by
  unfold layNew
  cases hf : t.freeSlot h with
  | none =>
    dsimp only
    refine ⟨⟨?_, rfl, ?_⟩, ?_, rfl⟩
    · show (Array.range _).size = _
      rw [Array.size_range, Array.size_push]
    · show 7 ≤ 4 * (es.size + 1) + 4
      omega
    · rw [Array.toList_push]
      exact List.perm_append_singleton _ _
  | some r =>
    obtain ⟨slot, wd⟩ := r
    have hw : wd = false := by
      unfold SetTable.freeSlot at hf
      split at hf
      · rename_i j d he
        unfold SetTable.probe at he
        have := probe_nodummy o.nod _ _ _ _ _ _ rfl he
        subst this
        cases hf; rfl
      · cases hf
    dsimp only [SetTable.put]
    refine ⟨?_, insertAt_perm _ _ _, hw⟩
    have hh : SetTable.has t.dummies slot = false := by rw [o.nod]; simp [SetTable.has]
    simp only [hh, Bool.false_eq_true, if_false]
    unfold SetTable.orStandIn
    split
    · refine ⟨?_, o.nod, o.mask⟩
      show (SetTable.insertAt _ _ _).size = _
      rw [insertAt_size, insertAt_size, o.size]
    · refine ⟨?_, rfl, ?_⟩
      · show (Array.range _).size = _
        rw [Array.size_range]
      · show 7 ≤ 4 * (SetTable.insertAt _ _ _).size + 4
        rw [insertAt_size]; omega
end Mine
end TX21
section TX22
open PySem PySem.W PyProof.Rows
set_option Elab.async false
namespace Mine
abbrev setO (es : Array (Int × Value)) (n : Nat) (t : SetTable) : Obj := { cls := .type "set", data := .set es n t }
theorem segRun_mono {p : Program} {w : World} (k : Nat) : ∀ (n : Nat) (s : Shared) (t : Thread) (r : Flow × Shared × Code × Pos), segRun treeTable p w 29 an6 1 n s t = some r → segRun treeTable p w 29 an6 1 (n + k) s t = some r
  | 0, _, _, _, h => by cases h
  | n + 1, s, t, r, h => by
    rw [show n + 1 + k = n + k + 1 by omega]
    unfold segRun at h ⊢
    cases he : endAt 1 t with
    | some f => rw [he] at h; exact h
    | none =>
      rw [he] at h
      cases ho : stepOk 29 an6 t with
      | false => rw [ho] at h; cases h
      | true =>
        rw [ho] at h
        cases hs : step (denote treeTable) p w s t with
        | halt o s' => rw [hs] at h; cases h
        | go s' t' => rw [hs] at h; exact segRun_mono k n s' t' r h
section
variable {p : Program} {w : World} {c : Code} {α : Type} {pos pos1 : Pos} {s s1 : Shared}
theorem Sm.mono {m : Sem α} {k k' : Nat} {a : α} (x : Sm p w c k m pos s a pos1 s1) (h : k ≤ k') : Sm p w c k' m pos s a pos1 s1 := by
  intro K H gd lv M r hr
  have := segRun_mono (k' - k) _ _ _ _ (x K H gd lv M r hr)
  rwa [show M + k + (k' - k) = M + k' by omega] at this
theorem tab_guard {es : Array (Int × Value)} {t : SetTable} (o : TabOk es t) (hs : es.size ≤ 7) : (t.place.size != es.size || decide (t.fill > t.mask)) = false := by
  rw [o.size, o.fill]
  have := o.mask
  simp
  omega
theorem Sm.setState {a : Addr} {es : Array (Int × Value)} {n : Nat} {t : SetTable} (h : s.heap.get? a = some (setO es n t)) (o : TabOk es t) (hs : es.size ≤ 7) : Sm p w c 1 (setState a) pos s (es, n, t) pos s := by
  unfold PySem.setState
  refine Sm.mono (k := 0 + 1) (Sm.bind' (Sm.load h) ?_) (Nat.le_refl _)
  dsimp only
  have g := tab_guard o hs
  simp only [Bool.or_eq_false_iff, decide_eq_false_iff_not] at g
  rw [if_neg (by simp [g.1, g.2])]
  exact Sm.pure _
theorem Sm.storeSet {a : Addr} {es es' : Array (Int × Value)} {n : Nat} {t t' : SetTable} (h : s.heap.get? a = some (setO es n t)) (ha : Nat.ble 29 a = true) (hs : es'.size ≤ 7) : Sm p w c 2 (storeSet a es' t') pos s () pos { s with heap := s.heap.update a (Obj.putSet es' t') } := by
  unfold PySem.storeSet
  refine Sm.mono (k := 1 + 1) (Sm.bind' (Sm.load h) ?_) (Nat.le_refl _)
  dsimp only
  rw [if_neg (by unfold sizeLine; omega)]
  exact Sm.update (by rw [ha]; rfl) (by rw [h]; rfl)
theorem Sm.addScan {a : Addr} {es : Array (Int × Value)} {n : Nat} {t : SetTable} {x : Str} {tk : Tok} {hh : Int} (h : s.heap.get? a = some (setO es n t)) (ha : Nat.ble 29 a = true) (o : TabOk es t) (hs : es.size ≤ 2)
    (hall : (es.all fun e => isExactStrKey e.2) = true) (hno : es.findIdx? (·.2.isStr x) = none) :
    Sm p w c 5 (setAddByScan a (.str x tk) hh es t) pos s (some true) pos { s with heap := s.heap.update a (Obj.putSet (layNew t es hh (.str x tk)).1 { (layNew t es hh (.str x tk)).2.1 with plain := false }) } := by
  obtain ⟨o', pm, hw⟩ := layNew_ok o hh (.str x tk)
  have hsz : (layNew t es hh (.str x tk)).1.size = es.size + 1 := by
    rw [← Array.length_toList, pm.length_eq]; simp
  unfold PySem.setAddByScan
  refine Sm.mono (k := 4 + 1) (Sm.bind' Sm.rule ?_) (by omega)
  have e1 : setScan a (.str x tk) hh true es = Pure.pure ScanMet.absent := by
    unfold setScan
    dsimp only
    rw [if_pos hall]
    unfold setScanStrs
    rw [hno]
  rw [e1]
  refine Sm.mono (k := 4 + 0) (Sm.bind' (Sm.pure _) ?_) (by omega)
  dsimp only
  generalize layNew t es hh (.str x tk) = r at o' pm hw hsz ⊢
  obtain ⟨es', t', wd, gv⟩ := r
  dsimp only at o' pm hw hsz ⊢
  subst hw
  refine Sm.mono (k := 3 + 1) (Sm.bind' (a := ()) (pos1 := pos) (s1 := s) ?_ ?_) (by omega)
  · cases gv
    · exact Sm.mono (Sm.pure ()) (by omega)
    · exact Sm.rule
  have hst : Sm p w c 2 (PySem.storeSet a es' { t' with plain := false }) pos s () pos { s with heap := s.heap.update a (Obj.putSet es' { t' with plain := false }) } := Sm.storeSet h ha (by omega)
  have hnf : ({ t' with plain := false } : SetTable).tooFull = false := by
    unfold SetTable.tooFull
    have e : ({ t' with plain := false } : SetTable).fill = es'.size := (TabOk.fill ⟨o'.size, o'.nod, o'.mask⟩ : ({ t' with plain := false } : SetTable).fill = es'.size)
    rw [e]
    have := o'.mask
    simp only [ge_iff_le, decide_eq_false_iff_not]
    omega
  by_cases hpl : t'.plain = true
  · rw [if_pos hpl]
    refine Sm.mono (k := 3 + 0) (Sm.bind' (a := false) (Sm.pure _) ?_) (by omega)
    rw [if_neg (by simp)]
    refine Sm.mono (k := 0 + 2) (Sm.bind' hst ?_) (by omega)
    rw [hnf]
    exact Sm.pure _
  · rw [if_neg hpl]
    have e : t' = { t' with plain := false } := by
      cases t'; simp at hpl; subst hpl; rfl
    refine Sm.mono (k := 3 + 0) (Sm.bind' (a := true) (Sm.pure _) ?_) (by omega)
    rw [if_pos rfl, e]
    refine Sm.mono (k := 0 + 2) (Sm.bind' hst ?_) (by omega)
    rw [hnf]
    exact Sm.pure _
end
end Mine
end TX22
section TX23
open PySem PySem.W PyProof.Rows
set_option Elab.async false
namespace Mine
def addS (P : Params) (d : Array (Int × Value) × SetTable) (x : Str) (tk : Tok) : Array (Int × Value) × SetTable :=
  ((layNew d.2 d.1 (PyData.keyHash P x) (.str x tk)).1, { (layNew d.2 d.1 (PyData.keyHash P x) (.str x tk)).2.1 with plain := false })
theorem addS_ok {P : Params} {d : Array (Int × Value) × SetTable} (o : TabOk d.1 d.2) (x : Str) (tk : Tok) : TabOk (addS P d x tk).1 (addS P d x tk).2 ∧ (addS P d x tk).1.toList.Perm ((PyData.keyHash P x, .str x tk) :: d.1.toList) := by
  obtain ⟨o', pm, _⟩ := layNew_ok o (PyData.keyHash P x) (.str x tk)
  exact ⟨⟨o'.size, o'.nod, o'.mask⟩, pm⟩
section
variable {p : Program} {w : World} {c : Code} {α : Type} {pos pos1 : Pos} {s s1 : Shared}
theorem Sm.setAdd {a : Addr} {d : Array (Int × Value) × SetTable} {n : Nat} {x : Str} {tk : Tok} (h : s.heap.get? a = some (setO d.1 n d.2)) (ha : Nat.ble 29 a = true) (o : TabOk d.1 d.2) (hs : d.1.size ≤ 2)
    (hall : (d.1.all fun e => isExactStrKey e.2) = true) (hno : d.1.findIdx? (·.2.isStr x) = none) :
    Sm p w c 14 (PySem.setAdd a (.str x tk)) pos s true pos { s with heap := s.heap.update a (Obj.putSet (addS w.params d x tk).1 (addS w.params d x tk).2), toks := s.toks + 1 } := by
  unfold PySem.setAdd
  refine Sm.holding ?_
  refine Sm.mono (k := 7 + 7) (Sm.bind' Sm.pyHash ?_) (by omega)
  unfold PySem.setAddHashed
  refine Sm.holding ?_
  unfold PySem.setAddHashedIn
  refine Sm.mono (k := 6 + 1) (Sm.bind' (Sm.setState (n := n) h o (by omega)) ?_) (by omega)
  dsimp only
  have hsc : byScan (.str x tk) d.1 = true := by
    unfold byScan
    have e1 : (d.1.all fun e => e.2.scannable) = true := by
      rw [Array.all_eq_true] at hall ⊢
      intro i hi
      have := hall i hi
      revert this
      cases (d.1[i]).2 <;> simp [isExactStrKey, Value.scannable]
    have e2 : d.1.size < scanBound := by unfold scanBound; omega
    rw [e1]
    simp [Value.scannable, e2]
  rw [if_pos hsc]
  refine Sm.mono (k := 0 + 5) (Sm.bind' (Sm.addScan (n := n) (hh := PyData.keyHash w.params x) h ha o hs hall hno) ?_) (by omega)
  exact Sm.pure _
theorem Sm.nsSet {ns : Addr} {name : Str} {v : Value} {o : Obj} {es : Array DictEntry} {n : Nat} (ho : s.heap.get? ns = some o) (hd : o.data = .dict es n) (hr : aRefKeyMayBeTheName name es = false) (hn : (Nat.ble 29 ns || ns == mainNs) = true) :
    Sm p w c 4 (PySem.nsSet ns name v) pos s () pos { s with heap := s.heap.update ns (Obj.putName name (PyData.keyHash w.params name) (.str name s.toks) v), toks := s.toks + 1 } := by
  unfold PySem.nsSet
  refine Sm.mono (k := 3 + 1) (Sm.bind' (a := PyData.keyHash w.params name) (pos1 := pos) (s1 := s) (Sm.bind' (k := 1) (k' := 0) Sm.ask (Sm.pure _)) ?_) (by omega)
  refine Sm.mono (k := 2 + 1) (Sm.bind' (a := Value.str name s.toks) (pos1 := pos) (s1 := { s with toks := s.toks + 1 }) (Sm.bind' (k := 1) (k' := 0) Sm.fresh (Sm.pure _)) ?_) (by omega)
  refine Sm.mono (k := 1 + 1) (Sm.bind' (Sm.load (o := o) ho) ?_) (by omega)
  rw [hd]
  dsimp only
  rw [hr]
  exact Sm.update (s := { s with toks := s.toks + 1 }) hn (by show (s.heap.get? ns).isSome = true; rw [ho]; rfl)
end
end Mine
end TX23
section TX24
open PySem PySem.W PyProof.Rows
set_option Elab.async false
namespace Mine
theorem update_push (h : Heap) (o : Obj) (f : Obj → Obj) {a : Nat} (ha : h.objs.size = a) : (h.push o).update a f = h.push (f o) := by
  subst ha
  obtain ⟨objs, life⟩ := h
  show Heap.mk ((objs.push o).modify objs.size f) life = Heap.mk (objs.push (f o)) life
  refine congrArg (Heap.mk · life) (Array.ext_getElem? fun i => ?_)
  rw [Array.getElem?_modify]
  by_cases e : objs.size = i
  · subst e; simp
  · rw [if_neg e, Array.getElem?_push, Array.getElem?_push]
    by_cases e' : i = objs.size
    · exact absurd e'.symm e
    · rw [if_neg e', if_neg e']
section
variable {p : Program} {w : World} {c : Code} {α : Type} {pos pos1 : Pos} {s s1 : Shared}
theorem Sm.const {env : Env} {x : Str} {sp : Pos} : Sm p w c 2 (do let v ← constValue env (.str x); standAt sp; Pure.pure v) pos s (.str x s.toks) sp { s with toks := s.toks + 1 } := by
  refine Sm.mono (k := 1 + 1) (Sm.bind' (a := Value.str x s.toks) (pos1 := pos) (s1 := { s with toks := s.toks + 1 }) (Sm.bind' (k := 1) (k' := 0) Sm.fresh (Sm.pure _)) ?_) (by omega)
  exact Sm.bind' (k := 1) (k' := 0) Sm.at (Sm.pure _)
theorem Sm.inMain {env : Env} {a : Addr} {o : Obj} {vs : Array Value} {f : Str} {t : Tok} (hc : env.code = .ref a) (ho : s.heap.get? a = some o) (hd : o.data = .fields vs) (hv : vs.getD 18 .none = .str f t) :
    Sm p w c 2 (inMainModule env) pos s (!p.modules.any fun (_, _, m) => m.file == f) pos s := by
  unfold inMainModule
  rw [hc]
  rw [if_neg (by intro e; cases e)]
  refine Sm.mono (k := 1 + 1) (Sm.bind' (a := vs) (pos1 := pos) (s1 := s) ?_ ?_) (by omega)
  · unfold fieldsOf
    refine Sm.mono (k := 0 + 1) (Sm.bind' (Sm.load (o := o) ho) ?_) (by omega)
    rw [hd]
    exact Sm.pure _
  · rw [hv]
    dsimp only
    exact Sm.bind' (k := 1) (k' := 0) Sm.ask (Sm.pure _)
end
end Mine
end TX24
section TX25
open PySem PySem.W PyProof.Rows
set_option Elab.async false
namespace Mine
def setD0 (P : Params) : Array (Int × Value) × SetTable := (#[], .fresh 0 0 (!P.followText "set-order"))
def setD (P : Params) (x1 x2 x3 : Str) (t : Nat) : Array (Int × Value) × SetTable := addS P (addS P (addS P (setD0 P) x1 t) x2 (t + 1)) x3 (t + 2)
def setFin (P : Params) (x1 x2 x3 : Str) (t : Nat) : Obj := setO (setD P x1 x2 x3 t).1 4 { (setD P x1 x2 x3 t).2 with led := false }
theorem setD0_ok (P : Params) : TabOk (setD0 P).1 (setD0 P).2 := ⟨rfl, rfl, Nat.le_refl _⟩
theorem none_of_all {es : Array (Int × Value)} {x : Str} (h : ∀ e ∈ es.toList, e.2.isStr x = false) : es.findIdx? (·.2.isStr x) = none := by
  rw [Array.findIdx?_eq_none_iff]
  intro e he
  exact h e (Array.mem_toList_iff.mpr he)
theorem all_of_all {es : Array (Int × Value)} (h : ∀ e ∈ es.toList, isExactStrKey e.2 = true) : (es.all fun e => isExactStrKey e.2) = true := by
  rw [Array.all_eq_true_iff_forall_mem]
  intro e he
  exact h e (Array.mem_toList_iff.mpr he)
theorem isStr_ne {x y : Str} {t : Tok} (h : x ≠ y) : (Value.str x t).isStr y = false := by
  show (x == y) = false
  simpa using h
section
variable {p : Program} {w : World} {c : Code} {pos pos1 : Pos} {s s1 : Shared}
theorem push_get (h : Heap) (o : Obj) {n : Nat} (hn : h.objs.size = n) (hf : o.isFreed = false) : (h.push o).get? n = some o := by
  subst hn; exact Heap.get?_push_size _ hf
theorem Sm.forAdd {n : Nat} {x : Value} {rest : List Value} {k : Nat} {s2 : Shared} (h1 : Sm p w c 14 (PySem.setAdd n x) pos s true pos s1)
    (h2 : Sm p w c k (forIn rest PUnit.unit fun x _ => do let _ ← PySem.setAdd n x; Pure.pure (ForInStep.yield PUnit.unit)) pos s1 PUnit.unit pos s2) :
    Sm p w c (k + 14) (forIn (x :: rest) PUnit.unit fun x _ => do let _ ← PySem.setAdd n x; Pure.pure (ForInStep.yield PUnit.unit)) pos s PUnit.unit pos s2 := by
  rw [List.forIn_cons]
  refine Sm.mono (k := k + 14) (Sm.bind' (a := ForInStep.yield PUnit.unit) (pos1 := pos) (s1 := s1) (Sm.bind' (k := 14) (k' := 0) h1 (Sm.pure _)) ?_) (by omega)
  exact h2
theorem Sm.setBody {n t : Nat} {x1 x2 x3 : Str} (hn : s.heap.objs.size = n) (ha : Nat.ble 29 n = true) (h12 : x1 ≠ x2) (h13 : x1 ≠ x3) (h23 : x2 ≠ x3) :
    Sm p w c 60 (do
      for x in [Value.str x1 t, Value.str x2 (t + 1), Value.str x3 (t + 2)] do let _ ← PySem.setAdd n x
      PySem.rule "set.display.perhaps-of-constants"; setUnled n) pos { s with heap := s.heap.push (setO (setD0 w.params).1 0 (setD0 w.params).2) } () pos { s with heap := s.heap.push (setFin w.params x1 x2 x3 t), toks := s.toks + 3 } := by
  have o0 := setD0_ok w.params
  obtain ⟨o1, p1⟩ := addS_ok (P := w.params) o0 x1 t
  obtain ⟨o2, p2⟩ := addS_ok (P := w.params) o1 x2 (t + 1)
  obtain ⟨o3, p3⟩ := addS_ok (P := w.params) o2 x3 (t + 2)
  have z1 : (addS w.params (setD0 w.params) x1 t).1.size = 1 := by rw [← Array.length_toList, p1.length_eq]; rfl
  have z2 : (addS w.params (addS w.params (setD0 w.params) x1 t) x2 (t + 1)).1.size = 2 := by rw [← Array.length_toList, p2.length_eq, List.length_cons, Array.length_toList, z1]
  have z3 : (setD w.params x1 x2 x3 t).1.size = 3 := by
    unfold setD
    rw [← Array.length_toList, p3.length_eq, List.length_cons, Array.length_toList, z2]
  have m1 : ∀ e ∈ (addS w.params (setD0 w.params) x1 t).1.toList, e.2 = .str x1 t := by
    intro e he
    have := (p1.mem_iff).mp he
    rcases List.mem_cons.mp this with rfl | h
    · rfl
    · exact absurd h List.not_mem_nil
  have m2 : ∀ e ∈ (addS w.params (addS w.params (setD0 w.params) x1 t) x2 (t + 1)).1.toList, e.2 = .str x1 t ∨ e.2 = .str x2 (t + 1) := by
    intro e he
    have := (p2.mem_iff).mp he
    rcases List.mem_cons.mp this with rfl | h
    · exact .inr rfl
    · exact .inl (m1 e h)
  have up : ∀ (o : Obj) (f : Obj → Obj) (tk : Nat), ({ s with heap := (s.heap.push o).update n f, toks := tk } : Shared) = { s with heap := s.heap.push (f o), toks := tk } := fun o f tk => by rw [update_push _ _ _ hn]
  refine Sm.mono (k := 18 + 42) (Sm.bind' (a := PUnit.unit) (pos1 := pos) (s1 := { s with heap := s.heap.push (setO (setD w.params x1 x2 x3 t).1 3 (setD w.params x1 x2 x3 t).2), toks := s.toks + 1 + 1 + 1 }) ?_ ?_) (by omega)
  refine Sm.mono (k := 28 + 14) (Sm.forAdd (Sm.setAdd (n := 0) (d := setD0 w.params) (push_get _ _ hn rfl) ha o0 (show 0 ≤ 2 by omega) (by simp [setD0]) (by simp [setD0])) ?_) (by omega)
  dsimp only
  rw [up]
  refine Sm.mono (k := 14 + 14) (Sm.forAdd (Sm.setAdd (n := 1) (d := addS w.params (setD0 w.params) x1 t) (push_get _ _ hn rfl) ha o1 (by omega) (all_of_all fun e he => by rw [m1 e he]; rfl)
    (none_of_all fun e he => by rw [m1 e he]; exact isStr_ne h12)) ?_) (by omega)
  dsimp only
  rw [up]
  refine Sm.mono (k := 0 + 14) (Sm.forAdd (Sm.setAdd (n := 2) (d := addS w.params (addS w.params (setD0 w.params) x1 t) x2 (t + 1)) (push_get _ _ hn rfl) ha o2 (by omega) (all_of_all fun e he => by rcases m2 e he with q | q <;> rw [q] <;> rfl)
    (none_of_all fun e he => by rcases m2 e he with q | q <;> rw [q]; exact isStr_ne h13; exact isStr_ne h23)) ?_) (by omega)
  dsimp only
  rw [up]
  · exact Sm.pure _
  refine Sm.mono (k := 17 + 1) (Sm.bind' Sm.rule ?_) (by omega)
  unfold setUnled
  refine Sm.mono (k := 16 + 1) (Sm.bind' (Sm.setState (n := 3) (es := (setD w.params x1 x2 x3 t).1) (t := (setD w.params x1 x2 x3 t).2) (push_get _ _ hn rfl) o3 (by omega)) ?_) (by omega)
  dsimp only
  have hz := Sm.storeSet (p := p) (w := w) (c := c) (pos := pos) (s := { s with heap := s.heap.push (setO (setD w.params x1 x2 x3 t).1 3 (setD w.params x1 x2 x3 t).2), toks := s.toks + 1 + 1 + 1 }) (n := 3) (es := (setD w.params x1 x2 x3 t).1) (t := (setD w.params x1 x2 x3 t).2)
    (t' := { (setD w.params x1 x2 x3 t).2 with led := false }) (es' := (setD w.params x1 x2 x3 t).1) (push_get _ _ hn rfl) ha (by omega)
  dsimp only at hz
  rw [up] at hz
  exact Sm.mono hz (by omega)
end
end Mine
end TX25
section TX26
open PySem PySem.W PyProof.Rows
set_option Elab.async false
namespace Mine
section
variable {p : Program} {w : World} {c : Code} {pos pos1 : Pos} {s s1 : Shared}
theorem Sm.newSet {n : Nat} (hn : s.heap.objs.size = n) : Sm p w c 2 (PySem.newSet (.type "set")) pos s (.ref n) pos { s with heap := s.heap.push (setO (setD0 w.params).1 0 (setD0 w.params).2) } := by
  subst hn
  unfold PySem.newSet setsByText
  refine Sm.mono (k := 1 + 1) (Sm.bind' (a := w.params.followText "set-order") (pos1 := pos) (s1 := s) (Sm.bind' (k := 1) (k' := 0) Sm.ask (Sm.pure _)) ?_) (by omega)
  exact Sm.bind' (k := 1) (k' := 0) Sm.alloc (Sm.pure _)
theorem Sm.setVal {env : Env} {n a : Nat} {o : Obj} {vs : Array Value} {f : Str} {t : Tok} {x1 x2 x3 : Str} {p1 p2 p3 sp : Pos} (hc : env.code = .ref a) (ho : s.heap.get? a = some o) (hd : o.data = .fields vs) (hv : vs.getD 18 .none = .str f t)
    (hn : s.heap.objs.size = n) (ha : Nat.ble 29 n = true) (h12 : x1 ≠ x2) (h13 : x1 ≠ x3) (h23 : x2 ≠ x3) :
    Sm p w c 80 (eval (.Set [.Constant (.str x1) 0 p1, .Constant (.str x2) 0 p2, .Constant (.str x3) 0 p3] 0 sp) env) pos s (.ref n) sp { s with heap := s.heap.push (setFin w.params x1 x2 x3 s.toks), toks := s.toks + 6 } := by
  show Sm p w c 80 (do
    standAt sp
    setDisplay (displayRoad 0 [.Constant (.str x1) 0 p1, .Constant (.str x2) 0 p2, .Constant (.str x3) 0 p3]) (← inMainModule env) [(false, do let v ← constValue env (.str x1); standAt sp; Pure.pure v), (false, do let v ← constValue env (.str x2); standAt sp; Pure.pure v), (false, do let v ← constValue env (.str x3); standAt sp; Pure.pure v)]) pos s _ sp _
  refine Sm.mono (k := 79 + 1) (Sm.bind' Sm.at ?_) (by omega)
  refine Sm.mono (k := 77 + 2) (Sm.bind' (Sm.inMain hc ho hd hv) ?_) (by omega)
  have hr : displayRoad 0 [.Constant (.str x1) 0 p1, .Constant (.str x2) 0 p2, .Constant (.str x3) 0 p3] = .unsure := rfl
  rw [hr]
  unfold setDisplay
  rw [if_neg (by decide)]
  refine Sm.mono (k := 75 + 2) (Sm.bind' (Sm.newSet hn) ?_) (by omega)
  change Sm p w c 75 (do
    PySem.holding [Value.ref n] (do
      let first ← evalAll [do let v ← constValue env (.str x1); standAt sp; Pure.pure v, do let v ← constValue env (.str x2); standAt sp; Pure.pure v, do let v ← constValue env (.str x3); standAt sp; Pure.pure v]
      PySem.holding first (do
        forIn first PUnit.unit fun x _ => do let _ ← PySem.setAdd n x; Pure.pure (ForInStep.yield PUnit.unit)
        PySem.rule "set.display.perhaps-of-constants"
        setUnled n)
      Pure.pure ())
    Pure.pure (Value.ref n)) sp _ (.ref n) sp _
  refine Sm.mono (k := 0 + 75) (Sm.bind' (a := ()) (pos1 := sp) ?_ (Sm.pure _)) (by omega)
  refine Sm.holding ?_
  refine Sm.mono (k := 69 + 6) (Sm.bind' (a := [Value.str x1 s.toks, Value.str x2 (s.toks + 1), Value.str x3 (s.toks + 1 + 1)]) (pos1 := sp) (s1 := { s with heap := s.heap.push (setO (setD0 w.params).1 0 (setD0 w.params).2), toks := s.toks + 1 + 1 + 1 }) ?_ ?_) (by omega)
  · unfold evalAll
    refine Sm.mono (k := 4 + 2) (Sm.bind' Sm.const ?_) (by omega)
    refine Sm.mono (k := 0 + 4) (Sm.bind' (Sm.holding (a := [Value.str x2 (s.toks + 1), Value.str x3 (s.toks + 1 + 1)]) ?_) (Sm.pure _)) (by omega)
    unfold evalAll
    refine Sm.mono (k := 2 + 2) (Sm.bind' Sm.const ?_) (by omega)
    refine Sm.mono (k := 0 + 2) (Sm.bind' (Sm.holding (a := [Value.str x3 (s.toks + 1 + 1)]) ?_) (Sm.pure _)) (by omega)
    unfold evalAll
    refine Sm.mono (k := 0 + 2) (Sm.bind' Sm.const ?_) (by omega)
    refine Sm.mono (k := 0 + 0) (Sm.bind' (Sm.holding (a := []) ?_) (Sm.pure _)) (by omega)
    unfold evalAll
    exact Sm.pure _
  · refine Sm.mono (k := 0 + 60) (Sm.bind' (a := ()) (pos1 := sp) (Sm.holding ?_) (Sm.pure _)) (by omega)
    exact Sm.setBody (s := { s with toks := s.toks + 1 + 1 + 1 }) hn ha h12 h13 h23
theorem Sm.setStmt {env : Env} {n a : Nat} {o : Obj} {vs : Array Value} {f : Str} {t : Tok} {x1 x2 x3 nm : Str} {np p1 p2 p3 sp ap : Pos} {oM : Obj} {es : Array DictEntry} {nM : Nat} (hc : env.code = .ref a) (ho : s.heap.get? a = some o) (hd : o.data = .fields vs) (hv : vs.getD 18 .none = .str f t)
    (hn : s.heap.objs.size = n) (ha : Nat.ble 29 n = true) (h12 : x1 ≠ x2) (h13 : x1 ≠ x3) (h23 : x2 ≠ x3)
    (hM : s.heap.get? mainNs = some oM) (hMd : oM.data = .dict es nM) (hr : aRefKeyMayBeTheName nm es = false) (hst : ∀ v, PySem.storeName env nm v = PySem.nsSet mainNs nm v) :
    Sm p w c 120 (exec (.Assign [.Name nm np] (.Set [.Constant (.str x1) 0 p1, .Constant (.str x2) 0 p2, .Constant (.str x3) 0 p3] 0 sp) ap) env) pos s .next np
      { s with heap := (s.heap.push (setFin w.params x1 x2 x3 s.toks)).update mainNs (Obj.putName nm (PyData.keyHash w.params nm) (.str nm (s.toks + 6)) (.ref n)), toks := s.toks + 7 } := by
  rw [exec_Assign_Name _ _ _ _ _ (rfl : swapsWith _ _ _ _ = Pure.pure false)]
  refine Sm.mono (k := 119 + 1) (Sm.bind' Sm.at ?_) (by omega)
  refine Sm.mono (k := 39 + 80) (Sm.bind' (Sm.setVal hc ho hd hv hn ha h12 h13 h23) ?_) (by omega)
  refine Sm.mono (k := 38 + 1) (Sm.bind' Sm.at ?_) (by omega)
  refine Sm.mono (k := 0 + 38) (Sm.bind' (a := ()) (pos1 := np) ?_ (Sm.pure _)) (by omega)
  unfold bindName
  refine Sm.mono (k := 37 + 1) (Sm.bind' (Sm.holding (a := ()) Sm.point) ?_) (by omega)
  rw [hst]
  refine Sm.mono (k := 33 + 4) (Sm.bind' (Sm.nsSet (o := oM) (es := es) (n := nM) (Heap.get?_push_of_some _ hM) hMd hr rfl) ?_) (by omega)
  exact Sm.mono Sm.point (by omega)
end
end Mine
end TX26
section TX27
open PySem PySem.W PyProof.Rows
set_option Elab.async false
namespace Mine
set_option maxRecDepth 100000
set_option maxHeartbeats 8000000
noncomputable def stS : Stmt := match bP.drop 19 with
  | s :: _ => s
  | [] => .Pass ⟨0, 0, 0, 0⟩
def x1 : Str := ⟨⟨[103, 104, 111, 115, 116, 116, 121]⟩⟩
def x2 : Str := ⟨⟨[107, 105, 116, 116, 121]⟩⟩
def x3 : Str := ⟨⟨[120, 116, 101, 114, 109]⟩⟩
theorem body_split : bP = topA.sts_33 ++ (topA.sts_73 ++ (topA.sts_131 ++ ([stS] ++ (s2122 ++ (topB.sts_138 ++ (topB.sts_198 ++ (topB.sts_364 ++ []))))))) := by
  kernel_rfl
theorem env_same : topB.env_1 = topA.env_1 := by kernel_rfl
theorem stS_is : ∃ np sp ap p1 p2 p3, stS = .Assign [.Name kName np] (.Set [.Constant (.str x1) 0 p1, .Constant (.str x2) 0 p2, .Constant (.str x3) 0 p3] 0 sp) ap ∧ np = ⟨44, 0, 44, 15⟩ := ⟨⟨44, 0, 44, 15⟩, ⟨44, 18, 44, 47⟩, ⟨44, 0, 44, 47⟩, ⟨44, 19, 44, 28⟩, ⟨44, 30, 44, 37⟩, ⟨44, 39, 44, 46⟩, by unfold stS bP pw; rw [Fast.te194602122574191670]; kernel_rfl, rfl⟩
end Mine
end TX27
section TX28
open PySem PySem.W PyProof.Rows
set_option Elab.async false
namespace Mine
set_option maxRecDepth 100000
set_option maxHeartbeats 8000000
theorem store_is (v : Value) : storeName topA.env_1 kName v = nsSet mainNs kName v := by
  rw [Fast.te7840665131975587533]
  kernel_rfl
noncomputable def o31 (P : Params) : Obj := topA.o_32 P
noncomputable def oM (P : Params) : Obj := topA.o_131 P
noncomputable def vs31 (P : Params) : Array Value := match (o31 P).data with
  | .fields vs => vs
  | _ => #[]
noncomputable def esM (P : Params) : Array DictEntry := match (oM P).data with
  | .dict es _ => es
  | _ => #[]
noncomputable def nM (P : Params) : Nat := match (oM P).data with
  | .dict _ n => n
  | _ => 0
theorem get31 (P : Params) : (topA.tree_132 P).get 31 = some (o31 P) := by kernel_rfl
theorem getM (P : Params) : (topA.tree_132 P).get 3 = some (oM P) := by kernel_rfl
theorem data31 (P : Params) : (o31 P).data = .fields (vs31 P) := by kernel_rfl
theorem dataM (P : Params) : (oM P).data = .dict (esM P) (nM P) := by kernel_rfl
theorem alive31 (P : Params) : alive (o31 P) = some (o31 P) := by kernel_rfl
theorem aliveM (P : Params) : alive (oM P) = some (oM P) := by kernel_rfl
theorem file31 (P : Params) : ∃ f t, (vs31 P).getD 18 .none = .str f t := ⟨_, _, (by unfold vs31 o31; rfl : _ = Value.str _ _)⟩
theorem refM (P : Params) : aRefKeyMayBeTheName kName (esM P) = false := by
  unfold esM oM
  rw [Fast.te10104122937292100513]
  kernel_rfl
end Mine
end TX28
section TX29
open PySem PySem.W PyProof.Rows
set_option Elab.async false
namespace Mine
set_option maxRecDepth 100000
set_option maxHeartbeats 8000000
noncomputable def setP (P : Params) : Obj := setFin P x1 x2 x3 503
theorem piece2 (w : World) (os : OsState) : segRun treeTable pw w 29 (some (.ref 6)) 1 121 (stB (topA.tree_132 w.params) 122 503 os).abs (piecesOf [stS] topA.env_1 cP ⟨43, 0, 43, 16⟩ B0) =
    some (.next, (stB (T21 w.params (setP w.params)) 123 510 os).abs, cP, ⟨44, 0, 44, 15⟩) := by
  obtain ⟨np, sp, ap, p1, p2, p3, e, hnp⟩ := stS_is
  obtain ⟨f, t, hf⟩ := file31 w.params
  have ho : (stB (topA.tree_132 w.params) 122 503 os).abs.heap.get? 31 = some (o31 w.params) := (abs_get (show 31 < 122 by decide) (get31 _)).trans (alive31 _)
  have hM : (stB (topA.tree_132 w.params) 122 503 os).abs.heap.get? mainNs = some (oM w.params) := (abs_get (show 3 < 122 by decide) (getM _)).trans (aliveM _)
  have X := Sm.setStmt (p := pw) (w := w) (c := cP) (pos := ⟨43, 0, 43, 16⟩) (s := (stB (topA.tree_132 w.params) 122 503 os).abs) (env := topA.env_1) (n := 122) (a := 31) (x1 := x1) (x2 := x2) (x3 := x3) (nm := kName) (np := np) (p1 := p1) (p2 := p2) (p3 := p3) (sp := sp) (ap := ap)
    rfl ho (data31 _) hf (absHeap_size _ _ _) (by decide) (by decide) (by decide) (by decide) hM (dataM _) (refM _) store_is
  rw [← e] at X
  have Y := X (fun f => match f with | .next => (execs [] topA.env_1).wrap doneF deadEnd id id | f => doneF f) deadEnd id id 1 (.next, (stB (T21 w.params (setP w.params)) 123 510 os).abs, cP, ⟨44, 0, 44, 15⟩)
  have Z : piecesOf [stS] topA.env_1 cP ⟨43, 0, 43, 16⟩ B0 = ⟨(exec stS topA.env_1).wrap (fun f => match f with | .next => (execs [] topA.env_1).wrap doneF deadEnd id id | f => doneF f) deadEnd id id, cP, ⟨43, 0, 43, 16⟩, B0⟩ := by
    unfold piecesOf
    rw [execs_cons_wrap]
    exact congrArg (fun x => (⟨x, cP, ⟨43, 0, 43, 16⟩, B0⟩ : Thread)) (Sem.wrap_congr _ _ _ (fun f => by cases f <;> rfl) (fun _ => rfl))
  rw [Z]
  refine Y ?_
  have hs : ({ (stB (topA.tree_132 w.params) 122 503 os).abs with heap := ((stB (topA.tree_132 w.params) 122 503 os).abs.heap.push (setFin w.params x1 x2 x3 503)).update mainNs (Obj.putName kName (PyData.keyHash w.params kName) (.str kName (503 + 6)) (.ref 122)), toks := 503 + 7 } : Shared) = (stB (T21 w.params (setP w.params)) 123 510 os).abs := by
    have h1 : absHeap ((topA.tree_132 w.params).ins 122 (setP w.params)) 123 {} = (absHeap (topA.tree_132 w.params) 122 {}).push (setP w.params) := absHeap_ins (by rw [Fast.te8755931279739267558]; kernel_rfl)
    have h2 : absHeap (T21 w.params (setP w.params)) 123 {} = (absHeap ((topA.tree_132 w.params).ins 122 (setP w.params)) 123 {}).update 3 (Obj.putName kName (PyData.keyHash w.params kName) (.str kName 509) (.ref 122)) := absHeap_set (o := oM w.params) (by unfold oM; rw [Fast.te8755931279739267558]; kernel_rfl)
    unfold SharedT.abs
    dsimp only
    rw [h2, h1]
    rfl
  subst hnp
  refine Eq.trans (congrArg (fun s => segRun treeTable pw w 29 an6 1 1 s _) hs) ?_
  rfl
end Mine
end TX29
section TX30
open PySem PySem.W PyProof.Rows
set_option Elab.async false
namespace Mine
set_option maxRecDepth 100000
set_option maxHeartbeats 8000000
noncomputable def H1 (P : Params) : Heap := absHeap (hole (topB.tree_437 P) (setP P)) 336 {}
section
variable (w : World) (os : OsState)
theorem fin1 (s : Shared) (pos : Pos) : topRun treeTable pw w 29 (some (.ref 6)) 5 s (restOf [] topA.env_1 cP pos B0) = some s := by
  refine piece_nil ?_
  obtain ⟨h, g, d, t, os⟩ := s
  rfl
theorem p3 (o : Obj) : segRun treeTable pw w 29 (some (.ref 6)) 1 100 (stB (T21 w.params o) 123 510 os).abs (piecesOf s2122 topA.env_1 cP ⟨44, 0, 44, 15⟩ B0) =
    some (.next, (stB (hole (topB.tree_134 w.params) o) 124 519 os).abs, cP, ⟨46, 0, 46, 8⟩) := by
  have := segRun_of (piece3 pw bP w os o)
  rw [env_same] at this
  exact this
theorem p4 (o : Obj) : segRun treeTable pw w 29 (some (.ref 6)) 1 390 (stB (hole (topB.tree_134 w.params) o) 124 519 os).abs (piecesOf topB.sts_138 topA.env_1 cP ⟨46, 0, 46, 8⟩ B0) =
    some (.next, (stB (hole (topB.tree_196 w.params) o) 181 598 os).abs, cP, ⟨74, 0, 89, 24⟩) := by
  have := segRun_of (piece4 pw bP w os o)
  rw [env_same] at this
  exact this
theorem p5 (o : Obj) : segRun treeTable pw w 29 (some (.ref 6)) 1 (400 + (400 + (400 + 288))) (stB (hole (topB.tree_196 w.params) o) 181 598 os).abs (piecesOf topB.sts_198 topA.env_1 cP ⟨74, 0, 89, 24⟩ B0) =
    some (.next, (stB (hole (topB.tree_282 w.params) o) 264 765 os).abs, cP, ⟨90, 0, 135, 63⟩) := by
  have := seg_go (segGo_of (piece5a pw bP w os o)) (seg_go (segGo_of (piece5b pw bP w os o)) (seg_go (segGo_of (piece5c pw bP w os o)) (segRun_of (piece5d pw bP w os o))))
  rw [env_same] at this
  exact this
theorem p6 (o : Obj) : segRun treeTable pw w 29 (some (.ref 6)) 1 354 (stB (hole (topB.tree_282 w.params) o) 264 765 os).abs (piecesOf topB.sts_364 topA.env_1 cP ⟨90, 0, 135, 63⟩ B0) =
    some (.next, (stB (hole (topB.tree_437 w.params) o) 336 874 os).abs, cP, ⟨218, 0, 244, 87⟩) := by
  have := segRun_of (piece6 pw bP w os o)
  rw [env_same] at this
  exact this
theorem run1 : topRun treeTable pw w 29 (some (.ref 6)) (12 + (1 + (353 + (363 + (59 + (121 + (100 + (390 + ((400 + (400 + (400 + 288))) + (354 + 5)))))))))) ⟨H0 w.params, ⟨[]⟩, {}, 322, os⟩ (topStub pw) = some ⟨H1 w.params, ⟨[]⟩, {}, 874, os⟩ := by
  have a6 := piece_app (p6 w os (setP w.params)) (fin1 w (stB (hole (topB.tree_437 w.params) (setP w.params)) 336 874 os).abs ⟨218, 0, 244, 87⟩)
  have a5 := piece_app (p5 w os (setP w.params)) a6
  have a4 := piece_app (p4 w os (setP w.params)) a5
  have a3 := piece_app (p3 w os (setP w.params)) a4
  have a2 := piece_app (piece2 w os) a3
  have a1 := topA.chain pw bP w os _ _ _ a2
  rw [← body_split] at a1
  have a0 := piece_block (block1 w os) a1
  exact go_top (pre1 w os) a0
end
end Mine
end TX30
section TX31
open PySem PySem.W PyProof.Rows
set_option Elab.async false
namespace Mine
set_option maxRecDepth 100000
set_option maxHeartbeats 8000000
noncomputable def L1 (P : Params) : List Obj := [PySem.W.Fast.tw9760846855949940260 P, PySem.W.Fast.tw4103697074571927504 P, PySem.W.Fast.tw3180693804208245684 P, PySem.W.Fast.tw7596335635005715932 P, PySem.W.Fast.tw9652183336991980293 P, PySem.W.Fast.tw12190211691125598040 P, PySem.W.Fast.tw5190471952715537163 P, PySem.W.Fast.tw10394727026778569316 P, topB.o_9 P, PySem.W.Fast.tw6413068783136119272 P, PySem.W.Fast.tw17573955295757286022 P, PySem.W.Fast.tw11909643831092842192 P, PySem.W.Fast.tw17009405191391768540 P, PySem.W.Fast.tw14291202906365933085 P, PySem.W.Fast.tw15636628052827336165 P, PySem.W.Fast.tw8549002775797699653 P, PySem.W.Fast.tw18270835780859369054 P, PySem.W.Fast.tw8809630265683337921 P, PySem.W.Fast.tw1805692665735351613 P, PySem.W.Fast.tw8613399133472568539 P, PySem.W.Fast.tw5759029675462012447 P, PySem.W.Fast.tw3107258295445867215 P, PySem.W.Fast.tw13076759412542253585 P, PySem.W.Fast.tw527233611595023958 P, PySem.W.Fast.tw18359504147361098333 P, PySem.W.Fast.tw8280158695526870829 P, PySem.W.Fast.tw15445645387852938402 P, topB.o_28 P, PySem.W.Fast.tw4847275646564585852 P, PySem.W.Fast.tw18325786086668635100 P, topB.o_365 P, PySem.W.Fast.tw14969910888582147652 P, PySem.W.Fast.tw16712841151277415752 P, PySem.W.Fast.tw1091071465095677302 P, topB.o_37 P, PySem.W.Fast.tw15781354163045768153 P, PySem.W.Fast.tw9235810779367240213 P, PySem.W.Fast.tw1415154668099703789 P, PySem.W.Fast.tw15731818544138114481 P, PySem.W.Fast.tw1068432330757248880 P, PySem.W.Fast.tw13084183308564325079 P, topB.o_44 P, PySem.W.Fast.tw14424066509194739115 P, PySem.W.Fast.tw6253445671723641044 P, PySem.W.Fast.tw2423863423988435349 P, PySem.W.Fast.tw415846909886930102 P, PySem.W.Fast.tw9988327834490894416 P, PySem.W.Fast.tw12271923605291055546 P, PySem.W.Fast.tw9160094754248434716 P, PySem.W.Fast.tw7167229573973309241 P, PySem.W.Fast.tw13869176906998562048 P, PySem.W.Fast.tw11492803950788509775 P, PySem.W.Fast.tw1640937259174129084 P, PySem.W.Fast.tw14003112402555464107 P, PySem.W.Fast.tw8288738777288974625 P, PySem.W.Fast.tw16842596301151102292 P, PySem.W.Fast.tw10848217281170607825 P, PySem.W.Fast.tw864091515228959103 P, PySem.W.Fast.tw16842960895111817876 P, PySem.W.Fast.tw11240053453196793478 P, PySem.W.Fast.tw6134196816958855182 P, PySem.W.Fast.tw12688497339424806479 P, PySem.W.Fast.tw17263828434085996237 P, PySem.W.Fast.tw2756714340833382841 P, PySem.W.Fast.tw7093881499769973472 P, PySem.W.Fast.tw1565753352382927314 P, PySem.W.Fast.tw9291321059090458594 P, PySem.W.Fast.tw3016643357012796225 P, PySem.W.Fast.tw16948290552142537935 P, PySem.W.Fast.tw17786844586371129957 P, PySem.W.Fast.tw13209286311458224218 P, PySem.W.Fast.tw1819107765549947476 P, PySem.W.Fast.tw14997024927881195983 P, PySem.W.Fast.tw4406487651879914216 P, PySem.W.Fast.tw2422532239648282701 P, PySem.W.Fast.tw13669791356791114463 P, PySem.W.Fast.tw11704381201825566042 P, PySem.W.Fast.tw6187859778150884156 P, PySem.W.Fast.tw7363448593012925797 P, PySem.W.Fast.tw5814541372786277696 P, PySem.W.Fast.tw5287587833553586561 P, PySem.W.Fast.tw10184991136307136681 P, PySem.W.Fast.tw5661391290009018383 P, PySem.W.Fast.tw1379766169073704104 P, PySem.W.Fast.tw5326371426135760360 P, PySem.W.Fast.tw332030567254533130 P, PySem.W.Fast.tw8643034086666686048 P, PySem.W.Fast.tw13677663507631043473 P, PySem.W.Fast.tw10862162140479602319 P, PySem.W.Fast.tw15278197048683976765 P, PySem.W.Fast.tw9070948728537643425 P, PySem.W.Fast.tw888560047831488352 P, PySem.W.Fast.tw5776603826258291972 P, PySem.W.Fast.tw12789522071018026613 P, PySem.W.Fast.tw8021448156127118226 P, PySem.W.Fast.tw9996179943761997128 P, PySem.W.Fast.tw16768008800847978807 P, PySem.W.Fast.tw7695281952059449750 P, PySem.W.Fast.tw2741656608653128463 P, PySem.W.Fast.tw5847763187082628772 P, PySem.W.Fast.tw16107539660577246360 P, PySem.W.Fast.tw17962399820186936969 P, PySem.W.Fast.tw18164038140589570187 P, PySem.W.Fast.tw5706859598873438904 P, PySem.W.Fast.tw3188384802644541898 P, PySem.W.Fast.tw2441219250930421671 P, PySem.W.Fast.tw10857856844172239488 P, PySem.W.Fast.tw18139975224866987632 P, PySem.W.Fast.tw1222824320693890116 P, PySem.W.Fast.tw10787859816129080811 P, PySem.W.Fast.tw17600188375681000114 P, PySem.W.Fast.tw10176016733736520636 P, PySem.W.Fast.tw15061048946366894257 P, PySem.W.Fast.tw1062267599180950504 P, PySem.W.Fast.tw8110359022584582409 P, PySem.W.Fast.tw11756406043067266241 P, PySem.W.Fast.tw13120768005275565087 P, PySem.W.Fast.tw5581394010612489569 P, PySem.W.Fast.tw14809208547131392492 P, PySem.W.Fast.tw13073084302115993551 P, PySem.W.Fast.tw6477500849131270993 P, PySem.W.Fast.tw12854116812127730468 P, setP P, PySem.W.Fast.tw3869746280007503761 P, PySem.W.Fast.tw6142761729854021745 P, PySem.W.Fast.tw6400000210630736867 P, PySem.W.Fast.tw1454898980969862780 P, PySem.W.Fast.tw15929394406436457027 P, topB.o_144 P, PySem.W.Fast.tw3363300780398648388 P, PySem.W.Fast.tw15187304391261803036 P, PySem.W.Fast.tw12342729478438163180 P, topB.o_148 P, PySem.W.Fast.tw15854431510241584268 P, PySem.W.Fast.tw11925685889792193097 P, PySem.W.Fast.tw5379899817963769689 P, PySem.W.Fast.tw3954302879955678860 P, PySem.W.Fast.tw17302128310477496017 P, PySem.W.Fast.tw1348966200946821862 P, PySem.W.Fast.tw16846640466994417194 P, topB.o_156 P, PySem.W.Fast.tw3698464047332940733 P, PySem.W.Fast.tw81808782636533114 P, PySem.W.Fast.tw18178098759855666369 P, PySem.W.Fast.tw7331253170599871900 P, PySem.W.Fast.tw2259882312592877800 P, PySem.W.Fast.tw11963708081696220895 P, topB.o_163 P, PySem.W.Fast.tw2922323509045908349 P, PySem.W.Fast.tw14531867077605251054 P, PySem.W.Fast.tw9398483576017626905 P, PySem.W.Fast.tw7413764235198534183 P, PySem.W.Fast.tw17576419168790473741 P, PySem.W.Fast.tw8151620801538136331 P, topB.o_170 P, PySem.W.Fast.tw15913842509913915071 P, PySem.W.Fast.tw17138566677183766866 P, PySem.W.Fast.tw18395846290578796343 P, PySem.W.Fast.tw790861315033266339 P, PySem.W.Fast.tw2768026129585164015 P, PySem.W.Fast.tw7328495042473595813 P, PySem.W.Fast.tw17426325810888678980 P, PySem.W.Fast.tw11630129038265797975 P, PySem.W.Fast.tw12351132319222255029 P, PySem.W.Fast.tw7736877829592039254 P, PySem.W.Fast.tw11372105748344662674 P, PySem.W.Fast.tw16450536104178974518 P, PySem.W.Fast.tw3176790043482322949 P, topB.o_184 P, PySem.W.Fast.tw4091681557671849752 P, PySem.W.Fast.tw3962315490842771902 P, PySem.W.Fast.tw11151024010657569365 P, PySem.W.Fast.tw8761933817235325384 P, PySem.W.Fast.tw15067812781808075103 P, PySem.W.Fast.tw15104827895860466579 P, topB.o_191 P, PySem.W.Fast.tw17424918152622735466 P, PySem.W.Fast.tw1364460957676718375 P, PySem.W.Fast.tw4386151763958850676 P, PySem.W.Fast.tw8514421511764005379 P, PySem.W.Fast.tw13510328391755620831 P, PySem.W.Fast.tw9271322993098292341 P, PySem.W.Fast.tw15209235811167367777 P, PySem.W.Fast.tw5424257812943421813 P, PySem.W.Fast.tw14657563699267947635 P, PySem.W.Fast.tw4515614408101208123 P, topB.o_205 P, PySem.W.Fast.tw16481920808846699026 P, PySem.W.Fast.tw10494844107451074762 P, PySem.W.Fast.tw15077173086787140167 P, PySem.W.Fast.tw18242996438428699984 P, PySem.W.Fast.tw17385889862671130865 P, PySem.W.Fast.tw15590574861647801716 P, topB.o_212 P, PySem.W.Fast.tw12679280293988026843 P, PySem.W.Fast.tw15025969305044123423 P, PySem.W.Fast.tw11751230532554776694 P, PySem.W.Fast.tw16774011075011868350 P, PySem.W.Fast.tw14332450688418254823 P, PySem.W.Fast.tw2751255634803353625 P, topB.o_219 P, PySem.W.Fast.tw1940754591948105675 P, PySem.W.Fast.tw5608484858752043630 P, PySem.W.Fast.tw1575991907277049201 P, PySem.W.Fast.tw17313931506930736462 P, PySem.W.Fast.tw5266127061736010720 P, PySem.W.Fast.tw17182147790045457950 P, PySem.W.Fast.tw3245879072984753749 P, PySem.W.Fast.tw244834835676983971 P, PySem.W.Fast.tw15980031151089907659 P, PySem.W.Fast.tw17274874756239222628 P, topB.o_230 P, PySem.W.Fast.tw10564370137409804426 P, PySem.W.Fast.tw14392548823458495056 P, PySem.W.Fast.tw15010234259433875619 P, PySem.W.Fast.tw16661250609012025138 P, PySem.W.Fast.tw3684166131829394755 P, PySem.W.Fast.tw7582640598585436586 P, topB.o_237 P, PySem.W.Fast.tw4975622844407292393 P, PySem.W.Fast.tw3428103617411389513 P, PySem.W.Fast.tw16627255407148627862 P, PySem.W.Fast.tw1350521566509059736 P, PySem.W.Fast.tw3942282232840829003 P, PySem.W.Fast.tw18417478208327242427 P, topB.o_244 P, PySem.W.Fast.tw2411530852501407416 P, PySem.W.Fast.tw4601120974354131848 P, PySem.W.Fast.tw13835091021470137686 P, PySem.W.Fast.tw12801378180125262185 P, PySem.W.Fast.tw1793023434824763566 P, PySem.W.Fast.tw9809545452144918850 P, topB.o_251 P, PySem.W.Fast.tw12297848341567302050 P, PySem.W.Fast.tw16424196918447159402 P, PySem.W.Fast.tw2971471015794820124 P, PySem.W.Fast.tw11696122124098466057 P, PySem.W.Fast.tw1933916618668918255 P, PySem.W.Fast.tw15169237875627921333 P, PySem.W.Fast.tw1566276288813745769 P, topB.o_259 P, PySem.W.Fast.tw4552077171132110570 P, PySem.W.Fast.tw948723202957260937 P, topB.o_262 P, PySem.W.Fast.tw11227665430812759838 P, PySem.W.Fast.tw10799911304433619598 P, topB.o_265 P, PySem.W.Fast.tw7718985434450901650 P, PySem.W.Fast.tw2838913800716482923 P, topB.o_268 P, PySem.W.Fast.tw7181076797058289208 P, PySem.W.Fast.tw812215131186609824 P, topB.o_271 P, PySem.W.Fast.tw874429408239952958 P, PySem.W.Fast.tw1936290313653531272 P, topB.o_274 P, PySem.W.Fast.tw227939096478846536 P, PySem.W.Fast.tw14807139044794843419 P, PySem.W.Fast.tw7455255791414234633 P, PySem.W.Fast.tw12948172955251239027 P, PySem.W.Fast.tw14010575857582384495 P, PySem.W.Fast.tw14919195720974537128 P, PySem.W.Fast.tw413820742769637796 P, PySem.W.Fast.tw4640547837796449237 P, PySem.W.Fast.tw10058598167869460799 P, topB.o_367 P, PySem.W.Fast.tw4875958818951149066 P, PySem.W.Fast.tw11503569531032480449 P, PySem.W.Fast.tw8247317142650629975 P, PySem.W.Fast.tw15696772193886179032 P, PySem.W.Fast.tw4327639869342217624 P, PySem.W.Fast.tw3813733544122144241 P, PySem.W.Fast.tw7371067648282307072 P, topB.o_375 P, PySem.W.Fast.tw11700441842553750453 P, PySem.W.Fast.tw11001234289984371691 P, PySem.W.Fast.tw8262219979053062766 P, PySem.W.Fast.tw16587527156775802360 P, PySem.W.Fast.tw10276509397454587181 P, PySem.W.Fast.tw10522305143369684179 P, topB.o_382 P, PySem.W.Fast.tw2397290989887416124 P, PySem.W.Fast.tw4580738760409809068 P, PySem.W.Fast.tw6099845828718693977 P, PySem.W.Fast.tw79456825642181829 P, PySem.W.Fast.tw15957777550174858029 P, PySem.W.Fast.tw11337386613892981311 P, topB.o_389 P, PySem.W.Fast.tw10080103133160093007 P, PySem.W.Fast.tw17823002701152455148 P, PySem.W.Fast.tw3729971862094455005 P, PySem.W.Fast.tw4229363486994002094 P, topB.o_394 P, PySem.W.Fast.tw5072657860642121685 P, PySem.W.Fast.tw6491518149849146631 P, PySem.W.Fast.tw2488201261484087183 P, PySem.W.Fast.tw9418367745700123069 P, PySem.W.Fast.tw7425838310643162416 P, PySem.W.Fast.tw7623566937380620820 P, topB.o_401 P, PySem.W.Fast.tw17693940718569961670 P, PySem.W.Fast.tw5625077759538124843 P, PySem.W.Fast.tw10742640649872585697 P, PySem.W.Fast.tw13294438463989994367 P, PySem.W.Fast.tw18331491178012128757 P, PySem.W.Fast.tw17556714209608815284 P, topB.o_408 P, PySem.W.Fast.tw14609611480905495593 P, PySem.W.Fast.tw15926295421086398926 P, PySem.W.Fast.tw17762271662231008554 P, PySem.W.Fast.tw6793529391796893059 P, PySem.W.Fast.tw2264046558143096966 P, PySem.W.Fast.tw18058436038718788961 P, topB.o_415 P, PySem.W.Fast.tw13407130780326488105 P, PySem.W.Fast.tw3743188623186159329 P, PySem.W.Fast.tw11327467593227198132 P, PySem.W.Fast.tw11886230651148038216 P, PySem.W.Fast.tw2477550841948896316 P, PySem.W.Fast.tw578289910652070889 P, topB.o_422 P, PySem.W.Fast.tw8680513450547153841 P, PySem.W.Fast.tw15931810323970357369 P, PySem.W.Fast.tw17021812644622919958 P, PySem.W.Fast.tw6785750756574280962 P, topB.o_427 P, PySem.W.Fast.tw6246643412818178716 P, PySem.W.Fast.tw13969156183604292475 P, PySem.W.Fast.tw8066077744248049492 P, PySem.W.Fast.tw6427257895419022220 P, PySem.W.Fast.tw3574234572935368966 P, PySem.W.Fast.tw1891995072843732198 P, topB.o_434 P, PySem.W.Fast.tw16697031230057994895 P, PySem.W.Fast.tw3502938836592904809 P, PySem.W.Fast.tw6825997024590310245 P]
noncomputable def H1L (P : Params) : Heap := { objs := ⟨L1 P⟩, life := {} }
theorem H1_is (P : Params) : H1 P = H1L P := by
  unfold H1
  rw [Fast.te5233188400192865514]
  kernel_rfl
theorem size1 (w : World) : ((H0 w.params).isNs mainGlobals && (⟨[]⟩ : Array GenState).size == 0, (H0 w.params).objs.size, (H0 w.params).nsMap mainGlobals "__annotations__") = (true, 29, some (Value.ref 6)) := by
  rw [Fast.te8920871248978507458]
  kernel_rfl
end Mine
end TX31
section TX33
open PySem PySem.W PyProof.Rows
set_option Elab.async false
namespace Mine
set_option maxRecDepth 100000
set_option maxHeartbeats 8000000
noncomputable def qv : Program := view pw [0, 38]
def sIndex : Str := ⟨⟨[105, 110, 100, 101, 120]⟩⟩
def sLaw : Str := ⟨⟨[108, 97, 119]⟩⟩
noncomputable def lo : List Str := pw.boundNames.filter fun n => !(n == sIndex || n == sLaw)
noncomputable def Xt : Shared → Bool := fun s => xlAt qv [] s && recOk [] s
def Yf : Shared → List (Option Obj) := fun s => (List.range 336).map s.heap.get?
noncomputable def Ya : World → List (Option Obj) := fun w => (L1 w.params).map some
noncomputable abbrev S1 (w : World) (os : OsState) : Shared := ⟨H1L w.params, ⟨[]⟩, {}, 874, os⟩
theorem looks1 (w : World) (os : OsState) : (staticsOk (importedModules pw.main.body) (H0 w.params) (H1L w.params) && namesBound pw (H1L w.params) && gensDone (S1 w os) && laidKept (H0 w.params) (H1L w.params)) = true := by
  unfold pw
  rw [Fast.te5923862056798008813, Fast.te194602122574191670]
  kernel_rfl
theorem looks3 (w : World) (os : OsState) : Yf (S1 w os) = Ya w := by
  kernel_rfl
end Mine
end TX33
section TX34
open PySem PySem.W PyProof.Rows
set_option Elab.async false
namespace Mine
set_option maxRecDepth 100000
set_option maxHeartbeats 8000000
theorem looks2 (w : World) (os : OsState) : openSeen qv lo (importedModules pw.main.body) Xt true (S1 w os) = openGood qv lo := by
  unfold lo qv pw
  rw [Fast.te4187177175401517315, Fast.te5923862056798008813, Fast.te194602122574191670]
  kernel_rfl
end Mine
end TX34
section TX35
open PySem PySem.W PyProof.Rows
set_option Elab.async false
namespace Mine
set_option maxRecDepth 100000
set_option maxHeartbeats 8000000
theorem left : LeftO pw qv lo Xt Yf Ya 5000 := by
  refine LeftO.of_pieces (p := pw) (q := qv) (H₀ := H0) (H₁ := H1L) (gs₀ := ⟨[]⟩) (gs₁ := ⟨[]⟩) (d₀ := {}) (d₁ := {}) (k₀ := 322) (k₁ := 874) (m₀ := 29) (ann := some (.ref 6)) (M := 12 + (1 + (353 + (363 + (59 + (121 + (100 + (390 + ((400 + (400 + (400 + 288))) + (354 + 5))))))))))
    opened size1 (fun w os => ?_) (by decide) (fun w => ?_)
  · rw [← H1_is]; exact run1 w os
  · funext os
    rw [looks1 w os, looks2 w os, looks3 w os]
def YP (w : World) (h : Heap) : Prop := ∀ i o, (L1 w.params)[i]? = some o → h.get? i = some o
theorem Y_of (w : World) (s : Shared) (e : Yf s = Ya w) : YP w s.heap := by
  intro i o hi
  have h1 : (Ya w)[i]? = some (some o) := by unfold Ya; rw [List.getElem?_map, hi]; rfl
  rw [← e] at h1
  unfold Yf at h1
  rw [List.getElem?_map] at h1
  obtain ⟨j, hj, hq⟩ := Option.map_eq_some_iff.mp h1
  have : j = i := by
    have hlt : i < 336 := by
      have := (List.getElem?_eq_some_iff.mp hj).1
      simpa using this
    rw [List.getElem?_range hlt] at hj
    exact (Option.some.inj hj).symm
  rw [this] at hq
  exact hq
theorem Y_keeps (w : World) (h h' : Heap) (y : YP w h) (k : ∀ b o, h.get? b = some o → h'.get? b = some o) : YP w h' := fun i o e => k i o (y i o e)
end Mine
end TX35
section TW1
open PySem PySem.W PyProof.Rows
set_option Elab.async false
namespace Mine
abbrev Vol := Addr → Bool
def freed : Obj := { cls := .none, data := .freed }
def hide (V : Vol) (h : Heap) : Heap := { h with objs := h.objs.mapIdx fun i o => if V i then freed else o }
theorem hide_get (V : Vol) (h : Heap) (a : Addr) : (hide V h).get? a = if V a then none else h.get? a := by
  unfold hide Heap.get?
  simp only [Array.getElem?_mapIdx]
  cases h.objs[a]? with
  | none => simp
  | some o =>
    simp only [Option.map_some]
    by_cases hv : V a = true
    · simp [hv, freed]
    · simp only [hv, if_false]; rfl
theorem hide_some {V : Vol} {h : Heap} {a : Addr} {o : Obj} : (hide V h).get? a = some o ↔ V a = false ∧ h.get? a = some o := by
  rw [hide_get]
  cases V a <;> simp
/-- growth but for the places of V -/
structure Up (V : Vol) (h h' : Heap) : Prop where
  keep : ∀ a o, V a = false → h.get? a = some o → h'.get? a = some o
  size : h.objs.size ≤ h'.objs.size
theorem Up.refl {V : Vol} {h : Heap} : Up V h h := ⟨fun _ _ _ e => e, Nat.le_refl _⟩
theorem Up.trans {V : Vol} {h h' h'' : Heap} (x : Up V h h') (y : Up V h' h'') : Up V h h'' := ⟨fun a o v e => y.keep a o v (x.keep a o v e), Nat.le_trans x.size y.size⟩
def Grow (h h' : Heap) : Prop := Up (fun _ => false) h h'
theorem Grow.refl {h : Heap} : Grow h h := Up.refl
theorem Grow.trans {h h' h'' : Heap} (x : Grow h h') (y : Grow h' h'') : Grow h h'' := Up.trans x y
theorem Grow.up {V : Vol} {h h' : Heap} (x : Grow h h') : Up V h h' := ⟨fun a o _ e => x.keep a o rfl e, x.size⟩
theorem Grow.keeps {h h' : Heap} (x : Grow h h') : ∀ b o, h.get? b = some o → h'.get? b = some o := fun a o e => x.keep a o rfl e
theorem Grow.push {h : Heap} (o : Obj) : Grow h (h.push o) := ⟨fun _ _ _ e => Heap.get?_push_of_some _ e, by rw [Heap.size_push]; omega⟩
theorem Up.hide {V : Vol} {h h' : Heap} (x : Up V h h') : ∀ b o, (hide V h).get? b = some o → (Mine.hide V h').get? b = some o := fun a o e => by
  obtain ⟨v, e⟩ := hide_some.mp e
  exact hide_some.mpr ⟨v, x.keep a o v e⟩
theorem hide_keeps {V : Vol} {h : Heap} : ∀ b o, (hide V h).get? b = some o → h.get? b = some o := fun _ _ e => (hide_some.mp e).2

inductive Bnd where
  | dat (d : PyData)
  | raw (v : Value)
def Has (V : Vol) (h : Heap) (v : Value) : Bnd → Prop
  | .dat d => ∃ as, Reads (hide V h) v d as
  | .raw u => v = u
theorem Has.up {V : Vol} {h h' : Heap} {v : Value} {b : Bnd} (x : Has V h v b) (u : Up V h h') : Has V h' v b := by
  cases b with
  | dat d => obtain ⟨as, r⟩ := x; exact ⟨as, Reads.keeps u.hide r⟩
  | raw _ => exact x
abbrev Dat (V : Vol) (h : Heap) (v : Value) (d : PyData) : Prop := Has V h v (.dat d)
theorem Has.reads {V : Vol} {h : Heap} {v : Value} {d : PyData} (x : Dat V h v d) : ∃ as, Reads h v d as := let ⟨as, r⟩ := x; ⟨as, Reads.keeps hide_keeps r⟩
theorem Has.vol {V V' : Vol} {h h' : Heap} {v : Value} {b : Bnd} (x : Has V h v b) (k : ∀ a o, V a = false → h.get? a = some o → V' a = false ∧ h'.get? a = some o) : Has V' h' v b := by
  cases b with
  | dat d => obtain ⟨as, r⟩ := x; exact ⟨as, Reads.keeps (fun a o e => hide_some.mpr (k a o (hide_some.mp e).1 (hide_some.mp e).2)) r⟩
  | raw _ => exact x

def VOk (V : Vol) (h : Heap) : Prop := ∀ a, V a = true → a < h.objs.size
def Gl (P : Params) (h : Heap) : Prop := ∀ i o, i ≠ 175 → (L1 P)[i]? = some o → h.get? i = some o
def holdsCell (h : Heap) (c : Addr) (v : Option Value) : Prop := h.IsCell c v
/-- the place of a name: what loading it tells -/
def NameIs (env : Env) (h : Heap) (x : Str) (v : Value) : Prop :=
  (env.kindOf x = some .local ∧ ∃ m, h.Ns env.locals m ∧ m x = some v) ∨
  ((env.kindOf x = some .cell ∨ env.kindOf x = some .free) ∧ ∃ c, env.cells.lookup x = some c ∧ h.IsCell c (some v))
theorem NameIs.keeps {env : Env} {h h' : Heap} {x : Str} {v : Value} (n : NameIs env h x v) (k : ∀ b o, h.get? b = some o → h'.get? b = some o) : NameIs env h' x v := by
  rcases n with ⟨a, m, b, c⟩ | ⟨a, c, b, d⟩
  · exact .inl ⟨a, m, b.keeps k, c⟩
  · obtain ⟨o, e, q⟩ := d
    exact .inr ⟨a, c, b, o, k _ _ e, q⟩
/-- the places of a frame -/
def frm (env : Env) : Vol := fun a => a == env.locals || env.cells.any fun x => x.2 == a && env.cells.lookup x.1 == some a
theorem frm_locals (env : Env) : frm env env.locals = true := by simp [frm]
theorem frm_cell {env : Env} {x : Str} {c : Addr} (e : env.cells.lookup x = some c) : frm env c = true := by
  unfold frm
  rw [Bool.or_eq_true_iff]
  exact .inr (List.any_eq_true.mpr ⟨(x, c), mem_of_lookup e, by simp [e]⟩)
theorem frm_cases {env : Env} {a : Addr} (e : frm env a = true) : a = env.locals ∨ ∃ x, env.cells.lookup x = some a := by
  unfold frm at e
  rcases Bool.or_eq_true_iff.mp e with e | e
  · exact .inl (by simpa using e)
  · obtain ⟨⟨x, c⟩, _, q⟩ := List.any_eq_true.mp e
    obtain ⟨_, q⟩ := Bool.and_eq_true_iff.mp q
    exact .inr ⟨x, by simpa using q⟩
/-- the places that the body itself stores to -/
def own (env : Env) : Vol := fun a => a == env.locals || env.frame == some env.locals && frm env a
theorem own_frm {env : Env} {a : Addr} (e : own env a = true) : frm env a = true := by
  unfold own at e
  rcases Bool.or_eq_true_iff.mp e with e | e
  · rw [show a = env.locals by simpa using e]; exact frm_locals env
  · exact (Bool.and_eq_true_iff.mp e).2
theorem own_no {env : Env} {a : Addr} (e : frm env a = false) : own env a = false := by
  cases h : own env a
  · rfl
  · rw [own_frm h] at e; cases e
theorem own_locals (env : Env) : own env env.locals = true := by simp [own]
theorem own_cell {env : Env} {x : Str} {c : Addr} (h : env.frame = some env.locals) (e : env.cells.lookup x = some c) : own env c = true := by
  unfold own
  rw [h, frm_cell e, beq_self_eq_true, Bool.and_true, Bool.or_true]
/-- what stays the same beside the heap -/
structure Sa (s s' : Shared) : Prop where
  gens : s'.gens = s.gens
  os : s'.os = s.os
theorem Sa.refl {s : Shared} : Sa s s := ⟨rfl, rfl⟩
theorem Sa.trans {s s' s'' : Shared} (x : Sa s s') (y : Sa s' s'') : Sa s s'' := ⟨y.gens.trans x.gens, y.os.trans x.os⟩

/-- room for calls, one in another -/
structure Rm (A : Around) (n : Nat) : Prop where
  hn : A.handled = none
  depth : A.depth + n < 900
  units : A.units + 20 * n < 5000
structure Cx where
  lv : Nat
  w : World
  A : Around
  V : Vol
  W : Vol
  env : Env
  ρ : List (Str × Bnd)
  s₀ : Shared
  J : Heap → Prop
structure Cx.Ok (c : Cx) : Prop where
  fn : c.env.scope.kind = .function
  gb : c.env.globals = 3
  bi : c.env.builtins = 0
  rm : Rm c.A c.lv
  fw : ∀ a, frm c.env a = true → c.W a = true
  wv : ∀ a, c.W a = true → c.V a = true
  stab : ∀ h h', Up (own c.env) h h' → c.J h → c.J h'
  lc : ∀ x d, c.env.cells.lookup x = some d → d ≠ c.env.locals
  ap : ∀ x y d, c.env.cells.lookup x = some d → c.env.cells.lookup y = some d → x = y
  old : ∀ a, a < 336 → a ≠ 175 → c.V a = false
  vtab : c.V 175 = true
/-- where a name's value lies -/
def Lies (env : Env) (m cm : Str → Option Value) (x : Str) (v : Value) : Prop :=
  (env.kindOf x = some .local ∧ m x = some v) ∨ ((env.kindOf x = some .cell ∨ env.kindOf x = some .free) ∧ (env.cells.lookup x).isSome = true ∧ cm x = some v)
structure Fra (V : Vol) (env : Env) (ρ : List (Str × Bnd)) (h : Heap) (m cm : Str → Option Value) : Prop where
  ns : h.Ns env.locals m
  cell : ∀ n d, env.cells.lookup n = some d → h.IsCell d (cm n)
  nm : ∀ x b, ρ.lookup x = some b → ∃ v, Lies env m cm x v ∧ Has V h v b
theorem Fra.keeps {V : Vol} {env : Env} {ρ : List (Str × Bnd)} {h h' : Heap} {m cm : Str → Option Value} (x : Fra V env ρ h m cm) (g : Grow h h') : Fra V env ρ h' m cm :=
  ⟨x.ns.keeps g.keeps, fun n d e => let ⟨o, p, q⟩ := x.cell n d e; ⟨o, g.keeps _ _ p, q⟩, fun y b e => let ⟨v, p, q⟩ := x.nm y b e; ⟨v, p, q.up g.up⟩⟩
structure Cx.St (c : Cx) (s : Shared) : Prop where
  gl : Gl c.w.params s.heap
  vok : VOk c.V s.heap
  fr : ∃ m cm, Fra c.V c.env c.ρ s.heap m cm
  up : Up c.W c.s₀.heap s.heap
  sa : Sa c.s₀ s
  j : c.J s.heap
theorem Cx.St.nm {c : Cx} {s : Shared} (t : c.St s) (x : Str) (b : Bnd) (e : c.ρ.lookup x = some b) : ∃ v, NameIs c.env s.heap x v ∧ Has c.V s.heap v b := by
  obtain ⟨m, cm, f⟩ := t.fr
  obtain ⟨v, l, q⟩ := f.nm x b e
  refine ⟨v, ?_, q⟩
  rcases l with ⟨k, p⟩ | ⟨k, i, p⟩
  · exact .inl ⟨k, m, f.ns, p⟩
  · obtain ⟨d, hd⟩ := Option.isSome_iff_exists.mp i
    exact .inr ⟨k, d, hd, p ▸ f.cell x d hd⟩
theorem Cx.St.grow {c : Cx} (ok : c.Ok) {s s' : Shared} (x : c.St s) (g : Grow s.heap s'.heap) (a : Sa s s') : c.St s' :=
  ⟨fun i o n e => g.keeps _ _ (x.gl i o n e), fun a e => Nat.lt_of_lt_of_le (x.vok a e) g.size, let ⟨m, cm, f⟩ := x.fr; ⟨m, cm, f.keeps g⟩,
    x.up.trans g.up, x.sa.trans a, ok.stab _ _ g.up x.j⟩
/-- a tree that tells a value, and only makes new things -/
def Pv (c : Cx) (s : Shared) (m : Sem Value) (b : Bnd) : Prop :=
  wpAny (model pw c.w) c.A m (fun v s' => Grow s.heap s'.heap ∧ Sa s s' ∧ Has c.V s'.heap v b) (fun _ _ => False) s
def Pu (c : Cx) (e : Expr) (b : Bnd) : Prop := ∀ s, c.St s → Pv c s (eval e c.env) b
abbrev Pd (c : Cx) (e : Expr) (d : PyData) : Prop := Pu c e (.dat d)
def Ev (c : Cx) (s : Shared) (m : Sem Value) (B : Bnd → Prop) : Prop :=
  wpAny (model pw c.w) c.A m (fun v s' => Up c.V s.heap s'.heap ∧ c.St s' ∧ ∃ b, B b ∧ Has c.V s'.heap v b) (fun _ _ => False) s
def Ex (c : Cx) (e : Expr) (B : Bnd → Prop) : Prop := ∀ s, c.St s → Ev c s (eval e c.env) B
theorem Pu.ex {c : Cx} (ok : c.Ok) {e : Expr} {b : Bnd} (x : Pu c e b) : Ex c e (· = b) := fun s t =>
  wpAny_mono (x s t) (fun _ _ ⟨g, a, h⟩ => ⟨g.up, t.grow ok g a, b, rfl, h⟩) fun _ _ f => f
/-- a test -/
def Te (c : Cx) (e : Expr) (t : Bool) : Prop := ∀ s, c.St s →
  wpAny (model pw c.w) c.A (isTrue e c.env (eval e c.env)) (fun t' s' => Grow s.heap s'.heap ∧ Sa s s' ∧ t' = t) (fun _ _ => False) s
def HasAll (V : Vol) (h : Heap) : List Value → List Bnd → Prop
  | [], [] => True
  | v :: vs, b :: bs => Has V h v b ∧ HasAll V h vs bs
  | _, _ => False
theorem HasAll.up {V : Vol} {h h' : Heap} (u : Up V h h') : ∀ {vs : List Value} {bs : List Bnd}, HasAll V h vs bs → HasAll V h' vs bs
  | [], [], _ => trivial
  | _ :: _, _ :: _, ⟨a, b⟩ => ⟨a.up u, HasAll.up u b⟩
  | [], _ :: _, x => x.elim
  | _ :: _, [], x => x.elim
theorem HasAll.length {V : Vol} {h : Heap} : ∀ {vs : List Value} {bs : List Bnd}, HasAll V h vs bs → vs.length = bs.length
  | [], [], _ => rfl
  | _ :: _, _ :: _, ⟨_, b⟩ => congrArg (· + 1) (HasAll.length b)
  | [], _ :: _, x => x.elim
  | _ :: _, [], x => x.elim
def Pa (c : Cx) (es : List Expr) (bs : List Bnd) : Prop := ∀ s (pos : Pos), c.St s →
  wpAny (model pw c.w) c.A (spliced (backTo pos (starEach es c.env))) (fun vs s' => Grow s.heap s'.heap ∧ Sa s s' ∧ HasAll c.V s'.heap vs bs) (fun _ _ => False) s
end Mine
end TW1
section TW2
open PySem PySem.W PyProof.Rows
set_option Elab.async false
namespace Mine
section
variable {c : Cx} {s : Shared}
theorem Pv.pure {v : Value} {b : Bnd} (h : Has c.V s.heap v b) : wpAny (model pw c.w) c.A (Pure.pure v) (fun v s' => Grow s.heap s'.heap ∧ Sa s s' ∧ Has c.V s'.heap v b) (fun _ _ => False) s := wpAny_pure ⟨Grow.refl, Sa.refl, h⟩
theorem hasInt (V : Vol) (h : Heap) (i : Int) (t : Tok) : Dat V h (.int i t) (.int i) := ⟨_, .int i t⟩
theorem hasStr (V : Vol) (h : Heap) (x : PySem.Str) (t : Tok) : Dat V h (.str x t) (.str x) := ⟨_, .str x t⟩
theorem hasBool (V : Vol) (h : Heap) (b : Bool) : Dat V h (.bool b) (.bool b) := ⟨_, .bool b⟩
theorem hasNone (V : Vol) (h : Heap) : Dat V h .none .none := ⟨_, .none⟩
theorem Dat.int {V : Vol} {h : Heap} {v : Value} {i : Int} (x : Dat V h v (.int i)) : ∃ t, v = .int i t := by
  obtain ⟨_, r⟩ := x; cases r; exact ⟨_, rfl⟩
theorem Dat.str {V : Vol} {h : Heap} {v : Value} {i : PySem.Str} (x : Dat V h v (.str i)) : ∃ t, v = .str i t := by
  obtain ⟨_, r⟩ := x; cases r; exact ⟨_, rfl⟩
theorem Dat.bool {V : Vol} {h : Heap} {v : Value} {i : Bool} (x : Dat V h v (.bool i)) : v = .bool i := by
  obtain ⟨_, r⟩ := x; cases r; rfl
theorem Dat.none {V : Vol} {h : Heap} {v : Value} (x : Dat V h v .none) : v = .none := by
  obtain ⟨_, r⟩ := x; cases r; rfl
theorem tokUp {α : Type} {s : Shared} {t : Tok} : Grow s.heap ({ s with toks := t } : Shared).heap ∧ Sa s { s with toks := t } := ⟨Grow.refl, ⟨rfl, rfl⟩⟩
theorem Pu.int {i : Int} {k : Nat} {pos : Pos} : Pd c (.Constant (.int i) k pos) (.int i) := fun s _ => wpAny_Constant_int ⟨Grow.refl, ⟨rfl, rfl⟩, hasInt ..⟩
theorem Pu.str {x : PySem.Str} {k : Nat} {pos : Pos} : Pd c (.Constant (.str x) k pos) (.str x) := fun s _ => wpAny_Constant_str ⟨Grow.refl, ⟨rfl, rfl⟩, hasStr ..⟩
theorem Pu.bool {x : Bool} {k : Nat} {pos : Pos} : Pd c (.Constant (.bool x) k pos) (.bool x) := fun s _ => wpAny_Constant_bool ⟨Grow.refl, ⟨rfl, rfl⟩, hasBool ..⟩
theorem Pu.none {k : Nat} {pos : Pos} : Pd c (.Constant .none k pos) .none := fun s _ => wpAny_Constant_none ⟨Grow.refl, ⟨rfl, rfl⟩, hasNone ..⟩
theorem NameIs.load {M : Model} {A : Around} {env : Env} {x : PySem.Str} {v : Value} {E : Value → Shared → Prop} {Q : Value → Shared → Prop} (n : NameIs env s.heap x v) (hk : env.scope.kind = .function) (h : Q v s)
    (hc : (x == ("__classdict__" : PySem.Str)) = false) : wpAny M A (loadName env x) Q E s := by
  rcases n with ⟨a, m, b, d⟩ | ⟨a, d, b, e⟩
  · exact wpAny_loadName_local hk a b d h
  · rcases a with a | a
    · exact wpAny_loadName_cell hk a b e h
    · exact wpAny_loadName_free hk a b e h hc
theorem Pu.name (ok : c.Ok) {x : PySem.Str} {b : Bnd} {pos : Pos} (h : c.ρ.lookup x = some b) (hd : ((x == ("__debug__" : PySem.Str)) || (x == ("__classdict__" : PySem.Str))) = false := by decide) : Pu c (.Name x pos) b := fun s t => by
  obtain ⟨h1, h2⟩ := Bool.or_eq_false_iff.mp hd
  obtain ⟨v, n, q⟩ := t.nm x b h
  exact wpAny_Name (n.load ok.fn ⟨Grow.refl, Sa.refl, q⟩ h2) h1
theorem Pu.bin (ok : c.Ok) {e1 e2 : Expr} {op : Operator} {pos : Pos} {b1 b2 b : Bnd} (x : Pu c e1 b1) (y : Pu c e2 b2)
    (h : ∀ s u v, c.St s → Has c.V s.heap u b1 → Has c.V s.heap v b2 → Pv c s (binaryOp op u v) b) : Pu c (.BinOp e1 op e2 pos) b := fun s t => by
  refine wpAny_BinOp (wpAny_mono (x s t) (fun u s1 ⟨g1, a1, h1⟩ => ?_) fun _ _ f => f)
  have t1 := t.grow ok g1 a1
  refine wpAny_mono (y s1 t1) (fun v s2 ⟨g2, a2, h2⟩ => ?_) fun _ _ f => f
  have t2 := t1.grow ok g2 a2
  exact wpAny_mono (h s2 u v t2 (h1.up g2.up) h2) (fun r s3 ⟨g3, a3, h3⟩ => ⟨(g1.trans g2).trans g3, (a1.trans a2).trans a3, h3⟩) fun _ _ f => f
theorem Pu.add (ok : c.Ok) {e1 e2 : Expr} {pos : Pos} {i j : Int} (x : Pd c e1 (.int i)) (y : Pd c e2 (.int j)) : Pd c (.BinOp e1 .Add e2 pos) (.int (i + j)) :=
  Pu.bin ok x y fun s u v t hu hv => by
    obtain ⟨_, rfl⟩ := Dat.int hu; obtain ⟨_, rfl⟩ := Dat.int hv
    exact PyProof.Rows.add_int ⟨Grow.refl, ⟨rfl, rfl⟩, hasInt ..⟩
theorem Pu.sub (ok : c.Ok) {e1 e2 : Expr} {pos : Pos} {i j : Int} (x : Pd c e1 (.int i)) (y : Pd c e2 (.int j)) : Pd c (.BinOp e1 .Sub e2 pos) (.int (i - j)) :=
  Pu.bin ok x y fun s u v t hu hv => by
    obtain ⟨_, rfl⟩ := Dat.int hu; obtain ⟨_, rfl⟩ := Dat.int hv
    exact PyProof.Rows.sub_int ⟨Grow.refl, ⟨rfl, rfl⟩, hasInt ..⟩
theorem Pu.mul (ok : c.Ok) {e1 e2 : Expr} {pos : Pos} {i j : Int} (x : Pd c e1 (.int i)) (y : Pd c e2 (.int j)) (hm : IntMulOk i j) : Pd c (.BinOp e1 .Mult e2 pos) (.int (i * j)) :=
  Pu.bin ok x y fun s u v t hu hv => by
    obtain ⟨_, rfl⟩ := Dat.int hu; obtain ⟨_, rfl⟩ := Dat.int hv
    exact PyProof.Rows.mul_int ⟨Grow.refl, ⟨rfl, rfl⟩, hasInt ..⟩ hm
theorem Pu.mod (ok : c.Ok) {e1 e2 : Expr} {pos : Pos} {i j : Int} (x : Pd c e1 (.int i)) (y : Pd c e2 (.int j)) (hm : j ≠ 0) : Pd c (.BinOp e1 .Mod e2 pos) (.int (i.fmod j)) :=
  Pu.bin ok x y fun s u v t hu hv => by
    obtain ⟨_, rfl⟩ := Dat.int hu; obtain ⟨_, rfl⟩ := Dat.int hv
    exact PyProof.Rows.mod_int' hm ⟨Grow.refl, ⟨rfl, rfl⟩, hasInt ..⟩
theorem Pu.fdiv (ok : c.Ok) {e1 e2 : Expr} {pos : Pos} {i j : Int} (x : Pd c e1 (.int i)) (y : Pd c e2 (.int j)) (hm : j ≠ 0) (hp : Builtin.divisionGoesByPylong i j = false) : Pd c (.BinOp e1 .FloorDiv e2 pos) (.int (i.fdiv j)) :=
  Pu.bin ok x y fun s u v t hu hv => by
    obtain ⟨_, rfl⟩ := Dat.int hu; obtain ⟨_, rfl⟩ := Dat.int hv
    exact PyProof.Rows.floordiv_int (hp := .inl hp) hm ⟨Grow.refl, ⟨rfl, rfl⟩, hasInt ..⟩
theorem Pu.neg (ok : c.Ok) {e : Expr} {pos : Pos} {i : Int} (x : Pd c e (.int i)) : Pd c (.UnaryOp .USub e pos) (.int (-i)) := fun s t => by
  refine wpAny_UnaryOp (wpAny_mono (x s t) (fun u s1 ⟨g1, a1, h1⟩ => ?_) fun _ _ f => f)
  obtain ⟨_, rfl⟩ := Dat.int h1
  exact PyProof.Rows.neg_int ⟨g1, ⟨a1.gens, a1.os⟩, hasInt ..⟩
/-- one comparison, told as a bool -/
theorem Pu.cmp (ok : c.Ok) {e1 e2 : Expr} {op : CmpOp} {pos : Pos} {b1 b2 : Bnd} {r : Bool} (x : Pu c e1 b1) (y : Pu c e2 b2)
    (h : ∀ s u v, c.St s → Has c.V s.heap u b1 → Has c.V s.heap v b2 → Pv c s (compareOp op u v) (.dat (.bool r))) (hm : behindInMarks op e2 = false := by with_unfolding_all rfl) : Pd c (.Compare e1 [op] [e2] pos) (.bool r) := fun s t => by
  refine wpAny_Compare1 (wpAny_mono (x s t) (fun u s1 ⟨g1, a1, h1⟩ => ?_) fun _ _ f => f) hm
  have t1 := t.grow ok g1 a1
  refine wpAny_mono (y s1 t1) (fun v s2 ⟨g2, a2, h2⟩ => ?_) fun _ _ f => f
  have t2 := t1.grow ok g2 a2
  exact wpAny_mono (h s2 u v t2 (h1.up g2.up) h2) (fun r s3 ⟨g3, a3, h3⟩ => ⟨(g1.trans g2).trans g3, (a1.trans a2).trans a3, h3⟩) fun _ _ f => f
theorem Te.cmp (ok : c.Ok) {e1 e2 : Expr} {op : CmpOp} {pos : Pos} {b1 b2 : Bnd} {r : Bool} (x : Pu c e1 b1) (y : Pu c e2 b2)
    (h : ∀ s u v, c.St s → Has c.V s.heap u b1 → Has c.V s.heap v b2 → Pv c s (compareOp op u v) (.dat (.bool r))) (hm : behindInMarks op e2 = false := by with_unfolding_all rfl) : Te c (.Compare e1 [op] [e2] pos) r := fun s t => by
  refine wpAny_isTrue_Compare1 (wpAny_mono (x s t) (fun u s1 ⟨g1, a1, h1⟩ => ?_) fun _ _ f => f) hm
  have t1 := t.grow ok g1 a1
  refine wpAny_mono (y s1 t1) (fun v s2 ⟨g2, a2, h2⟩ => ?_) fun _ _ f => f
  have t2 := t1.grow ok g2 a2
  refine wpAny_mono (h s2 u v t2 (h1.up g2.up) h2) (fun r s3 ⟨g3, a3, h3⟩ => ?_) fun _ _ f => f
  obtain rfl := Dat.bool h3
  exact wpAny_truthy_bool ⟨(g1.trans g2).trans g3, (a1.trans a2).trans a3, rfl⟩
theorem cLt {i j : Int} {s : Shared} {u v : Value} (hu : Dat c.V s.heap u (.int i)) (hv : Dat c.V s.heap v (.int j)) : Pv c s (compareOp .Lt u v) (.dat (.bool (decide (i < j)))) := by
  obtain ⟨_, rfl⟩ := Dat.int hu; obtain ⟨_, rfl⟩ := Dat.int hv
  exact PyProof.Rows.lt_int ⟨Grow.refl, ⟨rfl, rfl⟩, hasBool ..⟩
theorem cGt {i j : Int} {s : Shared} {u v : Value} (hu : Dat c.V s.heap u (.int i)) (hv : Dat c.V s.heap v (.int j)) : Pv c s (compareOp .Gt u v) (.dat (.bool (decide (j < i)))) := by
  obtain ⟨_, rfl⟩ := Dat.int hu; obtain ⟨_, rfl⟩ := Dat.int hv
  exact PyProof.Rows.gt_int ⟨Grow.refl, ⟨rfl, rfl⟩, hasBool ..⟩
theorem cLe {i j : Int} {s : Shared} {u v : Value} (hu : Dat c.V s.heap u (.int i)) (hv : Dat c.V s.heap v (.int j)) : Pv c s (compareOp .LtE u v) (.dat (.bool (decide (i ≤ j)))) := by
  obtain ⟨_, rfl⟩ := Dat.int hu; obtain ⟨_, rfl⟩ := Dat.int hv
  exact PyProof.Rows.le_int ⟨Grow.refl, ⟨rfl, rfl⟩, hasBool ..⟩
theorem cGe {i j : Int} {s : Shared} {u v : Value} (hu : Dat c.V s.heap u (.int i)) (hv : Dat c.V s.heap v (.int j)) : Pv c s (compareOp .GtE u v) (.dat (.bool (decide (j ≤ i)))) := by
  obtain ⟨_, rfl⟩ := Dat.int hu; obtain ⟨_, rfl⟩ := Dat.int hv
  exact PyProof.Rows.ge_int ⟨Grow.refl, ⟨rfl, rfl⟩, hasBool ..⟩
theorem cEq (ok : c.Ok) {d e : PyData} {s : Shared} {u v : Value} (hu : Dat c.V s.heap u d) (hv : Dat c.V s.heap v e) (l1 : PySem.SeqAt.shaped d = true) (l2 : PySem.SeqAt.shaped e = true) : Pv c s (compareOp .Eq u v) (.dat (.bool (PyData.eqv d e))) := by
  obtain ⟨_, r1⟩ := Has.reads hu; obtain ⟨_, r2⟩ := Has.reads hv
  exact eq_dataH r1 r2 l1 l2 (by have := ok.rm.units; have : cLine = 9900 := rfl; omega) ⟨Grow.refl, ⟨rfl, rfl⟩, hasBool ..⟩
theorem cNe (ok : c.Ok) {d e : PyData} {s : Shared} {u v : Value} (hu : Dat c.V s.heap u d) (hv : Dat c.V s.heap v e) (l1 : PySem.SeqAt.shaped d = true) (l2 : PySem.SeqAt.shaped e = true) : Pv c s (compareOp .NotEq u v) (.dat (.bool (!PyData.eqv d e))) := by
  obtain ⟨_, r1⟩ := Has.reads hu; obtain ⟨_, r2⟩ := Has.reads hv
  exact ne_dataH r1 r2 l1 l2 (by have := ok.rm.units; have : cLine = 9900 := rfl; omega) ⟨Grow.refl, ⟨rfl, rfl⟩, hasBool ..⟩
theorem cIs {d : PyData} {s : Shared} {u v : Value} (hu : Dat c.V s.heap u d) (hv : Dat c.V s.heap v .none) : Pv c s (compareOp .Is u v) (.dat (.bool (match d with | .none => true | _ => false))) := by
  obtain rfl := Dat.none hv
  refine is_none ⟨Grow.refl, ⟨rfl, rfl⟩, ?_⟩
  obtain ⟨_, r⟩ := hu
  cases r <;> exact hasBool ..
theorem cIsNot {d : PyData} {s : Shared} {u v : Value} (hu : Dat c.V s.heap u d) (hv : Dat c.V s.heap v .none) : Pv c s (compareOp .IsNot u v) (.dat (.bool (match d with | .none => false | _ => true))) := by
  obtain rfl := Dat.none hv
  refine isNot_none ⟨Grow.refl, ⟨rfl, rfl⟩, ?_⟩
  obtain ⟨_, r⟩ := hu
  cases r <;> exact hasBool ..
end
end Mine
end TW2
section TW3
open PySem PySem.W PyProof.Rows
set_option Elab.async false
namespace Mine
set_option maxRecDepth 100000
noncomputable def esOf (o : Option Obj) : Array DictEntry := match o with | some ⟨_, _, .dict es _, _⟩ => es | _ => #[]
noncomputable def gmap (P : Params) : PySem.Str → Option Value := nsFind (esOf (L1 P)[3]?)
noncomputable def bmap (P : Params) : PySem.Str → Option Value := nsFind (esOf (L1 P)[0]?)
def keysOk (es : Array DictEntry) : Bool := es.toList.all fun e => match e.key with | .str _ _ => true | _ => false
theorem keysOk.keys {es : Array DictEntry} (h : keysOk es = true) : StrKeys es := by
  intro e he
  have := List.all_eq_true.mp h e (by simpa using he)
  split at this
  · exact ⟨_, _, by assumption⟩
  · cases this
theorem Gl.ns3 {P : Params} {h : Heap} (g : Gl P h) : h.Ns 3 (gmap P) :=
  ⟨_, _, _, g 3 _ (by decide) (by rfl), (by rfl), keysOk.keys (by kernel_rfl), fun _ => by kernel_rfl⟩
theorem Gl.ns0 {P : Params} {h : Heap} (g : Gl P h) : h.Ns 0 (bmap P) :=
  ⟨_, _, _, g 0 _ (by decide) (by rfl), (by rfl), keysOk.keys (by kernel_rfl), fun _ => by kernel_rfl⟩
def sBisearch : PySem.Str := ⟨⟨[98, 105, 115, 101, 97, 114, 99, 104]⟩⟩
theorem g_test (P : Params) : gmap P ("_law_take" : PySem.Str) = some (.ref 297) := by kernel_rfl
theorem g_test2 (P : Params) : gmap P ("len" : PySem.Str) = none := by kernel_rfl
theorem b_test2 (P : Params) : bmap P ("len" : PySem.Str) = some (.builtin "len") := by kernel_rfl
end Mine
end TW3
section TW4
open PySem PySem.W PyProof.Rows
set_option Elab.async false
namespace Mine
theorem hasAll_of_reads {V : Vol} {h : Heap} : ∀ {vs : List Value} {ds : List PyData} {as : List Addr}, ReadsAll (hide V h) vs ds as → HasAll V h vs (ds.map .dat)
  | _, _, _, .nil => trivial
  | _, _, _, .cons r rs => ⟨⟨_, r⟩, hasAll_of_reads rs⟩
theorem reads_of_hasAll {V : Vol} {h : Heap} : ∀ {vs : List Value} {ds : List PyData}, HasAll V h vs (ds.map .dat) → ∃ as, ReadsAll (hide V h) vs ds as
  | [], [], _ => ⟨_, .nil⟩
  | _ :: _, _ :: _, ⟨⟨_, r⟩, b⟩ => let ⟨_, rs⟩ := reads_of_hasAll b; ⟨_, .cons r rs⟩
  | [], _ :: _, x => x.elim
  | _ :: _, [], x => x.elim
theorem HasAll.get {V : Vol} {h : Heap} : ∀ {vs : List Value} {bs : List Bnd} {i : Nat} {b : Bnd}, HasAll V h vs bs → bs[i]? = some b → ∃ v, vs[i]? = some v ∧ Has V h v b
  | v :: _, _ :: _, 0, _, ⟨a, _⟩, e => by simp at e; subst e; exact ⟨v, rfl, a⟩
  | _ :: _, _ :: _, i + 1, _, ⟨_, r⟩, e => by
    obtain ⟨v, p, q⟩ := HasAll.get r (by simpa using e)
    exact ⟨v, by simpa using p, q⟩
  | [], [], _, _, _, e => by simp at e
  | [], _ :: _, _, _, x, _ => x.elim
  | _ :: _, [], _, _, x, _ => x.elim
theorem HasAll.app {V : Vol} {h : Heap} : ∀ {vs : List Value} {bs : List Bnd} {us : List Value} {cs : List Bnd}, HasAll V h vs bs → HasAll V h us cs → HasAll V h (vs ++ us) (bs ++ cs)
  | [], [], _, _, _, y => y
  | _ :: _, _ :: _, _, _, ⟨a, b⟩, y => ⟨a, HasAll.app b y⟩
  | [], _ :: _, _, _, x, _ => x.elim
  | _ :: _, [], _, _, x, _ => x.elim
theorem HasAll.drop {V : Vol} {h : Heap} : ∀ {vs : List Value} {bs : List Bnd} (n : Nat), HasAll V h vs bs → HasAll V h (vs.drop n) (bs.drop n)
  | _, _, 0, x => x
  | _ :: _, _ :: _, n + 1, ⟨_, b⟩ => HasAll.drop n b
  | [], [], _ + 1, _ => trivial
  | [], _ :: _, _ + 1, x => x.elim
  | _ :: _, [], _ + 1, x => x.elim
theorem HasAll.take {V : Vol} {h : Heap} : ∀ {vs : List Value} {bs : List Bnd} (n : Nat), HasAll V h vs bs → HasAll V h (vs.take n) (bs.take n)
  | _, _, 0, _ => trivial
  | _ :: _, _ :: _, n + 1, ⟨a, b⟩ => ⟨a, HasAll.take n b⟩
  | [], [], _ + 1, _ => trivial
  | [], _ :: _, _ + 1, x => x.elim
  | _ :: _, [], _ + 1, x => x.elim
abbrev dats (ds : List PyData) : List Bnd := ds.map .dat
structure TupD (V : Vol) (h : Heap) (v : Value) (ds : List PyData) (a : Addr) (vs : List Value) : Prop where
  ref : v = .ref a
  vol : V a = false
  tup : IsTup h a vs.toArray
  all : HasAll V h vs (dats ds)
  len : vs.length = ds.length
structure LstD (V : Vol) (h : Heap) (v : Value) (ds : List PyData) (a : Addr) (vs : List Value) : Prop where
  ref : v = .ref a
  vol : V a = false
  lst : h.IsList a vs.toArray
  all : HasAll V h vs (dats ds)
  len : vs.length = ds.length
theorem Dat.tuple {V : Vol} {h : Heap} {v : Value} {ds : List PyData} (x : Dat V h v (.tuple ds)) : ∃ a vs, TupD V h v ds a vs := by
  obtain ⟨as, r⟩ := x
  cases r with
  | tuple e c d rs =>
    obtain ⟨v, e⟩ := hide_some.mp e
    exact ⟨_, _, rfl, v, ⟨_, e, c, _, d⟩, hasAll_of_reads rs, by rw [(hasAll_of_reads rs).length, List.length_map]⟩
theorem Dat.list {V : Vol} {h : Heap} {v : Value} {ds : List PyData} (x : Dat V h v (.list ds)) : ∃ a vs, LstD V h v ds a vs := by
  obtain ⟨as, r⟩ := x
  cases r with
  | list e c d rs =>
    obtain ⟨v, e⟩ := hide_some.mp e
    exact ⟨_, _, rfl, v, ⟨_, e, c, _, d⟩, hasAll_of_reads rs, by rw [(hasAll_of_reads rs).length, List.length_map]⟩
theorem TupD.dat {V : Vol} {h : Heap} {v : Value} {ds : List PyData} {a : Addr} {vs : List Value} (x : TupD V h v ds a vs) : Dat V h v (.tuple ds) := by
  obtain ⟨rfl, vl, ⟨o, e, c, n, d⟩, al, _⟩ := x
  obtain ⟨as, rs⟩ := reads_of_hasAll al
  exact ⟨as, .tuple (hide_some.mpr ⟨vl, e⟩) c d rs⟩
theorem LstD.dat {V : Vol} {h : Heap} {v : Value} {ds : List PyData} {a : Addr} {vs : List Value} (x : LstD V h v ds a vs) : Dat V h v (.list ds) := by
  obtain ⟨rfl, vl, ⟨o, e, c, n, d⟩, al, _⟩ := x
  obtain ⟨as, rs⟩ := reads_of_hasAll al
  exact ⟨_, .list (hide_some.mpr ⟨vl, e⟩) c d rs⟩
theorem VOk.new {V : Vol} {h : Heap} (k : VOk V h) : V h.objs.size = false := by
  cases e : V h.objs.size
  · rfl
  · exact absurd (k _ e) (Nat.lt_irrefl _)
theorem newTup {V : Vol} {h : Heap} {vs : List Value} {ds : List PyData} (k : VOk V h) (al : HasAll V h vs (dats ds)) : TupD V (h.push { cls := .type "tuple", data := .seq vs.toArray }) (.ref h.objs.size) ds h.objs.size vs :=
  ⟨rfl, k.new, ⟨_, Heap.get?_push_size _ rfl, rfl, _, rfl⟩, al.up (Grow.push _).up, by rw [al.length, List.length_map]⟩
theorem newLst {V : Vol} {h : Heap} {vs : List Value} {ds : List PyData} (k : VOk V h) (al : HasAll V h vs (dats ds)) : LstD V (h.push { cls := .type "list", data := .seq vs.toArray }) (.ref h.objs.size) ds h.objs.size vs :=
  ⟨rfl, k.new, ⟨_, Heap.get?_push_size _ rfl, rfl, _, rfl⟩, al.up (Grow.push _).up, by rw [al.length, List.length_map]⟩
section
variable {c : Cx}
theorem Pa.nil : Pa c [] [] := fun s pos t => args_nil ⟨Grow.refl, Sa.refl, trivial⟩
theorem Pa.cons (ok : c.Ok) {e : Expr} {es : List Expr} {b : Bnd} {bs : List Bnd} (x : Pu c e b) (y : Pa c es bs) (he : starEach (e :: es) c.env = (false, eval e c.env) :: starEach es c.env := by rfl) : Pa c (e :: es) (b :: bs) := fun s pos t => by
  refine args_cons (wpAny_mono (x s t) (fun u s1 ⟨g1, a1, h1⟩ => ?_) fun _ _ f => f) he
  refine wpAny_mono (y s1 pos (t.grow ok g1 a1)) (fun v s2 ⟨g2, a2, h2⟩ => ?_) fun _ _ f => f
  exact ⟨g1.trans g2, a1.trans a2, h1.up g2.up, h2⟩
theorem Pu.tup (ok : c.Ok) {es : List Expr} {k : Nat} {pos : Pos} {ds : List PyData} (x : Pa c es (dats ds)) (hl : ds.length ≤ 2 ^ 20) : Pd c (.Tuple es k pos) (.tuple ds) := fun s t => by
  refine wpAny_Tuple (wpAny_mono (x s pos t) (fun vs s1 ⟨g1, a1, h1⟩ => ?_) fun _ _ f => f)
  have hlen := h1.length
  rw [List.length_map] at hlen
  have := sizeLine_eq
  have t1 := t.grow ok g1 a1
  exact ⟨by omega, g1.trans (Grow.push _), ⟨a1.gens, a1.os⟩, (newTup t1.vok h1).dat⟩
theorem Pu.lst (ok : c.Ok) {es : List Expr} {pos : Pos} {ds : List PyData} (x : Pa c es (dats ds)) (hl : ds.length ≤ 2 ^ 20) : Pd c (.List es pos) (.list ds) := fun s t => by
  refine wpAny_List (wpAny_mono (x s pos t) (fun vs s1 ⟨g1, a1, h1⟩ => ?_) fun _ _ f => f)
  have hlen := h1.length
  rw [List.length_map] at hlen
  have := sizeLine_eq
  have t1 := t.grow ok g1 a1
  exact ⟨by omega, g1.trans (Grow.push _), ⟨a1.gens, a1.os⟩, (newLst t1.vok h1).dat⟩
def truthD : PyData → Bool
  | .none => false
  | .bool b => b
  | .int i => i != 0
  | .str x => x.length != 0
  | .list ds => !ds.isEmpty
  | .tuple ds => !ds.isEmpty
  | .dict kvs => !kvs.isEmpty
def smallD : PyData → Bool
  | .str x => decide (x.length ≤ 2 ^ 20)
  | .list ds => decide (ds.length ≤ 2 ^ 20)
  | .tuple ds => decide (ds.length ≤ 2 ^ 20)
  | .dict _ => false
  | _ => true
theorem isEmpty_same {α β : Type} {xs : List α} {ys : List β} (h : xs.length = ys.length) : xs.isEmpty = ys.isEmpty := by
  cases xs <;> cases ys <;> first | rfl | (simp at h)
theorem truthy_data {d : PyData} {v : Value} {s : Shared} (x : Dat c.V s.heap v d) (hs : smallD d = true) : wpAny (model pw c.w) c.A (truthy v) (fun t s' => Grow s.heap s'.heap ∧ Sa s s' ∧ t = truthD d) (fun _ _ => False) s := by
  cases d with
  | none => obtain rfl := x.none; exact truthy_none ⟨Grow.refl, ⟨rfl, rfl⟩, rfl⟩
  | bool b => obtain rfl := x.bool; exact wpAny_truthy_bool ⟨Grow.refl, ⟨rfl, rfl⟩, rfl⟩
  | int i => obtain ⟨_, rfl⟩ := x.int; exact PyProof.Rows.truthy_int ⟨Grow.refl, ⟨rfl, rfl⟩, rfl⟩
  | str y =>
    obtain ⟨_, rfl⟩ := x.str
    have hl : y.length ≤ 2 ^ 20 := of_decide_eq_true hs
    refine P.truthy_str (by omega) ⟨Grow.refl, ⟨rfl, rfl⟩, ?_⟩
    show ((y.length : Int) != 0) = (y.length != 0)
    cases h : y.length with
    | zero => rfl
    | succ n => rw [bne_iff_ne.mpr (by omega), bne_iff_ne.mpr (by omega)]
  | list ds =>
    obtain ⟨a, vs, p⟩ := x.list
    obtain ⟨rfl, _, l, _, len⟩ := p
    have hl : ds.length ≤ 2 ^ 20 := of_decide_eq_true hs
    exact wpAny_truthy_list l (by rw [List.size_toArray]; omega) ⟨Grow.refl, ⟨rfl, rfl⟩, by rw [List.isEmpty_toArray]; exact congrArg _ (isEmpty_same len)⟩
  | tuple ds =>
    obtain ⟨a, vs, p⟩ := x.tuple
    obtain ⟨rfl, _, l, _, len⟩ := p
    have hl : ds.length ≤ 2 ^ 20 := of_decide_eq_true hs
    exact truthy_tuple l (by rw [List.size_toArray]; omega) ⟨Grow.refl, ⟨rfl, rfl⟩, by rw [List.isEmpty_toArray]; exact congrArg _ (isEmpty_same len)⟩
  | dict _ => cases hs
theorem Te.plain (ok : c.Ok) {e : Expr} {d : PyData} (x : Pd c e d) (hs : smallD d = true) (he : isTrue e c.env (eval e c.env) = (do let v ← eval e c.env; standAt e.pos; holding [v] (truthy v)) := by rfl) : Te c e (truthD d) := fun s t =>
  isTrue_plain (wpAny_mono (x s t) (fun v s1 ⟨g1, a1, h1⟩ => wpAny_mono (truthy_data h1 hs) (fun b s2 ⟨g2, a2, h2⟩ => ⟨g1.trans g2, a1.trans a2, h2⟩) fun _ _ f => f) fun _ _ f => f) he
theorem Te.not {e : Expr} {pos : Pos} {b : Bool} (x : Te c e b) : Te c (.UnaryOp .Not e pos) (!b) := fun s t =>
  isTrue_not (wpAny_mono (x s t) (fun _ _ ⟨g, a, h⟩ => ⟨g, a, by rw [h]⟩) fun _ _ f => f)
theorem Te.whole {e : Expr} {b : Bool} {s : Shared} {whole : Sem Value} (h : wpAny (model pw c.w) c.A (isTrue e c.env whole) (fun t' s' => Grow s.heap s'.heap ∧ Sa s s' ∧ t' = b) (fun _ _ => False) s) (e2 : whole = eval e c.env) :
    wpAny (model pw c.w) c.A (isTrue e c.env (eval e c.env)) (fun t' s' => Grow s.heap s'.heap ∧ Sa s s' ∧ t' = b) (fun _ _ => False) s := e2 ▸ h
/-- tests of a chain of ands, with any tree behind -/
def Ta (c : Cx) (op : BoolOp) (es : List Expr) (b : Bool) : Prop := ∀ s, c.St s →
  wpAny (model pw c.w) c.A (allTrue op es c.env) (fun t' s' => Grow s.heap s'.heap ∧ Sa s s' ∧ t' = b) (fun _ _ => False) s
theorem Ta.andNil : Ta c .And [] true := fun s _ => wpAny_allTrue_And_nil ⟨Grow.refl, Sa.refl, rfl⟩
theorem Ta.orNil : Ta c .Or [] false := fun s _ => wpAny_allTrue_Or_nil ⟨Grow.refl, Sa.refl, rfl⟩
theorem Ta.andF {e : Expr} {es : List Expr} (x : Te c e false) : Ta c .And (e :: es) false := fun s t =>
  wpAny_allTrue_And_cons (wpAny_mono (x s t) (fun b s1 ⟨g, a, h⟩ => by subst h; exact ⟨g, a, rfl⟩) fun _ _ f => f)
theorem Ta.andT (ok : c.Ok) {e : Expr} {es : List Expr} {b : Bool} (x : Te c e true) (y : Ta c .And es b) : Ta c .And (e :: es) b := fun s t =>
  wpAny_allTrue_And_cons (wpAny_mono (x s t) (fun b s1 ⟨g, a, h⟩ => by
    subst h
    exact wpAny_mono (y s1 (t.grow ok g a)) (fun _ _ ⟨g2, a2, h2⟩ => ⟨g.trans g2, a.trans a2, h2⟩) fun _ _ f => f) fun _ _ f => f)
theorem Ta.orT {e : Expr} {es : List Expr} (x : Te c e true) : Ta c .Or (e :: es) true := fun s t =>
  wpAny_allTrue_Or_cons (wpAny_mono (x s t) (fun b s1 ⟨g, a, h⟩ => by subst h; exact ⟨g, a, rfl⟩) fun _ _ f => f)
theorem Ta.orF (ok : c.Ok) {e : Expr} {es : List Expr} {b : Bool} (x : Te c e false) (y : Ta c .Or es b) : Ta c .Or (e :: es) b := fun s t =>
  wpAny_allTrue_Or_cons (wpAny_mono (x s t) (fun b s1 ⟨g, a, h⟩ => by
    subst h
    exact wpAny_mono (y s1 (t.grow ok g a)) (fun _ _ ⟨g2, a2, h2⟩ => ⟨g.trans g2, a.trans a2, h2⟩) fun _ _ f => f) fun _ _ f => f)
theorem Ta.te {op : BoolOp} {es : List Expr} {pos : Pos} {b : Bool} (x : Ta c op es b) : Te c (.BoolOp op es pos) b := fun s t => wpAny_isTrue_BoolOp (x s t)
theorem Ta.or (ok : c.Ok) {e : Expr} {es : List Expr} {a b : Bool} (x : Te c e a) (y : Ta c .Or es b) : Ta c .Or (e :: es) (a || b) := by
  cases a
  · exact Ta.orF ok x y
  · exact Ta.orT x
theorem Ta.and (ok : c.Ok) {e : Expr} {es : List Expr} {a b : Bool} (x : Te c e a) (y : Ta c .And es b) : Ta c .And (e :: es) (a && b) := by
  cases a
  · exact Ta.andF x
  · exact Ta.andT ok x y
theorem Pu.ifT (ok : c.Ok) {t e f : Expr} {pos : Pos} {b : Bnd} (x : Te c t true) (y : Pu c e b) : Pu c (.IfExp t e f pos) b := fun s st =>
  wpAny_IfExp (wpAny_mono (x s st) (fun v s1 ⟨g, a, h⟩ => by
    subst h
    exact wpAny_mono (y s1 (st.grow ok g a)) (fun _ _ ⟨g2, a2, h2⟩ => ⟨g.trans g2, a.trans a2, h2⟩) fun _ _ f => f) fun _ _ f => f)
theorem Pu.ifF (ok : c.Ok) {t e f : Expr} {pos : Pos} {b : Bnd} (x : Te c t false) (y : Pu c f b) : Pu c (.IfExp t e f pos) b := fun s st =>
  wpAny_IfExp (wpAny_mono (x s st) (fun v s1 ⟨g, a, h⟩ => by
    subst h
    exact wpAny_mono (y s1 (st.grow ok g a)) (fun _ _ ⟨g2, a2, h2⟩ => ⟨g.trans g2, a.trans a2, h2⟩) fun _ _ f => f) fun _ _ f => f)
theorem Pu.ifE (ok : c.Ok) {t e f : Expr} {pos : Pos} {b : Bool} {d1 d2 : PyData} (x : Te c t b) (y : Pd c e d1) (z : Pd c f d2) : Pd c (.IfExp t e f pos) (if b then d1 else d2) := by
  cases b
  · exact Pu.ifF ok x z
  · exact Pu.ifT ok x y
/-- an index into a tuple or a list -/
abbrev IxForm (slice : Expr) : Prop := ∀ a k u, subscripted slice false (.ref a) (.int k u) = operate [.ref a, .int k u] (getItem (.ref a) (.int k u))
theorem Pu.sub_tup (ok : c.Ok) {e i : Expr} {pos : Pos} {ds : List PyData} {k : Int} {d : PyData} (x : Pd c e (.tuple ds)) (y : Pd c i (.int k)) (hlo : -(2 ^ 63) ≤ k) (hhi : k < 2 ^ 63) {j : Nat}
    (hj : seqIndex? k ds.length = some j) (hd : ds[j]? = some d) (hs : IxForm i := by intro _ _ _; with_unfolding_all rfl) : Pd c (.Subscript e i pos) d := fun s t => by
  refine Subscript_ (wpAny_mono (x s t) (fun u s1 ⟨g1, a1, h1⟩ => wpAny_mono (y s1 (t.grow ok g1 a1)) (fun v s2 ⟨g2, a2, h2⟩ => ?_) fun _ _ f => f) fun _ _ f => f)
  obtain ⟨_, rfl⟩ := Dat.int h2
  obtain ⟨a, vs, p⟩ := Dat.tuple (h1.up g2.up)
  obtain ⟨rfl, _, l, al, len⟩ := p
  obtain ⟨r, hr, hd⟩ := al.get (i := j) (b := .dat d) (by simpa using hd)
  exact tail_any l.typeIs slot_tuple_getitem.lookup (getItem_tuple l hlo hhi (by simpa [len] using hj) (by simpa using hr) ⟨g1.trans g2, a1.trans a2, hd⟩) (hs _ _ _)
theorem Pu.sub_lst (ok : c.Ok) {e i : Expr} {pos : Pos} {ds : List PyData} {k : Int} {d : PyData} (x : Pd c e (.list ds)) (y : Pd c i (.int k)) (h0 : 0 ≤ k) (hhi : k < 2 ^ 63)
    (hd : ds[k.toNat]? = some d) (hs : IxForm i := by intro _ _ _; with_unfolding_all rfl) : Pd c (.Subscript e i pos) d := fun s t => by
  refine Subscript_ (wpAny_mono (x s t) (fun u s1 ⟨g1, a1, h1⟩ => wpAny_mono (y s1 (t.grow ok g1 a1)) (fun v s2 ⟨g2, a2, h2⟩ => ?_) fun _ _ f => f) fun _ _ f => f)
  obtain ⟨_, rfl⟩ := Dat.int h2
  obtain ⟨a, vs, p⟩ := Dat.list (h1.up g2.up)
  obtain ⟨rfl, _, l, al, len⟩ := p
  obtain ⟨r, hr, hd⟩ := al.get (i := k.toNat) (b := .dat d) (by simpa using hd)
  exact tail_any l.typeIs slot_list_getitem.lookup (wpAny_getItem_list l h0 hhi (by simpa using hr) ⟨g1.trans g2, a1.trans a2, hd⟩) (hs _ _ _)
theorem Pu.sub_lst_neg (ok : c.Ok) {e i : Expr} {pos : Pos} {ds : List PyData} {k : Int} {d : PyData} (x : Pd c e (.list ds)) (y : Pd c i (.int k)) (h0 : k < 0) (h1 : -(ds.length : Int) ≤ k) (hhi : -(2 ^ 63) ≤ k)
    (hd : ds[(k + ds.length).toNat]? = some d) (hs : IxForm i := by intro _ _ _; with_unfolding_all rfl) : Pd c (.Subscript e i pos) d := fun s t => by
  refine Subscript_ (wpAny_mono (x s t) (fun u s1 ⟨g1, a1, h1⟩ => wpAny_mono (y s1 (t.grow ok g1 a1)) (fun v s2 ⟨g2, a2, h2⟩ => ?_) fun _ _ f => f) fun _ _ f => f)
  obtain ⟨_, rfl⟩ := Dat.int h2
  obtain ⟨a, vs, p⟩ := Dat.list (h1.up g2.up)
  obtain ⟨rfl, _, l, al, len⟩ := p
  obtain ⟨r, hr, hd⟩ := al.get (i := (k + ds.length).toNat) (b := .dat d) (by simpa using hd)
  exact tail_any l.typeIs slot_list_getitem.lookup (wpAny_getItem_list_neg l h0 (by rw [List.size_toArray, len]; assumption) hhi (by rw [List.size_toArray, len]; simpa using hr) ⟨g1.trans g2, a1.trans a2, hd⟩) (hs _ _ _)
end
end Mine
end TW4
section TW5
open PySem PySem.W PyProof.Rows
set_option Elab.async false
namespace Mine
theorem L1_len (P : Params) : (L1 P).length = 336 := by kernel_rfl
theorem L1_lt {P : Params} {i : Nat} {o : Obj} (e : (L1 P)[i]? = some o) : i < 336 := by
  have := (List.getElem?_eq_some_iff.mp e).1
  rwa [L1_len] at this
def Cx.put (c : Cx) (x : PySem.Str) (b : Bnd) : Cx := { c with ρ := (x, b) :: c.ρ }
theorem Cx.Ok.put {c : Cx} (ok : c.Ok) (x : PySem.Str) (b : Bnd) : (c.put x b).Ok := ⟨ok.fn, ok.gb, ok.bi, ok.rm, ok.fw, ok.wv, ok.stab, ok.lc, ok.ap, ok.old, ok.vtab⟩
theorem Cx.Ok.nold {c : Cx} (ok : c.Ok) {p : Addr} (hp : c.V p = true) {i : Nat} (hi : i < 336) (h7 : i ≠ 175) : i ≠ p := by
  rintro rfl
  rw [ok.old i hi h7] at hp
  cases hp
theorem Fra.weak {V : Vol} {env : Env} {ρ ρ' : List (PySem.Str × Bnd)} {h : Heap} {m cm : PySem.Str → Option Value} (x : Fra V env ρ h m cm) (k : ∀ p ∈ ρ', ρ.lookup p.1 = some p.2) : Fra V env ρ' h m cm :=
  ⟨x.ns, x.cell, fun y b e => x.nm y b (k (y, b) (mem_of_lookup e))⟩
theorem Cx.St.weak {c : Cx} {s : Shared} (t : c.St s) {ρ' : List (PySem.Str × Bnd)} (k : ∀ p ∈ ρ', c.ρ.lookup p.1 = some p.2) : ({ c with ρ := ρ' } : Cx).St s :=
  ⟨t.gl, t.vok, let ⟨m, cm, f⟩ := t.fr; ⟨m, cm, f.weak k⟩, t.up, t.sa, t.j⟩
def StoreOk (env : Env) (x : PySem.Str) : Prop := env.kindOf x = some .local ∨ (env.kindOf x = some .cell ∧ (env.cells.lookup x).isSome = true ∧ env.frame = some env.locals)
section
variable {c : Cx} {s : Shared}
theorem upBut {V : Vol} {p : Addr} {h h' : Heap} (hp : V p = true) (sb : Heap.SameBut p h h') : Up V h h' :=
  ⟨fun a o v e => (sb.2 a (fun q => by subst q; rw [hp] at v; cases v)).trans e, Nat.le_of_eq sb.1.symm⟩
theorem store (ok : c.Ok) (t : c.St s) {x : PySem.Str} {v : Value} {b : Bnd} (hv : Has c.V s.heap v b) (hx : StoreOk c.env x) :
    wpAny (model pw c.w) c.A (storeName c.env x v) (fun _ s' => (c.put x b).St s' ∧ Up c.V s.heap s'.heap ∧ (∃ h' t', s' = { s with heap := h', toks := t' })) (fun _ _ => False) s := by
  obtain ⟨m, cm, f⟩ := t.fr
  have key : ∀ (p : Addr) (h' : Heap) (tk : Nat), own c.env p = true → Heap.SameBut p s.heap h' → (∃ m cm, Fra c.V c.env ((x, b) :: c.ρ) h' m cm) →
      (c.put x b).St { s with heap := h', toks := tk } ∧ Up c.V s.heap h' := fun p h' tk hp sb fr => by
    have hpV := ok.wv p (ok.fw p (own_frm hp))
    have u := upBut hpV sb
    refine ⟨⟨fun i o n e => ?_, fun a e => ?_, fr, t.up.trans (upBut (ok.fw p (own_frm hp)) sb), ⟨t.sa.gens, t.sa.os⟩, ok.stab _ _ (upBut hp sb) t.j⟩, u⟩
    · exact (sb.2 i (ok.nold hpV (L1_lt e) n)).trans (t.gl i o n e)
    · exact Nat.lt_of_lt_of_le (t.vok a e) u.size
  rcases hx with hl | ⟨hl, hc, hfm⟩
  · refine wpAny_storeName_local hl f.ns (fun h' hn sb => ?_) (by rw [ok.fn]; rfl)
    have hp := own_locals c.env
    have u := upBut (ok.wv _ (ok.fw _ (own_frm hp))) sb
    suffices hh : _ from (key _ h' (s.toks + 1) hp sb ⟨_, cm, hn, fun n d e => (f.cell n d e).sameBut sb (ok.lc n d e), hh⟩).elim fun k1 k2 => ⟨k1, k2, _, _, rfl⟩
    · intro y b' e
      rw [List.lookup_cons] at e
      by_cases hy : y = x
      · subst hy
        rw [beq_self_eq_true] at e
        cases e
        exact ⟨v, .inl ⟨hl, if_pos rfl⟩, hv.up u⟩
      · rw [beq_eq_false_iff_ne.mpr hy] at e
        obtain ⟨v', l, q⟩ := f.nm y b' e
        refine ⟨v', ?_, q.up u⟩
        rcases l with ⟨k, p⟩ | k
        · exact .inl ⟨k, (if_neg hy).trans p⟩
        · exact .inr k
  · obtain ⟨d, hd⟩ := Option.isSome_iff_exists.mp hc
    refine wpAny_storeName_cell ok.fn hl hd (f.cell x d hd) fun h' hn sb => ?_
    have hp := own_cell hfm hd
    have u := upBut (ok.wv _ (ok.fw _ (own_frm hp))) sb
    suffices hh : _ ∧ _ from (key _ h' s.toks hp sb ⟨m, fun y => if y = x then some v else cm y, f.ns.sameBut sb (Ne.symm (ok.lc x d hd)), hh.1, hh.2⟩).elim fun k1 k2 => ⟨k1, k2, _, _, rfl⟩
    refine ⟨fun n d' e => ?_, fun y b' e => ?_⟩
    · by_cases hn' : n = x
      · subst hn'
        rw [hd] at e; cases e
        rw [if_pos rfl]; exact hn
      · rw [if_neg hn']
        exact (f.cell n d' e).sameBut sb fun q => hn' (ok.ap n x d' e (q ▸ hd))
    · rw [List.lookup_cons] at e
      by_cases hy : y = x
      · subst hy
        rw [beq_self_eq_true] at e
        cases e
        exact ⟨v, .inr ⟨.inl hl, hc, if_pos rfl⟩, hv.up u⟩
      · rw [beq_eq_false_iff_ne.mpr hy] at e
        obtain ⟨v', l, q⟩ := f.nm y b' e
        refine ⟨v', ?_, q.up u⟩
        rcases l with k | ⟨k, i, p⟩
        · exact .inl k
        · exact .inr ⟨k, i, (if_neg hy).trans p⟩
/-- statements, told by what they leave -/
def Do (c : Cx) (body : List Stmt) (Q : Flow → Shared → Prop) (s : Shared) : Prop := wpAny (model pw c.w) c.A (execs body c.env) Q (fun _ _ => False) s
def andThen (c : Cx) (rest : List Stmt) (Q : Flow → Shared → Prop) : Flow → Shared → Prop := fun f s' => match f with | .next => Do c rest Q s' | f => Q f s'
theorem do_nil {Q : Flow → Shared → Prop} (h : Q .next s) : Do c [] Q s := wpAny_execs_nil h
theorem do_cons {st : Stmt} {rest : List Stmt} {Q : Flow → Shared → Prop} (h : wpAny (model pw c.w) c.A (exec st c.env) (andThen c rest Q) (fun _ _ => False) s) : Do c (st :: rest) Q s :=
  wpAny_execs_cons (wpAny_mono h (fun f s' h' => by cases f <;> exact h') fun _ _ f => f)
theorem do_assign (ok : c.Ok) (t : c.St s) {x : PySem.Str} {e : Expr} {rest : List Stmt} {pos pos' : Pos} {Q : Flow → Shared → Prop} {B : Bnd → Prop} (h : Ex c e B) (hx : StoreOk c.env x)
    (k : ∀ s' b, B b → (c.put x b).Ok → (c.put x b).St s' → Do (c.put x b) rest Q s') (hs : swapsWith e (some (.Name x pos')) pos.line c.env = pure false := by rfl) : Do c (.Assign [.Name x pos'] e pos :: rest) Q s := by
  refine do_cons (wpAny_Assign_Name (wpAny_mono (h s t) (fun v s1 ⟨u, t1, b, hb, hv⟩ => ?_) fun _ _ f => f) hs)
  exact wpAny_mono (store ok t1 hv hx) (fun _ s2 ⟨t2, _, _⟩ => k s2 b hb (ok.put x b) t2) fun _ _ f => f
theorem do_assignP (ok : c.Ok) (t : c.St s) {x : PySem.Str} {e : Expr} {rest : List Stmt} {pos pos' : Pos} {Q : Flow → Shared → Prop} {b : Bnd} (h : Pu c e b) (hx : StoreOk c.env x)
    (k : ∀ s', (c.put x b).Ok → (c.put x b).St s' → Do (c.put x b) rest Q s') (hs : swapsWith e (some (.Name x pos')) pos.line c.env = pure false := by rfl) : Do c (.Assign [.Name x pos'] e pos :: rest) Q s :=
  do_assign ok t (h.ex ok) hx (fun s' b' e o t' => by subst e; exact k s' o t') hs
theorem do_if (ok : c.Ok) (t : c.St s) {test : Expr} {body orelse rest : List Stmt} {pos : Pos} {Q : Flow → Shared → Prop} {b : Bool} (h : Te c test b)
    (kT : b = true → ∀ s', c.St s' → Do c body (andThen c rest Q) s') (kF : b = false → ∀ s', c.St s' → Do c orelse (andThen c rest Q) s') : Do c (.If test body orelse pos :: rest) Q s := by
  refine do_cons (wpAny_If (wpAny_mono (h s t) (fun v s1 ⟨g, a, e⟩ => ?_) fun _ _ f => f))
  have t1 := t.grow ok g a
  subst e
  cases v
  · exact kF rfl s1 t1
  · exact kT rfl s1 t1
theorem do_ret (_ok : c.Ok) (t : c.St s) {e : Expr} {rest : List Stmt} {pos : Pos} {Q : Flow → Shared → Prop} {B : Bnd → Prop} (h : Ex c e B) (k : ∀ s' v b, B b → Has c.V s'.heap v b → c.St s' → Q (.ret v) s') : Do c (.Return (some e) pos :: rest) Q s :=
  do_cons (wpAny_Return_some (wpAny_mono (h s t) (fun v s1 ⟨_, t1, b, hb, hv⟩ => k s1 v b hb hv t1) fun _ _ f => f))
theorem do_retP (ok : c.Ok) (t : c.St s) {e : Expr} {rest : List Stmt} {pos : Pos} {Q : Flow → Shared → Prop} {b : Bnd} (h : Pu c e b) (k : ∀ s' v, Has c.V s'.heap v b → c.St s' → Q (.ret v) s') : Do c (.Return (some e) pos :: rest) Q s :=
  do_ret ok t (h.ex ok) fun s' v b' e hv t' => k s' v (e ▸ hv) t'
theorem do_doc (ok : c.Ok) (t : c.St s) {x : PySem.Str} {n : Nat} {pos pos' : Pos} {rest : List Stmt} {Q : Flow → Shared → Prop} (k : ∀ s', c.St s' → Do c rest Q s')
    (hi : interactive c.env = false := by rfl) (hs : swapsWith (.Constant (.str x) n pos') .none pos.line c.env = pure false := by rfl) : Do c (.Expr (.Constant (.str x) n pos') pos :: rest) Q s :=
  do_cons (wpAny_Expr (wpAny_mono (Pu.str s t) (fun v s1 ⟨g, a, h⟩ => by
    obtain ⟨_, rfl⟩ := Dat.str h
    exact k s1 (t.grow ok g a)) fun _ _ f => f) hi hs)
end
end Mine
end TW5
section TW6
open PySem PySem.W PyProof.Rows
set_option Elab.async false
namespace Mine
set_option maxRecDepth 100000
theorem Gl.lim {P : Params} {h : Heap} (g : Gl P h) : h.NoLimit :=
  ⟨nsFind (esOf (L1 P)[2]?), ⟨_, _, _, g 2 _ (by decide) (by rfl), (by rfl), keysOk.keys (by kernel_rfl), fun _ => by kernel_rfl⟩, by kernel_rfl⟩
theorem Gl.size {P : Params} {h : Heap} (g : Gl P h) : 336 ≤ h.objs.size := Heap.lt_size (g 335 _ (by decide) (by rfl))
structure FnOk (P : Params) (a : Addr) (fd : FuncData) (body : List Stmt) : Prop where
  ob : ∃ o, (L1 P)[a]? = some o ∧ o.data = .func fd
  ne : a ≠ 175
  body : fd.body = .stmts body
  clo : fd.closure = []
  gl : fd.globals = 3
  bi : fd.builtins = 0
  co : fd.scope.isCoroutine = false
  gen : fd.scope.isGenerator = false
  kind : fd.scope.kind = .function
  code : ∃ cd oc vs t, fd.code = .ref cd ∧ cd ≠ 175 ∧ (L1 P)[cd]? = some oc ∧ oc.data = .fields vs ∧ vs[1]? = some (.str fd.qualname t)
theorem lookup_zip {V : Vol} {h : Heap} {x : PySem.Str} {b : Bnd} : ∀ {ns : List PySem.Str} {vs : List Value} {bs : List Bnd}, HasAll V h vs bs → (ns.zip bs).lookup x = some b → ∃ v, (ns.zip vs).lookup x = some v ∧ Has V h v b
  | [], _, _, _, e => by simp at e
  | _ :: _, [], [], _, e => by simp at e
  | n :: ns, v :: vs, b' :: bs, ⟨p, q⟩, e => by
    rw [List.zip_cons_cons, List.lookup_cons] at e ⊢
    cases hx : x == n with
    | true => rw [hx] at e; cases e; exact ⟨v, rfl, p⟩
    | false => rw [hx] at e; exact lookup_zip q e
  | _ :: _, [], _ :: _, x, _ => x.elim
  | _ :: _, _ :: _, [], x, _ => x.elim
theorem bindL_not {k : PySem.Str → Option NameKind} {x : PySem.Str} : ∀ {bs : List (PySem.Str × Value)} {m : PySem.Str → Option Value}, x ∉ bs.map (·.1) → bindL k bs m x = m x
  | [], _, _ => rfl
  | (n, v) :: r, m, h => by
    rw [List.map_cons, List.mem_cons, not_or] at h
    rw [bindL, bindL_not h.2]
    split
    · exact if_neg h.1
    · rfl
theorem bindC_not {k : PySem.Str → Option NameKind} {x : PySem.Str} : ∀ {bs : List (PySem.Str × Value)} {m : PySem.Str → Option Value}, x ∉ bs.map (·.1) → bindC k bs m x = m x
  | [], _, _ => rfl
  | (n, v) :: r, m, h => by
    rw [List.map_cons, List.mem_cons, not_or] at h
    rw [bindC, bindC_not h.2]
    split
    · rfl
    · exact if_neg h.1
theorem bindL_is {k : PySem.Str → Option NameKind} {x : PySem.Str} {v : Value} (hk : k x = some .local) : ∀ {bs : List (PySem.Str × Value)} {m : PySem.Str → Option Value}, (bs.map (·.1)).Nodup → bs.lookup x = some v → bindL k bs m x = some v
  | [], _, _, e => by cases e
  | (n, u) :: r, m, h, e => by
    rw [List.map_cons, List.nodup_cons] at h
    rw [List.lookup_cons] at e
    rw [bindL]
    by_cases hx : x = n
    · subst hx
      rw [beq_self_eq_true] at e; cases e
      rw [bindL_not h.1, if_pos hk, if_pos rfl]
    · rw [beq_eq_false_iff_ne.mpr hx] at e
      exact bindL_is hk h.2 e
theorem bindC_is {k : PySem.Str → Option NameKind} {x : PySem.Str} {v : Value} (hk : ¬ k x = some .local) : ∀ {bs : List (PySem.Str × Value)} {m : PySem.Str → Option Value}, (bs.map (·.1)).Nodup → bs.lookup x = some v → bindC k bs m x = some v
  | [], _, _, e => by cases e
  | (n, u) :: r, m, h, e => by
    rw [List.map_cons, List.nodup_cons] at h
    rw [List.lookup_cons] at e
    rw [bindC]
    by_cases hx : x = n
    · subst hx
      rw [beq_self_eq_true] at e; cases e
      rw [bindC_not h.1, if_neg hk, if_pos rfl]
    · rw [beq_eq_false_iff_ne.mpr hx] at e
      exact bindC_is hk h.2 e
def joinV (V W : Vol) : Vol := fun a => V a || W a
theorem call_cells_w {prog : Program} {w : World} {A : Around} {s : Shared} {R : Result → Shared → Prop} {a : Addr} {o : Obj} {fd : FuncData} {body : List Stmt} {vals : List Value} {binds : List (PySem.Str × Value)}
    (hroom : A.depth < recursionLimit) (ho : s.heap.get? a = some o) (hdata : o.data = .func fd) (hlim : s.heap.NoLimit) (hcd : s.heap.CodeRec fd.code fd.qualname)
    (hbody : fd.body = .stmts body) (hbind : ∀ A', wpAny (model prog w) A' (bindArgs fd ⟨vals, []⟩) (fun b s' => b = binds ∧ s' = s) (fun _ _ => False) s) (hclo : fd.closure = [])
    (hkind : ∀ x ∈ binds, fd.scope.names.lookup x.1 = some .local ∨ (fd.scope.names.lookup x.1 = some .cell ∧ ((cellsFrom (s.heap.objs.size + 1) fd.scope.names []).lookup x.1).isSome = true))
    (h : ∀ s₁, InCallC s (callEnvC fd s.heap.objs.size a).locals (bindL (callEnvC fd s.heap.objs.size a).kindOf binds fun _ => none) (callEnvC fd s.heap.objs.size a).cells
        (bindC (callEnvC fd s.heap.objs.size a).kindOf binds fun _ => none) s₁ →
      wpAny (model prog w) (A.deeper (callEnvC fd s.heap.objs.size a)) (execs body (callEnvC fd s.heap.objs.size a)) (fun f s' => R (.ok (.ret (match f with | .ret v => v | _ => .none))) s')
        (fun _ _ => False) s₁)
    (hco : fd.scope.isCoroutine = false) (hgen : fd.scope.isGenerator = false) (hk : fd.scope.kind = .function) :
    codeAny (model prog w) A (.call (.ref a) ⟨vals, []⟩) R s := by
  refine codeAny_call_function hroom ho hdata hco hgen hbody hcd (wpAny_mono (hbind _) (fun b s' q => ?_) fun _ _ f => f.elim)
  obtain ⟨rfl, rfl⟩ := q
  rw [hclo]
  refine wpAny_newFunctionEnv_cells hk hkind fun env he s'' x => ?_
  subst he
  exact ⟨hlim.keeps x.toInCall.keep, codeAny_func (wpAny_mono (h s'' x) (fun _ _ q => q) fun _ _ f => f.elim)⟩
/-- what a def's body sees -/
def cxOf (n : Nat) (w : World) (A : Around) (V X : Vol) (fd : FuncData) (a L : Addr) (ρ : List (PySem.Str × Bnd)) (s : Shared) (J : Heap → Prop) : Cx :=
  ⟨n, w, A.deeper (callEnvC fd L a), joinV V (frm (callEnvC fd L a)), joinV X (frm (callEnvC fd L a)), callEnvC fd L a, ρ, s, J⟩
def retOf : Flow → Value
  | .ret v => v
  | _ => .none
/-- what is asked of a caller's places -/
structure VFine (P : Params) (V : Vol) (h : Heap) : Prop where
  gl : Gl P h
  vok : VOk V h
  old : ∀ a, a < 336 → a ≠ 175 → V a = false
  vtab : V 175 = true
theorem Cx.St.fine {c : Cx} (ok : c.Ok) {s : Shared} (t : c.St s) : VFine c.w.params c.V s.heap := ⟨t.gl, t.vok, ok.old, ok.vtab⟩
def NewStab (h₀ : Heap) (J : Heap → Prop) : Prop := ∀ F : Vol, (∀ a, F a = true → h₀.objs.size ≤ a) → ∀ h h', Up F h h' → J h → J h'
theorem NewStab.triv {h₀ : Heap} : NewStab h₀ fun _ => True := fun _ _ _ _ _ _ => trivial
theorem enter {w : World} {A : Around} {n : Nat} {a : Addr} {fd : FuncData} {body : List Stmt} {V X : Vol} {s : Shared} {vs : List Value} {bs : List Bnd} {ns : List PySem.Str} {J : Heap → Prop} {Q : Value → Shared → Prop}
    (F : FnOk w.params a fd body) (rm : Rm A (n + 1)) (vf : VFine w.params V s.heap) (hvs : HasAll V s.heap vs bs) (hbind : ∀ A', wpAny (model pw w) A' (bindArgs fd ⟨vs, []⟩) (fun b s' => b = ns.zip vs ∧ s' = s) (fun _ _ => False) s) (hlen : ns.length = vs.length) (hnd : ns.Nodup)
    (hkind : (ns.all fun y => fd.scope.names.lookup y == some .local || fd.scope.names.lookup y == some .cell) = true) (xv : ∀ a, X a = true → V a = true) (hJ : J s.heap) (stab : NewStab s.heap J)
    (k : ∀ L s1, L = s.heap.objs.size → (∀ b, frm (callEnvC fd L a) b = true → s.heap.objs.size ≤ b) → (cxOf n w A V X fd a L (ns.zip bs) s J).Ok → (cxOf n w A V X fd a L (ns.zip bs) s J).St s1 → Do (cxOf n w A V X fd a L (ns.zip bs) s J) body (fun f s' => Q (retOf f) s') s1) :
    wpAny (model pw w) A (call (.ref a) vs) Q (fun _ _ => False) s := by
  obtain ⟨o, ho, hd⟩ := F.ob
  have hmap : (ns.zip vs).map (·.1) = ns := List.map_fst_zip (Nat.le_of_eq hlen)
  have hk2 : ∀ m, ∀ x ∈ ns.zip vs, fd.scope.names.lookup x.1 = some .local ∨ (fd.scope.names.lookup x.1 = some .cell ∧ ((cellsFrom m fd.scope.names []).lookup x.1).isSome = true) :=
    kindsX (List.all_eq_true.mpr fun x hx => List.all_eq_true.mp hkind x.1 (hmap ▸ List.mem_map_of_mem hx))
  refine wpAny_call (call_cells_w (by have := rm.depth; show A.depth < 1000; omega) (vf.gl a o F.ne ho) hd vf.gl.lim ?_ F.body hbind F.clo (hk2 _) (fun s1 x => ?_) F.co F.gen F.kind)
  · obtain ⟨cd, oc, us, t, e1, e2, e3, e4, e5⟩ := F.code
    exact ⟨cd, oc, us, t, e1, vf.gl cd oc e2 e3, e4, e5⟩
  obtain ⟨h1, tk, hs1⟩ := x.toInCall.same
  generalize hL : s.heap.objs.size = L at x
  have hsz : s.heap.objs.size ≤ s1.heap.objs.size := Nat.le_trans (Nat.le_of_eq hL) (Nat.le_of_lt x.toInCall.ns.lt)
  have g : Grow s.heap s1.heap := ⟨fun b o _ e => x.toInCall.keep b o e, hsz⟩
  have newF : ∀ b, frm (callEnvC fd L a) b = true → L ≤ b := fun b e => by
    rcases frm_cases e with e | ⟨y, e⟩
    · exact Nat.le_of_eq e.symm
    · exact Nat.le_of_lt (x.above y b (mem_of_lookup e))
  have up2 : ∀ {V' : Vol}, Up (joinV V' (frm (callEnvC fd L a))) s.heap s1.heap := g.up
  have hasUp : ∀ {v b}, Has V s.heap v b → Has (joinV V (frm (callEnvC fd L a))) s1.heap v b := fun h => h.vol fun p o hp e => by
    refine ⟨?_, g.keeps _ _ e⟩
    unfold joinV
    rw [hp, Bool.false_or]
    cases hf : frm (callEnvC fd L a) p
    · rfl
    · exact absurd (Heap.lt_size e) (Nat.not_lt.mpr (hL ▸ newF p hf))
  have h336 := vf.gl.size
  refine wpAny_mono (Q := fun f s' => Q (retOf f) s') (E := fun _ _ => False) (k L s1 hL.symm (hL ▸ newF) ⟨F.kind, F.gl, F.bi, ⟨rm.hn, ?_, ?_⟩, fun b e => ?_, fun b e => ?_, fun h h' u j => stab _ (fun b e => by rw [hL]; exact newF b (own_frm e)) h h' u j, fun y d e => ?_, fun y z d e1 e2 => ?_, fun b hb h7 => ?_, ?_⟩
    ⟨fun i o ni e => g.keeps _ _ (vf.gl i o ni e), fun b e => ?_, ⟨_, _, x.toInCall.ns, x.cell, fun y b e => ?_⟩, up2, ?_, stab (fun _ => false) (fun _ e => by cases e) _ _ g hJ⟩) (fun f s' q => by cases f <;> exact q) (fun _ _ q => q.elim)
  · have := rm.depth; show A.depth + 1 + n < 900; omega
  · have := rm.units; show A.units + 3 + 20 * n < 5000; omega
  · show (X b || _) = true; rw [show frm (callEnvC fd L a) b = true from e, Bool.or_true]
  · rcases Bool.or_eq_true_iff.mp (show (X b || frm (callEnvC fd L a) b) = true from e) with e | e
    · show (V b || _) = true; rw [xv b e]; rfl
    · show (V b || _) = true; rw [e, Bool.or_true]
  · exact fun q => absurd (x.above y d (mem_of_lookup e)) (by rw [q]; exact Nat.lt_irrefl _)
  · exact name_of_addr x.apart (mem_of_lookup e1) (mem_of_lookup e2)
  · show (V b || frm (callEnvC fd L a) b) = false
    rw [vf.old b hb h7, Bool.false_or]
    cases hf : frm (callEnvC fd L a) b
    · rfl
    · exact absurd hb (Nat.not_lt.mpr (Nat.le_trans (hL ▸ h336) (newF b hf)))
  · show (V 175 || _) = true; rw [vf.vtab]; rfl
  · rcases Bool.or_eq_true_iff.mp (show (V b || frm (callEnvC fd L a) b) = true from e) with e | e
    · exact Nat.lt_of_lt_of_le (vf.vok b e) hsz
    · rcases frm_cases e with e | ⟨y, e⟩
      · exact e ▸ x.toInCall.ns.lt
      · exact (x.cell y b e).lt
  · obtain ⟨v, p, q⟩ := lookup_zip hvs e
    refine ⟨v, ?_, hasUp q⟩
    have hm := mem_of_lookup p
    have hnd' : ((ns.zip vs).map (·.1)).Nodup := by rw [hmap]; exact hnd
    rcases hk2 (L + 1) _ hm with kl | ⟨kc, ks⟩
    · exact .inl ⟨kl, bindL_is kl hnd' p⟩
    · exact .inr ⟨.inl kc, ks, bindC_is (by rw [show (callEnvC fd L a).kindOf y = some .cell from kc]; decide) hnd' p⟩
  · subst hs1; exact ⟨rfl, rfl⟩
end Mine
end TW6
section TW7
open PySem PySem.W PyProof.Rows
set_option Elab.async false
namespace Mine
/-- what a def promises: it may change X, keeps J (as J'), tells one of B -/
def FnE (w : World) (n : Nat) (a : Addr) (bs : List Bnd) (X : Vol) (J : Heap → Prop) (B : Bnd → Prop) : Prop :=
  ∀ (A : Around) (V : Vol) (s : Shared) (vs : List Value), Rm A n → VFine w.params V s.heap → (∀ a, X a = true → V a = true) → HasAll V s.heap vs bs → J s.heap →
    wpAny (model pw w) A (call (.ref a) vs) (fun v s' => Up X s.heap s'.heap ∧ Sa s s' ∧ J s'.heap ∧ ∃ b, B b ∧ Has V s'.heap v b) (fun _ _ => False) s
def noX : Vol := fun _ => false
abbrev noJ : Heap → Prop := fun _ => True
abbrev Fn (w : World) (n : Nat) (a : Addr) (bs : List Bnd) (b : Bnd) : Prop := FnE w n a bs noX noJ (· = b)
theorem Rm.le {A : Around} {n m : Nat} (h : n ≤ m) (r : Rm A m) : Rm A n := ⟨r.hn, by have := r.depth; omega, by have := r.units; omega⟩
theorem FnE.le {w : World} {n m : Nat} {a : Addr} {bs : List Bnd} {X : Vol} {J : Heap → Prop} {B : Bnd → Prop} (f : FnE w n a bs X J B) (h : n ≤ m) : FnE w m a bs X J B :=
  fun A V s vs r => f A V s vs (r.le h)
/-- the end of a def's body -/
def Fini (c : Cx) (s' : Shared) : Prop := Up c.W c.s₀.heap s'.heap ∧ Sa c.s₀ s' ∧ c.J s'.heap
theorem Cx.St.fin {c : Cx} {s' : Shared} (t : c.St s') : Fini c s' := ⟨t.up, t.sa, t.j⟩
def Ret (c : Cx) (B : Bnd → Prop) : Flow → Shared → Prop := fun f s' => Fini c s' ∧ ∃ b, B b ∧ Has c.V s'.heap (retOf f) b
theorem FnE.ofW {w : World} {n : Nat} {a : Addr} {fd : FuncData} {body : List Stmt} {bs : List Bnd} {ns : List PySem.Str} {X : Vol} {J : Heap → Prop} {B : Bnd → Prop}
    (F : FnOk w.params a fd body) (hbind : ∀ (A : Around) (s : Shared) (vs : List Value), Gl w.params s.heap → vs.length = ns.length → wpAny (model pw w) A (bindArgs fd ⟨vs, []⟩) (fun b s' => b = ns.zip vs ∧ s' = s) (fun _ _ => False) s) (hlen : ns.length = bs.length) (hnd : ns.Nodup)
    (hkind : (ns.all fun y => fd.scope.names.lookup y == some .local || fd.scope.names.lookup y == some .cell) = true) (stab : ∀ h, J h → NewStab h J)
    (k : ∀ A V L s s1, VFine w.params V s.heap → J s.heap → (∀ b, frm (callEnvC fd L a) b = true → s.heap.objs.size ≤ b) → (∀ a, X a = true → V a = true) → (cxOf n w A V X fd a L (ns.zip bs) s J).Ok → (cxOf n w A V X fd a L (ns.zip bs) s J).St s1 →
      Do (cxOf n w A V X fd a L (ns.zip bs) s J) body (Ret (cxOf n w A V X fd a L (ns.zip bs) s J) B) s1) : FnE w (n + 1) a bs X J B := by
  intro A V s vs rm vf xv hvs hJ
  have hl := hvs.length
  refine enter F rm vf hvs (fun A' => hbind A' s vs vf.gl (by omega)) (by omega) hnd hkind xv hJ (stab _ hJ) fun L s1 hL nf ok t => ?_
  refine wpAny_mono (k A V L s s1 vf hJ nf xv ok t) (fun f s' ⟨⟨tu, ts, tj⟩, b, hb, hv⟩ => ?_) fun _ _ q => q
  refine ⟨⟨fun p o hp e => tu.keep p o ?_ e, tu.size⟩, ts, tj, b, hb, hv.vol fun p o hp e => ⟨(Bool.or_eq_false_iff.mp hp).1, e⟩⟩
  show (X p || frm (callEnvC fd L a) p) = false
  rw [hp, Bool.false_or]
  cases hf : frm (callEnvC fd L a) p
  · rfl
  · exact absurd (Heap.lt_size e) (Nat.not_lt.mpr (nf p hf))
theorem FnE.of {w : World} {n : Nat} {a : Addr} {fd : FuncData} {body : List Stmt} {bs : List Bnd} {ns : List PySem.Str} {X : Vol} {J : Heap → Prop} {B : Bnd → Prop}
    (F : FnOk w.params a fd body) (hbind : ∀ vs : List Value, vs.length = ns.length → bindArgs fd ⟨vs, []⟩ = pure (ns.zip vs)) (hlen : ns.length = bs.length) (hnd : ns.Nodup)
    (hkind : (ns.all fun y => fd.scope.names.lookup y == some .local || fd.scope.names.lookup y == some .cell) = true) (stab : ∀ h, J h → NewStab h J)
    (k : ∀ A V L s s1, VFine w.params V s.heap → J s.heap → (∀ b, frm (callEnvC fd L a) b = true → s.heap.objs.size ≤ b) → (∀ a, X a = true → V a = true) → (cxOf n w A V X fd a L (ns.zip bs) s J).Ok → (cxOf n w A V X fd a L (ns.zip bs) s J).St s1 →
      Do (cxOf n w A V X fd a L (ns.zip bs) s J) body (Ret (cxOf n w A V X fd a L (ns.zip bs) s J) B) s1) : FnE w (n + 1) a bs X J B :=
  FnE.ofW F (fun A s vs _ hl => by rw [hbind vs hl]; exact wpAny_pure ⟨rfl, rfl⟩) hlen hnd hkind stab k
section
variable {c : Cx}
theorem Pu.glob (ok : c.Ok) {x : PySem.Str} {v : Value} {pos : Pos} (hk : c.env.kindOf x = some .globalImplicit) (hg : gmap c.w.params x = some v) (hd : (x == ("__debug__" : PySem.Str)) = false := by decide) : Pu c (.Name x pos) (.raw v) := fun s t =>
  Calls.Name_function_global ok.fn hk (Calls.loadGlobal_global (mg := gmap c.w.params) (by rw [ok.gb]; exact t.gl.ns3) hg ⟨Grow.refl, Sa.refl, rfl⟩) hd
theorem Pu.blt (ok : c.Ok) {x : PySem.Str} {v : Value} {pos : Pos} (hk : c.env.kindOf x = some .globalImplicit) (hg : gmap c.w.params x = Option.none) (hb : bmap c.w.params x = some v) (hd : (x == ("__debug__" : PySem.Str)) = false := by decide) : Pu c (.Name x pos) (.raw v) := fun s t =>
  Calls.Name_function_global ok.fn hk (Calls.loadGlobal_builtin (mg := gmap c.w.params) (mb := bmap c.w.params) (by rw [ok.gb]; exact t.gl.ns3) hg (by rw [ok.bi]; exact t.gl.ns0) hb ⟨Grow.refl, Sa.refl, rfl⟩) hd
theorem Pu.call (ok : c.Ok) {x : PySem.Str} {p pos : Pos} {e : Expr} {es : List Expr} {bs : List Bnd} {b : Bnd} {a : Addr} {n : Nat} {fd : FuncData} {body : List Stmt} (hf : Pu c (.Name x p) (.raw (.ref a))) (F : FnOk c.w.params a fd body) (ha : Pa c (e :: es) bs) (fn : Fn c.w n a bs b) (hn : n ≤ c.lv)
    (he : starEach (e :: es) c.env = (false, eval e c.env) :: starEach es c.env := by rfl) : Pu c (.Call (.Name x p) (e :: es) [] pos) b := fun s t => by
  refine Call_ (wpAny_mono (hf s t) (fun f s1 ⟨g1, a1, h1⟩ => ?_) fun _ _ f => f)
  obtain rfl : f = .ref a := h1
  obtain ⟨o, ho, hd⟩ := F.ob
  refine callWith_def hd (wpAny_mono (ha s1 pos (t.grow ok g1 a1)) (fun vs s2 ⟨g2, a2, h2⟩ => ?_) fun _ _ f => f) he
  have t2 := (t.grow ok g1 a1).grow ok g2 a2
  refine ⟨t2.gl a o F.ne ho, wpAny_mono (fn c.A c.V s2 vs (ok.rm.le hn) (t2.fine ok) (fun _ e => by cases e) h2 trivial) (fun v s3 ⟨g3, a3, _, b', hb, h3⟩ => ?_) fun _ _ f => f⟩
  subst hb
  exact ⟨(g1.trans g2).trans g3, (a1.trans a2).trans a3, h3⟩
theorem Pu.bcall (ok : c.Ok) {x : PySem.Str} {p pos : Pos} {e : Expr} {es : List Expr} {bs : List Bnd} {b : Bnd} {id : String} (hf : Pu c (.Name x p) (.raw (.builtin id))) (ha : Pa c (e :: es) bs)
    (fn : ∀ s vs, c.St s → HasAll c.V s.heap vs bs → Pv c s (PySem.call (.builtin id) vs) b)
    (he : starEach (e :: es) c.env = (false, eval e c.env) :: starEach es c.env := by rfl) (hp : (backTo pos (starEach es c.env)).any (·.1) = false := by rfl) : Pu c (.Call (.Name x p) (e :: es) [] pos) b := fun s t => by
  refine Call_ (wpAny_mono (hf s t) (fun f s1 ⟨g1, a1, h1⟩ => ?_) fun _ _ f => f)
  obtain rfl : f = .builtin id := h1
  refine PyProof.Rows.callWith_builtin1 (wpAny_mono (ha s1 pos (t.grow ok g1 a1)) (fun vs s2 ⟨g2, a2, h2⟩ => ?_) fun _ _ f => f) he hp
  exact wpAny_mono (fn s2 vs ((t.grow ok g1 a1).grow ok g2 a2) h2) (fun v s3 ⟨g3, a3, h3⟩ => ⟨(g1.trans g2).trans g3, (a1.trans a2).trans a3, h3⟩) fun _ _ f => f
theorem Pu.tcall (ok : c.Ok) {x : PySem.Str} {p pos : Pos} {e : Expr} {es : List Expr} {bs : List Bnd} {b : Bnd} {id : String} (hf : Pu c (.Name x p) (.raw (.type id))) (ha : Pa c (e :: es) bs)
    (fn : ∀ s vs, c.St s → HasAll c.V s.heap vs bs → Pv c s (PySem.call (.type id) vs) b)
    (he : starEach (e :: es) c.env = (false, eval e c.env) :: starEach es c.env := by rfl) (hp : (backTo pos (starEach es c.env)).any (·.1) = false := by rfl) : Pu c (.Call (.Name x p) (e :: es) [] pos) b := fun s t => by
  refine Call_ (wpAny_mono (hf s t) (fun f s1 ⟨g1, a1, h1⟩ => ?_) fun _ _ f => f)
  obtain rfl : f = .type id := h1
  refine PyProof.Rows.callWith_type1 (wpAny_mono (ha s1 pos (t.grow ok g1 a1)) (fun vs s2 ⟨g2, a2, h2⟩ => ?_) fun _ _ f => f) he hp
  exact wpAny_mono (fn s2 vs ((t.grow ok g1 a1).grow ok g2 a2) h2) (fun v s3 ⟨g3, a3, h3⟩ => ⟨(g1.trans g2).trans g3, (a1.trans a2).trans a3, h3⟩) fun _ _ f => f
theorem Has1 {V : Vol} {h : Heap} {vs : List Value} {b : Bnd} (x : HasAll V h vs [b]) : ∃ v, vs = [v] ∧ Has V h v b := by
  match vs, x with
  | [v], ⟨p, _⟩ => exact ⟨v, rfl, p⟩
theorem Has2 {V : Vol} {h : Heap} {vs : List Value} {b b' : Bnd} (x : HasAll V h vs [b, b']) : ∃ v u, vs = [v, u] ∧ Has V h v b ∧ Has V h u b' := by
  match vs, x with
  | [v, u], ⟨p, q, _⟩ => exact ⟨v, u, rfl, p, q⟩
end
end Mine
end TW7
section TW8
open PySem PySem.W PyProof.Rows
set_option Elab.async false
namespace Mine
set_option maxRecDepth 100000
section
variable {c : Cx}
theorem kind_oi : builtinKind "_operator.index" = none := by decide +kernel
theorem plain_oi : plainId "_operator.index" = true := by decide +kernel
theorem entry_oi : entryFor table "_operator.index" = some Builtin.«_operator.index» := entryFor_of_fast (by kernel_rfl)
theorem args_oi (a : Value) : argsOk "_operator.index" ⟨[a], []⟩ := by unfold argsOk; kernel_rfl
theorem call_oi {s : Shared} {i : Int} {t : Tok} : Pv c s (PySem.call (.builtin "_operator.index") [.int i t]) (.dat (.int i)) := by
  refine Calls.call_function_entry kind_oi plain_oi entry_oi (args_oi _) ?_
  unfold Builtin.«_operator.index»
  refine wpAny_bind (m := Builtin._operator.one "index" _) (wpAny_pure ?_)
  exact wpAny_pure ⟨_, rfl, Grow.refl, Sa.refl, hasInt ..⟩
end
def clampI (i : Int) : Int := if i < 1 then 1 else if 2 < i then 2 else i
def funcOf (o : Obj) : FuncData := match o with | ⟨_, _, .func fd, _⟩ => fd | _ => default
def stmtsOf (fd : FuncData) : List Stmt := match fd.body with | .stmts b => b | _ => []
noncomputable abbrev fd285 (P : Params) : FuncData := funcOf (Fast.tw15957777550174858029 P)
theorem fn285 (P : Params) : FnOk P 285 (fd285 P) (stmtsOf (fd285 P)) := ⟨⟨_, by rfl, by rfl⟩, by decide, by rfl, by rfl, by rfl, by rfl, by rfl, by rfl, by rfl, ⟨_, _, _, _, by rfl, by decide, by rfl, by rfl, by rfl⟩⟩
abbrev parNames (fd : FuncData) : List PySem.Str := fd.params.args.map (·.arg)
theorem clampFn (w : World) (i : Int) : Fn w 1 285 [.dat (.int i)] (.dat (.int (clampI i))) := by
  refine FnE.of (n := 0) (ns := parNames (fd285 w.params)) (fn285 w.params) (fun vs hv => by
    match vs, hv with
    | [v], _ => rfl) (by rfl) (of_decide_eq_true (by rfl)) (by rfl) (fun _ _ => NewStab.triv) fun A V L s s1 _ _ _ _ ok t => ?_
  refine do_doc ok t fun s2 t => ?_
  refine do_assignP ok t (b := .dat (.int i)) (Pu.bcall (id := "_operator.index") ok (Pu.glob ok (by rfl) (by kernel_rfl)) (Pa.cons ok (Pu.name ok (by rfl)) Pa.nil) fun s vs t h => ?_) (.inl (by rfl)) fun s3 ok t => ?_
  · obtain ⟨v, rfl, hh⟩ := Has1 h
    obtain ⟨t, rfl⟩ := Dat.int hh
    exact call_oi
  refine do_if ok t (Te.cmp ok (Pu.name ok (by rfl)) Pu.int fun s u v _ hu hv => cLt hu hv) (fun hb s4 t => ?_) (fun hb s4 t => ?_)
  · refine do_retP ok t Pu.int fun s5 v h t => ⟨t.fin, _, ?_, h⟩
    have hb := of_decide_eq_true hb
    unfold clampI; rw [if_pos hb]
  refine do_nil ?_
  refine do_if ok t (Te.cmp ok (Pu.name ok (by rfl)) Pu.int fun s u v _ hu hv => cGt hu hv) (fun hc s4 t => ?_) (fun hc s4 t => ?_)
  · refine do_retP ok t Pu.int fun s5 v h t => ⟨t.fin, _, ?_, h⟩
    have hb := of_decide_eq_false hb
    have hc := of_decide_eq_true hc
    unfold clampI; rw [if_neg hb, if_pos hc]
  refine do_nil ?_
  refine do_retP ok t (Pu.name ok (by rfl)) fun s5 v h t => ⟨t.fin, _, ?_, h⟩
  have hb := of_decide_eq_false hb
  have hc := of_decide_eq_false hc
  unfold clampI; rw [if_neg hb, if_neg hc]
end Mine
end TW8
section TW9
open PySem PySem.W PyProof.Rows
set_option Elab.async false
namespace Mine
set_option maxRecDepth 100000
section
variable {c : Cx}
/-- an expression that only makes new things, told by what holds of its value -/
def Pq (c : Cx) (e : Expr) (R : Value → Shared → Prop) : Prop := ∀ s, c.St s →
  wpAny (model pw c.w) c.A (eval e c.env) (fun v s' => Grow s.heap s'.heap ∧ Sa s s' ∧ R v s') (fun _ _ => False) s
theorem Cx.St.vol (ok : c.Ok) {s : Shared} (t : c.St s) {p : Addr} {h' : Heap} {tk : Nat} (hp : c.W p = true) (hf : frm c.env p = false) (sb : Heap.SameBut p s.heap h') (j : c.J h') : c.St { s with heap := h', toks := tk } := by
  have hpV := ok.wv p hp
  have hl : c.env.locals ≠ p := fun e => by rw [← e, frm_locals] at hf; cases hf
  obtain ⟨m, cm, f⟩ := t.fr
  have u := upBut hpV sb
  refine ⟨fun i o n e => (sb.2 i (ok.nold hpV (L1_lt e) n)).trans (t.gl i o n e), fun a e => Nat.lt_of_lt_of_le (t.vok a e) u.size, ⟨m, cm, f.ns.sameBut sb hl, fun n d e => (f.cell n d e).sameBut sb fun q => ?_, fun y b e => ?_⟩, t.up.trans (upBut hp sb), ⟨t.sa.gens, t.sa.os⟩, j⟩
  · rw [← q, frm_cell e] at hf; cases hf
  · obtain ⟨v, l, q⟩ := f.nm y b e
    exact ⟨v, l, q.up u⟩
theorem Pq.item (ok : c.Ok) {e i : Expr} {pos : Pos} {D : Addr} {k : Int} {R : Value → Shared → Prop} (x : Pu c e (.raw (.ref D))) (y : Pd c i (.int k)) (h0 : 0 ≤ k) (hhi : k < 2 ^ 63)
    (hJ : ∀ s, c.St s → ∃ items v, s.heap.IsList D items ∧ items[k.toNat]? = some v ∧ R v s) (hs : IxForm i := by intro _ _ _; with_unfolding_all rfl) : Pq c (.Subscript e i pos) R := fun s t => by
  refine Subscript_ (wpAny_mono (x s t) (fun u s1 ⟨g1, a1, h1⟩ => wpAny_mono (y s1 (t.grow ok g1 a1)) (fun v s2 ⟨g2, a2, h2⟩ => ?_) fun _ _ f => f) fun _ _ f => f)
  obtain ⟨_, rfl⟩ := Dat.int h2
  obtain rfl : u = .ref D := h1
  obtain ⟨items, v, l, hv, r⟩ := hJ s2 ((t.grow ok g1 a1).grow ok g2 a2)
  exact tail_any l.typeIs slot_list_getitem.lookup (wpAny_getItem_list l h0 hhi hv ⟨g1.trans g2, a1.trans a2, r⟩) (hs _ _ _)
theorem do_ifE (ok : c.Ok) {s : Shared} (t : c.St s) {test : Expr} {body orelse rest : List Stmt} {pos : Pos} {Q : Flow → Shared → Prop} {T : Bool → Shared → Prop}
    (h : ∀ s, c.St s → wpAny (model pw c.w) c.A (isTrue test c.env (eval test c.env)) (fun b s' => Grow s.heap s'.heap ∧ Sa s s' ∧ T b s') (fun _ _ => False) s)
    (kT : ∀ s', c.St s' → T true s' → Do c body (andThen c rest Q) s') (kF : ∀ s', c.St s' → T false s' → Do c orelse (andThen c rest Q) s') : Do c (.If test body orelse pos :: rest) Q s := by
  refine do_cons (wpAny_If (wpAny_mono (h s t) (fun v s1 ⟨g, a, e⟩ => ?_) fun _ _ f => f))
  have t1 := t.grow ok g a
  cases v
  · exact kF s1 t1 e
  · exact kT s1 t1 e
theorem do_assignV (ok : c.Ok) {s : Shared} {x : PySem.Str} {e : Expr} {rest : List Stmt} {pos pos' : Pos} {Q : Flow → Shared → Prop}
    (h : wpAny (model pw c.w) c.A (eval e c.env) (fun v s' => c.St s' ∧ ∃ b, Has c.V s'.heap v b ∧ ∀ s2, (c.put x b).Ok → (c.put x b).St s2 → Do (c.put x b) rest Q s2) (fun _ _ => False) s) (hx : StoreOk c.env x)
    (hs : swapsWith e (some (.Name x pos')) pos.line c.env = pure false := by rfl) : Do c (.Assign [.Name x pos'] e pos :: rest) Q s := by
  refine do_cons (wpAny_Assign_Name (wpAny_mono h (fun v s1 ⟨t1, b, hv, k⟩ => ?_) fun _ _ f => f) hs)
  exact wpAny_mono (store ok t1 hv hx) (fun _ s2 ⟨t2, _, _⟩ => k s2 (ok.put x b) t2) fun _ _ f => f
end
def two (D D0 : Addr) : Vol := fun a => a == D || a == D0
/-- the drawing list: what is left of the script, and the seed -/
def Drw (D D0 : Addr) (h : Heap) : Prop := D ≠ D0 ∧ (∃ sd t, h.IsList D #[.ref D0, .int sd t] ∧ 0 ≤ sd ∧ sd < 2147483647) ∧ ∃ items n, IsL h D0 items n ∧ items.size ≤ 60 ∧ ∀ v ∈ items.toList, ∃ i t, v = Value.int i t
theorem Drw.stab {D D0 : Addr} {h₀ : Heap} (d : Drw D D0 h₀) : NewStab h₀ (Drw D D0) := by
  intro F hF h h' u ⟨ne, ⟨sd, t, ⟨o, e, r⟩, b⟩, items, n, l, c⟩
  obtain ⟨_, ⟨_, _, ⟨o0, e0, _⟩, _⟩, _, _, l0, _⟩ := d
  have k : ∀ a o, h₀.get? a = some o → F a = false := fun a o e => by
    cases hf : F a
    · rfl
    · exact absurd (Heap.lt_size e) (Nat.not_lt.mpr (hF a hf))
  exact ⟨ne, ⟨sd, t, ⟨o, u.keep _ _ (k _ _ e0) e, r⟩, b⟩, items, n, u.keep _ _ (k _ _ l0) l, c⟩
noncomputable abbrev fd297 (P : Params) : FuncData := funcOf (Fast.tw7425838310643162416 P)
theorem fn297 (P : Params) : FnOk P 297 (fd297 P) (stmtsOf (fd297 P)) := ⟨⟨_, by rfl, by rfl⟩, by decide, by rfl, by rfl, by rfl, by rfl, by rfl, by rfl, by rfl, ⟨_, _, _, _, by rfl, by decide, by rfl, by rfl, by rfl⟩⟩
theorem Cx.Ok.noFrm {n : Nat} {w : World} {A : Around} {V X : Vol} {fd : FuncData} {a L : Addr} {ρ : List (PySem.Str × Bnd)} {s : Shared} {J : Heap → Prop} (nf : ∀ b, frm (callEnvC fd L a) b = true → s.heap.objs.size ≤ b) {p : Addr} {o : Obj} (e : s.heap.get? p = some o) : frm (cxOf n w A V X fd a L ρ s J).env p = false := by
  show frm (callEnvC fd L a) p = false
  cases h : frm (callEnvC fd L a) p
  · rfl
  · exact absurd (Heap.lt_size e) (Nat.not_lt.mpr (nf p h))
end Mine
end TW9
section TW10
open PySem PySem.W PyProof.Rows
set_option Elab.async false
namespace Mine
set_option maxRecDepth 100000
section
theorem canLay_ints : ∀ is : List Int, PyData.canLayAll0 (is.map .int) = true
  | [] => rfl
  | _ :: r => canLay_ints r
theorem depth_ints : ∀ is : List Int, PyData.depthAll (is.map .int) ≤ 1
  | [] => by rw [List.map_nil]; decide +kernel
  | i :: r => by
    have := depth_ints r
    rw [List.map_cons, PyData.depthAll, PyData.depth]
    omega
theorem shaped_ints (is : List Int) : SeqAt.shaped (.list (is.map .int)) = true := by
  unfold SeqAt.shaped
  rw [Bool.and_eq_true_iff]
  refine ⟨canLay_ints is, decide_eq_true ?_⟩
  have := depth_ints is
  rw [PyData.depth]; omega
theorem ints_of : ∀ {vs : List Value}, (∀ v ∈ vs, ∃ i t, v = Value.int i t) → ∃ is : List Int, ∀ h, ReadsAll h vs (is.map .int) []
  | [], _ => ⟨[], fun _ => .nil⟩
  | v :: r, k => by
    obtain ⟨is, f⟩ := ints_of fun v hv => k v (List.mem_cons_of_mem _ hv)
    obtain ⟨i, t, rfl⟩ := k v List.mem_cons_self
    exact ⟨i :: is, fun h => .cons (.int i t) (f h)⟩
theorem reads_len : ∀ {h : Heap} {vs : List Value} {ds : List PyData} {as : List Addr}, ReadsAll h vs ds as → vs.length = ds.length
  | _, _, _, _, .nil => rfl
  | _, _, _, _, .cons _ r => congrArg (· + 1) (reads_len r)
variable {c : Cx}
theorem take_test (ok : c.Ok) {D D0 : Addr} (hJ : ∀ s, c.St s → Drw D D0 s.heap) {e : Expr} {pos pos' : Pos} (x : Pq c e fun v _ => v = .ref D0) (s : Shared) (t : c.St s)
    (hm : behindInMarks .NotEq (.List [] pos') = false := by with_unfolding_all rfl) :
    wpAny (model pw c.w) c.A (isTrue (.Compare e [.NotEq] [.List [] pos'] pos) c.env (eval (.Compare e [.NotEq] [.List [] pos'] pos) c.env)) (fun b s' => Grow s.heap s'.heap ∧ Sa s s' ∧ ∃ items n, IsL s'.heap D0 items n ∧ b = !items.isEmpty) (fun _ _ => False) s := by
  refine wpAny_isTrue_Compare1 (wpAny_mono (x s t) (fun u s1 ⟨g1, a1, h1⟩ => ?_) fun _ _ f => f) hm
  subst h1
  have t1 := t.grow ok g1 a1
  refine wpAny_mono (Pu.lst ok (ds := []) Pa.nil (by decide) s1 t1) (fun v s2 ⟨g2, a2, h2⟩ => ?_) fun _ _ f => f
  have t2 := t1.grow ok g2 a2
  obtain ⟨_, _, items, n, l, len, hin⟩ := hJ s2 t2
  obtain ⟨is, rs⟩ := ints_of hin
  obtain ⟨bs, r2⟩ := Has.reads h2
  have r1 : Reads s2.heap (.ref D0) (.list (is.map .int)) [D0] := .list l rfl rfl (rs _)
  refine ne_dataH r1 r2 (shaped_ints is) (by decide +kernel) (by have := ok.rm.units; have : cLine = 9900 := rfl; omega) ?_
  refine wpAny_truthy_bool ⟨g1.trans g2, a1.trans a2, items, n, l, ?_⟩
  have hl := reads_len (rs s2.heap)
  rw [List.length_map] at hl
  cases is with
  | nil =>
    have : items.toList = [] := List.eq_nil_of_length_eq_zero hl
    have : items = #[] := by cases items; simp_all
    rw [this]; rfl
  | cons i r =>
    have : items.isEmpty = false := by
      cases h : items.isEmpty
      · rfl
      · rw [Array.isEmpty_iff] at h; rw [h] at hl; simp at hl
    rw [this]; rfl
end
theorem erase0 (xs : Array Value) : (xs.eraseIdxIfInBounds 0).toList = xs.toList.drop 1 := by
  obtain ⟨l⟩ := xs
  cases l with
  | nil => rfl
  | cons a r => simp [Array.eraseIdxIfInBounds]
theorem IsL.mem_lt {h : Heap} {a : Addr} {items : Array Value} {n : Nat} (x : IsL h a items n) : ∃ o, h.get? a = some o := ⟨_, x⟩
theorem seqIx {k n : Nat} (h : k < n) : seqIndex? (k : Int) n = some k := by
  unfold seqIndex?
  have : ¬ ((k : Int) < 0) := by omega
  simp only [this, if_false]
  rw [if_pos (by simp only [Bool.and_eq_true, decide_eq_true_eq]; omega)]
  rfl
def inRange (m : Int) : Bnd → Prop := fun b => ∃ r : Int, b = .dat (.int r) ∧ 0 ≤ r ∧ r < m
theorem takeFn (w : World) (D D0 : Addr) (m : Int) (hm : 0 < m) : FnE w 1 297 [.raw (.ref D), .dat (.int m)] (two D D0) (Drw D D0) (inRange m) := by
  refine FnE.of (n := 0) (ns := parNames (fd297 w.params)) (fn297 w.params) (fun vs hv => by
    match vs, hv with
    | [v, u], _ => rfl) (by rfl) (of_decide_eq_true (by rfl)) (by rfl) (fun _ d => d.stab) fun A V L s s1 vf hJ nf xv ok t => ?_
  have fD : frm (callEnvC (fd297 w.params) L 297) D = false := by
    obtain ⟨_, ⟨_, _, ⟨o, e, _⟩, _⟩, _⟩ := hJ
    exact Cx.Ok.noFrm (n := 0) (w := w) (A := A) (V := V) (X := two D D0) (ρ := []) (J := noJ) nf e
  have fD0 : frm (callEnvC (fd297 w.params) L 297) D0 = false := by
    obtain ⟨_, _, _, _, e, _⟩ := hJ
    exact Cx.Ok.noFrm (n := 0) (w := w) (A := A) (V := V) (X := two D D0) (ρ := []) (J := noJ) nf e
  have wD : (joinV (two D D0) (frm (callEnvC (fd297 w.params) L 297))) D = true := by unfold joinV two; simp
  have wD0 : (joinV (two D D0) (frm (callEnvC (fd297 w.params) L 297))) D0 = true := by unfold joinV two; simp
  have fin : ∀ (i : Int) s2, (cxOf 0 w A V (two D D0) (fd297 w.params) 297 L ((⟨⟨[102, 111, 117, 110, 100]⟩⟩, .dat (.int i)) :: (parNames (fd297 w.params)).zip [Bnd.raw (Value.ref D), Bnd.dat (PyData.int m)]) s (Drw D D0)).Ok → (cxOf 0 w A V (two D D0) (fd297 w.params) 297 L ((⟨⟨[102, 111, 117, 110, 100]⟩⟩, .dat (.int i)) :: (parNames (fd297 w.params)).zip [Bnd.raw (Value.ref D), Bnd.dat (PyData.int m)]) s (Drw D D0)).St s2 →
      Do (cxOf 0 w A V (two D D0) (fd297 w.params) 297 L ((⟨⟨[102, 111, 117, 110, 100]⟩⟩, .dat (.int i)) :: (parNames (fd297 w.params)).zip [Bnd.raw (Value.ref D), Bnd.dat (PyData.int m)]) s (Drw D D0)) ((stmtsOf (fd297 w.params)).drop 1) (Ret (cxOf 0 w A V (two D D0) (fd297 w.params) 297 L ((parNames (fd297 w.params)).zip [Bnd.raw (Value.ref D), Bnd.dat (PyData.int m)]) s (Drw D D0)) (inRange m)) s2 := fun i s2 ok t => by
    refine do_retP ok t (Pu.mod ok (Pu.name ok (by rfl)) (Pu.name ok (by rfl)) (by omega)) fun s5 v h t => ⟨t.fin, _, ⟨_, rfl, ?_, ?_⟩, h⟩
    · rw [Int.fmod_eq_emod_of_nonneg _ (by omega)]; exact Int.emod_nonneg _ (by omega)
    · rw [Int.fmod_eq_emod_of_nonneg _ (by omega)]; exact Int.emod_lt_of_pos _ hm
  have i0 : ∀ s, (cxOf 0 w A V (two D D0) (fd297 w.params) 297 L ((parNames (fd297 w.params)).zip [Bnd.raw (Value.ref D), Bnd.dat (PyData.int m)]) s1 (Drw D D0)).St s → True := fun _ _ => trivial
  refine do_ifE ok t (T := fun b s => ∃ items n, IsL s.heap D0 items n ∧ b = !items.isEmpty) (fun s t => take_test ok (fun s t => t.j) (Pq.item ok (Pu.name ok (by rfl)) Pu.int (by decide) (by decide) (fun s t => ?_)) s t) (fun s2 t ⟨items, n, l, hb⟩ => ?_) fun s2 t ⟨items, n, l, hb⟩ => ?_
  · obtain ⟨_, ⟨sd, tk, l, _⟩, _⟩ := t.j
    exact ⟨_, _, l, by rfl, rfl⟩
  · refine do_assignV ok ?_ (.inl (by rfl))
    refine PySem.Call_method1 (by rfl) (by rfl) (by rfl) (wpAny_mono ((Pq.item (R := fun v _ => v = .ref D0) ok (Pu.name ok (by rfl)) Pu.int (by decide) (by decide) (fun s t => ?_)) s2 t) (fun u s3 ⟨g, a, h⟩ => ?_) fun _ _ f => f)
    · obtain ⟨_, ⟨sd, tk, l, _⟩, _⟩ := t.j
      exact ⟨_, _, l, by rfl, rfl⟩
    subst h
    have t3 := t.grow ok g a
    have l3 := g.keeps _ _ l
    refine ⟨"list", "list.pop", F.plainAttrs_list, F.slot_list_pop, F.type_list_pop, ⟨_, l3, rfl⟩, fun a e => ?_, P.pop_at_list (wpAny_mono (Pu.int s3 t3) (fun v s4 ⟨g4, a4, h4⟩ => ?_) fun _ _ f => f)⟩
    · cases e; exact ⟨_, l3, rfl⟩
    obtain ⟨tk, rfl⟩ := Dat.int h4
    have t4 := t3.grow ok g4 a4
    obtain ⟨ne, hD, items', n', l', sz, hin⟩ := t4.j
    have l4 := g4.keeps _ _ l3
    have e := Option.some.inj (l4.symm.trans l')
    injection e with _ _ e _
    injection e with e1 e2
    subst e1; subst e2
    have hpos : 0 < items.size := by
      rcases Nat.eq_zero_or_pos items.size with h | h
      · rw [Array.size_eq_zero_iff] at h; rw [h] at hb; cases hb
      · exact h
    obtain ⟨i, ti, hy⟩ := hin items[0] (by simp)
    refine ⟨items, n, 0, tk, 0, items[0], by have := sizeLine_eq; omega, rfl, l4, by decide, ?_, by simp [hpos], ?_⟩
    · exact seqIx hpos
    refine ⟨t4.vol ok wD0 fD0 (Heap.SameBut.update ..) ⟨ne, ?_, _, _, IsL.update l4 _, ?_, fun v hv => hin v ?_⟩, _, hy ▸ hasInt _ _ i ti, fun s5 ok t => do_nil (fin i s5 ok t)⟩
    · obtain ⟨sd, td, ⟨o, e, r⟩, b⟩ := hD
      exact ⟨sd, td, ⟨o, (Heap.get?_update_other _ _ (Ne.symm ne)).trans e, r⟩, b⟩
    · rw [← Array.length_toList, erase0, List.length_drop, Array.length_toList]; omega
    · rw [erase0] at hv; exact List.mem_of_mem_drop hv
  · have d1 : ∀ {p1 p2 p3 : Pos} {k : Nat}, Pq (cxOf 0 w A V (two D D0) (fd297 w.params) 297 L ((parNames (fd297 w.params)).zip [Bnd.raw (Value.ref D), Bnd.dat (PyData.int m)]) s (Drw D D0)) (.Subscript (.Name ⟨⟨[100, 114, 97, 119]⟩⟩ p1) (.Constant (.int 1) k p2) p3)
        (fun v _ => ∃ sd t, v = .int sd t ∧ 0 ≤ sd ∧ sd < 2147483647) := Pq.item ok (Pu.name ok (by rfl)) Pu.int (by decide) (by decide) (fun s t => by
      obtain ⟨_, ⟨sd, tk, l, b⟩, _⟩ := t.j
      exact ⟨_, _, l, by rfl, sd, tk, rfl, b⟩)
    refine do_cons (wpAny_Assign_Subscript (wpAny_BinOp (wpAny_BinOp (wpAny_mono (d1 s2 t) (fun u s3 ⟨g3, a3, sd, tk, h3, b1, b2⟩ => ?_) fun _ _ f => f))) (by rfl))
    subst h3
    have t3 := t.grow ok g3 a3
    refine wpAny_mono (Pu.int s3 t3) (fun v s4 ⟨g4, a4, h4⟩ => ?_) fun _ _ f => f
    obtain ⟨tk4, rfl⟩ := Dat.int h4
    have t4 := t3.grow ok g4 a4
    refine PyProof.Rows.mul_int ?_ (IntMulOk.of_right (by decide +kernel))
    have t5 := t4.grow (s' := { s4 with toks := s4.toks + 1 }) ok Grow.refl ⟨rfl, rfl⟩
    refine wpAny_mono (Pu.int _ t5) (fun v s6 ⟨g6, a6, h6⟩ => ?_) fun _ _ f => f
    obtain ⟨tk6, rfl⟩ := Dat.int h6
    have t6 := t5.grow ok g6 a6
    refine PyProof.Rows.mod_int' (by decide) ?_
    have t7 := t6.grow (s' := { s6 with toks := s6.toks + 1 }) ok Grow.refl ⟨rfl, rfl⟩
    refine wpAny_mono ((Pu.name (b := .raw (.ref D)) ok (by rfl)) _ t7) (fun v s8 ⟨g8, a8, h8⟩ => ?_) fun _ _ f => f
    obtain rfl : v = .ref D := h8
    have t8 := t7.grow ok g8 a8
    refine wpAny_mono (Pu.int s8 t8) (fun v s9 ⟨g9, a9, h9⟩ => ?_) fun _ _ f => f
    obtain ⟨tk9, rfl⟩ := Dat.int h9
    have t9 := t8.grow ok g9 a9
    obtain ⟨ne, ⟨sd', td, l9, b'⟩, items', n', l', rr⟩ := t9.j
    refine wpAny_setItem_list l9 (by decide) (by decide) (show (1 : Int) < ((2 : Nat) : Int) by decide) fun h' hl sb => ?_
    have hr : 0 ≤ (sd * 48271).fmod 2147483647 ∧ (sd * 48271).fmod 2147483647 < 2147483647 := by
      rw [Int.fmod_eq_emod_of_nonneg _ (by omega)]
      exact ⟨Int.emod_nonneg _ (by omega), Int.emod_lt_of_pos _ (by omega)⟩
    have t10 := t9.vol (h' := h') (tk := s9.toks) ok wD fD sb ⟨ne, ⟨_, _, hl, hr⟩, items', n', (sb.2 D0 (Ne.symm ne)).trans l', rr⟩
    refine do_assignV ok (wpAny_BinOp (wpAny_mono (d1 _ t10) (fun u s11 ⟨g11, a11, sd2, tk2, h11, b3, b4⟩ => ?_) fun _ _ f => f)) (.inl (by rfl))
    subst h11
    have t11 := t10.grow ok g11 a11
    refine wpAny_mono (Pu.int s11 t11) (fun v s12 ⟨g12, a12, h12⟩ => ?_) fun _ _ f => f
    obtain ⟨tk12, rfl⟩ := Dat.int h12
    have t12 := t11.grow ok g12 a12
    refine PyProof.Rows.floordiv_int (by decide) ?_ (.inl (PyProof.noPylong_small (by decide)))
    exact ⟨t12.grow ok Grow.refl ⟨rfl, rfl⟩, _, hasInt _ _ _ _, fun s13 ok t => do_nil (fin _ s13 ok t)⟩
end Mine
end TW10
section TW11
open PySem PySem.W PyProof.Rows
set_option Elab.async false
namespace Mine
/-- a run never loses places -/
theorem runs_size {M : Model} {Γ : Ctx} {p : Pos} {t : Sem Fin} {fs : List Frame} {s s' : Shared} {e : End} (h : Runs M Γ p t fs s e s') : s.heap.objs.size ≤ s'.heap.objs.size := by
  induction h <;> (try simp only [Shared.setGen, Heap.size_push, Heap.size_after_update] at *) <;> omega
theorem wakes_size {M : Model} {Γ : Ctx} {p : Pos} {g : Nat} {r : Resume} {s s' : Shared} {res : GenResult} (h : Wakes M Γ p g r s res s') : s.heap.objs.size ≤ s'.heap.objs.size := by
  unfold Wakes at h
  split at h
  · exact h.elim
  · split at h
    · obtain ⟨e₁, s₁, hr, _, _, rfl⟩ := h; exact (runs_size hr : (s.setGen g .running).heap.objs.size ≤ s₁.heap.objs.size)
    · rw [h.2]; exact Nat.le_refl _
    · rw [h.2]; exact Nat.le_refl _
  · obtain ⟨e₁, s₁, hr, _, _, rfl⟩ := h; exact (runs_size hr : (s.setGen g .running).heap.objs.size ≤ s₁.heap.objs.size)
  · rw [h.2]; exact Nat.le_refl _
  · rw [h.2]; exact Nat.le_refl _
theorem wp_size {α : Type} (M : Model) (Γ : Ctx) (n : Nat) (t : Sem α) : ∀ (Q : α → Pos → Shared → Prop) (E : Value → Pos → Shared → Prop) (p : Pos) (s : Shared), n ≤ s.heap.objs.size → Sem.wp M Γ t Q E p s →
    Sem.wp M Γ t (fun a p' s' => n ≤ s'.heap.objs.size ∧ Q a p' s') (fun e p' s' => n ≤ s'.heap.objs.size ∧ E e p' s') p s := by
  induction t with
  | pure a => intro Q E p s hn h; exact ⟨hn, h⟩
  | raise e => intro Q E p s hn h; exact ⟨hn, h⟩
  | unsupported _ => intro Q E p s _ h; exact h
  | finish _ => intro Q E p s _ h; exact h
  | rule _ k ih => intro Q E p s hn h; exact ih () Q E p s hn h
  | «at» p' k ih => intro Q E p s hn h; exact ih () Q E p' s hn h
  | load a _ k ih => intro Q E p s hn h; obtain ⟨o, ho, h⟩ := h; exact ⟨o, ho, ih o Q E p s hn h⟩
  | update a _ f k ih => intro Q E p s hn h; exact ⟨h.1, ih () Q E p _ (by rw [Heap.size_after_update]; exact hn) h.2⟩
  | loadIfAlive a k ih => intro Q E p s hn h; exact ih _ Q E p s hn h
  | point _ k ih => intro Q E p s hn h; exact ih () Q E p s hn h
  | register _ _ => intro Q E p s _ h; exact h
  | alloc o k ih => intro Q E p s hn h; exact ih _ Q E p _ (by rw [Heap.size_push]; omega) h
  | fresh k ih => intro Q E p s hn h; exact ih _ Q E p _ hn h
  | ask k ih => intro Q E p s hn h; exact ih _ Q E p s hn h
  | choose src m k ih => intro Q E p s hn h; exact ⟨h.1, ih _ Q E p _ hn h.2⟩
  | os q _ k ih => intro Q E p s hn h; exact ih _ Q E p _ hn h
  | call c hd _ _ k ih => intro Q E p s hn h; obtain ⟨r, s', hr, h⟩ := h; exact ⟨r, s', hr, ih r Q E p s' (Nat.le_trans hn (runs_size hr)) h⟩
  | handled own k ih => intro Q E p s hn h; exact ih _ Q E p s hn h
  | genState g k ih => intro Q E p s hn h; obtain ⟨st, hs, h⟩ := h; exact ⟨st, hs, ih _ Q E p s hn h⟩
  | newGen c k ih => intro Q E p s hn h; exact ih _ Q E p _ hn h
  | resume g r _ k ih => intro Q E p s hn h; obtain ⟨res, s', hw, h⟩ := h; exact ⟨res, s', hw, ih res Q E p s' (Nat.le_trans hn (wakes_size hw)) h⟩
  | yield _ _ _ _ => intro Q E p s _ h; exact h
  | stack k ih => intro Q E p s hn h; exact ih _ Q E p s hn h
  | fork _ _ => intro Q E p s _ h; exact h
  | thread k ih => intro Q E p s hn h; exact ih _ Q E p s hn h
  | await _ _ _ _ _ => intro Q E p s _ h; exact h
theorem wpAny_size {α : Type} {M : Model} {A : Around} {s : Shared} {t : Sem α} {Q : α → Shared → Prop} {E : Value → Shared → Prop} (h : wpAny M A t (fun a s' => s.heap.objs.size ≤ s'.heap.objs.size → Q a s') E s) : wpAny M A t Q E s :=
  fun Γ p hΓ => Sem.wp_mono M Γ t (fun _ _ _ x => x.2 x.1) (fun _ _ _ x => x.2) p s (wp_size M Γ _ t _ _ p s (Nat.le_refl _) (h Γ p hΓ))
/-- uno place -/
def uno (I : Addr) : Vol := fun a => a == I
theorem uno_ne {I a : Addr} (h : a ≠ I) : uno I a = false := beq_eq_false_iff_ne.mpr h
/-- an iterator: n values, the i-th being bs i; K i: i of them told -/
structure Wk (w : World) (A : Around) (V : Vol) (I : Addr) (n : Nat) (bs : Nat → Bnd) (K : Nat → Heap → Prop) : Prop where
  stab : ∀ i F h h', (∀ a, F a = true → (V a = true ∨ I < a) ∧ a ≠ I) → Up F h h' → K i h → K i h'
  item : ∀ i s, i < n → K i s.heap → wpAny (model pw w) A (pyNext (.ref I)) (fun r s' => ∃ v, r = some v ∧ Up (uno I) s.heap s'.heap ∧ Sa s s' ∧ K (i + 1) s'.heap ∧ Has (joinV V (uno I)) s'.heap v (bs i)) (fun _ _ => False) s
  done : ∀ s, K n s.heap → wpAny (model pw w) A (pyNext (.ref I)) (fun r s' => r = none ∧ Up (uno I) s.heap s'.heap ∧ Sa s s') (fun _ _ => False) s
  own : ∀ i s target v (Q : Unit → Shared → Prop), K i s.heap → Q () s → wpAny (model pw w) A (letOwnedTupleGo target (.ref I) v) Q (fun _ _ => False) s
  self : ∀ i s (Q : Value → Shared → Prop), K i s.heap → Q (.ref I) s → wpAny (model pw w) A (pyIter (.ref I)) Q (fun _ _ => False) s
theorem Wk.new {w : World} {A : Around} {V : Vol} {I : Addr} {n : Nat} {bs : Nat → Bnd} {K : Nat → Heap → Prop} (x : Wk w A V I n bs K) {h₀ : Heap} (hI : I < h₀.objs.size) (i : Nat) : NewStab h₀ (K i) := fun F hF h h' u k =>
  x.stab i F h h' (fun a ha => ⟨.inr (Nat.lt_of_lt_of_le hI (hF a ha)), Nat.ne_of_gt (Nat.lt_of_lt_of_le hI (hF a ha))⟩) u k
theorem NewStab.and {h₀ : Heap} {J K : Heap → Prop} (x : NewStab h₀ J) (y : NewStab h₀ K) : NewStab h₀ fun h => J h ∧ K h := fun F hF h h' u ⟨j, k⟩ => ⟨x F hF h h' u j, y F hF h h' u k⟩
theorem NewStab.le {h₀ h₁ : Heap} {J : Heap → Prop} (x : NewStab h₀ J) (z : h₀.objs.size ≤ h₁.objs.size) : NewStab h₁ J := fun F hF h h' u j => x F (fun a e => Nat.le_trans z (hF a e)) h h' u j
theorem upExt {a : Addr} {s : Shared} {h' : Heap} (x : Heap.ExtBut a s.heap h') (z : s.heap.objs.size ≤ h'.objs.size) : Up (uno a) s.heap h' :=
  ⟨fun b o v e => x b o (fun q => by subst q; simp [uno] at v) e, z⟩
theorem own_plain {w : World} {A : Around} {s : Shared} {target : Expr} {I : Addr} {v : Value} {Q : Unit → Shared → Prop} {o : Obj} {T : String} (h : Q () s) (ho : s.heap.get? I = some o) (hc : o.cls = .type T)
    (hT : ["enumerate", "zip", "dict_itemiterator", "dict_reverseitemiterator", "odict_iterator", "itertools.zip_longest", "itertools.pairwise"].contains T = false) : wpAny (model pw w) A (letOwnedTupleGo target (.ref I) v) Q (fun _ _ => False) s := by
  have key : wpAny (model pw w) A (match (Value.ref I, v) with
      | (.ref r, .ref a) => (do
        let o ← load r
        match o.cls, o.data with
        | .type n, .fields vs =>
          if (["enumerate", "zip", "dict_itemiterator", "dict_reverseitemiterator", "odict_iterator", "itertools.zip_longest", "itertools.pairwise"].contains n && vs[0]? == some (rawInt a)) = true then do
            rule "for.unpacks-the-owned-tuple"
            updateField r 0 .none
          else pure ()
        | _, _ => pure () : Sem Unit)
      | _ => pure ()) Q (fun _ _ => False) s := by
    cases v with
    | ref a =>
      show wpAny _ _ (do
        let o ← load I
        match o.cls, o.data with
        | .type n, .fields vs =>
          if (["enumerate", "zip", "dict_itemiterator", "dict_reverseitemiterator", "odict_iterator", "itertools.zip_longest", "itertools.pairwise"].contains n && vs[0]? == some (rawInt a)) = true then do
            rule "for.unpacks-the-owned-tuple"
            updateField I 0 .none
          else pure ()
        | _, _ => pure () : Sem Unit) _ _ _
      refine wpAny_bind (wpAny_load ho ?_)
      rw [hc]
      cases o.data with
      | fields vs =>
        simp only [hT, Bool.false_and, Bool.false_eq_true, if_false]
        exact wpAny_pure h
      | _ => exact wpAny_pure h
    | _ => exact wpAny_pure h
  cases target with
  | Tuple _ _ _ => exact key
  | List _ _ => exact key
  | _ => exact wpAny_pure h
theorem lst_get {V : Vol} {h : Heap} {v : Value} {ds : List PyData} {a : Addr} {vs : List Value} (x : LstD V h v ds a vs) {i : Nat} (hi : i < ds.length) : ∃ u, vs[i]? = some u ∧ Has V h u (.dat (ds[i]'hi)) :=
  x.all.get (by simp [hi])
theorem tup_get {V : Vol} {h : Heap} {v : Value} {ds : List PyData} {a : Addr} {vs : List Value} (x : TupD V h v ds a vs) {i : Nat} (hi : i < ds.length) : ∃ u, vs[i]? = some u ∧ Has V h u (.dat (ds[i]'hi)) :=
  x.all.get (by simp [hi])
theorem mono_join {V W : Vol} {h : Heap} {v : Value} {b : Bnd} (x : Has V h v b) (k : ∀ a o, h.get? a = some o → V a = false → W a = false) : Has (joinV V W) h v b :=
  x.vol fun a o hv e => ⟨by unfold joinV; rw [hv, k a o e hv]; rfl, e⟩
end Mine
end TW11
section TW12
open PySem PySem.W PyProof.Rows
set_option Elab.async false
namespace Mine
theorem Up.le {F V : Vol} {h h' : Heap} (k : ∀ a, F a = true → V a = true) (u : Up F h h') : Up V h h' :=
  ⟨fun a o v e => u.keep a o (by cases f : F a; · rfl
                                 · rw [k a f] at v; cases v) e, u.size⟩
theorem joinV_l {V W : Vol} {a : Addr} (h : V a = true) : joinV V W a = true := by unfold joinV; rw [h]; rfl
theorem joinV_r {V W : Vol} {a : Addr} (h : W a = true) : joinV V W a = true := by unfold joinV; rw [h, Bool.or_true]
theorem joinV_f {V W : Vol} {a : Addr} (h : V a = false) (h' : W a = false) : joinV V W a = false := by unfold joinV; rw [h, h']; rfl
/-- a value over which a loop goes: n things, bs i the i-th -/
def Itb (w : World) (A : Around) (V : Vol) (s : Shared) (v : Value) (n : Nat) (bs : Nat → Bnd) : Prop :=
  wpAny (model pw w) A (pyIter v) (fun it s2 => ∃ I K, it = .ref I ∧ Grow s.heap s2.heap ∧ Sa s s2 ∧ s.heap.objs.size ≤ I ∧ I < s2.heap.objs.size ∧ Wk w A V I n bs K ∧ K 0 s2.heap) (fun _ _ => False) s
theorem hasNew {V : Vol} {h : Heap} {v : Value} {b : Bnd} {I : Addr} (hI : h.objs.size ≤ I) (x : Has V h v b) : Has (joinV V (uno I)) h v b :=
  mono_join x fun a o e _ => uno_ne (Nat.ne_of_lt (Nat.lt_of_lt_of_le (Heap.lt_size e) hI))
theorem hasAllNew {V : Vol} {h : Heap} {I : Addr} (hI : h.objs.size ≤ I) : ∀ {vs : List Value} {bs : List Bnd}, HasAll V h vs bs → HasAll (joinV V (uno I)) h vs bs
  | [], [], _ => trivial
  | _ :: _, _ :: _, ⟨a, b⟩ => ⟨hasNew hI a, hasAllNew hI b⟩
  | [], _ :: _, x => x.elim
  | _ :: _, [], x => x.elim
theorem itb_list {w : World} {A : Around} {V : Vol} {s : Shared} {v : Value} {ds : List PyData} (hn : A.handled = none) (x : Dat V s.heap v (.list ds)) {bs : Nat → Bnd} (hbs : ∀ i d, ds[i]? = some d → bs i = .dat d) : Itb w A V s v ds.length bs := by
  obtain ⟨a, vs, p⟩ := Dat.list x
  obtain ⟨rfl, hv, l, al, len⟩ := p
  have ha : a < s.heap.objs.size := by obtain ⟨o, e, _⟩ := l; exact Heap.lt_size e
  refine wpAny_pyIter_list l ⟨s.heap.objs.size, fun i h => h.IsListIter s.heap.objs.size a i ∧ Up V s.heap h, rfl, Grow.push _, ⟨rfl, rfl⟩, Nat.le_refl _, by rw [Heap.size_push]; exact Nat.lt_succ_self _, ?_, ⟨_, Heap.get?_push_size _ rfl, rfl, rfl⟩, (Grow.push _).up⟩
  have hne : a ≠ s.heap.objs.size := Nat.ne_of_lt ha
  have ls : ∀ {h : Heap}, Up V s.heap h → h.IsList a vs.toArray := fun u => let ⟨o, e, r⟩ := l; ⟨o, u.keep _ _ hv e, r⟩
  refine ⟨fun i F h h' hF u ⟨it, uv⟩ => ?_, fun i s1 hi ⟨it, uv⟩ => ?_, fun s1 ⟨it, uv⟩ => ?_, fun i s1 target v Q ⟨it, _⟩ hQ => ?_, fun i s1 Q ⟨it, _⟩ hQ => wpAny_pyIter_listiter it hQ⟩
  · have f1 : F s.heap.objs.size = false := by
      cases e : F s.heap.objs.size
      · rfl
      · exact absurd rfl (hF _ e).2
    refine ⟨let ⟨o, e, r⟩ := it; ⟨o, u.keep _ _ f1 e, r⟩, ⟨fun p o hp e => u.keep p o ?_ (uv.keep p o hp e), Nat.le_trans uv.size u.size⟩⟩
    cases f : F p
    · rfl
    · rcases (hF _ f).1 with q | q
      · rw [q] at hp; cases hp
      · exact absurd (Heap.lt_size e) (Nat.not_lt.mpr (Nat.le_of_lt q))
  · obtain ⟨y, hy, hd⟩ := al.get (i := i) (b := .dat (ds[i]'hi)) (by simp [hi])
    refine wpAny_pyNext_list_item it (ls uv) (by simpa using hy) fun h' it' sb => ?_
    have u := upBut (V := uno s.heap.objs.size) (by simp [uno]) sb
    exact ⟨y, rfl, u, ⟨rfl, rfl⟩, ⟨it', ⟨fun p o hp e => (sb.2 p (Nat.ne_of_lt (Heap.lt_size e))).trans (uv.keep p o hp e), Nat.le_trans uv.size u.size⟩⟩,
      (hbs i (ds[i]'hi) (by simp [hi]) ▸ (hasNew (Nat.le_refl _) hd) : Has _ _ _ (bs i)).up ((uv.le fun b hb => joinV_l hb).trans (u.le fun b hb => joinV_r hb))⟩
  · exact wpAny_size (wpAny_pyNext_list_end hn it (ls uv) (by simp [len]) fun h' he hz => ⟨rfl, upExt he hz, ⟨rfl, rfl⟩⟩)
  · obtain ⟨o, ho, hc, _⟩ := it
    exact own_plain hQ ho hc (by decide +kernel)
theorem itb_tuple {w : World} {A : Around} {V : Vol} {s : Shared} {v : Value} {ds : List PyData} (hn : A.handled = none) (x : Dat V s.heap v (.tuple ds)) {bs : Nat → Bnd} (hbs : ∀ i d, ds[i]? = some d → bs i = .dat d) : Itb w A V s v ds.length bs := by
  obtain ⟨a, vs, p⟩ := Dat.tuple x
  obtain ⟨rfl, hv, l, al, len⟩ := p
  have ha : a < s.heap.objs.size := by obtain ⟨o, e, _⟩ := l; exact Heap.lt_size e
  refine iter_tuple l ⟨s.heap.objs.size, fun i h => IsTupIter h s.heap.objs.size a i ∧ Up V s.heap h, rfl, Grow.push _, ⟨rfl, rfl⟩, Nat.le_refl _, by rw [Heap.size_push]; exact Nat.lt_succ_self _, ?_, ⟨_, Heap.get?_push_size _ rfl, rfl, rfl⟩, (Grow.push _).up⟩
  have hne : a ≠ s.heap.objs.size := Nat.ne_of_lt ha
  have ls : ∀ {h : Heap}, Up V s.heap h → IsTup h a vs.toArray := fun u => let ⟨o, e, r⟩ := l; ⟨o, u.keep _ _ hv e, r⟩
  refine ⟨fun i F h h' hF u ⟨it, uv⟩ => ?_, fun i s1 hi ⟨it, uv⟩ => ?_, fun s1 ⟨it, uv⟩ => ?_, fun i s1 target v Q ⟨it, _⟩ hQ => ?_, fun i s1 Q ⟨it, _⟩ hQ => PySem.wpAny_pyIter_tupleiter it hQ⟩
  · have f1 : F s.heap.objs.size = false := by
      cases e : F s.heap.objs.size
      · rfl
      · exact absurd rfl (hF _ e).2
    refine ⟨let ⟨o, e, r⟩ := it; ⟨o, u.keep _ _ f1 e, r⟩, ⟨fun p o hp e => u.keep p o ?_ (uv.keep p o hp e), Nat.le_trans uv.size u.size⟩⟩
    cases f : F p
    · rfl
    · rcases (hF _ f).1 with q | q
      · rw [q] at hp; cases hp
      · exact absurd (Heap.lt_size e) (Nat.not_lt.mpr (Nat.le_of_lt q))
  · obtain ⟨y, hy, hd⟩ := al.get (i := i) (b := .dat (ds[i]'hi)) (by simp [hi])
    refine next_tuple_item it (ls uv) (by simpa using hy) fun h' it' sb => ?_
    have u := upBut (V := uno s.heap.objs.size) (by simp [uno]) sb
    exact ⟨y, rfl, u, ⟨rfl, rfl⟩, ⟨it', ⟨fun p o hp e => (sb.2 p (Nat.ne_of_lt (Heap.lt_size e))).trans (uv.keep p o hp e), Nat.le_trans uv.size u.size⟩⟩,
      (hbs i (ds[i]'hi) (by simp [hi]) ▸ (hasNew (Nat.le_refl _) hd) : Has _ _ _ (bs i)).up ((uv.le fun b hb => joinV_l hb).trans (u.le fun b hb => joinV_r hb))⟩
  · exact wpAny_size (next_tuple_end hn it (ls uv) (by simp [len]) fun h' he hz => ⟨rfl, upExt he hz, ⟨rfl, rfl⟩⟩)
  · obtain ⟨o, ho, hc, _⟩ := it
    exact own_plain hQ ho hc (by decide +kernel)
/-- the same things seen without the iterator's place -/
theorem Cx.St.back {c : Cx} {I : Addr} {ρ : List (PySem.Str × Bnd)} {J J' : Heap → Prop} {s : Shared} (hI : c.s₀.heap.objs.size ≤ I)
    (t : ({ c with V := joinV c.V (uno I), W := joinV c.W (uno I), ρ := ρ, J := J } : Cx).St s) (j : J s.heap → J' s.heap) : ({ c with ρ := ρ, J := J' } : Cx).St s :=
  ⟨t.gl, fun a e => t.vok a (joinV_l e), let ⟨m, cm, f⟩ := t.fr; ⟨m, cm, f.ns, f.cell, fun y b e => let ⟨v, l, q⟩ := f.nm y b e; ⟨v, l, q.vol fun a o h e => ⟨(Bool.or_eq_false_iff.mp h).1, e⟩⟩⟩,
    ⟨fun a o h e => t.up.keep a o (joinV_f h (uno_ne (Nat.ne_of_lt (Nat.lt_of_lt_of_le (Heap.lt_size e) hI)))) e, t.up.size⟩, t.sa, j t.j⟩
theorem hasBack {V : Vol} {I : Addr} {h : Heap} {v : Value} {b : Bnd} (x : Has (joinV V (uno I)) h v b) : Has V h v b := x.vol fun _ _ h e => ⟨(Bool.or_eq_false_iff.mp h).1, e⟩
def Cx.at (c : Cx) (I : Addr) (ρ : List (PySem.Str × Bnd)) (J : Heap → Prop) : Cx := { c with V := joinV c.V (uno I), W := joinV c.W (uno I), ρ := ρ, J := J }
theorem Cx.Ok.at {c : Cx} (ok : c.Ok) {I : Addr} (hI : 336 ≤ I) {ρ : List (PySem.Str × Bnd)} {J : Heap → Prop} (j : ∀ h h', Up (own c.env) h h' → J h → J h') : (c.at I ρ J).Ok :=
  ⟨ok.fn, ok.gb, ok.bi, ok.rm, fun a h => joinV_l (ok.fw a h), fun a h => (Bool.or_eq_true_iff.mp h).elim (fun h => joinV_l (ok.wv a h)) fun h => joinV_r h, j, ok.lc, ok.ap,
    fun a h1 h2 => joinV_f (ok.old a h1 h2) (uno_ne (Nat.ne_of_lt (Nat.lt_of_lt_of_le h1 hI))), joinV_l ok.vtab⟩
theorem St_upI {c : Cx} {s : Shared} {I : Addr} {ρ : List (PySem.Str × Bnd)} {J J' : Heap → Prop} (hI : 336 ≤ I) (hf : frm c.env I = false) {s' : Shared} (t : (c.at I ρ J).St s) (u : Up (uno I) s.heap s'.heap) (a : Sa s s') (j : J' s'.heap) : (c.at I ρ J').St s' :=
  have uV : Up (joinV c.V (uno I)) s.heap s'.heap := u.le fun _ h => joinV_r h
  have uW : Up (joinV c.W (uno I)) s.heap s'.heap := u.le fun _ h => joinV_r h
  ⟨fun i o n e => u.keep _ _ (uno_ne (Nat.ne_of_lt (Nat.lt_of_lt_of_le (L1_lt e) hI))) (t.gl i o n e), fun b e => Nat.lt_of_lt_of_le (t.vok b e) u.size,
    let ⟨m, cm, f⟩ := t.fr
    ⟨m, cm, (let ⟨o, es, ep, e, r⟩ := f.ns; ⟨o, es, ep, u.keep _ _ (uno_ne fun q => by rw [← q] at hf; exact absurd (frm_locals c.env) (Bool.eq_false_iff.mp hf)) e, r⟩),
      fun n d e => let ⟨o, p, r⟩ := f.cell n d e; ⟨o, u.keep _ _ (uno_ne fun q => by rw [← q] at hf; exact absurd (frm_cell e) (Bool.eq_false_iff.mp hf)) p, r⟩, fun y b e => let ⟨v, l, q⟩ := f.nm y b e; ⟨v, l, q.up uV⟩⟩,
    t.up.trans uW, t.sa.trans a, j⟩
/-- places that a loop's turns may change beside what J tells -/
def Mix (c : Cx) (h₀ : Heap) (F V' : Vol) : Prop := ∀ a, F a = true → V' a = true ∧ (own c.env a = true ∨ h₀.objs.size ≤ a)
theorem Wk.mix {w : World} {A : Around} {V : Vol} {I : Addr} {n : Nat} {bs : Nat → Bnd} {K : Nat → Heap → Prop} (x : Wk w A V I n bs K) {c : Cx} {h₀ : Heap} (hI : I < h₀.objs.size) (hf : ∀ a, Mine.own c.env a = true → V a = true ∧ a ≠ I) {i : Nat} {F V' : Vol} (m : Mix c h₀ F V') {h h' : Heap} (u : Up F h h') (k : K i h) : K i h' :=
  x.stab i F h h' (fun a ha => (m a ha).2.elim (fun q => ⟨.inl (hf a q).1, (hf a q).2⟩) fun q => ⟨.inr (Nat.lt_of_lt_of_le hI q), Nat.ne_of_gt (Nat.lt_of_lt_of_le hI q)⟩) u k
/-- a loop over n things, where only N n bs is known -/
theorem do_forN {c : Cx} (ok : c.Ok) {s : Shared} {target iter : Expr} {body rest : List Stmt} {pos : Pos} {Q : Flow → Shared → Prop} {N : Nat → (Nat → Bnd) → Prop} {κ : Type}
    (hit : wpAny (model pw c.w) c.A (eval iter c.env) (fun v s1 => c.St s1 ∧ s.heap.objs.size ≤ s1.heap.objs.size ∧ ∃ n bs, N n bs ∧ Itb c.w c.A c.V s1 v n bs) (fun _ _ => False) s)
    (ρf : κ → List (PySem.Str × Bnd)) (Jf : Vol → κ → Heap → Prop) (Kd : Nat → κ → Prop) (jst : ∀ V' k F h h', Mix c s.heap F V' → Up F h h' → Jf V' k h → Jf V' k h')
    (jnew : ∀ k h I, h.objs.size ≤ I → Jf c.V k h → Jf (joinV c.V (uno I)) k h) (jback : ∀ k h I, Jf (joinV c.V (uno I)) k h → Jf c.V k h)
    (k0 : κ) (h0 : Kd 0 k0) (init : ∀ s1, c.St s1 → ({ c with ρ := ρf k0, J := Jf c.V k0 } : Cx).St s1)
    (step : ∀ n bs I K i k s1 v, N n bs → i < n → Kd i k → Wk c.w c.A c.V I n bs K → c.s₀.heap.objs.size ≤ I → (∀ a, c.V a = true → a ≠ I) → (c.at I (ρf k) fun h => Jf (joinV c.V (uno I)) k h ∧ K (i + 1) h).Ok → (c.at I (ρf k) fun h => Jf (joinV c.V (uno I)) k h ∧ K (i + 1) h).St s1 → Has (joinV c.V (uno I)) s1.heap v (bs i) →
      wpAny (model pw c.w) c.A (assign target c.env v) (fun _ s2 => Do c body (fun f s3 => match f with
        | .next | .cont => ∃ k', Kd (i + 1) k' ∧ (c.at I (ρf k') fun h => Jf (joinV c.V (uno I)) k' h ∧ K (i + 1) h).St s3
        | .brk => False
        | .ret v => Q (.ret v) s3) s2) (fun _ _ => False) s1)
    (fin : ∀ n bs k s2, N n bs → Kd n k → ({ c with ρ := ρf k, J := Jf c.V k } : Cx).Ok → ({ c with ρ := ρf k, J := Jf c.V k } : Cx).St s2 → Do ({ c with ρ := ρf k, J := Jf c.V k } : Cx) rest Q s2)
    (hs : ∀ x, foldedSetIterable iter c.env x = pure x := by intro _; rfl) : Do c (.For target iter body [] pos :: rest) Q s := by
  refine do_cons (wpAny_For (wpAny_mono hit (fun v s1 ⟨t1, z1, n, bs, hN, itb⟩ => wpAny_mono itb (fun it s2 ⟨I, K, e, g, a, hI, hI2, wk, hK⟩ => ?_) fun _ _ f => f) fun _ _ f => f) hs)
  subst e
  have h336 := t1.gl.size
  have hI3 : 336 ≤ I := Nat.le_trans h336 hI
  have hIs : c.s₀.heap.objs.size ≤ I := Nat.le_trans t1.up.size hI
  have hVI : ∀ b, c.V b = true → b ≠ I := fun b hb => Nat.ne_of_lt (Nat.lt_of_lt_of_le (t1.vok b hb) hI)
  have hfI : frm c.env I = false := by
    cases e : frm c.env I
    · rfl
    · exact absurd rfl (hVI I (ok.wv I (ok.fw I e)))
  have hfV : ∀ a, frm c.env a = true → c.V a = true := fun a e => ok.wv a (ok.fw a e)
  have kfs : ∀ i h h', Up (own c.env) h h' → K i h → K i h' := fun i h h' u k => wk.stab i _ h h' (fun b hb => ⟨.inl (hfV b (own_frm hb)), hVI b (hfV b (own_frm hb))⟩) u k
  have mixF : ∀ V', (∀ a, c.V a = true → V' a = true) → Mix c s.heap (own c.env) V' := fun V' hV a ha => ⟨hV a (hfV a (own_frm ha)), .inl ha⟩
  have mixI : Mix c s.heap (uno I) (joinV c.V (uno I)) := fun a ha => ⟨joinV_r ha, .inr (by rw [show a = I by simpa [uno] using ha]; exact Nat.le_trans z1 hI)⟩
  have okA : ∀ i k, (c.at I (ρf k) fun h => Jf (joinV c.V (uno I)) k h ∧ K i h).Ok := fun i k => ok.at hI3 fun h h' u ⟨p, q⟩ => ⟨jst _ k _ h h' (mixF _ fun a h => joinV_l h) u p, kfs i h h' u q⟩
  have stA : ∀ k s, ({ c with ρ := ρf k, J := Jf c.V k } : Cx).St s → s.heap.objs.size ≤ I → ∀ s', Grow s.heap s'.heap → Sa s s' → I < s'.heap.objs.size → K 0 s'.heap → (c.at I (ρf k) fun h => Jf (joinV c.V (uno I)) k h ∧ K 0 h).St s' := fun k s t hz s' g a hlt hk =>
    ⟨fun i o n e => g.keeps _ _ (t.gl i o n e), fun b e => (Bool.or_eq_true_iff.mp e).elim (fun e => Nat.lt_of_lt_of_le (t.vok b e) g.size) fun e => by rw [show b = I by simpa [uno] using e]; exact hlt,
      let ⟨m, cm, f⟩ := t.fr; ⟨m, cm, f.ns.keeps g.keeps, fun n d e => let ⟨o, p, r⟩ := f.cell n d e; ⟨o, g.keeps _ _ p, r⟩, fun y b e => let ⟨v, l, q⟩ := f.nm y b e; ⟨v, l, (hasNew hz q).up g.up⟩⟩,
      (t.up.le fun _ h => joinV_l h).trans g.up, t.sa.trans a, jst _ k (fun _ => false) _ _ (fun _ h => by cases h) g (jnew k _ I hz t.j), hk⟩
  refine codeAny_forLoop_any (fun m s' => ∃ i k, m = n - i ∧ i ≤ n ∧ Kd i k ∧ (c.at I (ρf k) fun h => Jf (joinV c.V (uno I)) k h ∧ K i h).St s') ?_ n ⟨0, k0, by omega, Nat.zero_le _, h0, stA k0 s1 (init s1 t1) hI s2 g a hI2 hK⟩
  rintro m s' ⟨i, k, rfl, hi, hk, t'⟩
  by_cases hlt : i < n
  · refine wpAny_mono (wk.item i s' hlt t'.j.2) (fun r s3 ⟨v, e, u, a, hK', hv⟩ => ?_) (fun _ _ f => f.elim)
    subst e
    have t3 : (c.at I (ρf k) fun h => Jf (joinV c.V (uno I)) k h ∧ K (i + 1) h).St s3 := St_upI hI3 hfI t' u a ⟨jst _ k (uno I) _ _ mixI u t'.j.1, hK'⟩
    refine wpAny_mono (wk.own (i + 1) s3 target v (fun _ s => s = s3) t3.j.2 rfl) (fun _ s4 e => ?_) (fun _ _ f => f.elim)
    subst e
    refine wpAny_mono (step n bs I K i k s4 v hN hlt hk wk hIs hVI (okA (i + 1) k) t3 hv) (fun _ s5 d => ?_) (fun _ _ f => f.elim)
    refine wpAny_mono d (fun f s6 q => ?_) (fun _ _ f => f.elim)
    cases f with
    | next => obtain ⟨k', hk', t6⟩ := q; exact ⟨n - (i + 1), by omega, i + 1, k', rfl, hlt, hk', t6⟩
    | cont => obtain ⟨k', hk', t6⟩ := q; exact ⟨n - (i + 1), by omega, i + 1, k', rfl, hlt, hk', t6⟩
    | brk => exact q.elim
    | ret v => exact q
  · have : i = n := by omega
    subst this
    refine wpAny_mono (wk.done s' t'.j.2) (fun r s3 ⟨e, u, a⟩ => ?_) (fun _ _ f => f.elim)
    subst e
    have t3 : (c.at I (ρf k) (Jf (joinV c.V (uno I)) k)).St s3 := St_upI hI3 hfI t' u a (jst _ k (uno I) _ _ mixI u t'.j.1)
    exact wpAny_execs_nil (fin i bs k s3 hN hk ⟨ok.fn, ok.gb, ok.bi, ok.rm, ok.fw, ok.wv, fun h h' u j => jst _ k _ h h' (mixF _ fun _ h => h) u j, ok.lc, ok.ap, ok.old, ok.vtab⟩ (t3.back hIs (jback k _ I)))
theorem do_for {c : Cx} (ok : c.Ok) {s : Shared} {target iter : Expr} {body rest : List Stmt} {pos : Pos} {Q : Flow → Shared → Prop} {n : Nat} {bs : Nat → Bnd} {κ : Type}
    (hit : wpAny (model pw c.w) c.A (eval iter c.env) (fun v s1 => c.St s1 ∧ s.heap.objs.size ≤ s1.heap.objs.size ∧ Itb c.w c.A c.V s1 v n bs) (fun _ _ => False) s)
    (ρf : κ → List (PySem.Str × Bnd)) (Jf : κ → Heap → Prop) (Kd : Nat → κ → Prop) (jst : ∀ V' k F h h', Mix c s.heap F V' → Up F h h' → Jf k h → Jf k h')
    (k0 : κ) (h0 : Kd 0 k0) (init : ∀ s1, c.St s1 → ({ c with ρ := ρf k0, J := Jf k0 } : Cx).St s1)
    (step : ∀ I K i k s1 v, i < n → Kd i k → Wk c.w c.A c.V I n bs K → c.s₀.heap.objs.size ≤ I → (∀ a, c.V a = true → a ≠ I) → (c.at I (ρf k) fun h => Jf k h ∧ K (i + 1) h).Ok → (c.at I (ρf k) fun h => Jf k h ∧ K (i + 1) h).St s1 → Has (joinV c.V (uno I)) s1.heap v (bs i) →
      wpAny (model pw c.w) c.A (assign target c.env v) (fun _ s2 => Do c body (fun f s3 => match f with
        | .next | .cont => ∃ k', Kd (i + 1) k' ∧ (c.at I (ρf k') fun h => Jf k' h ∧ K (i + 1) h).St s3
        | .brk => False
        | .ret v => Q (.ret v) s3) s2) (fun _ _ => False) s1)
    (fin : ∀ k s2, Kd n k → ({ c with ρ := ρf k, J := Jf k } : Cx).Ok → ({ c with ρ := ρf k, J := Jf k } : Cx).St s2 → Do ({ c with ρ := ρf k, J := Jf k } : Cx) rest Q s2)
    (hs : ∀ x, foldedSetIterable iter c.env x = pure x := by intro _; rfl) : Do c (.For target iter body [] pos :: rest) Q s :=
  do_forN (N := fun n' bs' => n' = n ∧ bs' = bs) ok (wpAny_mono hit (fun _ _ ⟨a, b, c⟩ => ⟨a, b, n, bs, ⟨rfl, rfl⟩, c⟩) fun _ _ f => f) ρf (fun _ => Jf) Kd jst (fun _ _ _ _ j => j) (fun _ _ _ j => j) k0 h0 init
    (fun n' bs' I K i k s1 v e => by obtain ⟨rfl, rfl⟩ := e; exact step I K i k s1 v) (fun n' bs' k s2 e => by obtain ⟨rfl, rfl⟩ := e; exact fin k s2) hs
end Mine
end TW12
section TW13
open PySem PySem.W PyProof.Rows
set_option Elab.async false
namespace Mine
set_option maxRecDepth 100000
theorem asg1 {b : Cx} (ok : b.Ok) {s : Shared} (t : b.St s) {x : PySem.Str} {pos : Pos} {v : Value} {d : Bnd} {P : Shared → Prop} (hv : Has b.V s.heap v d) (hx : StoreOk b.env x) (k : ∀ s2, (b.put x d).Ok → (b.put x d).St s2 → P s2) :
    wpAny (model pw b.w) b.A (assign (.Name x pos) b.env v) (fun _ s2 => P s2) (fun _ _ => False) s :=
  PySem.wpAny_assign_Name (wpAny_mono (store ok t hv hx) (fun _ s2 ⟨t2, _, _⟩ => k s2 (ok.put x d) t2) fun _ _ f => f)
theorem starN {env : Env} {x : PySem.Str} {p : Pos} : assign (.Name x p) env = fun v => assign (.Name x p) env v := rfl
theorem asg2 {b : Cx} (ok : b.Ok) {s : Shared} (t : b.St s) {x y : PySem.Str} {p1 p2 pos : Pos} {n : Nat} {v : Value} {d e : PyData} {P : Shared → Prop} (hv : Dat b.V s.heap v (.tuple [d, e])) (hx : StoreOk b.env x) (hy : StoreOk b.env y)
    (k : ∀ s2, ((b.put x (.dat d)).put y (.dat e)).Ok → ((b.put x (.dat d)).put y (.dat e)).St s2 → P s2) :
    wpAny (model pw b.w) b.A (assign (.Tuple [.Name x p1, .Name y p2] n pos) b.env v) (fun _ s2 => P s2) (fun _ _ => False) s := by
  obtain ⟨a, vs, q⟩ := Dat.tuple hv
  obtain ⟨rfl, hva, l, al, len⟩ := q
  match vs, al with
  | [v1, v2], ⟨h1, h2, _⟩ =>
  have key : ∀ h', Heap.ExtBut s.heap.objs.size s.heap h' → s.heap.objs.size ≤ h'.objs.size → wpAny (model pw b.w) b.A (assignInOrder [assign (.Name x p1) b.env, assign (.Name y p2) b.env] [v1, v2]) (fun _ s2 => P s2) (fun _ _ => False) { s with heap := h' } := fun h' ext hz => by
    have g : Grow s.heap h' := ⟨fun b o _ e => ext b o (Nat.ne_of_lt (Heap.lt_size e)) e, hz⟩
    have t1 := t.grow (s' := { s with heap := h' }) ok g ⟨rfl, rfl⟩
    show wpAny _ _ (holding [v2] (assign (.Name x p1) b.env v1) >>= fun _ => assignInOrder [assign (.Name y p2) b.env] [v2]) _ _ _
    refine wpAny_bind (wpAny_holding (PySem.wpAny_assign_Name (wpAny_mono (store ok t1 (h1.up g.up) hx) (fun _ s2 ⟨t2, u2, _⟩ => ?_) fun _ _ f => f)))
    show wpAny _ _ (holding [] (assign (.Name y p2) b.env v2) >>= fun _ => assignInOrder [] []) _ _ _
    refine wpAny_bind (wpAny_holding (PySem.wpAny_assign_Name (wpAny_mono (store (c := b.put x (.dat d)) (ok.put x _) t2 ((h2.up g.up).up u2) hy) (fun _ s3 ⟨t3, _, _⟩ => ?_) fun _ _ f => f)))
    exact wpAny_pure (k s3 ((ok.put x _).put y _) t3)
  rw [PyProof.Rows.assign_Tuple]
  refine wpAny_bind (wpAny_standAt ?_)
  unfold unpack
  rw [show (assignEach [Expr.Name x p1, Expr.Name y p2] b.env).length = [v1, v2].toArray.size from rfl, show (assignEach [Expr.Name x p1, Expr.Name y p2] b.env).findIdx? (·.1) = none from rfl]
  exact wpAny_bind (wpAny_holding (wpAny_size (unpackItems_tuple ok.rm.hn l fun h' ext hz => key h' ext hz)))
/-- a table as data -/
def pairD (p : Int × Int) : PyData := .tuple [.int p.1, .int p.2]
def tblD (t : List (Int × Int)) : PyData := .tuple (t.map pairD)
def hasP (n : Int) (p : Int × Int) : Bool := decide (p.1 ≤ n) && decide (n ≤ p.2)
def hasT (n : Int) (t : List (Int × Int)) : Bool := t.any (hasP n)
def hasTs (n : Int) (ts : List (List (Int × Int))) : Bool := ts.any (hasT n)
theorem Cx.St.finAt {c : Cx} {I : Addr} {ρ : List (PySem.Str × Bnd)} {J : Heap → Prop} {s : Shared} (t : (c.at I ρ J).St s) (hI : c.s₀.heap.objs.size ≤ I) (j : J s.heap → c.J s.heap) : Fini c s := (t.back hI j).fin
theorem Fini.unAt {c : Cx} {I : Addr} {ρ : List (PySem.Str × Bnd)} {J : Heap → Prop} {s : Shared} (f : Fini (c.at I ρ J) s) (hI : c.s₀.heap.objs.size ≤ I) (j : J s.heap → c.J s.heap) : Fini c s :=
  ⟨⟨fun a o h e => f.1.keep a o (joinV_f h (uno_ne (Nat.ne_of_lt (Nat.lt_of_lt_of_le (Heap.lt_size e) hI)))) e, f.1.size⟩, f.2.1, j f.2.2⟩
def Sub : List (PySem.Str × Bnd) → List (PySem.Str × Bnd) → Prop
  | [], _ => True
  | (x, b) :: r, ρ => ρ.lookup x = some b ∧ Sub r ρ
theorem Sub.all : ∀ {ρ' ρ : List (PySem.Str × Bnd)}, Sub ρ' ρ → ∀ p ∈ ρ', ρ.lookup p.1 = some p.2
  | (_, _) :: _, _, ⟨a, b⟩, p, h => (List.mem_cons.mp h).elim (fun e => e ▸ a) (Sub.all b p)
theorem Cx.St.sub {c : Cx} {s : Shared} (t : c.St s) {ρ' : List (PySem.Str × Bnd)} (k : Sub ρ' c.ρ) : ({ c with ρ := ρ' } : Cx).St s := t.weak k.all
noncomputable abbrev fd311 (P : Params) : FuncData := funcOf (Fast.tw2264046558143096966 P)
theorem fn311 (P : Params) : FnOk P 311 (fd311 P) (stmtsOf (fd311 P)) := ⟨⟨_, by rfl, by rfl⟩, by decide, by rfl, by rfl, by rfl, by rfl, by rfl, by rfl, by rfl, ⟨_, _, _, _, by rfl, by decide, by rfl, by rfl, by rfl⟩⟩
theorem isTrue_chain2 {c : Cx} (ok : c.Ok) {e1 e2 e3 : Expr} {pos : Pos} {i j k : Int} (x : Pd c e1 (.int i)) (y : Pd c e2 (.int j)) (z : Pd c e3 (.int k)) (hm : lastMarks [.LtE, .LtE] [e2, e3] = false := by with_unfolding_all rfl) :
    Te c (.Compare e1 [.LtE, .LtE] [e2, e3] pos) (decide (i ≤ j) && decide (j ≤ k)) := fun s t => by
  refine isTrue_chain (wpAny_mono (x s t) (fun u s1 ⟨g1, a1, h1⟩ => ?_) fun _ _ f => f) hm
  have t1 := t.grow ok g1 a1
  refine test_link (wpAny_mono (y s1 t1) (fun v s2 ⟨g2, a2, h2⟩ => ?_) fun _ _ f => f)
  have t2 := t1.grow ok g2 a2
  obtain ⟨_, rfl⟩ := Dat.int h1
  obtain ⟨_, rfl⟩ := Dat.int h2
  refine PyProof.Rows.le_int (wpAny_truthy_bool ?_)
  by_cases hij : i ≤ j
  · rw [decide_eq_true hij, if_pos rfl, Bool.true_and]
    refine test_last (wpAny_mono (z s2 t2) (fun v s3 ⟨g3, a3, h3⟩ => ?_) fun _ _ f => f)
    obtain ⟨_, rfl⟩ := Dat.int h3
    exact PyProof.Rows.le_int (wpAny_truthy_bool ⟨(g1.trans g2).trans g3, (a1.trans a2).trans a3, rfl⟩)
  · rw [decide_eq_false hij, if_neg Bool.false_ne_true, Bool.false_and]
    exact ⟨g1.trans g2, a1.trans a2, rfl⟩
theorem getD_is {ds : List PyData} (i : Nat) (d : PyData) (e : ds[i]? = some d) : Bnd.dat (ds.getD i .none) = .dat d := by rw [List.getD_eq_getElem?_getD, e]; rfl
theorem hitL {c : Cx} (ok : c.Ok) {s : Shared} (t : c.St s) {e : Expr} {ds : List PyData} (x : Pd c e (.list ds)) :
    wpAny (model pw c.w) c.A (eval e c.env) (fun v s1 => c.St s1 ∧ s.heap.objs.size ≤ s1.heap.objs.size ∧ Itb c.w c.A c.V s1 v ds.length fun i => .dat (ds.getD i .none)) (fun _ _ => False) s :=
  wpAny_mono (x s t) (fun _ _ ⟨g, a, h⟩ => ⟨t.grow ok g a, g.size, itb_list ok.rm.hn h getD_is⟩) fun _ _ f => f
theorem hitT {c : Cx} (ok : c.Ok) {s : Shared} (t : c.St s) {e : Expr} {ds : List PyData} (x : Pd c e (.tuple ds)) :
    wpAny (model pw c.w) c.A (eval e c.env) (fun v s1 => c.St s1 ∧ s.heap.objs.size ≤ s1.heap.objs.size ∧ Itb c.w c.A c.V s1 v ds.length fun i => .dat (ds.getD i .none)) (fun _ _ => False) s :=
  wpAny_mono (x s t) (fun _ _ ⟨g, a, h⟩ => ⟨t.grow ok g a, g.size, itb_tuple ok.rm.hn h getD_is⟩) fun _ _ f => f
theorem getD_map {α : Type} (f : α → PyData) {xs : List α} {i : Nat} (hi : i < (xs.map f).length) : (xs.map f).getD i .none = f (xs[i]'(by simpa using hi)) := by
  rw [List.getD_eq_getElem?_getD, List.getElem?_map, List.getElem?_eq_getElem (by simpa using hi)]; rfl
theorem any_take_succ {α : Type} {f : α → Bool} {xs : List α} {i : Nat} (hi : i < xs.length) : (xs.take (i + 1)).any f = ((xs.take i).any f || f xs[i]) := by
  rw [List.take_succ_eq_append_getElem hi, List.any_append, List.any_cons, List.any_nil, Bool.or_false]
theorem any_of_take {α : Type} {f : α → Bool} {xs : List α} {i : Nat} (hi : i < xs.length) (h : f xs[i] = true) : xs.any f = true := List.any_eq_true.mpr ⟨_, List.getElem_mem hi, h⟩
theorem hasFn (w : World) (ts : List (List (Int × Int))) (n : Int) : Fn w 1 311 [.dat (.list (ts.map tblD)), .dat (.int n)] (.dat (.bool (hasTs n ts))) := by
  refine FnE.of (n := 0) (ns := parNames (fd311 w.params)) (fn311 w.params) (fun vs hv => by
    match vs, hv with
    | [v, u], _ => rfl) (by rfl) (of_decide_eq_true (by rfl)) (by rfl) (fun _ _ => NewStab.triv) fun A V L s s1 _ _ nf _ ok t => ?_
  have okk := ok
  refine do_doc ok t fun s2 t => ?_
  refine do_for (κ := Unit) ok (hitL ok t (Pu.name ok (by rfl)))
    (fun _ => (parNames (fd311 w.params)).zip [.dat (.list (ts.map tblD)), .dat (.int n)]) (fun _ _ => True) (fun i _ => (ts.take i).any (hasT n) = false) (fun _ _ _ _ _ _ _ _ => trivial) () rfl (fun _ t => t)
    (fun I K i _ s4 v hi hk wk hI hV ok t hv => ?_) (fun _ s5 hk ok t => ?_)
  · rw [getD_map tblD hi] at hv
    have hi' : i < ts.length := by simpa using hi
    refine asg1 ok t hv (.inl (by rfl)) fun s5 ok t => ?_
    refine do_for (κ := Unit) ok (hitT ok t (Pu.name ok (by rfl)))
      (fun _ => (⟨⟨[116, 97, 98, 108, 101]⟩⟩, .dat (tblD ts[i])) :: (parNames (fd311 w.params)).zip [.dat (.list (ts.map tblD)), .dat (.int n)]) (fun _ h => True ∧ K (i + 1) h) (fun j _ => (ts[i].take j).any (hasP n) = false)
      (fun V' _ F h h' m u j => ?_) () rfl (fun _ t => t)
      (fun I2 K2 j _ s6 v2 hj hk2 wk2 hI2 hV2 ok t hv2 => ?_) (fun _ s7 hk2 ok t => ?_)
    · exact ⟨trivial, wk.mix (t.vok I (joinV_r (by simp [uno]))) (fun a e => ⟨okk.wv a (okk.fw a (own_frm e)), hV a (okk.wv a (okk.fw a (own_frm e)))⟩) m u j.2⟩
    · have hj' : j < ts[i].length := by simpa using hj
      rw [getD_map pairD hj] at hv2
      refine asg2 ok t hv2 (.inl (by rfl)) (.inl (by rfl)) fun s8 ok t => ?_
      refine do_if ok t (isTrue_chain2 ok (Pu.name ok (by rfl)) (Pu.name ok (by rfl)) (Pu.name ok (by rfl))) (fun hb s9 t => ?_) (fun hb s9 t => ?_)
      · refine do_retP ok t Pu.bool fun s10 v h t => ?_
        refine ⟨Fini.unAt (Fini.unAt t.fin hI2 fun j => j.1) hI fun j => j.1, _, ?_, hasBack (hasBack h)⟩
        rw [hasTs, any_of_take hi' (any_of_take hj' hb)]
      · refine do_nil (do_nil ⟨(), ?_, t.sub ⟨by rfl, by rfl, by rfl, trivial⟩⟩)
        rw [any_take_succ hj', hk2, Bool.false_or]; exact hb
    · refine do_nil ⟨(), ?_, t.sub ⟨by rfl, by rfl, trivial⟩⟩
      rw [any_take_succ hi', hk, Bool.false_or]
      rw [List.length_map, List.take_length] at hk2
      exact hk2
  · refine do_retP ok t Pu.bool fun s6 v h t => ⟨t.fin, _, ?_, h⟩
    rw [List.length_map, List.take_length] at hk
    rw [hasTs, hk]
end Mine
end TW13
section TW14
open PySem PySem.W PyProof.Rows
set_option Elab.async false
namespace Mine
set_option maxRecDepth 100000
section
variable {prog : Program} {w : World} {A : Around} {E : Value → Shared → Prop} {s : Shared}
/-- a part of a slice: None or an int -/
def partV (v : Value) (o : Option Int) : Prop := (v = .none ∧ o = none) ∨ ∃ i t, v = .int i t ∧ o = some i
theorem slicePart_of {v : Value} {o : Option Int} {Q : Option Int → Shared → Prop} (p : partV v o) (h : Q o s) : wpAny (model prog w) A (Builtin.Slice.slicePartIndex v) Q E s := by
  rcases p with ⟨rfl, rfl⟩ | ⟨i, t, rfl, rfl⟩
  · exact slicePart_none h
  · exact slicePart_int h
def adjLo (lo hi : Option Int) (n : Nat) : Int := (Builtin.Slice.sliceAdjust lo hi 1 n).1
def adjN (lo hi : Option Int) (n : Nat) : Nat := Builtin.Slice.slicePlaces (Builtin.Slice.sliceAdjust lo hi 1 n).1 (Builtin.Slice.sliceAdjust lo hi 1 n).2 1
def cutD {α : Type} (lo hi : Option Int) (ds : List α) : List α := (ds.drop (adjLo lo hi ds.length).toNat).take (adjN lo hi ds.length)
theorem adjLo_nonneg (lo hi : Option Int) (n : Nat) : 0 ≤ adjLo lo hi n := by
  unfold adjLo Builtin.Slice.sliceAdjust
  simp only [show ¬ ((1 : Int) < 0) by omega, if_false]
  cases lo with
  | none => exact Int.le_refl _
  | some v =>
    dsimp only
    split <;> omega
theorem adjN_le (lo hi : Option Int) (n : Nat) : adjN lo hi n ≤ n := by
  have h0 := adjLo_nonneg lo hi n
  unfold adjN Builtin.Slice.slicePlaces
  unfold adjLo at h0
  simp only [show (1 : Int) > 0 by omega, if_true, Int.ediv_one]
  have h1 : (Builtin.Slice.sliceAdjust lo hi 1 n).2 ≤ n := by
    unfold Builtin.Slice.sliceAdjust
    simp only [show ¬ ((1 : Int) < 0) by omega, if_false]
    cases hi with
    | none => exact Int.le_refl _
    | some v =>
      dsimp only
      split <;> omega
  split <;> omega
theorem sliceApplied_of {sl : Addr} {vl vu : Value} {lo hi : Option Int} {n : Nat} {Q : Int × Int × Nat → Shared → Prop} (hs : s.heap.IsSliceOf sl vl vu .none) (pl : partV vl lo) (pu : partV vu hi) (h : Q (adjLo lo hi n, 1, adjN lo hi n) s) :
    wpAny (model prog w) A (Builtin.Slice.sliceApplied (.ref sl) (pure (n : Int))) Q E s := by
  obtain ⟨os, hos, hcs, hds⟩ := id hs
  unfold Builtin.Slice.sliceApplied Builtin.Slice.sliceFields
  refine wpAny_bind (wpAny_bind (wpAny_field hos hds (x := vl) rfl (wpAny_bind (wpAny_field hos hds (x := vu) rfl (wpAny_bind (wpAny_field hos hds (x := .none) rfl (wpAny_pure ?_)))))))
  refine wpAny_bind (slicePart_none ?_)
  show wpAny _ _ (if ((1 : Int) == 0) = true then _ else _) _ _ s
  rw [if_neg (by decide)]
  refine wpAny_bind (slicePart_of pl (wpAny_bind (slicePart_of pu (wpAny_bind (wpAny_pure ?_)))))
  exact wpAny_pure h
theorem pick_of (xs : Array Value) (a : Int) (h : 0 ≤ a) (n : Nat) : ((List.range n).filterMap fun (k : Nat) => xs[(a + (k : Int) * 1).toNat]?).toArray = ((xs.toList.drop a.toNat).take n).toArray := by
  have e : (fun (k : Nat) => xs[(a + (k : Int) * 1).toNat]?) = fun k => xs[a.toNat + k]? := by
    funext k
    have : (a + (k : Int) * 1).toNat = a.toNat + k := by omega
    rw [this]
  rw [e]
  have := pick_run xs a.toNat n
  rw [List.filterMap_map] at this
  have e2 : ((fun x => xs[x]?) ∘ fun x => a.toNat + x) = fun k => xs[a.toNat + k]? := rfl
  rw [e2] at this
  rw [this]
theorem getItem_tuple_cut {t sl : Addr} {items : Array Value} {vl vu : Value} {lo hi : Option Int} {Q : Value → Shared → Prop} (ht : IsTup s.heap t items) (hs : s.heap.IsSliceOf sl vl vu .none) (pl : partV vl lo) (pu : partV vu hi)
    (h0 : cutD lo hi items.toList = items.toList → Q (.ref t) s)
    (h : Q (.ref s.heap.objs.size) { s with heap := s.heap.push { cls := .type "tuple", data := .seq (cutD lo hi items.toList).toArray } })
    (hsz : items.size ≤ sizeLine) : wpAny (model prog w) A (getItem (.ref t) (.ref sl)) Q E s := by
  have hcut : (cutD lo hi items.toList).length ≤ items.size := by
    unfold cutD
    rw [List.length_take, List.length_drop, Array.length_toList]
    omega
  have hdrop : sizeOk (.seq (cutD lo hi items.toList).toArray) := by
    show (cutD lo hi items.toList).toArray.size ≤ sizeLine
    rw [List.size_toArray]
    omega
  obtain ⟨os, hos, hcs, hds⟩ := id hs
  have hTs : s.TypeIs (.ref sl) "slice" := ⟨os, hos, hcs⟩
  unfold getItem
  try with_reducible refine wpAny_holding ?_
  first | refine wpAny_bind (wpAny_pure ?_) | skip
  refine wpAny_bind (wpAny_sequenceKey ht.typeIs (by decide) ?_)
  refine wpAny_bind (wpAny_callSpecial?_slot (name := Str.ofString "__getitem__") ht.typeIs slot_tuple_getitem
    (wpAny_call_entry slot_tuple_getitem ht.typeIs entry_tuple_getitem ?_ (args_tuple_getitem _ _)))
  show wpAny _ _ (Builtin.Tuple.tupleItemsOf (.ref t) >>= _) _ _ s
  refine wpAny_bind (tupleItemsOf_ ht ?_)
  refine wpAny_bind (wpAny_typeOf hTs ?_)
  rw [if_pos (by decide)]
  refine wpAny_bind (sliceApplied_of hs pl pu ?_)
  show wpAny _ _ (if (adjLo lo hi items.size == 0 && (1 : Int) == 1 && adjN lo hi items.size == items.size) = true then _ else _) _ _ s
  have hl : items.toList.length = items.size := Array.length_toList
  by_cases hw : (adjLo lo hi items.size == 0 && (1 : Int) == 1 && adjN lo hi items.size == items.size) = true
  · rw [if_pos hw]
    obtain ⟨hw1, hw2⟩ := Bool.and_eq_true_iff.mp hw
    obtain ⟨hw1, _⟩ := Bool.and_eq_true_iff.mp hw1
    have e1 : adjLo lo hi items.size = 0 := by simpa using hw1
    have e2 : adjN lo hi items.size = items.size := by simpa using hw2
    have hsame : cutD lo hi items.toList = items.toList := by
      unfold cutD
      rw [hl, e1, e2]
      exact List.take_of_length_le (by simp)
    have hx : wpAny (model prog w) A.in1 (Builtin.Tuple.tupleIsExact (.ref t)) (fun b s' => b = true ∧ s' = s) E s := by
      unfold Builtin.Tuple.tupleIsExact
      exact wpAny_bind (wpAny_typeOf ht.typeIs (wpAny_pure ⟨by decide, rfl⟩))
    refine wpAny_bind (wpAny_mono hx (fun b s' e => ?_) fun _ _ x => x)
    obtain ⟨rfl, rfl⟩ := e
    show wpAny _ _ (do rule "tuple.getitem.whole"; ret (Value.ref t)) _ _ _
    exact wpAny_bind (wpAny_rule (wpAny_pure ⟨_, rfl, wpAny_pure (h0 hsame)⟩))
  · rw [if_neg hw, pick_of items _ (adjLo_nonneg ..)]
    have hcd : ((items.toList.drop (adjLo lo hi items.size).toNat).take (adjN lo hi items.size)).toArray = (cutD lo hi items.toList).toArray := by unfold cutD; rw [hl]
    rw [hcd]
    first
      | exact wpAny_bind (m := Builtin.Tuple.tupleExact _) (wpAny_newObj_type (wpAny_pure ⟨_, rfl, wpAny_pure h⟩) hdrop)
      | exact wpAny_bind (m := Builtin.Tuple.tupleExact _) (wpAny_newObj_type (wpAny_bind (wpAny_pure (wpAny_pure ⟨_, rfl, wpAny_pure h⟩))) hdrop)
      | exact wpAny_bind (wpAny_bind (m := Builtin.Tuple.tupleExact _) (wpAny_newObj_type (wpAny_pure (wpAny_pure ⟨_, rfl, wpAny_pure h⟩)) hdrop))
      | exact wpAny_bind (wpAny_bind (m := Builtin.Tuple.tupleExact _) (wpAny_newObj_type (wpAny_pure ⟨_, rfl, wpAny_pure h⟩) hdrop))
end
section
variable {c : Cx}
/-- an end of a slice, as text -/
def Pp (c : Cx) (e : Option Expr) (o : Option Int) : Prop := ∀ s, c.St s → wpAny (model pw c.w) c.A (evalPart e c.env) (fun v s' => Grow s.heap s'.heap ∧ Sa s s' ∧ partV v o) (fun _ _ => False) s
theorem Pp.none : Pp c Option.none Option.none := fun _ _ => wpAny_pure ⟨Grow.refl, Sa.refl, .inl ⟨rfl, rfl⟩⟩
theorem Pp.some {e : Expr} {i : Int} (x : Pd c e (.int i)) : Pp c (Option.some e) (Option.some i) := fun s t => wpAny_mono (x s t) (fun v s' ⟨g, a, h⟩ => by
  obtain ⟨t, rfl⟩ := Dat.int h
  exact ⟨g, a, .inr ⟨i, t, rfl, rfl⟩⟩) fun _ _ f => f
theorem cutD_map {α β : Type} (f : α → β) (lo hi : Option Int) (ds : List α) : (cutD lo hi ds).map f = cutD lo hi (ds.map f) := by
  unfold cutD; rw [List.map_take, List.map_drop, List.length_map]
theorem HasAll.cut {V : Vol} {h : Heap} {vs : List Value} {bs : List Bnd} (lo hi : Option Int) (x : HasAll V h vs bs) : HasAll V h (cutD lo hi vs) (cutD lo hi bs) := by
  unfold cutD; rw [x.length]; exact (x.drop _).take _
theorem Pu.cut_tup (ok : c.Ok) {e : Expr} {l u : Option Expr} {p pos : Pos} {ds : List PyData} {lo hi : Option Int} (x : Pd c e (.tuple ds)) (y : Pp c l lo) (z : Pp c u hi) (hl : ds.length ≤ 2 ^ 20) (ht : ∀ o r, letTemporaryGo e o r = pure () := by intro _ _; rfl) :
    Pd c (.Subscript e (.Slice l u Option.none p) pos) (.tuple (cutD lo hi ds)) := fun s t => by
  refine wpAny_Subscript_Slice slot_tuple_getitem.lookup (wpAny_mono (x s t) (fun v s1 ⟨g1, a1, h1⟩ => wpAny_Slice ?_) fun _ _ f => f) ht
  have t1 := t.grow ok g1 a1
  refine wpAny_mono (y s1 t1) (fun vl s2 ⟨g2, a2, h2⟩ => ?_) fun _ _ f => f
  have t2 := t1.grow ok g2 a2
  refine wpAny_mono (z s2 t2) (fun vu s3 ⟨g3, a3, h3⟩ => wpAny_pure ?_) fun _ _ f => f
  have t3 := t2.grow ok g3 a3
  have g4 : Grow s3.heap (s3.heap.push { cls := .type "slice", data := .fields #[vl, vu, .none] }) := Grow.push _
  have g := ((g1.trans g2).trans g3).trans g4
  have a : Sa s { s3 with heap := s3.heap.push { cls := .type "slice", data := .fields #[vl, vu, .none] } } := ⟨((a1.trans a2).trans a3).gens, ((a1.trans a2).trans a3).os⟩
  have h1' := h1.up (((g2.trans g3).trans g4).up (V := c.V))
  obtain ⟨ta, vs, q⟩ := Dat.tuple h1'
  obtain ⟨rfl, hv, tl, al, len⟩ := q
  have := sizeLine_eq
  have t4 := t.grow ok g a
  refine ⟨tl.typeIs, getItem_tuple_cut tl (Heap.IsSliceOf.new ..) h2 h3 (fun e => ⟨g, a, ?_⟩) ⟨g.trans (Grow.push _), ⟨a.gens, a.os⟩, ?_⟩ (by rw [List.size_toArray]; omega)⟩
  · have e' : cutD lo hi ds = ds := by
      have k := congrArg List.length e
      unfold cutD at k ⊢
      rw [List.length_take, List.length_drop] at k
      have hl : vs.toArray.toList.length = ds.length := by simpa using len
      rw [hl] at k
      have n1 := adjN_le lo hi ds.length
      rcases Nat.eq_zero_or_pos ds.length with hz | hz
      · rw [List.eq_nil_of_length_eq_zero hz]; simp
      · have d0 : (adjLo lo hi ds.length).toNat = 0 := by omega
        rw [d0, List.drop_zero]
        exact List.take_of_length_le (by omega)
    rw [e']
    exact h1'
  · exact (newTup t4.vok (by rw [dats, cutD_map]; exact al.cut lo hi)).dat
end
end Mine
end TW14
section TW15
open PySem PySem.W PyProof.Rows
set_option Elab.async false
namespace Mine
set_option maxRecDepth 100000
section
variable {c : Cx}
theorem Pu.addL (ok : c.Ok) {e1 e2 : Expr} {pos : Pos} {xs ys : List PyData} (x : Pd c e1 (.list xs)) (y : Pd c e2 (.list ys)) (hl : xs.length + ys.length ≤ 2 ^ 20) : Pd c (.BinOp e1 .Add e2 pos) (.list (xs ++ ys)) :=
  Pu.bin ok x y fun s u v t hu hv => by
    obtain ⟨a, vs, q⟩ := Dat.list hu
    obtain ⟨rfl, _, ⟨⟨cls, dd, data, sl⟩, ho, hc, n, hd⟩, al, len⟩ := q
    obtain ⟨b, ws, q⟩ := Dat.list hv
    obtain ⟨rfl, _, ⟨⟨cls2, dd2, data2, sl2⟩, ho2, hc2, n2, hd2⟩, al2, len2⟩ := q
    simp only at hc hd hc2 hd2
    subst hc hd hc2 hd2
    have e : vs.toArray ++ ws.toArray = (vs ++ ws).toArray := by simp
    have := sizeLine_eq
    refine concat_meets ⟨_, ho, rfl⟩ ⟨_, ho2, rfl⟩ noFill_list_add seq_list_add PySem.F.slot_list_add PySem.F.entry_list_add (PySem.F.args_list_add_2 _ _) (list_addW a b vs.toArray ws.toArray n n2 dd dd2 sl sl2 (by rw [List.size_toArray, List.size_toArray]; omega)) ⟨ho, ho2, ?_⟩
    rw [e]
    exact ⟨Grow.push _, ⟨rfl, rfl⟩, (newLst t.vok (by rw [dats, List.map_append]; exact al.app al2)).dat⟩
theorem Pu.addT (ok : c.Ok) {e1 e2 : Expr} {pos : Pos} {xs ys : List PyData} (x : Pd c e1 (.tuple xs)) (y : Pd c e2 (.tuple ys)) (hl : xs.length + ys.length ≤ 2 ^ 20) : Pd c (.BinOp e1 .Add e2 pos) (.tuple (xs ++ ys)) :=
  Pu.bin ok x y fun s u v t hu hv => by
    have hu' := hu
    have hv' := hv
    obtain ⟨a, vs, q⟩ := Dat.tuple hu
    obtain ⟨rfl, _, ⟨⟨cls, dd, data, sl⟩, ho, hc, n, hd⟩, al, len⟩ := q
    obtain ⟨b, ws, q⟩ := Dat.tuple hv
    obtain ⟨rfl, _, ⟨⟨cls2, dd2, data2, sl2⟩, ho2, hc2, n2, hd2⟩, al2, len2⟩ := q
    simp only at hc hd hc2 hd2
    subst hc hd hc2 hd2
    have e : vs.toArray ++ ws.toArray = (vs ++ ws).toArray := by simp
    have := sizeLine_eq
    by_cases hv : vs = []
    · refine concat_meets ⟨_, ho, rfl⟩ ⟨_, ho2, rfl⟩ noFill_tuple_add seq_tuple_add PySem.F.slot_tuple_add PySem.F.entry_tuple_add (PySem.F.args_tuple_add_2 _ _)
        (tuple_addW0 a b vs.toArray ws.toArray n n2 dd dd2 sl sl2 (by simp [hv])) ⟨ho, ho2, Grow.refl, ⟨rfl, rfl⟩, ?_⟩
      have : xs = [] := List.eq_nil_of_length_eq_zero (by rw [← len, hv]; rfl)
      rw [this]; exact hv'
    · by_cases hw : ws = []
      · refine concat_meets ⟨_, ho, rfl⟩ ⟨_, ho2, rfl⟩ noFill_tuple_add seq_tuple_add PySem.F.slot_tuple_add PySem.F.entry_tuple_add (PySem.F.args_tuple_add_2 _ _)
          (tuple_addW1 a b vs.toArray ws.toArray n n2 dd dd2 sl sl2 (by simpa using hv) (by simp [hw])) ⟨ho, ho2, Grow.refl, ⟨rfl, rfl⟩, ?_⟩
        have : ys = [] := List.eq_nil_of_length_eq_zero (by rw [← len2, hw]; rfl)
        rw [this, List.append_nil]; exact hu'
      · refine concat_meets ⟨_, ho, rfl⟩ ⟨_, ho2, rfl⟩ noFill_tuple_add seq_tuple_add PySem.F.slot_tuple_add PySem.F.entry_tuple_add (PySem.F.args_tuple_add_2 _ _)
          (tuple_addW2 a b vs.toArray ws.toArray n n2 dd dd2 sl sl2 (by simpa using hv) (by simpa using hw) (by rw [List.size_toArray, List.size_toArray]; omega)) ⟨ho, ho2, ?_⟩
        rw [e]
        exact ⟨Grow.push _, ⟨rfl, rfl⟩, (newTup t.vok (by rw [dats, List.map_append]; exact al.app al2)).dat⟩
end
noncomputable abbrev fd318 (P : Params) : FuncData := funcOf (Fast.tw2477550841948896316 P)
theorem fn318 (P : Params) : FnOk P 318 (fd318 P) (stmtsOf (fd318 P)) := ⟨⟨_, by rfl, by rfl⟩, by decide, by rfl, by rfl, by rfl, by rfl, by rfl, by rfl, by rfl, ⟨_, _, _, _, by rfl, by decide, by rfl, by rfl, by rfl⟩⟩
/-- the stretches of which _law_ends tells the ends -/
def someOf (t : List (Int × Int)) : List (Int × Int) := cutD none (some 2) t ++ cutD (some (-1)) none t
def endsOf (p : Int × Int) : List Int := [p.1 - 1, p.1, p.2, p.2 + 1]
def endsT (t : List (Int × Int)) : List Int := (someOf t).flatMap endsOf
theorem cutD_len {α : Type} (lo hi : Option Int) (ds : List α) : (cutD lo hi ds).length ≤ ds.length := by
  unfold cutD; rw [List.length_take, List.length_drop]; omega
theorem flat_len (xs : List (Int × Int)) : (xs.flatMap endsOf).length = 4 * xs.length := by
  induction xs with
  | nil => rfl
  | cons a r ih => rw [List.flatMap_cons, List.length_append, ih]; simp [endsOf]; omega
theorem endsFn (w : World) (t : List (Int × Int)) (ht : t.length ≤ 2 ^ 16) : Fn w 1 318 [.dat (tblD t)] (.dat (.list ((endsT t).map .int))) := by
  refine FnE.of (n := 0) (ns := parNames (fd318 w.params)) (fn318 w.params) (fun vs hv => by
    match vs, hv with
    | [v], _ => rfl) (by rfl) (of_decide_eq_true (by rfl)) (by rfl) (fun _ _ => NewStab.triv) fun A V L s s1 _ _ nf _ ok tt => ?_
  have l1 := cutD_len none (some 2) t
  have l2 := cutD_len (some (-1)) none t
  refine do_doc ok tt fun s2 tt => ?_
  refine do_assignP ok tt (b := .dat (.list [])) (Pu.lst ok (ds := []) Pa.nil (by decide)) (.inl (by rfl)) fun s3 ok tt => ?_
  refine do_for (κ := List Int) ok (hitT (ds := (someOf t).map pairD) ok tt (by
      rw [someOf, List.map_append, cutD_map, cutD_map]
      exact Pu.addT ok (Pu.cut_tup ok (Pu.name ok (by rfl)) Pp.none (Pp.some Pu.int) (by rw [List.length_map]; omega)) (Pu.cut_tup ok (Pu.name ok (by rfl)) (Pp.some (Pu.neg ok Pu.int)) Pp.none (by rw [List.length_map]; omega))
        (by rw [← cutD_map, ← cutD_map, List.length_map, List.length_map]; omega)))
    (fun k => [(⟨⟨[102, 111, 117, 110, 100]⟩⟩, .dat (.list (k.map .int)))]) (fun _ _ => True) (fun i k => k = ((someOf t).take i).flatMap endsOf) (fun _ _ _ _ _ _ _ _ => trivial) [] rfl (fun _ t => t.sub ⟨by rfl, trivial⟩)
    (fun I K i k s4 v hi hk wk hI hV ok tt hv => ?_) (fun k s5 hk ok tt => ?_)
  · have hi' : i < (someOf t).length := by simpa using hi
    have hsl : (someOf t).length ≤ 2 ^ 17 := by unfold someOf; rw [List.length_append]; omega
    rw [getD_map pairD hi] at hv
    refine asg2 ok tt hv (.inl (by rfl)) (.inl (by rfl)) fun s5 ok tt => ?_
    refine do_assignP ok tt (b := .dat (.list (k.map .int ++ (endsOf (someOf t)[i]).map .int))) (Pu.addL ok (Pu.name ok (by rfl)) (Pu.lst ok (Pa.cons ok (Pu.sub ok (Pu.name ok (by rfl)) Pu.int) (Pa.cons ok (Pu.name ok (by rfl)) (Pa.cons ok (Pu.name ok (by rfl)) (Pa.cons ok (Pu.add ok (Pu.name ok (by rfl)) Pu.int) Pa.nil)))) (show 4 ≤ 2 ^ 20 by decide)) ?_) (.inl (by rfl)) fun s6 ok tt => ?_
    · rw [List.length_map, hk, flat_len, List.length_take]
      show _ + 4 ≤ _
      omega
    · refine do_nil ⟨k ++ endsOf (someOf t)[i], ?_, tt.sub ⟨?_, trivial⟩⟩
      · rw [List.take_succ_eq_append_getElem hi', List.flatMap_append, hk]; simp
      · rw [List.map_append]; rfl
  · rw [List.length_map, List.take_length] at hk
    subst hk
    exact do_retP ok tt (Pu.name ok (by rfl)) fun s6 v h t => ⟨t.fin, _, rfl, h⟩
end Mine
end TW15
section TW16
open PySem PySem.W PyProof.Rows
set_option Elab.async false
namespace Mine
set_option maxRecDepth 100000
section
variable {c : Cx}
theorem Cx.St.call (ok : c.Ok) {s s' : Shared} (t : c.St s) {X : Vol} (u : Up X s.heap s'.heap) (a : Sa s s') (xw : ∀ a, X a = true → c.W a = true) (xf : ∀ a, X a = true → frm c.env a = false) (j : c.J s'.heap) : c.St s' :=
  have uW : Up c.W s.heap s'.heap := u.le xw
  have uV : Up c.V s.heap s'.heap := u.le fun a h => ok.wv a (xw a h)
  have nf : ∀ {p}, frm c.env p = true → X p = false := fun {p} h => by
    cases e : X p
    · rfl
    · rw [xf p e] at h; cases h
  ⟨fun i o n e => uV.keep _ _ (ok.old i (L1_lt e) n) (t.gl i o n e), fun b e => Nat.lt_of_lt_of_le (t.vok b e) u.size,
    let ⟨m, cm, f⟩ := t.fr
    ⟨m, cm, (let ⟨o, es, ep, e, r⟩ := f.ns; ⟨o, es, ep, u.keep _ _ (nf (frm_locals _)) e, r⟩), fun n d e => let ⟨o, p, r⟩ := f.cell n d e; ⟨o, u.keep _ _ (nf (frm_cell e)) p, r⟩, fun y b e => let ⟨v, l, q⟩ := f.nm y b e; ⟨v, l, q.up uV⟩⟩,
    t.up.trans uW, t.sa.trans a, j⟩
theorem Ex.call (ok : c.Ok) {x : PySem.Str} {p pos : Pos} {e : Expr} {es : List Expr} {bs : List Bnd} {B : Bnd → Prop} {a : Addr} {n : Nat} {fd : FuncData} {body : List Stmt} {X : Vol} {J : Heap → Prop}
    (hf : Pu c (.Name x p) (.raw (.ref a))) (F : FnOk c.w.params a fd body) (ha : Pa c (e :: es) bs) (fn : FnE c.w n a bs X J B) (hn : n ≤ c.lv)
    (xw : ∀ a, X a = true → c.W a = true) (xf : ∀ a, X a = true → frm c.env a = false) (jin : ∀ h, c.J h → J h) (jout : ∀ h h', Up X h h' → c.J h → J h' → c.J h')
    (he : starEach (e :: es) c.env = (false, eval e c.env) :: starEach es c.env := by rfl) : Ex c (.Call (.Name x p) (e :: es) [] pos) B := fun s t => by
  refine Call_ (wpAny_mono (hf s t) (fun f s1 ⟨g1, a1, h1⟩ => ?_) fun _ _ f => f)
  obtain rfl : f = .ref a := h1
  obtain ⟨o, ho, hd⟩ := F.ob
  refine callWith_def hd (wpAny_mono (ha s1 pos (t.grow ok g1 a1)) (fun vs s2 ⟨g2, a2, h2⟩ => ?_) fun _ _ f => f) he
  have t2 := (t.grow ok g1 a1).grow ok g2 a2
  refine ⟨t2.gl a o F.ne ho, wpAny_mono (fn c.A c.V s2 vs (ok.rm.le hn) (t2.fine ok) (fun b e => ok.wv b (xw b e)) h2 (jin _ t2.j)) (fun v s3 ⟨u3, a3, j3, b', hb, h3⟩ => ?_) fun _ _ f => f⟩
  exact ⟨((g1.trans g2).up).trans (u3.le fun b e => ok.wv b (xw b e)), t2.call ok u3 a3 xw xf (jout _ _ u3 t2.j j3), b', hb, h3⟩
theorem Ex.bin (_ok : c.Ok) {e1 e2 : Expr} {op : Operator} {pos : Pos} {B1 B2 B : Bnd → Prop} (x : Ex c e1 B1) (y : Ex c e2 B2)
    (h : ∀ s u v b1 b2, c.St s → B1 b1 → B2 b2 → Has c.V s.heap u b1 → Has c.V s.heap v b2 → Ev c s (binaryOp op u v) B) : Ex c (.BinOp e1 op e2 pos) B := fun s t => by
  refine wpAny_BinOp (wpAny_mono (x s t) (fun u s1 ⟨u1, t1, b1, hb1, h1⟩ => ?_) fun _ _ f => f)
  refine wpAny_mono (y s1 t1) (fun v s2 ⟨u2, t2, b2, hb2, h2⟩ => ?_) fun _ _ f => f
  exact wpAny_mono (h s2 u v b1 b2 t2 hb1 hb2 (h1.up u2) h2) (fun r s3 ⟨u3, t3, b3⟩ => ⟨(u1.trans u2).trans u3, t3, b3⟩) fun _ _ f => f
def intP (P : Int → Prop) : Bnd → Prop := fun b => ∃ i : Int, b = .dat (.int i) ∧ P i
theorem Pu.intP (ok : c.Ok) {e : Expr} {i : Int} (x : Pd c e (.int i)) : Ex c e (Mine.intP (· = i)) := fun s t => wpAny_mono (x.ex ok s t) (fun _ _ ⟨a, b, d, e, h⟩ => ⟨a, b, d, ⟨i, e, rfl⟩, h⟩) fun _ _ f => f
theorem Ex.weak {e : Expr} {B B' : Bnd → Prop} (x : Ex c e B) (k : ∀ b, B b → B' b) : Ex c e B' := fun s t => wpAny_mono (x s t) (fun _ _ ⟨a, b, d, e, h⟩ => ⟨a, b, d, k d e, h⟩) fun _ _ f => f
theorem Ex.add (ok : c.Ok) {e1 e2 : Expr} {pos : Pos} {P1 P2 P : Int → Prop} (x : Ex c e1 (Mine.intP P1)) (y : Ex c e2 (Mine.intP P2)) (k : ∀ i j, P1 i → P2 j → P (i + j)) : Ex c (.BinOp e1 .Add e2 pos) (Mine.intP P) :=
  Ex.bin ok x y fun s u v b1 b2 t h1 h2 hu hv => by
    obtain ⟨i, rfl, p1⟩ := h1
    obtain ⟨j, rfl, p2⟩ := h2
    obtain ⟨_, rfl⟩ := Dat.int hu; obtain ⟨_, rfl⟩ := Dat.int hv
    exact PyProof.Rows.add_int ⟨Up.refl, t.grow (s' := { s with toks := s.toks + 1 }) ok Grow.refl ⟨rfl, rfl⟩, _, ⟨_, rfl, k i j p1 p2⟩, hasInt ..⟩
theorem Ex.sub (ok : c.Ok) {e1 e2 : Expr} {pos : Pos} {P1 P2 P : Int → Prop} (x : Ex c e1 (Mine.intP P1)) (y : Ex c e2 (Mine.intP P2)) (k : ∀ i j, P1 i → P2 j → P (i - j)) : Ex c (.BinOp e1 .Sub e2 pos) (Mine.intP P) :=
  Ex.bin ok x y fun s u v b1 b2 t h1 h2 hu hv => by
    obtain ⟨i, rfl, p1⟩ := h1
    obtain ⟨j, rfl, p2⟩ := h2
    obtain ⟨_, rfl⟩ := Dat.int hu; obtain ⟨_, rfl⟩ := Dat.int hv
    exact PyProof.Rows.sub_int ⟨Up.refl, t.grow (s' := { s with toks := s.toks + 1 }) ok Grow.refl ⟨rfl, rfl⟩, _, ⟨_, rfl, k i j p1 p2⟩, hasInt ..⟩
theorem itb_range {w : World} {A : Around} {V : Vol} {s : Shared} (hn : A.handled = none) {a b : Int} {r : Addr} {t u v : Tok} (hr : IsRange s.heap r a b 1 t u v) (ha : -(2 ^ 62) ≤ a) (ha' : a < 2 ^ 62) (hb : -(2 ^ 62) ≤ b) (hb' : b < 2 ^ 62) :
    Itb w A V s (.ref r) (b - a).toNat fun i => .dat (.int (a + i)) := by
  refine wpAny_pyIter_range hr (small_one ha ha' hb hb') ⟨s.heap.objs.size, fun i h => IsRangeIter h s.heap.objs.size (a + (i : Nat)) (((b - a).toNat : Int) - (i : Nat)) 1, rfl, Grow.push _, ⟨rfl, rfl⟩, Nat.le_refl _, by rw [Heap.size_push]; exact Nat.lt_succ_self _, ?_, ?_⟩
  · refine ⟨fun i F h h' hF u it => ?_, fun i s1 hi it => ?_, fun s1 it => ?_, fun i s1 target v Q it hQ => ?_, fun i s1 Q it hQ => wpAny_pyIter_rangeiter it hQ⟩
    · have f1 : F s.heap.objs.size = false := by
        cases e : F s.heap.objs.size
        · rfl
        · exact absurd rfl (hF _ e).2
      exact u.keep _ _ f1 it
    · refine wpAny_pyNext_range_item it (by omega) fun h' it' sb => ?_
      have u := upBut (V := uno s.heap.objs.size) (by simp [uno]) sb
      refine ⟨_, rfl, u, ⟨rfl, rfl⟩, ?_, hasInt ..⟩
      have e1 : a + ((i + 1 : Nat) : Int) = a + (i : Int) + 1 := by omega
      have e2 : ((b - a).toNat : Int) - ((i + 1 : Nat) : Int) = ((b - a).toNat : Int) - (i : Int) - 1 := by omega
      show IsRangeIter h' _ _ _ _
      rw [e1, e2]; exact it'
    · exact wpAny_size (wpAny_pyNext_range_end hn it (by omega) fun h' he hz => ⟨rfl, upExt he hz, ⟨rfl, rfl⟩⟩)
    · exact own_plain hQ it rfl (by decide +kernel)
  · have e : Builtin.Range.rangeSize a b 1 = ((b - a).toNat : Int) := by rw [rangeSize_one]; split <;> omega
    show IsRangeIter _ _ _ _ _
    rw [e]
    have e1 : a + ((0 : Nat) : Int) = a := by omega
    have e2 : ((b - a).toNat : Int) - ((0 : Nat) : Int) = ((b - a).toNat : Int) := by omega
    rw [e1, e2]
    exact Heap.get?_push_size _ rfl
/-- a loop over range(e), where e is told only as one of P -/
theorem hitR1 (ok : c.Ok) {s : Shared} (t : c.St s) {x : PySem.Str} {p pos : Pos} {e : Expr} {P : Int → Prop} (hf : Pu c (.Name x p) (.raw (.type "range"))) (y : Ex c e (Mine.intP P)) (hP : ∀ i, P i → -(2 ^ 62) ≤ i ∧ i < 2 ^ 62)
    (he : starEach [e] c.env = (false, eval e c.env) :: starEach [] c.env := by rfl) :
    wpAny (model pw c.w) c.A (eval (.Call (.Name x p) [e] [] pos) c.env) (fun v s1 => c.St s1 ∧ s.heap.objs.size ≤ s1.heap.objs.size ∧ ∃ n bs, (∃ i, P i ∧ n = i.toNat ∧ bs = fun (k : Nat) => Bnd.dat (.int ((0 : Int) + k))) ∧ Itb c.w c.A c.V s1 v n bs) (fun _ _ => False) s := by
  refine Call_ (wpAny_mono (hf s t) (fun f s1 ⟨g1, a1, h1⟩ => ?_) fun _ _ f => f)
  obtain rfl : f = .type "range" := h1
  refine PyProof.Rows.callWith_type1 (args_cons (wpAny_mono (y s1 (t.grow ok g1 a1)) (fun v s2 ⟨u2, t2, b, hb, h2⟩ => args_nil ?_) fun _ _ f => f) he) he (by rfl)
  obtain ⟨i, rfl, pi⟩ := hb
  obtain ⟨tk, rfl⟩ := Dat.int h2
  refine call_range_1 (t := tk) ⟨t2.grow (s' := { s2 with heap := s2.heap.push { cls := .type "range", data := .fields #[.int 0 s2.toks, .int i tk, .int 1 (s2.toks + 1)] }, toks := s2.toks + 1 + 1 }) ok (Grow.push _) ⟨rfl, rfl⟩, ?_, _, _, ⟨i, pi, rfl, rfl⟩, ?_⟩
  · exact Nat.le_trans (Nat.le_trans g1.size u2.size) (Grow.push _).size
  · have := itb_range (w := c.w) (A := c.A) (V := c.V) (s := { s2 with heap := s2.heap.push { cls := .type "range", data := .fields #[.int 0 s2.toks, .int i tk, .int 1 (s2.toks + 1)] }, toks := s2.toks + 1 + 1 }) ok.rm.hn (IsRange.new ..) (by decide) (by decide) (hP i pi).1 (hP i pi).2
    rwa [Int.sub_zero] at this
end
end Mine
end TW16
section TW17
open PySem PySem.W PyProof.Rows
set_option Elab.async false
namespace Mine
set_option maxRecDepth 100000
open AutoSeq1 (wpAny_loadPart')
/-- tuple(l) of a list: a new tuple, and the places do not shrink -/
theorem meets_tup (l : Addr) (o : Obj) (items : Array Value) (n : Nat) (hc : o.cls = .type "list") (hd : o.data = .seq items n) (hsz : items.size ≤ sizeLine) :
    Meets (Builtin.«tuple.__new__» ⟨[.type "tuple", .ref l], []⟩)
      (fun _ R s => s.heap.get? l = some o ∧ ∀ h' : Heap, Grow s.heap h' → R (.ok (.ret (.ref h'.objs.size))) { s with heap := h'.push { cls := .type "tuple", data := .seq items } }) :=
  .of_wp fun prog w A R s h => by
    obtain ⟨hp, g, d, tk, os⟩ := s; obtain ⟨ht, h⟩ := h
    have hsub := sub_tuple_self
    have hinit := init_tuple_lookup
    have hmh := madeHere_tuple
    have hT : Shared.TypeIs ⟨hp, g, d, tk, os⟩ (.ref l) "list" := ⟨o, ht, hc⟩
    have coll : ∀ {A : Around} {Q : List Value → Shared → Prop} {E : Value → Shared → Prop}, (∀ h', Grow hp h' → Q items.toList ⟨h', g, d, tk, os⟩) → wpAny (model prog w) A (collect (.ref l)) Q E ⟨hp, g, d, tk, os⟩ :=
      fun hQ => wpAny_size (wpAny_collect_seq (hsz := hsz) l (.inl rfl) ht hc hd fun h' hk hz => hQ h' ⟨fun b o _ e => hk b o e, hz⟩)
    wp_walk using wpAny_loadPart' ht, wpAny_typeOf hT, coll
    intro h' hk
    show wpAny _ _ (Builtin.Tuple.tupleExact items.toList.toArray >>= fun v => ret v) _ _ _
    unfold Builtin.Tuple.tupleExact
    refine wpAny_bind (wpAny_newObj_type ?_ (by show items.toList.toArray.size ≤ sizeLine; simpa using hsz))
    refine wpAny_pure ⟨_, rfl, ?_⟩
    have e : items.toList.toArray = items := by simp
    rw [e]
    exact h h' hk
theorem call_tup {w : World} {A : Around} {E : Value → Shared → Prop} {s : Shared} {l : Addr} {items : Array Value} {Q : Value → Shared → Prop} (hl : s.heap.IsList l items)
    (h : ∀ h' : Heap, Grow s.heap h' → Q (.ref h'.objs.size) { s with heap := h'.push { cls := .type "tuple", data := .seq items } }) (hsz : items.size ≤ sizeLine) :
    wpAny (model pw w) A (PySem.call (.type "tuple") [.ref l]) Q E s := by
  obtain ⟨o, ho, hc, n, hd⟩ := hl
  exact callType_new F.called_tuple (by decide) (F.typeCall_tuple_1 _) (F.newCall_tuple_1 _) (fun obj => F.args_object_init_2 obj _) F.entry_tuple_new
    (meets_tup l o items n hc hd hsz) ⟨ho, fun h' hk => ⟨⟨_, Heap.get?_push_size _ rfl, rfl⟩, h h' hk⟩⟩
/-- a list under way, of pairs -/
def RowIs (V : Vol) (r : Addr) (ds : List PyData) (h : Heap) : Prop := ∃ items n, IsL h r items n ∧ HasAll V h items.toList (dats ds)
theorem RowIs.up {V F : Vol} {r : Addr} {ds : List PyData} {h h' : Heap} (x : RowIs V r ds h) (u : Up F h h') (hr : F r = false) (hF : ∀ a, F a = true → V a = true) : RowIs V r ds h' :=
  let ⟨items, n, l, al⟩ := x; ⟨items, n, u.keep _ _ hr l, al.up (u.le hF)⟩
theorem hasAllBack {V : Vol} {I : Addr} {h : Heap} : ∀ {vs : List Value} {bs : List Bnd}, HasAll (joinV V (uno I)) h vs bs → HasAll V h vs bs
  | [], [], _ => trivial
  | _ :: _, _ :: _, ⟨a, b⟩ => ⟨hasBack a, hasAllBack b⟩
  | [], _ :: _, x => x.elim
  | _ :: _, [], x => x.elim
theorem RowIs.new {V : Vol} {r I : Addr} {ds : List PyData} {h : Heap} (hI : h.objs.size ≤ I) (x : RowIs V r ds h) : RowIs (joinV V (uno I)) r ds h := let ⟨items, n, l, al⟩ := x; ⟨items, n, l, hasAllNew hI al⟩
theorem RowIs.back {V : Vol} {r I : Addr} {ds : List PyData} {h : Heap} (x : RowIs (joinV V (uno I)) r ds h) : RowIs V r ds h := let ⟨items, n, l, al⟩ := x; ⟨items, n, l, hasAllBack al⟩
/-- row = [] : a new volatile list -/
theorem do_row {c : Cx} (ok : c.Ok) {s : Shared} (t : c.St s) {x : PySem.Str} {rest : List Stmt} {p p' pos : Pos} {Q : Flow → Shared → Prop} (hx : StoreOk c.env x)
    (k : ∀ r s', (∀ a, c.V a = true → a ≠ r) → frm c.env r = false → c.s₀.heap.objs.size ≤ r → ((c.at r c.ρ fun h => c.J h ∧ RowIs (joinV c.V (uno r)) r [] h).put x (.raw (.ref r))).Ok → ((c.at r c.ρ fun h => c.J h ∧ RowIs (joinV c.V (uno r)) r [] h).put x (.raw (.ref r))).St s' →
      Do ((c.at r c.ρ fun h => c.J h ∧ RowIs (joinV c.V (uno r)) r [] h).put x (.raw (.ref r))) rest Q s')
    (hs : swapsWith (.List [] p) (some (.Name x p')) pos.line c.env = pure false := by rfl) : Do c (.Assign [.Name x p'] (.List [] p) pos :: rest) Q s := by
  refine do_cons (wpAny_Assign_Name (PySem.wpAny_List (args_nil ⟨Nat.zero_le _, ?_⟩)) hs)
  have h336 := t.gl.size
  have hI : 336 ≤ s.heap.objs.size := h336
  have hVI : ∀ b, c.V b = true → b ≠ s.heap.objs.size := fun b hb => Nat.ne_of_lt (t.vok b hb)
  have hf : frm c.env s.heap.objs.size = false := by
    cases e : frm c.env s.heap.objs.size
    · rfl
    · exact absurd rfl (hVI _ (ok.wv _ (ok.fw _ e)))
  have okA : (c.at s.heap.objs.size c.ρ fun h => c.J h ∧ RowIs (joinV c.V (uno s.heap.objs.size)) s.heap.objs.size [] h).Ok :=
    ok.at hI fun h h' u ⟨a, b⟩ => ⟨ok.stab h h' u a, b.up u (own_no hf) fun a e => joinV_l (ok.wv a (ok.fw a (own_frm e)))⟩
  have g : Grow s.heap (s.heap.push { cls := .type "list", data := .seq ([] : List Value).toArray }) := Grow.push _
  have tA : (c.at s.heap.objs.size c.ρ fun h => c.J h ∧ RowIs (joinV c.V (uno s.heap.objs.size)) s.heap.objs.size [] h).St { s with heap := s.heap.push { cls := .type "list", data := .seq ([] : List Value).toArray } } :=
    ⟨fun i o n e => g.keeps _ _ (t.gl i o n e), fun b e => (Bool.or_eq_true_iff.mp e).elim (fun e => Nat.lt_of_lt_of_le (t.vok b e) g.size) fun e => by
        rw [show b = s.heap.objs.size by simpa [uno] using e]
        show _ < (s.heap.push _).objs.size
        rw [Heap.size_push]; exact Nat.lt_succ_self _,
      let ⟨m, cm, f⟩ := t.fr; ⟨m, cm, f.ns.keeps g.keeps, fun n d e => let ⟨o, p, r⟩ := f.cell n d e; ⟨o, g.keeps _ _ p, r⟩, fun y b e => let ⟨v, l, q⟩ := f.nm y b e; ⟨v, l, (hasNew (Nat.le_refl _) q).up g.up⟩⟩,
      (t.up.le fun _ h => joinV_l h).trans g.up, ⟨t.sa.gens, t.sa.os⟩, ok.stab _ _ g.up t.j, ⟨#[], 0, Heap.get?_push_size _ rfl, trivial⟩⟩
  exact wpAny_mono (store (b := .raw (.ref s.heap.objs.size)) okA tA rfl hx) (fun _ s2 ⟨t2, _, _⟩ => k _ s2 hVI hf t.up.size (okA.put _ _) t2) fun _ _ f => f
/-- row.append(e) -/
theorem do_append {c : Cx} (ok : c.Ok) {s : Shared} (t : c.St s) {x : PySem.Str} {e : Expr} {rest : List Stmt} {p p2 pos pos2 : Pos} {Q : Flow → Shared → Prop} {r : Addr} {ds : List PyData} {d : PyData} {J : Heap → Prop}
    (hf : Pu c (.Name x p) (.raw (.ref r))) (hr : c.W r = true) (hfr : frm c.env r = false) (hJ : ∀ h, c.J h → RowIs c.V r ds h) (hl : ds.length ≤ 2 ^ 20) (y : Pd c e d)
    (hJ' : ∀ h h', Heap.SameBut r h h' → c.J h → RowIs c.V r (ds ++ [d]) h' → J h') (stJ : ∀ h h', Up (own c.env) h h' → J h → J h') (k : ∀ s', ({ c with J := J } : Cx).Ok → ({ c with J := J } : Cx).St s' → Do ({ c with J := J } : Cx) rest Q s')
    (hline : (p2.endLine == pos.line) = true) (hb : attributeBase (.Name x p) ⟨⟨[97, 112, 112, 101, 110, 100]⟩⟩ c.env (eval (.Name x p) c.env) = eval (.Name x p) c.env := by rfl) (hst : starEach [e] c.env = [(false, eval e c.env)] := by rfl)
    (hi : interactive c.env = false := by rfl) (hs : swapsWith (.Call (.Attribute (.Name x p) ⟨⟨[97, 112, 112, 101, 110, 100]⟩⟩ p2) [e] [] pos) none pos2.line c.env = pure false := by rfl) :
    Do c (.Expr (.Call (.Attribute (.Name x p) ⟨⟨[97, 112, 112, 101, 110, 100]⟩⟩ p2) [e] [] pos) pos2 :: rest) Q s := by
  refine do_cons (wpAny_Expr (PySem.Call_method1 hb hst hline (wpAny_mono (hf s t) (fun u s1 ⟨g1, a1, h1⟩ => ?_) fun _ _ f => f)) hi hs)
  obtain rfl : u = .ref r := h1
  have t1 := t.grow ok g1 a1
  obtain ⟨items, n, l, al⟩ := hJ _ t1.j
  refine ⟨"list", "list.append", F.plainAttrs_list, F.slot_list_append, F.type_list_append, ⟨_, l, rfl⟩, fun a e => ?_, P.append_list (wpAny_mono (y s1 t1) (fun v s2 ⟨g2, a2, h2⟩ => ?_) fun _ _ f => f)⟩
  · cases e; exact ⟨_, l, rfl⟩
  have t2 := t1.grow ok g2 a2
  have l2 := g2.keeps _ _ l
  have hlen := al.length
  rw [List.length_map, Array.length_toList] at hlen
  have := sizeLine_eq
  have sb := Heap.SameBut.update s2.heap r (Obj.mapSeq fun xs => xs.push v)
  have uV := upBut (V := c.V) (ok.wv r hr) sb
  have row : RowIs c.V r (ds ++ [d]) (s2.heap.update r (Obj.mapSeq fun xs => xs.push v)) := ⟨_, _, IsL.update l2 _, by
    rw [Array.toList_push, dats, List.map_append]
    exact (al.up (g2.up.trans uV)).app ⟨h2.up uV, trivial⟩⟩
  refine ⟨items, n, by omega, l2, k _ ⟨ok.fn, ok.gb, ok.bi, ok.rm, ok.fw, ok.wv, stJ, ok.lc, ok.ap, ok.old, ok.vtab⟩ ?_⟩
  have j := hJ' _ _ sb t2.j row
  have hl' : c.env.locals ≠ r := fun e => by rw [← e, frm_locals] at hfr; cases hfr
  exact ⟨fun i o n e => (sb.2 i (ok.nold (ok.wv r hr) (L1_lt e) n)).trans (t2.gl i o n e), fun a e => Nat.lt_of_lt_of_le (t2.vok a e) uV.size,
    let ⟨m, cm, f⟩ := t2.fr; ⟨m, cm, f.ns.sameBut sb hl', fun n d e => (f.cell n d e).sameBut sb fun q => (by rw [← q, frm_cell e] at hfr; cases hfr), fun y b e => let ⟨v, l, q⟩ := f.nm y b e; ⟨v, l, q.up uV⟩⟩,
    t2.up.trans (upBut hr sb), ⟨t2.sa.gens, t2.sa.os⟩, j⟩
end Mine
end TW17
section TW18
open PySem PySem.W PyProof.Rows
set_option Elab.async false
namespace Mine
set_option maxRecDepth 100000
/-- a draw, wherever it stands -/
theorem takeEx {c : Cx} (ok : c.Ok) {D D0 : Addr} {p p1 p2 pos : Pos} {k : Nat} {m : Int} (hm : 0 < m) (hg : c.env.kindOf ⟨⟨[95, 108, 97, 119, 95, 116, 97, 107, 101]⟩⟩ = some .globalImplicit) (hd : Pu c (.Name ⟨⟨[100, 114, 97, 119]⟩⟩ p1) (.raw (.ref D)))
    (hlv : 1 ≤ c.lv) (wD : c.W D = true) (wD0 : c.W D0 = true) (fD : frm c.env D = false) (fD0 : frm c.env D0 = false) (jin : ∀ h, c.J h → Drw D D0 h) (jout : ∀ h h', Up (two D D0) h h' → c.J h → Drw D D0 h' → c.J h') :
    Ex c (.Call (.Name ⟨⟨[95, 108, 97, 119, 95, 116, 97, 107, 101]⟩⟩ p) [.Name ⟨⟨[100, 114, 97, 119]⟩⟩ p1, .Constant (.int m) k p2] [] pos) (intP fun r => 0 ≤ r ∧ r < m) := by
  refine Ex.call (a := 297) ok (Pu.glob ok hg (by kernel_rfl)) (fn297 _) (Pa.cons ok hd (Pa.cons ok Pu.int Pa.nil)) (takeFn c.w D D0 m hm) hlv (fun a h => ?_) (fun a h => ?_) jin jout
  · rcases Bool.or_eq_true_iff.mp h with h | h
    · rw [show a = D by simpa using h]; exact wD
    · rw [show a = D0 by simpa using h]; exact wD0
  · rcases Bool.or_eq_true_iff.mp h with h | h
    · rw [show a = D by simpa using h]; exact fD
    · rw [show a = D0 by simpa using h]; exact fD0
noncomputable abbrev fd304 (P : Params) : FuncData := funcOf (Fast.tw18331491178012128757 P)
theorem fn304 (P : Params) : FnOk P 304 (fd304 P) (stmtsOf (fd304 P)) := ⟨⟨_, by rfl, by rfl⟩, by decide, by rfl, by rfl, by rfl, by rfl, by rfl, by rfl, by rfl, ⟨_, _, _, _, by rfl, by decide, by rfl, by rfl, by rfl⟩⟩
theorem Drw.up {D D0 : Addr} {F : Vol} {h h' : Heap} (d : Drw D D0 h) (u : Up F h h') (hD : F D = false) (hD0 : F D0 = false) : Drw D D0 h' :=
  let ⟨ne, ⟨sd, t, ⟨o, e, r⟩, b⟩, items, n, l, c⟩ := d
  ⟨ne, ⟨sd, t, ⟨o, u.keep _ _ hD e, r⟩, b⟩, items, n, u.keep _ _ hD0 l, c⟩
/-- what a table that was drawn is like -/
structure TblOk (least : Int) (t : List (Int × Int)) (i : Nat) (at_ : Int) : Prop where
  len : t.length = i
  at0 : 0 ≤ at_
  at1 : at_ ≤ 8 + 9 * (i : Int)
  box : ∀ p ∈ t, 0 ≤ p.1 ∧ p.1 ≤ p.2 ∧ p.2 ≤ 12 + 9 * (i : Int) ∧ (if 0 < least then p.2 ≤ at_ else p.1 ≤ at_)
  row : t.Pairwise fun p q => if 0 < least then p.2 < q.1 else p.1 ≤ q.1
theorem TblOk.snoc {least : Int} {t : List (Int × Int)} {i : Nat} {a : Int} (x : TblOk least t i a) (hl : least = 0 ∨ least = 1) {r q : Int} (hr : 0 ≤ r ∧ r < 4) (hq : 0 ≤ q ∧ q < 5) :
    TblOk least (t ++ [(a + least + r, a + least + r + q)]) (i + 1) (if 0 < least then a + least + r + q else a + least + r) := by
  obtain ⟨l, a0, a1, b, w⟩ := x
  refine ⟨by rw [List.length_append, l]; rfl, ?_, ?_, fun p hp => ?_, ?_⟩
  · split <;> omega
  · split <;> omega
  · rcases List.mem_append.mp hp with hp | hp
    · obtain ⟨b1, b2, b3, b4⟩ := b p hp
      refine ⟨b1, b2, by omega, ?_⟩
      split <;> (rename_i h; simp only [h, if_true, if_false] at b4; omega)
    · rw [List.mem_singleton] at hp
      subst hp
      refine ⟨by show 0 ≤ a + least + r; omega, by show a + least + r ≤ a + least + r + q; omega, by show a + least + r + q ≤ _; omega, ?_⟩
      split
      · exact Int.le_refl _
      · exact Int.le_refl _
  · rw [List.pairwise_append]
    refine ⟨w, List.pairwise_singleton _ _, fun p hp q' hq' => ?_⟩
    rw [List.mem_singleton] at hq'
    subst hq'
    obtain ⟨b1, b2, b3, b4⟩ := b p hp
    split <;> (rename_i h; simp only [h, if_true, if_false] at b4)
    · show p.2 < a + least + r; omega
    · show p.1 ≤ a + least + r; omega
def tblP (least : Int) : Bnd → Prop := fun b => ∃ t i a, b = .dat (tblD t) ∧ TblOk least t i a ∧ 1 ≤ i ∧ i ≤ 8
theorem tableFn (w : World) (D D0 : Addr) (least : Int) (hl : least = 0 ∨ least = 1) : FnE w 2 304 [.raw (.ref D), .dat (.int least)] (two D D0) (Drw D D0) (tblP least) := by
  refine FnE.of (n := 1) (ns := parNames (fd304 w.params)) (fn304 w.params) (fun vs hv => by
    match vs, hv with
    | [v, u], _ => rfl) (by rfl) (of_decide_eq_true (by rfl)) (by rfl) (fun _ d => d.stab) fun A V L s s1 vf hJ nf xv ok t => ?_
  have gD : ∃ o, s.heap.get? D = some o := by obtain ⟨_, ⟨_, _, ⟨o, e, _⟩, _⟩, _⟩ := hJ; exact ⟨o, e⟩
  have gD0 : ∃ o, s.heap.get? D0 = some o := by obtain ⟨_, _, _, _, e, _⟩ := hJ; exact ⟨_, e⟩
  obtain ⟨oD, eD⟩ := gD
  obtain ⟨oD0, eD0⟩ := gD0
  have fD : frm (callEnvC (fd304 w.params) L 304) D = false := Cx.Ok.noFrm (n := 0) (w := w) (A := A) (V := V) (X := two D D0) (ρ := []) (J := noJ) nf eD
  have fD0 : frm (callEnvC (fd304 w.params) L 304) D0 = false := Cx.Ok.noFrm (n := 0) (w := w) (A := A) (V := V) (X := two D D0) (ρ := []) (J := noJ) nf eD0
  have wD : (joinV (two D D0) (frm (callEnvC (fd304 w.params) L 304))) D = true := joinV_l (by unfold two; simp)
  have wD0 : (joinV (two D D0) (frm (callEnvC (fd304 w.params) L 304))) D0 = true := joinV_l (by unfold two; simp)
  have twV : ∀ a, two D D0 a = true → (joinV V (frm (callEnvC (fd304 w.params) L 304))) a = true := fun a h => joinV_l (xv a h)
  refine do_doc ok t fun s2 t => ?_
  refine do_row ok t (.inl (by rfl)) fun r s3 hVr hfr hIr ok t => ?_
  have rX : two D D0 r = false := by
    cases e : two D D0 r
    · rfl
    · exact absurd rfl (hVr r (twV r e))
  refine do_assign ok t (takeEx (D := D) (D0 := D0) ok (by decide) (by rfl) (Pu.name ok (by rfl)) (Nat.le_refl 1) (joinV_l wD) (joinV_l wD0) fD fD0 (fun h j => j.1) (fun h h' u j d => ⟨d, j.2.up u rX fun a h => joinV_l (twV a h)⟩)) (.inl (by rfl)) fun s4 b hb ok t => ?_
  obtain ⟨at0, rfl, ha⟩ := hb
  refine do_forN (κ := List (Int × Int) × Int) ok (hitR1 (P := fun i => 1 ≤ i ∧ i ≤ 8) ok t (Pu.blt ok (by rfl) (by kernel_rfl) (by kernel_rfl)) (Ex.add (P1 := (· = 1)) (P2 := fun r => 0 ≤ r ∧ r < 8) ok (Pu.intP ok Pu.int)
      (takeEx (D := D) (D0 := D0) ok (by decide) (by rfl) (Pu.name ok (by rfl)) (Nat.le_refl 1) (joinV_l wD) (joinV_l wD0) fD fD0 (fun h j => j.1) (fun h h' u j d => ⟨d, j.2.up u rX fun a h => joinV_l (twV a h)⟩)) (fun i j h1 h2 => by omega)) (fun i h => by omega))
    (fun k => [(⟨⟨[114, 111, 119]⟩⟩, .raw (.ref r)), (⟨⟨[97, 116]⟩⟩, .dat (.int k.2)), (⟨⟨[100, 114, 97, 119]⟩⟩, .raw (.ref D)), (⟨⟨[108, 101, 97, 115, 116]⟩⟩, .dat (.int least))]) (fun V' k h => Drw D D0 h ∧ RowIs V' r (k.1.map pairD) h)
    (fun i k => TblOk least k.1 i k.2) (fun V' k F h h' m u j => ?_) (fun k h I hz j => ⟨j.1, j.2.new hz⟩) (fun k h I j => ⟨j.1, j.2.back⟩) ([], at0) ⟨rfl, ha.1, by omega, (fun _ h => by cases h), List.Pairwise.nil⟩ (fun s5 t => t.sub ⟨by rfl, by rfl, by rfl, by rfl, trivial⟩)
    (fun n bs I K i k s5 v hN hi hk wk hI hV ok t hv => ?_) (fun n bs k s5 hN hk ok t => ?_)
  · have hF : ∀ a, frm (callEnvC (fd304 w.params) L 304) a = false → a < s4.heap.objs.size → F a = false := fun a h1 h2 => by
      cases e : F a
      · rfl
      · rcases (m a e).2 with q | q
        · rw [show frm (callEnvC (fd304 w.params) L 304) a = true from own_frm q] at h1; cases h1
        · exact absurd h2 (Nat.not_lt.mpr q)
    have hz : s.heap.objs.size ≤ s4.heap.objs.size := t.up.size
    have lD : D < s4.heap.objs.size := Nat.lt_of_lt_of_le (Heap.lt_size eD) hz
    have lD0 : D0 < s4.heap.objs.size := Nat.lt_of_lt_of_le (Heap.lt_size eD0) hz
    have lr : r < s4.heap.objs.size := t.vok r (joinV_r (by simp [uno]))
    exact ⟨j.1.up u (hF _ fD lD) (hF _ fD0 lD0), j.2.up u (hF _ hfr lr) fun a h => (m a h).1⟩
  · have hst : ∀ h h', Up (two D D0) h h' → K (i + 1) h → K (i + 1) h' := fun h h' u k => wk.stab _ _ h h' (fun a e => ⟨.inl (joinV_l (twV a e)), hV a (joinV_l (twV a e))⟩) u k
    have jin : ∀ h, ((Drw D D0 h ∧ RowIs (joinV (joinV (joinV V (frm (callEnvC (fd304 w.params) L 304))) (uno r)) (uno I)) r (k.1.map pairD) h) ∧ K (i + 1) h) → Drw D D0 h := fun h j => j.1.1
    have jout : ∀ h h', Up (two D D0) h h' → ((Drw D D0 h ∧ RowIs (joinV (joinV (joinV V (frm (callEnvC (fd304 w.params) L 304))) (uno r)) (uno I)) r (k.1.map pairD) h) ∧ K (i + 1) h) → Drw D D0 h' → ((Drw D D0 h' ∧ RowIs (joinV (joinV (joinV V (frm (callEnvC (fd304 w.params) L 304))) (uno r)) (uno I)) r (k.1.map pairD) h') ∧ K (i + 1) h') := fun h h' u j d =>
      ⟨⟨d, j.1.2.up u rX fun a h => joinV_l (joinV_l (twV a h))⟩, hst h h' u j.2⟩
    obtain ⟨i0, ⟨hi1, hi2⟩, hn, hbs⟩ := hN
    refine asg1 ok t hv (.inl (by rfl)) fun s6 ok t => ?_
    refine do_assign ok t (Ex.add (P1 := (· = k.2 + least)) (P2 := fun r => 0 ≤ r ∧ r < 4) (P := fun f => ∃ r, f = k.2 + least + r ∧ 0 ≤ r ∧ r < 4) ok (Pu.intP ok (Pu.add ok (Pu.name ok (by rfl)) (Pu.name ok (by rfl))))
      (takeEx (D := D) (D0 := D0) ok (by decide) (by rfl) (Pu.name ok (by rfl)) (Nat.le_refl 1) (joinV_l (joinV_l wD)) (joinV_l (joinV_l wD0)) fD fD0 jin jout) (fun x y h1 h2 => ⟨y, by rw [h1], h2.1, h2.2⟩)) (.inl (by rfl)) fun s7 b hb ok t => ?_
    obtain ⟨f, rfl, r1, hf, hr1⟩ := hb
    refine do_assign ok t (Ex.add (P1 := (· = f)) (P2 := fun r => 0 ≤ r ∧ r < 5) (P := fun l => ∃ r, l = f + r ∧ 0 ≤ r ∧ r < 5) ok (Pu.intP ok (Pu.name ok (by rfl)))
      (takeEx (D := D) (D0 := D0) ok (by decide) (by rfl) (Pu.name ok (by rfl)) (Nat.le_refl 1) (joinV_l (joinV_l wD)) (joinV_l (joinV_l wD0)) fD fD0 jin jout) (fun x y h1 h2 => ⟨y, by rw [h1], h2.1, h2.2⟩)) (.inl (by rfl)) fun s8 b hb ok t => ?_
    obtain ⟨l, rfl, r2, hl2, hr2⟩ := hb
    refine do_append (r := r) (ds := k.1.map pairD) (d := pairD (f, l)) (J := fun h => (Drw D D0 h ∧ RowIs (joinV (joinV (joinV V (frm (callEnvC (fd304 w.params) L 304))) (uno r)) (uno I)) r ((k.1 ++ [(f, l)]).map pairD) h) ∧ K (i + 1) h) ok t (Pu.name ok (by rfl)) (joinV_l (joinV_r (by simp [uno]))) hfr (fun h j => j.1.2)
      (by rw [List.length_map, hk.len]; omega) (Pu.tup ok (ds := [.int f, .int l]) (Pa.cons ok (Pu.name ok (by rfl)) (Pa.cons ok (Pu.name ok (by rfl)) Pa.nil)) (show 2 ≤ 2 ^ 20 by decide)) (fun h h' sb j row => ?_) (fun h h' u j => ⟨⟨j.1.1.up u (own_no fD) (own_no fD0), j.1.2.up u (own_no hfr) fun a h => ok.wv a (ok.fw a (own_frm h))⟩, wk.stab _ _ h h' (fun a e => ⟨.inl (joinV_l (joinV_r (own_frm e))), hV a (joinV_l (joinV_r (own_frm e)))⟩) u j.2⟩) (fun s9 ok t => ?_) (by rfl)
    · have ur := upBut (V := uno r) (by simp [uno]) sb
      refine ⟨⟨j.1.1.up ur (uno_ne (hVr D (twV D (by unfold two; simp)))) (uno_ne (hVr D0 (twV D0 (by unfold two; simp)))), ?_⟩, wk.stab _ _ h h' (fun a e => ?_) ur j.2⟩
      · rw [List.map_append]; exact row
      · have : a = r := by simpa [uno] using e
        subst this
        exact ⟨.inl (joinV_r (by simp [uno])), hV a (joinV_r (by simp [uno]))⟩
    · refine do_assignP ok t (b := .dat (.int (if 0 < least then l else f))) ?_ (.inl (by rfl)) fun s10 ok t => ?_
      · by_cases h0 : 0 < least
        · rw [if_pos h0]
          refine Pu.ifT ok ?_ (Pu.name ok (by rfl))
          have := Te.cmp (r := decide (0 < least)) ok (Pu.name (b := .dat (.int least)) (x := ⟨⟨[108, 101, 97, 115, 116]⟩⟩) (pos := ⟨0, 0, 0, 0⟩) ok (by rfl)) (Pu.int (i := 0) (k := 0) (pos := ⟨0, 0, 0, 0⟩)) (op := .Gt) (pos := ⟨0, 0, 0, 0⟩) fun s u v _ hu hv => cGt hu hv
          rw [decide_eq_true h0] at this
          exact (Te.cmp (r := true) ok (Pu.name (b := .dat (.int least)) ok (by rfl)) (Pu.int) fun s u v _ hu hv => (decide_eq_true h0) ▸ cGt hu hv)
        · rw [if_neg h0]
          exact Pu.ifF ok (Te.cmp (r := false) ok (Pu.name (b := .dat (.int least)) ok (by rfl)) (Pu.int) fun s u v _ hu hv => (decide_eq_false h0) ▸ cGt hu hv) (Pu.name ok (by rfl))
      · refine do_nil ⟨(k.1 ++ [(f, l)], if 0 < least then l else f), ?_, t.sub ⟨by rfl, by rfl, by rfl, by rfl, trivial⟩⟩
        subst hf hl2
        exact hk.snoc hl hr1 hr2
  · refine do_retP ok t (b := .dat (tblD k.1)) (Pu.tcall (id := "tuple") ok (Pu.blt ok (by rfl) (by kernel_rfl) (by kernel_rfl)) (Pa.cons ok (Pu.name (b := .raw (.ref r)) ok (by rfl)) Pa.nil) fun s6 vs t h => ?_) fun s6 v h t => ⟨⟨?_, t.sa, t.j.1⟩, .dat (tblD k.1), ?_, ?_⟩
    · obtain ⟨v, rfl, hv⟩ := Has1 h
      obtain rfl : v = .ref r := hv
      obtain ⟨items, n', l, al⟩ := t.j.2
      have hlen := al.length
      have := sizeLine_eq
      obtain ⟨i0, ⟨hi1, hi2⟩, hn, hbs⟩ := hN
      rw [dats, List.length_map, List.length_map, hk.len, Array.length_toList] at hlen
      refine call_tup l.isList (fun h' g => ⟨g.trans (Grow.push _), ⟨rfl, rfl⟩, ?_⟩) (by omega)
      have e : items.toList.toArray = items := by simp
      have q := (newTup (vs := items.toList) (ds := k.1.map pairD) (fun a e => Nat.lt_of_lt_of_le (t.vok a e) g.size) (al.up g.up)).dat
      rw [e] at q
      exact q
    · exact ⟨fun a o h e => t.up.keep a o (joinV_f h (uno_ne (Nat.ne_of_lt (Nat.lt_of_lt_of_le (Heap.lt_size e) hIr)))) e, t.up.size⟩
    · obtain ⟨i0, ⟨hi1, hi2⟩, hn, hbs⟩ := hN
      exact ⟨k.1, n, k.2, rfl, hk, by omega, by omega⟩
    · exact hasBack h
end Mine
end TW18
section TW19
open PySem PySem.W PyProof.Rows
set_option Elab.async false
namespace Mine
set_option maxRecDepth 100000
def Cx.wi (c : Cx) (ρ : List (PySem.Str × Bnd)) : Cx := { c with ρ := ρ }
theorem Cx.Ok.wi {c : Cx} (ok : c.Ok) (ρ : List (PySem.Str × Bnd)) : (c.wi ρ).Ok := ⟨ok.fn, ok.gb, ok.bi, ok.rm, ok.fw, ok.wv, ok.stab, ok.lc, ok.ap, ok.old, ok.vtab⟩
theorem do_while {c : Cx} (ok : c.Ok) {s : Shared} {test : Expr} {body rest : List Stmt} {pos : Pos} {Q : Flow → Shared → Prop} {κ : Type} (ρf : κ → List (PySem.Str × Bnd)) (K : κ → Prop) (μ : κ → Nat) (k0 : κ) (h0 : K k0) (init : (c.wi (ρf k0)).St s) (b : κ → Bool)
    (tst : ∀ k, K k → Te (c.wi (ρf k)) test (b k))
    (step : ∀ k, K k → b k = true → ∀ s2, (c.wi (ρf k)).Ok → (c.wi (ρf k)).St s2 → Do (c.wi (ρf k)) body (fun f s3 => match f with
        | .next | .cont => ∃ k', μ k' < μ k ∧ K k' ∧ (c.wi (ρf k')).St s3
        | .brk => False
        | .ret v => Q (.ret v) s3) s2)
    (fin : ∀ k, K k → b k = false → ∀ s2, (c.wi (ρf k)).Ok → (c.wi (ρf k)).St s2 → Do (c.wi (ρf k)) rest Q s2) : Do c (.While test body [] pos :: rest) Q s := by
  refine do_cons (PySem.wpAny_While (codeAny_whileLoop (fun m s' => ∃ k, m = μ k ∧ K k ∧ (c.wi (ρf k)).St s') ?_ (μ k0) ⟨k0, rfl, h0, init⟩))
  rintro m s' ⟨k, rfl, hk, t⟩
  refine wpAny_mono (tst k hk s' t) (fun b' s2 ⟨g, a, e⟩ => ?_) (fun _ _ f => f.elim)
  have t2 := t.grow (ok.wi _) g a
  subst e
  cases e : b k with
  | true =>
    rw [if_pos rfl]
    refine wpAny_mono (step k hk e s2 (ok.wi _) t2) (fun f s3 q => ?_) (fun _ _ f => f.elim)
    cases f with
    | next => obtain ⟨k', h1, h2, h3⟩ := q; exact ⟨μ k', h1, k', rfl, h2, h3⟩
    | cont => obtain ⟨k', h1, h2, h3⟩ := q; exact ⟨μ k', h1, k', rfl, h2, h3⟩
    | brk => exact q.elim
    | ret v => exact q
  | false =>
    rw [if_neg Bool.false_ne_true]
    exact wpAny_execs_nil (fin k hk e s2 (ok.wi _) t2)
end Mine
end TW19
section TW20
open PySem PySem.W PyProof.Rows
set_option Elab.async false
namespace Mine
set_option maxRecDepth 100000
noncomputable abbrev fd46 (P : Params) : FuncData := funcOf (Fast.tw9988327834490894416 P)
theorem fn46 (P : Params) : FnOk P 46 (fd46 P) (stmtsOf (fd46 P)) := ⟨⟨_, by rfl, by rfl⟩, by decide, by rfl, by rfl, by rfl, by rfl, by rfl, by rfl, by rfl, ⟨_, _, _, _, by rfl, by decide, by rfl, by rfl, by rfl⟩⟩
/-- the j-th stretch -/
def nth (t : List (Int × Int)) (j : Nat) : Int × Int := t.getD j (0, 0)
theorem nth_is {t : List (Int × Int)} {j : Nat} (h : j < t.length) : nth t j = t[j] := by unfold nth; rw [List.getD_eq_getElem?_getD, List.getElem?_eq_getElem h]; rfl
theorem nth_map {t : List (Int × Int)} {j : Nat} (h : j < t.length) : (t.map pairD)[j]? = some (pairD (nth t j)) := by
  rw [List.getElem?_map, List.getElem?_eq_getElem h, nth_is h]; rfl
theorem hasT_no {n : Int} {t : List (Int × Int)} (h : ∀ j, j < t.length → ¬ ((nth t j).1 ≤ n ∧ n ≤ (nth t j).2)) : hasT n t = false := by
  unfold hasT
  rw [List.any_eq_false]
  intro p hp
  obtain ⟨j, hj, rfl⟩ := List.mem_iff_getElem.mp hp
  have := h j hj
  rw [nth_is hj] at this
  intro q
  unfold hasP at q
  obtain ⟨q1, q2⟩ := Bool.and_eq_true_iff.mp q
  exact this ⟨of_decide_eq_true q1, of_decide_eq_true q2⟩
theorem hasT_yes {n : Int} {t : List (Int × Int)} {j : Nat} (hj : j < t.length) (h : (nth t j).1 ≤ n ∧ n ≤ (nth t j).2) : hasT n t = true := by
  rw [nth_is hj] at h
  exact any_of_take hj (by unfold hasP; rw [decide_eq_true h.1, decide_eq_true h.2]; rfl)
structure Sep (t : List (Int × Int)) : Prop where
  pos : 0 < t.length
  small : t.length ≤ 2 ^ 16
  box : ∀ p ∈ t, p.1 ≤ p.2
  row : t.Pairwise fun p q => p.2 < q.1
theorem Sep.le {t : List (Int × Int)} (x : Sep t) {j : Nat} (hj : j < t.length) : (nth t j).1 ≤ (nth t j).2 := by rw [nth_is hj]; exact x.box _ (List.getElem_mem hj)
theorem Sep.lt {t : List (Int × Int)} (x : Sep t) {i j : Nat} (hij : i < j) (hj : j < t.length) : (nth t i).2 < (nth t j).1 := by
  rw [nth_is hj, nth_is (Nat.lt_trans hij hj)]
  exact List.pairwise_iff_getElem.mp x.row i j (Nat.lt_trans hij hj) hj hij
theorem seqIxI {k : Int} {n : Nat} (h0 : 0 ≤ k) (h1 : k < n) : seqIndex? k n = some k.toNat := by
  have := seqIx (k := k.toNat) (n := n) (by omega)
  rwa [show ((k.toNat : Nat) : Int) = k by omega] at this
section
variable {c : Cx}
theorem Pu.len_tup (ok : c.Ok) {x : PySem.Str} {p pos : Pos} {e : Expr} {ds : List PyData} (hf : Pu c (.Name x p) (.raw (.builtin "len"))) (y : Pd c e (.tuple ds)) (hl : ds.length ≤ 2 ^ 20) (he : starEach [e] c.env = (false, eval e c.env) :: starEach [] c.env := by rfl) :
    Pd c (.Call (.Name x p) [e] [] pos) (.int ds.length) :=
  Pu.bcall ok hf (Pa.cons ok y Pa.nil he) (fun s vs t h => by
    obtain ⟨v, rfl, hv⟩ := Has1 h
    obtain ⟨a, us, q⟩ := Dat.tuple hv
    obtain ⟨rfl, _, l, _, len⟩ := q
    refine PyProof.Rows.len_tuple l (by rw [List.size_toArray]; omega) ⟨Grow.refl, ⟨rfl, rfl⟩, ?_⟩
    rw [List.size_toArray, len]
    exact hasInt ..) he
/-- table[i][j] of a table of pairs -/
theorem Pu.fst (ok : c.Ok) {e i : Expr} {pos pos2 pos3 : Pos} {n : Nat} {t : List (Int × Int)} {k : Int} (x : Pd c e (tblD t)) (y : Pd c i (.int k)) (h0 : 0 ≤ k) (h1 : k < t.length) (h2 : k < 2 ^ 63) (hs : IxForm i) : Pd c (.Subscript (.Subscript e i pos) (.Constant (.int 0) n pos2) pos3) (.int (nth t k.toNat).1) :=
  Pu.sub_tup (ds := [.int (nth t k.toNat).1, .int (nth t k.toNat).2]) ok (Pu.sub_tup ok x y (by omega) h2 (by rw [List.length_map]; exact seqIxI h0 h1) (nth_map (by omega)) hs) Pu.int (by decide) (by decide) (by rfl) (by rfl)
theorem Pu.snd (ok : c.Ok) {e i : Expr} {pos pos2 pos3 : Pos} {n : Nat} {t : List (Int × Int)} {k : Int} (x : Pd c e (tblD t)) (y : Pd c i (.int k)) (h0 : 0 ≤ k) (h1 : k < t.length) (h2 : k < 2 ^ 63) (hs : IxForm i) : Pd c (.Subscript (.Subscript e i pos) (.Constant (.int 1) n pos2) pos3) (.int (nth t k.toNat).2) :=
  Pu.sub_tup (ds := [.int (nth t k.toNat).1, .int (nth t k.toNat).2]) ok (Pu.sub_tup ok x y (by omega) h2 (by rw [List.length_map]; exact seqIxI h0 h1) (nth_map (by omega)) hs) Pu.int (by decide) (by decide) (by rfl) (by rfl)
end
theorem bisFn (w : World) (n : Int) (t : List (Int × Int)) (ht : Sep t) : Fn w 1 46 [.dat (.int n), .dat (tblD t)] (.dat (.int (if hasT n t then 1 else 0))) := by
  refine FnE.of (n := 0) (ns := parNames (fd46 w.params)) (fn46 w.params) (fun vs hv => by
    match vs, hv with
    | [v, u], _ => rfl) (by rfl) (of_decide_eq_true (by rfl)) (by rfl) (fun _ _ => NewStab.triv) fun A V L s s1 _ _ nf _ ok tt => ?_
  have hp := ht.pos
  have hsm := ht.small
  refine do_doc ok tt fun s2 tt => ?_
  refine do_assignP ok tt (b := .dat (.int 0)) Pu.int (.inl (by rfl)) fun s3 ok tt => ?_
  refine do_assignP ok tt (b := .dat (.int ((t.length : Int) - 1))) (by
    refine (?_ : Pd _ _ (.int ((t.length : Int) - 1)))
    rw [← List.length_map (f := pairD)]
    exact Pu.sub ok (Pu.len_tup (ds := t.map pairD) ok (Pu.blt ok (by rfl) (by kernel_rfl) (by kernel_rfl)) (Pu.name ok (by rfl)) (by rw [List.length_map]; omega)) Pu.int) (.inl (by rfl)) fun s4 ok tt => ?_
  refine do_if (b := decide (n < (nth t 0).1) || (decide ((nth t ((t.length : Int) - 1).toNat).2 < n) || false)) ok tt (Ta.te (Ta.or ok (Te.cmp ok (Pu.name ok (by rfl)) (Pu.fst (k := 0) ok (Pu.name ok (by rfl)) Pu.int (by omega) (by omega) (by omega) (by intro _ _ _; with_unfolding_all rfl)) fun s u v _ hu hv => cLt hu hv) (Ta.or ok (Te.cmp ok (Pu.name ok (by rfl)) (Pu.snd (k := (t.length : Int) - 1) ok (Pu.name ok (by rfl)) (Pu.name ok (by rfl)) (by omega) (by omega) (by omega) (by intro _ _ _; with_unfolding_all rfl)) fun s u v _ hu hv => cGt hu hv) Ta.orNil)))
    (fun hb s5 tt => ?_) (fun hb s5 tt => ?_)
  · refine do_retP ok tt Pu.int fun s6 v h tt => ⟨tt.fin, _, ?_, h⟩
    have hno : hasT n t = false := hasT_no fun j hj ⟨q1, q2⟩ => by
      have a1 : (nth t 0).1 ≤ (nth t j).1 := by
        rcases Nat.eq_zero_or_pos j with rfl | hj0
        · exact Int.le_refl _
        · have := ht.lt hj0 hj
          have := ht.le hp
          omega
      have a2 : (nth t j).2 ≤ (nth t ((t.length : Int) - 1).toNat).2 := by
        rcases Nat.lt_or_ge j (t.length - 1) with hj1 | hj1
        · have h2 : ((t.length : Int) - 1).toNat = t.length - 1 := by omega
          rw [h2]
          have := ht.lt (i := j) (j := t.length - 1) hj1 (by omega)
          have := ht.le (j := t.length - 1) (by omega)
          omega
        · have h2 : ((t.length : Int) - 1).toNat = j := by omega
          rw [h2]; exact Int.le_refl _
      rcases Bool.or_eq_true_iff.mp hb with h | h
      · have := of_decide_eq_true h; omega
      · rw [Bool.or_false] at h
        have := of_decide_eq_true h; omega
    rw [hno]; rfl
  refine do_nil ?_
  refine do_while (κ := Int × Int) ok (fun k => [(⟨⟨[108, 98, 111, 117, 110, 100]⟩⟩, .dat (.int k.1)), (⟨⟨[117, 98, 111, 117, 110, 100]⟩⟩, .dat (.int k.2)), (⟨⟨[117, 99, 115]⟩⟩, .dat (.int n)), (⟨⟨[116, 97, 98, 108, 101]⟩⟩, .dat (tblD t))])
    (fun k => 0 ≤ k.1 ∧ k.2 < t.length ∧ -1 ≤ k.2 ∧ k.1 ≤ t.length ∧ ∀ j, j < t.length → ((j : Int) < k.1 → (nth t j).2 < n) ∧ (k.2 < j → n < (nth t j).1)) (fun k => (k.2 + 1 - k.1).toNat) (0, (t.length : Int) - 1)
    ⟨Int.le_refl _, by omega, by omega, by omega, fun j hj => ⟨fun h => by omega, fun h => by omega⟩⟩ (tt.sub ⟨by rfl, by rfl, by rfl, by rfl, trivial⟩) (fun k => decide (k.1 ≤ k.2)) (fun k hk => ?_) (fun k hk hb s6 ok tt => ?_) fun k hk hb s6 ok tt => ?_
  · exact Te.cmp (ok.wi _) (Pu.name (ok.wi _) (by rfl)) (Pu.name (ok.wi _) (by rfl)) fun s u v _ hu hv => cGe hu hv
  · obtain ⟨h1, h2, h3, h4, h5⟩ := hk
    have hb := of_decide_eq_true hb
    have hm1 : k.1 ≤ (k.1 + k.2).fdiv 2 ∧ (k.1 + k.2).fdiv 2 ≤ k.2 := by
      rw [Int.fdiv_eq_ediv_of_nonneg _ (by omega)]; omega
    refine do_assignP ok tt (b := .dat (.int ((k.1 + k.2).fdiv 2))) (Pu.fdiv ok (Pu.add ok (Pu.name ok (by rfl)) (Pu.name ok (by rfl))) Pu.int (by decide) (PyProof.noPylong_small (by decide))) (.inl (by rfl)) fun s7 ok tt => ?_
    generalize (k.1 + k.2).fdiv 2 = m at hm1 ok tt ⊢
    have hml : m.toNat < t.length := by omega
    refine do_if ok tt (Te.cmp ok (Pu.name ok (by rfl)) (Pu.snd (k := m) ok (Pu.name ok (by rfl)) (Pu.name ok (by rfl)) (by omega) (by omega) (by omega) (by intro _ _ _; with_unfolding_all rfl)) fun s u v _ hu hv => cGt hu hv) (fun hc s8 tt => ?_) (fun hc s8 tt => ?_)
    · have hc := of_decide_eq_true hc
      refine do_assignP ok tt (Pu.add ok (Pu.name ok (by rfl)) Pu.int) (.inl (by rfl)) fun s9 ok tt => do_nil (do_nil ⟨(m + 1, k.2), ?_, ⟨?_, h2, h3, ?_, fun j hj => ⟨fun h => ?_, (h5 j hj).2⟩⟩, tt.sub ⟨by rfl, by rfl, by rfl, by rfl, trivial⟩⟩)
      · show (k.2 + 1 - (m + 1)).toNat < (k.2 + 1 - k.1).toNat; omega
      · show 0 ≤ m + 1; omega
      · show m + 1 ≤ _; omega
      · have h : (j : Int) < m + 1 := h
        rcases Nat.lt_or_ge j m.toNat with hj1 | hj1
        · have := ht.lt hj1 hml
          have := ht.le hml
          omega
        · have : j = m.toNat := by omega
          rw [this]; exact hc
    · have hc := of_decide_eq_false hc
      refine do_if ok tt (Te.cmp ok (Pu.name ok (by rfl)) (Pu.fst (k := m) ok (Pu.name ok (by rfl)) (Pu.name ok (by rfl)) (by omega) (by omega) (by omega) (by intro _ _ _; with_unfolding_all rfl)) fun s u v _ hu hv => cLt hu hv) (fun hd s9 tt => ?_) (fun hd s9 tt => ?_)
      · have hd := of_decide_eq_true hd
        refine do_assignP ok tt (Pu.sub ok (Pu.name ok (by rfl)) Pu.int) (.inl (by rfl)) fun s9 ok tt => do_nil (do_nil (do_nil ⟨(k.1, m - 1), ?_, ⟨h1, ?_, ?_, h4, fun j hj => ⟨(h5 j hj).1, fun h => ?_⟩⟩, tt.sub ⟨by rfl, by rfl, by rfl, by rfl, trivial⟩⟩))
        · show (m - 1 + 1 - k.1).toNat < (k.2 + 1 - k.1).toNat; omega
        · show m - 1 < _; omega
        · show -1 ≤ m - 1; omega
        · have h : m - 1 < (j : Int) := h
          rcases Nat.lt_or_ge m.toNat j with hj1 | hj1
          · have := ht.lt hj1 hj
            have := ht.le hml
            omega
          · have : j = m.toNat := by omega
            rw [this]; exact hd
      · have hd := of_decide_eq_false hd
        refine do_retP ok tt Pu.int fun s10 v h tt => ⟨tt.fin, _, ?_, h⟩
        rw [hasT_yes hml ⟨by omega, by omega⟩]; rfl
  · have hb := of_decide_eq_false hb
    refine do_retP ok tt Pu.int fun s7 v h tt => ⟨tt.fin, _, ?_, h⟩
    obtain ⟨h1, h2, h3, h4, h5⟩ := hk
    have hno : hasT n t = false := hasT_no fun j hj ⟨q1, q2⟩ => by
      obtain ⟨a, b⟩ := h5 j hj
      rcases Int.lt_or_le (j : Int) k.1 with q | q
      · have := a q; omega
      · have := b (by omega); omega
    rw [hno]; rfl
end Mine
end TW20
section TW21
open PySem PySem.W PyProof.Rows
set_option Elab.async false
namespace Mine
set_option maxRecDepth 100000
/-- data written out among the module's objects -/
def rdAll (f : Value → Option PyData) : List Value → Option (List PyData)
  | [] => some []
  | v :: r => match f v, rdAll f r with
    | some d, some ds => some (d :: ds)
    | _, _ => none
noncomputable def rdV (P : Params) : Nat → Value → Option PyData
  | _, .int i _ => some (.int i)
  | _, .str x _ => some (.str x)
  | n + 1, .ref a => match (L1 P)[a]? with
    | some ⟨.type T, _, .seq vs _, _⟩ => if T = "tuple" ∧ a ≠ 175 then (rdAll (rdV P n) vs.toList).map .tuple else none
    | _ => none
  | _, _ => none
theorem rdAll_has {P : Params} {V : Vol} {h : Heap} {f : Value → Option PyData} (hf : ∀ v d, f v = some d → Dat V h v d) : ∀ {vs : List Value} {ds : List PyData}, rdAll f vs = some ds → HasAll V h vs (dats ds)
  | [], _, e => by cases e; trivial
  | v :: r, ds, e => by
    rw [rdAll] at e
    cases e1 : f v with
    | none => rw [e1] at e; cases e
    | some d =>
      cases e2 : rdAll f r with
      | none => rw [e1, e2] at e; cases e
      | some ds' =>
        rw [e1, e2] at e
        cases e
        exact ⟨hf v d e1, rdAll_has (P := P) hf e2⟩
theorem rdV_has {P : Params} {V : Vol} {h : Heap} (g : Gl P h) (old : ∀ a, a < 336 → a ≠ 175 → V a = false) : ∀ n v d, rdV P n v = some d → Dat V h v d
  | n, .int i t, d, e => by cases n <;> (cases e; exact hasInt ..)
  | n, .str x t, d, e => by cases n <;> (cases e; exact hasStr ..)
  | 0, .ref _, _, e => by cases e
  | n + 1, .ref a, d, e => by
    rw [rdV] at e
    split at e
    · rename_i T dd vs m sl ho
      split at e
      · rename_i hT
        obtain ⟨rfl, h7⟩ := hT
        cases e2 : rdAll (rdV P n) vs.toList with
        | none => rw [e2] at e; cases e
        | some ds =>
          rw [e2] at e
          cases e
          have al := rdAll_has (P := P) (fun v d => rdV_has g old n v d) e2
          exact (⟨rfl, old a (L1_lt ho) h7, ⟨_, g a _ h7 ho, rfl, m, (by simp)⟩, al, by rw [al.length, List.length_map]⟩ : TupD V h (.ref a) ds a vs.toList).dat
      · cases e
    · cases e
  | n, .none, _, e => by cases n <;> cases e
  | n, .bool _, _, e => by cases n <;> cases e
  | n, .float _ _, _, e => by cases n <;> cases e
  | n, .bytes _ _, _, e => by cases n <;> cases e
  | n, .type _, _, e => by cases n <;> cases e
  | n, .builtin _, _, e => by cases n <;> cases e
  | n, .notImplemented, _, e => by cases n <;> cases e
  | n, .ellipsis, _, e => by cases n <;> cases e
/-- a dict of the module -/
structure IsDct (w : World) (a : Addr) : Prop where
  ne : a ≠ 175
  ob : ∃ o es ep, (L1 w.params)[a]? = some o ∧ o.ExactDict ∧ o.data = .dict es ep ∧ KeysOf (strKind pw w) es ∧ esOf (L1 w.params)[a]? = es
noncomputable def dmap (P : Params) (a : Addr) : PySem.Str → Option Value := findBy Value.isStrOf (esOf (L1 P)[a]?)
theorem IsDct.map {w : World} {a : Addr} (x : IsDct w a) {h : Heap} (g : Gl w.params h) : h.MapOf (strKind pw w) a (dmap w.params a) := by
  obtain ⟨o, es, ep, e1, e2, e3, e4, e5⟩ := x.ob
  exact ⟨o, es, ep, g a o x.ne e1, e2, e3, e4, fun k => by unfold dmap; rw [e5]; rfl⟩
def KeysP (w : World) : List DictEntry → Prop
  | [] => True
  | e :: r => (∃ k t, e.key = .str k t ∧ e.hash = hashStr w k) ∧ KeysP w r
theorem KeysP.of {w : World} : ∀ {l : List DictEntry}, KeysP w l → ∀ e ∈ l, ∃ k, (strKind pw w).is k e.key = true ∧ e.hash = (strKind pw w).hash k
  | _ :: _, ⟨⟨k, t, h1, h2⟩, r⟩, e, he => (List.mem_cons.mp he).elim (fun q => by subst q; exact ⟨k, by rw [h1]; exact beq_self_eq_true k, h2⟩) (KeysP.of r e)
theorem KeysP.keys {w : World} {es : Array DictEntry} (h : KeysP w es.toList) : KeysOf (strKind pw w) es := fun e he => h.of e (by simpa using he)
theorem dct58 (w : World) : IsDct w 58 := ⟨by decide, _, esOf (L1 w.params)[58]?, _, by rfl, ⟨by rfl, by rfl, by rfl⟩, by rfl, KeysP.keys (by exact ⟨⟨_, _, by rfl, by rfl⟩, ⟨_, _, by rfl, by rfl⟩, ⟨_, _, by rfl, by rfl⟩, trivial⟩), rfl⟩
theorem dct62 (w : World) : IsDct w 62 := ⟨by decide, _, esOf (L1 w.params)[62]?, _, by rfl, ⟨by rfl, by rfl, by rfl⟩, by rfl, KeysP.keys (by exact ⟨⟨_, _, by rfl, by rfl⟩, trivial⟩), rfl⟩
theorem dct66 (w : World) : IsDct w 66 := ⟨by decide, _, esOf (L1 w.params)[66]?, _, by rfl, ⟨by rfl, by rfl, by rfl⟩, by rfl, KeysP.keys (by exact ⟨⟨_, _, by rfl, by rfl⟩, trivial⟩), rfl⟩
theorem dct89 (w : World) : IsDct w 89 := ⟨by decide, _, esOf (L1 w.params)[89]?, _, by rfl, ⟨by rfl, by rfl, by rfl⟩, by rfl, KeysP.keys (by exact ⟨⟨_, _, by rfl, by rfl⟩, trivial⟩), rfl⟩
theorem dct100 (w : World) : IsDct w 100 := ⟨by decide, _, esOf (L1 w.params)[100]?, _, by rfl, ⟨by rfl, by rfl, by rfl⟩, by rfl, KeysP.keys (by exact ⟨⟨_, _, by rfl, by rfl⟩, trivial⟩), rfl⟩
theorem dct121 (w : World) : IsDct w 121 := ⟨by decide, _, esOf (L1 w.params)[121]?, _, by rfl, ⟨by rfl, by rfl, by rfl⟩, by rfl, KeysP.keys (by exact ⟨⟨_, _, by rfl, by rfl⟩, ⟨_, _, by rfl, by rfl⟩, ⟨_, _, by rfl, by rfl⟩, trivial⟩), rfl⟩
theorem dct123 (w : World) : IsDct w 123 := ⟨by decide, _, esOf (L1 w.params)[123]?, _, by rfl, ⟨by rfl, by rfl, by rfl⟩, by rfl, KeysP.keys (by exact ⟨⟨_, _, by rfl, by rfl⟩, ⟨_, _, by rfl, by rfl⟩, trivial⟩), rfl⟩
end Mine
end TW21
section TW22
open PySem PySem.W PyProof.Rows
set_option Elab.async false
namespace Mine
set_option maxRecDepth 100000
section
variable {c : Cx}
theorem isStrSelf (x : PySem.Str) (t : Tok) (w : World) : (strKind pw w).is x (.str x t) = true := beq_self_eq_true x
theorem cInD {O : Addr} (hO : IsDct c.w O) (hs : (O == sysModules) = false) {x : PySem.Str} {s : Shared} {u v : Value} (t : c.St s) (hu : Dat c.V s.heap u (.str x)) (hv : Has c.V s.heap v (.raw (.ref O))) : Pv c s (compareOp .In u v) (.dat (.bool (dmap c.w.params O x).isSome)) := by
  obtain ⟨tk, rfl⟩ := Dat.str hu
  obtain rfl : v = .ref O := hv
  exact wpAny_in_of (isStrSelf x tk c.w) hs (hO.map t.gl) ⟨Grow.refl, ⟨rfl, rfl⟩, hasBool ..⟩
abbrev IxFormS (slice : Expr) : Prop := ∀ a k u, subscripted slice false (.ref a) (.str k u) = operate [.ref a, .str k u] (getItem (.ref a) (.str k u))
theorem Pu.sub_dct (ok : c.Ok) {e i : Expr} {pos : Pos} {O : Addr} {x : PySem.Str} {v : Value} (hO : IsDct c.w O) (p : Pu c e (.raw (.ref O))) (q : Pd c i (.str x)) (hv : dmap c.w.params O x = some v) (hs : IxFormS i := by intro _ _ _; with_unfolding_all rfl) : Pu c (.Subscript e i pos) (.raw v) := fun s t => by
  refine Subscript_ (wpAny_mono (p s t) (fun u s1 ⟨g1, a1, h1⟩ => wpAny_mono (q s1 (t.grow ok g1 a1)) (fun k s2 ⟨g2, a2, h2⟩ => ?_) fun _ _ f => f) fun _ _ f => f)
  obtain ⟨tk, rfl⟩ := Dat.str h2
  obtain rfl : u = .ref O := h1
  have m := hO.map ((t.grow ok g1 a1).grow ok g2 a2).gl
  exact tail_any m.typeIs F.slot_dict_getitem.lookup (wpAny_getItem_of (isStrSelf x tk c.w) m hv ⟨g1.trans g2, ⟨(a1.trans a2).gens, (a1.trans a2).os⟩, rfl⟩) (hs _ _ _)
theorem Pu.toDat (ok : c.Ok) {e : Expr} {v : Value} {d : PyData} {n : Nat} (p : Pu c e (.raw v)) (h : rdV c.w.params n v = some d) : Pd c e d := fun s t =>
  wpAny_mono (p s t) (fun u s1 ⟨g1, a1, h1⟩ => by
    obtain rfl : u = v := h1
    exact ⟨g1, a1, rdV_has (t.grow ok g1 a1).gl ok.old n _ _ h⟩) fun _ _ f => f
end
noncomputable abbrev fd330 (P : Params) : FuncData := funcOf (Fast.tw3574234572935368966 P)
theorem fn330 (P : Params) : FnOk P 330 (fd330 P) (stmtsOf (fd330 P)) := ⟨⟨_, by rfl, by rfl⟩, by decide, by rfl, by rfl, by rfl, by rfl, by rfl, by rfl, by rfl, ⟨_, _, _, _, by rfl, by decide, by rfl, by rfl, by rfl⟩⟩
def OfD (w : World) (O : Addr) (name kind : PySem.Str) (d : PyData) : Prop :=
  (dmap w.params O name = none ∧ d = .tuple []) ∨ ∃ b, dmap w.params O name = some (.ref b) ∧ IsDct w b ∧ (b == sysModules) = false ∧ ((dmap w.params b kind = none ∧ d = .tuple []) ∨ ∃ v, dmap w.params b kind = some v ∧ rdV w.params 4 v = some d)
theorem lawOfFn (w : World) (O : Addr) (hO : IsDct w O) (hs : (O == sysModules) = false) (name kind : PySem.Str) (d : PyData) (h : OfD w O name kind d) : Fn w 1 330 [.raw (.ref O), .dat (.str name), .dat (.str kind)] (.dat d) := by
  refine FnE.of (n := 0) (ns := parNames (fd330 w.params)) (fn330 w.params) (fun vs hv => by
    match vs, hv with
    | [v, u, k], _ => rfl) (by rfl) (of_decide_eq_true (by rfl)) (by rfl) (fun _ _ => NewStab.triv) fun A V L s s1 _ _ nf _ ok tt => ?_
  have empty : ∀ {k p}, Pd (cxOf 0 w A V noX (fd330 w.params) 330 L ((parNames (fd330 w.params)).zip [.raw (.ref O), .dat (.str name), .dat (.str kind)]) s noJ) (.Tuple [] k p) (.tuple []) := Pu.tup ok (ds := []) Pa.nil (by decide)
  have inO : ∀ {p1 p2 p3}, Te (cxOf 0 w A V noX (fd330 w.params) 330 L ((parNames (fd330 w.params)).zip [.raw (.ref O), .dat (.str name), .dat (.str kind)]) s noJ) (.Compare (.Name ⟨⟨[110, 97, 109, 101]⟩⟩ p1) [.In] [.Name ⟨⟨[111, 118, 101, 114, 114, 105, 100, 101, 115]⟩⟩ p2] p3) (dmap w.params O name).isSome :=
    Te.cmp ok (Pu.name (b := .dat (.str name)) ok (by rfl)) (Pu.name (b := .raw (.ref O)) ok (by rfl)) fun s u v t hu hv => cInD hO hs t hu hv
  rcases h with ⟨h1, rfl⟩ | ⟨b, h1, hb, hbs, h2⟩
  · rw [h1] at inO
    exact do_retP ok tt (Pu.ifF ok (Ta.te (Ta.andF inO)) empty) fun s2 v h t => ⟨t.fin, _, rfl, h⟩
  · rw [h1] at inO
    have sub : ∀ {p1 p2 p3}, Pu (cxOf 0 w A V noX (fd330 w.params) 330 L ((parNames (fd330 w.params)).zip [.raw (.ref O), .dat (.str name), .dat (.str kind)]) s noJ) (.Subscript (.Name ⟨⟨[111, 118, 101, 114, 114, 105, 100, 101, 115]⟩⟩ p1) (.Name ⟨⟨[110, 97, 109, 101]⟩⟩ p2) p3) (.raw (.ref b)) :=
      Pu.sub_dct ok hO (Pu.name ok (by rfl)) (Pu.name (b := .dat (.str name)) ok (by rfl)) h1
    have inB : ∀ {p0 p1 p2 p3 p4}, Te (cxOf 0 w A V noX (fd330 w.params) 330 L ((parNames (fd330 w.params)).zip [.raw (.ref O), .dat (.str name), .dat (.str kind)]) s noJ) (.Compare (.Name ⟨⟨[107, 105, 110, 100]⟩⟩ p0) [.In] [.Subscript (.Name ⟨⟨[111, 118, 101, 114, 114, 105, 100, 101, 115]⟩⟩ p1) (.Name ⟨⟨[110, 97, 109, 101]⟩⟩ p2) p3] p4) (dmap w.params b kind).isSome :=
      Te.cmp ok (Pu.name (b := .dat (.str kind)) ok (by rfl)) sub fun s u v t hu hv => cInD hb hbs t hu hv
    rcases h2 with ⟨h3, rfl⟩ | ⟨v, h3, h4⟩
    · rw [h3] at inB
      exact do_retP ok tt (Pu.ifF ok (Ta.te (Ta.andT ok inO (Ta.andF inB))) empty) fun s2 v h t => ⟨t.fin, _, rfl, h⟩
    · rw [h3] at inB
      exact do_retP ok tt (Pu.ifT ok (Ta.te (Ta.andT ok inO (Ta.andT ok inB Ta.andNil))) (Pu.toDat ok (Pu.sub_dct ok hb sub (Pu.name (b := .dat (.str kind)) ok (by rfl)) h3) h4)) fun s2 v h t => ⟨t.fin, _, rfl, h⟩
end Mine
end TW22
section TW23
open PySem PySem.W PyProof.Rows
set_option Elab.async false
namespace Mine
set_option maxRecDepth 100000
theorem setD_ok (P : Params) (x1 x2 x3 : PySem.Str) (t : Nat) : TabOk (setD P x1 x2 x3 t).1 (setD P x1 x2 x3 t).2 ∧ (setD P x1 x2 x3 t).1.toList.Perm [(PyData.keyHash P x3, .str x3 (t + 2)), (PyData.keyHash P x2, .str x2 (t + 1)), (PyData.keyHash P x1, .str x1 t)] := by
  have o0 := setD0_ok P
  obtain ⟨o1, p1⟩ := addS_ok (P := P) o0 x1 t
  obtain ⟨o2, p2⟩ := addS_ok (P := P) o1 x2 (t + 1)
  obtain ⟨o3, p3⟩ := addS_ok (P := P) o2 x3 (t + 2)
  exact ⟨o3, p3.trans (.cons _ (p2.trans (.cons _ p1)))⟩
def isKnown (x : PySem.Str) : Bool := x == x1 || x == x2 || x == x3
theorem fits_of {es : Array (Int × Value)} {t : SetTable} (o : TabOk es t) (hz : es.size = 3) : ({ t with led := false } : SetTable).fits es.size = true := by
  have hp : t.place.size = 3 := o.size.trans hz
  have hf : t.fill = 3 := o.fill.trans hz
  have hm := o.mask
  rw [hz]
  show (t.place.size == 3 && decide (t.fill ≤ t.mask)) = true
  rw [hp, hf, decide_eq_true (show 3 ≤ t.mask by omega)]
  rfl
theorem setP_of {w : World} {h : Heap} (g : Gl w.params h) : h.SetOf (strKind pw w) 122 isKnown 3 := by
  obtain ⟨o, p⟩ := setD_ok w.params x1 x2 x3 503
  have hz : (setD w.params x1 x2 x3 503).1.size = 3 := by rw [← Array.length_toList, p.length_eq]; rfl
  have mem : ∀ e, e ∈ (setD w.params x1 x2 x3 503).1.toList ↔ e = (PyData.keyHash w.params x3, .str x3 505) ∨ e = (PyData.keyHash w.params x2, .str x2 504) ∨ e = (PyData.keyHash w.params x1, .str x1 503) := fun e => by
    rw [p.mem_iff]; simp
  refine ⟨setP w.params, (setD w.params x1 x2 x3 503).1, 4, { (setD w.params x1 x2 x3 503).2 with led := false }, g 122 _ (by decide) (by rfl), ⟨rfl, rfl, rfl⟩, rfl, fun e he => ?_, fun k => ?_, by rw [hz]; decide, ?_, hz⟩
  · rcases (mem e).mp he with rfl | rfl | rfl
    · exact ⟨⟨x3, beq_self_eq_true x3, rfl⟩, rfl⟩
    · exact ⟨⟨x2, beq_self_eq_true x2, rfl⟩, rfl⟩
    · exact ⟨⟨x1, beq_self_eq_true x1, rfl⟩, rfl⟩
  · unfold isKnown
    constructor
    · intro q
      rcases Bool.or_eq_true_iff.mp q with q | q
      · rcases Bool.or_eq_true_iff.mp q with q | q
        · exact ⟨_, (mem _).mpr (.inr (.inr rfl)), by rw [beq_iff_eq.mp q]; exact beq_self_eq_true x1⟩
        · exact ⟨_, (mem _).mpr (.inr (.inl rfl)), by rw [beq_iff_eq.mp q]; exact beq_self_eq_true x2⟩
      · exact ⟨_, (mem _).mpr (.inl rfl), by rw [beq_iff_eq.mp q]; exact beq_self_eq_true x3⟩
    · rintro ⟨e, he, hk⟩
      have hk : Value.isStrOf k e.2 = true := hk
      obtain ⟨t, ht⟩ := Value.isStrOf_shape hk
      rcases (mem e).mp he with rfl | rfl | rfl
      · have e : x3 = k := (Value.str.inj ht).1
        rw [← e, beq_self_eq_true, Bool.or_true]
      · have e : x2 = k := (Value.str.inj ht).1
        rw [← e, beq_self_eq_true, Bool.or_true, Bool.true_or]
      · have e : x1 = k := (Value.str.inj ht).1
        rw [← e, beq_self_eq_true, Bool.true_or, Bool.true_or]
  · exact fits_of o hz
noncomputable abbrev fd278 (P : Params) : FuncData := funcOf (Fast.tw10276509397454587181 P)
theorem fn278 (P : Params) : FnOk P 278 (fd278 P) (stmtsOf (fd278 P)) := ⟨⟨_, by rfl, by rfl⟩, by decide, by rfl, by rfl, by rfl, by rfl, by rfl, by rfl, by rfl, ⟨_, _, _, _, by rfl, by decide, by rfl, by rfl, by rfl⟩⟩
/-- what a name leads to -/
noncomputable def canonOf (P : Params) (x : PySem.Str) : PySem.Str := match dmap P 123 (Txt.lower (Txt.strip x)) with | some (.str y _) => y | _ => Txt.lower (Txt.strip x)
noncomputable def resD (P : Params) (x : PySem.Str) : PyData := if x.length = 0 then .none else if isKnown (canonOf P x) then .str (canonOf P x) else .none
end Mine
end TW23
section TW24
open PySem PySem.W PyProof.Rows
set_option Elab.async false
namespace Mine
set_option maxRecDepth 100000
section
variable {c : Cx}
theorem Pu.strip (ok : c.Ok) {e : Expr} {x : PySem.Str} {p pos : Pos} (y : Pd c e (.str x)) (hl : x.length ≤ 2 ^ 16) (hb : attributeBase e ⟨⟨[115, 116, 114, 105, 112]⟩⟩ c.env (eval e c.env) = eval e c.env := by rfl) (hline : (p.endLine == pos.line) = true := by rfl) :
    Pd c (.Call (.Attribute e ⟨⟨[115, 116, 114, 105, 112]⟩⟩ p) [] [] pos) (.str (Txt.strip x)) := fun s t => by
  refine PySem.Call_method0 hb hline (wpAny_mono (y s t) (fun v s1 ⟨g, a, h⟩ => ?_) fun _ _ f => f)
  obtain ⟨tk, rfl⟩ := Dat.str h
  have := sizeLine_eq
  exact SB.strip (fun t' k => ⟨g, ⟨a.gens, a.os⟩, hasStr ..⟩) (by omega)
theorem Pu.lower (ok : c.Ok) {e : Expr} {x : PySem.Str} {p pos : Pos} (y : Pd c e (.str x)) (hl : (Txt.lower x).length ≤ 2 ^ 16) (hb : attributeBase e ⟨⟨[108, 111, 119, 101, 114]⟩⟩ c.env (eval e c.env) = eval e c.env := by rfl) (hline : (p.endLine == pos.line) = true := by rfl) :
    Pd c (.Call (.Attribute e ⟨⟨[108, 111, 119, 101, 114]⟩⟩ p) [] [] pos) (.str (Txt.lower x)) := fun s t => by
  refine PySem.Call_method0 hb hline (wpAny_mono (y s t) (fun v s1 ⟨g, a, h⟩ => ?_) fun _ _ f => f)
  obtain ⟨tk, rfl⟩ := Dat.str h
  exact SB.lower (by unfold Builtin.Str.tooLong; have := sizeLine_eq; exact decide_eq_false (by omega)) ⟨g, ⟨a.gens, a.os⟩, hasStr ..⟩
theorem Pu.upper (ok : c.Ok) {e : Expr} {x : PySem.Str} {p pos : Pos} (y : Pd c e (.str x)) (hl : (Txt.upper x).length ≤ 2 ^ 16) (hb : attributeBase e ⟨⟨[117, 112, 112, 101, 114]⟩⟩ c.env (eval e c.env) = eval e c.env := by rfl) (hline : (p.endLine == pos.line) = true := by rfl) :
    Pd c (.Call (.Attribute e ⟨⟨[117, 112, 112, 101, 114]⟩⟩ p) [] [] pos) (.str (Txt.upper x)) := fun s t => by
  refine PySem.Call_method0 hb hline (wpAny_mono (y s t) (fun v s1 ⟨g, a, h⟩ => ?_) fun _ _ f => f)
  obtain ⟨tk, rfl⟩ := Dat.str h
  exact SB.upper (by unfold Builtin.Str.tooLong; have := sizeLine_eq; exact decide_eq_false (by omega)) ⟨g, ⟨a.gens, a.os⟩, hasStr ..⟩
/-- d.get(k, e) of a dict of the module -/
theorem Pu.get (ok : c.Ok) {e e1 e2 : Expr} {O : Addr} {x : PySem.Str} {b b' : Bnd} {p pos : Pos} (hO : IsDct c.w O) (hs : (O == sysModules) = false) (y : Pu c e (.raw (.ref O))) (y1 : Pd c e1 (.str x)) (y2 : Pu c e2 b)
    (hv : ∀ s u, c.St s → Has c.V s.heap u b → Has c.V s.heap ((dmap c.w.params O x).getD u) b') (hb : attributeBase e ⟨⟨[103, 101, 116]⟩⟩ c.env (eval e c.env) = eval e c.env := by rfl) (hline : (p.endLine == pos.line) = true := by rfl)
    (hst : starEach [e1, e2] c.env = [(false, eval e1 c.env), (false, eval e2 c.env)] := by rfl) : Pu c (.Call (.Attribute e ⟨⟨[103, 101, 116]⟩⟩ p) [e1, e2] [] pos) b' := fun s t => by
  refine PySem.Call_method2 hb hst hline (wpAny_mono (y s t) (fun v s1 ⟨g, a, h⟩ => ?_) fun _ _ f => f)
  obtain rfl : v = .ref O := h
  have t1 := t.grow ok g a
  have m := hO.map t1.gl
  refine ⟨"dict", "dict.get", F.plainAttrs_dict, F.slot_dict_get, F.type_dict_get, m.typeIs, m.noDict, wpAny_dict_get2 (knd := strKind pw c.w) hs (wpAny_mono (y1 s1 t1) (fun k s2 ⟨g2, a2, h2⟩ => wpAny_mono (y2 s2 (t1.grow ok g2 a2)) (fun u s3 ⟨g3, a3, h3⟩ => ?_) fun _ _ f => f) fun _ _ f => f)⟩
  obtain ⟨tk, rfl⟩ := Dat.str h2
  have t3 := (t1.grow ok g2 a2).grow ok g3 a3
  exact ⟨x, dmap c.w.params O, isStrSelf x tk c.w, hO.map t3.gl, (g.trans g2).trans g3, ⟨((a.trans a2).trans a3).gens, ((a.trans a2).trans a3).os⟩, hv s3 u t3 h3⟩
theorem cNotInP (_ok : c.Ok) {x : PySem.Str} {s : Shared} {u v : Value} (t : c.St s) (hu : Dat c.V s.heap u (.str x)) (hv : Has c.V s.heap v (.raw (.ref 122))) : Pv c s (compareOp .NotIn u v) (.dat (.bool (!isKnown x))) := by
  obtain ⟨tk, rfl⟩ := Dat.str hu
  obtain rfl : v = .ref 122 := hv
  exact wpAny_notInSet_of (isStrSelf x tk c.w) rfl (setP_of t.gl) ⟨Grow.refl, ⟨rfl, rfl⟩, hasBool ..⟩
end
theorem alias_cases (P : Params) (k : PySem.Str) : dmap P 123 k = none ∨ ∃ y t, dmap P 123 k = some (.str y t) := by
  unfold dmap findBy
  cases h : (esOf (L1 P)[123]?).find? fun e => Value.isStrOf k e.key with
  | none => exact .inl rfl
  | some e =>
    have he := Array.mem_of_find?_eq_some h
    have he : e ∈ (esOf (L1 P)[123]?).toList := by simpa using he
    right
    rcases List.mem_cons.mp he with rfl | he
    · exact ⟨_, _, rfl⟩
    · rcases List.mem_cons.mp he with rfl | he
      · exact ⟨_, _, rfl⟩
      · cases he
theorem bind278 {w : World} {A : Around} {s : Shared} {v : Value} (g : Gl w.params s.heap) : wpAny (model pw w) A (bindArgs (fd278 w.params) ⟨[v], []⟩) (fun b s' => b = (parNames (fd278 w.params)).zip [v] ∧ s' = s) (fun _ _ => False) s := by
  show wpAny _ _ (seqItems? (.ref 271) >>= _) _ _ s
  refine wpAny_bind (wpAny_seqItems (g 271 _ (by decide) (by rfl)) (by rfl) ?_)
  exact wpAny_pure ⟨rfl, rfl⟩
theorem resNone (w : World) (d : PyData) (hd : smallD d = true) (h0 : truthD d = false) : Fn w 1 278 [.dat d] (.dat .none) := by
  refine FnE.ofW (n := 0) (ns := parNames (fd278 w.params)) (fn278 w.params) (fun A s vs g hv => by
    match vs, hv with
    | [v], _ => exact bind278 g) (by rfl) (of_decide_eq_true (by rfl)) (by rfl) (fun _ _ => NewStab.triv) fun A V L s s1 _ _ nf _ ok tt => ?_
  refine do_doc ok tt fun s2 tt => ?_
  refine do_if ok tt (Te.not (Te.plain ok (Pu.name ok (by rfl)) hd)) (fun hb s3 tt => ?_) (fun hb s3 tt => ?_)
  · exact do_retP ok tt Pu.none fun s4 v h tt => ⟨tt.fin, _, rfl, h⟩
  · rw [h0] at hb; cases hb
theorem resFn (w : World) (x : PySem.Str) (h0 : x.length ≠ 0) (h1 : x.length ≤ 2 ^ 16) (h2 : (Txt.lower (Txt.strip x)).length ≤ 2 ^ 16) : Fn w 1 278 [.dat (.str x)] (.dat (if isKnown (canonOf w.params x) then .str (canonOf w.params x) else .none)) := by
  refine FnE.ofW (n := 0) (ns := parNames (fd278 w.params)) (fn278 w.params) (fun A s vs g hv => by
    match vs, hv with
    | [v], _ => exact bind278 g) (by rfl) (of_decide_eq_true (by rfl)) (by rfl) (fun _ _ => NewStab.triv) fun A V L s s1 _ _ nf _ ok tt => ?_
  refine do_doc ok tt fun s2 tt => ?_
  refine do_if ok tt (Te.not (Te.plain ok (Pu.name (b := .dat (.str x)) ok (by rfl)) (decide_eq_true (by omega)))) (fun hb s3 tt => ?_) (fun hb s3 tt => ?_)
  · have : truthD (.str x) = true := bne_iff_ne.mpr h0
    rw [this] at hb; cases hb
  refine do_nil ?_
  refine do_assignP ok tt (Pu.lower ok (Pu.strip ok (Pu.name (b := .dat (.str x)) ok (by rfl)) h1) h2) (.inl (by rfl)) fun s4 ok tt => ?_
  refine do_assignP ok tt (b := .dat (.str (canonOf w.params x))) (Pu.get (O := 123) (b := .dat (.str (Txt.lower (Txt.strip x)))) ok (dct123 w) (by decide) (Pu.glob ok (by rfl) (by kernel_rfl)) (Pu.name ok (by rfl)) (Pu.name ok (by rfl)) fun s u t hu => ?_) (.inl (by rfl)) fun s5 ok tt => ?_
  · show Has _ _ ((dmap w.params 123 (Txt.lower (Txt.strip x))).getD u) _
    unfold canonOf
    rcases alias_cases w.params (Txt.lower (Txt.strip x)) with e | ⟨y, t, e⟩
    · rw [e]; exact hu
    · rw [e]; exact hasStr ..
  refine do_if ok tt (Te.cmp ok (Pu.name (b := .dat (.str (canonOf w.params x))) ok (by rfl)) (Pu.glob (v := .ref 122) ok (by rfl) (by kernel_rfl)) fun s u v t hu hv => cNotInP ok t hu hv) (fun hb s6 tt => ?_) (fun hb s6 tt => ?_)
  · refine do_retP ok tt Pu.none fun s7 v h tt => ⟨tt.fin, _, ?_, h⟩
    rw [show isKnown (canonOf w.params x) = false by simpa using hb]; rfl
  · refine do_nil (do_retP ok tt (Pu.name ok (by rfl)) fun s7 v h tt => ⟨tt.fin, _, ?_, h⟩)
    rw [show isKnown (canonOf w.params x) = true by simpa using hb]; rfl
end Mine
end TW24
section TW25
open PySem PySem.W PyProof.Rows
set_option Elab.async false
namespace Mine
set_option maxRecDepth 100000
/-- two places -/
def tri (I D C : Addr) : Vol := fun a => a == I || a == D || a == C
theorem tri_cases {I D C a : Addr} (h : tri I D C a = true) : a = I ∨ a = D ∨ a = C := by
  unfold tri at h
  rcases Bool.or_eq_true_iff.mp h with h | h
  · rcases Bool.or_eq_true_iff.mp h with h | h
    · exact .inl (by simpa using h)
    · exact .inr (.inl (by simpa using h))
  · exact .inr (.inr (by simpa using h))
theorem tri_new {I D C a : Addr} {n : Nat} (hI : n ≤ I) (hD : n ≤ D) (hC : n ≤ C) (ha : a < n) : tri I D C a = false := by
  cases e : tri I D C a
  · rfl
  · rcases tri_cases e with rfl | rfl | rfl
    · exact absurd ha (Nat.not_lt.mpr hI)
    · exact absurd ha (Nat.not_lt.mpr hD)
    · exact absurd ha (Nat.not_lt.mpr hC)
/-- what a comprehension's inside sees -/
def Cx.inner (c : Cx) (scope : Scope) (cl : List (PySem.Str × Addr)) (I D C : Addr) (ρ : List (PySem.Str × Bnd)) (J : Heap → Prop) : Cx :=
  { c with V := joinV c.V (tri I D C), W := joinV c.W (tri I D C), env := compEnvC scope cl C c.env, ρ := ρ, J := J }
/-- a name that the inside takes from outside -/
def Cap (c : Cx) (scope : Scope) (cl : List (PySem.Str × Addr)) : List (PySem.Str × Bnd) → Prop
  | [] => True
  | (y, b) :: r => (c.ρ.lookup y = some b ∧ (c.env.kindOf y = some .cell ∨ c.env.kindOf y = some .free) ∧ ((compEnvC scope cl 0 c.env).kindOf y = some .cell ∨ (compEnvC scope cl 0 c.env).kindOf y = some .free) ∧ cl.lookup y = c.env.cells.lookup y) ∧ Cap c scope cl r
theorem Cap.get {c : Cx} {scope : Scope} {cl : List (PySem.Str × Addr)} : ∀ {ρ : List (PySem.Str × Bnd)} {y : PySem.Str} {b : Bnd}, Cap c scope cl ρ → ρ.lookup y = some b →
    c.ρ.lookup y = some b ∧ (c.env.kindOf y = some .cell ∨ c.env.kindOf y = some .free) ∧ ((compEnvC scope cl 0 c.env).kindOf y = some .cell ∨ (compEnvC scope cl 0 c.env).kindOf y = some .free) ∧ cl.lookup y = c.env.cells.lookup y
  | (z, b') :: r, y, b, ⟨h, k⟩, e => by
    rw [List.lookup_cons] at e
    cases hz : y == z with
    | true => rw [hz] at e; cases e; rw [beq_iff_eq.mp hz]; exact h
    | false => rw [hz] at e; exact Cap.get k e
theorem Cx.Ok.inner {c : Cx} (ok : c.Ok) {scope : Scope} {cl : List (PySem.Str × Addr)} {I D C : Addr} {ρ : List (PySem.Str × Bnd)} {J : Heap → Prop} (hk : scope.kind = .function) (hI : 336 ≤ I) (hD : 336 ≤ D) (hC : 336 ≤ C)
    (hcl : ∀ y d, cl.lookup y = some d → c.env.cells.lookup y = some d) (hCn : ∀ a, c.V a = true → a ≠ C)
    (st : ∀ h h', Up (Mine.own (compEnvC scope cl C c.env)) h h' → J h → J h') : (c.inner scope cl I D C ρ J).Ok := by
  have fr : ∀ a, frm (compEnvC scope cl C c.env) a = true → a = C ∨ frm c.env a = true := fun a e => by
    rcases frm_cases e with e | ⟨x, e⟩
    · exact .inl e
    · exact .inr (frm_cell (hcl x a e))
  refine ⟨?_, ok.gb, ok.bi, ok.rm, fun a e => ?_, fun a e => ?_, st, fun x d e => ?_, fun x y d e1 e2 => ok.ap x y d (hcl x d e1) (hcl y d e2), fun a h1 h2 => joinV_f (ok.old a h1 h2) (tri_new hI hD hC h1), joinV_l ok.vtab⟩
  · show (relabel scope c.env).kind = .function
    unfold relabel; exact hk
  · rcases fr a e with rfl | e
    · exact joinV_r (by unfold tri; simp)
    · exact joinV_l (ok.fw a e)
  · exact (Bool.or_eq_true_iff.mp e).elim (fun e => joinV_l (ok.wv a e)) fun e => joinV_r e
  · exact hCn d (ok.wv d (ok.fw d (frm_cell (hcl x d e))))
end Mine
end TW25
section TW26
open PySem PySem.W PyProof.Rows
set_option Elab.async false
namespace Mine
set_option maxRecDepth 100000
/-- a comprehension's tests -/
def ifsTree (ifs : List Expr) (env : Env) : Sem Bool := forIn ifs true fun c r => if r = true then do let ok ← isTrue c env (eval c env); Pure.pure (ForInStep.yield ok) else Pure.pure (ForInStep.yield r)
def Tests (c : Cx) (ifs : List Expr) (b : Bool) : Prop := ∀ s, c.St s → wpAny (model pw c.w) c.A (ifsTree ifs c.env) (fun b' s' => Grow s.heap s'.heap ∧ Sa s s' ∧ b' = b) (fun _ _ => False) s
theorem Tests.nil {c : Cx} : Tests c [] true := fun s _ => wpAny_tests_nil ⟨Grow.refl, Sa.refl, rfl⟩
theorem Tests.one {c : Cx} {e : Expr} {b : Bool} (x : Te c e b) : Tests c [e] b := fun s t => wpAny_tests_one (x s t)
def RowP (V : Vol) (r : Addr) (ds : List PyData) (h : Heap) : Prop := ∃ items, PlainL h r items ∧ HasAll V h items.toList (dats ds)
theorem RowP.up {V F : Vol} {r : Addr} {ds : List PyData} {h h' : Heap} (x : RowP V r ds h) (u : Up F h h') (hr : F r = false) (hF : ∀ a, F a = true → V a = true) : RowP V r ds h' :=
  let ⟨items, ⟨o, n, e, q⟩, al⟩ := x; ⟨items, ⟨o, n, u.keep _ _ hr e, q⟩, al.up (u.le hF)⟩
/-- the outer frame's facts, kept for the end -/
def OutF (c : Cx) (T : Vol) (h₁ h : Heap) : Prop := Up (joinV c.V T) h₁ h ∧ ∃ m cm, Fra (joinV c.V T) c.env c.ρ h m cm
theorem Fra.up {V F : Vol} {env : Env} {ρ : List (PySem.Str × Bnd)} {h h' : Heap} {m cm : PySem.Str → Option Value} (f : Fra V env ρ h m cm) (u : Up F h h') (hf : ∀ a, F a = true → frm env a = false) (hF : ∀ a, F a = true → V a = true) : Fra V env ρ h' m cm :=
  have nf : ∀ {p}, frm env p = true → F p = false := fun {p} h => by
    cases e : F p
    · rfl
    · rw [hf p e] at h; cases h
  ⟨(let ⟨o, es, ep, e, r⟩ := f.ns; ⟨o, es, ep, u.keep _ _ (nf (frm_locals _)) e, r⟩), fun n d e => let ⟨o, p, r⟩ := f.cell n d e; ⟨o, u.keep _ _ (nf (frm_cell e)) p, r⟩, fun y b e => let ⟨v, l, q⟩ := f.nm y b e; ⟨v, l, q.up (u.le hF)⟩⟩
theorem OutF.up {c : Cx} {T F : Vol} {h₁ h h' : Heap} (x : OutF c T h₁ h) (u : Up F h h') (hf : ∀ a, F a = true → frm c.env a = false) (hF : ∀ a, F a = true → joinV c.V T a = true) : OutF c T h₁ h' :=
  let ⟨w, m, cm, f⟩ := x; ⟨w.trans (u.le hF), m, cm, f.up u hf hF⟩
/-- what stands while a comprehension goes -/
structure CompJ (c : Cx) (I D C : Addr) (h₁ : Heap) (K : Nat → Heap → Prop) (i : Nat) (ys : List PyData) (h : Heap) : Prop where
  j : c.J h
  k : K i h
  row : RowP (joinV c.V (tri I D C)) D ys h
  out : OutF c (tri I D C) h₁ h
/-- all that is new, hidden too -/
def fresh (V : Vol) (h : Heap) : Vol := fun a => V a || decide (h.objs.size ≤ a)
theorem fresh_l {V : Vol} {h : Heap} {a : Addr} (e : V a = true) : fresh V h a = true := by unfold fresh; rw [e]; rfl
theorem fresh_no {V : Vol} {h : Heap} {a : Addr} (e : fresh V h a = false) : V a = false ∧ a < h.objs.size := by
  obtain ⟨e1, e2⟩ := Bool.or_eq_false_iff.mp e
  exact ⟨e1, Nat.lt_of_not_le (of_decide_eq_false e2)⟩
theorem Cx.St.mv {c : Cx} (ok : c.Ok) {s s' : Shared} (t : c.St s) {X : Vol} {J' : Heap → Prop} (u : Up X s.heap s'.heap) (a : Sa s s') (xw : ∀ a, X a = true → c.W a = true) (xf : ∀ a, X a = true → frm c.env a = false) (j : J' s'.heap) : ({ c with J := J' } : Cx).St s' :=
  have uW : Up c.W s.heap s'.heap := u.le xw
  have uV : Up c.V s.heap s'.heap := u.le fun a h => ok.wv a (xw a h)
  ⟨fun i o n e => uV.keep _ _ (ok.old i (L1_lt e) n) (t.gl i o n e), fun b e => Nat.lt_of_lt_of_le (t.vok b e) u.size,
    let ⟨m, cm, f⟩ := t.fr; ⟨m, cm, f.up u xf fun a h => ok.wv a (xw a h)⟩, t.up.trans uW, t.sa.trans a, j⟩
abbrev Cx.cj (c : Cx) (scope : Scope) (cl : List (PySem.Str × Addr)) (I D C : Addr) (ρ : List (PySem.Str × Bnd)) (h₁ : Heap) (K : Nat → Heap → Prop) (i : Nat) (ys : List PyData) : Cx := c.inner scope cl I D C ρ (CompJ c I D C h₁ K i ys)
theorem Ex.comp {c : Cx} (ok : c.Ok) {elt iter : Expr} {x : PySem.Str} {px pos : Pos} {ifs : List Expr} {scope : Scope} {cl : List (PySem.Str × Addr)} {N : Nat → (Nat → Bnd) → Prop}
    (hclos : closureFor scope c.env = Pure.pure cl) (hcell : ∀ y ∈ scope.names, y.2 ≠ .cell) (hkind : scope.kind = .function) (hnames : ∀ y ∈ scope.names, y.2 = .local → scope.names.lookup y.1 = some .local) (hx : scope.names.lookup x = some .local)
    (hcl : ∀ y d, cl.lookup y = some d → c.env.cells.lookup y = some d) (hfm : c.env.frame = some c.env.locals)
    (hit : ∀ s, c.St s → wpAny (model pw c.w) c.A (eval iter c.env) (fun v s1 => Up c.V s.heap s1.heap ∧ c.St s1 ∧ ∃ n bs, N n bs ∧ n ≤ 2 ^ 20 ∧ Itb c.w c.A (fresh c.V s1.heap) s1 v n bs) (fun _ _ => False) s)
    (ρi : List (PySem.Str × Bnd)) (cap : Cap c scope cl ρi) (hρ : ∀ b, Sub ρi ((x, b) :: ρi)) (Kd : Nat → List PyData → Prop) (h0 : Kd 0 []) (hlen : ∀ i ys, Kd i ys → ys.length ≤ i) (jmx : ∀ s, c.St s → ∀ F h h', (∀ a, F a = true → s.heap.objs.size ≤ a) → Up F h h' → c.J h → c.J h')
    (step : ∀ n bs I D C h₁ K i ys s1, c.St s1 → N n bs → i < n → Kd i ys → Wk c.w c.A (fresh c.V s1.heap) I n bs K → s1.heap.objs.size ≤ I → s1.heap.objs.size ≤ D → s1.heap.objs.size ≤ C → (∀ a, c.V a = true → tri I D C a = false) → (∀ a, own (compEnvC scope cl C c.env) a = true → a = C) →
      (c.cj scope cl I D C ((x, bs i) :: ρi) h₁ K (i + 1) ys).Ok →
      ∃ b, Tests (c.cj scope cl I D C ((x, bs i) :: ρi) h₁ K (i + 1) ys) ifs b ∧
        if b = true then Ex (c.cj scope cl I D C ((x, bs i) :: ρi) h₁ K (i + 1) ys) elt (fun b => ∃ d, b = .dat d ∧ Kd (i + 1) (ys ++ [d])) else Kd (i + 1) ys)
    (hs : ∀ x, foldedSetIterable iter c.env x = Pure.pure x := by intro _; rfl) :
    Ex c (.ListComp elt [⟨.Name x px, iter, ifs, 0⟩] scope pos) (fun b => ∃ n bs ys, N n bs ∧ Kd n ys ∧ b = .dat (.list ys)) := fun s t => by
  rw [Ev, eval_ListComp]
  refine wpAny_comprehension_free (use := none) rfl hs hclos hkind hnames (wpAny_mono (hit s t) (fun v s1 ⟨u0, t1, n, bs, hN, hn, itb⟩ => wpAny_mono itb (fun it s2 ⟨I, K, e, g, a, hI, hI2, wk, hK⟩ => ?_) fun _ _ f => f) fun _ _ f => f)
  subst e
  refine wpAny_newObj_type (wpAny_newFunctionEnv hcell (by intro y hy; simp at hy) (fun h₁ hns₁ hsb₁ => ?_) hkind)
  dsimp only at hns₁ hsb₁ ⊢
  generalize hH2 : s2.heap.push { cls := .type "list", data := .seq ([] : List Value).toArray } = H2 at hns₁ hsb₁ ⊢
  generalize hDd : s2.heap.objs.size = D at hns₁ hsb₁ ⊢
  generalize hCc : H2.objs.size = C at hns₁ hsb₁ ⊢
  have hC : C = D + 1 := by rw [← hCc, ← hH2, Heap.size_push, hDd]
  have gH : Grow s2.heap H2 := hH2 ▸ Grow.push _
  have g1 : Grow H2 h₁ := ⟨fun b o _ e => (hsb₁.2 b (Nat.ne_of_lt (hCc ▸ Heap.lt_size e))).trans (Heap.get?_push_of_some _ e), by rw [hsb₁.1, Heap.size_push]; omega⟩
  have gA : Grow s1.heap h₁ := (g.trans gH).trans g1
  have hpl : PlainL h₁ D #[] := ⟨_, 0, g1.keeps _ _ (by rw [← hH2, ← hDd]; exact Heap.get?_push_size _ rfl), rfl, rfl, rfl⟩
  have zD : s1.heap.objs.size ≤ D := hDd ▸ g.size
  have zC : s1.heap.objs.size ≤ C := by omega
  have h336 := t1.gl.size
  have hz1 : h₁.objs.size = C + 1 := by rw [hsb₁.1, Heap.size_push, hCc]
  have triN : ∀ a, a < s1.heap.objs.size → tri I D C a = false := fun a ha => tri_new hI zD zC ha
  have triV : ∀ a, c.V a = true → tri I D C a = false := fun a ha => triN a (t1.vok a ha)
  have hasT : ∀ {v b}, Has c.V s1.heap v b → Has (joinV c.V (tri I D C)) h₁ v b := fun h => (mono_join h fun a o e _ => triN a (Heap.lt_size e)).up gA.up
  have hID : I < D := hDd ▸ hI2
  have nID : I ≠ D := Nat.ne_of_lt hID
  have nCD : C ≠ D := by omega
  have hIC : I < C := Nat.lt_trans hID (by omega)
  have nCI : C ≠ I := Nat.ne_of_gt hIC
  have tI : tri I D C I = true := by unfold tri; simp
  have tD : tri I D C D = true := by unfold tri; simp
  have tC : tri I D C C = true := by unfold tri; simp
  have frmLt : ∀ a, frm c.env a = true → a < s1.heap.objs.size := fun a e => t1.vok a (ok.wv a (ok.fw a e))
  have newF : ∀ a, s1.heap.objs.size ≤ a → frm c.env a = false := fun a ha => by
    cases e : frm c.env a
    · rfl
    · exact absurd (frmLt a e) (Nat.not_lt.mpr ha)
  have hownC : ∀ a, own (compEnvC scope cl C c.env) a = true → a = C := fun a e => by
    unfold own at e
    rcases Bool.or_eq_true_iff.mp e with e | e
    · simpa using (show (a == C) = true from e)
    · have e1 := (Bool.and_eq_true_iff.mp e).1
      have e1 : (c.env.frame == some C) = true := e1
      rw [hfm] at e1
      have q : c.env.locals = C := by simpa using e1
      exact absurd (q ▸ frmLt _ (frm_locals c.env)) (Nat.not_lt.mpr zC)
  have innerFrm : ∀ a, frm (compEnvC scope cl C c.env) a = true → a = C ∨ frm c.env a = true := fun a e => by
    rcases frm_cases e with e | ⟨x, e⟩
    · exact .inl e
    · exact .inr (frm_cell (hcl x a e))
  have jst : ∀ F h h', (∀ a, F a = true → s1.heap.objs.size ≤ a) → Up F h h' → c.J h → c.J h' := fun F h h' hF u j => jmx s t F h h' (fun a e => Nat.le_trans u0.size (hF a e)) u j
  -- the facts under a change at one new place
  have cjUp : ∀ {p i i' ys h h'}, tri I D C p = true → p ≠ D → Up (uno p) h h' → CompJ c I D C h₁ K i ys h → K i' h' → CompJ c I D C h₁ K i' ys h' := fun {p i i' ys h h'} hp hD u x k => by
    have hpn : s1.heap.objs.size ≤ p := by rcases tri_cases hp with rfl | rfl | rfl <;> assumption
    have e : ∀ a, uno p a = true → a = p := fun a h => by simpa [uno] using h
    exact ⟨jst _ _ _ (fun a h => (e a h) ▸ hpn) u x.j, k, x.row.up u (uno_ne (Ne.symm hD)) fun a h => joinV_r ((e a h) ▸ hp), x.out.up u (fun a h => newF a ((e a h) ▸ hpn)) fun a h => joinV_r ((e a h) ▸ hp)⟩
  have okI : ∀ ρ i ys, (c.cj scope cl I D C ρ h₁ K i ys).Ok := fun ρ i ys => ok.inner hkind (Nat.le_trans h336 hI) (Nat.le_trans h336 zD) (Nat.le_trans h336 zC) hcl (fun a h e => by rw [e] at h; rw [triV C h] at tC; cases tC) fun h h' u x => by
    have u' : Up (uno C) h h' := u.le fun a e => by rw [hownC a e]; simp [uno]
    exact cjUp tC nCD u' x (wk.stab i (uno C) h h' (fun a e => by
      have : a = C := by simpa [uno] using e
      subst this
      exact ⟨.inr hIC, nCI⟩) u' x.k)
  have st0 : (c.cj scope cl I D C ρi h₁ K 0 []).St { s2 with heap := h₁, toks := s2.toks + ([] : List (PySem.Str × Value)).length } := by
    refine ⟨fun i o n e => gA.keeps _ _ (t1.gl i o n e), fun b e => ?_, ?_, (t1.up.le fun _ h => joinV_l h).trans gA.up, ⟨(t1.sa.trans a).gens, (t1.sa.trans a).os⟩, ⟨ok.stab _ _ gA.up t1.j, wk.stab _ (fun _ => false) _ _ (fun _ h => by cases h) (gH.trans g1) hK, ⟨#[], hpl, trivial⟩, Up.refl, ?_⟩⟩
    · show b < h₁.objs.size
      rw [hz1]
      rcases Bool.or_eq_true_iff.mp e with e | e
      · have := t1.vok b e
        exact Nat.lt_of_lt_of_le this (by omega)
      · rcases tri_cases e with rfl | rfl | rfl
        · exact Nat.lt_of_lt_of_le hI2 (by omega)
        · exact Nat.lt_of_lt_of_le (Nat.lt_succ_self _) (by omega)
        · exact Nat.lt_succ_self _
    · obtain ⟨m, cm, f⟩ := t1.fr
      refine ⟨_, cm, hns₁, fun y d e => ?_, fun y b e => ?_⟩
      · obtain ⟨o, p, q⟩ := f.cell y d (hcl y d e)
        exact ⟨o, gA.keeps _ _ p, q⟩
      · obtain ⟨e1, e2, e3, e4⟩ := cap.get e
        obtain ⟨v, l, q⟩ := f.nm y b e1
        refine ⟨v, .inr ⟨e3, ?_, ?_⟩, hasT q⟩
        · rcases l with ⟨k, _⟩ | ⟨_, i, _⟩
          · rw [k] at e2; rcases e2 with e2 | e2 <;> cases e2
          · show (cl.lookup y).isSome = true
            rw [e4]; exact i
        · rcases l with ⟨k, _⟩ | ⟨_, _, p⟩
          · rw [k] at e2; rcases e2 with e2 | e2 <;> cases e2
          · exact p
    · obtain ⟨m, cm, f⟩ := t1.fr
      exact ⟨m, cm, f.ns.keeps gA.keeps, fun y d e => let ⟨o, p, q⟩ := f.cell y d e; ⟨o, gA.keeps _ _ p, q⟩, fun y b e => let ⟨v, l, q⟩ := f.nm y b e; ⟨v, l, hasT q⟩⟩
  -- the end
  have fin : ∀ ys s', Kd n ys → (c.cj scope cl I D C ρi h₁ (fun _ _ => True) n ys).St s' → compPost (model pw c.w) c.A (fun _ _ => False) none (fun v s' => Up c.V s.heap s'.heap ∧ c.St s' ∧ ∃ b, (∃ n bs ys, N n bs ∧ Kd n ys ∧ b = .dat (.list ys)) ∧ Has c.V s'.heap v b) (.ref D) C (.ok .next) s' := fun ys s' hk t' => by
    obtain ⟨m, cm, f⟩ := t'.fr
    refine ⟨m, f.ns, fun h' sb => ?_⟩
    have uC : Up (uno C) s'.heap h' := upBut (by simp [uno]) sb
    have x : CompJ c I D C h₁ (fun _ _ => True) n ys h' := ⟨jst _ _ _ (fun a h => by rw [show a = C by simpa [uno] using h]; exact zC) uC t'.j.j, trivial, t'.j.row.up uC (uno_ne (Ne.symm nCD)) (fun a h => joinV_r (by rw [show a = C by simpa [uno] using h]; exact tC)),
      t'.j.out.up uC (fun a h => newF a (by rw [show a = C by simpa [uno] using h]; exact zC)) (fun a h => joinV_r (by rw [show a = C by simpa [uno] using h]; exact tC))⟩
    have uAll : Up c.V s1.heap h' := by
      have u2 : Up (joinV c.V (tri I D C)) s1.heap h' := gA.up.trans x.out.1
      exact ⟨fun a o hv e => u2.keep a o (joinV_f hv (triN a (Heap.lt_size e))) e, u2.size⟩
    have un : ∀ {v b}, Has (joinV c.V (tri I D C)) h' v b → Has c.V h' v b := fun h => h.vol fun a o hv e => ⟨(Bool.or_eq_false_iff.mp hv).1, e⟩
    have tup := t'.up
    refine ⟨u0.trans uAll, ⟨fun i o ni e => ?_, fun b e => ?_, ?_, ⟨fun p o hp e => ?_, ?_⟩, ⟨t'.sa.gens, t'.sa.os⟩, x.j⟩, _, ⟨n, bs, ys, hN, hk, rfl⟩, ?_⟩
    · have hi := L1_lt e
      exact uC.keep _ _ (uno_ne (Nat.ne_of_lt (Nat.lt_of_lt_of_le hi (Nat.le_trans h336 zC)))) (t'.gl i o ni e)
    · exact Nat.lt_of_lt_of_le (t'.vok b (joinV_l e)) uC.size
    · obtain ⟨_, m, cm, f⟩ := x.out
      exact ⟨m, cm, f.ns, f.cell, fun y b e => let ⟨v, l, q⟩ := f.nm y b e; ⟨v, l, un q⟩⟩
    · have hp' : p < s1.heap.objs.size := Nat.lt_of_lt_of_le (Heap.lt_size e) t1.up.size
      exact uC.keep _ _ (uno_ne (Nat.ne_of_lt (Nat.lt_of_lt_of_le hp' zC))) (tup.keep p o (joinV_f hp (triN p hp')) e)
    · exact Nat.le_trans tup.size uC.size
    · obtain ⟨items, ⟨o, n', e1, e2, e3, e4⟩, al⟩ := x.row
      have al' : HasAll c.V h' items.toList (dats ys) := by
        have : ∀ {vs : List Value} {bs : List Bnd}, HasAll (joinV c.V (tri I D C)) h' vs bs → HasAll c.V h' vs bs := fun {vs} {bs} => by
          induction vs generalizing bs with
          | nil => intro h; cases bs with
            | nil => trivial
            | cons _ _ => exact h.elim
          | cons v r ih => intro h; cases bs with
            | nil => exact h.elim
            | cons b bs => exact ⟨un h.1, ih h.2⟩
        exact this al
      refine (⟨rfl, ?_, ⟨o, e1, e2, n', by rw [e4]⟩, al', by rw [al'.length, List.length_map]⟩ : LstD c.V h' (.ref D) ys D items.toList).dat
      cases e : c.V D
      · rfl
      · rw [triV D e] at tD; cases tD
  have loop : ∀ s', (∃ i ys, i ≤ n ∧ Kd i ys ∧ (c.cj scope cl I D C ρi h₁ K i ys).St s') → codeAny (model pw c.w) c.A (.compLoop (.ListComp elt [⟨.Name x px, iter, ifs, 0⟩] scope pos) 0 (.ref I) (.ref D) (compEnvC scope cl C c.env)) (compPost (model pw c.w) c.A (fun _ _ => False) none (fun v s' => Up c.V s.heap s'.heap ∧ c.St s' ∧ ∃ b, (∃ n bs ys, N n bs ∧ Kd n ys ∧ b = .dat (.list ys)) ∧ Has c.V s'.heap v b) (.ref D) C) s' := fun s' ⟨i0, ys0, hi0, hk0, t0⟩ => by
    refine codeAny_compLoop_tests (fun m s' => ∃ i ys, m = n - i ∧ i ≤ n ∧ Kd i ys ∧ (c.cj scope cl I D C ρi h₁ K i ys).St s') ?_ (n - i0) ⟨i0, ys0, rfl, hi0, hk0, t0⟩
    rintro m s' ⟨i, ys, rfl, hi, hk, t'⟩
    have hfI : frm (compEnvC scope cl C c.env) I = false := by
      cases e : frm (compEnvC scope cl C c.env) I
      · rfl
      · rcases innerFrm I e with h | h
        · exact absurd h.symm nCI
        · exact absurd (frmLt I h) (Nat.not_lt.mpr hI)
    have hfD : frm (compEnvC scope cl C c.env) D = false := by
      cases e : frm (compEnvC scope cl C c.env) D
      · rfl
      · rcases innerFrm D e with h | h
        · exact absurd h.symm nCD
        · exact absurd (frmLt D h) (Nat.not_lt.mpr zD)
    have wI : ∀ a, uno I a = true → joinV c.W (tri I D C) a = true := fun a e => by rw [show a = I by simpa [uno] using e]; exact joinV_r tI
    have nI : ∀ a, uno I a = true → frm (compEnvC scope cl C c.env) a = false := fun a e => by rw [show a = I by simpa [uno] using e]; exact hfI
    by_cases hlt : i < n
    · refine wpAny_mono (wk.item i s' hlt t'.j.k) (fun r s3 ⟨v, e, u, a3, hK', hv⟩ => ?_) (fun _ _ f => f.elim)
      subst e
      have t3 : (c.cj scope cl I D C ρi h₁ K (i + 1) ys).St s3 := t'.mv (okI ρi i ys) u a3 wI nI (cjUp tI nID u t'.j hK')
      have hv' : Has (joinV c.V (tri I D C)) s3.heap v (bs i) := hv.vol fun a o h e => by
        obtain ⟨q1, q2⟩ := Bool.or_eq_false_iff.mp h
        obtain ⟨q3, q4⟩ := fresh_no q1
        exact ⟨joinV_f q3 (triN a q4), e⟩
      refine wpAny_mono (asg1 (d := bs i) (pos := px) (P := fun s4 => (c.cj scope cl I D C ((x, bs i) :: ρi) h₁ K (i + 1) ys).St s4) (okI ρi (i + 1) ys) t3 hv' (.inl (lookup_relabel_local hx)) fun s4 _ t4 => t4) (fun _ s4 t4 => ?_) (fun _ _ f => f.elim)
      obtain ⟨b, hT, hE⟩ := step n bs I D C h₁ K i ys s1 t1 hN hlt hk wk hI zD zC triV hownC (okI _ _ _)
      refine wpAny_mono (hT s4 t4) (fun b' s5 ⟨g5, a5, e⟩ => ?_) (fun _ _ f => f.elim)
      subst e
      have t5 := t4.grow (okI _ _ _) g5 a5
      cases b' with
      | false =>
        rw [if_neg Bool.false_ne_true] at hE ⊢
        exact ⟨n - (i + 1), by omega, i + 1, ys, rfl, hlt, hE, t5.sub (hρ _)⟩
      | true =>
        rw [if_pos rfl] at hE ⊢
        refine wpAny_mono (hE s5 t5) (fun v' s6 ⟨u6, t6, b6, ⟨d, hb, hkd⟩, hv6⟩ => ?_) (fun _ _ f => f.elim)
        subst hb
        obtain ⟨items, pl, al⟩ := t6.j.row
        have hlen' := al.length
        rw [List.length_map, Array.length_toList] at hlen'
        have := sizeLine_eq
        have := hlen i ys hk
        refine list_append_plainL pl (fun h' pl' sb => ?_) (by omega)
        have uD : Up (uno D) s6.heap h' := upBut (by simp [uno]) sb
        have eD : ∀ a, uno D a = true → a = D := fun a e => by simpa [uno] using e
        have t7 : (c.cj scope cl I D C ((x, bs i) :: ρi) h₁ K (i + 1) (ys ++ [d])).St { s6 with heap := h' } := t6.mv (okI _ _ _) uD ⟨rfl, rfl⟩ (fun a e => by rw [eD a e]; exact joinV_r tD) (fun a e => by rw [eD a e]; exact hfD)
          ⟨jst _ _ _ (fun a e => (eD a e) ▸ zD) uD t6.j.j, wk.stab _ _ _ _ (fun a e => by rw [eD a e]; exact ⟨.inr hID, Ne.symm nID⟩) uD t6.j.k, ⟨_, pl', ?_⟩, t6.j.out.up uD (fun a e => newF a ((eD a e) ▸ zD)) (fun a e => joinV_r ((eD a e) ▸ tD))⟩
        · exact ⟨n - (i + 1), by omega, i + 1, ys ++ [d], rfl, hlt, hkd, t7.sub (hρ _)⟩
        · have uT := uD.le (V := joinV c.V (tri I D C)) fun a e => joinV_r ((eD a e) ▸ tD)
          rw [Array.toList_push, dats, List.map_append]
          exact (al.up uT).app ⟨hv6.up uT, trivial⟩
    · have : i = n := by omega
      subst this
      refine wpAny_mono (wk.done s' t'.j.k) (fun r s3 ⟨e, u, a3⟩ => ?_) (fun _ _ f => f.elim)
      subst e
      exact fin ys s3 hk (t'.mv (okI ρi i ys) u a3 wI nI ⟨jst _ _ _ (fun a h => by rw [show a = I by simpa [uno] using h]; exact hI) u t'.j.j, trivial, t'.j.row.up u (uno_ne (Ne.symm nID)) (fun a h => joinV_r (by rw [show a = I by simpa [uno] using h]; exact tI)), t'.j.out.up u (fun a h => newF a (by rw [show a = I by simpa [uno] using h]; exact hI)) (fun a h => joinV_r (by rw [show a = I by simpa [uno] using h]; exact tI))⟩)
  refine codeAny_compStart_list (loop _ ⟨0, [], Nat.zero_le _, h0, st0⟩) (wpAny_mono (wk.self 0 _ (fun v s' => v = .ref I ∧ s' = { s2 with heap := h₁, toks := s2.toks + ([] : List (PySem.Str × Value)).length }) st0.j.k ⟨rfl, rfl⟩) (fun v s' ⟨e1, e2⟩ => ?_) fun _ _ f => f.elim)
  subst e1 e2
  exact loop _ ⟨0, [], Nat.zero_le _, h0, st0⟩
end Mine
end TW26
section TW27
open PySem PySem.W PyProof.Rows
set_option Elab.async false
namespace Mine
set_option maxRecDepth 100000
section
variable {c : Cx}
theorem has_fresh {V : Vol} {h : Heap} {v : Value} {b : Bnd} (x : Has V h v b) : Has (fresh V h) h v b := x.vol fun a o hv e => by
  refine ⟨?_, e⟩
  unfold fresh
  rw [hv, Bool.false_or]
  exact decide_eq_false (Nat.not_le.mpr (Heap.lt_size e))
theorem Ev.cmp {e1 e2 : Expr} {op : CmpOp} {pos : Pos} {B1 B2 : Bnd → Prop} {r : Bool} (ok : c.Ok) (x : Ex c e1 B1) (y : Ex c e2 B2)
    (h : ∀ s u v b1 b2, c.St s → B1 b1 → B2 b2 → Has c.V s.heap u b1 → Has c.V s.heap v b2 → Pv c s (compareOp op u v) (.dat (.bool r))) (hm : behindInMarks op e2 = false := by with_unfolding_all rfl) : Ex c (.Compare e1 [op] [e2] pos) (· = .dat (.bool r)) := fun s t => by
  refine wpAny_Compare1 (wpAny_mono (x s t) (fun u s1 ⟨u1, t1, b1, hb1, h1⟩ => ?_) fun _ _ f => f) hm
  refine wpAny_mono (y s1 t1) (fun v s2 ⟨u2, t2, b2, hb2, h2⟩ => ?_) fun _ _ f => f
  exact wpAny_mono (h s2 u v b1 b2 t2 hb1 hb2 (h1.up u2) h2) (fun r s3 ⟨g3, a3, h3⟩ => ⟨(u1.trans u2).trans g3.up, t2.grow ok g3 a3, _, rfl, h3⟩) fun _ _ f => f
theorem hitR2 (ok : c.Ok) {s : Shared} (t : c.St s) {x : PySem.Str} {p pos : Pos} {e1 e2 : Expr} {a b : Int} (hf : Pu c (.Name x p) (.raw (.type "range"))) (y1 : Pd c e1 (.int a)) (y2 : Pd c e2 (.int b)) (ha : -(2 ^ 62) ≤ a) (ha' : a < 2 ^ 62) (hb : -(2 ^ 62) ≤ b) (hb' : b < 2 ^ 62)
    (he : starEach [e1, e2] c.env = (false, eval e1 c.env) :: starEach [e2] c.env := by rfl) (he2 : starEach [e2] c.env = (false, eval e2 c.env) :: starEach [] c.env := by rfl) :
    wpAny (model pw c.w) c.A (eval (.Call (.Name x p) [e1, e2] [] pos) c.env) (fun v s1 => c.St s1 ∧ s.heap.objs.size ≤ s1.heap.objs.size ∧ Itb c.w c.A c.V s1 v (b - a).toNat fun i => .dat (.int (a + i))) (fun _ _ => False) s := by
  refine Call_ (wpAny_mono (hf s t) (fun f s1 ⟨g1, a1, h1⟩ => ?_) fun _ _ f => f)
  obtain rfl : f = .type "range" := h1
  have t1 := t.grow ok g1 a1
  refine PyProof.Rows.callWith_type1 (wpAny_mono (Pa.cons ok y1 (Pa.cons ok y2 Pa.nil he2) he s1 pos t1) (fun vs s2 ⟨g2, a2, h2⟩ => ?_) fun _ _ f => f) he (by rw [he2]; rfl)
  obtain ⟨v, u, rfl, hv, hu⟩ := Has2 h2
  obtain ⟨tk, rfl⟩ := Dat.int hv
  obtain ⟨tk2, rfl⟩ := Dat.int hu
  have t2 := t1.grow ok g2 a2
  refine call_range_2 ⟨t2.grow (s' := { s2 with heap := s2.heap.push { cls := .type "range", data := .fields #[.int a tk, .int b tk2, .int 1 s2.toks] }, toks := s2.toks + 1 }) ok (Grow.push _) ⟨rfl, rfl⟩, Nat.le_trans (Nat.le_trans g1.size g2.size) (Grow.push _).size, ?_⟩
  exact itb_range (w := c.w) (A := c.A) (V := c.V) (s := { s2 with heap := s2.heap.push { cls := .type "range", data := .fields #[.int a tk, .int b tk2, .int 1 s2.toks] }, toks := s2.toks + 1 }) ok.rm.hn (IsRange.new ..) ha ha' hb hb'
theorem hitLF (ok : c.Ok) {e : Expr} {ds : List PyData} (x : Pd c e (.list ds)) (hl : ds.length ≤ 2 ^ 20) (s : Shared) (t : c.St s) :
    wpAny (model pw c.w) c.A (eval e c.env) (fun v s1 => Up c.V s.heap s1.heap ∧ c.St s1 ∧ ∃ n bs, (n = ds.length ∧ bs = fun i => Bnd.dat (ds.getD i .none)) ∧ n ≤ 2 ^ 20 ∧ Itb c.w c.A (fresh c.V s1.heap) s1 v n bs) (fun _ _ => False) s :=
  wpAny_mono (x s t) (fun _ _ ⟨g, a, h⟩ => ⟨g.up, t.grow ok g a, _, _, ⟨rfl, rfl⟩, hl, itb_list ok.rm.hn (has_fresh h) getD_is⟩) fun _ _ f => f
theorem hitTF (ok : c.Ok) {e : Expr} {ds : List PyData} (x : Pd c e (.tuple ds)) (hl : ds.length ≤ 2 ^ 20) (s : Shared) (t : c.St s) :
    wpAny (model pw c.w) c.A (eval e c.env) (fun v s1 => Up c.V s.heap s1.heap ∧ c.St s1 ∧ ∃ n bs, (n = ds.length ∧ bs = fun i => Bnd.dat (ds.getD i .none)) ∧ n ≤ 2 ^ 20 ∧ Itb c.w c.A (fresh c.V s1.heap) s1 v n bs) (fun _ _ => False) s :=
  wpAny_mono (x s t) (fun _ _ ⟨g, a, h⟩ => ⟨g.up, t.grow ok g a, _, _, ⟨rfl, rfl⟩, hl, itb_tuple ok.rm.hn (has_fresh h) getD_is⟩) fun _ _ f => f
end
/-- the cells that a comprehension takes along -/
def capOf (env : Env) (ns : List PySem.Str) : List (PySem.Str × Addr) := ns.map fun n => (n, (env.cells.lookup n).getD 0)
theorem capOf_is {env : Env} : ∀ {ns : List PySem.Str}, (ns.all fun n => (env.cells.lookup n).isSome) = true → ∀ y d, (capOf env ns).lookup y = some d → env.cells.lookup y = some d
  | [], _, y, d, e => by cases e
  | n :: r, h, y, d, e => by
    obtain ⟨h1, h2⟩ := Bool.and_eq_true_iff.mp (show ((env.cells.lookup n).isSome && r.all fun n => (env.cells.lookup n).isSome) = true from h)
    rw [capOf, List.map_cons, List.lookup_cons] at e
    cases hy : y == n with
    | true =>
      rw [hy] at e
      cases e
      rw [beq_iff_eq.mp hy]
      obtain ⟨d, hd⟩ := Option.isSome_iff_exists.mp h1
      rw [hd]; rfl
    | false => rw [hy] at e; exact capOf_is h2 y d e
noncomputable abbrev fd323 (P : Params) : FuncData := funcOf (Fast.tw17021812644622919958 P)
theorem fn323 (P : Params) : FnOk P 323 (fd323 P) (stmtsOf (fd323 P)) := ⟨⟨_, by rfl, by rfl⟩, by decide, by rfl, by rfl, by rfl, by rfl, by rfl, by rfl, by rfl, ⟨_, _, _, _, by rfl, by decide, by rfl, by rfl, by rfl⟩⟩
theorem endsT_len (t : List (Int × Int)) : (endsT t).length ≤ 8 * t.length := by
  unfold endsT
  rw [flat_len]
  have := cutD_len none (some 2) t
  have := cutD_len (some (-1)) none t
  unfold someOf
  rw [List.length_append]; omega
theorem ends_flat_len : ∀ (ts : List (List (Int × Int))) (i : Nat), (∀ t ∈ ts, t.length ≤ 2 ^ 10) → ((ts.take i).flatMap endsT).length ≤ 2 ^ 13 * ts.length
  | _, 0, _ => by simp
  | [], _ + 1, _ => by simp
  | t :: r, i + 1, h => by
    have := ends_flat_len r i fun x hx => h x (List.mem_cons_of_mem _ hx)
    have := endsT_len t
    have := h t List.mem_cons_self
    rw [List.take_succ_cons, List.flatMap_cons, List.length_append, List.length_cons]
    omega
theorem mergedFn (w : World) (ts : List (List (Int × Int))) (told : List (Int × Int)) (hn : ts.length ≤ 8) (hs : ∀ t ∈ ts, t.length ≤ 2 ^ 10) (hd : told.length ≤ 2 ^ 10) (hp : told.Pairwise fun p q => p.2 < q.1)
    (hh : ∀ n, hasTs n ts = hasT n told) : Fn w 2 323 [.dat (.list (ts.map tblD)), .dat (tblD told)] (.dat (.bool true)) := by
  refine FnE.of (n := 1) (ns := parNames (fd323 w.params)) (fn323 w.params) (fun vs hv => by
    match vs, hv with
    | [v, u], _ => rfl) (by rfl) (of_decide_eq_true (by rfl)) (by rfl) (fun _ _ => NewStab.triv) fun A V L s s1 _ _ nf _ ok t => ?_
  refine do_doc ok t fun s2 t => ?_
  refine do_for (κ := Unit) ok (hitR2 (a := 1) (b := told.length) ok t (Pu.blt ok (by rfl) (by kernel_rfl) (by kernel_rfl)) Pu.int (by
      rw [← List.length_map (f := pairD)]
      exact Pu.len_tup (ds := told.map pairD) ok (Pu.blt ok (by rfl) (by kernel_rfl) (by kernel_rfl)) (Pu.name ok (by rfl)) (by rw [List.length_map]; omega)) (by omega) (by omega) (by omega) (by omega))
    (fun _ => (parNames (fd323 w.params)).zip [.dat (.list (ts.map tblD)), .dat (tblD told)]) (fun _ _ => True) (fun _ _ => True) (fun _ _ _ _ _ _ _ _ => trivial) () trivial (fun _ t => t)
    (fun I K i _ s4 v hi hk wk hI hV ok t hv => ?_) (fun _ s5 hk ok t => ?_)
  · have hi' : i + 1 < told.length := by omega
    refine asg1 ok t hv (.inl (by rfl)) fun s5 ok t => ?_
    refine do_if ok t (Te.cmp ok (Pu.fst (k := 1 + (i : Int)) ok (Pu.name ok (by rfl)) (Pu.name ok (by rfl)) (by omega) (by omega) (by omega) (by intro _ _ _; with_unfolding_all rfl))
      (Pu.snd (k := 1 + (i : Int) - 1) ok (Pu.name ok (by rfl)) (Pu.sub ok (Pu.name ok (by rfl)) Pu.int) (by omega) (by omega) (by omega) (by intro _ _ _; with_unfolding_all rfl)) fun s u v _ hu hv => cLe hu hv) (fun hb s6 t => ?_) (fun hb s6 t => ?_)
    · have hb := of_decide_eq_true hb
      have e1 : (1 + (i : Int)).toNat = i + 1 := by omega
      have e2 : (1 + (i : Int) - 1).toNat = i := by omega
      rw [e1, e2, nth_is hi', nth_is (by omega)] at hb
      have := List.pairwise_iff_getElem.mp hp i (i + 1) (by omega) hi' (by omega)
      omega
    · exact do_nil (do_nil ⟨(), trivial, t.sub ⟨by rfl, by rfl, trivial⟩⟩)
  have hlT : (ts ++ [told]).length ≤ 9 := by rw [List.length_append]; show ts.length + 1 ≤ 9; omega
  have hsT : ∀ t ∈ ts ++ [told], t.length ≤ 2 ^ 10 := fun t ht => (List.mem_append.mp ht).elim (hs t) fun h => by rw [List.mem_singleton] at h; rw [h]; exact hd
  refine do_assignP ok t (b := .dat (.list [])) (Pu.lst ok (ds := []) Pa.nil (by decide)) (.inl (by rfl)) fun s6 ok t => ?_
  refine do_for (κ := List Int) ok (hitL (ds := (ts ++ [told]).map tblD) ok t (by
      rw [List.map_append]
      exact Pu.addL ok (Pu.name ok (by rfl)) (Pu.lst (ds := [tblD told]) ok (Pa.cons ok (Pu.name ok (by rfl)) Pa.nil) (show 1 ≤ 2 ^ 20 by decide)) (by rw [List.length_map]; show _ + 1 ≤ _; omega)))
    (fun k => [(⟨⟨[110, 117, 109, 98, 101, 114, 115]⟩⟩, .dat (.list (k.map .int))), (⟨⟨[116, 97, 98, 108, 101, 115]⟩⟩, .dat (.list (ts.map tblD))), (⟨⟨[116, 111, 108, 100]⟩⟩, .dat (tblD told))]) (fun _ _ => True) (fun i k => k = ((ts ++ [told]).take i).flatMap endsT) (fun _ _ _ _ _ _ _ _ => trivial) [] rfl (fun _ t => t.sub ⟨by rfl, by rfl, by rfl, trivial⟩)
    (fun I K i k s4 v hi hk wk hI hV ok t hv => ?_) (fun k s5 hk ok t => ?_)
  · have hi' : i < (ts ++ [told]).length := by simpa using hi
    rw [getD_map tblD hi] at hv
    have hti : ((ts ++ [told])[i]).length ≤ 2 ^ 10 := hsT _ (List.getElem_mem hi')
    have hti2 : ((ts ++ [told])[i]).length ≤ 2 ^ 16 := Nat.le_trans hti (by decide)
    refine asg1 ok t hv (.inl (by rfl)) fun s5 ok t => ?_
    refine do_assignP ok t (b := .dat (.list (k.map .int ++ (endsT (ts ++ [told])[i]).map .int))) (Pu.addL ok (Pu.name ok (by rfl)) (Pu.call (a := 318) (bs := [.dat (tblD (ts ++ [told])[i])]) ok (Pu.glob ok (by rfl) (by kernel_rfl)) (fn318 _) (Pa.cons ok (Pu.name ok (by rfl)) Pa.nil) (endsFn w (ts ++ [told])[i] hti2) (Nat.le_refl 1)) ?_) (.inl (by rfl)) fun s6 ok t => ?_
    · have h1 := ends_flat_len (ts ++ [told]) i hsT
      have h2 := endsT_len (ts ++ [told])[i]
      rw [List.length_map, List.length_map, hk]
      omega
    · refine do_nil ⟨k ++ endsT (ts ++ [told])[i], ?_, t.sub ⟨?_, by rfl, by rfl, trivial⟩⟩
      · rw [List.take_succ_eq_append_getElem hi', List.flatMap_append, hk]; simp
      · rw [show (k ++ endsT (ts ++ [told])[i]).map PyData.int = k.map .int ++ (endsT (ts ++ [told])[i]).map .int from List.map_append]; rfl
  have hkl : k.length ≤ 2 ^ 20 := by
    have h1 := ends_flat_len (ts ++ [told]) ((ts ++ [told]).map tblD).length hsT
    rw [hk]; omega
  refine do_ret ok t (Ev.cmp ok (Ex.comp (N := fun n bs => n = (k.map PyData.int).length ∧ bs = fun i => Bnd.dat ((k.map PyData.int).getD i .none)) (cl := capOf (callEnvC (fd323 w.params) L 323) [⟨⟨[116, 111, 108, 100]⟩⟩, ⟨⟨[116, 97, 98, 108, 101, 115]⟩⟩]) ok (by rfl) (by decide) (by rfl) (by decide) (by rfl) (capOf_is (by rfl)) (by rfl)
      (hitLF ok (Pu.name ok (by rfl)) (by rw [List.length_map]; exact hkl)) [(⟨⟨[116, 97, 98, 108, 101, 115]⟩⟩, .dat (.list (ts.map tblD))), (⟨⟨[116, 111, 108, 100]⟩⟩, .dat (tblD told))] ⟨⟨by rfl, .inl (by rfl), .inl (by rfl), by rfl⟩, ⟨by rfl, .inl (by rfl), .inl (by rfl), by rfl⟩, trivial⟩ (fun _ => ⟨by rfl, by rfl, trivial⟩)
      (fun _ ys => ys = []) rfl (fun _ _ h => by rw [h]; exact Nat.zero_le _) (fun _ _ _ _ _ _ _ _ => trivial) (fun n bs I D C h₁ K i ys s1 t1 hN hi hk wk hI hD hC hV hown ok => ?_))
    ((Pu.lst ok (ds := []) Pa.nil (by decide)).ex ok) (fun s u v b1 b2 t h1 h2 hu hv => ?_)) fun s' v b hb hv t => ⟨t.fin, b, hb, hv⟩
  · obtain ⟨rfl, hbs⟩ := hN
    have hi' : i < k.length := by simpa using hi
    have hx : bs i = .dat (.int k[i]) := by rw [hbs]; exact congrArg Bnd.dat (getD_map PyData.int hi)
    rw [hx] at ok ⊢
    refine ⟨_, Tests.one (Te.cmp ok (b1 := .dat (.bool (hasTs k[i] ts))) (b2 := .dat (.bool (hasTs k[i] [told]))) (Pu.call (a := 311) ok (Pu.glob ok (by rfl) (by kernel_rfl)) (fn311 _) (Pa.cons ok (Pu.name ok (by rfl)) (Pa.cons ok (Pu.name ok (by rfl)) Pa.nil)) (hasFn w ts k[i]) (Nat.le_refl 1))
      (Pu.call (a := 311) ok (Pu.glob ok (by rfl) (by kernel_rfl)) (fn311 _) (Pa.cons ok (Pu.lst (ds := [tblD told]) ok (Pa.cons ok (Pu.name ok (by rfl)) Pa.nil) (show 1 ≤ 2 ^ 20 by decide)) (Pa.cons ok (Pu.name ok (by rfl)) Pa.nil)) (hasFn w [told] k[i]) (Nat.le_refl 1))
      fun s u v _ hu hv => cNe ok hu hv (by rfl) (by rfl)), ?_⟩
    have e : hasTs k[i] ts = hasTs k[i] [told] := by
      rw [hh]; unfold hasTs; simp
    rw [e]
    have : (!PyData.eqv (.bool (hasTs k[i] [told])) (.bool (hasTs k[i] [told]))) = false := by cases hasTs k[i] [told] <;> rfl
    rw [this, if_neg Bool.false_ne_true]
    exact hk
  · obtain ⟨n, bs, ys, _, rfl, rfl⟩ := h1
    subst h2
    exact cEq ok hu hv (by rfl) (by rfl)
end Mine
end TW27
section TW28
open PySem PySem.W PyProof.Rows
set_option Elab.async false
namespace Mine
set_option maxRecDepth 100000
section
variable {c : Cx}
theorem partV.is {v : Value} {o : Option Int} (p : partV v o) : IsPart v o := by
  rcases p with ⟨rfl, rfl⟩ | ⟨i, t, rfl, rfl⟩
  · exact .none
  · exact .int i t
/-- a slice of a list, told by where it lies -/
theorem cut_lst (ok : c.Ok) {s : Shared} {e : Expr} {l u : Option Expr} {p pos : Pos} {lo hi : Option Int} {Q : Value → Shared → Prop} (y : Pp c l lo) (z : Pp c u hi)
    (x : wpAny (model pw c.w) c.A (eval e c.env) (fun v s1 => c.St s1 ∧ ∃ (a : Addr) (vs : List Value), v = .ref a ∧ s1.heap.IsList a vs.toArray ∧ vs.length ≤ 2 ^ 20 ∧
      ∀ (D : Addr) (s2 : Shared), Grow s1.heap s2.heap → Sa s1 s2 → s1.heap.objs.size ≤ D → IsL s2.heap D (slicePick vs.toArray lo hi none) 0 → Q (.ref D) s2) (fun _ _ => False) s) :
    wpAny (model pw c.w) c.A (eval (.Subscript e (.Slice l u Option.none p) pos) c.env) Q (fun _ _ => False) s := by
  refine Subscript_ (wpAny_mono x (fun v s1 ⟨t1, a, vs, hv, hl, hz, k⟩ => ?_) fun _ _ f => f)
  subst hv
  refine wpAny_Slice (wpAny_mono (y s1 t1) (fun vl s2 ⟨g2, a2, h2⟩ => ?_) fun _ _ f => f)
  have t2 := t1.grow ok g2 a2
  refine wpAny_mono (z s2 t2) (fun vu s3 ⟨g3, a3, h3⟩ => wpAny_pure ?_) fun _ _ f => f
  have g4 : Grow s3.heap (s3.heap.push { cls := .type "slice", data := .fields #[vl, vu, .none] }) := Grow.push _
  have hl4 : (s3.heap.push { cls := .type "slice", data := .fields #[vl, vu, .none] }).IsList a vs.toArray := let ⟨o, e, r⟩ := hl; ⟨o, g4.keeps _ _ (g3.keeps _ _ (g2.keeps _ _ e)), r⟩
  have := sizeLine_eq
  refine tail_any hl4.typeIs slot_list_getitem.lookup (wpAny_getItem_list_slice hl4 (Heap.IsSliceOf.new ..) h2.is h3.is .none (by simp) ?_ (by rw [List.size_toArray]; omega)) (by with_unfolding_all rfl)
  exact k _ _ (((g2.trans g3).trans g4).trans (Grow.push _)) ⟨(a2.trans a3).gens, (a2.trans a3).os⟩ ((g2.trans g3).trans g4).size (Heap.get?_push_size _ rfl)
end
noncomputable abbrev fd290 (P : Params) : FuncData := funcOf (Fast.tw3729971862094455005 P)
theorem fn290 (P : Params) : FnOk P 290 (fd290 P) (stmtsOf (fd290 P)) := ⟨⟨_, by rfl, by rfl⟩, by decide, by rfl, by rfl, by rfl, by rfl, by rfl, by rfl, by rfl, ⟨_, _, _, _, by rfl, by decide, by rfl, by rfl, by rfl⟩⟩
def absI (i : Int) : Int := if i < 0 then -i else i
theorem Pu.abs {c : Cx} (ok : c.Ok) {x : PySem.Str} {p pos : Pos} {e : Expr} {i : Int} (hf : Pu c (.Name x p) (.raw (.builtin "abs"))) (y : Pd c e (.int i)) (he : starEach [e] c.env = (false, eval e c.env) :: starEach [] c.env := by rfl) : Pd c (.Call (.Name x p) [e] [] pos) (.int (absI i)) :=
  Pu.bcall ok hf (Pa.cons ok y Pa.nil he) (fun s vs t h => by
    obtain ⟨v, rfl, hv⟩ := Has1 h
    obtain ⟨tk, rfl⟩ := Dat.int hv
    exact call_abs_int fun u tk => ⟨Grow.refl, ⟨rfl, rfl⟩, hasInt ..⟩) he
theorem all_int {V : Vol} {h : Heap} : ∀ {vs : List Value} {is : List Int}, HasAll V h vs (dats (is.map .int)) → ∀ v ∈ vs, ∃ i t, v = Value.int i t
  | [], _, _ => fun _ h => by cases h
  | v :: r, [], x => x.elim
  | v :: r, i :: is, ⟨a, b⟩ => fun u hu => by
    rcases List.mem_cons.mp hu with rfl | hu
    · obtain ⟨t, rfl⟩ := Dat.int a; exact ⟨i, t, rfl⟩
    · exact all_int b u hu
theorem drawFn {w : World} {A : Around} {V : Vol} {s : Shared} {vs : List Value} {is : List Int} (rm : Rm A 1) (vf : VFine w.params V s.heap) (hvs : HasAll V s.heap vs [.dat (.list (is.map .int))]) (hl : is.length ≤ 2 ^ 16) :
    wpAny (model pw w) A (call (.ref 290) vs) (fun v s' => Grow s.heap s'.heap ∧ Sa s s' ∧ ∃ D D0, v = .ref D ∧ s.heap.objs.size ≤ D ∧ s.heap.objs.size ≤ D0 ∧ D < s'.heap.objs.size ∧ D0 < s'.heap.objs.size ∧ Drw D D0 s'.heap) (fun _ _ => False) s := by
  refine enter (n := 0) (ns := parNames (fd290 w.params)) (X := noX) (J := noJ) (fn290 w.params) rm vf hvs (fun A' => ?_) (hvs.length.symm) (of_decide_eq_true (by rfl)) (by rfl) (fun _ e => by cases e) trivial NewStab.triv fun L s1 hL nf ok t => ?_
  · match vs, hvs with
    | [v], _ =>
      rw [show bindArgs (fd290 w.params) ⟨[v], []⟩ = Pure.pure ((parNames (fd290 w.params)).zip [v]) from rfl]
      exact wpAny_pure ⟨rfl, rfl⟩
  have upG : ∀ {s' : Shared}, Up (joinV noX (frm (callEnvC (fd290 w.params) L 290))) s.heap s'.heap → Grow s.heap s'.heap := fun {s'} u => ⟨fun a o _ e => u.keep a o (by
    unfold joinV noX
    rw [Bool.false_or]
    cases hf : frm (callEnvC (fd290 w.params) L 290) a
    · rfl
    · exact absurd (Heap.lt_size e) (Nat.not_lt.mpr (nf a hf))) e, u.size⟩
  have hz : s.heap.objs.size ≤ s1.heap.objs.size := t.up.size
  refine do_assignP ok t (b := .dat (.int 7)) Pu.int (.inl (by rfl)) fun s2 ok t => ?_
  refine do_for (κ := Int) ok (hitL ok t (Pu.name ok (by rfl)))
    (fun k => [(⟨⟨[115, 101, 101, 100]⟩⟩, .dat (.int k)), (⟨⟨[115, 99, 114, 105, 112, 116]⟩⟩, .dat (.list (is.map .int)))]) (fun _ _ => True) (fun _ k => 0 ≤ k ∧ k < 2147483647) (fun _ _ _ _ _ _ _ _ => trivial) 7 (by decide) (fun _ t => t.sub ⟨by rfl, by rfl, trivial⟩)
    (fun I K i k s4 v hi hk wk hI hV ok t hv => ?_) (fun k s5 hk ok t => ?_)
  · rw [getD_map PyData.int hi] at hv
    refine asg1 ok t hv (.inl (by rfl)) fun s5 ok t => ?_
    refine do_assignP ok t (Pu.mod ok (Pu.add ok (Pu.add ok (Pu.mul ok (Pu.name (b := .dat (.int k)) ok (by rfl)) Pu.int (IntMulOk.of_right (by decide +kernel))) (Pu.mod ok (Pu.abs ok (Pu.blt ok (by rfl) (by kernel_rfl) (by kernel_rfl)) (Pu.name ok (by rfl))) Pu.int (by decide))) Pu.int) Pu.int (by decide)) (.inl (by rfl)) fun s6 ok t => ?_
    refine do_nil ⟨_, ⟨?_, ?_⟩, t.sub ⟨by rfl, by rfl, trivial⟩⟩
    · rw [Int.fmod_eq_emod_of_nonneg _ (by omega)]; exact Int.emod_nonneg _ (by omega)
    · rw [Int.fmod_eq_emod_of_nonneg _ (by omega)]; exact Int.emod_lt_of_pos _ (by omega)
  refine do_cons (wpAny_Return_some (PySem.wpAny_List (args_cons (cut_lst (lo := none) (hi := some 60) ok Pp.none (Pp.some Pu.int) (wpAny_mono ((Ex.comp (N := fun n bs => n = (is.map PyData.int).length ∧ bs = fun i => Bnd.dat ((is.map PyData.int).getD i .none)) (cl := []) ok (by rfl) (by decide) (by rfl) (by decide) (by rfl) (fun _ _ e => by cases e) (by rfl)
      (hitLF ok (Pu.name ok (by rfl)) (by rw [List.length_map]; omega)) [] trivial (fun _ => trivial) (fun i ys => ∃ js : List Int, ys = js.map .int ∧ js.length = i) ⟨[], rfl, rfl⟩ (fun i ys ⟨js, h1, h2⟩ => by rw [h1, List.length_map]; omega) (fun _ _ _ _ _ _ _ _ => trivial)
      (fun n bs I D C h₁ K i ys s1 t1 hN hi hk wk hI hD hC hV hown ok => ?_)) s5 t) (fun v s6 ⟨u6, t6, b, ⟨n, bs, ys, hN, ⟨js, hys, hj⟩, hb⟩, hv⟩ => ?_) fun _ _ f => f)) (by rfl))))
  · obtain ⟨rfl, hbs⟩ := hN
    have hx : bs i = .dat (.int (is[i]'(by simpa using hi))) := by rw [hbs]; exact congrArg Bnd.dat (getD_map PyData.int hi)
    rw [hx] at ok ⊢
    refine ⟨true, Tests.nil, ?_⟩
    rw [if_pos rfl]
    obtain ⟨js, rfl, hj⟩ := hk
    exact (Pu.abs (i := is[i]'(by simpa using hi)) ok (Pu.blt ok (by rfl) (by kernel_rfl) (by kernel_rfl)) (Pu.name ok (by rfl))).ex ok |>.weak fun b e => ⟨_, e, js ++ [absI (is[i]'(by simpa using hi))], by rw [List.map_append]; rfl, by rw [List.length_append, hj]; rfl⟩
  · obtain ⟨rfl, _⟩ := hN
    subst hb hys
    rw [List.length_map] at hj
    obtain ⟨a, vs, q⟩ := Dat.list hv
    have hlen := q.len
    rw [List.length_map] at hlen
    refine ⟨t6, a, vs, q.ref, q.lst, by omega, fun D0 s7 g7 a7 hD0 l7 => ?_⟩
    have t7 := t6.grow ok g7 a7
    refine args_cons (wpAny_mono ((Pu.name (b := .dat (.int k)) ok (by rfl)) s7 t7) (fun u s8 ⟨g8, a8, h8⟩ => args_nil ?_) fun _ _ f => f)
    obtain ⟨tk, rfl⟩ := Dat.int h8
    have t8 := t7.grow ok g8 a8
    have l8 := g8.keeps _ _ l7
    have lD0 := Heap.lt_size l8
    have hz8 : s.heap.objs.size ≤ s8.heap.objs.size := t8.up.size
    have g9 : Grow s8.heap (s8.heap.push { cls := .type "list", data := .seq [.ref D0, .int k tk].toArray }) := Grow.push _
    have hz9 : (s8.heap.push { cls := .type "list", data := .seq [Value.ref D0, .int k tk].toArray }).objs.size = s8.heap.objs.size + 1 := Heap.size_push ..
    refine ⟨by have := sizeLine_eq; show 2 ≤ _; omega, (upG (s' := s8) t8.up).trans g9, ⟨t8.sa.gens, t8.sa.os⟩, s8.heap.objs.size, D0, rfl, hz8, Nat.le_trans t6.up.size hD0, ?_, ?_, Nat.ne_of_gt lD0, ⟨k, tk, ⟨_, Heap.get?_push_size _ rfl, rfl, 0, rfl⟩, hk⟩, ?_⟩
    · show _ < (s8.heap.push _).objs.size
      rw [hz9]; exact Nat.lt_succ_self _
    · show _ < (s8.heap.push _).objs.size
      rw [hz9]; exact Nat.lt_succ_of_lt lD0
    · refine ⟨_, 0, g9.keeps _ _ l8, ?_, fun v hv => ?_⟩
      · rw [show (some (60 : Int)) = some ((60 : Nat) : Int) from rfl, slicePick_upto', List.size_toArray, List.length_take]; omega
      · rw [show (some (60 : Int)) = some ((60 : Nat) : Int) from rfl, slicePick_upto'] at hv
        exact all_int q.all v (List.mem_of_mem_take (by simpa using hv))
end Mine
end TW28
section TW29
open PySem PySem.W PyProof.Rows
set_option Elab.async false
namespace Mine
set_option maxRecDepth 100000
/-- what stands once a def's frame is laid -/
theorem inCall_cx {w : World} {A : Around} {n : Nat} {a : Addr} {fd : FuncData} {V X : Vol} {s s1 : Shared} {vs : List Value} {bs : List Bnd} {ns : List PySem.Str} {J : Heap → Prop} {L : Addr}
    (hkd : fd.scope.kind = .function) (hgl : fd.globals = 3) (hbi : fd.builtins = 0) (rm : Rm A (n + 1)) (vf : VFine w.params V s.heap) (hvs : HasAll V s.heap vs bs) (hlen : ns.length = vs.length) (hnd : ns.Nodup)
    (hkind : (ns.all fun y => fd.scope.names.lookup y == some .local || fd.scope.names.lookup y == some .cell) = true) (xv : ∀ a, X a = true → V a = true) (hJ : J s.heap) (stab : NewStab s.heap J) (hL : s.heap.objs.size = L)
    (x : InCallC s (callEnvC fd L a).locals (bindL (callEnvC fd L a).kindOf (ns.zip vs) fun _ => none) (callEnvC fd L a).cells (bindC (callEnvC fd L a).kindOf (ns.zip vs) fun _ => none) s1) :
    (∀ b, frm (callEnvC fd L a) b = true → s.heap.objs.size ≤ b) ∧ (cxOf n w A V X fd a L (ns.zip bs) s J).Ok ∧ (cxOf n w A V X fd a L (ns.zip bs) s J).St s1 := by
  have hmap : (ns.zip vs).map (·.1) = ns := List.map_fst_zip (Nat.le_of_eq hlen)
  have hk2 : ∀ m, ∀ x ∈ ns.zip vs, fd.scope.names.lookup x.1 = some .local ∨ (fd.scope.names.lookup x.1 = some .cell ∧ ((cellsFrom m fd.scope.names []).lookup x.1).isSome = true) :=
    kindsX (List.all_eq_true.mpr fun x hx => List.all_eq_true.mp hkind x.1 (hmap ▸ List.mem_map_of_mem hx))
  obtain ⟨h1, tk, hs1⟩ := x.toInCall.same
  have hsz : s.heap.objs.size ≤ s1.heap.objs.size := Nat.le_trans (Nat.le_of_eq hL) (Nat.le_of_lt x.toInCall.ns.lt)
  have g : Grow s.heap s1.heap := ⟨fun b o _ e => x.toInCall.keep b o e, hsz⟩
  have newF : ∀ b, frm (callEnvC fd L a) b = true → L ≤ b := fun b e => by
    rcases frm_cases e with e | ⟨y, e⟩
    · exact Nat.le_of_eq e.symm
    · exact Nat.le_of_lt (x.above y b (mem_of_lookup e))
  have up2 : ∀ {V' : Vol}, Up (joinV V' (frm (callEnvC fd L a))) s.heap s1.heap := g.up
  have hasUp : ∀ {v b}, Has V s.heap v b → Has (joinV V (frm (callEnvC fd L a))) s1.heap v b := fun h => h.vol fun p o hp e => by
    refine ⟨?_, g.keeps _ _ e⟩
    unfold joinV
    rw [hp, Bool.false_or]
    cases hf : frm (callEnvC fd L a) p
    · rfl
    · exact absurd (Heap.lt_size e) (Nat.not_lt.mpr (hL ▸ newF p hf))
  have h336 := vf.gl.size
  refine ⟨hL ▸ newF, ⟨hkd, hgl, hbi, ⟨rm.hn, ?_, ?_⟩, fun b e => ?_, fun b e => ?_, fun h h' u j => stab _ (fun b e => by rw [hL]; exact newF b (own_frm e)) h h' u j, fun y d e => ?_, fun y z d e1 e2 => ?_, fun b hb h7 => ?_, ?_⟩,
    ⟨fun i o ni e => g.keeps _ _ (vf.gl i o ni e), fun b e => ?_, ⟨_, _, x.toInCall.ns, x.cell, fun y b e => ?_⟩, up2, ?_, stab (fun _ => false) (fun _ e => by cases e) _ _ g hJ⟩⟩
  · have := rm.depth; show A.depth + 1 + n < 900; omega
  · have := rm.units; show A.units + 3 + 20 * n < 5000; omega
  · show (X b || _) = true; rw [show frm (callEnvC fd L a) b = true from e, Bool.or_true]
  · rcases Bool.or_eq_true_iff.mp (show (X b || frm (callEnvC fd L a) b) = true from e) with e | e
    · show (V b || _) = true; rw [xv b e]; rfl
    · show (V b || _) = true; rw [e, Bool.or_true]
  · exact fun q => absurd (x.above y d (mem_of_lookup e)) (by rw [q]; exact Nat.lt_irrefl _)
  · exact name_of_addr x.apart (mem_of_lookup e1) (mem_of_lookup e2)
  · show (V b || frm (callEnvC fd L a) b) = false
    rw [vf.old b hb h7, Bool.false_or]
    cases hf : frm (callEnvC fd L a) b
    · rfl
    · exact absurd hb (Nat.not_lt.mpr (Nat.le_trans (hL ▸ h336) (newF b hf)))
  · show (V 175 || _) = true; rw [vf.vtab]; rfl
  · rcases Bool.or_eq_true_iff.mp (show (V b || frm (callEnvC fd L a) b) = true from e) with e | e
    · exact Nat.lt_of_lt_of_le (vf.vok b e) hsz
    · rcases frm_cases e with e | ⟨y, e⟩
      · exact e ▸ x.toInCall.ns.lt
      · exact (x.cell y b e).lt
  · obtain ⟨v, p, q⟩ := lookup_zip hvs e
    refine ⟨v, ?_, hasUp q⟩
    have hm := mem_of_lookup p
    have hnd' : ((ns.zip vs).map (·.1)).Nodup := by rw [hmap]; exact hnd
    rcases hk2 (L + 1) _ hm with kl | ⟨kc, ks⟩
    · exact .inl ⟨kl, bindL_is kl hnd' p⟩
    · exact .inr ⟨.inl kc, ks, bindC_is (by rw [show (callEnvC fd L a).kindOf y = some .cell from kc]; decide) hnd' p⟩
  · subst hs1; exact ⟨rfl, rfl⟩
theorem VFine.grow {P : Params} {V : Vol} {h h' : Heap} (x : VFine P V h) (g : Grow h h') : VFine P V h' := ⟨fun i o n e => g.keeps _ _ (x.gl i o n e), fun a e => Nat.lt_of_lt_of_le (x.vok a e) g.size, x.old, x.vtab⟩
/-- entering a def whose arguments are laid in the heap -/
theorem enterV {w : World} {A : Around} {n : Nat} {a : Addr} {fd : FuncData} {body : List Stmt} {V X : Vol} {s : Shared} {vs : List Value} {bs : List Bnd} {ns : List PySem.Str} {J : Heap → Prop} {Q : Value → Shared → Prop}
    (F : FnOk w.params a fd body) (rm : Rm A (n + 1)) (vf : VFine w.params V s.heap) (hbind : ∀ A', wpAny (model pw w) A' (bindArgs fd ⟨vs, []⟩) (fun b s' => ∃ us, b = ns.zip us ∧ ns.length = us.length ∧ Grow s.heap s'.heap ∧ Sa s s' ∧ HasAll V s'.heap us bs) (fun _ _ => False) s) (hnd : ns.Nodup)
    (hkind : (ns.all fun y => fd.scope.names.lookup y == some .local || fd.scope.names.lookup y == some .cell) = true) (xv : ∀ a, X a = true → V a = true) (hJ : J s.heap) (stab : NewStab s.heap J)
    (k : ∀ L s' s1, Grow s.heap s'.heap → Sa s s' → L = s'.heap.objs.size → (∀ b, frm (callEnvC fd L a) b = true → s'.heap.objs.size ≤ b) → (cxOf n w A V X fd a L (ns.zip bs) s' J).Ok → (cxOf n w A V X fd a L (ns.zip bs) s' J).St s1 → Do (cxOf n w A V X fd a L (ns.zip bs) s' J) body (fun f s' => Q (retOf f) s') s1) :
    wpAny (model pw w) A (call (.ref a) vs) Q (fun _ _ => False) s := by
  obtain ⟨o, ho, hd⟩ := F.ob
  refine wpAny_call (codeAny_call_function (by have := rm.depth; show A.depth < 1000; omega) (vf.gl a o F.ne ho) hd F.co F.gen F.body ?_ (wpAny_mono (hbind _) (fun b s' ⟨us, hb, hlen, g, sa, hus⟩ => ?_) fun _ _ f => f.elim))
  · obtain ⟨cd, oc, us, t, e1, e2, e3, e4, e5⟩ := F.code
    exact ⟨cd, oc, us, t, e1, vf.gl cd oc e2 e3, e4, e5⟩
  subst hb
  have hmap : (ns.zip us).map (·.1) = ns := List.map_fst_zip (Nat.le_of_eq hlen)
  have hk2 : ∀ m, ∀ x ∈ ns.zip us, fd.scope.names.lookup x.1 = some .local ∨ (fd.scope.names.lookup x.1 = some .cell ∧ ((cellsFrom m fd.scope.names []).lookup x.1).isSome = true) :=
    kindsX (List.all_eq_true.mpr fun x hx => List.all_eq_true.mp hkind x.1 (hmap ▸ List.mem_map_of_mem hx))
  rw [F.clo]
  refine wpAny_newFunctionEnv_cells F.kind (hk2 _) fun env he s'' x => ?_
  subst he
  have vf' := vf.grow g
  obtain ⟨nf, ok, t⟩ := inCall_cx (n := n) (a := a) (A := A) (fd := fd) (X := X) F.kind F.gl F.bi rm vf' hus hlen hnd hkind xv (stab (fun _ => false) (fun _ e => by cases e) _ _ g hJ) (stab.le g.size) rfl x
  refine ⟨vf'.gl.lim.keeps x.toInCall.keep, codeAny_func (wpAny_mono (k _ s' s'' g sa rfl nf ok t) (fun f s3 q => ?_) fun _ _ f => f.elim)⟩
  cases f <;> exact q
end Mine
end TW29
section TW30
open PySem PySem.W PyProof.Rows
set_option Elab.async false
namespace Mine
set_option maxRecDepth 100000
abbrev lamPar (r : PySem.Str) (pr : Pos) : Arguments := ⟨[], [⟨r, none, pr⟩], none, [], [], none, []⟩
abbrev lamBody (r : PySem.Str) (p1 p2 p3 : Pos) (k : Nat) : PySem.Expr := .Subscript (.Name r p1) (.Constant (.int 0) k p2) p3
abbrev lamSc (r : PySem.Str) : Scope := ⟨.function, [(r, .local)], false, false, []⟩
abbrev lamE (r : PySem.Str) (pr p1 p2 p3 lp : Pos) (k : Nat) : PySem.Expr := .Lambda (lamPar r pr) (lamBody r p1 p2 p3 k) (lamSc r) lp
/-- the table of codes of the def: nothing yet, or the lambda's code -/
def TabSt (lp : Pos) (q : PySem.Str) : Option Addr → Heap → Prop
  | none, h => h.get? 175 = some (tabObj #[])
  | some c', h => h.get? 175 = some (tabObj #[rawInt lp.line, rawInt lp.col, .ref c']) ∧ h.CodeRec (.ref c') q
theorem TabSt.up {lp : Pos} {q : PySem.Str} {m : Option Addr} {h h' : Heap} {F : Vol} (x : TabSt lp q m h) (u : Up F h h') (h7 : F 175 = false) (hc : ∀ c', m = some c' → F c' = false) : TabSt lp q m h' := by
  cases m with
  | none => exact u.keep _ _ h7 x
  | some c' =>
    obtain ⟨a, c, o, vs, t, e, b, r⟩ := x
    cases e
    exact ⟨u.keep _ _ h7 a, _, o, vs, t, rfl, u.keep _ _ (hc _ rfl) b, r⟩
theorem TabSt.lt {lp : Pos} {q : PySem.Str} {c' : Addr} {h : Heap} (x : TabSt lp q (some c') h) : c' < h.objs.size := by
  obtain ⟨_, c, o, vs, t, e, b, r⟩ := x
  cases e
  exact Heap.lt_size b
theorem TabSt.lt7 {lp : Pos} {q : PySem.Str} {m : Option Addr} {h : Heap} (x : TabSt lp q m h) : 175 < h.objs.size := by
  cases m with
  | none => exact Heap.lt_size x
  | some c' => exact Heap.lt_size x.1
theorem TabSt.new {lp : Pos} {q : PySem.Str} {m : Option Addr} {h₀ : Heap} (x : TabSt lp q m h₀) : NewStab h₀ (TabSt lp q m) := fun F hF h h' u y => by
  have no : ∀ a, a < h₀.objs.size → F a = false := fun a ha => by
    cases e : F a
    · rfl
    · exact absurd ha (Nat.not_lt.mpr (hF a e))
  exact y.up u (no _ x.lt7) fun c' e => by subst e; exact no _ x.lt
theorem codeHd (P : Params) {h : Heap} (g : Gl P h) : CodeHd h 179 175 :=
  ⟨_, _, _, _, _, _, _, _, _, g 179 _ (by decide) (by rfl), by rfl, by rfl, by rfl, by rfl, by rfl, by rfl, by rfl, by rfl, by decide⟩
theorem bltAt (P : Params) {h : Heap} (g : Gl P h) : h.BuiltinsAt (gmap P) 175 :=
  ⟨4, _, by kernel_rfl, by decide, by decide, by decide, g 4 _ (by decide) (by rfl), by rfl, by rfl, by rfl⟩
/-- the lambda, made -/
theorem mkLam {w : World} {A : Around} {s : Shared} {env : Env} {r : PySem.Str} {pr p1 p2 p3 lp : Pos} {k : Nat} {m : Option Addr} (g : Gl w.params s.heap) (hge : env.globals = mainGlobals) (hcode : env.code = .ref 179) (hcl : closureFor (lamSc r) env = Pure.pure [])
    (ht : TabSt lp (env.qual ++ "<lambda>") m s.heap) :
    wpAny (model pw w) A (eval (lamE r pr p1 p2 p3 lp k) env) (fun v s' => ∃ (f c' : Addr) (pm ctv : Value) (tk : Nat) (h' : Heap), v = .ref f ∧ s' = { s with heap := h', toks := tk } ∧ s.heap.objs.size ≤ f ∧ Up (uno 175) s.heap h' ∧
      h'.get? f = some (kla_obj "<lambda>" (env.qual ++ "<lambda>") (lamPar r pr) (lamBody r p1 p2 p3 k) (lamSc r) [] pm c' ctv) ∧ TabSt lp (env.qual ++ "<lambda>") (some c') h' ∧ (m = some c' ∨ m = none ∧ s.heap.objs.size ≤ c')) (fun _ _ => False) s := by
  refine kla_eval rfl ?_
  cases m with
  | none =>
    refine kla_makeFunction (mg := gmap w.params) (ps := #[]) hcl hge g.ns3 hcode (codeHd _ g) ht trivial rfl (by decide) (bltAt _ g) fun c' ctv h' tk hx h1 h2 hcr htab => ?_
    have hz : s.heap.objs.size ≤ h'.objs.size := Nat.le_of_lt (Nat.lt_of_le_of_lt h1 h2)
    have u1 : Up (uno 175) s.heap h' := ⟨fun a o e q => hx a o (fun hq => by subst hq; simp [uno] at e) q, hz⟩
    obtain ⟨cc, o, vs, t, e, b, rr⟩ := hcr
    cases e
    exact ⟨_, c', _, ctv, tk, _, rfl, rfl, hz, u1.trans (Grow.push _).up, Heap.get?_push_size _ rfl, ⟨Heap.get?_push_of_some _ htab, _, o, vs, t, rfl, Heap.get?_push_of_some _ b, rr⟩, .inr ⟨rfl, h1⟩⟩
  | some c' =>
    obtain ⟨htab, hcr⟩ := ht
    refine kla_makeFunctionHit (mg := gmap w.params) (cv := .ref c') hcl hge g.ns3 hcode (codeHd _ g) htab (by trivial) (by simp [codeAmong, rawInt]) (bltAt _ g) fun ctv h' tk hk hz => ?_
    have gr : Grow s.heap h' := ⟨fun a o _ q => hk a o q, hz⟩
    obtain ⟨cc, o, vs, t, e, b, rr⟩ := hcr
    cases e
    exact ⟨_, c', _, ctv, tk, _, rfl, rfl, hz, (gr.trans (Grow.push _)).up, Heap.get?_push_size _ rfl, ⟨Heap.get?_push_of_some _ (hk _ _ htab), _, o, vs, t, rfl, Heap.get?_push_of_some _ (hk _ _ b), rr⟩, .inl rfl⟩
/-- the lambda, called -/
theorem lamFst {w : World} {A : Around} {V : Vol} {s : Shared} {v : Value} {p : Int × Int} {f c' : Addr} {pm ctv : Value} {q r : PySem.Str} {pr p1 p2 p3 : Pos} {k : Nat} (hroom : A.depth < 1000) (g : Gl w.params s.heap)
    (hf : s.heap.get? f = some (kla_obj "<lambda>" q (lamPar r pr) (lamBody r p1 p2 p3 k) (lamSc r) [] pm c' ctv)) (hcr : s.heap.CodeRec (.ref c') q) (hv : Dat V s.heap v (pairD p)) (hd : (r == ("__debug__" : PySem.Str)) = false) :
    wpAny (model pw w) A (call (.ref f) [v]) (fun u s' => ∃ (t : Tok) (h' : Heap) (tk : Nat), u = .int p.1 t ∧ s' = { s with heap := h', toks := tk } ∧ Grow s.heap h') (fun _ _ => False) s := by
  refine wpAny_call (kla_callFunE hroom hf rfl rfl rfl rfl hcr ?_)
  have hb : bindArgs (kla_fn "<lambda>" q (lamPar r pr) (lamBody r p1 p2 p3 k) (lamSc r) [] pm (.ref c') ctv) ⟨[v], []⟩ = Pure.pure [(r, v)] := by
    unfold bindArgs
    simp [lamPar, List.lookup, seqItems?]
    rfl
  rw [hb]
  refine wpAny_pure (wpAny_newFunctionEnv (fun x hx => ?_) (fun x hx => ?_) (fun h1 hns hsb => ⟨g.lim.fresh _ hsb, ?_⟩) rfl)
  · rw [List.mem_singleton] at hx; subst hx; exact nofun
  · rw [List.mem_singleton] at hx; subst hx; simp
  have gr : Grow s.heap h1 := ⟨fun b o _ e => (hsb.2 b (Nat.ne_of_lt (Heap.lt_size e))).trans (Heap.get?_push_of_some _ e), by rw [hsb.1, Heap.size_push]; omega⟩
  refine kla_codeExpr (Subscript_ (wpAny_Name (wpAny_loadName_local rfl ?_ hns (v := v) (by simp) (wpAny_Constant_int ?_)) hd))
  · show List.lookup r [(r, NameKind.local)] = _
    simp
  obtain ⟨a, vs, x⟩ := Dat.tuple (hv.up gr.up)
  obtain ⟨rfl, _, l, al, len⟩ := x
  match vs, al with
  | [v1, v2], ⟨h1', _, _⟩ =>
  obtain ⟨t, rfl⟩ := Dat.int h1'
  exact tail_any l.typeIs slot_tuple_getitem.lookup (getItem_tuple l (j := 0) (by decide) (by decide) (by rfl) (by rfl) ⟨t, h1, _, rfl, rfl, gr⟩) (by with_unfolding_all rfl)
end Mine
end TW30
section TW31
open PySem PySem.W PyProof.Rows
set_option Elab.async false
namespace Mine
set_option maxRecDepth 100000
theorem perm_map_inv {α β : Type} {g : α → β} {l l2 : List β} (p : l.Perm l2) : ∀ T : List α, l2 = T.map g → ∃ T' : List α, T'.Perm T ∧ l = T'.map g := by
  induction p with
  | nil => intro T e; exact ⟨T, .refl _, e⟩
  | cons x _ ih =>
    intro T e
    match T, e with
    | t :: T1, e =>
      rw [List.map_cons] at e
      injection e with e1 e2
      obtain ⟨T', p', e'⟩ := ih T1 e2
      exact ⟨t :: T', p'.cons t, by rw [List.map_cons, e1, e']⟩
  | swap x y l =>
    intro T e
    match T, e with
    | t1 :: t2 :: T1, e =>
      rw [List.map_cons, List.map_cons] at e
      injection e with e1 e2
      injection e2 with e2 e3
      exact ⟨t2 :: t1 :: T1, .swap .., by rw [List.map_cons, List.map_cons, e1, e2, e3]⟩
  | trans _ _ ih1 ih2 =>
    intro T e
    obtain ⟨T', p', e'⟩ := ih2 T e
    obtain ⟨T2, p2, e2⟩ := ih1 T' e'
    exact ⟨T2, p2.trans p', e2⟩
theorem hasAll_mem {V : Vol} {h : Heap} : ∀ {T : List ((Int × Int) × Value)}, (∀ x ∈ T, Dat V h x.2 (pairD x.1)) → HasAll V h (T.map (·.2)) (dats ((T.map (·.1)).map pairD))
  | [], _ => trivial
  | x :: r, k => ⟨k x List.mem_cons_self, hasAll_mem fun y hy => k y (List.mem_cons_of_mem _ hy)⟩
theorem mem_hasAll {V : Vol} {h : Heap} : ∀ {ps : List (Int × Int)} {vs : List Value}, HasAll V h vs (dats (ps.map pairD)) → ∀ x ∈ ps.zip vs, Dat V h x.2 (pairD x.1)
  | [], [], _ => fun _ h => by simp at h
  | p :: ps, v :: vs, ⟨a, b⟩ => fun x hx => by
    rw [List.zip_cons_cons] at hx
    rcases List.mem_cons.mp hx with rfl | hx
    · exact a
    · exact mem_hasAll b x hx
  | [], _ :: _, x => x.elim
  | _ :: _, [], x => x.elim
/-- all that stands in a heap, but for two places -/
def oldNews (h : Heap) (a L : Addr) : List (Addr × Obj) := (List.range h.objs.size).filterMap fun i => if i = a ∨ i = L then none else (h.get? i).map fun o => (i, o)
theorem mem_oldNews {h : Heap} {a L i : Addr} {o : Obj} : (i, o) ∈ oldNews h a L ↔ i ≠ a ∧ i ≠ L ∧ h.get? i = some o := by
  unfold oldNews
  rw [List.mem_filterMap]
  constructor
  · rintro ⟨j, _, e⟩
    split at e
    · cases e
    · rename_i hn
      obtain ⟨o', h1, h2⟩ := Option.map_eq_some_iff.mp e
      cases h2
      exact ⟨fun q => hn (.inl q), fun q => hn (.inr q), h1⟩
  · rintro ⟨h1, h2, h3⟩
    refine ⟨i, List.mem_range.mpr (Heap.lt_size h3), ?_⟩
    rw [if_neg (fun q => q.elim h1 h2), h3]; rfl
theorem sortRun {w : World} {A : Around} {V : Vol} {s : Shared} {a L : Addr} {mm : PySem.Str → Option Value} {ps : List (Int × Int)} {vs : List Value} {n : Nat} {f c' : Addr} {pm ctv : Value} {q r : PySem.Str} {pr p1 p2 p3 : Pos} {k : Nat}
    (g : Gl w.params s.heap) (hroom : A.depth < 1000) (hns : s.heap.Ns L mm) (hL : 336 ≤ L) (ha : 336 ≤ a) (haL : a ≠ L) (hVa : V a = true) (hVL : V L = true) (hl : IsL s.heap a vs.toArray n) (al : HasAll V s.heap vs (dats (ps.map pairD))) (h64 : ps.length < 64)
    (hfa : f ≠ a) (hfL : f ≠ L) (hca : c' ≠ a) (hcL : c' ≠ L)
    (hf : s.heap.get? f = some (kla_obj "<lambda>" q (lamPar r pr) (lamBody r p1 p2 p3 k) (lamSc r) [] pm c' ctv)) (hcr : s.heap.CodeRec (.ref c') q) (hd : (r == ("__debug__" : PySem.Str)) = false) :
    wpAny (model pw w) A (call (.builtin "list.sort") [.ref a] [(PySem.Str.ofString "key", .ref f)]) (fun v s' => v = .none ∧ ∃ (h' : Heap) (tk : Nat) (out : List Value) (n' : Nat) (ps' : List (Int × Int)), s' = { s with heap := h', toks := tk } ∧ (∀ b o, b ≠ a → b ≠ L → s.heap.get? b = some o → h'.get? b = some o) ∧ s.heap.objs.size ≤ h'.objs.size ∧
      h'.Ns L mm ∧ IsL h' a out.toArray n' ∧ HasAll V h' out (dats (ps'.map pairD)) ∧ ps'.Perm ps ∧ ps'.Pairwise fun p q => p.1 ≤ q.1) (fun _ _ => False) s := by
  have hlen := al.length
  rw [List.length_map, List.length_map] at hlen
  have getN : ∀ {i : Addr} {o : Obj} {h : Heap} {own : List (Addr × Obj)}, News { s.heap with objs := #[] } L h (oldNews s.heap a L ++ own) → i ≠ a → i ≠ L → s.heap.get? i = some o → h.get? i = some o := fun N h1 h2 e => (N _ (List.mem_append_left _ (mem_oldNews.mpr ⟨h1, h2, e⟩))).1
  have glN : ∀ {h : Heap} {own : List (Addr × Obj)}, News { s.heap with objs := #[] } L h (oldNews s.heap a L ++ own) → Gl w.params h := fun N i o ne e => getN N (Nat.ne_of_lt (Nat.lt_of_lt_of_le (L1_lt e) ha)) (Nat.ne_of_lt (Nat.lt_of_lt_of_le (L1_lt e) hL)) (g i o ne e)
  have datN : ∀ {h : Heap} {own : List (Addr × Obj)} {v : Value} {b : Bnd}, News { s.heap with objs := #[] } L h (oldNews s.heap a L ++ own) → Has V s.heap v b → Has V h v b := fun N x => x.vol fun p o hp e => ⟨hp, getN N (fun e => by rw [e, hVa] at hp; cases hp) (fun e => by rw [e, hVL] at hp; cases hp) e⟩
  refine wpAny_size (wpAny_call_entry_kw PyProof.Rows.slot_list_sort (s := s) ⟨_, hl, rfl⟩ PyProof.Rows.entry_list_sort ?_ (ksk_l1 _ _))
  rw [ksk_t1]
  refine ksk_sort (h₀ := { s.heap with objs := #[] }) (m := mm) (L := L) (news := oldNews s.heap a L) (kz := ps.map (·.1)) (n := n) ⟨hns, fun b o e => ?_, Nat.zero_le _⟩ (fun p hp => ?_) hl haL ?_ (fun p hp => (mem_oldNews.mp (show (p.1, p.2) ∈ _ from hp)).1) (by rw [List.length_map, hlen]) (by omega) (fun i v kk hv hk h tk own F N => ?_) (fun h' tk out cc F' N' ko => ?_)
  · simp [Heap.get?] at e
  · obtain ⟨h1, h2, h3⟩ := mem_oldNews.mp (show (p.1, p.2) ∈ _ from hp)
    exact ⟨h3, h2, by simp [Heap.get?]⟩
  · simp [Heap.get?]
  · rw [List.getElem?_map] at hk
    obtain ⟨p, hp, rfl⟩ := Option.map_eq_some_iff.mp hk
    obtain ⟨v', e', hd'⟩ := al.get (i := i) (b := .dat (pairD p)) (by rw [dats, List.map_map, List.getElem?_map, hp]; rfl)
    rw [hv] at e'
    cases e'
    obtain ⟨cc, o, us, tt, e1, e2, e3⟩ := hcr
    cases e1
    refine wpAny_mono (lamFst (V := V) (s := { s with heap := h, toks := tk }) (p := p) (by exact hroom) (glN N) (getN N hfa hfL hf) ⟨_, o, us, tt, rfl, getN N hca hcL e2, e3⟩ (datN N hd') hd) (fun u s' ⟨t, h', tk', hu, hs, gr⟩ => ?_) fun _ _ f => f
    exact ⟨h', tk', t, hs, hu, ⟨F.ns.keeps gr.keeps, fun b o e => gr.keeps _ _ (F.keep b o e), F.above⟩, fun p hp => ⟨gr.keeps _ _ (N p hp).1, (N p hp).2⟩⟩
  · refine ⟨.none, rfl, fun hz => ⟨rfl, h', tk, out.toList, cc, ?_⟩⟩
    obtain ⟨p0, hp0, ho, hso⟩ := ko
    have N1 : News { s.heap with objs := #[] } L h' (oldNews s.heap a L ++ []) := by rw [List.append_nil]; exact fun p hp => N' p (List.mem_cons_of_mem _ hp)
    obtain ⟨T, hT, e0⟩ := perm_map_inv (g := fun x : (Int × Int) × Value => (x.1.1, x.2)) hp0 (ps.zip vs) (by rw [List.zip_map_left]; rfl)
    refine ⟨T.map (·.1), rfl, fun b o h1 h2 e => getN N1 h1 h2 e, hz, F'.ns, ?_, ?_, ?_, ?_⟩
    · have := (N' _ (List.mem_cons_self)).1
      simpa using this
    · have e : out.toList = T.map (·.2) := by rw [ho, e0, List.map_map]; rfl
      rw [e]
      exact hasAll_mem fun x hx => datN N1 (mem_hasAll al x (hT.mem_iff.mp hx))
    · have := hT.map (·.1)
      rwa [List.map_fst_zip (by omega)] at this
    · rw [e0, List.pairwise_map] at hso
      rw [List.pairwise_map]
      exact hso.imp fun h => by simpa using h
end Mine
end TW31
section TW32
open PySem PySem.W PyProof.Rows
set_option Elab.async false
namespace Mine
set_option maxRecDepth 100000
open AutoSeq1 (wpAny_loadPart')
/-- l.extend(t) of a list and a tuple -/
theorem list_extend_tupW (l : Addr) (items : Array Value) (n : Nat) (b : Addr) (items2 : Array Value) (n2 : Nat) (dd2 : Option Addr) (sl2 : Array (Option Value)) (hs0 : ¬(!items.isEmpty && Builtin.List.listTooLong (items.size + items2.size)) = true) (hs1 : items.size ≤ sizeLine) (hs2 : items.size + items2.size ≤ sizeLine + 1) :
    Meets (Builtin.«list.extend» ⟨[.ref l, .ref b], []⟩) (fun _ R s => s.heap.get? l = some { cls := .type "list", dict := none, data := .seq items n, slots := #[] } ∧ s.heap.get? b = some { cls := .type "tuple", dict := dd2, data := .seq items2 n2, slots := sl2 } ∧ R (.ok (.ret Value.none)) { s with heap := s.heap.update l (Obj.mapSeq fun x => x ++ items2), toks := s.toks }) :=
  .of_wp fun prog w A R s h => by
    obtain ⟨hp, g, d, tk, os⟩ := s; obtain ⟨hl, hb, h⟩ := h; have f1 := AutoSeq1.idx_int; have f2 := AutoSeq1.sub_tuple_tuple; have f3 := AutoSeq1.sub_list_list; have f4 := AutoSeq1.sub_tuple_list; have f5 := AutoSeq1.sub_list_tuple
    have hz' : (items ++ items2).size ≤ sizeLine + 1 := by rw [Array.size_append]; exact hs2
    wp_walk using (wpAny_updateSeq hl rfl (hz := hs1) (_hz' := hz')), wpAny_loadPart' hl, wpAny_loadPart' hb; exact ⟨_, rfl, h⟩
section
variable {c : Cx}
/-- the state after the row's own list changed -/
theorem Cx.St.rowSet (ok : c.Ok) {s : Shared} (t : c.St s) {r : Addr} {h' : Heap} {J : Heap → Prop} (hr : c.W r = true) (hfr : frm c.env r = false) (sb : Heap.SameBut r s.heap h') (j : J h') : ({ c with J := J } : Cx).St { s with heap := h' } :=
  t.mv ok (X := uno r) (s' := { s with heap := h' }) (upBut (by simp [uno]) sb) ⟨rfl, rfl⟩ (fun a e => by rw [show a = r by simpa [uno] using e]; exact hr) (fun a e => by rw [show a = r by simpa [uno] using e]; exact hfr) j
theorem Cx.Ok.j (ok : c.Ok) {J : Heap → Prop} (st : ∀ h h', Up (own c.env) h h' → J h → J h') : ({ c with J := J } : Cx).Ok := ⟨ok.fn, ok.gb, ok.bi, ok.rm, ok.fw, ok.wv, st, ok.lc, ok.ap, ok.old, ok.vtab⟩
/-- row.extend(e) -/
theorem do_extend (ok : c.Ok) {s : Shared} (t : c.St s) {x : PySem.Str} {e : Expr} {rest : List Stmt} {p p2 pos pos2 : Pos} {Q : Flow → Shared → Prop} {r : Addr} {ds es : List PyData} {J : Heap → Prop}
    (hf : Pu c (.Name x p) (.raw (.ref r))) (hr : c.W r = true) (hfr : frm c.env r = false) (hJ : ∀ h, c.J h → RowIs c.V r ds h) (hl : ds.length + es.length ≤ 2 ^ 20) (y : Pd c e (.tuple es))
    (hJ' : ∀ h h', Heap.SameBut r h h' → c.J h → RowIs c.V r (ds ++ es) h' → J h') (stJ : ∀ h h', Up (own c.env) h h' → J h → J h') (k : ∀ s', ({ c with J := J } : Cx).Ok → ({ c with J := J } : Cx).St s' → Do ({ c with J := J } : Cx) rest Q s')
    (hline : (p2.endLine == pos.line) = true) (hb : attributeBase (.Name x p) ⟨⟨[101, 120, 116, 101, 110, 100]⟩⟩ c.env (eval (.Name x p) c.env) = eval (.Name x p) c.env := by rfl) (hst : starEach [e] c.env = [(false, eval e c.env)] := by rfl)
    (hi : interactive c.env = false := by rfl) (hs : swapsWith (.Call (.Attribute (.Name x p) ⟨⟨[101, 120, 116, 101, 110, 100]⟩⟩ p2) [e] [] pos) none pos2.line c.env = pure false := by rfl) :
    Do c (.Expr (.Call (.Attribute (.Name x p) ⟨⟨[101, 120, 116, 101, 110, 100]⟩⟩ p2) [e] [] pos) pos2 :: rest) Q s := by
  refine do_cons (wpAny_Expr (PySem.Call_method1 hb hst hline (wpAny_mono (hf s t) (fun u s1 ⟨g1, a1, h1⟩ => ?_) fun _ _ f => f)) hi hs)
  obtain rfl : u = .ref r := h1
  have t1 := t.grow ok g1 a1
  obtain ⟨items, n, l, al⟩ := hJ _ t1.j
  refine ⟨"list", "list.extend", F.plainAttrs_list, F.slot_list_extend, F.type_list_extend, ⟨_, l, rfl⟩, fun a e => ?_, ?_⟩
  · cases e; exact ⟨_, l, rfl⟩
  refine PySem.seqMethod1_meets F.slot_list_extend F.entry_list_extend (wpAny_mono (y s1 t1) (fun v s2 ⟨g2, a2, h2⟩ => ?_) fun _ _ f => f)
  have t2 := t1.grow ok g2 a2
  have l2 := g2.keeps _ _ l
  have hlen := al.length
  rw [List.length_map, Array.length_toList] at hlen
  obtain ⟨b, ws, q⟩ := Dat.tuple h2
  have hq := q.len
  obtain ⟨rfl, _, ⟨⟨cls, dd, data, sl⟩, ho, hc, n2, hd⟩, al2, _⟩ := q
  simp only at hc hd
  subst hc hd
  have := sizeLine_eq
  have hz : items.size + ws.toArray.size ≤ sizeLine := by show items.size + ws.length ≤ _; omega
  have sb := Heap.SameBut.update s2.heap r (Obj.mapSeq fun xs => xs ++ ws.toArray)
  have uV := upBut (V := c.V) (ok.wv r hr) sb
  have row : RowIs c.V r (ds ++ es) (s2.heap.update r (Obj.mapSeq fun xs => xs ++ ws.toArray)) := ⟨_, _, IsL.update l2 _, by
    rw [Array.toList_append, dats, List.map_append]
    exact (al.up (g2.up.trans uV)).app (al2.up uV)⟩
  exact ⟨⟨_, l2, rfl⟩, F.args_list_extend_2 _ _, _, list_extend_tupW r items n b ws.toArray n2 dd sl (extend_door hz) (by omega) (Nat.le_succ_of_le hz), l2, ho, k _ (ok.j stJ) (t2.rowSet ok hr hfr sb (hJ' _ _ sb t2.j row))⟩
/-- a test whether the row has nothing -/
theorem Te.row {x : PySem.Str} {p : Pos} {r : Addr} {ds : List PyData} (ok : c.Ok) (hf : Pu c (.Name x p) (.raw (.ref r))) (hJ : ∀ h, c.J h → RowIs c.V r ds h) (hl : ds.length ≤ 2 ^ 20) : Te c (.Name x p) (!ds.isEmpty) := fun s t => by
  refine isTrue_plain (wpAny_mono (hf s t) (fun v s1 ⟨g1, a1, h1⟩ => ?_) fun _ _ f => f) (by rfl)
  obtain rfl : v = .ref r := h1
  obtain ⟨items, n, l, al⟩ := hJ _ (t.grow ok g1 a1).j
  have hlen := al.length
  rw [List.length_map, Array.length_toList] at hlen
  have := sizeLine_eq
  refine wpAny_truthy_list l.isList (by omega) ⟨g1, ⟨a1.gens, a1.os⟩, ?_⟩
  rw [← Array.isEmpty_toList]
  exact congrArg _ (isEmpty_same (by rw [Array.length_toList]; exact hlen))
/-- row[k] -/
theorem Pu.row (ok : c.Ok) {e i : Expr} {pos : Pos} {r : Addr} {ds : List PyData} {k : Int} {d : PyData} (x : Pu c e (.raw (.ref r))) (hJ : ∀ h, c.J h → RowIs c.V r ds h) (y : Pd c i (.int k)) (h0 : 0 ≤ k) (hhi : k < 2 ^ 63) (hd : ds[k.toNat]? = some d)
    (hs : IxForm i := by intro _ _ _; with_unfolding_all rfl) : Pd c (.Subscript e i pos) d := fun s t => by
  refine Subscript_ (wpAny_mono (x s t) (fun u s1 ⟨g1, a1, h1⟩ => wpAny_mono (y s1 (t.grow ok g1 a1)) (fun v s2 ⟨g2, a2, h2⟩ => ?_) fun _ _ f => f) fun _ _ f => f)
  obtain ⟨_, rfl⟩ := Dat.int h2
  obtain rfl : u = .ref r := h1
  obtain ⟨items, n, l, al⟩ := hJ _ ((t.grow ok g1 a1).grow ok g2 a2).j
  obtain ⟨v, hv, hd⟩ := al.get (i := k.toNat) (b := .dat d) (by simpa using hd)
  exact tail_any l.isList.typeIs slot_list_getitem.lookup (wpAny_getItem_list l.isList h0 hhi (by simpa using hv) ⟨g1.trans g2, a1.trans a2, hd⟩) (hs _ _ _)
/-- row[-1] -/
theorem Pu.rowLast (ok : c.Ok) {e i : Expr} {pos : Pos} {r : Addr} {ds : List PyData} {d : PyData} (x : Pu c e (.raw (.ref r))) (hJ : ∀ h, c.J h → RowIs c.V r (ds ++ [d]) h) (y : Pd c i (.int (-1)))
    (hs : IxForm i := by intro _ _ _; with_unfolding_all rfl) : Pd c (.Subscript e i pos) d := fun s t => by
  refine Subscript_ (wpAny_mono (x s t) (fun u s1 ⟨g1, a1, h1⟩ => wpAny_mono (y s1 (t.grow ok g1 a1)) (fun v s2 ⟨g2, a2, h2⟩ => ?_) fun _ _ f => f) fun _ _ f => f)
  obtain ⟨_, rfl⟩ := Dat.int h2
  obtain rfl : u = .ref r := h1
  obtain ⟨items, n, l, al⟩ := hJ _ ((t.grow ok g1 a1).grow ok g2 a2).j
  have hlen := al.length
  rw [List.length_map, List.length_append, Array.length_toList] at hlen
  have hlen : items.size = ds.length + 1 := hlen
  obtain ⟨v, hv, hd⟩ := al.get (i := ds.length) (b := .dat d) (by simp [dats])
  refine tail_any l.isList.typeIs slot_list_getitem.lookup (wpAny_getItem_list_neg l.isList (by decide) (by omega) (by decide) (x := v) ?_ ⟨g1.trans g2, a1.trans a2, hd⟩) (hs _ _ _)
  rw [show (-1 + (items.size : Int)).toNat = ds.length by omega]
  simpa using hv
/-- a new volatile list of what stands in the display -/
theorem do_rowE (ok : c.Ok) {s : Shared} (t : c.St s) {x : PySem.Str} {es : List Expr} {ds : List PyData} {rest : List Stmt} {p p' pos : Pos} {Q : Flow → Shared → Prop} (ha : Pa c es (dats ds)) (hl : ds.length ≤ 2 ^ 20) (hx : StoreOk c.env x)
    (k : ∀ r s', (∀ a, c.V a = true → a ≠ r) → frm c.env r = false → c.s₀.heap.objs.size ≤ r → ((c.at r c.ρ fun h => c.J h ∧ RowIs (joinV c.V (uno r)) r ds h).put x (.raw (.ref r))).Ok → ((c.at r c.ρ fun h => c.J h ∧ RowIs (joinV c.V (uno r)) r ds h).put x (.raw (.ref r))).St s' →
      Do ((c.at r c.ρ fun h => c.J h ∧ RowIs (joinV c.V (uno r)) r ds h).put x (.raw (.ref r))) rest Q s')
    (hs : swapsWith (.List es p) (some (.Name x p')) pos.line c.env = pure false := by rfl) : Do c (.Assign [.Name x p'] (.List es p) pos :: rest) Q s := by
  refine do_cons (wpAny_Assign_Name (PySem.wpAny_List (wpAny_mono (ha s p t) (fun vs s1 ⟨g1, a1, al⟩ => ?_) fun _ _ f => f)) hs)
  have t1 := t.grow ok g1 a1
  have hlen := al.length
  rw [List.length_map] at hlen
  have := sizeLine_eq
  refine ⟨by omega, ?_⟩
  have h336 := t1.gl.size
  have hVI : ∀ b, c.V b = true → b ≠ s1.heap.objs.size := fun b hb => Nat.ne_of_lt (t1.vok b hb)
  have hf : frm c.env s1.heap.objs.size = false := by
    cases e : frm c.env s1.heap.objs.size
    · rfl
    · exact absurd rfl (hVI _ (ok.wv _ (ok.fw _ e)))
  have okA : (c.at s1.heap.objs.size c.ρ fun h => c.J h ∧ RowIs (joinV c.V (uno s1.heap.objs.size)) s1.heap.objs.size ds h).Ok :=
    ok.at h336 fun h h' u ⟨a, b⟩ => ⟨ok.stab h h' u a, b.up u (own_no hf) fun a e => joinV_l (ok.wv a (ok.fw a (own_frm e)))⟩
  have g : Grow s1.heap (s1.heap.push { cls := .type "list", data := .seq vs.toArray }) := Grow.push _
  have tA : (c.at s1.heap.objs.size c.ρ fun h => c.J h ∧ RowIs (joinV c.V (uno s1.heap.objs.size)) s1.heap.objs.size ds h).St { s1 with heap := s1.heap.push { cls := .type "list", data := .seq vs.toArray } } :=
    ⟨fun i o n e => g.keeps _ _ (t1.gl i o n e), fun b e => (Bool.or_eq_true_iff.mp e).elim (fun e => Nat.lt_of_lt_of_le (t1.vok b e) g.size) fun e => by
        rw [show b = s1.heap.objs.size by simpa [uno] using e]
        show _ < (s1.heap.push _).objs.size
        rw [Heap.size_push]; exact Nat.lt_succ_self _,
      let ⟨m, cm, f⟩ := t1.fr; ⟨m, cm, f.ns.keeps g.keeps, fun n d e => let ⟨o, p, r⟩ := f.cell n d e; ⟨o, g.keeps _ _ p, r⟩, fun y b e => let ⟨v, l, q⟩ := f.nm y b e; ⟨v, l, (hasNew (Nat.le_refl _) q).up g.up⟩⟩,
      (t1.up.le fun _ h => joinV_l h).trans g.up, ⟨t1.sa.gens, t1.sa.os⟩, ok.stab _ _ g.up t1.j, ⟨_, 0, Heap.get?_push_size _ rfl, by
        have := (hasAllNew (I := s1.heap.objs.size) (Nat.le_refl _) al).up (g.up (V := joinV c.V (uno s1.heap.objs.size)))
        simpa using this⟩⟩
  exact wpAny_mono (store (b := .raw (.ref s1.heap.objs.size)) okA tA rfl hx) (fun _ s2 ⟨t2, _, _⟩ => k _ s2 hVI hf t1.up.size (okA.put _ _) t2) fun _ _ f => f
/-- row[k:] -/
theorem Pu.cutRow (ok : c.Ok) {e l : Expr} {p pos : Pos} {r : Addr} {ds : List PyData} {k : Nat} (x : Pu c e (.raw (.ref r))) (hJ : ∀ h, c.J h → RowIs c.V r ds h) (y : Pd c l (.int (k : Int))) (hl : ds.length ≤ 2 ^ 20) : Pd c (.Subscript e (.Slice (Option.some l) Option.none Option.none p) pos) (.list (ds.drop k)) := fun s t => by
  refine cut_lst (lo := Option.some (k : Int)) (hi := Option.none) ok (Pp.some y) Pp.none (wpAny_mono (x s t) (fun u s1 ⟨g1, a1, h1⟩ => ?_) fun _ _ f => f)
  have t1 := t.grow ok g1 a1
  obtain ⟨items, n, l, al⟩ := hJ _ t1.j
  have hlen := al.length
  rw [List.length_map, Array.length_toList] at hlen
  refine ⟨t1, r, items.toList, h1, by simpa using l.isList, by rw [Array.length_toList]; omega, fun D s2 g2 a2 hD l2 => ⟨g1.trans g2, a1.trans a2, ?_⟩⟩
  rw [slicePick_from'] at l2
  have hv : c.V D = false := by
    cases e : c.V D
    · rfl
    · exact absurd (t1.vok D e) (Nat.not_lt.mpr hD)
  have al2 := (al.up (g2.up (V := c.V))).drop k
  refine (⟨rfl, hv, ⟨_, l2, rfl, 0, rfl⟩, by rw [dats, List.map_drop]; simpa using al2, ?_⟩ : LstD c.V s2.heap (.ref D) (ds.drop k) D (items.toList.drop k)).dat
  rw [List.length_drop, List.length_drop, Array.length_toList, hlen]
theorem Pu.max2 (ok : c.Ok) {x : PySem.Str} {p pos : Pos} {e1 e2 : Expr} {i j : Int} (hf : Pu c (.Name x p) (.raw (.builtin "max"))) (y1 : Pd c e1 (.int i)) (y2 : Pd c e2 (.int j)) (he : starEach [e1, e2] c.env = (false, eval e1 c.env) :: starEach [e2] c.env := by rfl) (he2 : starEach [e2] c.env = (false, eval e2 c.env) :: starEach [] c.env := by rfl) :
    Pd c (.Call (.Name x p) [e1, e2] [] pos) (.int (max i j)) :=
  Pu.bcall ok hf (Pa.cons ok y1 (Pa.cons ok y2 Pa.nil he2) he) (fun s vs t h => by
    obtain ⟨v, u, rfl, hv, hu⟩ := Has2 h
    obtain ⟨t1, rfl⟩ := Dat.int hv
    obtain ⟨t2, rfl⟩ := Dat.int hu
    refine wpAny_size (max_two_ints ok.rm.hn fun h' tk hk => ?_)
    by_cases hij : j > i
    · rw [if_pos hij]
      refine fun hz => ⟨⟨fun a o _ e => hk a o e, hz⟩, ⟨rfl, rfl⟩, ?_⟩
      rw [show max i j = j by omega]; exact hasInt ..
    · rw [if_neg hij]
      refine fun hz => ⟨⟨fun a o _ e => hk a o e, hz⟩, ⟨rfl, rfl⟩, ?_⟩
      rw [show max i j = i by omega]; exact hasInt ..) he (by rw [he2]; rfl)
end
end Mine
end TW32
section TW33
open PySem PySem.W PyProof.Rows
set_option Elab.async false
namespace Mine
set_option maxRecDepth 100000
section
variable {prog : Program} {w : World} {A : Around} {E : Value → Shared → Prop} {s : Shared} {env : Env}
theorem Call_methodK {o : PySem.Expr} {name : PySem.Str} {apos pos : Pos} {kws : List Keyword} {Q : Value → Shared → Prop}
    (hbase : attributeBase o name env (eval o env) = eval o env)
    (hfew : methodCallForm (([] : List PySem.Expr).length + kws.length) [] (backToKw pos (keywordEach kws env)) = true)
    (hline : (apos.endLine == pos.line) = true)
    (h : wpAny (model prog w) A (eval o env) (fun ov s₁ => ∃ (T id : String), PlainAttrs T ∧ Slot T name id ∧ typeOf (.builtin id) = Pure.pure (.type "method_descriptor") ∧ s₁.TypeIs ov T ∧
      (∀ a, ov = .ref a → ∃ ob, s₁.heap.get? a = some ob ∧ ob.dict = none) ∧ wpAny (model prog w) A (callWith pos (.builtin id) [ov] [] (backToKw pos (keywordEach kws env))) Q E s₁) E s) :
    wpAny (model prog w) A (eval (.Call (.Attribute o name apos) [] kws pos) env) Q E s := by
  rw [arm_eval_Call, hbase]
  refine wpAny_bind (wpAny_mono h (fun ov s₁ h₁ => ?_) fun _ _ e => e)
  obtain ⟨T, id, pa, slot, hty, hT, hd, hc⟩ := h₁
  refine wpAny_bind (wpAny_standAt ?_)
  have hpos : methodCallPos true o env apos pos = Pure.pure pos := by unfold methodCallPos; simp [hline]
  show wpAny _ _ (methodCall o name apos pos env ov (([] : List PySem.Expr).length + kws.length) [] (backToKw pos (keywordEach kws env))) _ _ _
  unfold methodCall
  rw [hfew]
  refine wpAny_bind (wpAny_holding (getMethod_builtin hT pa slot hty hd ?_))
  exact wpAny_bind (wpAny_of_eq hpos hc)
theorem evalArgs_kw0 {f : Value} {keywords : List (Option PySem.Str × Sem Value)} {Q : Args → Shared → Prop} (hall : keywords.all (·.1.isSome) = true)
    (h : wpAny (model prog w) A (evalAll (keywords.map (·.2))) (fun kvs s₂ => Q ⟨[], (keywords.filterMap (·.1)).zip kvs⟩ s₂) E s) : wpAny (model prog w) A (evalArgs f true [] keywords) Q E s := by
  unfold evalArgs
  show wpAny _ A (spliced [] >>= _) Q E s
  refine wpAny_bind (Calls.spliced_nil (wpAny_bind (wpAny_pure ?_)))
  refine wpAny_holding ?_
  rw [if_pos hall]
  refine wpAny_bind (wpAny_mono h (fun kvs s₂ h₂ => ?_) fun _ _ x => x)
  exact wpAny_bind (wpAny_pure (wpAny_pure h₂))
/-- l[-1] = v -/
theorem setItem_last {l : Addr} {items : Array Value} {n : Nat} {t : Tok} {v : Value} {Q : Unit → Shared → Prop} (hl : IsL s.heap l items n) (hz : 0 < items.size) (hz2 : items.size ≤ 2 ^ 20)
    (hQ : Q () { s with heap := s.heap.update l (Obj.mapSeq (·.setIfInBounds (items.size - 1) v)) }) :
    wpAny (model prog w) A (setItem (.ref l) (.int (-1) t) v) Q E s := by
  unfold setItem
  try with_reducible refine wpAny_holding ?_
  first | refine wpAny_bind (wpAny_pure ?_) | skip
  refine wpAny_bind (wpAny_sequenceKey hl.isList.typeIs (by decide) ?_)
  refine wpAny_bind (wpAny_callSpecial?_slot (name := PySem.Str.ofString "__setitem__") hl.isList.typeIs slot_list_setitem
    (wpAny_call_entry slot_list_setitem hl.isList.typeIs entry_list_setitem ?_ (args_list_setitem _ _ _)))
  show wpAny _ _ (Builtin.List.listSubscript? (.int (-1) t) >>= _) _ _ s
  refine wpAny_bind (wpAny_listSubscript_int (PySem.fitsIndex_neg (by decide) (by decide)) ?_)
  have hidx : seqIndex? (-1) items.size = some (items.size - 1) := by
    rw [PySem.seqIndex_neg (by decide) (by omega)]
    congr 1
    omega
  have hx : items[items.size - 1]? = some items[items.size - 1] := Array.getElem?_eq_getElem (by omega)
  show wpAny _ _ ((Builtin.List.listItems (.ref l) >>= fun xs => Pure.pure ((seqIndex? (Int.negSucc 0) xs.size).bind fun i => xs[i]?.map (i, ·))) >>= _) _ _ s
  refine wpAny_bind (wpAny_bind ?_)
  show wpAny _ _ (seqItems? (.ref l) >>= _) _ _ s
  refine wpAny_bind (wpAny_seqItems hl (by rfl) (wpAny_pure (wpAny_pure ?_)))
  rw [show seqIndex? (Int.negSucc 0) items.size = some (items.size - 1) from hidx]
  simp only [Option.bind_some, hx, Option.map_some]
  show wpAny _ _ (setSeqItemAt l (items.size - 1) v >>= _) _ _ s
  refine wpAny_bind (wpAny_setSeqItemAt hl rfl ?_)
  first
    | exact wpAny_bind (wpAny_pure (wpAny_pure ⟨.none, rfl, wpAny_pure hQ⟩))
    | exact wpAny_pure ⟨.none, rfl, wpAny_pure hQ⟩
end
section
variable {c : Cx}
theorem set_last (xs : Array Value) (v : Value) (hz : 0 < xs.size) : (xs.setIfInBounds (xs.size - 1) v).toList = xs.toList.take (xs.size - 1) ++ [v] := by
  obtain ⟨l⟩ := xs
  simp only [List.setIfInBounds_toArray, List.size_toArray] at *
  rw [List.set_eq_take_append_cons_drop]
  rw [if_pos (by omega)]
  congr 1
  rw [List.drop_of_length_le (by omega)]
/-- row[-1] = e -/
theorem do_setLast (ok : c.Ok) {s : Shared} (t : c.St s) {e o i : Expr} {rest : List Stmt} {p pos : Pos} {Q : Flow → Shared → Prop} {r : Addr} {ds : List PyData} {d d' : PyData} {J : Heap → Prop}
    (y : Pd c e d') (hf : Pu c o (.raw (.ref r))) (hi : Pd c i (.int (-1))) (hr : c.W r = true) (hfr : frm c.env r = false) (hJ : ∀ h, c.J h → RowIs c.V r (ds ++ [d]) h) (hl : ds.length < 2 ^ 20)
    (hJ' : ∀ h h', Heap.SameBut r h h' → c.J h → RowIs c.V r (ds ++ [d']) h' → J h') (stJ : ∀ h h', Up (own c.env) h h' → J h → J h') (k : ∀ s', ({ c with J := J } : Cx).Ok → ({ c with J := J } : Cx).St s' → Do ({ c with J := J } : Cx) rest Q s')
    (hs : swapsWith e (some (.Subscript o i p)) pos.line c.env = Pure.pure false := by rfl) : Do c (.Assign [.Subscript o i p] e pos :: rest) Q s := by
  refine do_cons (wpAny_Assign_Subscript (wpAny_mono (y s t) (fun v s1 ⟨g1, a1, h1⟩ => ?_) fun _ _ f => f) hs)
  have t1 := t.grow ok g1 a1
  refine wpAny_mono (hf s1 t1) (fun u s2 ⟨g2, a2, h2⟩ => ?_) fun _ _ f => f
  obtain rfl : u = .ref r := h2
  have t2 := t1.grow ok g2 a2
  refine wpAny_mono (hi s2 t2) (fun u s3 ⟨g3, a3, h3⟩ => ?_) fun _ _ f => f
  obtain ⟨tk, rfl⟩ := Dat.int h3
  have t3 := t2.grow ok g3 a3
  obtain ⟨items, n, l, al⟩ := hJ _ t3.j
  have hlen := al.length
  rw [List.length_map, List.length_append, Array.length_toList] at hlen
  have hlen : items.size = ds.length + 1 := hlen
  refine setItem_last l (by omega) (by omega) ?_
  have sb := Heap.SameBut.update s3.heap r (Obj.mapSeq fun xs => xs.setIfInBounds (items.size - 1) v)
  have uV := upBut (V := c.V) (ok.wv r hr) sb
  have row : RowIs c.V r (ds ++ [d']) (s3.heap.update r (Obj.mapSeq fun xs => xs.setIfInBounds (items.size - 1) v)) := ⟨_, _, IsL.update l _, by
    rw [set_last _ _ (by omega), dats, List.map_append]
    have a1 := (al.up uV).take (items.size - 1)
    have e1 : (dats (ds ++ [d])).take (items.size - 1) = ds.map .dat := by
      rw [dats, List.map_append, List.take_append_of_le_length (by rw [List.length_map]; omega)]
      exact List.take_of_length_le (by rw [List.length_map]; omega)
    rw [e1] at a1
    exact a1.app (us := [v]) (cs := [.dat d']) ⟨h1.up ((g2.trans g3).up.trans uV), trivial⟩⟩
  exact k _ (ok.j stJ) (t3.rowSet ok hr hfr sb (hJ' _ _ sb t3.j row))
/-- x, y = e -/
theorem do_assign2 (ok : c.Ok) {s : Shared} (t : c.St s) {x y : PySem.Str} {e : Expr} {rest : List Stmt} {p1 p2 p3 pos : Pos} {n : Nat} {Q : Flow → Shared → Prop} {d1 d2 : PyData} (h : Pd c e (.tuple [d1, d2])) (hx : StoreOk c.env x) (hy : StoreOk c.env y)
    (k : ∀ s', ((c.put x (.dat d1)).put y (.dat d2)).Ok → ((c.put x (.dat d1)).put y (.dat d2)).St s' → Do ((c.put x (.dat d1)).put y (.dat d2)) rest Q s')
    (hs : swapsWithSole [.Tuple [.Name x p1, .Name y p2] n p3] e pos.line c.env = Pure.pure false := by rfl) (hw : swappedStores [.Tuple [.Name x p1, .Name y p2] n p3] e c.env = Pure.pure none := by rfl) :
    Do c (.Assign [.Tuple [.Name x p1, .Name y p2] n p3] e pos :: rest) Q s :=
  do_cons (Assign_Tuple (wpAny_mono (h s t) (fun _ s1 ⟨g1, a1, h1⟩ => asg2 (P := fun s2 => Do ((c.put x (.dat d1)).put y (.dat d2)) rest Q s2) ok (t.grow ok g1 a1) h1 hx hy k) fun _ _ f => f) hs hw)
end
end Mine
end TW33
section TW34
open PySem PySem.W PyProof.Rows
set_option Elab.async false
namespace Mine
set_option maxRecDepth 100000
section
variable {c : Cx}
/-- row.sort(key=lambda r: r[0]) -/
theorem do_sort (ok : c.Ok) {s : Shared} (t : c.St s) {x r : PySem.Str} {rest : List Stmt} {p pr p1 p2 p3 lp kp pa pos pos2 : Pos} {kk : Nat} {Q : Flow → Shared → Prop} {a : Addr} {ps : List (Int × Int)} {m : Option Addr}
    (hf : Pu c (.Name x p) (.raw (.ref a))) (hr : c.W a = true) (hfr : frm c.env a = false) (ha : 336 ≤ a) (h7 : c.W 175 = true) (hcode : c.env.code = .ref 179) (hcl : closureFor (lamSc r) c.env = Pure.pure []) (hcells : c.env.cells = []) (hL : 336 ≤ c.env.locals)
    (hJ : ∀ h, c.J h → RowIs c.V a (ps.map pairD) h ∧ TabSt lp (c.env.qual ++ "<lambda>") m h) (hm : ∀ c', m = some c' → c' ≠ a ∧ c' ≠ c.env.locals) (h64 : ps.length < 64) (hd : (r == ("__debug__" : PySem.Str)) = false)
    (k : ∀ (s' : Shared) (ps' : List (Int × Int)) (c' : Addr), ps'.Perm ps → (ps'.Pairwise fun p q => p.1 ≤ q.1) → c' ≠ c.env.locals → (m = some c' ∨ m = none ∧ s.heap.objs.size ≤ c') → ({ c with J := fun h => RowIs c.V a (ps'.map pairD) h ∧ TabSt lp (c.env.qual ++ "<lambda>") (some c') h } : Cx).Ok →
      ({ c with J := fun h => RowIs c.V a (ps'.map pairD) h ∧ TabSt lp (c.env.qual ++ "<lambda>") (some c') h } : Cx).St s' → Do ({ c with J := fun h => RowIs c.V a (ps'.map pairD) h ∧ TabSt lp (c.env.qual ++ "<lambda>") (some c') h } : Cx) rest Q s')
    (hline : (pa.endLine == pos.line) = true) (hb : attributeBase (.Name x p) ⟨⟨[115, 111, 114, 116]⟩⟩ c.env (eval (.Name x p) c.env) = eval (.Name x p) c.env := by rfl)
    (hi : interactive c.env = false := by rfl) (hs : swapsWith (.Call (.Attribute (.Name x p) ⟨⟨[115, 111, 114, 116]⟩⟩ pa) [] [⟨some ⟨⟨[107, 101, 121]⟩⟩, lamE r pr p1 p2 p3 lp kk, kp⟩] pos) none pos2.line c.env = Pure.pure false := by rfl) :
    Do c (.Expr (.Call (.Attribute (.Name x p) ⟨⟨[115, 111, 114, 116]⟩⟩ pa) [] [⟨some ⟨⟨[107, 101, 121]⟩⟩, lamE r pr p1 p2 p3 lp kk, kp⟩] pos) pos2 :: rest) Q s := by
  refine do_cons (wpAny_Expr (Call_methodK hb (by rfl) hline (wpAny_mono (hf s t) (fun u s1 ⟨g1, a1, h1⟩ => ?_) fun _ _ f => f)) hi hs)
  obtain rfl : u = .ref a := h1
  have t1 := t.grow ok g1 a1
  obtain ⟨⟨items, n, l, al⟩, tb⟩ := hJ _ t1.j
  refine ⟨"list", "list.sort", F.plainAttrs_list, PyProof.Rows.slot_list_sort, F.type_list_sort, ⟨_, l, rfl⟩, fun a e => ?_, callWith_builtin_kwB (by rfl) (by rfl) (evalArgs_kw0 (by rfl) (kws_cons (wpAny_mono (mkLam (m := m) t1.gl ok.gb hcode hcl tb) (fun v s2 ⟨f, c', pm, ctv, tk, h2, hv, hs2, hfz, u2, hfo, tb2, hcc⟩ => kws_nil ?_) fun _ _ f => f)))⟩
  · cases e; exact ⟨_, l, rfl⟩
  subst hv
  have e7 : ∀ b, uno 175 b = true → b = 175 := fun b e => by simpa [uno] using e
  have f7 : frm c.env 175 = false := by
    cases e : frm c.env 175
    · rfl
    · rcases frm_cases e with e | ⟨y, e⟩
      · exact absurd (e ▸ hL : 336 ≤ 175) (by decide)
      · rw [hcells] at e; cases e
  have hu2 : Up (uno 175) s1.heap s2.heap := by rw [hs2]; exact u2
  have al2 : a < s1.heap.objs.size := Heap.lt_size l
  have Ll2 : c.env.locals < s1.heap.objs.size := t1.vok _ (ok.wv _ (ok.fw _ (frm_locals _)))
  have hc1 : c' ≠ a ∧ c' ≠ c.env.locals := by
    rcases hcc with e | ⟨_, e⟩
    · exact hm c' e
    · exact ⟨Nat.ne_of_gt (Nat.lt_of_lt_of_le al2 e), Nat.ne_of_gt (Nat.lt_of_lt_of_le Ll2 e)⟩
  have hVa : c.V a = true := ok.wv a hr
  have hVL : c.V c.env.locals = true := ok.wv _ (ok.fw _ (frm_locals _))
  have aL : a ≠ c.env.locals := fun e => by rw [e, frm_locals] at hfr; cases hfr
  have t2 : ({ c with J := fun _ => True } : Cx).St s2 := t1.mv ok hu2 (by rw [hs2]; exact ⟨rfl, rfl⟩) (fun b e => by rw [e7 b e]; exact h7) (fun b e => by rw [e7 b e]; exact f7) trivial
  have l2 : IsL s2.heap a items n := hu2.keep _ _ (uno_ne (Nat.ne_of_gt (Nat.lt_of_lt_of_le (by decide) ha))) l
  obtain ⟨mm, cm, fr⟩ := t2.fr
  have fns : s2.heap.Ns c.env.locals mm := fr.ns
  obtain ⟨tb21, tb22⟩ := (by rw [hs2]; exact tb2 : TabSt lp (c.env.qual ++ "<lambda>") (some c') s2.heap)
  have hfo2 : s2.heap.get? f = some (kla_obj "<lambda>" (c.env.qual ++ "<lambda>") (lamPar r pr) (lamBody r p1 p2 p3 kk) (lamSc r) [] pm c' ctv) := by rw [hs2]; exact hfo
  refine wpAny_mono (sortRun (V := c.V) (vs := items.toList) t2.gl (by have := ok.rm.depth; show c.A.depth < 1000; omega) fns hL ha aL hVa hVL (by simpa using l2) (al.up (hu2.le fun b e => by rw [e7 b e]; exact ok.wv _ h7)) h64 (Nat.ne_of_gt (Nat.lt_of_lt_of_le al2 hfz)) (Nat.ne_of_gt (Nat.lt_of_lt_of_le Ll2 hfz)) hc1.1 hc1.2 hfo2 tb22 hd) (fun v s3 ⟨hv, h3, tk3, out, n', ps', hs3, keep, hz, ns3, l3, al3, hp, hso⟩ => ?_) fun _ _ f => f
  subst hv
  show Do c rest Q s3
  have ee : ∀ b, tri a c.env.locals c.env.locals b = true → b = a ∨ b = c.env.locals := fun b e => (tri_cases e).elim .inl fun e => e.elim .inr .inr
  have u3 : Up (tri a c.env.locals c.env.locals) s2.heap s3.heap := by
    rw [hs3]
    refine ⟨fun b o e q => keep b o (fun h => ?_) (fun h => ?_) q, hz⟩
    · subst h; unfold tri at e; simp at e
    · subst h; unfold tri at e; simp at e
  have uV : Up c.V s2.heap s3.heap := u3.le fun b e => (ee b e).elim (fun e => e ▸ hVa) fun e => e ▸ hVL
  have uW : Up c.W s2.heap s3.heap := u3.le fun b e => (ee b e).elim (fun e => e ▸ hr) fun e => e ▸ ok.fw _ (frm_locals _)
  have n7 : tri a c.env.locals c.env.locals 175 = false := by
    cases e : tri a c.env.locals c.env.locals 175
    · rfl
    · rcases ee _ e with e | e
      · exact absurd (e ▸ ha : 336 ≤ 175) (by decide)
      · exact absurd (e ▸ hL : 336 ≤ 175) (by decide)
  have tb3 : TabSt lp (c.env.qual ++ "<lambda>") (some c') s3.heap := TabSt.up (m := some c') ⟨tb21, tb22⟩ u3 n7 fun d e => by
    cases e
    cases e : tri a c.env.locals c.env.locals c'
    · rfl
    · rcases ee _ e with e | e
      · exact absurd e hc1.1
      · exact absurd e hc1.2
  refine k s3 ps' c' hp hso hc1.2 ?_ (ok.j fun h h' u ⟨j1, j2⟩ => ⟨j1.up u (own_no hfr) fun b e => ok.wv b (ok.fw b (own_frm e)), j2.up u (own_no f7) fun d e => ?_⟩) ⟨fun i o ni e => ?_, fun b e => ?_, ⟨mm, cm, by rw [hs3]; exact ns3, fun n d e => ?_, fun y b e => ?_⟩, t2.up.trans uW, ?_, ⟨⟨out.toArray, n', by rw [hs3]; exact l3, by rw [hs3]; simpa using al3⟩, tb3⟩⟩
  · rcases hcc with e | ⟨e1, e2⟩
    · exact .inl e
    · exact .inr ⟨e1, Nat.le_trans g1.size e2⟩
  · cases e
    apply own_no
    cases e : frm c.env c'
    · rfl
    · rcases frm_cases e with e | ⟨y, e⟩
      · exact absurd e hc1.2
      · rw [hcells] at e; cases e
  · exact uV.keep _ _ (ok.old i (L1_lt e) ni) (t2.gl i o ni e)
  · exact Nat.lt_of_lt_of_le (t2.vok b e) uV.size
  · rw [hcells] at e; cases e
  · obtain ⟨v, li, q⟩ := fr.nm y b e
    exact ⟨v, li, q.up uV⟩
  · exact t2.sa.trans (by rw [hs3]; exact ⟨rfl, rfl⟩)
end
end Mine
end TW34
section TW35
open PySem PySem.W PyProof.Rows
set_option Elab.async false
namespace Mine
set_option maxRecDepth 100000
/-- merging, told without the program -/
structure MInv (S : List (Int × Int)) (i : Nat) (k : List (Int × Int) × (Int × Int)) : Prop where
  len : k.1.length ≤ i
  row : (k.1 ++ [k.2]).Pairwise fun p q => p.2 < q.1
  box : ∀ p ∈ k.1 ++ [k.2], p.1 ≤ p.2
  low : ∀ q ∈ S.drop (i + 1), k.2.1 ≤ q.1
  has : ∀ n, hasT n (k.1 ++ [k.2]) = hasT n (S.take (i + 1))
theorem hasT_app (n : Int) (a b : List (Int × Int)) : hasT n (a ++ b) = (hasT n a || hasT n b) := List.any_append
theorem hasT_one (n : Int) (p : Int × Int) : hasT n [p] = hasP n p := by unfold hasT; rw [List.any_cons, List.any_nil, Bool.or_false]
theorem hasP_iff {n : Int} {p : Int × Int} : hasP n p = true ↔ p.1 ≤ n ∧ n ≤ p.2 := by unfold hasP; rw [Bool.and_eq_true_iff, decide_eq_true_iff, decide_eq_true_iff]
theorem MInv.init {S : List (Int × Int)} (h : 0 < S.length) (hb : ∀ p ∈ S, p.1 ≤ p.2) (hs : S.Pairwise fun p q => p.1 ≤ q.1) : MInv S 0 ([], S[0]) := by
  refine ⟨Nat.le_refl _, List.pairwise_singleton _ _, fun p hp => ?_, fun q hq => ?_, fun n => ?_⟩
  · rw [List.nil_append, List.mem_singleton] at hp
    subst hp
    exact hb _ (List.getElem_mem h)
  · obtain ⟨j, hj, rfl⟩ := List.mem_iff_getElem.mp hq
    rw [List.getElem_drop]
    exact List.pairwise_iff_getElem.mp hs 0 _ h _ (by omega)
  · rw [List.take_succ_eq_append_getElem h]; rfl
theorem MInv.step {S : List (Int × Int)} {i : Nat} {k : List (Int × Int) × (Int × Int)} (x : MInv S i k) (h : i + 1 < S.length) (hb : ∀ p ∈ S, p.1 ≤ p.2) (hs : S.Pairwise fun p q => p.1 ≤ q.1) :
    MInv S (i + 1) (if S[i + 1].1 ≤ k.2.2 then (k.1, (k.2.1, max k.2.2 S[i + 1].2)) else (k.1 ++ [k.2], S[i + 1])) := by
  obtain ⟨len, row, box, low, has⟩ := x
  have hbi := hb _ (List.getElem_mem h)
  have hlo : k.2.1 ≤ S[i + 1].1 := low _ (List.mem_iff_getElem.mpr ⟨0, by rw [List.length_drop]; omega, by rw [List.getElem_drop]⟩)
  have hbk := box k.2 (List.mem_append_right _ (List.mem_singleton.mpr rfl))
  obtain ⟨row1, _, row2⟩ := List.pairwise_append.mp row
  have ht : S.take (i + 1 + 1) = S.take (i + 1) ++ [S[i + 1]] := List.take_succ_eq_append_getElem h
  generalize hpS : S[i + 1] = p at *
  by_cases hc : p.1 ≤ k.2.2
  · rw [if_pos hc]
    refine ⟨Nat.le_succ_of_le len, ?_, fun q hq => ?_, fun q hq => ?_, fun n => ?_⟩
    · refine List.pairwise_append.mpr ⟨row1, List.pairwise_singleton _ _, fun a ha b hb' => ?_⟩
      rw [List.mem_singleton] at hb'
      subst hb'
      exact row2 a ha k.2 (List.mem_singleton.mpr rfl)
    · rcases List.mem_append.mp hq with hq | hq
      · exact box q (List.mem_append_left _ hq)
      · rw [List.mem_singleton] at hq
        subst hq
        show k.2.1 ≤ max k.2.2 p.2
        omega
    · refine low q ?_
      have : S.drop (i + 1 + 1) = (S.drop (i + 1)).drop 1 := by rw [List.drop_drop]
      rw [this] at hq
      exact List.mem_of_mem_drop hq
    · rw [ht, hasT_app, hasT_one, hasT_app, hasT_one, ← has, hasT_app, hasT_one, Bool.or_assoc]
      congr 1
      rw [Bool.eq_iff_iff, Bool.or_eq_true_iff, hasP_iff, hasP_iff, hasP_iff]
      show k.2.1 ≤ n ∧ n ≤ max k.2.2 p.2 ↔ _
      omega
  · rw [if_neg hc]
    refine ⟨by rw [List.length_append]; exact Nat.succ_le_succ len, ?_, fun q hq => ?_, fun q hq => ?_, fun n => ?_⟩
    · refine List.pairwise_append.mpr ⟨row, List.pairwise_singleton _ _, fun a ha b hb' => ?_⟩
      rw [List.mem_singleton] at hb'
      subst hb'
      rcases List.mem_append.mp ha with ha | ha
      · have := row2 a ha k.2 (List.mem_singleton.mpr rfl)
        have hk := Int.not_le.mp hc
        omega
      · rw [List.mem_singleton] at ha
        subst ha
        exact Int.not_le.mp hc
    · rcases List.mem_append.mp hq with hq | hq
      · exact box q hq
      · rw [List.mem_singleton] at hq; subst hq; exact hbi
    · show p.1 ≤ q.1
      obtain ⟨j, hj, rfl⟩ := List.mem_iff_getElem.mp hq
      rw [List.getElem_drop]
      rw [List.length_drop] at hj
      have e : (S.take (i + 1 + 1))[i + 1]? = S[i + 1]? := List.getElem?_take_of_lt (by omega)
      rw [ht, List.getElem?_append_right (by rw [List.length_take]; omega), List.length_take, Nat.min_eq_left (by omega), Nat.sub_self, List.getElem?_cons_zero, List.getElem?_eq_getElem h] at e
      rw [Option.some.inj e]
      exact List.pairwise_iff_getElem.mp hs _ _ h (by omega) (by omega)
    · rw [ht, hasT_app n (S.take (i + 1)), hasT_one, ← has]
      exact (hasT_app n _ _).trans (by rw [hasT_one])
structure MergeOk (ts : List (List (Int × Int))) (told : List (Int × Int)) : Prop where
  row : told.Pairwise fun p q => p.2 < q.1
  has : ∀ n, hasTs n ts = hasT n told
  len : told.length ≤ ts.flatten.length
theorem hasTs_flat (n : Int) (ts : List (List (Int × Int))) : hasTs n ts = hasT n ts.flatten := by unfold hasTs hasT; rw [List.any_flatten]
theorem MergeOk.nil {ts : List (List (Int × Int))} (h : ts.flatten = []) : MergeOk ts [] := ⟨List.Pairwise.nil, fun n => by rw [hasTs_flat, h], Nat.zero_le _⟩
theorem MInv.fin {S : List (Int × Int)} {i : Nat} {k : List (Int × Int) × (Int × Int)} {ts : List (List (Int × Int))} (x : MInv S i k) (h : i + 1 = S.length) (p : S.Perm ts.flatten) : MergeOk ts (k.1 ++ [k.2]) := by
  refine ⟨x.row, fun n => ?_, ?_⟩
  · rw [hasTs_flat, x.has, h, List.take_length]
    exact (p.any_eq (f := hasP n)).symm
  · rw [List.length_append, ← p.length_eq, ← h]
    exact Nat.succ_le_succ x.len
end Mine
end TW35
section TW36
open PySem PySem.W PyProof.Rows
set_option Elab.async false
namespace Mine
set_option maxRecDepth 100000
/-- a new volatile list of what stands in the display; what was known is told anew -/
theorem do_rowE' {c : Cx} (ok : c.Ok) {s : Shared} (t : c.St s) {x : PySem.Str} {es : List PySem.Expr} {ds : List PyData} {rest : List Stmt} {p p' pos : Pos} {Q : Flow → Shared → Prop} {Jn : Addr → Heap → Prop} (ha : Pa c es (dats ds)) (hl : ds.length ≤ 2 ^ 20) (hx : StoreOk c.env x)
    (jnew : ∀ h r, h.objs.size ≤ r → c.J h → Jn r h) (stJ : ∀ r h h', Up (own c.env) h h' → Jn r h → Jn r h')
    (k : ∀ r s', (∀ a, c.V a = true → a ≠ r) → frm c.env r = false → c.s₀.heap.objs.size ≤ r → s.heap.objs.size ≤ r → ((c.at r c.ρ fun h => Jn r h ∧ RowIs (joinV c.V (uno r)) r ds h).put x (.raw (.ref r))).Ok → ((c.at r c.ρ fun h => Jn r h ∧ RowIs (joinV c.V (uno r)) r ds h).put x (.raw (.ref r))).St s' →
      Do ((c.at r c.ρ fun h => Jn r h ∧ RowIs (joinV c.V (uno r)) r ds h).put x (.raw (.ref r))) rest Q s')
    (hs : swapsWith (.List es p) (some (.Name x p')) pos.line c.env = Pure.pure false := by rfl) : Do c (.Assign [.Name x p'] (.List es p) pos :: rest) Q s := by
  refine do_cons (wpAny_Assign_Name (PySem.wpAny_List (wpAny_mono (ha s p t) (fun vs s1 ⟨g1, a1, al⟩ => ?_) fun _ _ f => f)) hs)
  have t1 := t.grow ok g1 a1
  have hlen := al.length
  rw [List.length_map] at hlen
  have := sizeLine_eq
  refine ⟨by omega, ?_⟩
  have h336 := t1.gl.size
  have hVI : ∀ b, c.V b = true → b ≠ s1.heap.objs.size := fun b hb => Nat.ne_of_lt (t1.vok b hb)
  have hf : frm c.env s1.heap.objs.size = false := by
    cases e : frm c.env s1.heap.objs.size
    · rfl
    · exact absurd rfl (hVI _ (ok.wv _ (ok.fw _ e)))
  have okA : (c.at s1.heap.objs.size c.ρ fun h => Jn s1.heap.objs.size h ∧ RowIs (joinV c.V (uno s1.heap.objs.size)) s1.heap.objs.size ds h).Ok :=
    ok.at h336 fun h h' u ⟨a, b⟩ => ⟨stJ _ h h' u a, b.up u (own_no hf) fun a e => joinV_l (ok.wv a (ok.fw a (own_frm e)))⟩
  have g : Grow s1.heap (s1.heap.push { cls := .type "list", data := .seq vs.toArray }) := Grow.push _
  have tA : (c.at s1.heap.objs.size c.ρ fun h => Jn s1.heap.objs.size h ∧ RowIs (joinV c.V (uno s1.heap.objs.size)) s1.heap.objs.size ds h).St { s1 with heap := s1.heap.push { cls := .type "list", data := .seq vs.toArray } } :=
    ⟨fun i o n e => g.keeps _ _ (t1.gl i o n e), fun b e => (Bool.or_eq_true_iff.mp e).elim (fun e => Nat.lt_of_lt_of_le (t1.vok b e) g.size) fun e => by
        rw [show b = s1.heap.objs.size by simpa [uno] using e]
        show _ < (s1.heap.push _).objs.size
        rw [Heap.size_push]; exact Nat.lt_succ_self _,
      let ⟨m, cm, f⟩ := t1.fr; ⟨m, cm, f.ns.keeps g.keeps, fun n d e => let ⟨o, p, r⟩ := f.cell n d e; ⟨o, g.keeps _ _ p, r⟩, fun y b e => let ⟨v, l, q⟩ := f.nm y b e; ⟨v, l, (hasNew (Nat.le_refl _) q).up g.up⟩⟩,
      (t1.up.le fun _ h => joinV_l h).trans g.up, ⟨t1.sa.gens, t1.sa.os⟩, stJ _ _ _ g.up (jnew _ _ (Nat.le_refl _) t1.j), ⟨_, 0, Heap.get?_push_size _ rfl, by
        have := (hasAllNew (I := s1.heap.objs.size) (Nat.le_refl _) al).up (g.up (V := joinV c.V (uno s1.heap.objs.size)))
        simpa using this⟩⟩
  exact wpAny_mono (store (b := .raw (.ref s1.heap.objs.size)) okA tA rfl hx) (fun _ s2 ⟨t2, _, _⟩ => k _ s2 hVI hf t1.up.size g1.size (okA.put _ _) t2) fun _ _ f => f
noncomputable abbrev fd180 (P : Params) : FuncData := funcOf (Fast.tw13510328391755620831 P)
theorem fn180 (P : Params) : FnOk P 180 (fd180 P) (stmtsOf (fd180 P)) := ⟨⟨_, by rfl, by rfl⟩, by decide, by rfl, by rfl, by rfl, by rfl, by rfl, by rfl, by rfl, ⟨_, _, _, _, by rfl, by decide, by rfl, by rfl, by rfl⟩⟩
abbrev lamPos : Pos := ⟨81, 24, 81, 38⟩
noncomputable abbrev mq (P : Params) : PySem.Str := (callEnvC (fd180 P) 0 180).qual ++ "<lambda>"
theorem bind180 {w : World} {A : Around} {V : Vol} {s : Shared} {vs : List Value} {ds : List PyData} (vf : VFine w.params V s.heap) (hvs : HasAll V s.heap vs (dats ds)) (hl : ds.length ≤ 2 ^ 20) :
    wpAny (model pw w) A (bindArgs (fd180 w.params) ⟨vs, []⟩) (fun b s' => ∃ us, b = ([⟨⟨[116, 117, 112, 108, 101, 115]⟩⟩] : List PySem.Str).zip us ∧ ([⟨⟨[116, 117, 112, 108, 101, 115]⟩⟩] : List PySem.Str).length = us.length ∧ Grow s.heap s'.heap ∧ Sa s s' ∧ HasAll V s'.heap us [.dat (.tuple ds)]) (fun _ _ => False) s := by
  have hlen := hvs.length
  rw [List.length_map] at hlen
  have := sizeLine_eq
  have key : wpAny (model pw w) A (do let t ← newTuple vs; Pure.pure [((⟨⟨[116, 117, 112, 108, 101, 115]⟩⟩ : PySem.Str), t)]) (fun b s' => ∃ us, b = ([⟨⟨[116, 117, 112, 108, 101, 115]⟩⟩] : List PySem.Str).zip us ∧ ([⟨⟨[116, 117, 112, 108, 101, 115]⟩⟩] : List PySem.Str).length = us.length ∧ Grow s.heap s'.heap ∧ Sa s s' ∧ HasAll V s'.heap us [.dat (.tuple ds)]) (fun _ _ => False) s :=
    wpAny_bind (wpAny_newTuple (wpAny_pure ⟨[_], rfl, rfl, Grow.push _, ⟨rfl, rfl⟩, (newTup vf.vok hvs).dat, trivial⟩) (by omega))
  rw [show bindArgs (fd180 w.params) ⟨vs, []⟩ = (do let t ← newTuple vs; Pure.pure [((⟨⟨[116, 117, 112, 108, 101, 115]⟩⟩ : PySem.Str), t)]) by cases vs <;> rfl]
  exact key
theorem frm_locals' (fd : FuncData) (L a : Addr) : frm (callEnvC fd L a) L = true := frm_locals (callEnvC fd L a)
theorem pair_flat (ts : List (List (Int × Int))) (i : Nat) (h : i < ts.length) : (ts.take (i + 1)).flatten = (ts.take i).flatten ++ ts[i] := by
  rw [List.take_succ_eq_append_getElem h, List.flatten_append]; simp
theorem flat_take_len (ts : List (List (Int × Int))) (i : Nat) : (ts.take i).flatten.length ≤ ts.flatten.length := by
  have : ts.flatten = (ts.take i).flatten ++ (ts.drop i).flatten := by rw [← List.flatten_append, List.take_append_drop]
  rw [this, List.length_append]; omega
set_option maxHeartbeats 4000000 in
theorem mergeRun {w : World} {A : Around} {V : Vol} {s : Shared} {vs : List Value} {ts : List (List (Int × Int))} {m : Option Addr} (rm : Rm A 1) (vf : VFine w.params V s.heap) (hvs : HasAll V s.heap vs (dats (ts.map tblD))) (hn : ts.length ≤ 8) (hflat : ts.flatten.length < 64)
    (hbox : ∀ p ∈ ts.flatten, p.1 ≤ p.2) (htab : TabSt lamPos (mq w.params) m s.heap) :
    wpAny (model pw w) A (call (.ref 180) vs) (fun v s' => Up (uno 175) s.heap s'.heap ∧ Sa s s' ∧ ∃ (m' : Option Addr) (told : List (Int × Int)), TabSt lamPos (mq w.params) m' s'.heap ∧ MergeOk ts told ∧ Dat V s'.heap v (tblD told) ∧
      ((ts.flatten = [] → m' = m ∧ told = []) ∧ (ts.flatten ≠ [] → ∃ c', m' = some c')) ∧ (m' = m ∨ m = none ∧ ∃ c', m' = some c' ∧ s.heap.objs.size ≤ c')) (fun _ _ => False) s := by
  refine enterV (n := 0) (X := uno 175) (ns := [⟨⟨[116, 117, 112, 108, 101, 115]⟩⟩]) (bs := [.dat (.tuple (ts.map tblD))]) (J := TabSt lamPos (mq w.params) m) (fn180 w.params) rm vf (fun A' => bind180 vf hvs (by rw [List.length_map]; omega)) (of_decide_eq_true (by rfl)) (by rfl) (fun a e => by rw [show a = 175 by simpa [uno] using e]; exact vf.vtab) htab htab.new fun L s0 s1 g0 sa0 hL nf ok t => ?_
  have hmlt : ∀ c', m = some c' → c' < s.heap.objs.size := fun c' e => by subst e; exact htab.lt
  have hz0 : s.heap.objs.size ≤ s0.heap.objs.size := g0.size
  have h336 : 336 ≤ s0.heap.objs.size := (vf.grow g0).gl.size
  have f7 : frm (callEnvC (fd180 w.params) L 180) 175 = false := by
    cases e : frm (callEnvC (fd180 w.params) L 180) 175
    · rfl
    · exact absurd (Nat.le_trans h336 (nf _ e)) (by decide)
  have fm : ∀ c', m = some c' → frm (callEnvC (fd180 w.params) L 180) c' = false := fun c' e => by
    cases e2 : frm (callEnvC (fd180 w.params) L 180) c'
    · rfl
    · exact absurd (Nat.le_trans hz0 (nf _ e2)) (Nat.not_le.mpr (hmlt c' e))
  have hLL : 336 ≤ L := by rw [hL]; exact h336
  have w7 : (joinV (uno 175) (frm (callEnvC (fd180 w.params) L 180))) 175 = true := joinV_l (by simp [uno])
  refine do_doc ok t fun s2 t => ?_
  refine do_row ok t (.inl (by rfl)) fun r1 s3 hV1 hf1 hI1 ok t => ?_
  have hr1 : s0.heap.objs.size ≤ r1 := hI1
  have r17 : r1 ≠ 175 := Nat.ne_of_gt (Nat.lt_of_lt_of_le (by decide) (Nat.le_trans h336 hr1))
  have mr1 : ∀ c', m = some c' → c' ≠ r1 := fun c' e => Nat.ne_of_lt (Nat.lt_of_lt_of_le (hmlt c' e) (Nat.le_trans hz0 hr1))
  refine do_forN (κ := List (Int × Int)) (N := fun n bs => n = (ts.map tblD).length ∧ bs = fun i => Bnd.dat ((ts.map tblD).getD i .none)) ok (wpAny_mono (hitT ok t (Pu.name (b := .dat (.tuple (ts.map tblD))) ok (by rfl))) (fun _ _ ⟨a, b, d⟩ => ⟨a, b, _, _, ⟨rfl, rfl⟩, d⟩) fun _ _ f => f)
    (fun _ => [(⟨⟨[97, 108, 108, 95, 114, 97, 110, 103, 101, 115]⟩⟩, .raw (.ref r1)), (⟨⟨[116, 117, 112, 108, 101, 115]⟩⟩, .dat (.tuple (ts.map tblD)))]) (fun V' k h => RowIs V' r1 (k.map pairD) h ∧ TabSt lamPos (mq w.params) m h) (fun i k => k = (ts.take i).flatten)
    (fun V' k F h h' mx u j => ?_) (fun k h I hz j => ⟨j.1.new hz, j.2⟩) (fun k h I j => ⟨j.1.back, j.2⟩) [] rfl (fun s5 t => ⟨t.gl, t.vok, (t.sub (ρ' := [(⟨⟨[97, 108, 108, 95, 114, 97, 110, 103, 101, 115]⟩⟩, .raw (.ref r1)), (⟨⟨[116, 117, 112, 108, 101, 115]⟩⟩, .dat (.tuple (ts.map tblD)))]) ⟨by rfl, by rfl, trivial⟩).fr, t.up, t.sa, ⟨t.j.2, t.j.1⟩⟩)
    (fun n bs I K i k s5 v hN hi hk wk hI hV ok t hv => ?_) (fun n bs k s5 hN hk ok t => ?_)
  · have hF : ∀ a, frm (callEnvC (fd180 w.params) L 180) a = false → a < s3.heap.objs.size → F a = false := fun a h1 h2 => by
      cases e : F a
      · rfl
      · rcases (mx a e).2 with q | q
        · rw [show frm (callEnvC (fd180 w.params) L 180) a = true from own_frm q] at h1; cases h1
        · exact absurd h2 (Nat.not_lt.mpr q)
    have hz3 : s0.heap.objs.size ≤ s3.heap.objs.size := t.up.size
    exact ⟨j.1.up u (hF _ hf1 (t.vok r1 (joinV_r (by simp [uno])))) fun a h => (mx a h).1, j.2.up u (hF _ f7 (Nat.lt_of_lt_of_le (by decide) (Nat.le_trans h336 hz3))) fun c' e => hF _ (fm c' e) (Nat.lt_of_lt_of_le (hmlt c' e) (Nat.le_trans hz0 hz3))⟩
  · obtain ⟨rfl, hbs⟩ := hN
    have hi' : i < ts.length := by simpa using hi
    have hx : bs i = .dat (tblD ts[i]) := by rw [hbs]; exact congrArg Bnd.dat (getD_map tblD hi)
    rw [hx] at hv
    refine asg1 ok t hv (.inl (by rfl)) fun s6 ok t => ?_
    have hlen := flat_take_len ts (i + 1)
    rw [pair_flat ts i hi', List.length_append] at hlen
    refine do_extend (r := r1) (ds := k.map pairD) (es := (ts[i]).map pairD) (J := fun h => (RowIs (joinV (joinV (joinV V (frm (callEnvC (fd180 w.params) L 180))) (uno r1)) (uno I)) r1 ((k ++ ts[i]).map pairD) h ∧ TabSt lamPos (mq w.params) m h) ∧ K (i + 1) h) ok t (Pu.name ok (by rfl)) (joinV_l (joinV_r (by simp [uno]))) hf1 (fun h j => j.1.1)
      (by rw [List.length_map, List.length_map, hk]; omega) (Pu.name ok (by rfl)) (fun h h' sb j row => ?_) (fun h h' u j => ⟨⟨j.1.1.up u (own_no hf1) fun a h => ok.wv a (ok.fw a (own_frm h)), j.1.2.up u (own_no f7) fun c' e => own_no (fm c' e)⟩, wk.stab _ _ h h' (fun a e => ⟨.inl (joinV_l (joinV_r (own_frm e))), hV a (joinV_l (joinV_r (own_frm e)))⟩) u j.2⟩) (fun s7 ok t => ?_) (by rfl)
    · have ur := upBut (V := uno r1) (by simp [uno]) sb
      refine ⟨⟨by rw [List.map_append]; exact row, j.1.2.up ur (uno_ne (Ne.symm r17)) fun c' e => uno_ne (mr1 c' e)⟩, wk.stab _ _ h h' (fun a e => ?_) ur j.2⟩
      have : a = r1 := by simpa [uno] using e
      subst this
      exact ⟨.inl (joinV_r (by simp [uno])), hV a (joinV_r (by simp [uno]))⟩
    · exact do_nil ⟨k ++ ts[i], by rw [hk, pair_flat ts i hi'], t.sub ⟨by rfl, by rfl, trivial⟩⟩
  obtain ⟨rfl, _⟩ := hN
  rw [List.length_map, List.take_length] at hk
  subst hk
  have upBack : ∀ {s'' : Shared}, Up (joinV (joinV (uno 175) (frm (callEnvC (fd180 w.params) L 180))) (uno r1)) s0.heap s''.heap → Up (uno 175) s.heap s''.heap := fun {s''} u => ⟨fun a o e q => by
    have ha := Heap.lt_size q
    refine u.keep a o (joinV_f (joinV_f e ?_) (uno_ne (Nat.ne_of_lt (Nat.lt_of_lt_of_le ha (Nat.le_trans hz0 hr1))))) (g0.keeps _ _ q)
    cases e2 : frm (callEnvC (fd180 w.params) L 180) a
    · rfl
    · exact absurd (Nat.le_trans hz0 (nf _ e2)) (Nat.not_le.mpr ha), Nat.le_trans hz0 u.size⟩
  have datBack : ∀ {h v d}, Dat (joinV (joinV V (frm (callEnvC (fd180 w.params) L 180))) (uno r1)) h v d → Dat V h v d := fun x => x.vol fun a o e q => ⟨(Bool.or_eq_false_iff.mp (Bool.or_eq_false_iff.mp e).1).1, q⟩
  refine do_if ok t (Te.not (Te.row (ds := (ts.flatten).map pairD) ok (Pu.name ok (by rfl)) (fun h j => j.1) (by rw [List.length_map]; omega))) (fun hb s6 t => ?_) (fun hb s6 t => ?_)
  · have he : ts.flatten = [] := by
      cases e : ts.flatten with
      | nil => rfl
      | cons a r => rw [e] at hb; cases hb
    exact do_retP ok t (b := .dat (tblD [])) (Pu.tup ok (ds := []) Pa.nil (by decide)) fun s7 v h t => ⟨upBack t.up, sa0.trans t.sa, m, [], t.j.2, .nil he, datBack h, ⟨fun _ => ⟨rfl, rfl⟩, fun q => absurd he q⟩, .inl rfl⟩
  have hpos : 0 < ts.flatten.length := by
    cases e : ts.flatten with
    | nil => rw [e] at hb; cases hb
    | cons a r => exact Nat.succ_pos _
  refine do_nil ?_
  have z6 : s0.heap.objs.size ≤ s6.heap.objs.size := t.up.size
  refine do_sort (a := r1) (ps := ts.flatten) (m := m) (lp := lamPos) ok t (Pu.name ok (by rfl)) (joinV_r (by simp [uno])) hf1 (Nat.le_trans h336 hr1) (joinV_l (W := uno r1) w7) (by rfl) (by rfl) (by rfl) hLL (fun h j => ⟨j.1, j.2⟩) (fun c' e => ⟨mr1 c' e, fun q => ?_⟩) hflat (by rfl) (fun s7 S c' hp hso hcL hcc ok t => ?_) (by rfl)
  · have q : c' = L := q
    have := fm c' e
    rw [q, frm_locals' _ _ _] at this
    cases this
  have hSl : S.length = ts.flatten.length := hp.length_eq
  have hS0 : 0 < S.length := by omega
  have hSb : ∀ p ∈ S, p.1 ≤ p.2 := fun p h => hbox p (hp.mem_iff.mp h)
  have fc' : frm (callEnvC (fd180 w.params) L 180) c' = false := by
    cases e : frm (callEnvC (fd180 w.params) L 180) c'
    · rfl
    · rcases frm_cases e with e | ⟨y, e⟩
      · exact absurd e hcL
      · cases e
  have zS : s0.heap.objs.size ≤ s7.heap.objs.size := t.up.size
  have c1' : c' < s7.heap.objs.size := t.j.2.lt
  refine do_rowE' (ds := [pairD S[0]]) (Jn := fun r h => RowIs (joinV (joinV (joinV V (frm (callEnvC (fd180 w.params) L 180))) (uno r1)) (uno r)) r1 (S.map pairD) h ∧ TabSt lamPos (mq w.params) (some c') h) ok t (Pa.cons ok (Pu.row (r := r1) (ds := S.map pairD) (k := 0) ok (Pu.name ok (by rfl)) (fun h j => j.1) Pu.int (by decide) (by decide) (by rw [List.getElem?_map, show (0 : Int).toNat = 0 from rfl, List.getElem?_eq_getElem hS0]; rfl)) Pa.nil) (show 1 ≤ 2 ^ 20 by decide) (.inl (by rfl))
    (fun h r hz j => ⟨j.1.new hz, j.2⟩) (fun r h h' u j => ⟨j.1.up u (own_no hf1) fun a e => joinV_l (joinV_l (joinV_r (own_frm e))), j.2.up u (own_no f7) fun d e => by cases e; exact own_no fc'⟩) fun r2 s8 hV2 hf2 hI2 hz2 ok t => ?_
  have r27 : r2 ≠ 175 := Nat.ne_of_gt (Nat.lt_of_lt_of_le (by decide) (Nat.le_trans h336 hI2))
  have r2c : c' ≠ r2 := Nat.ne_of_lt (Nat.lt_of_lt_of_le c1' hz2)
  refine do_forN (κ := List (Int × Int) × (Int × Int)) (N := fun n bs => n = ((S.map pairD).drop 1).length ∧ bs = fun i => Bnd.dat (((S.map pairD).drop 1).getD i .none)) ok (wpAny_mono (hitL ok t (Pu.cutRow (k := 1) (r := r1) (ds := S.map pairD) ok (Pu.name ok (by rfl)) (fun h j => j.1.1) Pu.int (by rw [List.length_map]; omega))) (fun _ _ ⟨a, b, d⟩ => ⟨a, b, _, _, ⟨rfl, rfl⟩, d⟩) fun _ _ f => f)
    (fun _ => [(⟨⟨[109, 101, 114, 103, 101, 100]⟩⟩, .raw (.ref r2))]) (fun V' k h => RowIs V' r2 ((k.1 ++ [k.2]).map pairD) h ∧ TabSt lamPos (mq w.params) (some c') h) (fun i k => MInv S i k)
    (fun V' k F h h' mx u j => ?_) (fun k h I hz j => ⟨j.1.new hz, j.2⟩) (fun k h I j => ⟨j.1.back, j.2⟩) ([], S[0]) (MInv.init hS0 hSb hso) (fun s5 t => ⟨t.gl, t.vok, (t.sub (ρ' := [(⟨⟨[109, 101, 114, 103, 101, 100]⟩⟩, .raw (.ref r2))]) ⟨by rfl, trivial⟩).fr, t.up, t.sa, ⟨t.j.2, t.j.1.2⟩⟩)
    (fun n bs I K i k s5 v hN hi hk wk hI hV ok t hv => ?_) (fun n bs k s5 hN hk ok t => ?_)
  · have hF : ∀ a, frm (callEnvC (fd180 w.params) L 180) a = false → a < s8.heap.objs.size → F a = false := fun a h1 h2 => by
      cases e : F a
      · rfl
      · rcases (mx a e).2 with q | q
        · rw [show frm (callEnvC (fd180 w.params) L 180) a = true from own_frm q] at h1; cases h1
        · exact absurd h2 (Nat.not_lt.mpr q)
    have hz3 : s0.heap.objs.size ≤ s8.heap.objs.size := t.up.size
    exact ⟨j.1.up u (hF _ hf2 (t.vok r2 (joinV_r (by simp [uno])))) fun a h => (mx a h).1, j.2.up u (hF _ f7 (Nat.lt_of_lt_of_le (by decide) (Nat.le_trans h336 hz3))) fun d e => by cases e; exact hF _ fc' (t.j.1.2.lt)⟩
  · obtain ⟨rfl, hbs⟩ := hN
    have hi' : i + 1 < S.length := by rw [List.length_drop, List.length_map] at hi; omega
    have hx : bs i = .dat (pairD S[i + 1]) := by
      rw [hbs]
      refine congrArg Bnd.dat ?_
      rw [List.getD_eq_getElem?_getD, List.getElem?_drop, List.getElem?_map, Nat.add_comm 1 i, List.getElem?_eq_getElem hi']; rfl
    rw [hx] at hv
    have hst := hk.step hi' hSb hso
    have kl := hk.len
    generalize S[i + 1] = p at hv hst
    refine asg2 ok t hv (.inl (by rfl)) (.inl (by rfl)) fun s6 ok t => ?_
    have rl : ∀ {c : Cx} {h : Heap} {k : List (Int × Int) × (Int × Int)}, RowIs c.V r2 ((k.1 ++ [k.2]).map pairD) h → RowIs c.V r2 (k.1.map pairD ++ [pairD k.2]) h := fun {c h k} x => by rwa [List.map_append] at x
    refine do_assign2 (d1 := .int k.2.1) (d2 := .int k.2.2) ok t (Pu.rowLast (r := r2) (ds := k.1.map pairD) (d := pairD k.2) ok (Pu.name ok (by rfl)) (fun h j => by have := j.1.1; rwa [List.map_append] at this) (Pu.neg ok Pu.int)) (.inl (by rfl)) (.inl (by rfl)) fun s7 ok t => ?_
    have stab : ∀ {k' : List (Int × Int) × (Int × Int)}, ∀ h h', Up (own (callEnvC (fd180 w.params) L 180)) h h' → (RowIs (joinV (joinV (joinV (joinV V (frm (callEnvC (fd180 w.params) L 180))) (uno r1)) (uno r2)) (uno I)) r2 ((k'.1 ++ [k'.2]).map pairD) h ∧ TabSt lamPos (mq w.params) (some c') h) ∧ K (i + 1) h →
        (RowIs (joinV (joinV (joinV (joinV V (frm (callEnvC (fd180 w.params) L 180))) (uno r1)) (uno r2)) (uno I)) r2 ((k'.1 ++ [k'.2]).map pairD) h' ∧ TabSt lamPos (mq w.params) (some c') h') ∧ K (i + 1) h' := fun h h' u j =>
      ⟨⟨j.1.1.up u (own_no hf2) fun a h => joinV_l (joinV_l (joinV_l (joinV_r (own_frm h)))), j.1.2.up u (own_no f7) fun d e => by cases e; exact own_no fc'⟩, wk.stab _ _ h h' (fun a e => ⟨.inl (joinV_l (joinV_l (joinV_r (own_frm e)))), hV a (joinV_l (joinV_l (joinV_r (own_frm e))))⟩) u j.2⟩
    have same : ∀ {k' : List (Int × Int) × (Int × Int)}, ∀ h h', Heap.SameBut r2 h h' → (RowIs (joinV (joinV (joinV (joinV V (frm (callEnvC (fd180 w.params) L 180))) (uno r1)) (uno r2)) (uno I)) r2 ((k.1 ++ [k.2]).map pairD) h ∧ TabSt lamPos (mq w.params) (some c') h) ∧ K (i + 1) h →
        RowIs (joinV (joinV (joinV (joinV V (frm (callEnvC (fd180 w.params) L 180))) (uno r1)) (uno r2)) (uno I)) r2 (k'.1.map pairD ++ [pairD k'.2]) h' → (RowIs (joinV (joinV (joinV (joinV V (frm (callEnvC (fd180 w.params) L 180))) (uno r1)) (uno r2)) (uno I)) r2 ((k'.1 ++ [k'.2]).map pairD) h' ∧ TabSt lamPos (mq w.params) (some c') h') ∧ K (i + 1) h' := fun h h' sb j row => by
      have ur := upBut (V := uno r2) (by simp [uno]) sb
      refine ⟨⟨by rw [List.map_append]; exact row, j.1.2.up ur (uno_ne (Ne.symm r27)) fun d e => by cases e; exact uno_ne r2c⟩, wk.stab _ _ h h' (fun a e => ?_) ur j.2⟩
      have : a = r2 := by simpa [uno] using e
      subst this
      exact ⟨.inl (joinV_r (by simp [uno])), hV a (joinV_r (by simp [uno]))⟩
    refine do_if ok t (Te.cmp ok (Pu.name (b := .dat (.int p.1)) ok (by rfl)) (Pu.name (b := .dat (.int k.2.2)) ok (by rfl)) fun s u v _ hu hv => cLe hu hv) (fun hb s8 t => ?_) (fun hb s8 t => ?_)
    · rw [if_pos (of_decide_eq_true hb)] at hst
      refine do_setLast (r := r2) (ds := k.1.map pairD) (d := pairD k.2) (d' := pairD (k.2.1, max k.2.2 p.2)) (J := fun h => (RowIs (joinV (joinV (joinV (joinV V (frm (callEnvC (fd180 w.params) L 180))) (uno r1)) (uno r2)) (uno I)) r2 ((k.1 ++ [(k.2.1, max k.2.2 p.2)]).map pairD) h ∧ TabSt lamPos (mq w.params) (some c') h) ∧ K (i + 1) h) ok t
        (Pu.tup (ds := [.int k.2.1, .int (max k.2.2 p.2)]) ok (Pa.cons ok (Pu.sub_tup (ds := [.int k.2.1, .int k.2.2]) (k := 0) ok (Pu.rowLast (r := r2) (ds := k.1.map pairD) (d := pairD k.2) ok (Pu.name ok (by rfl)) (fun h j => by have := j.1.1; rwa [List.map_append] at this) (Pu.neg ok Pu.int)) Pu.int (by decide) (by decide) (by rfl) (by rfl)) (Pa.cons ok (Pu.max2 ok (Pu.blt ok (by rfl) (by kernel_rfl) (by kernel_rfl)) (Pu.name ok (by rfl)) (Pu.name ok (by rfl))) Pa.nil)) (show 2 ≤ 2 ^ 20 by decide))
        (Pu.name ok (by rfl)) (Pu.neg ok Pu.int) (joinV_l (joinV_r (by simp [uno]))) hf2 (fun h j => by have := j.1.1; rwa [List.map_append] at this) (by rw [List.length_map]; omega) (same (k' := (k.1, (k.2.1, max k.2.2 p.2)))) (stab (k' := (k.1, (k.2.1, max k.2.2 p.2)))) (fun s9 ok t => ?_)
      exact do_nil (do_nil ⟨_, hst, t.sub ⟨by rfl, trivial⟩⟩)
    · rw [if_neg (of_decide_eq_false hb)] at hst
      refine do_append (r := r2) (ds := (k.1 ++ [k.2]).map pairD) (d := pairD p) (J := fun h => (RowIs (joinV (joinV (joinV (joinV V (frm (callEnvC (fd180 w.params) L 180))) (uno r1)) (uno r2)) (uno I)) r2 (((k.1 ++ [k.2]) ++ [p]).map pairD) h ∧ TabSt lamPos (mq w.params) (some c') h) ∧ K (i + 1) h) ok t (Pu.name ok (by rfl)) (joinV_l (joinV_r (by simp [uno]))) hf2 (fun h j => j.1.1)
        (by rw [List.length_map, List.length_append]; show k.1.length + 1 ≤ _; omega) (Pu.tup (ds := [.int p.1, .int p.2]) ok (Pa.cons ok (Pu.name ok (by rfl)) (Pa.cons ok (Pu.name ok (by rfl)) Pa.nil)) (show 2 ≤ 2 ^ 20 by decide)) (same (k' := (k.1 ++ [k.2], p))) (stab (k' := (k.1 ++ [k.2], p))) (fun s9 ok t => ?_) (by rfl)
      exact do_nil (do_nil ⟨_, hst, t.sub ⟨by rfl, trivial⟩⟩)
  obtain ⟨rfl, _⟩ := hN
  have hkl := hk.len
  rw [List.length_drop, List.length_map] at hkl
  refine do_retP ok t (b := .dat (tblD (k.1 ++ [k.2]))) (Pu.tcall (id := "tuple") ok (Pu.blt ok (by rfl) (by kernel_rfl) (by kernel_rfl)) (Pa.cons ok (Pu.name (b := .raw (.ref r2)) ok (by rfl)) Pa.nil) fun s6 vs t h => ?_) fun s6 v h t => ⟨?_, sa0.trans t.sa, some c', k.1 ++ [k.2], t.j.2, hk.fin (by rw [List.length_drop, List.length_map]; omega) hp, ?_, ⟨fun e => absurd hpos (by rw [e]; decide), fun _ => ⟨c', rfl⟩⟩, ?_⟩
  · obtain ⟨v, rfl, hv⟩ := Has1 h
    obtain rfl : v = .ref r2 := hv
    obtain ⟨items, n', l, al⟩ := t.j.1
    have hlen := al.length
    have := sizeLine_eq
    rw [dats, List.length_map, List.length_map, List.length_append, Array.length_toList] at hlen
    have hlen : items.size = k.1.length + 1 := hlen
    refine call_tup l.isList (fun h' g => ⟨g.trans (Grow.push _), ⟨rfl, rfl⟩, ?_⟩) (by omega)
    have e : items.toList.toArray = items := by simp
    have q := (newTup (vs := items.toList) (ds := (k.1 ++ [k.2]).map pairD) (fun a e => Nat.lt_of_lt_of_le (t.vok a e) g.size) (al.up g.up)).dat
    rw [e] at q
    exact q
  · refine upBack (s'' := s6) ⟨fun a o e q => t.up.keep a o (joinV_f e (uno_ne (Nat.ne_of_lt (Nat.lt_of_lt_of_le (Heap.lt_size q) hI2)))) q, t.up.size⟩
  · exact datBack (hasBack h)
  · rcases hcc with e | ⟨e1, e2⟩
    · exact .inl e.symm
    · exact .inr ⟨e1, c', rfl, Nat.le_trans (Nat.le_trans hz0 z6) e2⟩
end Mine
end TW36
section TW37
open PySem PySem.W PyProof.Rows
set_option Elab.async false
namespace Mine
set_option maxRecDepth 100000
theorem nodup_sub {α : Type} [DecidableEq α] : ∀ {l1 l2 : List α}, l1.Nodup → (∀ x ∈ l1, x ∈ l2) → l1.length ≤ l2.length
  | [], _, _, _ => Nat.zero_le _
  | a :: l, l2, hn, hs => by
    rw [List.nodup_cons] at hn
    have ha := hs a List.mem_cons_self
    have := nodup_sub (l1 := l) (l2 := l2.erase a) hn.2 fun x hx => (List.mem_erase_of_ne (fun e => hn.1 (by rw [← e]; exact hx))).mpr (hs x (List.mem_cons_of_mem _ hx))
    rw [List.length_erase_of_mem ha] at this
    have hp := List.length_pos_of_mem ha
    rw [List.length_cons]; omega
/-- the places that a search visits -/
def advN (t : SetTable) : Nat → SetTable.Probe → SetTable.Probe
  | 0, p => p
  | n + 1, p => advN t n (t.advance p)
theorem slot_two {t : SetTable} (hd : t.dummies = #[]) (j : Nat) : t.slot j = .empty ∨ ∃ i, t.slot j = .live i ∧ j ∈ t.place.toList := by
  unfold SetTable.slot
  dsimp only
  split
  · rename_i h
    refine .inr ⟨_, rfl, ?_⟩
    have h := eq_of_beq h
    obtain ⟨hi, e⟩ := Array.getElem?_eq_some_iff.mp h
    rw [← e]; simp
  · rw [show SetTable.has t.dummies j = false by rw [hd]; simp [SetTable.has]]
    exact .inl (by simp)
theorem go_none {t : SetTable} {ha : Nat → Int} {h : Int} (hd : t.dummies = #[]) (hh : ∀ i, (ha i == h) = false) : ∀ n p, SetTable.probe.go t ha h n p = none → ∀ k, k < n → (advN t k p).j ∈ t.place.toList
  | 0, _, _, k, hk => absurd hk (Nat.not_lt_zero k)
  | n + 1, p, e, k, hk => by
    rw [SetTable.probe.go] at e
    rcases slot_two hd p.j with hs | ⟨i, hs, hm⟩
    · rw [hs] at e; cases e
    · rw [hs] at e
      dsimp only at e
      rw [hh i] at e
      cases k with
      | zero => exact hm
      | succ k => exact go_none hd hh n (t.advance p) e k (Nat.lt_of_succ_lt_succ hk)
theorem go_empty {t : SetTable} {ha : Nat → Int} {h : Int} (hd : t.dummies = #[]) (hh : ∀ i, (ha i == h) = false) : ∀ n p m, SetTable.probe.go t ha h n p = some m → ∃ j d, m = .empty j d
  | 0, _, _, e => by cases e
  | n + 1, p, m, e => by
    rw [SetTable.probe.go] at e
    rcases slot_two hd p.j with hs | ⟨i, hs, hm⟩
    · rw [hs] at e; cases e; exact ⟨_, _, rfl⟩
    · rw [hs] at e
      dsimp only at e
      rw [hh i] at e
      exact go_empty hd hh n (t.advance p) m e
structure At7 (p : SetTable.Probe) (b : Nat) : Prop where
  more : p.more = 0
  j : p.j = p.i
  i : p.i < 8
  pert : p.perturb < b
theorem At7.adv {t : SetTable} (hm : t.mask = 7) {p : SetTable.Probe} {b : Nat} (x : At7 p (32 * b)) : At7 (t.advance p) b ∧ (t.advance p).i = (p.i * 5 + 1 + p.perturb / 32) % 8 := by
  obtain ⟨h1, h2, h3, h4⟩ := x
  have e : t.advance p = { p with j := (p.i * 5 + 1 + p.perturb / 32) % 8, more := 0, i := (p.i * 5 + 1 + p.perturb / 32) % 8, perturb := p.perturb / 32 } := by
    unfold SetTable.advance SetTable.leap
    rw [h1, hm]
    simp only [Nat.lt_irrefl, gt_iff_lt, if_false]
    have : SetTable.runEnd 7 ((p.i * 5 + 1 + p.perturb / 32) % (7 + 1)) = (p.i * 5 + 1 + p.perturb / 32) % 8 := by
      unfold SetTable.runEnd
      rw [if_neg (by omega)]
    rw [this]
    try simp
  rw [e]
  exact ⟨⟨rfl, rfl, Nat.mod_lt _ (by omega), by show p.perturb / 32 < b; omega⟩, rfl⟩
theorem At7.advs {t : SetTable} (hm : t.mask = 7) : ∀ n {p : SetTable.Probe} {b : Nat}, At7 p (32 ^ n * b) → At7 (advN t n p) b
  | 0, p, b, x => by rw [Nat.pow_zero, Nat.one_mul] at x; exact x
  | n + 1, p, b, x => by
    have := (At7.adv hm (b := 32 ^ n * b) (by rwa [Nat.pow_succ', Nat.mul_assoc] at x)).1
    exact At7.advs hm n this
theorem At7.at0 {t : SetTable} (hm : t.mask = 7) {p : SetTable.Probe} (x : At7 p 1) : At7 (t.advance p) 1 ∧ (t.advance p).i = (p.i * 5 + 1) % 8 := by
  have hp : p.perturb = 0 := by have := x.pert; omega
  obtain ⟨a, b⟩ := At7.adv (b := 1) hm ⟨x.more, x.j, x.i, by omega⟩
  rw [hp] at b
  exact ⟨a, by rw [b]⟩
theorem cycle8 : ∀ a, a < 8 → ∀ j, j < 8 → j = a ∨ j = (a * 5 + 1) % 8 ∨ j = ((a * 5 + 1) % 8 * 5 + 1) % 8 ∨ j = (((a * 5 + 1) % 8 * 5 + 1) % 8 * 5 + 1) % 8 ∨ j = ((((a * 5 + 1) % 8 * 5 + 1) % 8 * 5 + 1) % 8 * 5 + 1) % 8 ∨
    j = (((((a * 5 + 1) % 8 * 5 + 1) % 8 * 5 + 1) % 8 * 5 + 1) % 8 * 5 + 1) % 8 ∨ j = ((((((a * 5 + 1) % 8 * 5 + 1) % 8 * 5 + 1) % 8 * 5 + 1) % 8 * 5 + 1) % 8 * 5 + 1) % 8 ∨ j = (((((((a * 5 + 1) % 8 * 5 + 1) % 8 * 5 + 1) % 8 * 5 + 1) % 8 * 5 + 1) % 8 * 5 + 1) % 8 * 5 + 1) % 8 := by decide +kernel
theorem advN_add (t : SetTable) : ∀ m n p, advN t (m + n) p = advN t n (advN t m p)
  | 0, n, p => by rw [Nat.zero_add]; rfl
  | m + 1, n, p => by rw [Nat.succ_add]; exact advN_add t m n (t.advance p)
theorem freeSlot_some {t : SetTable} (hm : t.mask = 7) (hd : t.dummies = #[]) (hz : t.place.size < 8) (h : Int) : ∃ r, t.freeSlot h = some r := by
  have hh : ∀ i : Nat, ((fun _ => h + 1) i == h) = false := fun i => by
    rw [beq_eq_false_iff_ne]; show h + 1 ≠ h; omega
  unfold SetTable.freeSlot SetTable.probe
  cases e : SetTable.probe.go t (fun _ => h + 1) h (10 * SetTable.turns t.mask) (t.probeStart h) with
  | some m =>
    obtain ⟨j, d, rfl⟩ := go_empty hd hh _ _ _ e
    exact ⟨_, rfl⟩
  | none =>
    exfalso
    have all := go_none hd hh _ _ e
    rw [hm] at all
    have hb : SetTable.bits h < 2 ^ 64 := by
      unfold SetTable.bits
      have := Int.emod_lt_of_pos h (show (0 : Int) < 2 ^ 64 by decide)
      omega
    have s0 : At7 (t.probeStart h) (32 ^ 13 * 1) := by
      unfold SetTable.probeStart
      rw [hm]
      have hi : SetTable.bits h % (7 + 1) < 8 := Nat.mod_lt _ (by omega)
      refine ⟨?_, rfl, hi, ?_⟩
      · show SetTable.runEnd 7 _ - _ = 0
        unfold SetTable.runEnd
        rw [if_neg (by omega), Nat.sub_self]
      · show SetTable.bits h < _
        exact Nat.lt_of_lt_of_le hb (by decide)
    have s13 := At7.advs hm 13 s0
    obtain ⟨s14, e14⟩ := At7.at0 hm s13
    obtain ⟨s15, e15⟩ := At7.at0 hm s14
    obtain ⟨s16, e16⟩ := At7.at0 hm s15
    obtain ⟨s17, e17⟩ := At7.at0 hm s16
    obtain ⟨s18, e18⟩ := At7.at0 hm s17
    obtain ⟨s19, e19⟩ := At7.at0 hm s18
    obtain ⟨s20, e20⟩ := At7.at0 hm s19
    have m13 := all 13 (by decide)
    have m14 := all (13 + 1) (by decide)
    have m15 := all (13 + 2) (by decide)
    have m16 := all (13 + 3) (by decide)
    have m17 := all (13 + 4) (by decide)
    have m18 := all (13 + 5) (by decide)
    have m19 := all (13 + 6) (by decide)
    have m20 := all (13 + 7) (by decide)
    rw [advN_add] at m14 m15 m16 m17 m18 m19 m20
    generalize advN t 13 (t.probeStart h) = p at *
    dsimp only [advN] at m14 m15 m16 m17 m18 m19 m20
    rw [s13.j] at m13
    rw [s14.j, e14] at m14
    rw [s15.j, e15, e14] at m15
    rw [s16.j, e16, e15, e14] at m16
    rw [s17.j, e17, e16, e15, e14] at m17
    rw [s18.j, e18, e17, e16, e15, e14] at m18
    rw [s19.j, e19, e18, e17, e16, e15, e14] at m19
    rw [s20.j, e20, e19, e18, e17, e16, e15, e14] at m20
    have hn : (List.range 8).length ≤ t.place.toList.length := nodup_sub List.nodup_range fun j hj => by
      rw [List.mem_range] at hj
      rcases cycle8 p.i s13.i j hj with q | q | q | q | q | q | q | q
      · rw [q]; exact m13
      · rw [q]; exact m14
      · rw [q]; exact m15
      · rw [q]; exact m16
      · rw [q]; exact m17
      · rw [q]; exact m18
      · rw [q]; exact m19
      · rw [q]; exact m20
    rw [List.length_range, Array.length_toList] at hn
    omega
/-- a table as it is by itself: eight places -/
theorem layNew_mask {t : SetTable} {es : Array (Int × Value)} (o : TabOk es t) (hm : t.mask = 7) (hz : es.size < 7) (h : Int) (x : Value) : (layNew t es h x).2.1.mask = 7 := by
  obtain ⟨r, hr⟩ := freeSlot_some hm o.nod (by rw [o.size]; omega) h
  unfold layNew
  rw [hr]
  obtain ⟨slot, wd⟩ := r
  dsimp only [SetTable.put]
  have hh : SetTable.has t.dummies slot = false := by rw [o.nod]; simp [SetTable.has]
  simp only [hh, Bool.false_eq_true, if_false]
  have hf : SetTable.fits { t with place := SetTable.insertAt t.place (SetTable.below t.place slot) slot } (SetTable.insertAt es (SetTable.below t.place slot) (h, x)).size = true := by
    unfold SetTable.fits SetTable.fill
    dsimp only
    rw [insertAt_size, insertAt_size, o.size, o.nod, hm]
    have e : (#[] : Array Nat).size = 0 := rfl
    rw [e, beq_self_eq_true, Bool.true_and, decide_eq_true_iff]
    omega
  have e : SetTable.orStandIn { t with place := SetTable.insertAt t.place (SetTable.below t.place slot) slot } (SetTable.insertAt es (SetTable.below t.place slot) (h, x)).size = { t with place := SetTable.insertAt t.place (SetTable.below t.place slot) slot } := by
    unfold SetTable.orStandIn; exact if_pos hf
  exact (congrArg SetTable.mask e).trans hm
def Fits (es : Array (Int × Value)) (t : SetTable) : Prop := t.place.size = es.size ∧ t.fill ≤ t.mask
theorem TabOk.fits {es : Array (Int × Value)} {t : SetTable} (o : TabOk es t) (h : es.size ≤ 7) : Fits es t := ⟨o.size, by rw [o.fill]; have := o.mask; omega⟩
theorem pick_all {α : Type} (xs : Array α) : (List.range xs.size).filterMap (fun k => xs[k]?) = xs.toList := by
  have : ∀ n, n ≤ xs.size → (List.range n).filterMap (fun k => xs[k]?) = xs.toList.take n := fun n => by
    induction n with
    | zero => intro _; simp
    | succ n ih =>
      intro h
      rw [List.range_succ, List.filterMap_append, ih (by omega)]
      have hn : n < xs.toList.length := by rw [Array.length_toList]; omega
      rw [List.take_succ_eq_append_getElem hn]
      have e : xs[n]? = some xs[n] := Array.getElem?_eq_getElem (by omega)
      simp [e]
  rw [this _ (Nat.le_refl _), List.take_of_length_le (by rw [Array.length_toList]; omega)]
theorem standIn_fits (t : SetTable) (es : Array (Int × Value)) : Fits es (t.standIn es.size) := ⟨by show (Array.range _).size = _; rw [Array.size_range], by
  unfold SetTable.fill SetTable.standIn
  dsimp only
  rw [Array.size_range]
  show es.size + 0 ≤ _
  omega⟩
theorem relayAll_ok {t : SetTable} {es : Array (Int × Value)} {wanted : Nat} (hp : t.plain = false) : (relayAll t es wanted).1.toList.Perm es.toList ∧ Fits (relayAll t es wanted).1 (relayAll t es wanted).2.1 ∧ (relayAll t es wanted).2.1.plain = false := by
  unfold relayAll
  cases hr : t.relaid (es.map (·.1)) wanted with
  | none => exact ⟨.refl _, standIn_fits t es, rfl⟩
  | some r =>
    obtain ⟨t', order⟩ := r
    dsimp only
    split
    · rename_i hc
      obtain ⟨h1, h2⟩ := Bool.and_eq_true_iff.mp hc
      unfold SetTable.fits at h2
      obtain ⟨h2, h3⟩ := Bool.and_eq_true_iff.mp h2
      refine ⟨?_, ⟨eq_of_beq h2, of_decide_eq_true h3⟩, ?_⟩
      · have hperm : order.toList.Perm (List.range es.size) := List.isPerm_iff.mp h1
        have := hperm.filterMap (fun k => es[k]?)
        rw [pick_all] at this
        simpa using this
      · unfold SetTable.relaid SetTable.laid at hr
        simp only [Option.pure_def, Option.bind_eq_bind, Option.bind_eq_some_iff] at hr
        obtain ⟨ow, _, hr⟩ := hr
        cases hr
        exact hp
    · exact ⟨.refl _, standIn_fits t es, rfl⟩
end Mine
end TW37
section TW38
open PySem PySem.W PyProof.Rows
set_option Elab.async false
namespace Mine
set_option maxRecDepth 100000
theorem addS_mask {P : Params} {d : Array (Int × Value) × SetTable} (o : TabOk d.1 d.2) (hm : d.2.mask = 7) (hz : d.1.size < 7) (x : PySem.Str) (tk : Tok) : (addS P d x tk).2.mask = 7 := by
  unfold addS
  exact layNew_mask o hm hz (PyData.keyHash P x) (.str x tk)
theorem addS_size {P : Params} {d : Array (Int × Value) × SetTable} (o : TabOk d.1 d.2) (x : PySem.Str) (tk : Tok) : (addS P d x tk).1.size = d.1.size + 1 := by
  obtain ⟨_, p⟩ := addS_ok (P := P) o x tk
  rw [← Array.length_toList, p.length_eq, List.length_cons, Array.length_toList]
theorem setD_mask (P : Params) (a b c : PySem.Str) (t : Nat) : (setD P a b c t).2.mask = 7 := by
  have o0 := setD0_ok P
  have o1 := (addS_ok (P := P) o0 a t).1
  have o2 := (addS_ok (P := P) o1 b (t + 1)).1
  have z0 : (setD0 P).1.size = 0 := rfl
  have m0 : (setD0 P).2.mask = 7 := rfl
  unfold setD
  generalize setD0 P = d0 at *
  have z1 := addS_size (P := P) o0 a t
  have m1 := addS_mask (P := P) o0 m0 (by omega) a t
  generalize addS P d0 a t = d1 at *
  have z2 := addS_size (P := P) o1 b (t + 1)
  have m2 := addS_mask (P := P) o1 m1 (by omega) b (t + 1)
  generalize addS P d1 b (t + 1) = d2 at *
  exact addS_mask (P := P) o2 m2 (by omega) c (t + 2)
theorem setD_plain (P : Params) (a b c : PySem.Str) (t : Nat) : (setD P a b c t).2.plain = false := rfl
theorem orStandIn_plain {t : SetTable} {n : Nat} (hp : t.plain = false) : (t.orStandIn n).plain = false := by
  unfold SetTable.orStandIn
  split
  · exact hp
  · rfl
theorem layNew_plain {t : SetTable} {es : Array (Int × Value)} (hp : t.plain = false) (h : Int) (x : Value) : (layNew t es h x).2.1.plain = false := by
  unfold layNew
  split
  · exact orStandIn_plain hp
  · rfl
section
variable {w : World} {A : Around} {E : Value → Shared → Prop} {s : Shared}
theorem add_str {a : Addr} {es : Array (Int × Value)} {ep : Nat} {t : SetTable} {x : PySem.Str} {tk : Tok} {Q : Bool → Shared → Prop} (ho : s.heap.get? a = some (setO es ep t)) (hel : ElemsOf (strKind pw w) es.toList) (hf : t.fits es.size = true) (hb : es.size + 1 < scanBound)
    (hno : ∀ e ∈ es.toList, (strKind pw w).is x e.2 = false) (hp : t.plain = false)
    (k : ∀ h' es' ep' t' tk', Heap.SameBut a s.heap h' → h'.get? a = some (setO es' ep' t') → es'.toList.Perm (es.toList ++ [((strKind pw w).hash x, .str x tk)]) → t'.fits es'.size = true → t'.plain = false → Q true { s with heap := h', toks := tk' }) :
    wpAny (model pw w) A (setAdd a (.str x tk)) Q E s := by
  have hkey := isStrSelf x tk w
  unfold setAdd
  refine wpAny_holding (wpAny_bind ((strKind pw w).pyHash (k := x) hkey ?_))
  unfold setAddHashed setAddHashedIn
  refine wpAny_holding (wpAny_bind (wpAny_setState_of (s := { s with toks := s.toks + 1 }) ho rfl hf ?_))
  dsimp only
  rw [byScan_of rfl (by omega) hel]
  simp only [↓reduceIte]
  unfold setAddByScan
  refine wpAny_bind ?_
  refine wpAny_bind (wpAny_rule ?_)
  refine wpAny_bind (wpAny_setScan_of (s := { s with toks := s.toks + 1 }) hkey ho rfl hf hel ?_)
  have hr : List.findIdx? (fun e => (strKind pw w).is x e.2) es.toList = none := List.findIdx?_eq_none_iff.mpr hno
  rw [hr]
  dsimp only
  have hgw : ∀ (b : Bool) {s₁ : Shared} {Q' : Unit → Shared → Prop}, Q' () s₁ → wpAny (model pw w) A (match b with | true => rule "set.scan.the-table-gave-way" | false => Pure.pure ()) Q' E s₁ :=
    fun b s₁ Q' hq => by cases b <;> first | exact wpAny_pure hq | exact wpAny_rule hq
  have hperm := layNew_perm t es ((strKind pw w).hash x) (.str x tk)
  have hfits := layNew_fits t es ((strKind pw w).hash x) (.str x tk)
  have hpl := layNew_plain (es := es) hp ((strKind pw w).hash x) (.str x tk)
  generalize layNew t es ((strKind pw w).hash x) (.str x tk) = L at hperm hfits hpl ⊢
  obtain ⟨es1, t1, wasDummy, gave⟩ := L
  dsimp only at hperm hfits hpl ⊢
  rw [Array.toList_push] at hperm
  have hz1 : es1.size = es.size + 1 := by rw [← Array.length_toList, hperm.length_eq, List.length_append, Array.length_toList]; rfl
  have hb1 : es1.size < scanBound := by omega
  refine wpAny_bind (hgw _ ?_)
  rw [if_neg (by rw [hpl]; exact Bool.false_ne_true)]
  refine wpAny_bind (wpAny_pure ?_)
  simp only [↓reduceIte]
  refine wpAny_bind (wpAny_storeSet_of (s := { s with toks := s.toks + 1 }) ho rfl ?_ (fits_of_scanBound hb1))
  have hg : (s.heap.update a (Obj.putSet es1 t1)).get? a = some (setO es1 (ep + 1) t1) := by
    have := Heap.get?_update_self (Obj.putSet es1 t1) ho (by rfl)
    exact this
  have hsb := Heap.SameBut.update s.heap a (Obj.putSet es1 t1)
  split
  · obtain ⟨r1, _, r3⟩ := relayAll_ok (es := es1) (wanted := SetTable.grown es1.size) hpl
    have r2 := relayAll_fits t1 es1 (SetTable.grown es1.size)
    generalize relayAll t1 es1 (SetTable.grown es1.size) = R at r1 r2 r3 ⊢
    obtain ⟨es2, t2, gv⟩ := R
    dsimp only at r1 r2 r3 ⊢
    have hz2 : es2.size = es1.size := by rw [← Array.length_toList, r1.length_eq, Array.length_toList]
    refine wpAny_bind (hgw _ ?_)
    refine wpAny_bind (wpAny_storeSet_of (s := { s with heap := s.heap.update a (Obj.putSet es1 t1), toks := s.toks + 1 }) hg rfl ?_ (fits_of_scanBound (by omega)))
    have hg2 : ((s.heap.update a (Obj.putSet es1 t1)).update a (Obj.putSet es2 t2)).get? a = some (setO es2 (ep + 1 + 1) t2) := by
      have := Heap.get?_update_self (Obj.putSet es2 t2) hg (by rfl)
      exact this
    exact wpAny_pure (wpAny_pure (k _ es2 _ t2 _ (hsb.trans (Heap.SameBut.update _ a _)) hg2 (r1.trans hperm) r2 r3))
  · exact wpAny_pure (wpAny_pure (k _ es1 _ t1 _ hsb hg hperm hfits hpl))
end
end Mine
end TW38
section TW39
open PySem PySem.W PyProof.Rows
set_option Elab.async false
namespace Mine
set_option maxRecDepth 100000
section
variable {w : World} {A : Around} {E : Value → Shared → Prop} {s : Shared}
set_option maxHeartbeats 3200000 in
theorem set_init_set {S l : Addr} {es : Array (Int × Value)} {ep : Nat} {t : SetTable} {led : Bool} {Q : PySem.Fin → Shared → Prop} (hSl : S ≠ l)
    (hS : s.heap.get? S = some (setO #[] 0 (.fresh 0 0 led))) (hl : s.heap.get? l = some (setO es ep t)) (hf : t.fits es.size = true) (hz : es.size = 3) (hm : t.mask = 7) (hd : t.dummies = #[]) (hp : t.plain = false)
    (h : ∀ t' : SetTable, t'.fits es.size = true → t'.plain = false → Q (.done (.ret .none)) { s with heap := s.heap.update S (Obj.putSet es t') }) :
    wpAny (model pw w) A (Builtin.«set.__init__» ⟨[.ref S, .ref l], []⟩) Q E s := by
  have hTS : s.TypeIs (.ref S) "set" := ⟨_, hS, rfl⟩
  have hTl : s.TypeIs (.ref l) "set" := ⟨_, hl, rfl⟩
  have hss : isSubtype (.type "set") (.type "set") = Pure.pure true := sub_set_self
  obtain ⟨hp', g, d, tk, os⟩ := s
  unfold Builtin.«set.__init__» noKeywords Builtin.Frozenset.updateFrom
  generalize hM : Builtin.Frozenset.merge = M
  generalize hU : setUsed = U
  wp_walk
  subst hU
  unfold setUsed
  refine wpAny_bind (wpAny_setState_of (s := ⟨hp', g, d, tk, os⟩) hS rfl (by rfl) (wpAny_pure ?_))
  wp_walk
  subst hM
  unfold Builtin.Frozenset.merge
  refine wpAny_bind (wpAny_setEpoch_of (s := ⟨hp', g, d, tk, os⟩) hl rfl hf ?_)
  unfold setMerge
  have hne : es.isEmpty = false := by
    cases e : es.isEmpty
    · rfl
    · rw [Array.isEmpty_iff] at e; rw [e] at hz; cases hz
  rw [if_neg (by simpa using hSl)]
  refine wpAny_bind (wpAny_setState_of (s := ⟨hp', g, d, tk, os⟩) hl rfl hf ?_)
  dsimp only
  rw [if_neg (by rw [hne]; exact Bool.false_ne_true)]
  refine wpAny_bind ?_
  unfold setRoomFor
  refine wpAny_bind (wpAny_setState_of (s := ⟨hp', g, d, tk, os⟩) hS rfl (by rfl) ?_)
  have hroom : (SetTable.fresh 0 0 led).roomFor es.size = none := by rw [hz]; rfl
  dsimp only
  rw [hroom]
  refine wpAny_pure ?_
  refine wpAny_bind (wpAny_setState_of (s := ⟨hp', g, d, tk, os⟩) hS rfl (by rfl) ?_)
  have hroad : (SetTable.fresh 0 0 led).road t = .slotForSlot := by
    unfold SetTable.road
    rw [hm, hd]; rfl
  dsimp only
  rw [hroad]
  dsimp only
  refine wpAny_storeSet_of (s := ⟨hp', g, d, tk, os⟩) hS rfl ?_ (by have := sizeLine_eq; omega)
  refine wpAny_pure (h _ ?_ ?_)
  · exact hf
  · show ((SetTable.fresh 0 0 led).plain && t.plain) = false
    rw [hp, Bool.and_false]
set_option maxHeartbeats 3200000 in
theorem code_set_set {l : Addr} {es : Array (Int × Value)} {ep : Nat} {t : SetTable} {Q : Value → Shared → Prop}
    (hl : s.heap.get? l = some (setO es ep t)) (hf : t.fits es.size = true) (hz : es.size = 3) (hm : t.mask = 7) (hd : t.dummies = #[]) (hp : t.plain = false)
    (h : ∀ (h' : Heap) (ep' : Nat) (t' : SetTable), h'.get? s.heap.objs.size = some (setO es ep' t') → t'.fits es.size = true → t'.plain = false →
      Grow s.heap h' → Q (.ref s.heap.objs.size) { s with heap := h' }) :
    codeAny (model pw w) A (.call (.type "set") ⟨[.ref l], []⟩) (fun r s' => match r with | .ok (.ret v) => Q v s' | .ok _ => False | .error e => E e s') s := by
  obtain ⟨c, tl, hmro⟩ := F.called_set.mro
  have hmade := F.called_set.made
  have hsub := F.called_set.sub
  refine codeAny_of_tree ?_
  show wpAny _ _ (callAny (.type "set") _) _ _ _
  refine wpAny_pure ⟨Code.quiet_builtin _ (by decide +kernel), codeAny_builtin F.entry_type_call ?_⟩
  rw [Around.under_plain (weight_type_call_type "set" [.ref l] []) rfl]
  have h1 := F.called_set.notType
  have h2 := F.called_set.canCreate
  have hct := F.typeCall_set_1 (.ref l)
  repeat (any_goals (first | assumption | wp_step))
  refine codeAny_mono (code_set_new_1 (.ref l) (E := E) (Q₁ := fun obj s₁ => ∃ led : Bool, obj = .ref s.heap.objs.size ∧ s₁ = { s with heap := s.heap.push { cls := .type "set", dict := none, data := .set #[] 0 (.fresh 0 0 led) } }) fun led => ⟨led, rfl, rfl⟩) fun r s₁ hr => ?_
  cases r with
  | error e => exact hr
  | ok fl =>
    cases fl with
    | ret obj =>
      obtain ⟨led, rfl, rfl⟩ := hr
      have hS : (s.heap.push { cls := .type "set", dict := none, data := .set #[] 0 (.fresh 0 0 led) }).get? s.heap.objs.size = some { cls := .type "set", dict := none, data := .set #[] 0 (.fresh 0 0 led) } := Heap.get?_push_size _ rfl
      have hT : Shared.TypeIs { s with heap := s.heap.push { cls := .type "set", dict := none, data := .set #[] 0 (.fresh 0 0 led) } } (.ref s.heap.objs.size) "set" := ⟨_, hS, rfl⟩
      have hli := F.called_set.init.lookup
      have hbi := F.called_set.init.bind (.ref s.heap.objs.size)
      repeat (any_goals (first | assumption | wp_step))
      refine codeAny_mono (codeAny_call_builtin (R := wants (fun r s₂ => r = .none ∧ ∃ t' : SetTable, t'.fits es.size = true ∧ t'.plain = false ∧ s₂ = { s with heap := (s.heap.push { cls := .type "set", dict := none, data := .set #[] 0 (.fresh 0 0 led) }).update s.heap.objs.size (Obj.putSet es t') }) E) F.called_set.init.plain F.entry_set_init (check_set_init_1 hT ?_)) fun r₂ s₂ hr₂ => ?_
      · refine set_init_set (s := { s with heap := s.heap.push { cls := .type "set", dict := none, data := .set #[] 0 (.fresh 0 0 led) } }) (Nat.ne_of_gt (Heap.lt_size hl)) hS (Heap.get?_push_of_some _ hl) hf hz hm hd hp fun t' q1 q2 => ?_
        exact ⟨rfl, t', q1, q2, rfl⟩
      · cases r₂ with
        | error e => exact hr₂
        | ok fl₂ =>
          cases fl₂ with
          | ret r =>
            obtain ⟨rfl, t', q1, q2, rfl⟩ := hr₂
            repeat (any_goals (first | assumption | wp_step))
            have hg := Heap.get?_update_self (Obj.putSet es t') hS (by rfl)
            have sb := Heap.SameBut.update (s.heap.push { cls := .type "set", dict := none, data := .set #[] 0 (.fresh 0 0 led) }) s.heap.objs.size (Obj.putSet es t')
            refine h _ 1 t' hg q1 q2 ⟨fun b o _ e => (sb.2 b (Nat.ne_of_lt (Heap.lt_size e))).trans (Heap.get?_push_of_some _ e), ?_⟩
            rw [sb.1, Heap.size_push]; omega
          | _ => exact hr₂.elim
    | _ => exact hr.elim
end
end Mine
end TW39
section TW40
open PySem PySem.W PyProof.Rows
set_option Elab.async false
namespace Mine
set_option maxRecDepth 100000
def strV : Value → PySem.Str
  | .str x _ => x
  | _ => default
/-- a set of strs, and which -/
def SetS (w : World) (h : Heap) (a : Addr) (L : List PySem.Str) : Prop := ∃ es ep t, h.get? a = some (setO es ep t) ∧ ElemsOf (strKind pw w) es.toList ∧ t.fits es.size = true ∧ t.plain = false ∧ (es.toList.map fun e => strV e.2).Perm L
theorem SetS.at {w : World} {h h' : Heap} {a : Addr} {L : List PySem.Str} (x : SetS w h a L) (k : ∀ o, h.get? a = some o → h'.get? a = some o) : SetS w h' a L := let ⟨es, ep, t, e, r⟩ := x; ⟨es, ep, t, k _ e, r⟩
theorem SetS.perm {w : World} {h : Heap} {a : Addr} {L L' : List PySem.Str} (x : SetS w h a L) (p : L.Perm L') : SetS w h a L' := let ⟨es, ep, t, e, h1, h2, h3, h4⟩ := x; ⟨es, ep, t, e, h1, h2, h3, h4.trans p⟩
section
variable {w : World} {A : Around} {E : Value → Shared → Prop} {s : Shared}
theorem addS_set {a : Addr} {L : List PySem.Str} {x : PySem.Str} {tk : Tok} {Q : Bool → Shared → Prop} (hS : SetS w s.heap a L) (hb : L.length + 1 < scanBound) (hx : x ∉ L)
    (k : ∀ h' tk', Heap.SameBut a s.heap h' → SetS w h' a (x :: L) → Q true { s with heap := h', toks := tk' }) : wpAny (model pw w) A (setAdd a (.str x tk)) Q E s := by
  obtain ⟨es, ep, t, ho, hel, hf, hp, hperm⟩ := hS
  have hz : es.size = L.length := by rw [← hperm.length_eq, List.length_map, Array.length_toList]
  refine add_str ho hel hf (by omega) (fun e he => ?_) hp fun h' es' ep' t' tk' sb hg hpm hf' hp' => k h' tk' sb ⟨es', ep', t', hg, ?_, hf', hp', ?_⟩
  · cases hq : (strKind pw w).is x e.2 with
    | false => rfl
    | true =>
      have hq : Value.isStrOf x e.2 = true := hq
      obtain ⟨tt, ht⟩ := Value.isStrOf_shape hq
      exact absurd (hperm.mem_iff.mp (List.mem_map.mpr ⟨e, he, by rw [ht]; rfl⟩)) hx
  · exact (hel.push (isStrSelf x tk w) rfl).perm hpm
  · refine (hpm.map _).trans ?_
    rw [List.map_append]
    exact (List.perm_append_singleton _ _).trans (.cons _ hperm)
variable {R : Result → Shared → Prop} {I : Addr} {fp wr : List Addr} {n : Nat} {P : Nat → Value → Prop} {St : Nat → Heap → Prop}
theorem upd_step (W : Walks pw w A.in1 I fp wr n P St) {S : Addr} (hSf : S ∉ fp) {i : Nat} {x : PySem.Str} {L : List PySem.Str} (hi : i < n) (hst : St i s.heap) (hP : ∀ v, P i v → ∃ t, v = .str x t) (hS : SetS w s.heap S L) (hb : L.length + 1 < scanBound) (hx : x ∉ L)
    (k : ∀ h' tk, St (i + 1) h' → SetS w h' S (x :: L) → (∀ b o, b ≠ S → b ∉ wr → s.heap.get? b = some o → h'.get? b = some o) → codeAny (model pw w) A (.builtin "set.update.loop" ⟨[.ref S, .ref I], []⟩) R { s with heap := h', toks := tk }) :
    codeAny (model pw w) A (.builtin "set.update.loop" ⟨[.ref S, .ref I], []⟩) R s := by
  refine codeAny_builtin PyProof.Rows.F.entry_set_update_loop ?_
  rw [Around.under_plainId PyProof.Rows.F.plain_set_update_loop _]
  show wpAny _ A.in1 (pyNext (.ref I) >>= _) _ _ s
  refine wpAny_bind (W.item i s _ _ hi hst fun v h' tk hPv hst' hk => ?_)
  obtain ⟨t, rfl⟩ := hP v hPv
  show wpAny _ A.in1 (holding [Value.str x t] (setAdd S (.str x t)) >>= _) _ _ _
  have hSw : S ∉ wr := fun h => hSf (W.sub _ h)
  refine wpAny_bind (wpAny_holding (addS_set (s := { s with heap := h', toks := tk }) (hS.at fun o e => hk S o hSw e) hb hx fun h2 tk2 sb hS2 => ?_))
  refine wpAny_pure ⟨plainId_quiet PyProof.Rows.F.plain_set_update_loop _, k h2 tk2 (W.frame _ _ _ hst' fun b hb o e => (sb.2 b (fun q => hSf (q ▸ hb))).trans e) hS2 fun b o h1 h2 e => (sb.2 b h1).trans (hk b o h2 e)⟩
theorem upd_end (W : Walks pw w A.in1 I fp wr n P St) {S : Addr} (hSf : S ∉ fp) {L : List PySem.Str} (hst : St n s.heap) (hS : SetS w s.heap S L)
    (k : ∀ h' tk, SetS w h' S L → (∀ b o, b ∉ wr → s.heap.get? b = some o → h'.get? b = some o) → R (.ok (.ret .none)) { s with heap := h', toks := tk }) :
    codeAny (model pw w) A (.builtin "set.update.loop" ⟨[.ref S, .ref I], []⟩) R s := by
  refine codeAny_builtin PyProof.Rows.F.entry_set_update_loop ?_
  rw [Around.under_plainId PyProof.Rows.F.plain_set_update_loop _]
  show wpAny _ A.in1 (pyNext (.ref I) >>= _) _ _ s
  have hSw : S ∉ wr := fun h => hSf (W.sub _ h)
  refine wpAny_bind (W.done s _ _ hst fun h' tk hk => ?_)
  exact wpAny_pure (k h' tk (hS.at fun o e => hk S o hSw e) hk)
end
/-- the aliases, as pairs -/
noncomputable def kv123 (P : Params) : List (PySem.Str × Value) := (esOf (L1 P)[123]?).toList.map fun e => (strV e.key, e.val)
theorem kv123_keys (P : Params) : (kv123 P).map (·.1) = [⟨⟨[120, 116, 101, 114, 109, 45, 103, 104, 111, 115, 116, 116, 121]⟩⟩, ⟨⟨[120, 116, 101, 114, 109, 45, 107, 105, 116, 116, 121]⟩⟩] := by kernel_rfl
theorem pairs_of {w : World} : ∀ {l : List DictEntry}, (∀ e ∈ l, ∃ k, (strKind pw w).is k e.key = true) → Pairs (strKind pw w) l (l.map fun e => (strV e.key, e.val))
  | [], _ => .nil
  | e :: r, h => by
    obtain ⟨k, hk⟩ := h e List.mem_cons_self
    have hk : Value.isStrOf k e.key = true := hk
    obtain ⟨t, ht⟩ := Value.isStrOf_shape hk
    refine .cons ?_ rfl (pairs_of fun e he => h e (List.mem_cons_of_mem _ he))
    show Value.isStrOf (strV e.key) e.key = true
    rw [ht]
    exact beq_self_eq_true k
theorem dictAt123 {w : World} {h : Heap} (g : Gl w.params h) : ∃ ep, h.DictAt (strKind pw w) 123 (kv123 w.params) ep := by
  obtain ⟨o, es, ep, e1, e2, e3, e4, e5⟩ := (dct123 w).ob
  refine ⟨ep, o, es, g 123 o (by decide) e1, e2, e3, e4, ?_, ?_⟩
  · unfold kv123
    rw [e5]
    exact pairs_of fun e he => let ⟨k, h, _⟩ := e4 e (by simpa using he); ⟨k, h⟩
  · rw [kv123_keys]; decide
end Mine
end TW40
section TW41
open PySem PySem.W PyProof.Rows
set_option Elab.async false
namespace Mine
set_option maxRecDepth 100000
theorem slot_supdate : Slot "set" "update" "set.update" :=
  .of (owner := "set") (n := "update") (by rw [typeLookup_type, builtinLookup_eq_fast]; kernel_rfl) (by decide +kernel) (by decide +kernel) (by decide +kernel)
    (by first | exact .inl (by decide +kernel) | exact .inr (by decide +kernel)) (by rw [isSubtype_type]; kernel_rfl)
theorem entry_supdate : entryFor table "set.update" = some Builtin.«set.update» := entryFor_of_tree (by kernel_rfl)
theorem args_supdate (a b : Value) : argsOk "set.update" ⟨[a, b], []⟩ := by unfold argsOk; kernel_rfl
theorem slot_kror : Slot "dict_keys" (dunderR "or") "dict_keys.__ror__" :=
  .of (owner := "dict_keys") (n := "__ror__") (by rw [typeLookup_type, builtinLookup_eq_fast]; kernel_rfl) (by decide +kernel) (by decide +kernel) (by decide +kernel)
    (by first | exact .inl (by decide +kernel) | exact .inr (by decide +kernel)) (by rw [isSubtype_type]; kernel_rfl)
theorem entry_kror : entryFor table "dict_keys.__ror__" = some Builtin.«dict_items.__ror__» := entryFor_alias (id' := "dict_items.__ror__") (by kernel_rfl) rfl (by decide +kernel) (by kernel_rfl)
theorem args_kror (a b : Value) : argsOk "dict_keys.__ror__" ⟨[a, b], []⟩ := by unfold argsOk; kernel_rfl
theorem fills_kor : fillsNumberSlot (.type "dict_keys") "or" = Pure.pure true :=
  fillsNumberSlot_of (id := "dict_keys.__or__") (r := some (.builtin "dict_keys.__ror__")) (by rw [typeLookup_type, builtinLookup_eq_fast]; kernel_rfl) (by decide +kernel) (by rw [typeLookup_type, builtinLookup_eq_fast]; kernel_rfl)
theorem entry_sor : entryFor table "set.__or__" = some Builtin.«frozenset.__or__» := entryFor_alias (id' := "frozenset.__or__") (by kernel_rfl) rfl (by decide +kernel) (by kernel_rfl)
theorem sub_ks : isSubtype (.type "dict_keys") (.type "set") = Pure.pure false := by rw [isSubtype_type]; kernel_rfl
theorem sub_kf : isSubtype (.type "dict_keys") (.type "frozenset") = Pure.pure false := by rw [isSubtype_type]; kernel_rfl
theorem mro_set : mroOf (.type "set") = Pure.pure [.type "set", .type "object"] := by rw [mroOf_type]; kernel_rfl
section
variable {w : World} {A : Around} {E : Value → Shared → Prop} {s : Shared}
abbrev xg : PySem.Str := ⟨⟨[120, 116, 101, 114, 109, 45, 103, 104, 111, 115, 116, 116, 121]⟩⟩
abbrev xk : PySem.Str := ⟨⟨[120, 116, 101, 114, 109, 45, 107, 105, 116, 116, 121]⟩⟩
theorem upd_all {V r : Addr} {L : List PySem.Str} {R : Result → Shared → Prop} (hh : A.handled = none) (g : Gl w.params s.heap) (hV : KdlKeysView s.heap V 123) (hr : r ≠ 123) (hS : SetS w s.heap r L) (hb : L.length + 5 < scanBound) (h1 : xg ∉ L) (h2 : xk ∉ L)
    (k : ∀ h' tk, SetS w h' r (xk :: xg :: L) → (∀ b o, b ≠ r → s.heap.get? b = some o → h'.get? b = some o) → R (.ok (.ret .none)) { s with heap := h', toks := tk }) :
    wpAny (model pw w) A (pyIter (.ref V)) (fun it s' => codeAny (model pw w) A (.builtin "set.update.loop" ⟨[.ref r, it], []⟩) R s') E s := by
  obtain ⟨ep, hD⟩ := dictAt123 (w := w) g
  refine kdl_pyIter_keys hV hD ?_
  have hlen : (kv123 w.params).length = 2 := by have := congrArg List.length (kv123_keys w.params); rwa [List.length_map] at this
  have e0 : ∀ (i : Nat) (x : PySem.Str), ((kv123 w.params).map (·.1))[i]? = some x → ∀ v, (∃ k y, (kv123 w.params)[i]? = some (k, y) ∧ (strKind pw w).is k v = true) → ∃ t, v = .str x t := fun i x hx v ⟨k, y, e, hk⟩ => by
    rw [List.getElem?_map, e] at hx
    have : k = x := Option.some.inj hx
    subst this
    exact Value.isStrOf_shape hk
  rw [kv123_keys] at e0
  have lr : r < s.heap.objs.size := by obtain ⟨_, _, _, e, _⟩ := hS; exact Heap.lt_size e
  have l123 : 123 < s.heap.objs.size := Nat.lt_of_lt_of_le (by decide) g.size
  have W := (Walks.dictKeys (prog := pw) (w := w) (knd := strKind pw w) (A := A.in1) (by exact hh) s.heap.objs.size 123 (Nat.ne_of_lt l123) (kv123 w.params) ep : Walks pw w A.in1 s.heap.objs.size [s.heap.objs.size, 123] [s.heap.objs.size] _ _ _)
  have hSf : r ∉ [s.heap.objs.size, 123] := by
    simp only [List.mem_cons, List.not_mem_nil, or_false, not_or]
    exact ⟨Nat.ne_of_lt lr, hr⟩
  have gr : Grow s.heap (s.heap.push { cls := .type "dict_keyiterator", data := .fields #[.ref 123, .int 0 0, .int (kv123 w.params).length 0, .int ep 0] }) := Grow.push _
  refine upd_step (s := { s with heap := s.heap.push { cls := .type "dict_keyiterator", data := .fields #[.ref 123, .int 0 0, .int (kv123 w.params).length 0, .int ep 0] } }) W hSf (i := 0) (x := xg) (L := L) (by rw [hlen]; decide) ⟨⟨_, Heap.get?_push_size _ rfl, rfl, rfl⟩, hD.push _⟩ (fun v hv => e0 0 xg rfl v hv) (hS.at fun o e => gr.keeps _ _ e) (by omega) h1 fun ha ta sta hSa ka => ?_
  refine upd_step (s := { s with heap := ha, toks := ta }) W hSf (i := 1) (x := xk) (L := xg :: L) (by rw [hlen]; decide) sta (fun v hv => e0 1 xk rfl v hv) hSa (by rw [List.length_cons]; omega) (by rw [List.mem_cons, not_or]; exact ⟨by decide, h2⟩) fun hb' tb stb hSb kb => ?_
  refine upd_end (s := { s with heap := hb', toks := tb }) W hSf (by rw [hlen]; exact stb) hSb fun hc tc hSc kc => k hc tc hSc fun b o hbr e => ?_
  have hbI : b ∉ [s.heap.objs.size] := by rw [List.mem_singleton]; exact Nat.ne_of_lt (Heap.lt_size e)
  exact kc b o hbI (kb b o hbr hbI (ka b o hbr hbI (gr.keeps _ _ e)))
theorem set_update_keys {V r : Addr} {L : List PySem.Str} {Q : Value → Shared → Prop} (hh : A.handled = none) (g : Gl w.params s.heap) (hV : KdlKeysView s.heap V 123) (hr : r ≠ 123) (hS : SetS w s.heap r L) (hb : L.length + 5 < scanBound) (h1 : xg ∉ L) (h2 : xk ∉ L)
    (k : ∀ h' tk, SetS w h' r (xk :: xg :: L) → (∀ b o, b ≠ r → s.heap.get? b = some o → h'.get? b = some o) → Q .none { s with heap := h', toks := tk }) :
    wpAny (model pw w) A (call (.builtin "set.update") [.ref r, .ref V]) Q E s := by
  have hTr : s.TypeIs (.ref r) "set" := by obtain ⟨es, ep, t, e, _⟩ := hS; exact ⟨_, e, rfl⟩
  have hTV := hV.typeIs
  refine wpAny_call_entry slot_supdate hTr entry_supdate ?_ (args_supdate _ _)
  have f1 := sub_ks
  have f2 := sub_kf
  have hne : (Value.type "dict_keys" == Value.type "dict") = false := by decide
  have key := upd_all (A := A.in1) (E := E) (R := fun r s' => r = .ok (.ret .none) ∧ Q .none s') hh g hV hr hS hb h1 h2 fun h' tk a b => ⟨rfl, k h' tk a b⟩
  obtain ⟨hp, gg, d, tk, os⟩ := s
  unfold Builtin.«set.update» Builtin.Frozenset.updateFrom
  generalize hPI : pyIter = PI at key ⊢
  wp_walk
  subst hPI
  refine wpAny_mono key (fun it s' hc => wpAny_bind (wpAny_runValue (codeAny_mono hc fun r s2 hq => ?_))) fun _ _ x => x
  obtain ⟨rfl, hq⟩ := hq
  refine wpAny_pure (wpAny_pure (wpAny_pure ?_))
  exact wpAny_pure ⟨_, rfl, hq⟩
end
end Mine
end TW41
section TW42
open PySem PySem.W PyProof.Rows
set_option Elab.async false
namespace Mine
set_option maxRecDepth 100000
section
variable {w : World} {A : Around} {E : Value → Shared → Prop} {s : Shared}
theorem or_declines {a V : Addr} {es : Array (Int × Value)} {ep : Nat} {t : SetTable} (ha : s.heap.get? a = some (setO es ep t)) (hV : s.heap.get? V = some { cls := .type "dict_keys", data := .fields #[.ref 123] }) : wpAny (model pw w) A (call (.builtin "set.__or__") [.ref a, .ref V]) (fun v s' => v = .notImplemented ∧ s' = s) E s := by
  have hTa : s.TypeIs (.ref a) "set" := ⟨_, ha, rfl⟩
  refine wpAny_call_entry PySem.F.slot_set_or hTa entry_sor ?_ (PySem.F.args_set_or_2 _ _)
  have f1 := sub_ks
  have f2 := sub_kf
  have f3 : isSubtype (.type "set") (.type "set") = Pure.pure true := sub_set_self
  obtain ⟨hp, gg, d, tk, os⟩ := s
  unfold Builtin.«frozenset.__or__»
  wp_walk
  exact ⟨_, rfl, rfl, rfl⟩
theorem kror {a V : Addr} {Q : Value → Shared → Prop} (hTa : s.TypeIs (.ref a) "set") (hV : s.TypeIs (.ref V) "dict_keys")
    (h : codeAny (model pw w) A.in1 (.call (.type "set") ⟨[.ref a], []⟩) (fun r s' => match r with | .ok (.ret r) => wpAny (model pw w) A.in1 (call (.builtin "set.update") [r, .ref V]) (fun _ s'' => Q r s'') E s' | .ok _ => False | .error e => E e s') s) :
    wpAny (model pw w) A (call (.builtin "dict_keys.__ror__") [.ref V, .ref a]) Q E s := by
  refine wpAny_call_entry slot_kror hV entry_kror ?_ (args_kror _ _)
  have f1 := mro_set
  obtain ⟨hp, gg, d, tk, os⟩ := s
  unfold Builtin.«dict_items.__ror__»
  wp_walk
  refine codeAny_mono h fun r s' q => ?_
  cases r with
  | error e => exact q
  | ok f =>
    cases f with
    | ret v => exact wpAny_bind (wpAny_holding (wpAny_mono q (fun _ s'' q => wpAny_pure ⟨_, rfl, q⟩) fun _ _ x => x))
    | _ => exact q.elim
/-- an operator of two built-in types, the left one declining -/
theorem binop_reflected {a b : Value} {T U idl idr : String} {op : Operator} {Q : Value → Shared → Prop} (hTU : T ≠ U) (ha : s.TypeIs a T) (hb : s.TypeIs b U)
    (hfT : fillsNumberSlot (.type T) op.info.2 = Pure.pure true) (hfU : fillsNumberSlot (.type U) op.info.2 = Pure.pure true) (hsub : isSubtype (.type U) (.type T) = Pure.pure false)
    (hl : Slot T (dunder op.info.2) idl) (hr : Slot U (dunderR op.info.2) idr)
    (hc : wpAny (model pw w) A (call (.builtin idl) [a, b]) (fun v s₁ => v = .notImplemented ∧ s₁ = s) E s)
    (hd : wpAny (model pw w) A (call (.builtin idr) [b, a]) (fun v' s₂ => v' ≠ .notImplemented ∧ Q v' s₂) E s) : wpAny (model pw w) A (binaryOp op a b) Q E s := by
  rcases hi : op.info with ⟨sym, nm⟩
  rw [hi] at hfT hfU hl hr
  simp only [binaryOp, hi]
  refine wpAny_holding ?_
  refine wpAny_bind ?_
  simp only [binaryOp1]
  refine wpAny_bind (wpAny_typeOf ha (wpAny_bind (wpAny_typeOf hb (wpAny_bind (wpAny_of_eq hfT ?_)))))
  have hne : (Value.type T == Value.type U) = false := by simpa using hTU
  simp only [hne, Bool.false_eq_true, if_false]
  refine wpAny_bind (wpAny_of_eq hfU ?_)
  simp only [Bool.and_self, if_true]
  refine wpAny_bind (wpAny_of_eq hsub ?_)
  have hpy : numberSlotInPython (.type T) nm = Pure.pure false := rfl
  simp only [Bool.false_eq_true, if_false, pure_bind, Bool.not_false, Bool.and_self, if_true, hpy]
  simp only [tryMethod]
  refine wpAny_bind (wpAny_bind (wpAny_callSpecial?_slot ha hl (wpAny_mono hc (fun v s₁ h₁ => ?_) fun _ _ x => x)))
  obtain ⟨rfl, rfl⟩ := h₁
  refine wpAny_pure (wpAny_bind (wpAny_bind (wpAny_callSpecial?_slot hb hr (wpAny_mono hd (fun v' s₂ h₂ => ?_) fun _ _ x => x))))
  cases v' <;> first | exact absurd rfl h₂.1 | exact wpAny_pure (wpAny_bind (wpAny_rule (wpAny_pure (wpAny_pure h₂.2))))
theorem union_gen {V : Addr} {D : Array (Int × Value) × SetTable} {Q : Value → Shared → Prop} (hh : A.handled = none) (g : Gl w.params s.heap) (hV : s.heap.get? V = some { cls := .type "dict_keys", data := .fields #[.ref 123] })
    (h122 : s.heap.get? 122 = some (setO D.1 4 { D.2 with led := false })) (hz : D.1.size = 3) (hm : D.2.mask = 7) (hd : D.2.dummies = #[]) (hpl : D.2.plain = false) (hfit : ({ D.2 with led := false } : SetTable).fits D.1.size = true) (hel : ElemsOf (strKind pw w) D.1.toList) (hpm : (D.1.toList.map fun e => strV e.2).Perm [x3, x2, x1])
    (k : ∀ r s', Grow s.heap s'.heap → Sa s s' → SetS w s'.heap r [xk, xg, x3, x2, x1] → Q (.ref r) s') : wpAny (model pw w) A (binaryOp .BitOr (.ref 122) (.ref V)) Q E s := by
  have hTa : s.TypeIs (.ref 122) "set" := ⟨_, h122, rfl⟩
  have hTV : s.TypeIs (.ref V) "dict_keys" := ⟨_, hV, rfl⟩
  refine binop_reflected (T := "set") (U := "dict_keys") (by decide) hTa hTV PySem.F.fills_set_or fills_kor sub_ks PySem.F.slot_set_or slot_kror (or_declines h122 hV) (kror hTa hTV ?_)
  refine code_set_set h122 hfit hz hm hd hpl fun h' ep' t' q1 q2 q3 gr => ?_
  have lt : 123 < s.heap.objs.size := Nat.lt_of_lt_of_le (by decide) g.size
  refine wpAny_size (set_update_keys (s := { s with heap := h' }) (L := [x3, x2, x1]) (by exact hh) (fun i o n e => gr.keeps _ _ (g i o n e)) ⟨_, gr.keeps _ _ hV, rfl, rfl⟩ (Nat.ne_of_gt lt) ⟨_, ep', t', q1, hel, q2, q3, hpm⟩ (by decide) (by decide) (by decide) fun h2 tk2 hS hk => fun hz2 => ?_)
  exact ⟨by simp, k _ _ ⟨fun b o _ e => hk b o (Nat.ne_of_lt (Heap.lt_size e)) (gr.keeps _ _ e), Nat.le_trans gr.size hz2⟩ ⟨rfl, rfl⟩ hS⟩
theorem elems3 (w : World) {l : List (Int × Value)} {a b c : PySem.Str} {t1 t2 t3 : Tok} (p : l.Perm [(PyData.keyHash w.params a, .str a t1), (PyData.keyHash w.params b, .str b t2), (PyData.keyHash w.params c, .str c t3)]) : ElemsOf (strKind pw w) l := fun e he => by
  rcases List.mem_cons.mp (p.mem_iff.mp he) with rfl | he
  · exact ⟨⟨a, beq_self_eq_true a, rfl⟩, rfl⟩
  · rcases List.mem_cons.mp he with rfl | he
    · exact ⟨⟨b, beq_self_eq_true b, rfl⟩, rfl⟩
    · rw [List.mem_singleton] at he
      subst he
      exact ⟨⟨c, beq_self_eq_true c, rfl⟩, rfl⟩
theorem map3 {l : List (Int × Value)} {i j k : Int} {a b c : PySem.Str} {t1 t2 t3 : Tok} (p : l.Perm [(i, .str a t1), (j, .str b t2), (k, .str c t3)]) : (l.map fun e => strV e.2).Perm [a, b, c] := p.map _
theorem h122_of {P : Params} {h : Heap} (g : Gl P h) : h.get? 122 = some (setO (setD P x1 x2 x3 503).1 4 { (setD P x1 x2 x3 503).2 with led := false }) := g 122 _ (by decide) (by rfl)
/-- KNOWN_TERMINALS | a view of ALIASES -/
theorem union_names {V : Addr} {Q : Value → Shared → Prop} (hh : A.handled = none) (g : Gl w.params s.heap) (hV : s.heap.get? V = some { cls := .type "dict_keys", data := .fields #[.ref 123] })
    (k : ∀ r s', Grow s.heap s'.heap → Sa s s' → SetS w s'.heap r [xk, xg, x3, x2, x1] → Q (.ref r) s') : wpAny (model pw w) A (binaryOp .BitOr (.ref 122) (.ref V)) Q E s := by
  obtain ⟨o, p⟩ := setD_ok w.params x1 x2 x3 503
  have hm := setD_mask w.params x1 x2 x3 503
  have hpl := setD_plain w.params x1 x2 x3 503
  have h122 := h122_of g
  have hz : (setD w.params x1 x2 x3 503).1.size = 3 := by rw [← Array.length_toList, p.length_eq]; rfl
  have hfit := fits_of o hz
  have hd := o.nod
  generalize setD w.params x1 x2 x3 503 = D at *
  exact union_gen hh g hV h122 hz hm hd hpl hfit (elems3 w p) (map3 p) k
end
end Mine
end TW42
section TW43
open PySem PySem.W PyProof.Rows
set_option Elab.async false
namespace Mine
set_option maxRecDepth 100000
theorem slot_sit_next : Slot "set_iterator" "__next__" "set_iterator.__next__" :=
  .of (owner := "set_iterator") (n := "__next__") (by rw [typeLookup_type, builtinLookup_eq_fast]; kernel_rfl) (by decide +kernel) (by decide +kernel) (by decide +kernel)
    (by first | exact .inl (by decide +kernel) | exact .inr (by decide +kernel)) (by rw [isSubtype_type]; kernel_rfl)
theorem entry_sit_next : entryFor table "set_iterator.__next__" = some Builtin.«set_iterator.__next__» := entryFor_of_tree (by kernel_rfl)
theorem args_sit_next (a : Value) : argsOk "set_iterator.__next__" ⟨[a], []⟩ := by unfold argsOk; kernel_rfl
theorem slot_sit_iter : Slot "set_iterator" "__iter__" "set_iterator.__iter__" :=
  .of (owner := "set_iterator") (n := "__iter__") (by rw [typeLookup_type, builtinLookup_eq_fast]; kernel_rfl) (by decide +kernel) (by decide +kernel) (by decide +kernel)
    (by first | exact .inl (by decide +kernel) | exact .inr (by decide +kernel)) (by rw [isSubtype_type]; kernel_rfl)
theorem entry_sit_iter : entryFor table "set_iterator.__iter__" = some Builtin.«dict_keyiterator.__iter__» := entryFor_alias (id' := "dict_keyiterator.__iter__") (by kernel_rfl) rfl (by decide +kernel) (by kernel_rfl)
theorem args_sit_iter (a : Value) : argsOk "set_iterator.__iter__" ⟨[a], []⟩ := by unfold argsOk; kernel_rfl
theorem entry_set_iter : entryFor table "set.__iter__" = some Builtin.«frozenset.__iter__» := entryFor_alias (id' := "frozenset.__iter__") (by kernel_rfl) rfl (by decide +kernel) (by kernel_rfl)
section
variable {w : World} {A : Around} {E : Value → Shared → Prop} {s : Shared}
theorem wpAny_choose {M : Model} {src : Source} {n : Nat} {Q : Nat → Shared → Prop} (hn : n ≠ 0) (h : ∀ v, v < n → ∀ d, Q v { s with drawn := d }) : wpAny M A (choose src n) Q E s := fun _ _ _ =>
  ⟨hn, h _ (Nat.mod_lt _ (Nat.pos_of_ne_zero hn)) _⟩
theorem erase_perm {α : Type} : ∀ {l : List α} {i : Nat} (h : i < l.length), (l[i] :: l.eraseIdx i).Perm l
  | x :: xs, 0, _ => .refl _
  | x :: xs, i + 1, h => by
    have := erase_perm (l := xs) (i := i) (by simpa using h)
    rw [List.getElem_cons_succ, List.eraseIdx_cons_succ]
    exact (List.Perm.swap _ _ _).trans (this.cons x)
theorem drawOrder_ok {α : Type} : ∀ (n : Nat) (xs : List α) (s : Shared) {Q : List α → Shared → Prop}, xs.length = n → (∀ l d, l.Perm xs → Q l { s with drawn := d }) → wpAny (model pw w) A (drawOrder n xs) Q E s
  | 0, xs, s, Q, hl, k => by
    rw [List.eq_nil_of_length_eq_zero hl] at k
    exact wpAny_pure (k [] s.drawn (.refl _))
  | n + 1, [], s, Q, hl, k => by simp at hl
  | n + 1, x :: xs, s, Q, hl, k => by
    unfold drawOrder
    refine wpAny_bind (wpAny_choose (by simp) fun i hi d => ?_)
    rw [List.getElem?_eq_getElem hi]
    refine wpAny_bind (drawOrder_ok n _ _ (by rw [List.length_eraseIdx_of_lt hi, hl]; rfl) fun l d' hp => wpAny_pure (k _ d' ?_))
    refine (hp.cons _).trans ?_
    exact (erase_perm hi)
theorem pickOrder_go {α : Type} (next : Nat → Nat) : ∀ (fuel k : Nat) (left : List α) (out : Array α), left.length ≤ fuel → (pickOrder.go next fuel k left out).toList.Perm (out.toList ++ left)
  | 0, k, left, out, h => by
    rw [List.eq_nil_of_length_eq_zero (Nat.le_zero.mp h), List.append_nil]; exact .refl _
  | fuel + 1, k, left, out, h => by
    unfold pickOrder.go
    cases hl : left with
    | nil => rw [List.append_nil]; exact .refl _
    | cons x xs =>
      rw [← hl]
      have hpos : 0 < left.length := by rw [hl]; exact Nat.succ_pos _
      have hi := Nat.mod_lt (next k) hpos
      rw [List.getElem?_eq_getElem hi]
      refine (pickOrder_go next fuel (k + 1) _ _ (by rw [List.length_eraseIdx_of_lt hi]; omega)).trans ?_
      rw [Array.toList_push, List.append_assoc]
      exact List.Perm.append_left _ (erase_perm hi)
theorem pickOrder_perm {α : Type} (next : Nat → Nat) (xs : Array α) : (pickOrder next xs).toList.Perm xs.toList := by
  unfold pickOrder
  have := pickOrder_go next xs.size 0 xs.toList #[] (by rw [Array.length_toList]; exact Nat.le_refl _)
  simpa using this
/-- the iterator of a set, with its order drawn ahead -/
def SitD (I r T : Addr) (es : Array (Int × Value)) (ep : Nat) (t : SetTable) (ps : List Nat) (i : Nat) (h : Heap) : Prop :=
  h.get? I = some { cls := .type "set_iterator", data := .fields #[.ref T, .int i 0, .ref r, .int es.size 0, .int ep 0] } ∧ h.get? r = some (setO es ep t) ∧ h.get? T = some { cls := .type "tuple", data := .seq (ps.map fun (j : Nat) => rawInt j).toArray }
theorem sitD_walks (I r T : Addr) (es : Array (Int × Value)) (ep : Nat) (t : SetTable) (ps : List Nat) (hh : A.handled = none) (hIr : r ≠ I) (hIT : T ≠ I) (hf : t.fits es.size = true) (hps : ps.Perm (List.range es.size)) :
    Walks pw w A I [I, r, T] [I] es.size (fun i v => ∃ j, ps[i]? = some j ∧ (es[j]?).map (·.2) = some v) (SitD I r T es ep t ps) where
  sub := fun b hb => by simp at hb; simp [hb]
  frame := fun i h h' ⟨a, b, c⟩ k => ⟨k I (by simp) _ a, k r (by simp) _ b, k T (by simp) _ c⟩
  self := fun i s Q E ⟨a, b, c⟩ hQ => by
    have hT : s.TypeIs (.ref I) "set_iterator" := ⟨_, a, rfl⟩
    refine wpAny_pyIter_slot hT slot_sit_iter (wpAny_call_entry slot_sit_iter hT entry_sit_iter ?_ (args_sit_iter _))
    exact wpAny_pure ⟨_, rfl, "set_iterator", _, hT, slot_sit_next.lookup, hQ⟩
  item := fun i s Q E hi ⟨a, b, c⟩ hQ => by
    have hT : s.TypeIs (.ref I) "set_iterator" := ⟨_, a, rfl⟩
    have hlen : ps.length = es.size := by rw [hps.length_eq, List.length_range]
    have hpi : ps[i]? = some ps[i] := List.getElem?_eq_getElem (by omega)
    have hj : ps[i] < es.size := List.mem_range.mp (hps.mem_iff.mp (List.getElem_mem (by omega)))
    unfold pyNext
    refine wpAny_bind (wpAny_attempt (wpAny_callSpecial?_slot (name := PySem.Str.ofString "__next__") hT slot_sit_next (wpAny_call_entry slot_sit_next hT entry_sit_next ?_ (args_sit_next _))))
    unfold Builtin.«set_iterator.__next__»
    refine wpAny_bind (wpAny_pure ?_)
    refine wpAny_bind (wpAny_fieldsOf a rfl ?_)
    dsimp only
    refine wpAny_bind (wpAny_setEntries_of b rfl hf ?_)
    rw [if_neg (by simp)]
    refine wpAny_bind (wpAny_seqItems c rfl ?_)
    have e1 : (ps.map fun (j : Nat) => rawInt j).toArray[((i : Int)).toNat]? = some (.int (ps[i] : Nat) 0) := by
      rw [Int.toNat_natCast, List.getElem?_toArray, List.getElem?_map, hpi]; rfl
    dsimp only
    rw [e1]
    dsimp only
    refine wpAny_bind ?_
    unfold setNextDrawn
    refine wpAny_bind (wpAny_setState_of b rfl hf ?_)
    dsimp only
    rw [if_neg (by simp)]
    have e2 : es[((ps[i] : Nat) : Int).toNat]? = some es[ps[i]] := by rw [Int.toNat_natCast]; exact Array.getElem?_eq_getElem hj
    rw [e2]
    dsimp only
    refine wpAny_pure (wpAny_bind (wpAny_setField_rec a (by simp) fun h' hg sb => ?_))
    refine wpAny_pure ⟨_, rfl, wpAny_pure (hQ _ _ s.toks ⟨ps[i], hpi, by rw [Array.getElem?_eq_getElem hj]; rfl⟩ ⟨hg, (sb.2 r hIr).trans b, (sb.2 T hIT).trans c⟩ fun b' o hb e => (sb.2 b' (by simpa using hb)).trans e)⟩
  done := fun s Q E ⟨a, b, c⟩ hQ => by
    have hT : s.TypeIs (.ref I) "set_iterator" := ⟨_, a, rfl⟩
    have hlen : ps.length = es.size := by rw [hps.length_eq, List.length_range]
    unfold pyNext
    refine wpAny_bind (wpAny_attempt (wpAny_callSpecial?_slot (name := PySem.Str.ofString "__next__") hT slot_sit_next (wpAny_call_entry slot_sit_next hT entry_sit_next ?_ (args_sit_next _))))
    unfold Builtin.«set_iterator.__next__»
    refine wpAny_bind (wpAny_pure ?_)
    refine wpAny_bind (wpAny_fieldsOf a rfl ?_)
    dsimp only
    refine wpAny_bind (wpAny_setEntries_of b rfl hf ?_)
    rw [if_neg (by simp)]
    refine wpAny_bind (wpAny_seqItems c rfl ?_)
    have e1 : (ps.map fun (j : Nat) => rawInt j).toArray[((es.size : Int)).toNat]? = none := by
      rw [Int.toNat_natCast, List.getElem?_toArray, List.getElem?_map, List.getElem?_eq_none (by omega)]; rfl
    dsimp only
    rw [e1]
    dsimp only
    refine wpAny_bind (wpAny_setField_rec a (by simp) fun h1 hg1 sb1 => ?_)
    refine wpAny_bind (wpAny_setField_rec (s := { s with heap := h1 }) hg1 (by simp) fun h2 hg2 sb2 => ?_)
    refine wpAny_bind ?_
    simp only [newExc, newTuple]
    refine wpAny_bind (wpAny_newObj_type ?_ (by size_fits))
    refine wpAny_bind (m := firstArgMember _ _) (wpAny_of_eq (a := Value.none) (by first | rfl | (simp only [firstArgMember]; rfl)) ?_)
    refine wpAny_newObj_type ?_ (by size_fits)
    simp only [raiseNew]
    refine wpAny_bind (wpAny_handled ?_)
    rw [show A.in1.handled = none from hh]
    refine wpAny_bind (wpAny_pure (wpAny_throw ?_))
    refine wpAny_bind (wpAny_isInstance (T := "StopIteration") (b := true) ⟨_, Heap.get?_push_size _ rfl, rfl⟩ isSubtype_stop ?_)
    exact wpAny_pure (hQ _ s.toks fun b' o hb e => Heap.get?_push_of_some _ (Heap.get?_push_of_some _ ((sb2.2 b' (by simpa using hb)).trans ((sb1.2 b' (by simpa using hb)).trans e))))
/-- the iterator of a set whose order is told by its text -/
def SitB (I r : Addr) (es : Array (Int × Value)) (ep : Nat) (t : SetTable) (i : Nat) (h : Heap) : Prop :=
  (∃ slot : Nat, h.get? I = some { cls := .type "set_iterator", data := .fields #[.int slot 0, .int i 0, .ref r, .int es.size 0, .int ep 0] }) ∧ h.get? r = some (setO es ep t)
theorem sitB_walks (I r : Addr) (es : Array (Int × Value)) (ep : Nat) (t : SetTable) (hh : A.handled = none) (hIr : r ≠ I) (hf : t.fits es.size = true) (hb : w.params.followText "set-order" = true) :
    Walks pw w A I [I, r] [I] es.size (fun i v => ((pickOrder (w.params.setOrder r ep) es)[i]?).map (·.2) = some v) (SitB I r es ep t) where
  sub := fun b hb => by simp at hb; simp [hb]
  frame := fun i h h' ⟨⟨sl, a⟩, b⟩ k => ⟨⟨sl, k I (by simp) _ a⟩, k r (by simp) _ b⟩
  self := fun i s Q E ⟨⟨sl, a⟩, b⟩ hQ => by
    have hT : s.TypeIs (.ref I) "set_iterator" := ⟨_, a, rfl⟩
    refine wpAny_pyIter_slot hT slot_sit_iter (wpAny_call_entry slot_sit_iter hT entry_sit_iter ?_ (args_sit_iter _))
    exact wpAny_pure ⟨_, rfl, "set_iterator", _, hT, slot_sit_next.lookup, hQ⟩
  item := fun i s Q E hi ⟨⟨sl, a⟩, b⟩ hQ => by
    have hT : s.TypeIs (.ref I) "set_iterator" := ⟨_, a, rfl⟩
    have hlen : (pickOrder (w.params.setOrder r ep) es).size = es.size := by rw [← Array.length_toList, (pickOrder_perm _ _).length_eq, Array.length_toList]
    unfold pyNext
    refine wpAny_bind (wpAny_attempt (wpAny_callSpecial?_slot (name := PySem.Str.ofString "__next__") hT slot_sit_next (wpAny_call_entry slot_sit_next hT entry_sit_next ?_ (args_sit_next _))))
    unfold Builtin.«set_iterator.__next__»
    refine wpAny_bind (wpAny_pure ?_)
    refine wpAny_bind (wpAny_fieldsOf a rfl ?_)
    dsimp only
    refine wpAny_bind (wpAny_setEntries_of b rfl hf ?_)
    rw [if_neg (by simp)]
    refine wpAny_bind ?_
    unfold setNext
    refine wpAny_bind (wpAny_setState_of b rfl hf ?_)
    dsimp only
    unfold setsByText
    refine wpAny_bind (wpAny_bind (wpAny_askSetting (wpAny_pure ?_)))
    rw [if_pos (show ({ program := (model pw w).prog, params := (model pw w).w.params } : Setting).params.followText "set-order" = true from hb)]
    rw [if_neg (by simp)]
    refine wpAny_bind ?_
    unfold setWalk
    refine wpAny_bind (wpAny_setState_of b rfl hf ?_)
    dsimp only
    unfold setsByText
    refine wpAny_bind (wpAny_bind (wpAny_askSetting (wpAny_pure ?_)))
    rw [if_pos (show ({ program := (model pw w).prog, params := (model pw w).w.params } : Setting).params.followText "set-order" = true from hb)]
    refine wpAny_bind (wpAny_askSetting (wpAny_pure (wpAny_pure ?_)))
    have e1 : (pickOrder (w.params.setOrder r ep) es)[((i : Int)).toNat]? = some (pickOrder (w.params.setOrder r ep) es)[i] := by rw [Int.toNat_natCast]; exact Array.getElem?_eq_getElem (by omega)
    have e2 : (pickOrder (({ program := (model pw w).prog, params := (model pw w).w.params } : Setting).params.setOrder r ep) es)[((i : Int)).toNat]? = some (pickOrder (w.params.setOrder r ep) es)[i] := e1
    rw [e2]
    dsimp only [Option.map]
    refine wpAny_bind (wpAny_setField_rec a (by simp) fun h1 hg1 sb1 => ?_)
    refine wpAny_bind (wpAny_setField_rec (s := { s with heap := h1 }) hg1 (by simp) fun h2 hg2 sb2 => ?_)
    refine wpAny_pure ⟨_, rfl, wpAny_pure (hQ _ _ s.toks (by rw [Array.getElem?_eq_getElem (by omega)]; rfl) ⟨⟨_, hg2⟩, (sb2.2 r hIr).trans ((sb1.2 r hIr).trans b)⟩ fun b' o hb e => (sb2.2 b' (by simpa using hb)).trans ((sb1.2 b' (by simpa using hb)).trans e))⟩
  done := fun s Q E ⟨⟨sl, a⟩, b⟩ hQ => by
    have hT : s.TypeIs (.ref I) "set_iterator" := ⟨_, a, rfl⟩
    have hlen : (pickOrder (w.params.setOrder r ep) es).size = es.size := by rw [← Array.length_toList, (pickOrder_perm _ _).length_eq, Array.length_toList]
    unfold pyNext
    refine wpAny_bind (wpAny_attempt (wpAny_callSpecial?_slot (name := PySem.Str.ofString "__next__") hT slot_sit_next (wpAny_call_entry slot_sit_next hT entry_sit_next ?_ (args_sit_next _))))
    unfold Builtin.«set_iterator.__next__»
    refine wpAny_bind (wpAny_pure ?_)
    refine wpAny_bind (wpAny_fieldsOf a rfl ?_)
    dsimp only
    refine wpAny_bind (wpAny_setEntries_of b rfl hf ?_)
    rw [if_neg (by simp)]
    refine wpAny_bind ?_
    unfold setNext
    refine wpAny_bind (wpAny_setState_of b rfl hf ?_)
    dsimp only
    unfold setsByText
    refine wpAny_bind (wpAny_bind (wpAny_askSetting (wpAny_pure ?_)))
    rw [if_pos (show ({ program := (model pw w).prog, params := (model pw w).w.params } : Setting).params.followText "set-order" = true from hb)]
    rw [if_neg (by simp)]
    refine wpAny_bind ?_
    unfold setWalk
    refine wpAny_bind (wpAny_setState_of b rfl hf ?_)
    dsimp only
    unfold setsByText
    refine wpAny_bind (wpAny_bind (wpAny_askSetting (wpAny_pure ?_)))
    rw [if_pos (show ({ program := (model pw w).prog, params := (model pw w).w.params } : Setting).params.followText "set-order" = true from hb)]
    refine wpAny_bind (wpAny_askSetting (wpAny_pure (wpAny_pure ?_)))
    have e1 : (pickOrder (w.params.setOrder r ep) es)[((es.size : Int)).toNat]? = none := by rw [Int.toNat_natCast]; exact Array.getElem?_eq_none (by omega)
    have e2 : (pickOrder (({ program := (model pw w).prog, params := (model pw w).w.params } : Setting).params.setOrder r ep) es)[((es.size : Int)).toNat]? = none := e1
    rw [e2]
    dsimp only [Option.map]
    refine wpAny_bind (wpAny_setField_rec a (by simp) fun h2 hg2 sb2 => ?_)
    refine wpAny_bind ?_
    simp only [newExc, newTuple]
    refine wpAny_bind (wpAny_newObj_type ?_ (by size_fits))
    refine wpAny_bind (m := firstArgMember _ _) (wpAny_of_eq (a := Value.none) (by first | rfl | (simp only [firstArgMember]; rfl)) ?_)
    refine wpAny_newObj_type ?_ (by size_fits)
    simp only [raiseNew]
    refine wpAny_bind (wpAny_handled ?_)
    rw [show A.in1.handled = none from hh]
    refine wpAny_bind (wpAny_pure (wpAny_throw ?_))
    refine wpAny_bind (wpAny_isInstance (T := "StopIteration") (b := true) ⟨_, Heap.get?_push_size _ rfl, rfl⟩ isSubtype_stop ?_)
    exact wpAny_pure (hQ _ s.toks fun b' o hb e => Heap.get?_push_of_some _ (Heap.get?_push_of_some _ ((sb2.2 b' (by simpa using hb)).trans e)))
end
end Mine
end TW43
section TW44
open PySem PySem.W PyProof.Rows
set_option Elab.async false
namespace Mine
set_option maxRecDepth 100000
theorem Walks.weak' {w : World} {A : Around} {I : Addr} {fp wr : List Addr} {n : Nat} {P P' : Nat → Value → Prop} {St : Nat → Heap → Prop} (W : Walks pw w A I fp wr n P St) (h : ∀ i v, P i v → P' i v) : Walks pw w A I fp wr n P' St where
  sub := W.sub
  frame := W.frame
  item := fun i s Q E hi st hQ => W.item i s Q E hi st fun v h' tk p => hQ v h' tk (h i v p)
  done := W.done
  self := W.self
section
variable {w : World} {A : Around} {E : Value → Shared → Prop} {s : Shared}
theorem iterSet {r : Addr} {es : Array (Int × Value)} {ep : Nat} {t : SetTable} {Q : Value → Shared → Prop} {B : Around} (hB : B.handled = none) (hr : s.heap.get? r = some (setO es ep t)) (hf : t.fits es.size = true) (hp : t.plain = false) (hz : 2 ≤ es.size) (hz2 : es.size ≤ 1000)
    (h : ∀ (I : Addr) (fp : List Addr) (ord : List Value) (St : Nat → Heap → Prop) (s2 : Shared), (∀ b ∈ fp, b = r ∨ s.heap.objs.size ≤ b) → (∀ b ∈ fp, b < s2.heap.objs.size) → Walks pw w B I fp [I] es.size (fun i v => ord[i]? = some v) St → St 0 s2.heap → ord.Perm (es.toList.map (·.2)) → Grow s.heap s2.heap → Sa s s2 → s.heap.objs.size ≤ I → Q (.ref I) s2) :
    wpAny (model pw w) A (pyIter (.ref r)) Q E s := by
  have hT : s.TypeIs (.ref r) "set" := ⟨_, hr, rfl⟩
  have lr : r < s.heap.objs.size := Heap.lt_size hr
  refine wpAny_pyIter_slot hT PySem.F.slot_set_iter (wpAny_call_entry PySem.F.slot_set_iter hT entry_set_iter ?_ (PySem.F.args_set_iter_1 _))
  unfold Builtin.«frozenset.__iter__»
  refine wpAny_bind (m := Builtin.Frozenset.slot0 _ _) (wpAny_pure ?_)
  refine wpAny_bind ?_
  unfold Builtin.Frozenset.sizeOf
  refine wpAny_bind (wpAny_setEntries_of hr rfl hf (wpAny_pure ?_))
  refine wpAny_bind ?_
  unfold setDrawn
  refine wpAny_bind (wpAny_setState_of hr rfl hf ?_)
  dsimp only
  unfold setsByText
  refine wpAny_bind (wpAny_bind (wpAny_askSetting (wpAny_pure ?_)))
  cases hb : w.params.followText "set-order" with
  | true =>
    have hb' : ({ program := (model pw w).prog, params := (model pw w).w.params } : Setting).params.followText "set-order" = true := hb
    refine wpAny_pure ?_
    rw [hb']
    simp only [Bool.not_true, Bool.false_and, Bool.false_eq_true, if_false]
    refine wpAny_bind (wpAny_pure ?_)
    refine wpAny_bind (wpAny_setEpoch_of hr rfl hf ?_)
    refine wpAny_bind (wpAny_newObj_type ?_)
    have g : Grow s.heap (s.heap.push { cls := .type "set_iterator", data := .fields [rawInt 0, rawInt 0, Value.ref r, rawInt es.size, rawInt ep].toArray }) := Grow.push _
    have hne : r ≠ s.heap.objs.size := Nat.ne_of_lt lr
    refine wpAny_pure ⟨_, rfl, "set_iterator", _, ⟨_, Heap.get?_push_size _ rfl, rfl⟩, slot_sit_next.lookup, h s.heap.objs.size [s.heap.objs.size, r] ((pickOrder (w.params.setOrder r ep) es).toList.map (·.2)) (SitB s.heap.objs.size r es ep t) _ ?_ ?_ (Walks.weak' (sitB_walks s.heap.objs.size r es ep t hB hne hf hb) fun i v hv => ?_) ⟨⟨0, Heap.get?_push_size _ rfl⟩, g.keeps _ _ hr⟩ ((pickOrder_perm _ _).map _) g ⟨rfl, rfl⟩ (Nat.le_refl _)⟩
    · intro b hb
      rcases List.mem_cons.mp hb with rfl | hb
      · exact .inr (Nat.le_refl _)
      · exact .inl (List.mem_singleton.mp hb)
    · intro b hb
      show b < (s.heap.push _).objs.size
      rw [Heap.size_push]
      rcases List.mem_cons.mp hb with rfl | hb
      · exact Nat.lt_succ_self _
      · rw [List.mem_singleton.mp hb]; exact Nat.lt_succ_of_lt lr
    · rw [List.getElem?_map, Array.getElem?_toList]; exact hv
  | false =>
    have hb' : ({ program := (model pw w).prog, params := (model pw w).w.params } : Setting).params.followText "set-order" = false := hb
    refine wpAny_pure ?_
    rw [hb']
    have hd : (!false && (!t.plain && decide (es.size > 1))) = true := by
      rw [hp]
      simp only [Bool.not_false, Bool.true_and, decide_eq_true_iff]
      omega
    refine wpAny_ite_split (fun _ => ?_) (fun hab => absurd hd hab)
    refine wpAny_bind (drawOrder_ok es.size _ s List.length_range fun ps d hps => ?_)
    have hpl : ps.length = es.size := by rw [hps.length_eq, List.length_range]
    refine wpAny_bind (wpAny_newTuple ?_ (by rw [List.length_map]; have := sizeLine_eq; omega))
    have g1 : Grow s.heap (s.heap.push { cls := .type "tuple", data := .seq (ps.map fun (i : Nat) => rawInt i).toArray }) := Grow.push _
    have lr1 : r < (s.heap.push { cls := .type "tuple", data := .seq (ps.map fun (i : Nat) => rawInt i).toArray }).objs.size := by rw [Heap.size_push]; exact Nat.lt_succ_of_lt lr
    have hT1 : (s.heap.push { cls := .type "tuple", data := .seq (ps.map fun (i : Nat) => rawInt i).toArray }).get? s.heap.objs.size = some { cls := .type "tuple", data := .seq (ps.map fun (i : Nat) => rawInt i).toArray } := Heap.get?_push_size _ rfl
    have hz1 : (s.heap.push { cls := .type "tuple", data := .seq (ps.map fun (i : Nat) => rawInt i).toArray }).objs.size = s.heap.objs.size + 1 := Heap.size_push ..
    generalize s.heap.push { cls := .type "tuple", data := .seq (ps.map fun (i : Nat) => rawInt i).toArray } = H1 at g1 lr1 hT1 hz1 ⊢
    refine wpAny_bind (wpAny_setEpoch_of (g1.keeps _ _ hr) rfl hf ?_)
    refine wpAny_bind (wpAny_newObj_type ?_)
    have g2 : Grow H1 (H1.push { cls := .type "set_iterator", data := .fields [.ref s.heap.objs.size, rawInt 0, Value.ref r, rawInt es.size, rawInt ep].toArray }) := Grow.push _
    have hsz2 : (H1.push { cls := .type "set_iterator", data := .fields [.ref s.heap.objs.size, rawInt 0, Value.ref r, rawInt es.size, rawInt ep].toArray }).objs.size = H1.objs.size + 1 := Heap.size_push ..
    refine wpAny_pure ⟨_, rfl, "set_iterator", _, ⟨_, Heap.get?_push_size _ rfl, rfl⟩, slot_sit_next.lookup, h H1.objs.size [H1.objs.size, r, s.heap.objs.size] (ps.map fun j => ((es[j]?).map (·.2)).getD .none) (SitD H1.objs.size r s.heap.objs.size es ep t ps) _ ?_ ?_
      (Walks.weak' (sitD_walks H1.objs.size r s.heap.objs.size es ep t ps hB (Nat.ne_of_lt lr1) (by rw [hz1]; exact Nat.ne_of_lt (Nat.lt_succ_self _)) hf hps) fun i v hv => ?_) ⟨Heap.get?_push_size _ rfl, g2.keeps _ _ (g1.keeps _ _ hr), g2.keeps _ _ hT1⟩ ?_ (g1.trans g2) ⟨rfl, rfl⟩ g1.size⟩
    · intro b hb
      rcases List.mem_cons.mp hb with rfl | hb
      · exact .inr g1.size
      · rcases List.mem_cons.mp hb with rfl | hb
        · exact .inl rfl
        · exact .inr (Nat.le_of_eq (List.mem_singleton.mp hb).symm)
    · intro b hb
      show b < (H1.push _).objs.size
      rw [hsz2]
      rcases List.mem_cons.mp hb with rfl | hb
      · exact Nat.lt_succ_self _
      · rcases List.mem_cons.mp hb with rfl | hb
        · exact Nat.lt_succ_of_lt lr1
        · rw [List.mem_singleton.mp hb, hz1]; exact Nat.lt_succ_of_lt (Nat.lt_succ_self _)
    · obtain ⟨j, h1, h2⟩ := hv
      rw [List.getElem?_map, h1, Option.map_some, h2]; rfl
    · refine (hps.map _).trans (List.Perm.of_eq ?_)
      have : ∀ n, n ≤ es.size → (List.range n).map (fun j => ((es[j]?).map (·.2)).getD .none) = (es.toList.take n).map (·.2) := fun n => by
        induction n with
        | zero => intro _; simp
        | succ n ih =>
          intro hn
          have hn' : n < es.toList.length := by rw [Array.length_toList]; omega
          rw [List.range_succ, List.map_append, ih (by omega), List.take_succ_eq_append_getElem hn', List.map_append]
          congr 1
          rw [List.map_cons, List.map_nil, Array.getElem?_eq_getElem (by omega)]
          simp
      rw [this _ (Nat.le_refl _), List.take_of_length_le (by rw [Array.length_toList]; exact Nat.le_refl _)]
end
end Mine
end TW44
section TW45
open PySem PySem.W PyProof.Rows
set_option Elab.async false
namespace Mine
set_option maxRecDepth 100000
section
variable {w : World} {A : Around} {E : Value → Shared → Prop} {s : Shared}
theorem hint_set {r : Addr} {Q : Bool → Shared → Prop} (hT : s.TypeIs (.ref r) "set") (h : Q false s) : wpAny (model pw w) A (Builtin.List.listLengthHint (.ref r)) Q E s := by
  unfold Builtin.List.listLengthHint
  refine wpAny_bind (wpAny_specialOf hT PySem.F.slot_set_len.lookup ?_)
  generalize hid : ("set.__len__" : String) = id0
  wp_delta
  rw [show splitId id0 = some ("set", "__len__") from by subst hid; decide +kernel]
  subst hid
  refine wpAny_bind (wpAny_isInstance (T := "set") (b := true) hT (by rw [isSubtype_type]; kernel_rfl) ?_)
  refine wpAny_ite_split (fun hab => absurd hab (by decide)) (fun _ => ?_)
  refine wpAny_ite_split (fun _ => ?_) (fun hab => absurd (by decide +kernel) hab)
  refine wpAny_bind (wpAny_typeOf hT ?_)
  exact wpAny_pure h
theorem extend_set {S r : Addr} {es : Array (Int × Value)} {ep : Nat} {t : SetTable} {res : Value} {R : Result → Shared → Prop} (hh : A.handled = none) (hr : s.heap.get? r = some (setO es ep t)) (hf : t.fits es.size = true) (hp : t.plain = false) (hz : 2 ≤ es.size) (hz2 : es.size ≤ 1000) (hSr : S ≠ r)
    (hS : s.heap.get? S = some { cls := .type "list", data := .seq #[] })
    (hR : ∀ s' acc' c', (∀ b o, b ≠ S → s.heap.get? b = some o → s'.heap.get? b = some o) → Sa s s' → s'.heap.get? S = some { cls := .type "list", dict := none, data := .seq acc' c', slots := #[] } → acc'.toList.Perm (es.toList.map (·.2)) → R (.ok (.ret res)) s') :
    wpAny (model pw w) A.in1 (Builtin.List.listExtendWith (.ref S) (.ref r) res)
      (fun fin s' => match fin with | .done f => R (.ok f) s' | .again c' => c'.quiet = true ∧ codeAny (model pw w) A c' R s') (fun e s' => R (.error e) s') s := by
  have hT : s.TypeIs (.ref r) "set" := ⟨_, hr, rfl⟩
  have lS : S < s.heap.objs.size := Heap.lt_size hS
  unfold Builtin.List.listExtendWith
  refine wpAny_bind (wpAny_typeOf (T := "set") hT ?_)
  have h1 : Builtin.List.listSameRef (.ref S) (.ref r) = false := by simp [Builtin.List.listSameRef, hSr]
  have h2 : (Value.type "set" == Value.type "list") = false := by decide
  have h3 : (Value.type "set" == Value.type "tuple") = false := by decide
  simp only [h1, h2, h3, Bool.or_false, Bool.false_eq_true, if_false]
  refine wpAny_bind (iterSet (B := A.in1) (by exact hh) hr hf hp hz hz2 fun I fp ord St s2 hfp hfpl W st hord g sa hI => ?_)
  have hSf : S ∉ fp := fun hm => by
    rcases hfp S hm with e | e
    · exact hSr e
    · exact absurd lS (Nat.not_lt.mpr e)
  have hordl : ord.length = es.size := by rw [hord.length_eq, List.length_map, Array.length_toList]
  have hS₁ := g.keeps _ _ hS
  have key : ∀ (h : Heap) (c₁ : Nat), St 0 h → (∀ b o, b ≠ S → s2.heap.get? b = some o → h.get? b = some o) →
      h.get? S = some { cls := .type "list", data := .seq #[] c₁ } → codeAny (model pw w) A (.builtin "list.extend.loop" ⟨[.ref S, .ref I, res], []⟩) R { s2 with heap := h } := by
    intro h c₁ hst hk hS₁
    refine codeAny_extend_loopS W.toS (by have := sizeLine_eq; omega) S hSf res es.size 0 _ #[] c₁ rfl (Nat.zero_le _) hst hS₁ (ItemsOf.nil _) fun s' acc' c' hm hS' hacc => ?_
    refine hR s' acc' c' (fun b o hb e => hm.heap b o (fun hmem => ?_) (hk b o hb (g.keeps _ _ e))) ⟨(hm.gens : s'.gens = s2.gens).trans sa.gens, hm.os.trans sa.os⟩ hS' ?_
    · rcases List.mem_cons.mp hmem with e' | hmem
      · exact hb e'
      · rw [List.mem_singleton.mp hmem] at e
        exact absurd (Heap.lt_size e) (Nat.not_lt.mpr hI)
    · refine (List.Perm.of_eq ?_).trans hord
      apply List.ext_getElem?
      intro i
      rcases Nat.lt_or_ge i es.size with hi | hi
      · have hi' : i < acc'.size := by rw [hacc.1]; exact hi
        rw [Array.getElem?_toList, Array.getElem?_eq_getElem hi']
        exact (hacc.2 i _ (Array.getElem?_eq_getElem hi')).symm
      · rw [Array.getElem?_toList, Array.getElem?_eq_none (by rw [hacc.1]; exact hi), List.getElem?_eq_none (by omega)]
  refine wpAny_bind (wpAny_holding (hint_set (s := s2) ⟨_, g.keeps _ _ hr, rfl⟩ ?_))
  refine wpAny_ite_split (fun _ => ?_) (fun _ => wpAny_pure ⟨plainId_quiet PySem.F.plain_extend_loop _, key _ 0 st (fun b o _ e => e) hS₁⟩)
  refine wpAny_bind (wpAny_rule ?_)
  refine wpAny_bind ?_
  show wpAny _ _ (updateSeq S (·.push .none) >>= fun _ => updateSeq S (·.pop)) _ _ _
  refine wpAny_bind (wpAny_updateSeq hS₁ rfl ?_)
  have hS₂ := Heap.get?_update_self (Obj.mapSeq (·.push Value.none)) hS₁ rfl
  refine wpAny_updateSeq (hz := by seq_fits) hS₂ rfl ?_
  have hS₃ := Heap.get?_update_self (Obj.mapSeq (·.pop)) hS₂ rfl
  refine wpAny_pure ⟨plainId_quiet PySem.F.plain_extend_loop _, key _ _ ?_ (fun b o hb e => ?_) hS₃⟩
  · refine W.frame 0 _ _ st fun b hb o e => ?_
    have hbS : b ≠ S := fun h => hSf (h ▸ hb)
    exact (Heap.get?_update_other _ _ (Ne.symm hbS)).trans ((Heap.get?_update_other _ _ (Ne.symm hbS)).trans e)
  · exact (Heap.get?_update_other _ _ (Ne.symm hb)).trans ((Heap.get?_update_other _ _ (Ne.symm hb)).trans e)
theorem collect_set {r : Addr} {es : Array (Int × Value)} {ep : Nat} {t : SetTable} {R : List Value → Shared → Prop} (hh : A.handled = none) (hr : s.heap.get? r = some (setO es ep t)) (hf : t.fits es.size = true) (hp : t.plain = false) (hz : 2 ≤ es.size) (hz2 : es.size ≤ 1000)
    (h : ∀ s' (acc : List Value), (∀ b o, s.heap.get? b = some o → s'.heap.get? b = some o) → Sa s s' → acc.Perm (es.toList.map (·.2)) → R acc s') :
    wpAny (model pw w) A (collect (.ref r)) R E s := by
  have lr := Heap.lt_size hr
  unfold collect
  refine wpAny_bind (wpAny_runValue (codeAny_builtin entry_proto_collect' ?_))
  rw [Around.under_plainId PySem.F.plain_proto_collect _]
  show wpAny _ A.in1 (newList [] >>= fun l => again (.builtin "list.__iadd__" ⟨[l, .ref r], []⟩)) _ _ s
  refine wpAny_bind (wpAny_newObj_type ?_)
  refine wpAny_pure ⟨plainId_quiet PySem.F.plain_list_iadd _, codeAny_builtin entry_list_iadd' ?_⟩
  rw [Around.under_plainId PySem.F.plain_list_iadd _]
  have hS₁ : (s.heap.push { cls := .type "list", data := .seq ([] : List Value).toArray }).get? s.heap.objs.size = some { cls := .type "list", data := .seq #[] } := Heap.get?_push_size _ rfl
  show wpAny _ A.in1 (Builtin.List.listExtendWith (.ref s.heap.objs.size) (.ref r) (.ref s.heap.objs.size)) _ _ _
  have key := extend_set (w := w) (A := A) (s := { s with heap := s.heap.push { cls := .type "list", data := .seq ([] : List Value).toArray } }) (S := s.heap.objs.size) (res := .ref s.heap.objs.size)
    (R := fun (q : Result) (s' : Shared) => ∃ (acc' : Array Value) (c' : Nat), q = .ok (.ret (.ref s.heap.objs.size)) ∧ Sa s s' ∧
      (∀ b o, s.heap.get? b = some o → s'.heap.get? b = some o) ∧ s'.heap.get? s.heap.objs.size = some { cls := .type "list", dict := none, data := .seq acc' c', slots := #[] } ∧ acc'.toList.Perm (es.toList.map (·.2)))
    hh (Heap.get?_push_of_some _ hr) hf hp hz hz2 (Nat.ne_of_gt lr) hS₁
    (fun s' acc' c' hk sa hS' hacc => ⟨acc', c', rfl, ⟨sa.gens, sa.os⟩, fun b o e => hk b o (Nat.ne_of_lt (Heap.lt_size e)) (Heap.get?_push_of_some _ e), hS', hacc⟩)
  refine wpAny_mono key (fun fin s' x => ?_) fun e s' x => ?_
  · cases fin with
    | done f =>
      obtain ⟨acc', c', e, sa, hk, hS', hacc⟩ := x
      cases e
      show wpAny _ A (load s.heap.objs.size >>= _) _ _ _
      refine wpAny_bind (wpAny_load hS' ?_)
      exact wpAny_pure (h s' _ hk sa hacc)
    | again c₁ =>
      refine ⟨x.1, codeAny_mono x.2 fun q s₂ y => ?_⟩
      obtain ⟨acc', c', rfl, sa, hk, hS', hacc⟩ := y
      show wpAny _ A (load s.heap.objs.size >>= _) _ _ _
      refine wpAny_bind (wpAny_load hS' ?_)
      exact wpAny_pure (h s₂ _ hk sa hacc)
  · obtain ⟨_, _, e', _⟩ := x
    cases e'
end
end Mine
end TW45
section TW46
open PySem PySem.W PyProof.Rows
set_option Elab.async false
namespace Mine
set_option maxRecDepth 100000
section
variable {w : World} {A : Around} {E : Value → Shared → Prop} {s : Shared}
theorem sort_strs {D : Addr} {vs : List Value} {ss : List PySem.Str} {n : Nat} {Q : Value → Shared → Prop} (ho : s.heap.get? D = some (seqObj "list" vs.toArray n)) (hS : StrsAre vs ss) (h64 : vs.length < 64)
    (k : ∀ s' (out : List Value) ss' e, (∀ b o, b ≠ D → s.heap.get? b = some o → s'.heap.get? b = some o) → Sa s s' → StrsAre out ss' → ss'.Perm ss → sortedS ss' = true → s'.heap.get? D = some (seqObj "list" out.toArray e) → Q .none s') :
    wpAny (model pw w) A (call (.builtin "list.sort") [.ref D]) Q E s := by
  refine wpAny_call_entry PyProof.Rows.slot_list_sort ⟨_, ho, rfl⟩ PyProof.Rows.entry_list_sort (list_sort_treeK strKind_oneLt ho hS.keysOf (fun v₁ v₂ rest e => keyKind_strs (by rw [← e]; exact hS)) h64 fun st' hp hs => ⟨.none, rfl, ?_⟩) (PyProof.Rows.args_list_sort _)
  obtain ⟨ss', h1, h2, h3⟩ := sorted_out_str hS hp hs
  obtain ⟨e, he⟩ := sortedHeap_at (vs := vs) (out := (arrOf st').map (·.2)) ho
  exact k _ _ ss' e (fun b o hb q => (sortedHeap_old hb (Heap.lt_size q)).trans q) ⟨rfl, rfl⟩ h1 h2 h3 (by rw [Array.toArray_toList]; exact he)
theorem sortedC {v : Value} {ss : List PySem.Str} {Q : Value → Shared → Prop} (h64 : ss.length < 64)
    (hc : wpAny (model pw w) A.in1 (collect v) (fun acc s' => Grow s.heap s'.heap ∧ Sa s s' ∧ ∃ ss0, StrsAre acc ss0 ∧ ss0.Perm ss) E s)
    (k : ∀ D s' (out : List Value) ss' e, Grow s.heap s'.heap → Sa s s' → StrsAre out ss' → ss'.Perm ss → sortedS ss' = true → s'.heap.get? D = some (seqObj "list" out.toArray e) → s.heap.objs.size ≤ D → Q (.ref D) s') :
    wpAny (model pw w) A (call (.builtin "sorted") [v]) Q E s := by
  refine Calls.call_function_entry PyProof.Rows.kind_sorted PyProof.Rows.plain_sorted PyProof.Rows.entry_sorted (PyProof.Rows.args_sorted1 _) ?_
  unfold Builtin.«sorted»
  refine wpAny_bind (m := checkCount "sorted" 1 1 _) (wpAny_pure ?_)
  refine wpAny_bind (wpAny_mono hc (fun acc s1 ⟨g1, a1, ss0, hS0, hp0⟩ => ?_) fun _ _ x => x)
  have hlen : acc.length = ss.length := by rw [hS0.length, hp0.length_eq]
  refine wpAny_bind (wpAny_newList ?_ (by have := sizeLine_eq; omega))
  have g2 : Grow s1.heap (s1.heap.push { cls := .type "list", data := .seq acc.toArray }) := Grow.push _
  refine wpAny_bind (wpAny_holding (wpAny_size (sort_strs (Heap.get?_push_size _ rfl) hS0 (by omega) fun s3 out ss' e hk sa h1 h2 h3 h4 => fun hz => ?_)))
  have lt : ∀ b o, s1.heap.get? b = some o → b ≠ s1.heap.objs.size := fun b o q => Nat.ne_of_lt (Heap.lt_size q)
  exact wpAny_pure ⟨_, rfl, k _ s3 out ss' e ⟨fun b o _ q => hk b o (lt b o (g1.keeps _ _ q)) (g2.keeps _ _ (g1.keeps _ _ q)), Nat.le_trans g1.size (Nat.le_trans g2.size hz)⟩ ⟨sa.gens.trans a1.gens, sa.os.trans a1.os⟩ h1 (h2.trans hp0) h3 h4 g1.size⟩
end
/-- the names, in order -/
def names5 : List PySem.Str := [x1, x2, x3, xg, xk]
theorem chain5 : ∀ a ∈ names5, ∀ b ∈ names5, a ≠ b → PySem.Spec.ltCps b.cps.toList a.cps.toList = false → ∀ c ∈ names5, b ≠ c → PySem.Spec.ltCps c.cps.toList b.cps.toList = false → ∀ d ∈ names5, c ≠ d → PySem.Spec.ltCps d.cps.toList c.cps.toList = false →
    ∀ e ∈ names5, d ≠ e → PySem.Spec.ltCps e.cps.toList d.cps.toList = false → [a, b, c, d, e] = names5 := by decide +kernel
theorem names5_nodup : names5.Nodup := by decide +kernel
theorem sorted5 {ss : List PySem.Str} (hp : ss.Perm names5) (hs : sortedS ss = true) : ss = names5 := by
  have hl : ss.length = 5 := hp.length_eq
  have hn : ss.Nodup := hp.nodup_iff.mpr names5_nodup
  match ss, hl with
  | [a, b, c, d, e], _ =>
    have hm : ∀ x ∈ [a, b, c, d, e], x ∈ names5 := fun x h => hp.mem_iff.mp h
    simp only [sortedS, risingS, Bool.and_eq_true, Bool.not_eq_true'] at hs
    obtain ⟨h1, h2, h3, h4, _⟩ := hs
    simp only [List.nodup_cons, List.mem_cons, not_or] at hn
    exact chain5 a (hm a (by simp)) b (hm b (by simp)) hn.1.1 h1 c (hm c (by simp)) hn.2.1.1 h2 d (hm d (by simp)) hn.2.2.1.1 h3 e (hm e (by simp)) hn.2.2.2.1.1 h4
theorem strs_has {V : Vol} {h : Heap} : ∀ {vs : List Value} {ss : List PySem.Str}, StrsAre vs ss → HasAll V h vs (dats (ss.map .str))
  | _, _, .nil => trivial
  | _, _, .cons y t r => ⟨hasStr _ _ y t, strs_has r⟩
theorem strs_of : ∀ {vs : List Value}, (∀ v ∈ vs, ∃ x t, v = Value.str x t) → StrsAre vs (vs.map strV)
  | [], _ => .nil
  | v :: r, h => by
    obtain ⟨x, t, rfl⟩ := h v List.mem_cons_self
    exact .cons x t (strs_of fun u hu => h u (List.mem_cons_of_mem _ hu))
noncomputable abbrev fd173 (P : Params) : FuncData := funcOf (Fast.tw15067812781808075103 P)
theorem fn173 (P : Params) : FnOk P 173 (fd173 P) (stmtsOf (fd173 P)) := ⟨⟨_, by rfl, by rfl⟩, by decide, by rfl, by rfl, by rfl, by rfl, by rfl, by rfl, by rfl, ⟨_, _, _, _, by rfl, by decide, by rfl, by rfl, by rfl⟩⟩
section
variable {c : Cx}
/-- d.keys() of a dict of the module -/
theorem keysPq (ok : c.Ok) {e : PySem.Expr} {p pos : Pos} (y : Pu c e (.raw (.ref 123))) (hb : attributeBase e ⟨⟨[107, 101, 121, 115]⟩⟩ c.env (eval e c.env) = eval e c.env := by rfl) (hline : (p.endLine == pos.line) = true := by rfl) :
    Pq c (.Call (.Attribute e ⟨⟨[107, 101, 121, 115]⟩⟩ p) [] [] pos) (fun v s => ∃ V, v = .ref V ∧ s.heap.get? V = some { cls := .type "dict_keys", data := .fields #[.ref 123] }) := fun s t => by
  refine PySem.Call_method0 hb hline (wpAny_mono (y s t) (fun v s1 ⟨g1, a1, h1⟩ => ?_) fun _ _ f => f)
  obtain rfl : v = .ref 123 := h1
  have t1 := t.grow ok g1 a1
  have m := (dct123 c.w).map t1.gl
  obtain ⟨ep, hD⟩ := dictAt123 (w := c.w) t1.gl
  refine ⟨"dict", "dict.keys", F.plainAttrs_dict, PySem.F.slot_dict_keys, PySem.F.type_dict_keys, m.typeIs, m.noDict, callWith_builtin_kwB (by rfl) (by rfl) (evalArgs_kw0 (keywords := []) (by rfl) (evalAll_nil ?_))⟩
  exact call_meetsIn PySem.F.slot_dict_keys m.typeIs PySem.F.entry_dict_keys (PySem.F.args_dict_keys_1 _) (kdl_meets_keys (strKind pw c.w) 123 (by decide)) ⟨⟨_, hD.dictOf⟩, g1.trans (Grow.push _), ⟨a1.gens, a1.os⟩, _, rfl, Heap.get?_push_size _ rfl⟩
end
theorem listFn (w : World) : Fn w 1 173 [] (.dat (.tuple (names5.map .str))) := by
  refine FnE.of (n := 0) (ns := []) (fn173 w.params) (fun vs hv => by
    match vs, hv with
    | [], _ => rfl) (by rfl) (of_decide_eq_true (by rfl)) (by rfl) (fun _ _ => NewStab.triv) fun A V L s s1 _ _ nf _ ok t => ?_
  refine do_doc ok t fun s2 t => ?_
  refine do_retP ok t (b := .dat (.tuple (names5.map .str))) (fun s t => ?_) fun s3 v h t => ⟨t.fin, _, rfl, h⟩
  refine Call_ (wpAny_mono ((Pu.blt (v := .type "tuple") ok (by rfl) (by kernel_rfl) (by kernel_rfl)) s t) (fun f s1 ⟨g1, a1, h1⟩ => ?_) fun _ _ f => f)
  obtain rfl : f = .type "tuple" := h1
  have t1 := t.grow ok g1 a1
  refine PyProof.Rows.callWith_type1 (args_cons ?_ (by rfl)) (by rfl) (by rfl)
  refine Call_ (wpAny_mono ((Pu.blt (v := .builtin "sorted") ok (by rfl) (by kernel_rfl) (by kernel_rfl)) s1 t1) (fun f s2 ⟨g2, a2, h2⟩ => ?_) fun _ _ f => f)
  obtain rfl : f = .builtin "sorted" := h2
  have t2 := t1.grow ok g2 a2
  refine PyProof.Rows.callWith_builtin1 (args_cons ?_ (by rfl)) (by rfl) (by rfl)
  refine wpAny_BinOp (wpAny_mono ((Pu.glob (v := .ref 122) ok (by rfl) (by kernel_rfl)) s2 t2) (fun f s3 ⟨g3, a3, h3⟩ => ?_) fun _ _ f => f)
  obtain rfl : f = .ref 122 := h3
  have t3 := t2.grow ok g3 a3
  refine wpAny_mono ((keysPq ok (Pu.glob (v := .ref 123) ok (by rfl) (by kernel_rfl))) s3 t3) (fun f s4 ⟨g4, a4, V', hf, hV⟩ => ?_) fun _ _ f => f
  subst hf
  have t4 := t3.grow ok g4 a4
  refine union_names ok.rm.hn t4.gl hV fun r s5 g5 a5 hS => args_nil ?_
  have t5 := t4.grow ok g5 a5
  obtain ⟨es, ep, t', hr, hel, hf, hp, hpm⟩ := hS
  have hz : es.size = 5 := by rw [← Array.length_toList, ← List.length_map (f := fun e => strV e.2), hpm.length_eq]; rfl
  refine sortedC (ss := names5) (by decide) (wpAny_size (collect_set (by exact ok.rm.hn) hr hf hp (by omega) (by omega) fun s6 acc hk sa hacc hz6 => ⟨⟨fun b o _ e => hk b o e, hz6⟩, sa, acc.map strV, strs_of fun v hv => ?_, ?_⟩)) fun D s6 out ss' e g6 a6 h1 h2 h3 h4 hD => args_nil ?_
  · obtain ⟨e, he, rfl⟩ := List.mem_map.mp (hacc.mem_iff.mp hv)
    obtain ⟨⟨k, hk2, _⟩, _⟩ := hel e he
    have hk2 : Value.isStrOf k e.2 = true := hk2
    obtain ⟨tt, ht⟩ := Value.isStrOf_shape hk2
    exact ⟨k, tt, ht⟩
  · refine (hacc.map strV).trans ?_
    rw [List.map_map]
    exact hpm.trans (by decide +kernel)
  · have hss := sorted5 h2 h3
    subst hss
    have g := ((((g1.trans g2).trans g3).trans g4).trans g5).trans g6
    have a : Sa s s6 := ((((a1.trans a2).trans a3).trans a4).trans a5).trans a6
    have t6 := t.grow ok g a
    have hol : out.length = 5 := h1.length
    refine call_tup ⟨_, h4, rfl, _, rfl⟩ (fun h' g7 => ⟨(g.trans g7).trans (Grow.push _), ⟨a.gens, a.os⟩, ?_⟩) (by have := sizeLine_eq; rw [List.size_toArray]; omega)
    exact (newTup (fun b e => Nat.lt_of_lt_of_le (t6.vok b e) g7.size) ((strs_has h1).up g7.up)).dat
end Mine
end TW46
section TW47
open PySem PySem.W PyProof.Rows
set_option Elab.async false
namespace Mine
set_option maxRecDepth 100000
set_option maxHeartbeats 4000000
/-- what stands still of the module, as far as the class and its getters go -/
noncomputable def Kf (P : Params) : Frag := [(2, PySem.W.Fast.tw3180693804208245684 P), (145, PySem.W.Fast.tw2259882312592877800 P), (161, PySem.W.Fast.tw17426325810888678980 P), (162, PySem.W.Fast.tw11630129038265797975 P),
  (198, PySem.W.Fast.tw14332450688418254823 P), (239, PySem.W.Fast.tw1566276288813745769 P), (240, topB.o_259 P), (242, PySem.W.Fast.tw948723202957260937 P), (243, topB.o_262 P),
  (245, PySem.W.Fast.tw10799911304433619598 P), (246, topB.o_265 P), (248, PySem.W.Fast.tw2838913800716482923 P), (249, topB.o_268 P), (251, PySem.W.Fast.tw812215131186609824 P), (252, topB.o_271 P),
  (254, PySem.W.Fast.tw1936290313653531272 P), (255, topB.o_274 P), (259, PySem.W.Fast.tw12948172955251239027 P), (260, PySem.W.Fast.tw14010575857582384495 P), (261, PySem.W.Fast.tw14919195720974537128 P)]
theorem Gl.kf {P : Params} {h : Heap} (g : Gl P h) : (Kf P).In h := by
  refine Frag.in_of (as := [2, 145, 161, 162, 198, 239, 240, 242, 243, 245, 246, 248, 249, 251, 252, 254, 255, 259, 260, 261]) rfl ?_
  simp only [List.map_cons, List.map_nil]
  rw [g 2 _ (by decide) (by rfl), g 145 _ (by decide) (by rfl), g 161 _ (by decide) (by rfl), g 162 _ (by decide) (by rfl), g 198 _ (by decide) (by rfl), g 239 _ (by decide) (by rfl), g 240 _ (by decide) (by rfl),
    g 242 _ (by decide) (by rfl), g 243 _ (by decide) (by rfl), g 245 _ (by decide) (by rfl), g 246 _ (by decide) (by rfl), g 248 _ (by decide) (by rfl), g 249 _ (by decide) (by rfl), g 251 _ (by decide) (by rfl),
    g 252 _ (by decide) (by rfl), g 254 _ (by decide) (by rfl), g 255 _ (by decide) (by rfl), g 259 _ (by decide) (by rfl), g 260 _ (by decide) (by rfl), g 261 _ (by decide) (by rfl)]
  rfl
theorem kf_ga (P : Params) : findIn (Kf P) (.ref 260) "__getattribute__" = some (some (.builtin "tuple.__getattribute__")) := by kernel_rfl
theorem kf_gh (P : Params) : findIn (Kf P) (.ref 260) "__getattr__" = some none := by kernel_rfl
theorem kf_x0 (P : Params) : findIn (Kf P) (.ref 260) "narrower" = some (some (.ref 240)) := by kernel_rfl
theorem kf_g0 (P : Params) : specialIn (Kf P) (.ref 240) "__get__" = some (some (.ref 145)) := by kernel_rfl
theorem kf_t0 (P : Params) : takesIn (Kf P) (.ref 240) = some true := by kernel_rfl
theorem kf_f0 (P : Params) : findObj (Kf P) 260 none "narrower" = some (.bind (.ref 145) (.ref 240)) := by kernel_rfl
theorem kf_f1 (P : Params) : findObj (Kf P) 260 none "vs16_narrower" = some (.bind (.ref 145) (.ref 243)) := by kernel_rfl
theorem kf_f2 (P : Params) : findObj (Kf P) 260 none "vs15_wider" = some (.bind (.ref 145) (.ref 246)) := by kernel_rfl
theorem kf_f3 (P : Params) : findObj (Kf P) 260 none "zeroer" = some (.bind (.ref 145) (.ref 249)) := by kernel_rfl
theorem kf_f4 (P : Params) : findObj (Kf P) 260 none "narrow_wider" = some (.bind (.ref 145) (.ref 252)) := by kernel_rfl
theorem kf_f5 (P : Params) : findObj (Kf P) 260 none "narrow_zeroer" = some (.bind (.ref 145) (.ref 255)) := by kernel_rfl
theorem kf_sub (P : Params) : subIn (Kf P) (.ref 260) (.type "tuple") = some true := by kernel_rfl
theorem kf_self (P : Params) : subIn (Kf P) (.ref 260) (.ref 260) = some true := by kernel_rfl
theorem kf_typ (P : Params) : instIn (Kf P) (.ref 260) (.type "type") = some true := by kernel_rfl
theorem kf_reads (P : Params) : readsIn (Kf P) 260 (.type "type") = true := by kernel_rfl
theorem kf_new (P : Params) : findCls (Kf P) (.ref 260) (.type "type") "__new__" = some (.get (.builtin "staticmethod.__get__") (.ref 261) .none (.ref 260)) := by kernel_rfl
theorem kf_sm (P : Params) : recIn (Kf P) 261 "staticmethod" = some [.ref 198] := by kernel_rfl
theorem kf_call (P : Params) : specialIn (Kf P) (.ref 260) "__call__" = some (some (.builtin "type.__call__")) := by kernel_rfl
theorem kf_init (P : Params) : findIn (Kf P) (.ref 260) "__init__" = some (some (.builtin "object.__init__")) := by kernel_rfl
theorem kf_gi (P : Params) : findCls (Kf P) (.type "tuple") (.type "type") "__getitem__" = some (.val (.builtin "tuple.__getitem__")) := by kernel_rfl
theorem kf_tn (P : Params) : findCls (Kf P) (.type "tuple") (.type "type") "__new__" = some (.val (.builtin "tuple.__new__")) := by kernel_rfl
end Mine
end TW47
section TW48
open PySem PySem.W PyProof.Rows PySem.Calls Builtin Builtin.ObjectAttr
set_option Elab.async false
namespace Mine
set_option maxRecDepth 100000
set_option maxHeartbeats 4000000
variable {prog : Program} {w : World} {A : Around} {E : Value → Shared → Prop} {s : Shared} {K : Frag} {x C : Addr} {ox : Obj} {od : Option Obj} {name : PySem.Str} {expr : Bool} {Q : Value → Shared → Prop}
theorem get_tupobj {ga : Addr} {a : Value} (X : K.In s.heap) (I : InstAt s.heap x ox C od) (hga : findIn K (.ref C) "__getattribute__" = some (some (.builtin "tuple.__getattribute__")))
    (hf : findObj K C od name = some (.bind (.ref ga) a)) (hk : findIn K (.ref C) "__getattr__" = some none) (hsub : subIn K (.ref C) (.type "tuple") = some true)
    (h : wpAny (model prog w) A.in1 (call (.ref ga) [a, .ref x, .ref C]) (fun v s' => wpAny (model prog w) A (handedOut v) Q E s') (fun _ _ => False) { s with toks := s.toks + 1 }) :
    wpAny (model prog w) A (getAttr (.ref x) name expr) Q E s := by
  obtain ⟨hh, g, d, t, os⟩ := s
  have L0 := I.type (M := model prog w)
  have L1 := looks_findIn (M := model prog w) X hga
  have L2 := looks_findIn (M := model prog w) X hk
  have L3 := looks_find (M := model prog w) X I hf
  have L4 := looks_subIn (M := model prog w) X hsub
  have S := F.slot_tuple_getattribute
  unfold getAttr getAttrBy
  refine wpAny_bind (wpAny_mkText (wpAny_holding (wpAny_bind (L0.at (wpAny_bind (L1.at ?_))))))
  dsimp only
  rw [show (onTheHeap (Value.ref C) && Value.builtin "tuple.__getattribute__" == Value.builtin "object.__getattribute__") = false from by rw [show (Value.builtin "tuple.__getattribute__" == Value.builtin "object.__getattribute__") = false from by decide +kernel, Bool.and_false], if_neg (by decide)]
  unfold getAttrByItsOwn
  refine wpAny_bind ((show Looks (model prog w) hh (hookBefore (.ref C)) none from L2).at (wpAny_bind (wpAny_attempt (wpAny_holding ?_))))
  unfold callGetattribute
  rw [show (expr && onTheHeap (Value.builtin "tuple.__getattribute__")) = false from Bool.and_false _, if_neg (by decide)]
  unfold boundAndCalled
  rw [S.bind]
  refine wpAny_bind (wpAny_pure ?_)
  show wpAny _ _ (call (.builtin "tuple.__getattribute__") [.ref x, .str name t]) _ _ _
  refine wpAny_call ?_
  refine codeAny_call_builtin S.plain F.entry_tuple_ga ?_
  refine @check_slot (model prog w) _ _ { heap := hh, gens := g, drawn := d, toks := t + 1, os := os } "tuple.__getattribute__" "tuple" "__getattribute__" (.ref x) [.str name t] [] _ (by decide +kernel) (by decide +kernel) (L0.andThen L4) (F.args_tuple_getattribute_2 _ _) ?_
  unfold Builtin.«object.__getattribute__»
  refine wpAny_bind (wpAny_pure ?_)
  refine wpAny_bind (wpAny_pure ?_)
  refine wpAny_bind (L0.at (wpAny_bind (L3.at ?_)))
  show wpAny _ _ (holding [a] (call (.ref ga) [a, .ref x, .ref C]) >>= ret) _ _ _
  refine wpAny_bind (wpAny_holding (wpAny_mono h (fun v s' z => ?_) fun _ _ z => z.elim))
  exact wpAny_pure z
end Mine
end TW48
section TW49
open PySem PySem.W PyProof.Rows PySem.Calls Builtin Builtin.ObjectAttr
set_option Elab.async false
namespace Mine
set_option maxRecDepth 100000
set_option maxHeartbeats 4000000
section
variable {prog : Program} {w : World} {A : Around} {E : Value → Shared → Prop} {s : Shared} {K : Frag} {x C : Addr} {ox : Obj} {od : Option Obj} {name : PySem.Str} {expr : Bool}
theorem method_ty {T : String} {v : Value} {pl : Sem Bool} {Q : Value × List Value → Shared → Prop} (X : K.In s.heap) (ht : typeOf (.type T) = pure (.type "type")) (hs : Manifest.isStub T = false)
    (e : findCls K (.type T) (.type "type") name = some (.val v)) (hh : handedIn v = true) (h : Q (v, []) { s with toks := s.toks + 1 }) : wpAny (model prog w) A (getMethod (.type T) name pl) Q E s := by
  have L0 : Looks (model prog w) s.heap (typeOf (.type T)) (.type "type") := Looks.of_pure ht
  have hg : findIn K (.type "type") "__getattribute__" = some (some (.builtin "type.__getattribute__")) := type_tga
  have LO : Looks (model prog w) s.heap (opaqueClassAbove (.type T)) none := Looks.of_pure (by unfold opaqueClassAbove; dsimp only; rw [hs]; rfl)
  unfold getMethod specialOf
  refine wpAny_bind (wpAny_bind (L0.here ((looks_findIn X hg).here ?_)))
  dsimp only
  rw [if_pos canon_tga]
  refine wpAny_bind (wpAny_mono (Q := fun u => Q (u, [])) (E := E) (cls_open X LO L0 hg (looks_hook X (r := none) (by rfl)) (by show subIn K _ _ = _; rfl) e (wpAny_pure (handed_on hh h))) (fun _ _ z => wpAny_pure z) fun _ _ z => z)
end
def tupIns (dx : Addr) (vs : List Value) : Obj := { cls := .ref 260, dict := some dx, data := .seq vs.toArray }
theorem issub_tup {w : World} {A : Around} {E : Value → Shared → Prop} {s : Shared} {Q : Value → Shared → Prop} (g : Gl w.params s.heap) (q : Q (.bool true) s) : wpAny (model pw w) A (call (.builtin "issubclass") [.ref 260, .type "tuple"]) Q E s := by
  have X := g.kf
  obtain ⟨hh, gg, d, t, os⟩ := s
  have L1 := looks_instIn (M := model pw w) X (kf_typ w.params)
  have L2 := looks_subIn (M := model pw w) X (kf_sub w.params)
  have T1 : Looks (model pw w) hh (typeOf (.type "tuple")) (.type "type") := Looks.of_pure (by first | rfl | kernel_rfl)
  have T2 : Looks (model pw w) hh (isType (.type "tuple")) true := Looks.of_pure (by unfold isType; first | rfl | kernel_rfl)
  have L3 : Looks (model pw w) hh (isType (.ref 260)) true := (Looks.ld (X _ _ (rfl : (Kf w.params).lookup 260 = some _))).andThen .now
  refine wpAny_call ?_
  refine codeAny_call_builtin F.plain_issubclass F.entry_issubclass ?_
  have hfin : wpAny (model pw w) A.in1 (Builtin.«issubclass» ⟨[.ref 260, .type "tuple"], []⟩) (fun fin s' => match fin with | .done f => wants Q E (.ok f) s' | .again c' => c'.quiet = true ∧ codeAny (model pw w) A c' (wants Q E) s') (fun e s' => wants Q E (.error e) s') ⟨hh, gg, d, t, os⟩ := by
    refine issubclass_outer ?_
    unfold Builtin.«issubclass.nested»
    refine wpAny_bind (T1.at ?_)
    rw [if_pos (by decide)]
    k_delta "plainIsSubclass"
    refine wpAny_bind (wpAny_bind (L3.at (wpAny_bind (T2.at ?_))))
    dsimp only
    rw [if_pos (by decide)]
    exact L2.at (wpAny_pure q)
  simp only [checkBuiltinCall, F.kind_issubclass]
  cases hsig : Manifest.signature? "issubclass" with
  | none => exact wpAny_pure hfin
  | some sig =>
    have ok := F.args_issubclass_2 (.ref 260) (.type "tuple")
    simp only [argsOk, hsig] at ok
    have h2 : Bind.checkArgs "issubclass" sig ⟨[.ref 260, .type "tuple"], []⟩ = pure () := ok
    show wpAny _ _ (Bind.checkArgs "issubclass" sig ⟨[.ref 260, .type "tuple"], []⟩) _ _ _
    rw [h2]; exact wpAny_pure hfin
theorem getitem_ins {w : World} {A : Around} {E : Value → Shared → Prop} {s : Shared} {Q : Value → Shared → Prop} {x dx : Addr} {vs : List Value} {i : Nat} {v : Value} {t : Tok} (g : Gl w.params s.heap) (hx : s.heap.get? x = some (tupIns dx vs)) (hi : vs[i]? = some v) (h63 : i < 2 ^ 60)
    (q : ∀ n, Q v { s with toks := n }) : wpAny (model pw w) A (call (.builtin "tuple.__getitem__") [.ref x, .int i t]) Q E s := by
  have S := F.slot_tuple_getitem
  have X := g.kf
  have L4 := looks_subIn (M := model pw w) X (kf_sub w.params)
  have L0 : Looks (model pw w) s.heap (typeOf (.ref x)) (.ref 260) := (Looks.ld hx).andThen .now
  refine wpAny_call ?_
  refine codeAny_call_builtin S.plain F.entry_tuple_getitem ?_
  refine @check_slot (model pw w) _ _ s "tuple.__getitem__" "tuple" "__getitem__" (.ref x) [.int i t] [] _ (by decide +kernel) (by decide +kernel) (L0.andThen L4) (F.args_tuple_getitem_2 _ _) ?_
  unfold Builtin.«tuple.__getitem__»
  obtain ⟨hh, gg, d, tk, os⟩ := s
  have f1 := PySem.AutoSeq1.idx_int
  have hlt : i < vs.length := (List.getElem?_eq_some_iff.mp hi).1
  have hk : seqIndex? (i : Int) vs.toArray.size = some i := by
    unfold seqIndex?
    rw [List.size_toArray]
    simp only [show ¬ ((i : Int) < 0) by omega, if_false]
    rw [if_pos (by simp; omega)]
    rfl
  have hy : vs.toArray[i]? = some v := by rw [List.getElem?_toArray]; exact hi
  have hx' : hh.get? x = some { cls := .ref 260, dict := some dx, data := .seq vs.toArray, slots := #[] } := hx
  wp_walk using wpAny_loadPart' hx'
  simp only [hk, hy, Option.bind_some]
  refine wpAny_ite_false (by simp; omega) ?_
  wp_walk
  exact q _
end Mine
end TW49
section TW50
open PySem PySem.W PyProof.Rows PySem.Calls Builtin Builtin.ObjectAttr
set_option Elab.async false
namespace Mine
set_option maxRecDepth 100000
set_option maxHeartbeats 4000000
section
variable {c : Cx}
theorem Pu.tmeth (ok : c.Ok) {x name : PySem.Str} {p ap pos : Pos} {e : PySem.Expr} {es : List PySem.Expr} {bs : List Bnd} {b : Bnd} {T id : String} (hf : Pu c (.Name x p) (.raw (.type T))) (ht : typeOf (.type T) = pure (.type "type"))
    (hs : Manifest.isStub T = false) (hm : findCls (Kf c.w.params) (.type T) (.type "type") name = some (.val (.builtin id))) (hh : handedIn (.builtin id) = true) (ha : Pa c (e :: es) bs)
    (fn : ∀ s vs, c.St s → HasAll c.V s.heap vs bs → Pv c s (PySem.call (.builtin id) vs) b) {pl : Sem Bool}
    (he : starEach (e :: es) c.env = (false, eval e c.env) :: starEach es c.env := by rfl) (hp : (backTo pos (starEach es c.env)).any (·.1) = false := by rfl)
    (hev : eval (.Call (.Attribute (.Name x p) name ap) (e :: es) [] pos) c.env = (do
      let ov ← eval (.Name x p) c.env
      standAt ap.atName
      let (f, first) ← holding [ov] (getMethod ov name pl)
      callWith pos f first (backTo pos (starEach (e :: es) c.env)) (backToKw pos (keywordEach [] c.env))) := by rfl) : Pu c (.Call (.Attribute (.Name x p) name ap) (e :: es) [] pos) b := fun s t => by
  refine methodCall_KW (pl := pl) (wpAny_mono (hf s t) (fun f s1 ⟨g1, a1, h1⟩ => ?_) fun _ _ f => f) hev
  obtain rfl : f = .type T := h1
  have t1 := t.grow ok g1 a1
  refine method_ty t1.gl.kf ht hs hm hh ?_
  have t2 := t1.grow (s' := { s1 with toks := s1.toks + 1 }) ok Grow.refl ⟨rfl, rfl⟩
  refine PyProof.Rows.callWith_builtin1 (wpAny_mono (ha _ pos t2) (fun vs s2 ⟨g2, a2, h2⟩ => ?_) fun _ _ f => f) he hp
  exact wpAny_mono (fn s2 vs (t2.grow ok g2 a2) h2) (fun v s3 ⟨g3, a3, h3⟩ => ⟨(g1.trans g2).trans g3, ⟨((a1.trans ⟨a2.gens, a2.os⟩).trans a3).gens, ((a1.trans ⟨a2.gens, a2.os⟩).trans a3).os⟩, h3⟩) fun _ _ f => f
theorem Pu.attr (ok : c.Ok) {x name : PySem.Str} {p pos : Pos} {b b' : Bnd} (y : Pu c (.Name x p) b) (k : ∀ s v, c.St s → Has c.V s.heap v b → Pv c s (getAttr v name true) b') : Pu c (.Attribute (.Name x p) name pos) b' := fun s t => by
  refine Attribute_name (wpAny_mono (y s t) (fun u s1 ⟨g1, a1, h1⟩ => ?_) fun _ _ f => f)
  exact wpAny_mono (k s1 u (t.grow ok g1 a1) h1) (fun v s2 ⟨g2, a2, h2⟩ => ⟨g1.trans g2, a1.trans a2, h2⟩) fun _ _ f => f
end
/-- a getter and its index -/
def GetIs (P : Params) (a : Addr) (i : Nat) : Prop := ∀ h, Gl P h → ∃ ox od t, InstAt h a ox 162 (some od) ∧ findObj (Kf P) 162 (some od) "index" = some (.value (.int i t))
theorem getIs (P : Params) {a dx : Addr} {i : Nat} {o od : Obj} {t : Tok} (h1 : (L1 P)[a]? = some o) (n1 : a ≠ 175) (h2 : (L1 P)[dx]? = some od) (n2 : dx ≠ 175) (hc : o.cls = .ref 162) (hn : notCls o = true) (hd : o.dict = some dx)
    (hf : findObj (Kf P) 162 (some od) "index" = some (.value (.int i t))) : GetIs P a i := fun h g =>
  ⟨o, od, t, ⟨g a _ n1 h1, hc, hn, by rw [hd]; exact g dx _ n2 h2⟩, hf⟩
theorem get240 (P : Params) : GetIs P 240 0 := getIs P (dx := 239) (t := 700) (by rfl) (by decide) (by rfl) (by decide) (by rfl) (by rfl) (by rfl) (by kernel_rfl)
theorem get243 (P : Params) : GetIs P 243 1 := getIs P (dx := 242) (t := 710) (by rfl) (by decide) (by rfl) (by decide) (by rfl) (by rfl) (by rfl) (by kernel_rfl)
theorem get246 (P : Params) : GetIs P 246 2 := getIs P (dx := 245) (t := 720) (by rfl) (by decide) (by rfl) (by decide) (by rfl) (by rfl) (by rfl) (by kernel_rfl)
theorem get249 (P : Params) : GetIs P 249 3 := getIs P (dx := 248) (t := 730) (by rfl) (by decide) (by rfl) (by decide) (by rfl) (by rfl) (by rfl) (by kernel_rfl)
theorem get252 (P : Params) : GetIs P 252 4 := getIs P (dx := 251) (t := 740) (by rfl) (by decide) (by rfl) (by decide) (by rfl) (by rfl) (by rfl) (by kernel_rfl)
theorem get255 (P : Params) : GetIs P 255 5 := getIs P (dx := 254) (t := 750) (by rfl) (by decide) (by rfl) (by decide) (by rfl) (by rfl) (by rfl) (by kernel_rfl)
noncomputable abbrev fd145 (P : Params) : FuncData := funcOf (Fast.tw2259882312592877800 P)
theorem fn145 (P : Params) : FnOk P 145 (fd145 P) (stmtsOf (fd145 P)) := ⟨⟨_, by rfl, by rfl⟩, by decide, by rfl, by rfl, by rfl, by rfl, by rfl, by rfl, by rfl, ⟨_, _, _, _, by rfl, by decide, by rfl, by rfl, by rfl⟩⟩
theorem bind145 {w : World} {A : Around} {s : Shared} {v u r : Value} (g : Gl w.params s.heap) : wpAny (model pw w) A (bindArgs (fd145 w.params) ⟨[v, u, r], []⟩) (fun b s' => b = (parNames (fd145 w.params)).zip [v, u, r] ∧ s' = s) (fun _ _ => False) s := by
  show wpAny _ _ (seqItems? (.ref 138) >>= _) _ _ s
  refine wpAny_bind (wpAny_seqItems (g 138 _ (by decide) (by rfl)) (by rfl) ?_)
  exact wpAny_pure ⟨rfl, rfl⟩
theorem getterFn (w : World) {a x dx : Addr} {i : Nat} {vs : List Value} {v : Value} (hg : GetIs w.params a i) (hv : vs[i]? = some v) (h60 : i < 2 ^ 60) :
    FnE w 1 145 [.raw (.ref a), .raw (.ref x), .raw (.ref 260)] noX (fun h => h.get? x = some (tupIns dx vs)) (· = .raw v) := by
  refine FnE.ofW (n := 0) (ns := parNames (fd145 w.params)) (fn145 w.params) (fun A s vs g hv => by
    match vs, hv with
    | [_, _, _], _ => exact bind145 g) (by rfl) (of_decide_eq_true (by rfl)) (by rfl) (fun h j F hF h' h'' u j' => ?_) fun A V L s s1 _ _ nf _ ok tt => ?_
  · refine u.keep _ _ ?_ j'
    cases e : F x
    · rfl
    · exact absurd (Heap.lt_size j) (Nat.not_lt.mpr (hF _ e))
  -- have oraw : Pu (cxOf 0 w A V noX (fd145 w.params) 145 L ((parNames (fd145 w.params)).zip [.raw (.ref a), .raw (.ref x), .raw (.ref 260)]) s fun h => h.get? x = some (tupIns dx vs)) (.Name ⟨⟨[111, 98, 106]⟩⟩ default) (.raw (.ref x)) := Pu.name ok (by rfl)
  refine do_if (b := false) ok tt (Te.cmp (b1 := .raw (.ref x)) ok (Pu.name ok (by rfl)) Pu.none fun s u v t hu hv => ?_) (fun hb => nomatch hb) (fun _ s3 tt => do_nil ?_)
  · obtain rfl : u = .ref x := hu
    obtain rfl := Dat.none hv
    exact is_none ⟨Grow.refl, ⟨rfl, rfl⟩, hasBool ..⟩
  refine do_if (b := false) ok tt (Te.not (b := true) (Te.plain (d := .bool true) ok (Pu.bcall (id := "issubclass") (bs := [.raw (.ref 260), .raw (.type "tuple")]) ok (Pu.blt ok (by rfl) (by kernel_rfl) (by kernel_rfl))
    (Pa.cons ok (Pu.tcall (id := "type") (bs := [.raw (.ref x)]) ok (Pu.blt ok (by rfl) (by kernel_rfl) (by kernel_rfl)) (Pa.cons ok (Pu.name ok (by rfl)) Pa.nil) fun s vs t hv => ?_) (Pa.cons ok (Pu.blt ok (by rfl) (by kernel_rfl) (by kernel_rfl)) Pa.nil)) fun s vs t hv => ?_) rfl)) (fun hb => nomatch hb) (fun _ s4 tt => do_nil ?_)
  · obtain ⟨u, rfl, h⟩ := Has1 hv
    obtain rfl : u = .ref x := h
    obtain ⟨hh, gg, d, tk, os⟩ := s
    have hj : hh.get? x = some (tupIns dx _) := t.j
    exact call_type_obj hj rfl ⟨Grow.refl, Sa.refl, rfl⟩
  · obtain ⟨u, r, rfl, h, h'⟩ := Has2 hv
    obtain rfl : u = .ref 260 := h
    obtain rfl : r = .type "tuple" := h'
    exact issub_tup t.gl ⟨Grow.refl, Sa.refl, hasBool ..⟩
  refine do_retP ok tt (Pu.tmeth (T := "tuple") (id := "tuple.__getitem__") (bs := [.raw (.ref x), .dat (.int i)]) (b := .raw v) ok (Pu.blt ok (by rfl) (by kernel_rfl) (by kernel_rfl)) (by first | rfl | kernel_rfl) (by decide +kernel) (kf_gi _) (by decide +kernel)
    (Pa.cons ok (Pu.name ok (by rfl)) (Pa.cons ok (Pu.attr (b := .raw (.ref a)) ok (Pu.name ok (by rfl)) fun s u t hu => ?_) Pa.nil)) fun s us t hv => ?_) fun s5 v h tt => ⟨tt.fin, _, rfl, h⟩
  · obtain rfl : u = .ref a := hu
    obtain ⟨ox, od, tk, I, hf⟩ := hg _ t.gl
    exact get_value t.gl.kf I (by kernel_rfl) hf (by rfl) ⟨Grow.refl, ⟨rfl, rfl⟩, hasInt ..⟩
  · obtain ⟨u, r, rfl, h, h'⟩ := Has2 hv
    obtain rfl : u = .ref x := h
    obtain ⟨tk, rfl⟩ := Dat.int h'
    exact getitem_ins t.gl t.j ‹_› h60 fun n => ⟨Grow.refl, ⟨rfl, rfl⟩, rfl⟩
end Mine
end TW50
section TW51
open PySem PySem.W PyProof.Rows PySem.Calls Builtin Builtin.ObjectAttr
set_option Elab.async false
namespace Mine
set_option maxRecDepth 100000
set_option maxHeartbeats 4000000
theorem Dat.handed {V : Vol} {h : Heap} {v : Value} {d : PyData} (x : Dat V h v d) : handedIn v = true := by
  obtain ⟨_, r⟩ := x
  cases r <;> rfl
theorem Rm.in1 {A : Around} {n : Nat} (r : Rm A (n + 1)) : Rm A.in1 n := ⟨r.hn, by have := r.depth; show A.depth + n < 900; omega, by have := r.units; show A.units + 1 + 20 * n < 5000; omega⟩
structure InsJ (V : Vol) (x dx : Addr) (vs : List Value) (ds : List PyData) (h : Heap) : Prop where
  at_ : h.get? x = some (tupIns dx vs)
  dict : h.get? dx = some emptyDict
  al : HasAll V h vs (dats ds)
theorem InsJ.up {V F : Vol} {x dx : Addr} {vs : List Value} {ds : List PyData} {h h' : Heap} (j : InsJ V x dx vs ds h) (u : Up F h h') (hF : ∀ a, F a = true → V a = true) (hx : V x = false) (hd : V dx = false) : InsJ V x dx vs ds h' := by
  have no : ∀ a, V a = false → F a = false := fun a ha => by
    cases e : F a
    · rfl
    · rw [hF a e] at ha; cases ha
  exact ⟨u.keep _ _ (no _ hx) j.at_, u.keep _ _ (no _ hd) j.dict, j.al.up (u.le hF)⟩
theorem InsJ.inst {V : Vol} {x dx : Addr} {vs : List Value} {ds : List PyData} {h : Heap} (j : InsJ V x dx vs ds h) : InstAt h x (tupIns dx vs) 260 (some emptyDict) := ⟨j.at_, rfl, rfl, j.dict⟩
section
variable {c : Cx}
theorem Pu.field (ok : c.Ok) {x name : PySem.Str} {p pos : Pos} {X dx a : Addr} {vs : List Value} {ds : List PyData} {i : Nat} {d : PyData} (hf : Pu c (.Name x p) (.raw (.ref X))) (hJ : ∀ h, c.J h → InsJ c.V X dx vs ds h)
    (hn : findObj (Kf c.w.params) 260 (some emptyDict) name = some (.bind (.ref 145) (.ref a))) (hg : GetIs c.w.params a i) (hd : ds[i]? = some d) (lv : 2 ≤ c.lv) (h60 : i < 2 ^ 60) : Pd c (.Attribute (.Name x p) name pos) d :=
  Pu.attr ok hf fun s v t hv => by
    obtain rfl : v = .ref X := hv
    have j := hJ _ t.j
    obtain ⟨u, hu, hd'⟩ := j.al.get (i := i) (b := .dat d) (by rw [List.getElem?_map, hd]; rfl)
    refine get_tupobj t.gl.kf j.inst (kf_ga _) hn (kf_gh _) (kf_sub _) ?_
    have t' : c.St { s with toks := s.toks + 1 } := t.grow ok Grow.refl ⟨rfl, rfl⟩
    refine wpAny_mono (getterFn c.w hg hu h60 c.A.in1 c.V { s with toks := s.toks + 1 } [.ref a, .ref X, .ref 260] (ok.rm.le lv).in1 (t'.fine ok) (fun _ e => nomatch e) ⟨rfl, rfl, rfl, trivial⟩ j.at_) (fun v s2 ⟨u2, a2, _, b, hb, hv⟩ => ?_) fun _ _ f => f
    subst hb
    obtain rfl : v = u := hv
    exact handed_on (Dat.handed hd') ⟨u2, ⟨a2.gens, a2.os⟩, Has.up hd' (Grow.up u2)⟩
end
theorem fo0 (P : Params) : findObj (Kf P) 260 (some emptyDict) "narrower" = some (.bind (.ref 145) (.ref 240)) := by kernel_rfl
theorem fo1 (P : Params) : findObj (Kf P) 260 (some emptyDict) "vs16_narrower" = some (.bind (.ref 145) (.ref 243)) := by kernel_rfl
theorem fo2 (P : Params) : findObj (Kf P) 260 (some emptyDict) "vs15_wider" = some (.bind (.ref 145) (.ref 246)) := by kernel_rfl
theorem fo3 (P : Params) : findObj (Kf P) 260 (some emptyDict) "zeroer" = some (.bind (.ref 145) (.ref 249)) := by kernel_rfl
theorem fo4 (P : Params) : findObj (Kf P) 260 (some emptyDict) "narrow_wider" = some (.bind (.ref 145) (.ref 252)) := by kernel_rfl
theorem fo5 (P : Params) : findObj (Kf P) 260 (some emptyDict) "narrow_zeroer" = some (.bind (.ref 145) (.ref 255)) := by kernel_rfl
end Mine
end TW51
section TW52
open PySem PySem.W PyProof.Rows PySem.Calls Builtin Builtin.ObjectAttr
set_option Elab.async false
namespace Mine
set_option maxRecDepth 100000
set_option maxHeartbeats 4000000
theorem pk_made (P : Params) : peek (Kf P) ⟨pw, P⟩ (Bind.madeBy (.ref 260)) = some none := by kernel_rfl
theorem pk_base (P : Params) : peek (Kf P) ⟨pw, P⟩ (Bind.staticBase (.ref 260)) = some (.type "tuple") := by kernel_rfl
theorem pk_here (P : Params) : peek (Kf P) ⟨pw, P⟩ (Bind.madeHere "tuple.__new__" (.ref 260)) = some () := by kernel_rfl
theorem pk_check (P : Params) (a : Addr) : peek (Kf P) ⟨pw, P⟩ (checkBuiltinCall "tuple.__new__" ⟨[.ref 260, .ref a], []⟩) = some () := by kernel_rfl
theorem pk_init (P : Params) : peek (Kf P) ⟨pw, P⟩ (typeLookup (.ref 260) "__init__") = some (some (.builtin "object.__init__")) := by kernel_rfl
theorem pk_isT (P : Params) : peek (Kf P) ⟨pw, P⟩ (isType (.ref 260)) = some true := by kernel_rfl
theorem pk_sub (P : Params) : peek (Kf P) ⟨pw, P⟩ (isSubtype (.ref 260) (.type "tuple")) = some true := by kernel_rfl
theorem pk_mro (P : Params) : peek (Kf P) ⟨pw, P⟩ (mroOf (.ref 260)) = some [.ref 260, .type "tuple", .type "object"] := by kernel_rfl
theorem pk_del (P : Params) : peek (Kf P) ⟨pw, P⟩ (classHasDel 260) = some false := by kernel_rfl
theorem tupleNew {w : World} {A : Around} {E : Value → Shared → Prop} {s : Shared} {Q : Value → Shared → Prop} {V : Vol} {a : Addr} {vs : List Value} {ds : List PyData} (g : Gl w.params s.heap) (vk : VOk V s.heap) (T : TupD V s.heap (.ref a) ds a vs) (hl : vs.length ≤ 2 ^ 20)
    (q : ∀ s' x dx, Grow s.heap s'.heap → Sa s s' → s.heap.objs.size ≤ x → s.heap.objs.size ≤ dx → InsJ V x dx vs ds s'.heap → Q (.ref x) s') : wpAny (model pw w) A (call (.builtin "tuple.__new__") [.ref 260, .ref a]) Q E s := by
  have X := g.kf
  obtain ⟨hh, gg, d, tk, os⟩ := s
  have L1 : Looks (model pw w) hh (checkBuiltinCall "tuple.__new__" ⟨[.ref 260, .ref a], []⟩) () := Looks.of_peek X (pk_check _ a)
  have L2 : Looks (model pw w) hh (isType (.ref 260)) true := Looks.of_peek X (pk_isT _)
  have L3 : Looks (model pw w) hh (isSubtype (.ref 260) (.type "tuple")) true := Looks.of_peek X (pk_sub _)
  have L4 : Looks (model pw w) hh (Bind.madeHere "tuple.__new__" (.ref 260)) () := Looks.of_peek X (pk_here _)
  have L5 : Looks (model pw w) hh (typeLookup (.ref 260) "__init__") (some (.builtin "object.__init__")) := Looks.of_peek X (pk_init _)
  obtain ⟨_, hV, ⟨o, ho, hc, n, hd⟩, al, len⟩ := T
  have hsz := sizeLine_eq
  refine wpAny_call ?_
  refine codeAny_call_builtin (by decide +kernel) F.entry_tuple_new (L1.at ?_)
  unfold Builtin.«tuple.__new__»
  repeat (first | (with_reducible refine wpAny_size (wpAny_collect_seq (hsz := by rw [List.size_toArray]; omega) a (.inr rfl) ho hc hd fun h' hk hz => ?_)) | lk)
  have C : h'.get? 260 = some (PySem.W.Fast.tw14010575857582384495 w.params) := hk _ _ (X 260 _ (by rfl))
  have C2 := Heap.get?_push_of_some (tupIns h'.objs.size vs) (Heap.get?_push_of_some emptyDict C)
  rw [if_neg (by rw [List.size_toArray]; omega)]
  dsimp only
  unfold newObjAsIs
  refine wpAny_bind (wpAny_alloc ?_)
  have L6 : Looks (model pw w) ((h'.push emptyDict).push (tupIns h'.objs.size vs)) (classHasDel 260) false := by
    refine Looks.of_peek (K := Kf w.params) ?_ (pk_del _)
    exact X.keeps fun b o e => Heap.get?_push_of_some _ (Heap.get?_push_of_some _ (hk _ _ e))
  dsimp only
  refine wpAny_bind (L6.at ?_)
  refine wpAny_pure (wpAny_pure ?_)
  have gr : Grow hh ((h'.push emptyDict).push (tupIns h'.objs.size vs)) := ⟨fun b o _ e => Heap.get?_push_of_some _ (Heap.get?_push_of_some _ (hk _ _ e)), by rw [Heap.size_push, Heap.size_push]; exact Nat.le_trans (show hh.objs.size ≤ h'.objs.size from hz) (by omega)⟩
  refine q _ _ h'.objs.size gr ⟨rfl, rfl⟩ ?_ hz ⟨?_, ?_, al.up (Grow.up gr)⟩
  · rw [Heap.size_push]; exact Nat.le_succ_of_le hz
  · exact Heap.get?_push_size _ rfl
  · exact Heap.get?_push_of_some _ (Heap.get?_push_size _ rfl)
end Mine
end TW52
section TW53
open PySem PySem.W PyProof.Rows PySem.Calls Builtin Builtin.ObjectAttr
set_option Elab.async false
namespace Mine
set_option maxRecDepth 100000
set_option maxHeartbeats 4000000
theorem HasAll.less {V V' : Vol} {h : Heap} (k : ∀ a, V' a = false → V a = false) : ∀ {vs : List Value} {bs : List Bnd}, HasAll V' h vs bs → HasAll V h vs bs
  | [], [], _ => trivial
  | _ :: _, _ :: _, ⟨a, b⟩ => ⟨a.vol fun p o hp e => ⟨k p hp, e⟩, HasAll.less k b⟩
  | [], _ :: _, x => x.elim
  | _ :: _, [], x => x.elim
/-- what the class gives -/
def MadeQ (V : Vol) (ds : List PyData) (s : Shared) (v : Value) (s' : Shared) : Prop := Grow s.heap s'.heap ∧ Sa s s' ∧ ∃ x dx us, v = .ref x ∧ s.heap.objs.size ≤ x ∧ s.heap.objs.size ≤ dx ∧ InsJ V x dx us ds s'.heap
theorem tmethQ {c : Cx} (ok : c.Ok) {s : Shared} (t : c.St s) {x name : PySem.Str} {p ap pos : Pos} {e : PySem.Expr} {es : List PySem.Expr} {bs : List Bnd} {T id : String} {Q : Value → Shared → Prop} (hf : Pu c (.Name x p) (.raw (.type T))) (ht : typeOf (.type T) = pure (.type "type"))
    (hs : Manifest.isStub T = false) (hm : findCls (Kf c.w.params) (.type T) (.type "type") name = some (.val (.builtin id))) (hh : handedIn (.builtin id) = true) (ha : Pa c (e :: es) bs)
    (fn : ∀ s' vs, c.St s' → Grow s.heap s'.heap → Sa s s' → HasAll c.V s'.heap vs bs → wpAny (model pw c.w) c.A (PySem.call (.builtin id) vs) Q (fun _ _ => False) s') {pl : Sem Bool}
    (he : starEach (e :: es) c.env = (false, eval e c.env) :: starEach es c.env := by rfl) (hp : (backTo pos (starEach es c.env)).any (·.1) = false := by rfl)
    (hev : eval (.Call (.Attribute (.Name x p) name ap) (e :: es) [] pos) c.env = (do
      let ov ← eval (.Name x p) c.env
      standAt ap.atName
      let (f, first) ← holding [ov] (getMethod ov name pl)
      callWith pos f first (backTo pos (starEach (e :: es) c.env)) (backToKw pos (keywordEach [] c.env))) := by rfl) : wpAny (model pw c.w) c.A (eval (.Call (.Attribute (.Name x p) name ap) (e :: es) [] pos) c.env) Q (fun _ _ => False) s := by
  refine methodCall_KW (pl := pl) (wpAny_mono (hf s t) (fun f s1 ⟨g1, a1, h1⟩ => ?_) fun _ _ f => f) hev
  obtain rfl : f = .type T := h1
  have t1 := t.grow ok g1 a1
  refine method_ty t1.gl.kf ht hs hm hh ?_
  have t2 := t1.grow (s' := { s1 with toks := s1.toks + 1 }) ok Grow.refl ⟨rfl, rfl⟩
  refine PyProof.Rows.callWith_builtin1 (wpAny_mono (ha _ pos t2) (fun vs s2 ⟨g2, a2, h2⟩ => ?_) fun _ _ f => f) he hp
  exact fn s2 vs (t2.grow ok g2 a2) (g1.trans g2) ⟨(a1.trans ⟨a2.gens, a2.os⟩).gens, (a1.trans ⟨a2.gens, a2.os⟩).os⟩ h2
noncomputable abbrev fd198 (P : Params) : FuncData := funcOf (Fast.tw14332450688418254823 P)
theorem fn198 (P : Params) : FnOk P 198 (fd198 P) (stmtsOf (fd198 P)) := ⟨⟨_, by rfl, by rfl⟩, by decide, by rfl, by rfl, by rfl, by rfl, by rfl, by rfl, by rfl, ⟨_, _, _, _, by rfl, by decide, by rfl, by rfl, by rfl⟩⟩
theorem newRun {w : World} {A : Around} {V : Vol} {s : Shared} {vs : List Value} {d0 d1 d2 d3 d4 d5 : PyData} (rm : Rm A 1) (vf : VFine w.params V s.heap) (hvs : HasAll V s.heap vs (dats [d0, d1, d2, d3, d4, d5])) :
    wpAny (model pw w) A (call (.ref 198) (.ref 260 :: vs)) (MadeQ V [d0, d1, d2, d3, d4, d5] s) (fun _ _ => False) s := by
  have hl := hvs.length
  refine enter (n := 0) (V := V) (X := noX) (bs := .raw (.ref 260) :: dats [d0, d1, d2, d3, d4, d5]) (J := noJ) (ns := parNames (fd198 w.params)) (fn198 w.params) rm vf ⟨rfl, hvs⟩ (fun A' => ?_) ?_ (of_decide_eq_true (by rfl)) (by rfl) (fun _ e => nomatch e) trivial NewStab.triv fun L s1 hL nf ok tt => ?_
  · match vs, hl with
    | [_, _, _, _, _, _], _ => exact wpAny_pure ⟨rfl, rfl⟩
  · match vs, hl with
    | [_, _, _, _, _, _], _ => rfl
  refine do_doc ok tt fun s2 tt => ?_
  have h336 := vf.gl.size
  refine do_cons (wpAny_Return_some ?_)
  refine tmethQ (T := "tuple") (id := "tuple.__new__") (bs := [.raw (.ref 260), .dat (.tuple [d0, d1, d2, d3, d4, d5])]) ok tt (Pu.blt ok (by rfl) (by kernel_rfl) (by kernel_rfl)) (by first | rfl | kernel_rfl) (by decide +kernel) (kf_tn _) (by decide +kernel)
    (Pa.cons ok (Pu.name ok (by rfl)) (Pa.cons ok (Pu.tup ok (Pa.cons ok (Pu.name ok (by rfl)) (Pa.cons ok (Pu.name ok (by rfl)) (Pa.cons ok (Pu.name ok (by rfl)) (Pa.cons ok (Pu.name ok (by rfl)) (Pa.cons ok (Pu.name ok (by rfl)) (Pa.cons ok (Pu.name ok (by rfl)) Pa.nil)))))) (by simp)) Pa.nil)) fun s3 us t3 g3 a3 hus => ?_
  obtain ⟨u, r, rfl, h, h'⟩ := Has2 hus
  obtain rfl : u = .ref 260 := h
  obtain ⟨a, us, T⟩ := Dat.tuple h'
  obtain rfl : r = .ref a := T.ref
  have hlen := T.len
  refine tupleNew t3.gl t3.vok T (by rw [hlen]; simp) fun s4 x dx g4 a4 hx hdx j => ?_
  have up := t3.up.trans (Grow.up g4)
  have gr : Grow s.heap s4.heap := ⟨fun p o _ e => up.keep p o (by
    show (noX p || frm (callEnvC (fd198 w.params) L 198) p) = false
    cases hf : frm (callEnvC (fd198 w.params) L 198) p
    · rfl
    · exact absurd (Heap.lt_size e) (Nat.not_lt.mpr (nf p hf))) e, up.size⟩
  have hs : s.heap.objs.size ≤ s3.heap.objs.size := t3.up.size
  refine ⟨gr, t3.sa.trans a4, x, dx, us, rfl, Nat.le_trans hs hx, Nat.le_trans hs hdx, j.at_, j.dict, HasAll.less (fun p hp => ?_) j.al⟩
  exact (Bool.or_eq_false_iff.mp hp).1
end Mine
end TW53
section TW54
open PySem PySem.W PyProof.Rows PySem.Calls Builtin Builtin.ObjectAttr
set_option Elab.async false
namespace Mine
set_option maxRecDepth 100000
set_option maxHeartbeats 4000000
theorem pk_self (P : Params) : peek (Kf P) ⟨pw, P⟩ (isSubtype (.ref 260) (.ref 260)) = some true := by kernel_rfl
theorem pk_obj (P : Params) : peek (Kf P) ⟨pw, P⟩ (isSubtype (.ref 260) (.type "object")) = some true := by kernel_rfl
theorem oi7 (a v0 v1 v2 v3 v4 v5 : Value) : argsOk "object.__init__" ⟨[a, v0, v1, v2, v3, v4, v5], []⟩ := by unfold argsOk; kernel_rfl
theorem initRun {w : World} {A : Around} {E : Value → Shared → Prop} {s : Shared} {Q : Value → Shared → Prop} {x : Addr} {ox : Obj} {v0 v1 v2 v3 v4 v5 : Value} (g : Gl w.params s.heap) (hx : s.heap.get? x = some ox) (hc : ox.cls = .ref 260) (q : Q .none s) :
    wpAny (model pw w) A (call (.builtin "object.__init__") [.ref x, v0, v1, v2, v3, v4, v5]) Q E s := by
  have X := g.kf
  have L0 : Looks (model pw w) s.heap (typeOf (.ref x)) (.ref 260) := hc ▸ (Looks.ld hx).andThen .now
  have L1 : Looks (model pw w) s.heap (isInstance (.ref x) (.type "object")) true := L0.andThen (Looks.of_peek X (pk_obj _))
  have L2 : Looks (model pw w) s.heap (typeLookup (.ref 260) "__init__") (some (.builtin "object.__init__")) := Looks.of_peek X (pk_init _)
  have L3 : Looks (model pw w) s.heap (Bind.madeBy (.ref 260)) none := Looks.of_peek X (pk_made _)
  refine wpAny_call ?_
  refine codeAny_call_builtin PySem.W.oi_plain PySem.W.entry_oi (@check_slot (model pw w) _ _ _ "object.__init__" "object" "__init__" (.ref x) [v0, v1, v2, v3, v4, v5] [] _ oi_kind oi_split L1 (oi7 _ _ _ _ _ _ _) ?_)
  unfold Builtin.«object.__init__»
  obtain ⟨hh, gg, d, t, os⟩ := s
  repeat lk
  exact q
theorem makeRun {w : World} {A : Around} {V : Vol} {s : Shared} {vs : List Value} {d0 d1 d2 d3 d4 d5 : PyData} (rm : Rm A 3) (vf : VFine w.params V s.heap) (hvs : HasAll V s.heap vs (dats [d0, d1, d2, d3, d4, d5])) :
    wpAny (model pw w) A (call (.ref 260) vs) (MadeQ V [d0, d1, d2, d3, d4, d5] s) (fun _ _ => False) s := by
  have hl := hvs.length
  have X := vf.gl.kf
  have h260 : s.heap.get? 260 = some (PySem.W.Fast.tw14010575857582384495 w.params) := X _ _ (by rfl)
  have L1 : Looks (model pw w) s.heap (specialOf (.ref 260) "__call__") (some (.builtin "type.__call__")) := looks_specialIn X (kf_call _)
  have L2 : Looks (model pw w) s.heap (isInstance (.ref 260) (.type "type")) true := looks_instIn X (kf_typ _)
  have L3 : Looks (model pw w) s.heap (mroOf (.ref 260)) [.ref 260, .type "tuple", .type "object"] := Looks.of_peek X (pk_mro _)
  have L4 : Looks (model pw w) s.heap (Bind.madeBy (.ref 260)) none := Looks.of_peek X (pk_made _)
  refine wpAny_call ?_
  refine codeAny_of_tree ?_
  show wpAny _ _ (callAny (.ref 260) _) _ _ _
  refine nd_load h260 ?_
  show wpAny _ _ (callAny.viaDunder (.ref 260) _) _ _ _
  unfold callAny.viaDunder
  refine wpAny_bind (L1.here ?_)
  dsimp only
  rw [tc_bind]
  refine wpAny_bind (wpAny_pure (wpAny_bind (wpAny_pure ?_)))
  refine wpAny_pure (a := Fin.again (.call (.builtin "type.__call__") ⟨.ref 260 :: vs, []⟩)) (And.intro rfl ?_)
  refine codeAny_call_builtin_at (Code.quiet_builtin _ (by decide +kernel)) entry_typeCall (check_slot tc_kind tc_split L2 (tc_args _ _ _) ?_)
  unfold Builtin.«type.__call__»
  obtain ⟨hh, gg, d, t, os⟩ := s
  repeat (first | (with_reducible refine cls_bind X (kf_reads _) (kf_new _) (wpAny_call ?_)) | lk)
  refine sm_get (s := ⟨hh, gg, d, t + 1, os⟩) X (kf_sm _) ?_
  refine handed_on (by rfl) ?_
  dsimp only
  have rm' : Rm (A.under (Code.builtin "type.__call__" ⟨Value.ref 260 :: vs, []⟩)) 1 := ⟨rm.hn, by have := rm.depth; show A.depth + 1 + 1 < 900; omega, by have := rm.units; show A.units + 1 + 20 * 1 < 5000; omega⟩
  refine wpAny_bind (wpAny_holding (wpAny_mono (newRun (s := ⟨hh, gg, d, t + 1, os⟩) rm' vf hvs) (fun v s' ⟨g1, a1, x, dx, us, e, hx, hdx, j⟩ => ?_) fun _ _ z => z.elim))
  subst e
  have X' : (Kf w.params).In s'.heap := X.keeps g1.keeps
  have gl' : Gl w.params s'.heap := fun i o n e => g1.keeps _ _ (vf.gl i o n e)
  have T1 : Looks (model pw w) s'.heap (isInstance (.ref x) (.ref 260)) true := (Looks.ld j.at_).andThen (Looks.of_peek X' (pk_self _))
  refine wpAny_bind (T1.here ?_)
  rw [if_neg (by decide)]
  have hq : MadeQ V [d0, d1, d2, d3, d4, d5] ⟨hh, gg, d, t, os⟩ (.ref x) s' := ⟨g1, ⟨a1.gens, a1.os⟩, x, dx, us, rfl, hx, hdx, j⟩
  refine wpAny_bind (wpAny_holding ?_)
  match vs, hl with
  | [v0, v1, v2, v3, v4, v5], _ =>
    have T2 : Looks (model pw w) s'.heap (specialOf (.ref x) "__init__") (some (.builtin "object.__init__")) := (Looks.ld j.at_).andThen (Looks.of_peek X' (pk_init _))
    unfold callSpecial?
    refine wpAny_bind (T2.here ?_)
    refine wpAny_holding ?_
    rw [oi_bind]
    refine wpAny_bind (wpAny_pure ?_)
    refine wpAny_bind (initRun gl' j.at_ rfl ?_)
    refine wpAny_pure ?_
    exact wpAny_pure hq
end Mine
end TW54
section TW55
open PySem PySem.W PyProof.Rows PySem.Calls
set_option Elab.async false
namespace Mine
set_option maxRecDepth 100000
set_option maxHeartbeats 4000000
abbrev noDict : Obj := { cls := .type "dict", data := .dict #[] }
theorem mapOf_new {w : World} {h : Heap} {a : Addr} (e : h.get? a = some noDict) : h.MapOf (strKind pw w) a fun _ => none :=
  ⟨_, #[], _, e, ⟨rfl, rfl, rfl⟩, rfl, (fun x hx => by simp at hx), fun _ => rfl⟩
section
variable {c : Cx}
theorem Pu.emptyD (ok : c.Ok) {pos : Pos} : Pd c (.Dict [] [] pos) (.dict []) := fun s t => by
  refine wpAny_Dict_empty ⟨Grow.push _, ⟨rfl, rfl⟩, _, Reads.dict (kvs := []) (hide_some.mpr ⟨t.vok.new, Heap.get?_push_size _ rfl⟩) rfl rfl .nil .nil⟩
theorem Pu.getget (ok : c.Ok) {e e1 : Expr} {O : Addr} {name kind : PySem.Str} {d : PyData} {p pos p2 pos2 pd pk pt : Pos} {kk kt : Nat} (hO : IsDct c.w O) (hs : (O == sysModules) = false) (y : Pu c e (.raw (.ref O))) (y1 : Pd c e1 (.str name)) (h : OfD c.w O name kind d)
    (hb : attributeBase e ⟨⟨[103, 101, 116]⟩⟩ c.env (eval e c.env) = eval e c.env := by rfl) (hline : (p.endLine == pos.line) = true := by rfl) (hline2 : (p2.endLine == pos2.line) = true := by rfl)
    (hst : starEach [e1, .Dict [] [] pd] c.env = [(false, eval e1 c.env), (false, eval (.Dict [] [] pd) c.env)] := by rfl) :
    Pd c (.Call (.Attribute (.Call (.Attribute e ⟨⟨[103, 101, 116]⟩⟩ p) [e1, .Dict [] [] pd] [] pos) ⟨⟨[103, 101, 116]⟩⟩ p2) [.Constant (.str kind) kk pk, .Tuple [] kt pt] [] pos2) d := by
  have empty : Pd c (.Tuple [] kt pt) (.tuple []) := Pu.tup ok (ds := []) Pa.nil (by decide)
  rcases h with ⟨h1, rfl⟩ | ⟨b, h1, hbD, hbs, h2⟩
  · intro s t
    refine PySem.Call_method2 rfl rfl hline2 ?_
    refine PySem.Call_method2 hb hst hline (wpAny_mono (y s t) (fun v s1 ⟨g, a, h⟩ => ?_) fun _ _ f => f)
    obtain rfl : v = .ref O := h
    have t1 := t.grow ok g a
    have m := hO.map t1.gl
    refine ⟨"dict", "dict.get", F.plainAttrs_dict, F.slot_dict_get, F.type_dict_get, m.typeIs, m.noDict, wpAny_dict_get2 (knd := strKind pw c.w) hs (wpAny_mono (y1 s1 t1) (fun k s2 ⟨g2, a2, h2⟩ => wpAny_Dict_empty ?_) fun _ _ f => f)⟩
    obtain ⟨tk, rfl⟩ := Dat.str h2
    have t2 := t1.grow ok g2 a2
    have t3 : c.St { s2 with heap := s2.heap.push noDict } := t2.grow ok (Grow.push _) ⟨rfl, rfl⟩
    refine ⟨name, dmap c.w.params O, isStrSelf name tk c.w, hO.map t3.gl, ?_⟩
    rw [h1]
    show MethodOnS _ _ _ _ _ (.ref s2.heap.objs.size) _ _ _ _
    have e3 : (s2.heap.push noDict).get? s2.heap.objs.size = some noDict := Heap.get?_push_size _ rfl
    have m3 : (s2.heap.push noDict).MapOf (strKind pw c.w) s2.heap.objs.size fun _ => Option.none := mapOf_new e3
    have t4 : c.St { heap := s2.heap.push noDict, gens := s2.gens, drawn := s2.drawn, toks := s2.toks + 1, os := s2.os } := t3.grow ok Grow.refl ⟨rfl, rfl⟩
    have big : (s2.heap.objs.size == sysModules) = false := by
      have := t2.gl.size
      exact beq_eq_false_iff_ne.mpr (fun q => by rw [q] at this; exact absurd this (by decide))
    refine ⟨"dict", "dict.get", F.plainAttrs_dict, F.slot_dict_get, F.type_dict_get, m3.typeIs, m3.noDict, wpAny_dict_get2 (knd := strKind pw c.w) big (wpAny_mono (Pu.str _ t4) (fun k s5 ⟨g5, a5, h5⟩ => wpAny_mono (empty s5 (t4.grow ok g5 a5)) (fun u s6 ⟨g6, a6, h6⟩ => ?_) fun _ _ f => f) fun _ _ f => f)⟩
    obtain ⟨tk5, rfl⟩ := Dat.str h5
    refine ⟨kind, fun _ => Option.none, isStrSelf kind tk5 c.w, mapOf_new ((g5.trans g6).keeps _ _ e3), ?_⟩
    have aa := a5.trans a6
    have bb := a.trans a2
    exact ⟨(g.trans g2).trans ((Grow.push _).trans (g5.trans g6)), ⟨aa.gens.trans bb.gens, aa.os.trans bb.os⟩, h6⟩
  · have in1 : Pu c (.Call (.Attribute e ⟨⟨[103, 101, 116]⟩⟩ p) [e1, .Dict [] [] pd] [] pos) (.raw (.ref b)) :=
      Pu.get ok hO hs y y1 (Pu.emptyD ok) (fun s u t h => by rw [h1]; rfl) hb hline hst
    refine Pu.get ok hbD hbs in1 Pu.str empty (fun s u t h => ?_) rfl hline2 rfl
    rcases h2 with ⟨h3, rfl⟩ | ⟨v, h3, h4⟩
    · rw [h3]; exact h
    · rw [h3]; exact rdV_has t.gl ok.old 4 _ _ h4
end
theorem dct55 (w : World) : IsDct w 55 := ⟨by decide, _, esOf (L1 w.params)[55]?, _, by rfl, ⟨by rfl, by rfl, by rfl⟩, by rfl, KeysP.keys (by exact ⟨⟨_, _, by rfl, by rfl⟩, trivial⟩), rfl⟩
theorem dct47 (w : World) : IsDct w 47 := ⟨by decide, _, esOf (L1 w.params)[47]?, _, by rfl, ⟨by rfl, by rfl, by rfl⟩, by rfl, KeysP.keys (by exact ⟨⟨_, _, by rfl, by rfl⟩, ⟨_, _, by rfl, by rfl⟩, trivial⟩), rfl⟩
theorem dct52 (w : World) : IsDct w 52 := ⟨by decide, _, esOf (L1 w.params)[52]?, _, by rfl, ⟨by rfl, by rfl, by rfl⟩, by rfl, KeysP.keys (by exact ⟨⟨_, _, by rfl, by rfl⟩, trivial⟩), rfl⟩
theorem dct59 (w : World) : IsDct w 59 := ⟨by decide, _, esOf (L1 w.params)[59]?, _, by rfl, ⟨by rfl, by rfl, by rfl⟩, by rfl, KeysP.keys (by exact ⟨⟨_, _, by rfl, by rfl⟩, trivial⟩), rfl⟩
theorem dct63 (w : World) : IsDct w 63 := ⟨by decide, _, esOf (L1 w.params)[63]?, _, by rfl, ⟨by rfl, by rfl, by rfl⟩, by rfl, KeysP.keys (by exact ⟨⟨_, _, by rfl, by rfl⟩, trivial⟩), rfl⟩
theorem dct67 (w : World) : IsDct w 67 := ⟨by decide, _, esOf (L1 w.params)[67]?, _, by rfl, ⟨by rfl, by rfl, by rfl⟩, by rfl, KeysP.keys (by exact ⟨⟨_, _, by rfl, by rfl⟩, trivial⟩), rfl⟩
theorem dct90 (w : World) : IsDct w 90 := ⟨by decide, _, esOf (L1 w.params)[90]?, _, by rfl, ⟨by rfl, by rfl, by rfl⟩, by rfl, KeysP.keys (by exact ⟨⟨_, _, by rfl, by rfl⟩, trivial⟩), rfl⟩
theorem dct104 (w : World) : IsDct w 104 := ⟨by decide, _, esOf (L1 w.params)[104]?, _, by rfl, ⟨by rfl, by rfl, by rfl⟩, by rfl, KeysP.keys (by exact ⟨⟨_, _, by rfl, by rfl⟩, trivial⟩), rfl⟩
theorem dct108 (w : World) : IsDct w 108 := ⟨by decide, _, esOf (L1 w.params)[108]?, _, by rfl, ⟨by rfl, by rfl, by rfl⟩, by rfl, KeysP.keys (by exact ⟨⟨_, _, by rfl, by rfl⟩, ⟨_, _, by rfl, by rfl⟩, trivial⟩), rfl⟩
theorem dct101 (w : World) : IsDct w 101 := ⟨by decide, _, esOf (L1 w.params)[101]?, _, by rfl, ⟨by rfl, by rfl, by rfl⟩, by rfl, KeysP.keys (by exact ⟨⟨_, _, by rfl, by rfl⟩, trivial⟩), rfl⟩
end Mine
end TW55
section TW56
open PySem PySem.W PyProof.Rows
set_option Elab.async false
namespace Mine
set_option maxRecDepth 100000
set_option maxHeartbeats 4000000
structure Tabs where
  n0 : List (Int × Int)
  n1 : List (Int × Int)
  n2 : List (Int × Int)
  z0 : List (Int × Int)
  z1 : List (Int × Int)
  z2 : List (Int × Int)
  va : List (Int × Int)
  vb : List (Int × Int)
  wd : List (Int × Int)
  nz : List (Int × Int)
structure TabsOk (w : World) (name : PySem.Str) (T : Tabs) : Prop where
  n0 : OfD w 58 name ⟨⟨[110, 97, 114, 114, 111, 119, 101, 114]⟩⟩ (tblD T.n0)
  n1 : OfD w 62 name ⟨⟨[110, 97, 114, 114, 111, 119, 101, 114]⟩⟩ (tblD T.n1)
  n2 : OfD w 66 name ⟨⟨[110, 97, 114, 114, 111, 119, 101, 114]⟩⟩ (tblD T.n2)
  z0 : OfD w 58 name ⟨⟨[122, 101, 114, 111, 101, 114]⟩⟩ (tblD T.z0)
  z1 : OfD w 62 name ⟨⟨[122, 101, 114, 111, 101, 114]⟩⟩ (tblD T.z1)
  z2 : OfD w 66 name ⟨⟨[122, 101, 114, 111, 101, 114]⟩⟩ (tblD T.z2)
  va : OfD w 89 name ⟨⟨[110, 97, 114, 114, 111, 119, 101, 114]⟩⟩ (tblD T.va)
  vb : OfD w 100 name ⟨⟨[119, 105, 100, 101, 114]⟩⟩ (tblD T.vb)
  wd : OfD w 121 name ⟨⟨[119, 105, 100, 101, 114]⟩⟩ (tblD T.wd)
  nz : OfD w 121 name ⟨⟨[110, 97, 114, 114, 111, 119, 95, 122, 101, 114, 111, 101, 114]⟩⟩ (tblD T.nz)

def tabs1 : Tabs := ⟨[], [], [], [(4447, 4447)], [], [], [], [], [], [(93539, 93539), (93543, 93546)]⟩
theorem tabs1_ok (w : World) : TabsOk w x1 tabs1 :=
  ⟨.inr ⟨55, by kernel_rfl, dct55 w, rfl, .inl ⟨by kernel_rfl, rfl⟩⟩,
   .inl ⟨by kernel_rfl, rfl⟩,
   .inl ⟨by kernel_rfl, rfl⟩,
   .inr ⟨55, by kernel_rfl, dct55 w, rfl, .inr ⟨(dmap w.params 55 ⟨⟨[122, 101, 114, 111, 101, 114]⟩⟩).get (by kernel_rfl), by kernel_rfl, by kernel_rfl⟩⟩,
   .inl ⟨by kernel_rfl, rfl⟩,
   .inl ⟨by kernel_rfl, rfl⟩,
   .inl ⟨by kernel_rfl, rfl⟩,
   .inl ⟨by kernel_rfl, rfl⟩,
   .inr ⟨104, by kernel_rfl, dct104 w, rfl, .inl ⟨by kernel_rfl, rfl⟩⟩,
   .inr ⟨104, by kernel_rfl, dct104 w, rfl, .inr ⟨(dmap w.params 104 ⟨⟨[110, 97, 114, 114, 111, 119, 95, 122, 101, 114, 111, 101, 114]⟩⟩).get (by kernel_rfl), by kernel_rfl, by kernel_rfl⟩⟩⟩
def tabs2 : Tabs := ⟨[(128729, 128729)], [], [], [(127995, 127999)], [], [(127995, 127999)], [], [], [(9757, 9757), (9977, 9977), (9996, 9997), (128372, 128373)], [(173, 173), (1536, 1541), (1757, 1757), (1807, 1807), (2192, 2193), (3635, 3635)]⟩
theorem tabs2_ok (w : World) : TabsOk w x2 tabs2 :=
  ⟨.inr ⟨47, by kernel_rfl, dct47 w, rfl, .inr ⟨(dmap w.params 47 ⟨⟨[110, 97, 114, 114, 111, 119, 101, 114]⟩⟩).get (by kernel_rfl), by kernel_rfl, by kernel_rfl⟩⟩,
   .inl ⟨by kernel_rfl, rfl⟩,
   .inr ⟨63, by kernel_rfl, dct63 w, rfl, .inl ⟨by kernel_rfl, rfl⟩⟩,
   .inr ⟨47, by kernel_rfl, dct47 w, rfl, .inr ⟨(dmap w.params 47 ⟨⟨[122, 101, 114, 111, 101, 114]⟩⟩).get (by kernel_rfl), by kernel_rfl, by kernel_rfl⟩⟩,
   .inl ⟨by kernel_rfl, rfl⟩,
   .inr ⟨63, by kernel_rfl, dct63 w, rfl, .inr ⟨(dmap w.params 63 ⟨⟨[122, 101, 114, 111, 101, 114]⟩⟩).get (by kernel_rfl), by kernel_rfl, by kernel_rfl⟩⟩,
   .inl ⟨by kernel_rfl, rfl⟩,
   .inl ⟨by kernel_rfl, rfl⟩,
   .inr ⟨108, by kernel_rfl, dct108 w, rfl, .inr ⟨(dmap w.params 108 ⟨⟨[119, 105, 100, 101, 114]⟩⟩).get (by kernel_rfl), by kernel_rfl, by kernel_rfl⟩⟩,
   .inr ⟨108, by kernel_rfl, dct108 w, rfl, .inr ⟨(dmap w.params 108 ⟨⟨[110, 97, 114, 114, 111, 119, 95, 122, 101, 114, 111, 101, 114]⟩⟩).get (by kernel_rfl), by kernel_rfl, by kernel_rfl⟩⟩⟩
def tabs3 : Tabs := ⟨[(127462, 127487)], [(127462, 127487)], [], [], [], [], [(35, 35), (42, 42), (48, 57), (169, 169), (174, 174), (8252, 8252), (8596, 8601), (9728, 9732), (9757, 9757), (9760, 9760), (9792, 9792), (9794, 9794), (9975, 9977), (9992, 9993), (9996, 9997), (10083, 10084), (127987, 127987), (127989, 127989), (128371, 128377), (128715, 128715)], [(8986, 8987), (9193, 9196), (9748, 9749), (9800, 9811), (9994, 9995), (12336, 12336), (12349, 12349), (126980, 126980)], [(12872, 12879)], []⟩
theorem tabs3_ok (w : World) : TabsOk w x3 tabs3 :=
  ⟨.inr ⟨52, by kernel_rfl, dct52 w, rfl, .inr ⟨(dmap w.params 52 ⟨⟨[110, 97, 114, 114, 111, 119, 101, 114]⟩⟩).get (by kernel_rfl), by kernel_rfl, by kernel_rfl⟩⟩,
   .inr ⟨59, by kernel_rfl, dct59 w, rfl, .inr ⟨(dmap w.params 59 ⟨⟨[110, 97, 114, 114, 111, 119, 101, 114]⟩⟩).get (by kernel_rfl), by kernel_rfl, by kernel_rfl⟩⟩,
   .inl ⟨by kernel_rfl, rfl⟩,
   .inr ⟨52, by kernel_rfl, dct52 w, rfl, .inl ⟨by kernel_rfl, rfl⟩⟩,
   .inr ⟨59, by kernel_rfl, dct59 w, rfl, .inl ⟨by kernel_rfl, rfl⟩⟩,
   .inl ⟨by kernel_rfl, rfl⟩,
   .inr ⟨67, by kernel_rfl, dct67 w, rfl, .inr ⟨(dmap w.params 67 ⟨⟨[110, 97, 114, 114, 111, 119, 101, 114]⟩⟩).get (by kernel_rfl), by kernel_rfl, by kernel_rfl⟩⟩,
   .inr ⟨90, by kernel_rfl, dct90 w, rfl, .inr ⟨(dmap w.params 90 ⟨⟨[119, 105, 100, 101, 114]⟩⟩).get (by kernel_rfl), by kernel_rfl, by kernel_rfl⟩⟩,
   .inr ⟨101, by kernel_rfl, dct101 w, rfl, .inr ⟨(dmap w.params 101 ⟨⟨[119, 105, 100, 101, 114]⟩⟩).get (by kernel_rfl), by kernel_rfl, by kernel_rfl⟩⟩,
   .inr ⟨101, by kernel_rfl, dct101 w, rfl, .inl ⟨by kernel_rfl, rfl⟩⟩⟩
end Mine
end TW56
section TW57
open PySem PySem.W PyProof.Rows PySem.Calls
set_option Elab.async false
namespace Mine
set_option maxRecDepth 100000
set_option maxHeartbeats 4000000
theorem clsQ {c : Cx} (ok : c.Ok) {s : Shared} (t : c.St s) {x : PySem.Str} {p pos : Pos} {e : PySem.Expr} {es : List PySem.Expr} {bs : List Bnd} {Q : Value → Shared → Prop} (hf : Pu c (.Name x p) (.raw (.ref 260))) (ha : Pa c (e :: es) bs)
    (fn : ∀ s' vs, c.St s' → Grow s.heap s'.heap → Sa s s' → HasAll c.V s'.heap vs bs → wpAny (model pw c.w) c.A (PySem.call (.ref 260) vs) Q (fun _ _ => False) s')
    (he : starEach (e :: es) c.env = (false, eval e c.env) :: starEach es c.env := by rfl) (hp : (backTo pos (starEach es c.env)).any (·.1) = false := by rfl) : wpAny (model pw c.w) c.A (eval (.Call (.Name x p) (e :: es) [] pos) c.env) Q (fun _ _ => False) s := by
  refine Call_ (wpAny_mono (hf s t) (fun f s1 ⟨g1, a1, h1⟩ => ?_) fun _ _ f => f)
  obtain rfl : f = .ref 260 := h1
  have t1 := t.grow ok g1 a1
  have hall := ha s1 pos t1
  rw [he] at hall
  show wpAny _ _ (callWith pos (.ref 260) [] (backTo pos (starEach (e :: es) c.env)) []) _ _ _
  rw [he]
  refine callWith_of (P := (Kf c.w.params).In) (by show ((false || (backTo pos (starEach es c.env)).any (·.1)) || false) = false; rw [hp]; rfl) (keeps_K (by kernel_rfl)) (evalArgs_plain (wpAny_mono hall (fun vs s2 ⟨g2, a2, h2⟩ => ?_) fun _ _ f => f))
  have t2 := t1.grow ok g2 a2
  exact ⟨t2.gl.kf, fn s2 vs t2 (g1.trans g2) (a1.trans a2) h2⟩
theorem uno175_no {h₀ : Heap} {F : Vol} (hF : ∀ a, F a = true → h₀.objs.size ≤ a) {a : Addr} (h : a < h₀.objs.size) : F a = false := by
  cases e : F a
  · rfl
  · exact absurd h (Nat.not_lt.mpr (hF a e))
theorem mergeFn (w : World) {ts : List (List (Int × Int))} {c' : Addr} (hn : ts.length ≤ 8) (hflat : ts.flatten.length < 64) (hbox : ∀ p ∈ ts.flatten, p.1 ≤ p.2) :
    FnE w 1 180 (dats (ts.map tblD)) (uno 175) (TabSt lamPos (mq w.params) (some c')) (fun b => ∃ told, b = .dat (tblD told) ∧ MergeOk ts told) := fun A V s vs rm vf xv hvs hJ =>
  wpAny_mono (mergeRun rm vf hvs hn hflat hbox hJ) (fun v s' ⟨u, a, m', told, j, ok, hd, _, hm⟩ => by
    obtain rfl : m' = some c' := by
      rcases hm with h | ⟨h, _⟩
      · exact h
      · cases h
    exact ⟨u, a, j, _, ⟨told, rfl, ok⟩, hd⟩) fun _ _ f => f
structure TabsFine (T : Tabs) : Prop where
  n : [T.n0, T.n1, T.n2].flatten.length < 64 ∧ ∀ p ∈ [T.n0, T.n1, T.n2].flatten, p.1 ≤ p.2
  z : [T.z0, T.z1, T.z2].flatten.length < 64 ∧ ∀ p ∈ [T.z0, T.z1, T.z2].flatten, p.1 ≤ p.2
  some_ : (!T.wd.isEmpty || !T.nz.isEmpty) = true
  lens : T.va.length ≤ 64 ∧ T.vb.length ≤ 64 ∧ T.wd.length ≤ 64 ∧ T.nz.length ≤ 64
theorem fine1 : TabsFine tabs1 := ⟨by decide, by decide, by decide, by decide⟩
theorem fine2 : TabsFine tabs2 := ⟨by decide, by decide, by decide, by decide⟩
theorem fine3 : TabsFine tabs3 := ⟨by decide, by decide, by decide, by decide⟩
noncomputable abbrev fd270 (P : Params) : FuncData := funcOf (Fast.tw4327639869342217624 P)
theorem fn270 (P : Params) : FnOk P 270 (fd270 P) (stmtsOf (fd270 P)) := ⟨⟨_, by rfl, by rfl⟩, by decide, by rfl, by rfl, by rfl, by rfl, by rfl, by rfl, by rfl, ⟨_, _, _, _, by rfl, by decide, by rfl, by rfl, by rfl⟩⟩
end Mine
end TW57
section TW58
open PySem PySem.W PyProof.Rows PySem.Calls
set_option Elab.async false
namespace Mine
set_option maxRecDepth 100000
set_option maxHeartbeats 4000000
def GtoQ (w : World) (V : Vol) (T : Tabs) (c' : Addr) (s : Shared) (v : Value) (s' : Shared) : Prop :=
  Up (uno 175) s.heap s'.heap ∧ Sa s s' ∧ TabSt lamPos (mq w.params) (some c') s'.heap ∧ ∃ n z, MergeOk [T.n0, T.n1, T.n2] n ∧ MergeOk [T.z0, T.z1, T.z2] z ∧
    ∃ x dx us, v = .ref x ∧ s.heap.objs.size ≤ x ∧ s.heap.objs.size ≤ dx ∧ InsJ V x dx us [tblD n, tblD T.va, tblD T.vb, tblD z, tblD T.wd, tblD T.nz] s'.heap
theorem truth_tbl (t : List (Int × Int)) : truthD (tblD t) = !t.isEmpty := by cases t <;> rfl
theorem small_tbl {t : List (Int × Int)} (h : t.length ≤ 64) : smallD (tblD t) = true := decide_eq_true (by rw [List.length_map]; omega)
theorem gtoRun {w : World} {A : Around} {V : Vol} {s : Shared} {vs : List Value} {name : PySem.Str} {T : Tabs} {c' : Addr} (rm : Rm A 4) (vf : VFine w.params V s.heap) (hvs : HasAll V s.heap vs [.dat (.str name)]) (hT : TabsOk w name T) (hF : TabsFine T)
    (htab : TabSt lamPos (mq w.params) (some c') s.heap) : wpAny (model pw w) A (call (.ref 270) vs) (GtoQ w V T c' s) (fun _ _ => False) s := by
  have h336 := vf.gl.size
  have hl := hvs.length
  refine enter (n := 3) (V := V) (X := uno 175) (bs := [.dat (.str name)]) (J := TabSt lamPos (mq w.params) (some c')) (ns := parNames (fd270 w.params)) (fn270 w.params) rm vf hvs (fun A' => ?_) ?_ (of_decide_eq_true (by rfl)) (by rfl)
    (fun a e => by rw [show a = 175 by simpa [uno] using e]; exact vf.vtab) htab htab.new fun L s1 hL nf ok tt => ?_
  · match vs, hl with
    | [_], _ => exact wpAny_pure ⟨rfl, rfl⟩
  · match vs, hl with
    | [_], _ => rfl
  have f7 : frm (callEnvC (fd270 w.params) L 270) 175 = false := uno175_no nf (Nat.lt_of_lt_of_le (by decide) h336)
  have xw : ∀ a, uno 175 a = true → joinV (uno 175) (frm (callEnvC (fd270 w.params) L 270)) a = true := fun a e => by unfold joinV; rw [e]; rfl
  have xf : ∀ a, uno 175 a = true → frm (callEnvC (fd270 w.params) L 270) a = false := fun a e => by rw [show a = 175 by simpa [uno] using e]; exact f7
  refine do_doc ok tt fun s2 tt => ?_
  refine do_assign ok tt (Ex.call ok (Pu.glob ok (by rfl) (by kernel_rfl)) (fn180 _) (Pa.cons ok (Pu.getget ok (dct58 w) rfl (Pu.glob ok (by rfl) (by kernel_rfl)) (Pu.name ok (by rfl)) hT.n0) (Pa.cons ok (Pu.getget ok (dct62 w) rfl (Pu.glob ok (by rfl) (by kernel_rfl)) (Pu.name ok (by rfl)) hT.n1)
    (Pa.cons ok (Pu.getget ok (dct66 w) rfl (Pu.glob ok (by rfl) (by kernel_rfl)) (Pu.name ok (by rfl)) hT.n2) Pa.nil))) (mergeFn w (ts := [T.n0, T.n1, T.n2]) (c' := c') (by simp) hF.n.1 hF.n.2) (by show 1 ≤ 3; decide) xw xf (fun _ j => j) (fun _ _ _ _ j => j)) (.inl (by rfl)) fun s3 b hb ok tt => ?_
  obtain ⟨n, rfl, hn⟩ := hb
  refine do_assignP ok tt (Pu.getget ok (dct89 w) rfl (Pu.glob ok (by rfl) (by kernel_rfl)) (Pu.name ok (by rfl)) hT.va) (.inl (by rfl)) fun s4 ok tt => ?_
  refine do_assignP ok tt (Pu.getget ok (dct100 w) rfl (Pu.glob ok (by rfl) (by kernel_rfl)) (Pu.name ok (by rfl)) hT.vb) (.inl (by rfl)) fun s5 ok tt => ?_
  refine do_assign ok tt (Ex.call ok (Pu.glob ok (by rfl) (by kernel_rfl)) (fn180 _) (Pa.cons ok (Pu.getget ok (dct58 w) rfl (Pu.glob ok (by rfl) (by kernel_rfl)) (Pu.name ok (by rfl)) hT.z0) (Pa.cons ok (Pu.getget ok (dct62 w) rfl (Pu.glob ok (by rfl) (by kernel_rfl)) (Pu.name ok (by rfl)) hT.z1)
    (Pa.cons ok (Pu.getget ok (dct66 w) rfl (Pu.glob ok (by rfl) (by kernel_rfl)) (Pu.name ok (by rfl)) hT.z2) Pa.nil))) (mergeFn w (ts := [T.z0, T.z1, T.z2]) (c' := c') (by simp) hF.z.1 hF.z.2) (by show 1 ≤ 3; decide) xw xf (fun _ j => j) (fun _ _ _ _ j => j)) (.inl (by rfl)) fun s6 b hb ok tt => ?_
  obtain ⟨z, rfl, hz⟩ := hb
  refine do_assignP ok tt (Pu.getget ok (dct121 w) rfl (Pu.glob ok (by rfl) (by kernel_rfl)) (Pu.name ok (by rfl)) hT.wd) (.inl (by rfl)) fun s7 ok tt => ?_
  refine do_assignP ok tt (Pu.getget ok (dct121 w) rfl (Pu.glob ok (by rfl) (by kernel_rfl)) (Pu.name ok (by rfl)) hT.nz) (.inl (by rfl)) fun s8 ok tt => ?_
  have ln : n.length ≤ 64 := Nat.le_of_lt (Nat.lt_of_le_of_lt hn.len hF.n.1)
  have lz : z.length ≤ 64 := Nat.le_of_lt (Nat.lt_of_le_of_lt hz.len hF.z.1)
  refine do_if ok tt (Te.not (Ta.te (Ta.or ok (Te.plain (d := tblD n) ok (Pu.name ok (by rfl)) (small_tbl ln)) (Ta.or ok (Te.plain (d := tblD T.va) ok (Pu.name ok (by rfl)) (small_tbl hF.lens.1)) (Ta.or ok (Te.plain (d := tblD T.vb) ok (Pu.name ok (by rfl)) (small_tbl hF.lens.2.1))
    (Ta.or ok (Te.plain (d := tblD z) ok (Pu.name ok (by rfl)) (small_tbl lz)) (Ta.or ok (Te.plain (d := tblD T.wd) ok (Pu.name ok (by rfl)) (small_tbl hF.lens.2.2.1)) (Ta.or ok (Te.plain (d := tblD T.nz) ok (Pu.name ok (by rfl)) (small_tbl hF.lens.2.2.2)) Ta.orNil)))))))) (fun hb => ?_) (fun _ s9 tt => do_nil ?_)
  · exfalso
    have := hF.some_
    simp only [truth_tbl, Bool.or_false] at hb
    rw [this] at hb
    simp at hb
  refine do_cons (wpAny_Return_some ?_)
  refine clsQ (bs := dats [tblD n, tblD T.va, tblD T.vb, tblD z, tblD T.wd, tblD T.nz]) ok tt (Pu.glob ok (by rfl) (by kernel_rfl)) (Pa.cons ok (Pu.name ok (by rfl)) (Pa.cons ok (Pu.name ok (by rfl)) (Pa.cons ok (Pu.name ok (by rfl)) (Pa.cons ok (Pu.name ok (by rfl)) (Pa.cons ok (Pu.name ok (by rfl)) (Pa.cons ok (Pu.name ok (by rfl)) Pa.nil))))))
    fun s10 us t10 g10 a10 hus => ?_
  refine wpAny_mono (makeRun (V := joinV V (frm (callEnvC (fd270 w.params) L 270))) (ok.rm.le (by show 3 ≤ 3; decide)) (t10.fine ok) hus) (fun v s11 ⟨g11, a11, x, dx, vs', e, hx, hdx, j⟩ => ?_) fun _ _ f => f
  subst e
  have up := t10.up.trans (Grow.up g11)
  have gr : Up (uno 175) s.heap s11.heap := ⟨fun p o hp e => up.keep p o (by
    show (uno 175 p || frm (callEnvC (fd270 w.params) L 270) p) = false
    rw [hp, uno175_no nf (Heap.lt_size e)]; rfl) e, up.size⟩
  have hs : s.heap.objs.size ≤ s10.heap.objs.size := t10.up.size
  have t11 := t10.grow ok g11 a11
  refine ⟨gr, t11.sa, t11.j, n, z, hn, hz, x, dx, vs', rfl, Nat.le_trans hs hx, Nat.le_trans hs hdx, j.at_, j.dict, HasAll.less (fun p hp => ?_) j.al⟩
  exact (Bool.or_eq_false_iff.mp hp).1
end Mine
end TW58
section TW59
open PySem PySem.W PyProof.Rows PySem.Calls
set_option Elab.async false
namespace Mine
set_option maxRecDepth 100000
set_option maxHeartbeats 4000000
noncomputable abbrev fd335 (P : Params) : FuncData := funcOf (Fast.tw6825997024590310245 P)
theorem fn335 (P : Params) : FnOk P 335 (fd335 P) (stmtsOf (fd335 P)) := ⟨⟨_, by rfl, by rfl⟩, by decide, by rfl, by rfl, by rfl, by rfl, by rfl, by rfl, by rfl, ⟨_, _, _, _, by rfl, by decide, by rfl, by rfl, by rfl⟩⟩
/-- law's frame -/
noncomputable abbrev lc (w : World) (A : Around) (V W : Vol) (L : Addr) (s₀ : Shared) (ρ : List (PySem.Str × Bnd)) (J : Heap → Prop) : Cx := ⟨6, w, A, V, W, callEnvC (fd335 w.params) L 335, ρ, s₀, J⟩
/-- what law gives in the end -/
def LawQ (P : Params) (s₀ : Shared) : Flow → Shared → Prop := fun f s' => retOf f = .bool true ∧ Up (uno 175) s₀.heap s'.heap ∧ Sa s₀ s' ∧ ∃ m', TabSt lamPos (mq P) m' s'.heap
/-- the places of law -/
structure LA (V W : Vol) (e : Env) (s₀ : Shared) (D D0 : Addr) : Prop where
  wD : W D = true
  wD0 : W D0 = true
  fD : frm e D = false
  fD0 : frm e D0 = false
  w7 : W 175 = true
  f7 : frm e 175 = false
  d7 : D ≠ 175
  d07 : D0 ≠ 175
  new : ∀ a, W a = true → a = 175 ∨ s₀.heap.objs.size ≤ a
def J2 (P : Params) (D D0 c' : Addr) (h : Heap) : Prop := Drw D D0 h ∧ TabSt lamPos (mq P) (some c') h
def J3 (P : Params) (D D0 c' : Addr) (V : Vol) (h₁ : Heap) (h : Heap) : Prop := J2 P D D0 c' h ∧ Up V h₁ h
theorem InsJ.to {V : Vol} {x dx : Addr} {us : List Value} {ds : List PyData} {h₁ h : Heap} (j : InsJ V x dx us ds h₁) (u : Up V h₁ h) (vx : V x = false) (vd : V dx = false) : InsJ V x dx us ds h := j.up u (fun _ e => e) vx vd
theorem LA.two {V W : Vol} {e : Env} {s₀ : Shared} {D D0 : Addr} (l : LA V W e s₀ D D0) {a : Addr} (h : two D D0 a = true) : W a = true ∧ frm e a = false ∧ a ≠ 175 := by
  rcases Bool.or_eq_true_iff.mp h with h | h
  · rw [show a = D by simpa using h]; exact ⟨l.wD, l.fD, l.d7⟩
  · rw [show a = D0 by simpa using h]; exact ⟨l.wD0, l.fD0, l.d07⟩
theorem no_of {F V : Vol} {a : Addr} (h : ∀ b, F b = true → V b = true) (v : V a = false) : F a = false := by
  cases e : F a
  · rfl
  · rw [h a e] at v; cases v
theorem LA.end_ {V W : Vol} {e : Env} {s₀ : Shared} {D D0 : Addr} (l : LA V W e s₀ D D0) {h : Heap} (u : Up W s₀.heap h) : Up (uno 175) s₀.heap h :=
  ⟨fun p o hp q => u.keep p o (by
    cases e : W p
    · rfl
    · rcases l.new p e with rfl | h
      · simp [uno] at hp
      · exact absurd (Heap.lt_size q) (Nat.not_lt.mpr h)) q, u.size⟩
theorem J2.take {P : Params} {D D0 c' : Addr} {V W : Vol} {e : Env} {s₀ : Shared} (l : LA V W e s₀ D D0) (wv : ∀ a, W a = true → V a = true) (vc : V c' = false) {h h' : Heap} (u : Up (two D D0) h h') (j : J2 P D D0 c' h) (d : Drw D D0 h') : J2 P D D0 c' h' :=
  ⟨d, j.2.up u (by
    cases e : two D D0 175
    · rfl
    · exact absurd rfl (l.two e).2.2) fun b hb => by cases hb; exact no_of (fun b hb => wv b (l.two hb).1) vc⟩
theorem J3.take {P : Params} {D D0 c' : Addr} {V W : Vol} {e : Env} {s₀ : Shared} {h₁ : Heap} (l : LA V W e s₀ D D0) (wv : ∀ a, W a = true → V a = true) (vc : V c' = false) {h h' : Heap} (u : Up (two D D0) h h') (j : J3 P D D0 c' V h₁ h) (d : Drw D D0 h') :
    J3 P D D0 c' V h₁ h' := ⟨j.1.take l wv vc u d, j.2.trans (u.le fun b hb => wv b (l.two hb).1)⟩
structure EqFine (T : Tabs) : Prop where
  a : PySem.SeqAt.shaped (.tuple [tblD T.va, tblD T.vb]) = true ∧ PyData.eqv (.tuple [tblD T.va, tblD T.vb]) (.tuple [tblD T.va, tblD T.vb]) = true
  b : PySem.SeqAt.shaped (.tuple [tblD T.wd, tblD T.nz]) = true ∧ PyData.eqv (.tuple [tblD T.wd, tblD T.nz]) (.tuple [tblD T.wd, tblD T.nz]) = true
theorem eq1 : EqFine tabs1 := ⟨⟨by decide +kernel, by decide +kernel⟩, ⟨by decide +kernel, by decide +kernel⟩⟩
theorem eq2 : EqFine tabs2 := ⟨⟨by decide +kernel, by decide +kernel⟩, ⟨by decide +kernel, by decide +kernel⟩⟩
theorem eq3 : EqFine tabs3 := ⟨⟨by decide +kernel, by decide +kernel⟩, ⟨by decide +kernel, by decide +kernel⟩⟩
theorem phase10 {w : World} {A : Around} {V W : Vol} {L : Addr} {s₀ s : Shared} {D D0 c' x dx : Addr} {us : List Value} {h₁ : Heap} {n z : List (Int × Int)} {T : Tabs} {nm : PySem.Str} (l : LA V W (callEnvC (fd335 w.params) L 335) s₀ D D0) (vc : V c' = false) (vx : V x = false) (vd : V dx = false)
    (hI : InsJ V x dx us [tblD n, tblD T.va, tblD T.vb, tblD z, tblD T.wd, tblD T.nz] h₁) (hT : TabsOk w nm T) (hE : EqFine T)
    (ok : (lc w A V W L s₀ [(⟨⟨[115, 101, 101, 110]⟩⟩, .raw (.ref x)), (⟨⟨[107, 110, 111, 119, 110]⟩⟩, .dat (.str nm)), (⟨⟨[100, 114, 97, 119]⟩⟩, .raw (.ref D))] (J3 w.params D D0 c' V h₁)).Ok)
    (t : (lc w A V W L s₀ [(⟨⟨[115, 101, 101, 110]⟩⟩, .raw (.ref x)), (⟨⟨[107, 110, 111, 119, 110]⟩⟩, .dat (.str nm)), (⟨⟨[100, 114, 97, 119]⟩⟩, .raw (.ref D))] (J3 w.params D D0 c' V h₁)).St s) :
    Do (lc w A V W L s₀ [(⟨⟨[115, 101, 101, 110]⟩⟩, .raw (.ref x)), (⟨⟨[107, 110, 111, 119, 110]⟩⟩, .dat (.str nm)), (⟨⟨[100, 114, 97, 119]⟩⟩, .raw (.ref D))] (J3 w.params D D0 c' V h₁)) ((stmtsOf (fd335 w.params)).drop 13) (LawQ w.params s₀) s := by
  have h16 : 1 ≤ 6 := by decide
  have h26 : 2 ≤ 6 := by decide
  refine do_if (b := false) ok t (Te.cmp (b1 := .dat (.tuple [tblD T.va, tblD T.vb])) (b2 := .dat (.tuple [tblD T.va, tblD T.vb])) ok
    (Pu.tup ok (ds := [tblD T.va, tblD T.vb]) (Pa.cons ok (Pu.field (i := 1) ok (Pu.name ok (by rfl)) (fun h j => hI.to j.2 vx vd) (fo1 _) (get243 _) rfl h26 (by decide)) (Pa.cons ok (Pu.field (i := 2) ok (Pu.name ok (by rfl)) (fun h j => hI.to j.2 vx vd) (fo2 _) (get246 _) rfl h26 (by decide)) Pa.nil)) (by simp))
    (Pu.tup ok (ds := [tblD T.va, tblD T.vb]) (Pa.cons ok (Pu.call ok (Pu.glob ok (by rfl) (by kernel_rfl)) (fn330 _) (Pa.cons ok (Pu.glob ok (by rfl) (by kernel_rfl)) (Pa.cons ok (Pu.name ok (by rfl)) (Pa.cons ok Pu.str Pa.nil))) (lawOfFn w 89 (dct89 w) rfl nm ⟨⟨[110, 97, 114, 114, 111, 119, 101, 114]⟩⟩ _ hT.va) h16)
      (Pa.cons ok (Pu.call ok (Pu.glob ok (by rfl) (by kernel_rfl)) (fn330 _) (Pa.cons ok (Pu.glob ok (by rfl) (by kernel_rfl)) (Pa.cons ok (Pu.name ok (by rfl)) (Pa.cons ok Pu.str Pa.nil))) (lawOfFn w 100 (dct100 w) rfl nm ⟨⟨[119, 105, 100, 101, 114]⟩⟩ _ hT.vb) h16) Pa.nil)) (by simp))
    fun s u v t hu hv => by have := cNe ok hu hv hE.a.1 hE.a.1; rw [hE.a.2] at this; exact this) (fun hb => nomatch hb) (fun _ s2 t => do_nil ?_)
  refine do_if (b := false) ok t (Te.cmp (b1 := .dat (.tuple [tblD T.wd, tblD T.nz])) (b2 := .dat (.tuple [tblD T.wd, tblD T.nz])) ok
    (Pu.tup ok (ds := [tblD T.wd, tblD T.nz]) (Pa.cons ok (Pu.field (i := 4) ok (Pu.name ok (by rfl)) (fun h j => hI.to j.2 vx vd) (fo4 _) (get252 _) rfl h26 (by decide)) (Pa.cons ok (Pu.field (i := 5) ok (Pu.name ok (by rfl)) (fun h j => hI.to j.2 vx vd) (fo5 _) (get255 _) rfl h26 (by decide)) Pa.nil)) (by simp))
    (Pu.tup ok (ds := [tblD T.wd, tblD T.nz]) (Pa.cons ok (Pu.call ok (Pu.glob ok (by rfl) (by kernel_rfl)) (fn330 _) (Pa.cons ok (Pu.glob ok (by rfl) (by kernel_rfl)) (Pa.cons ok (Pu.name ok (by rfl)) (Pa.cons ok Pu.str Pa.nil))) (lawOfFn w 121 (dct121 w) rfl nm ⟨⟨[119, 105, 100, 101, 114]⟩⟩ _ hT.wd) h16)
      (Pa.cons ok (Pu.call ok (Pu.glob ok (by rfl) (by kernel_rfl)) (fn330 _) (Pa.cons ok (Pu.glob ok (by rfl) (by kernel_rfl)) (Pa.cons ok (Pu.name ok (by rfl)) (Pa.cons ok Pu.str Pa.nil))) (lawOfFn w 121 (dct121 w) rfl nm ⟨⟨[110, 97, 114, 114, 111, 119, 95, 122, 101, 114, 111, 101, 114]⟩⟩ _ hT.nz) h16) Pa.nil)) (by simp))
    fun s u v t hu hv => by have := cNe ok hu hv hE.b.1 hE.b.1; rw [hE.b.2] at this; exact this) (fun hb => nomatch hb) (fun _ s3 t => do_nil ?_)
  refine do_assign ok t (Ex.sub (P := fun i => -3 ≤ i ∧ i < 6) ok (takeEx (D := D) (D0 := D0) ok (by decide) (by rfl) (Pu.name ok (by rfl)) h16 l.wD l.wD0 l.fD l.fD0 (fun h j => j.1.1) (fun h h' u j d => j.take l ok.wv vc u d)) (Pu.intP ok Pu.int) (fun i j h1 h2 => by subst h2; omega)) (.inl (by rfl)) fun s4 b hb ok t => ?_
  obtain ⟨i, rfl, hi⟩ := hb
  refine do_retP ok t (Pu.cmp (b1 := .dat (.int (clampI i))) (b2 := .dat (if decide (i < 1) = true then .int 1 else (if decide (2 < i) = true then .int 2 else .int i))) (r := true) ok (Pu.call ok (Pu.glob ok (by rfl) (by kernel_rfl)) (fn285 _) (Pa.cons ok (Pu.name ok (by rfl)) Pa.nil) (clampFn w i) h16)
    (Pu.ifE (b := decide (i < 1)) ok (Te.cmp (b1 := .dat (.int i)) (b2 := .dat (.int 1)) ok (Pu.name ok (by rfl)) Pu.int fun s u v t hu hv => cLt hu hv) Pu.int (Pu.ifE (b := decide (2 < i)) ok (Te.cmp (b1 := .dat (.int i)) (b2 := .dat (.int 2)) ok (Pu.name ok (by rfl)) Pu.int fun s u v t hu hv => cGt hu hv) Pu.int (Pu.name ok (by rfl))))
    fun s u v t hu hv => ?_) fun s5 v h t => ?_
  · have e : (if decide (i < 1) = true then PyData.int 1 else if decide (2 < i) = true then PyData.int 2 else PyData.int i) = .int (clampI i) := by
      unfold clampI
      by_cases h1 : i < 1
      · rw [if_pos (decide_eq_true h1), if_pos h1]
      · rw [if_neg (by simpa using h1), if_neg h1]
        by_cases h2 : 2 < i
        · rw [if_pos (decide_eq_true h2), if_pos h2]
        · rw [if_neg (by simpa using h2), if_neg h2]
    rw [e] at hv
    have := cEq ok hu hv (by rfl) (by rfl)
    rw [show PyData.eqv (.int (clampI i)) (.int (clampI i)) = true from by show (_ == _) = true; exact beq_self_eq_true _] at this
    exact this
  · obtain rfl := Dat.bool h
    exact ⟨rfl, l.end_ t.up, t.sa, _, t.j.1.2⟩
end Mine
end TW59
section TW60
open PySem PySem.W PyProof.Rows PySem.Calls
set_option Elab.async false
namespace Mine
set_option maxRecDepth 100000
set_option maxHeartbeats 4000000
section
variable {c : Cx}
/-- arguments that do something -/
def Xa (c : Cx) (es : List PySem.Expr) (P : List Bnd → Prop) : Prop := ∀ s (pos : Pos), c.St s →
  wpAny (model pw c.w) c.A (spliced (backTo pos (starEach es c.env))) (fun vs s' => Up c.V s.heap s'.heap ∧ c.St s' ∧ ∃ bs, P bs ∧ HasAll c.V s'.heap vs bs) (fun _ _ => False) s
theorem Xa.nil : Xa c [] (· = []) := fun s pos t => args_nil ⟨Up.refl, t, [], rfl, trivial⟩
theorem Xa.cons {e : PySem.Expr} {es : List PySem.Expr} {B : Bnd → Prop} {P : List Bnd → Prop} (x : Ex c e B) (y : Xa c es P) (he : starEach (e :: es) c.env = (false, eval e c.env) :: starEach es c.env := by rfl) :
    Xa c (e :: es) (fun l => ∃ b bs, l = b :: bs ∧ B b ∧ P bs) := fun s pos t => by
  refine args_cons (wpAny_mono (x s t) (fun u s1 ⟨u1, t1, b, hb, h1⟩ => ?_) fun _ _ f => f) he
  refine wpAny_mono (y s1 pos t1) (fun v s2 ⟨u2, t2, bs, hbs, h2⟩ => ?_) fun _ _ f => f
  exact ⟨u1.trans u2, t2, b :: bs, ⟨b, bs, rfl, hb, hbs⟩, h1.up u2, h2⟩
theorem Xa.weak {es : List PySem.Expr} {P P' : List Bnd → Prop} (x : Xa c es P) (k : ∀ l, P l → P' l) : Xa c es P' := fun s pos t => wpAny_mono (x s pos t) (fun _ _ ⟨a, b, l, e, h⟩ => ⟨a, b, l, k l e, h⟩) fun _ _ f => f
theorem Ex.callX (ok : c.Ok) {x : PySem.Str} {p pos : Pos} {e : PySem.Expr} {es : List PySem.Expr} {P : List Bnd → Prop} {B : Bnd → Prop} {a : Addr} {n : Nat} {fd : FuncData} {body : List Stmt} {X : Vol} {J : Heap → Prop}
    (hf : Pu c (.Name x p) (.raw (.ref a))) (F : FnOk c.w.params a fd body) (ha : Xa c (e :: es) P) (fn : ∀ bs, P bs → FnE c.w n a bs X J B) (hn : n ≤ c.lv)
    (xw : ∀ a, X a = true → c.W a = true) (xf : ∀ a, X a = true → frm c.env a = false) (jin : ∀ h, c.J h → J h) (jout : ∀ h h', Up X h h' → c.J h → J h' → c.J h')
    (he : starEach (e :: es) c.env = (false, eval e c.env) :: starEach es c.env := by rfl) : Ex c (.Call (.Name x p) (e :: es) [] pos) B := fun s t => by
  refine Call_ (wpAny_mono (hf s t) (fun f s1 ⟨g1, a1, h1⟩ => ?_) fun _ _ f => f)
  obtain rfl : f = .ref a := h1
  obtain ⟨o, ho, hd⟩ := F.ob
  refine callWith_def hd (wpAny_mono (ha s1 pos (t.grow ok g1 a1)) (fun vs s2 ⟨u2, t2, bs, hbs, h2⟩ => ?_) fun _ _ f => f) he
  refine ⟨t2.gl a o F.ne ho, wpAny_mono (fn bs hbs c.A c.V s2 vs (ok.rm.le hn) (t2.fine ok) (fun b e => ok.wv b (xw b e)) h2 (jin _ t2.j)) (fun v s3 ⟨u3, a3, j3, b', hb, h3⟩ => ?_) fun _ _ f => f⟩
  exact ⟨(g1.up.trans u2).trans (u3.le fun b e => ok.wv b (xw b e)), t2.call ok u3 a3 xw xf (jout _ _ u3 t2.j j3), b', hb, h3⟩
theorem Ex.call0 (ok : c.Ok) {x : PySem.Str} {p pos : Pos} {B : Bnd → Prop} {a : Addr} {n : Nat} {fd : FuncData} {body : List Stmt} {X : Vol} {J : Heap → Prop}
    (hf : Pu c (.Name x p) (.raw (.ref a))) (F : FnOk c.w.params a fd body) (fn : FnE c.w n a [] X J B) (hn : n ≤ c.lv)
    (xw : ∀ a, X a = true → c.W a = true) (xf : ∀ a, X a = true → frm c.env a = false) (jin : ∀ h, c.J h → J h) (jout : ∀ h h', Up X h h' → c.J h → J h' → c.J h') : Ex c (.Call (.Name x p) [] [] pos) B := fun s t => by
  refine Call_ (wpAny_mono (hf s t) (fun f s1 ⟨g1, a1, h1⟩ => ?_) fun _ _ f => f)
  obtain rfl : f = .ref a := h1
  obtain ⟨o, ho, hd⟩ := F.ob
  have t1 := t.grow ok g1 a1
  refine callWith_function (o := o) (fd := fd) (args := []) (PyProof.Rows.evalArgs_none ⟨⟨t1.gl a o F.ne ho, hd⟩, wpAny_mono (fn c.A c.V s1 [] (ok.rm.le hn) (t1.fine ok) (fun b e => ok.wv b (xw b e)) trivial (jin _ t1.j)) (fun v s3 ⟨u3, a3, j3, b', hb, h3⟩ => ?_) fun _ _ f => f⟩)
  exact ⟨g1.up.trans (u3.le fun b e => ok.wv b (xw b e)), t1.call ok u3 a3 xw xf (jout _ _ u3 t1.j j3), b', hb, h3⟩
/-- a test that does something -/
def TeX (c : Cx) (e : PySem.Expr) (b : Bool) : Prop := ∀ s, c.St s → wpAny (model pw c.w) c.A (isTrue e c.env (eval e c.env)) (fun b' s' => c.St s' ∧ b' = b) (fun _ _ => False) s
theorem Te.x (ok : c.Ok) {e : PySem.Expr} {b : Bool} (x : Te c e b) : TeX c e b := fun s t => wpAny_mono (x s t) (fun _ _ ⟨g, a, h⟩ => ⟨t.grow ok g a, h⟩) fun _ _ f => f
theorem TeX.not {e : PySem.Expr} {pos : Pos} {b : Bool} (x : TeX c e b) : TeX c (.UnaryOp .Not e pos) (!b) := fun s t => isTrue_not (wpAny_mono (x s t) (fun _ _ ⟨g, h⟩ => ⟨g, by rw [h]⟩) fun _ _ f => f)
theorem TeX.plain (ok : c.Ok) {e : PySem.Expr} {d : PyData} (x : Ex c e (· = .dat d)) (hs : smallD d = true) (he : isTrue e c.env (eval e c.env) = (do let v ← eval e c.env; standAt e.pos; holding [v] (truthy v)) := by rfl) : TeX c e (truthD d) := fun s t =>
  isTrue_plain (wpAny_mono (x s t) (fun v s1 ⟨u1, t1, b, hb, h1⟩ => by
    subst hb
    exact wpAny_mono (truthy_data h1 hs) (fun b s2 ⟨g2, a2, h2⟩ => ⟨t1.grow ok g2 a2, h2⟩) fun _ _ f => f) fun _ _ f => f) he
theorem TeX.cmp (ok : c.Ok) {e1 e2 : PySem.Expr} {op : CmpOp} {pos : Pos} {B1 B2 : Bnd → Prop} {r : Bool} (x : Ex c e1 B1) (y : Ex c e2 B2)
    (h : ∀ s u v b1 b2, c.St s → B1 b1 → B2 b2 → Has c.V s.heap u b1 → Has c.V s.heap v b2 → Pv c s (compareOp op u v) (.dat (.bool r))) (hm : behindInMarks op e2 = false := by with_unfolding_all rfl) : TeX c (.Compare e1 [op] [e2] pos) r := fun s t => by
  refine wpAny_isTrue_Compare1 (wpAny_mono (x s t) (fun u s1 ⟨u1, t1, b1, hb1, h1⟩ => ?_) fun _ _ f => f) hm
  refine wpAny_mono (y s1 t1) (fun v s2 ⟨u2, t2, b2, hb2, h2⟩ => ?_) fun _ _ f => f
  refine wpAny_mono (h s2 u v b1 b2 t2 hb1 hb2 (h1.up u2) h2) (fun r s3 ⟨g3, a3, h3⟩ => ?_) fun _ _ f => f
  obtain rfl := Dat.bool h3
  exact wpAny_truthy_bool ⟨t2.grow ok g3 a3, rfl⟩
def TaX (c : Cx) (es : List PySem.Expr) (b : Bool) : Prop := ∀ s, c.St s → wpAny (model pw c.w) c.A (allTrue .Or es c.env) (fun b' s' => c.St s' ∧ b' = b) (fun _ _ => False) s
theorem TaX.nil : TaX c [] false := fun s t => wpAny_allTrue_Or_nil ⟨t, rfl⟩
theorem TaX.or {e : PySem.Expr} {es : List PySem.Expr} {b : Bool} (x : TeX c e false) (y : TaX c es b) : TaX c (e :: es) b := fun s t =>
  wpAny_allTrue_Or_cons (wpAny_mono (x s t) (fun b s1 ⟨t1, h⟩ => by
    subst h
    exact wpAny_mono (y s1 t1) (fun _ _ ⟨g2, h2⟩ => ⟨g2, h2⟩) fun _ _ f => f) fun _ _ f => f)
theorem TaX.te {es : List PySem.Expr} {pos : Pos} {b : Bool} (x : TaX c es b) : TeX c (.BoolOp .Or es pos) b := fun s t => wpAny_isTrue_BoolOp (x s t)
theorem do_ifF {s : Shared} (t : c.St s) {test : PySem.Expr} {body rest : List Stmt} {pos : Pos} {Q : Flow → Shared → Prop} (h : TeX c test false) (k : ∀ s', c.St s' → Do c rest Q s') : Do c (.If test body [] pos :: rest) Q s := by
  refine do_cons (wpAny_If (wpAny_mono (h s t) (fun v s1 ⟨t1, e⟩ => ?_) fun _ _ f => f))
  subst e
  exact do_nil (k s1 t1)
end
end Mine
end TW60
section TW61
open PySem PySem.W PyProof.Rows PySem.Calls
set_option Elab.async false
namespace Mine
set_option maxRecDepth 100000
set_option maxHeartbeats 4000000
theorem itb_tupB {w : World} {A : Around} {V : Vol} {s : Shared} {a : Addr} {vs : List Value} {bl : List Bnd} (hn : A.handled = none) (hv : V a = false) (l : IsTup s.heap a vs.toArray) (al : HasAll V s.heap vs bl) : Itb w A V s (.ref a) bl.length fun i => bl.getD i (.raw .none) := by
  have len := al.length
  have ha : a < s.heap.objs.size := by obtain ⟨o, e, _⟩ := l; exact Heap.lt_size e
  refine iter_tuple l ⟨s.heap.objs.size, fun i h => IsTupIter h s.heap.objs.size a i ∧ Up V s.heap h, rfl, Grow.push _, ⟨rfl, rfl⟩, Nat.le_refl _, by rw [Heap.size_push]; exact Nat.lt_succ_self _, ?_, ⟨_, Heap.get?_push_size _ rfl, rfl, rfl⟩, (Grow.push _).up⟩
  have hne : a ≠ s.heap.objs.size := Nat.ne_of_lt ha
  have ls : ∀ {h : Heap}, Up V s.heap h → IsTup h a vs.toArray := fun u => let ⟨o, e, r⟩ := l; ⟨o, u.keep _ _ hv e, r⟩
  refine ⟨fun i F h h' hF u ⟨it, uv⟩ => ?_, fun i s1 hi ⟨it, uv⟩ => ?_, fun s1 ⟨it, uv⟩ => ?_, fun i s1 target v Q ⟨it, _⟩ hQ => ?_, fun i s1 Q ⟨it, _⟩ hQ => PySem.wpAny_pyIter_tupleiter it hQ⟩
  · have f1 : F s.heap.objs.size = false := by
      cases e : F s.heap.objs.size
      · rfl
      · exact absurd rfl (hF _ e).2
    refine ⟨let ⟨o, e, r⟩ := it; ⟨o, u.keep _ _ f1 e, r⟩, ⟨fun p o hp e => u.keep p o ?_ (uv.keep p o hp e), Nat.le_trans uv.size u.size⟩⟩
    cases f : F p
    · rfl
    · rcases (hF _ f).1 with q | q
      · rw [q] at hp; cases hp
      · exact absurd (Heap.lt_size e) (Nat.not_lt.mpr (Nat.le_of_lt q))
  · obtain ⟨y, hy, hd⟩ := al.get (i := i) (b := bl[i]'hi) (by simp [hi])
    refine next_tuple_item it (ls uv) (by simpa using hy) fun h' it' sb => ?_
    have u := upBut (V := uno s.heap.objs.size) (by simp [uno]) sb
    have e : bl.getD i (.raw .none) = bl[i]'hi := by rw [List.getD_eq_getElem?_getD, List.getElem?_eq_getElem hi]; rfl
    exact ⟨y, rfl, u, ⟨rfl, rfl⟩, ⟨it', ⟨fun p o hp e => (sb.2 p (Nat.ne_of_lt (Heap.lt_size e))).trans (uv.keep p o hp e), Nat.le_trans uv.size u.size⟩⟩,
      (e ▸ (hasNew (Nat.le_refl _) hd) : Has _ _ _ (bl.getD i (.raw .none))).up ((uv.le fun b hb => joinV_l hb).trans (u.le fun b hb => joinV_r hb))⟩
  · exact wpAny_size (next_tuple_end hn it (ls uv) (by simp [len]) fun h' he hz => ⟨rfl, upExt he hz, ⟨rfl, rfl⟩⟩)
  · obtain ⟨o, ho, hc, _⟩ := it
    exact own_plain hQ ho hc (by decide +kernel)
theorem hasAll_fresh {V : Vol} {h : Heap} : ∀ {vs : List Value} {bs : List Bnd}, HasAll V h vs bs → HasAll (fresh V h) h vs bs
  | [], [], _ => trivial
  | _ :: _, _ :: _, ⟨a, b⟩ => ⟨has_fresh a, hasAll_fresh b⟩
  | [], _ :: _, x => x.elim
  | _ :: _, [], x => x.elim
theorem hitTB {c : Cx} (ok : c.Ok) {es : List PySem.Expr} {k : Nat} {pos : Pos} {bl : List Bnd} (x : Pa c es bl) (hl : bl.length ≤ 2 ^ 20) (s : Shared) (t : c.St s) :
    wpAny (model pw c.w) c.A (eval (.Tuple es k pos) c.env) (fun v s1 => Up c.V s.heap s1.heap ∧ c.St s1 ∧ ∃ n bs, (n = bl.length ∧ bs = fun i => bl.getD i (.raw .none)) ∧ n ≤ 2 ^ 20 ∧ Itb c.w c.A (fresh c.V s1.heap) s1 v n bs) (fun _ _ => False) s := by
  refine wpAny_Tuple (wpAny_mono (x s pos t) (fun vs s1 ⟨g1, a1, h1⟩ => ?_) fun _ _ f => f)
  have hlen := h1.length
  have := sizeLine_eq
  have t1 := t.grow ok g1 a1
  refine ⟨by omega, (g1.trans (Grow.push _)).up, t1.grow (s' := { s1 with heap := s1.heap.push _ }) ok (Grow.push _) ⟨rfl, rfl⟩, _, _, ⟨rfl, rfl⟩, hl, ?_⟩
  refine itb_tupB (s := { s1 with heap := s1.heap.push { cls := .type "tuple", data := .seq vs.toArray } }) ok.rm.hn ?_ ⟨_, Heap.get?_push_size _ rfl, rfl, _, rfl⟩ (hasAll_fresh (h1.up (Grow.push _).up))
  unfold fresh
  rw [t1.vok.new, Bool.false_or]
  refine decide_eq_false ?_
  show ¬ (s1.heap.push _).objs.size ≤ _
  rw [Heap.size_push]; omega
/-- J2 and J3 through changes at the frame and at new places -/
theorem J2.mix {P : Params} {D D0 c' : Addr} {V W F : Vol} {e : Env} {s₀ : Shared} (l : LA V W e s₀ D D0) (wv : ∀ a, W a = true → V a = true) (fw : ∀ a, frm e a = true → W a = true) (vc : V c' = false) {hs h h' : Heap} (js : J2 P D D0 c' hs)
    (hF : ∀ a, F a = true → frm e a = true ∨ hs.objs.size ≤ a) (u : Up F h h') (j : J2 P D D0 c' h) : J2 P D D0 c' h' := by
  have no : ∀ a, frm e a = false → a < hs.objs.size → F a = false := fun a h1 h2 => by
    cases q : F a
    · rfl
    · rcases hF a q with q | q
      · rw [q] at h1; cases h1
      · exact absurd h2 (Nat.not_lt.mpr q)
  obtain ⟨⟨_, ⟨_, _, ⟨_, eD, _⟩, _⟩, _, _, eD0, _⟩, jt⟩ := js
  exact ⟨j.1.up u (no _ l.fD (Heap.lt_size eD)) (no _ l.fD0 (Heap.lt_size eD0)), j.2.up u (no _ l.f7 jt.lt7) fun b hb => by
    cases hb
    exact no _ (no_of (fun a h => wv a (fw a h)) vc) jt.lt⟩
theorem J3.mix {P : Params} {D D0 c' : Addr} {V W F : Vol} {e : Env} {s₀ : Shared} {h₁ : Heap} (l : LA V W e s₀ D D0) (wv : ∀ a, W a = true → V a = true) (fw : ∀ a, frm e a = true → W a = true) (vc : V c' = false) {hs h h' : Heap} (js : J3 P D D0 c' V h₁ hs)
    (hF : ∀ a, F a = true → frm e a = true ∨ hs.objs.size ≤ a) (u : Up F h h') (j : J3 P D D0 c' V h₁ h) : J3 P D D0 c' V h₁ h' :=
  ⟨J2.mix l wv fw vc js.1 hF u j.1, ⟨fun a o va q => u.keep a o (by
    cases f : F a
    · rfl
    · rcases hF a f with f | f
      · rw [wv a (fw a f)] at va; cases va
      · exact absurd (Nat.lt_of_lt_of_le (Heap.lt_size q) js.2.size) (Nat.not_lt.mpr f)) (j.2.keep a o va q), Nat.le_trans j.2.size u.size⟩⟩
end Mine
end TW61
section TW62
open PySem PySem.W PyProof.Rows PySem.Calls
set_option Elab.async false
namespace Mine
set_option maxRecDepth 100000
set_option maxHeartbeats 4000000
abbrev ρ9 (x D : Addr) (nm : PySem.Str) : List (PySem.Str × Bnd) := [(⟨⟨[115, 101, 101, 110]⟩⟩, .raw (.ref x)), (⟨⟨[107, 110, 111, 119, 110]⟩⟩, .dat (.str nm)), (⟨⟨[100, 114, 97, 119]⟩⟩, .raw (.ref D))]
theorem len_flat {α : Type} : ∀ {ts : List (List α)} {q : List α}, q ∈ ts → q.length ≤ ts.flatten.length
  | t :: ts, q, h => by
    rw [List.flatten_cons, List.length_append]
    rcases List.mem_cons.mp h with rfl | h
    · omega
    · have := len_flat h; omega
theorem phase9 {w : World} {A : Around} {V W : Vol} {L : Addr} {s₀ s : Shared} {D D0 c' x dx : Addr} {us : List Value} {h₁ : Heap} {n z : List (Int × Int)} {T : Tabs} {nm : PySem.Str} (l : LA V W (callEnvC (fd335 w.params) L 335) s₀ D D0) (vc : V c' = false) (vx : V x = false) (vd : V dx = false)
    (hI : InsJ V x dx us [tblD n, tblD T.va, tblD T.vb, tblD z, tblD T.wd, tblD T.nz] h₁) (hT : TabsOk w nm T) (hE : EqFine T) (hF : TabsFine T) (hn : MergeOk [T.n0, T.n1, T.n2] n) (hz : MergeOk [T.z0, T.z1, T.z2] z)
    (ok : (lc w A V W L s₀ (ρ9 x D nm) (J3 w.params D D0 c' V h₁)).Ok) (t : (lc w A V W L s₀ (ρ9 x D nm) (J3 w.params D D0 c' V h₁)).St s) :
    Do (lc w A V W L s₀ (ρ9 x D nm) (J3 w.params D D0 c' V h₁)) ((stmtsOf (fd335 w.params)).drop 12) (LawQ w.params s₀) s := by
  have h16 : 1 ≤ 6 := by decide
  have okk := ok
  have h26 : 2 ≤ 6 := by decide
  refine do_for (κ := Unit) (n := 2) (bs := fun i => .dat ([PyData.tuple [.str ⟨⟨[110, 97, 114, 114, 111, 119, 101, 114]⟩⟩, tblD n], .tuple [.str ⟨⟨[122, 101, 114, 111, 101, 114]⟩⟩, tblD z]].getD i .none)) ok (hitT ok t (Pu.tup ok (ds := [.tuple [.str ⟨⟨[110, 97, 114, 114, 111, 119, 101, 114]⟩⟩, tblD n], .tuple [.str ⟨⟨[122, 101, 114, 111, 101, 114]⟩⟩, tblD z]])
    (Pa.cons ok (Pu.tup ok (ds := [.str ⟨⟨[110, 97, 114, 114, 111, 119, 101, 114]⟩⟩, tblD n]) (Pa.cons ok Pu.str (Pa.cons ok (Pu.field (i := 0) ok (Pu.name ok (by rfl)) (fun h j => hI.to j.2 vx vd) (fo0 _) (get240 _) rfl h26 (by decide)) Pa.nil)) (by simp))
      (Pa.cons ok (Pu.tup ok (ds := [.str ⟨⟨[122, 101, 114, 111, 101, 114]⟩⟩, tblD z]) (Pa.cons ok Pu.str (Pa.cons ok (Pu.field (i := 3) ok (Pu.name ok (by rfl)) (fun h j => hI.to j.2 vx vd) (fo3 _) (get249 _) rfl h26 (by decide)) Pa.nil)) (by simp)) Pa.nil)) (by simp)))
    (fun _ => ρ9 x D nm) (fun _ => J3 w.params D D0 c' V h₁) (fun _ _ => True) (fun V' _ F h h' mx u j => ?_) () trivial (fun _ t => t) (fun I K i _ s4 v hi _ wk hI2 hV ok t hv => ?_) (fun _ s5 _ ok t => phase10 l vc vx vd hI hT hE ok t)
  · exact J3.mix l ok.wv ok.fw vc t.j (fun a e => (mx a e).2.imp own_frm id) u j
  obtain ⟨kind, told, t0, t1, t2, o0, o1, o2, mk, hlen, hv'⟩ : ∃ (kind : PySem.Str) (told t0 t1 t2 : List (Int × Int)), OfD w 58 nm kind (tblD t0) ∧ OfD w 62 nm kind (tblD t1) ∧ OfD w 66 nm kind (tblD t2) ∧ MergeOk [t0, t1, t2] told ∧ [t0, t1, t2].flatten.length < 64 ∧
      Dat (joinV V (uno I)) s4.heap v (.tuple [.str kind, tblD told]) := by
    have hc : i = 0 ∨ i = 1 := by omega
    rcases hc with rfl | rfl
    · exact ⟨⟨⟨[110, 97, 114, 114, 111, 119, 101, 114]⟩⟩, n, T.n0, T.n1, T.n2, hT.n0, hT.n1, hT.n2, hn, hF.n.1, hv⟩
    · exact ⟨⟨⟨[122, 101, 114, 111, 101, 114]⟩⟩, z, T.z0, T.z1, T.z2, hT.z0, hT.z1, hT.z2, hz, hF.z.1, hv⟩
  clear hv
  have jo : ∀ h h', Up noX h h' → J3 w.params D D0 c' V h₁ h ∧ K (i + 1) h → noJ h' → J3 w.params D D0 c' V h₁ h' ∧ K (i + 1) h' := fun h h' u j _ => ok.stab h h' (Up.le (F := noX) (fun _ e => by cases e) u) j
  have l3 : ∀ q ∈ [t0, t1, t2], q.length ≤ 2 ^ 10 := fun q hq => Nat.le_trans (len_flat hq) (by omega)
  have mf := mergedFn w [t0, t1, t2] told (by simp) l3 (Nat.le_trans mk.len (by omega)) mk.row mk.has
  refine asg2 ok t hv' (.inr ⟨by rfl, by rfl, by rfl⟩) (.inl (by rfl)) fun s5 ok t => ?_
  refine do_ifF t (TeX.not (b := true) (TeX.plain (d := .bool true) ok (Ex.callX (X := noX) (J := noJ) (P := fun l => l = [.dat (.list ([t0, t1, t2].map tblD)), .dat (tblD told)]) ok (Pu.glob ok (by rfl) (by kernel_rfl)) (fn323 _) ((Xa.cons (Ex.comp (N := fun n bs => n = 3 ∧ bs = fun i => [Bnd.raw (.ref 58), .raw (.ref 62), .raw (.ref 66)].getD i (.raw .none)) (cl := capOf (callEnvC (fd335 w.params) L 335) [⟨⟨[107, 110, 111, 119, 110]⟩⟩, ⟨⟨[107, 105, 110, 100]⟩⟩]) ok (by rfl) (by decide) (by rfl) (by decide) (by rfl) (capOf_is (by rfl)) (by rfl)
      (hitTB ok (bl := [.raw (.ref 58), .raw (.ref 62), .raw (.ref 66)]) (Pa.cons ok (Pu.glob ok (by rfl) (by kernel_rfl)) (Pa.cons ok (Pu.glob ok (by rfl) (by kernel_rfl)) (Pa.cons ok (Pu.glob ok (by rfl) (by kernel_rfl)) Pa.nil))) (by simp))
      [(⟨⟨[107, 105, 110, 100]⟩⟩, .dat (.str kind)), (⟨⟨[107, 110, 111, 119, 110]⟩⟩, .dat (.str nm))] ⟨⟨by rfl, .inl (by rfl), .inl (by rfl), by rfl⟩, ⟨by rfl, .inl (by rfl), .inl (by rfl), by rfl⟩, trivial⟩ (fun _ => ⟨by rfl, by rfl, trivial⟩)
      (fun j ys => ys = ([t0, t1, t2].map tblD).take j) rfl (fun j ys h => by rw [h, List.length_take]; exact Nat.min_le_left _ _) (fun s6 t6 F h h' hFn u j => ?_) (fun n' bs I' D' C' h₂ K' j ys s6 t6 hN hj hk wk' hI' hD' hC' hV' hown ok => ?_))
    (Xa.cons ((Pu.name (b := .dat (tblD told)) ok (by rfl)).ex ok) Xa.nil)).weak fun ll hl => ?_) (fun bs hb => by rw [hb]; exact mf) h26 (fun _ e => by cases e) (fun _ e => by cases e) (fun _ _ => trivial) jo) rfl)) fun s6 t => do_nil ⟨(), trivial, t.sub ⟨by rfl, by rfl, by rfl, trivial⟩⟩
  · exact ⟨J3.mix l okk.wv okk.fw vc t6.j.1 (fun a e => .inr (hFn a e)) u j.1, wk.new (t6.vok I (joinV_r (by simp [uno]))) (i + 1) F hFn h h' u j.2⟩
  · obtain ⟨rfl, hbs⟩ := hN
    have hj' : j < ([t0, t1, t2].map tblD).length := hj
    obtain ⟨O, d, hO, hs, hd, hb, hq⟩ : ∃ (O : Addr) (d : PyData), IsDct w O ∧ (O == sysModules) = false ∧ OfD w O nm kind d ∧ bs j = .raw (.ref O) ∧ ([t0, t1, t2].map tblD)[j]'hj' = d := by
      have hc : j = 0 ∨ j = 1 ∨ j = 2 := by omega
      rw [hbs]
      rcases hc with rfl | rfl | rfl
      · exact ⟨58, _, dct58 w, rfl, o0, rfl, rfl⟩
      · exact ⟨62, _, dct62 w, rfl, o1, rfl, rfl⟩
      · exact ⟨66, _, dct66 w, rfl, o2, rfl, rfl⟩
    rw [hb] at ok ⊢
    refine ⟨true, Tests.nil, ?_⟩
    rw [if_pos rfl]
    refine (Pu.ex ok (Pu.call ok (Pu.glob ok (by rfl) (by kernel_rfl)) (fn330 _) (Pa.cons ok (Pu.name ok (by rfl)) (Pa.cons ok (Pu.name ok (by rfl)) (Pa.cons ok (Pu.name ok (by rfl)) Pa.nil))) (lawOfFn w O hO hs nm kind d hd) h16)).weak fun b e => ⟨d, e, ?_⟩
    rw [hk, List.take_succ_eq_append_getElem hj', hq]
  · obtain ⟨b, bs, rfl, ⟨n', bs', ys, hN, hys, rfl⟩, b2, bs2, rfl, rfl, rfl⟩ := hl
    rw [hys, hN.1]
    rfl
end Mine
end TW62
section TW63
open PySem PySem.W PyProof.Rows PySem.Calls
set_option Elab.async false
namespace Mine
set_option maxRecDepth 100000
set_option maxHeartbeats 4000000
abbrev ρ8 (D : Addr) (nm : PySem.Str) : List (PySem.Str × Bnd) := [(⟨⟨[107, 110, 111, 119, 110]⟩⟩, .dat (.str nm)), (⟨⟨[100, 114, 97, 119]⟩⟩, .raw (.ref D))]
theorem LA.x7 {V W : Vol} {e : Env} {s₀ : Shared} {D D0 : Addr} (l : LA V W e s₀ D D0) : (∀ a, uno 175 a = true → W a = true) ∧ ∀ a, uno 175 a = true → frm e a = false :=
  ⟨fun a h => by rw [show a = 175 by simpa [uno] using h]; exact l.w7, fun a h => by rw [show a = 175 by simpa [uno] using h]; exact l.f7⟩
theorem phase8 {w : World} {A : Around} {V W : Vol} {L : Addr} {s₀ s : Shared} {D D0 c' : Addr} {T : Tabs} {nm : PySem.Str} (l : LA V W (callEnvC (fd335 w.params) L 335) s₀ D D0) (vc : V c' = false)
    (hT : TabsOk w nm T) (hE : EqFine T) (hF : TabsFine T)
    (ok : (lc w A V W L s₀ (ρ8 D nm) (J2 w.params D D0 c')).Ok) (t : (lc w A V W L s₀ (ρ8 D nm) (J2 w.params D D0 c')).St s) :
    Do (lc w A V W L s₀ (ρ8 D nm) (J2 w.params D D0 c')) ((stmtsOf (fd335 w.params)).drop 11) (LawQ w.params s₀) s := by
  have h46 : 4 ≤ 6 := by decide
  refine do_cons (wpAny_Assign_Name ?_ (by rfl))
  obtain ⟨o, ho, hd⟩ := (fn270 w.params).ob
  have pa : Pa (lc w A V W L s₀ (ρ8 D nm) (J2 w.params D D0 c')) [.Name ⟨⟨[107, 110, 111, 119, 110]⟩⟩ ⟨235, 30, 235, 35⟩] [.dat (.str nm)] := Pa.cons ok (Pu.name ok (by rfl)) Pa.nil
  refine Call_ (wpAny_mono (Pu.glob (v := .ref 270) ok (by rfl) (by kernel_rfl) (by decide) s t) (fun f s1 ⟨g1, a1, h1⟩ => ?_) fun _ _ f => f)
  obtain rfl : f = .ref 270 := h1
  have t1 := t.grow ok g1 a1
  refine callWith_def hd (wpAny_mono (pa s1 _ t1) (fun vs s2 ⟨g2, a2, h2⟩ => ?_) fun _ _ f => f)
  have t2 := t1.grow ok g2 a2
  refine ⟨t2.gl 270 o (by decide) ho, wpAny_mono (gtoRun (V := V) (c' := c') (ok.rm.le h46) (t2.fine ok) h2 hT hF t2.j.2) (fun v s3 ⟨u3, a3, j3, n, z, hn, hz, x, dx, us, e, hx, hdx, I⟩ => ?_) fun _ _ f => f⟩
  subst e
  have dr : Drw D D0 s3.heap := t2.j.1.up u3 (uno_ne l.d7) (uno_ne l.d07)
  have t3 := t2.call ok u3 a3 l.x7.1 l.x7.2 (⟨dr, j3⟩ : J2 w.params D D0 c' s3.heap)
  have nv : ∀ {a}, s2.heap.objs.size ≤ a → V a = false := fun {a} h => by
    cases e : V a
    · rfl
    · exact absurd h (Nat.not_le.mpr (t2.vok a e))
  have okJ : (lc w A V W L s₀ (ρ8 D nm) (J3 w.params D D0 c' V s3.heap)).Ok := ok.j fun h h' u j => J3.mix l ok.wv ok.fw vc (hs := s3.heap) ⟨⟨dr, j3⟩, Up.refl⟩ (fun a e => .inl (own_frm e)) u j
  have tJ : (lc w A V W L s₀ (ρ8 D nm) (J3 w.params D D0 c' V s3.heap)).St s3 := ⟨t3.gl, t3.vok, t3.fr, t3.up, t3.sa, ⟨t3.j, Up.refl⟩⟩
  exact wpAny_mono (store (x := ⟨⟨[115, 101, 101, 110]⟩⟩) (b := .raw (.ref x)) okJ tJ rfl (.inl (by rfl))) (fun _ s4 ⟨t4, _, _⟩ => phase9 l vc (nv hx) (nv hdx) I hT hE hF hn hz (okJ.put _ _) t4) fun _ _ f => f
end Mine
end TW63
section TW64
open PySem PySem.W PyProof.Rows PySem.Calls
set_option Elab.async false
namespace Mine
set_option maxRecDepth 100000
set_option maxHeartbeats 4000000
theorem strs_are {V : Vol} {h : Heap} : ∀ {vs : List Value} {ss : List PySem.Str}, HasAll V h vs (dats (ss.map .str)) → StrsAre vs ss
  | [], [], _ => .nil
  | v :: vs, x :: ss, ⟨a, b⟩ => by
    obtain ⟨t, rfl⟩ := Dat.str a
    exact .cons x t (strs_are b)
  | [], _ :: _, x => x.elim
  | _ :: _, [], x => x.elim
section
variable {c : Cx}
theorem Pu.addS (ok : c.Ok) {e1 e2 : PySem.Expr} {pos : Pos} {x y : PySem.Str} (p : Pd c e1 (.str x)) (q : Pd c e2 (.str y)) (hl : x.length + y.length ≤ 2 ^ 20) : Pd c (.BinOp e1 .Add e2 pos) (.str (x ++ y)) :=
  Pu.bin ok p q fun s u v t hu hv => by
    obtain ⟨_, rfl⟩ := Dat.str hu; obtain ⟨_, rfl⟩ := Dat.str hv
    exact P.add_str (PySem.SB.post_add (by have := sizeLine_eq; omega) fun _ _ => ⟨Grow.refl, ⟨rfl, rfl⟩, hasStr ..⟩)
theorem cNotInT (ok : c.Ok) {d : PyData} {ds : List PyData} {s : Shared} {u v : Value} (hu : Dat c.V s.heap u d) (hv : Dat c.V s.heap v (.tuple ds)) (l1 : PyData.canLayAll0 ds = true) (l2 : PySem.SeqAt.shaped d = true) :
    Pv c s (compareOp .NotIn u v) (.dat (.bool (!ds.any fun y => PyData.eqv y d))) := by
  obtain ⟨_, r1⟩ := Has.reads hu; obtain ⟨_, r2⟩ := Has.reads hv
  refine PySem.SeqAt.notIn_tuple_reads r2 r1 l1 (PySem.SeqAt.canLay_of_shaped l2) ?_ ⟨Grow.refl, ⟨rfl, rfl⟩, hasBool ..⟩
  have h1 := PySem.SeqAt.depth_of_shaped l2
  have h2 : min (PyData.depthAll ds) d.depth ≤ d.depth := Nat.min_le_right _ _
  have := ok.rm.units
  have : cLine = 9900 := rfl
  omega
theorem Pu.listT (ok : c.Ok) {x : PySem.Str} {p pos : Pos} {e : PySem.Expr} {ds : List PyData} (hf : Pu c (.Name x p) (.raw (.type "list"))) (y : Pd c e (.tuple ds)) (hl : ds.length ≤ 2 ^ 20) (he : starEach [e] c.env = (false, eval e c.env) :: starEach [] c.env := by rfl) :
    Pd c (.Call (.Name x p) [e] [] pos) (.list ds) :=
  Pu.tcall ok hf (Pa.cons ok y Pa.nil he) (fun s vs t hv => by
    obtain ⟨v, rfl, h⟩ := Has1 hv
    obtain ⟨a, us, rfl, hV, ⟨o, ho, hc, n, hd⟩, al, len⟩ := Dat.tuple h
    have := sizeLine_eq
    refine wpAny_size (call_list_seq a (.inr rfl) ho hc hd (fun h' c' hk hn hz => ?_) (by rw [List.size_toArray]; omega))
    have g : Grow s.heap h' := ⟨fun b o _ e => hk b o e, hz⟩
    exact ⟨g, ⟨rfl, rfl⟩, (⟨rfl, t.vok.new, ⟨_, hn, rfl, _, rfl⟩, al.up g.up, len⟩ : LstD c.V h' _ ds _ us).dat⟩) he
theorem Pu.sorted5 (ok : c.Ok) {x : PySem.Str} {p pos : Pos} {e : PySem.Expr} (hf : Pu c (.Name x p) (.raw (.builtin "sorted"))) (y : Pd c e (.tuple (names5.map .str))) (he : starEach [e] c.env = (false, eval e c.env) :: starEach [] c.env := by rfl) :
    Pd c (.Call (.Name x p) [e] [] pos) (.list (names5.map .str)) :=
  Pu.bcall ok hf (Pa.cons ok y Pa.nil he) (fun s vs t hv => by
    obtain ⟨v, rfl, h⟩ := Has1 hv
    obtain ⟨a, us, rfl, hV, ⟨o, ho, hc, n, hd⟩, al, len⟩ := Dat.tuple h
    have := sizeLine_eq
    have l5 : us.length = 5 := len
    refine sortedC (ss := names5) (by decide) (wpAny_size (wpAny_collect_seq (hsz := by rw [List.size_toArray]; omega) a (.inr rfl) ho hc hd fun h' hk hz => ⟨⟨fun b o _ e => hk b o e, hz⟩, ⟨rfl, rfl⟩, names5, ?_, .refl _⟩)) fun D s6 out ss' e g6 a6 h1 h2 h3 h4 hD => ?_
    · exact strs_are al
    · have hss := Mine.sorted5 h2 h3
      subst hss
      have nv : c.V D = false := by
        cases e : c.V D
        · rfl
        · exact absurd hD (Nat.not_le.mpr (t.vok _ e))
      exact ⟨g6, a6, (⟨rfl, nv, ⟨_, h4, rfl, _, rfl⟩, strs_has h1, by rw [h1.length, List.length_map]⟩ : LstD c.V s6.heap _ _ _ out).dat⟩) he
end
/-- a listed name, and the terminal that it leads to -/
def Leads (name nm : PySem.Str) : Prop := (name, nm) ∈ [(x1, x1), (x2, x2), (x3, x3), (xg, x1), (xk, x2)]
def noSuch : PySem.Str := ⟨⟨[110, 111, 32, 115, 117, 99, 104, 32]⟩⟩
def up (b : Bool) (x : PySem.Str) : PySem.Str := if b then Txt.upper x else x
def pad0 (b : Bool) : PySem.Str := if b then ⟨⟨[32]⟩⟩ else ⟨⟨[]⟩⟩
def pad1 (b : Bool) : PySem.Str := if b then ⟨⟨[32, 32]⟩⟩ else ⟨⟨[]⟩⟩
def written (a b d : Bool) (name : PySem.Str) : PySem.Str := pad0 a ++ up b name ++ pad1 d
end Mine
end TW64
section TW65
open PySem PySem.W PyProof.Rows PySem.Calls
set_option Elab.async false
namespace Mine
set_option maxRecDepth 100000
set_option maxHeartbeats 4000000
theorem cn1 (P : Params) : canonOf P x1 = x1 := by kernel_rfl
theorem cn2 (P : Params) : canonOf P x2 = x2 := by kernel_rfl
theorem cn3 (P : Params) : canonOf P x3 = x3 := by kernel_rfl
theorem ns1 (P : Params) : isKnown (canonOf P (noSuch ++ x1)) = false := by kernel_rfl
theorem ns2 (P : Params) : isKnown (canonOf P (noSuch ++ x2)) = false := by kernel_rfl
theorem ns3 (P : Params) : isKnown (canonOf P (noSuch ++ x3)) = false := by kernel_rfl
theorem nsg (P : Params) : isKnown (canonOf P (noSuch ++ xg)) = false := by kernel_rfl
theorem nsk (P : Params) : isKnown (canonOf P (noSuch ++ xk)) = false := by kernel_rfl
theorem wr1 (P : Params) (a b d : Bool) : canonOf P (written a b d x1) = x1 := by cases a <;> cases b <;> cases d <;> kernel_rfl
theorem wr2 (P : Params) (a b d : Bool) : canonOf P (written a b d x2) = x2 := by cases a <;> cases b <;> cases d <;> kernel_rfl
theorem wr3 (P : Params) (a b d : Bool) : canonOf P (written a b d x3) = x3 := by cases a <;> cases b <;> cases d <;> kernel_rfl
theorem wrg (P : Params) (a b d : Bool) : canonOf P (written a b d xg) = x1 := by cases a <;> cases b <;> cases d <;> kernel_rfl
theorem wrk (P : Params) (a b d : Bool) : canonOf P (written a b d xk) = x2 := by cases a <;> cases b <;> cases d <;> kernel_rfl
theorem ln5 : ∀ x ∈ names5, (x.length ≠ 0 ∧ x.length ≤ 64 ∧ (Txt.lower (Txt.strip x)).length ≤ 64 ∧ (noSuch ++ x).length ≠ 0 ∧ (noSuch ++ x).length ≤ 64 ∧ (Txt.lower (Txt.strip (noSuch ++ x))).length ≤ 64 ∧ (Txt.upper x).length ≤ 64) := by decide +kernel
theorem lnw : ∀ x ∈ names5, ∀ a b d : Bool, (written a b d x).length ≠ 0 ∧ (written a b d x).length ≤ 64 ∧ (Txt.lower (Txt.strip (written a b d x))).length ≤ 64 ∧ (pad0 a).length + (up b x).length ≤ 64 ∧ (pad0 a ++ up b x).length + (pad1 d).length ≤ 64 := by decide +kernel
structure LeadsOk (P : Params) (name nm : PySem.Str) : Prop where
  mem : name ∈ names5
  memk : nm ∈ names5
  canon : canonOf P nm = nm
  known : isKnown nm = true
  no : isKnown (canonOf P (noSuch ++ name)) = false
  wr : ∀ a b d, canonOf P (written a b d name) = nm
  ln : nm.length ≠ 0 ∧ nm.length ≤ 64 ∧ (Txt.lower (Txt.strip nm)).length ≤ 64
  three : nm = x1 ∨ nm = x2 ∨ nm = x3
theorem leads_ok (P : Params) : ∀ name ∈ names5, ∃ nm, LeadsOk P name nm := fun name h => by
  simp only [names5, List.mem_cons, List.not_mem_nil, or_false] at h
  have m1 : x1 ∈ names5 := by simp [names5]
  have m2 : x2 ∈ names5 := by simp [names5]
  have m3 : x3 ∈ names5 := by simp [names5]
  have mg : xg ∈ names5 := by simp [names5]
  have mk : xk ∈ names5 := by simp [names5]
  rcases h with rfl | rfl | rfl | rfl | rfl
  · exact ⟨x1, m1, m1, cn1 P, by decide +kernel, ns1 P, wr1 P, by decide +kernel, .inl rfl⟩
  · exact ⟨x2, m2, m2, cn2 P, by decide +kernel, ns2 P, wr2 P, by decide +kernel, .inr (.inl rfl)⟩
  · exact ⟨x3, m3, m3, cn3 P, by decide +kernel, ns3 P, wr3 P, by decide +kernel, .inr (.inr rfl)⟩
  · exact ⟨x1, mg, m1, cn1 P, by decide +kernel, nsg P, wrg P, by decide +kernel, .inl rfl⟩
  · exact ⟨x2, mk, m2, cn2 P, by decide +kernel, nsk P, wrk P, by decide +kernel, .inr (.inl rfl)⟩
end Mine
end TW65
section TW66
open PySem PySem.W PyProof.Rows PySem.Calls
set_option Elab.async false
namespace Mine
set_option maxRecDepth 100000
set_option maxHeartbeats 4000000
theorem Cx.Ok.rho {c : Cx} (ok : c.Ok) {ρ : List (PySem.Str × Bnd)} : ({ c with ρ := ρ } : Cx).Ok := ⟨ok.fn, ok.gb, ok.bi, ok.rm, ok.fw, ok.wv, ok.stab, ok.lc, ok.ap, ok.old, ok.vtab⟩
abbrev ρ7 (D : Addr) (nm name : PySem.Str) : List (PySem.Str × Bnd) := [(⟨⟨[107, 110, 111, 119, 110]⟩⟩, .dat (.str nm)), (⟨⟨[110, 97, 109, 101]⟩⟩, .dat (.str name)), (⟨⟨[110, 97, 109, 101, 115]⟩⟩, .dat (.tuple (names5.map .str))), (⟨⟨[100, 114, 97, 119]⟩⟩, .raw (.ref D))]
theorem in5 : ∀ nm ∈ names5, (!(names5.map PyData.str).any fun y => PyData.eqv y (.str nm)) = false := by decide +kernel
theorem shN : ∀ nm ∈ names5, PySem.SeqAt.shaped (.str nm) = true := by decide +kernel
theorem eqS (x : PySem.Str) : PyData.eqv (.str x) (.str x) = true := by show (_ == _) = true; exact beq_self_eq_true _
theorem sh5 : PySem.SeqAt.shaped (.list (names5.map .str)) = true ∧ PyData.eqv (.list (names5.map .str)) (.list (names5.map .str)) = true ∧ PyData.canLayAll0 (names5.map .str) = true := by decide +kernel
theorem phase7 {w : World} {A : Around} {V W : Vol} {L : Addr} {s₀ s : Shared} {D D0 c' : Addr} {T : Tabs} {nm name : PySem.Str} (l : LA V W (callEnvC (fd335 w.params) L 335) s₀ D D0) (vc : V c' = false) (hL : LeadsOk w.params name nm)
    (hT : TabsOk w nm T) (hE : EqFine T) (hF : TabsFine T)
    (ok : (lc w A V W L s₀ (ρ7 D nm name) (J2 w.params D D0 c')).Ok) (t : (lc w A V W L s₀ (ρ7 D nm name) (J2 w.params D D0 c')).St s) :
    Do (lc w A V W L s₀ (ρ7 D nm name) (J2 w.params D D0 c')) ((stmtsOf (fd335 w.params)).drop 9) (LawQ w.params s₀) s := by
  have h16 : 1 ≤ 6 := by decide
  have sh := shN nm hL.memk
  have rf : Fn w 1 278 [.dat (.str nm)] (.dat (.str nm)) := by
    have := resFn w nm hL.ln.1 (Nat.le_trans hL.ln.2.1 (by decide)) (Nat.le_trans hL.ln.2.2 (by decide))
    rw [hL.canon, hL.known] at this
    exact this
  obtain ⟨_, _, _, m4, m5, m6, _⟩ := ln5 name hL.mem
  have rn : Fn w 1 278 [.dat (.str (noSuch ++ name))] (.dat .none) := by
    have := resFn w (noSuch ++ name) m4 (Nat.le_trans m5 (by decide)) (Nat.le_trans m6 (by decide))
    rw [hL.no] at this
    exact this
  have r0 : Fn w 1 278 [.dat (.str ⟨⟨[]⟩⟩)] (.dat .none) := resNone w _ (by rfl) (by rfl)
  have rF : Fn w 1 278 [.dat (.bool false)] (.dat .none) := resNone w _ rfl rfl
  have hn8 : noSuch.length + name.length ≤ 2 ^ 20 := by
    have h1 : name.length ≤ 64 := (ln5 name hL.mem).2.1
    have h2 : noSuch.length = 8 := by rfl
    omega
  refine do_if (b := false) ok t (Ta.te (Ta.orF ok (Te.cmp (b1 := .dat (.str nm)) (b2 := .dat .none) ok (Pu.name ok (by rfl)) Pu.none fun s u v t hu hv => cIs hu hv)
    (Ta.orF ok (Te.cmp (b1 := .dat (.str nm)) (b2 := .dat (.tuple (names5.map .str))) ok (Pu.name ok (by rfl)) (Pu.name ok (by rfl)) fun s u v t hu hv => in5 nm hL.memk ▸ cNotInT ok hu hv sh5.2.2 sh)
    (Ta.orF ok (Te.cmp (b1 := .dat (.str nm)) (b2 := .dat (.str nm)) ok (Pu.call ok (Pu.glob ok (by rfl) (by kernel_rfl)) (fn278 _) (Pa.cons ok (Pu.name ok (by rfl)) Pa.nil) rf h16) (Pu.name ok (by rfl)) fun s u v t hu hv => ?_)
    (Ta.orF ok (Te.cmp (b1 := .dat (.list (names5.map .str))) (b2 := .dat (.list (names5.map .str))) ok (Pu.listT ok (Pu.blt ok (by rfl) (by kernel_rfl) (by kernel_rfl)) (Pu.name ok (by rfl)) (by decide)) (Pu.sorted5 ok (Pu.blt ok (by rfl) (by kernel_rfl) (by kernel_rfl)) (Pu.name ok (by rfl))) fun s u v t hu hv => ?_)
    Ta.orNil))))) (fun hb => nomatch hb) (fun _ s2 t => do_nil ?_)
  · have := cNe ok hu hv sh sh
    rw [eqS nm] at this
    exact this
  · have := cNe ok hu hv sh5.1 sh5.1
    rw [sh5.2.1] at this
    exact this
  refine do_if (b := false) ok t (Ta.te (Ta.orF ok (Te.cmp (b1 := .dat .none) (b2 := .dat .none) ok (Pu.call ok (Pu.glob ok (by rfl) (by kernel_rfl)) (fn278 _) (Pa.cons ok (Pu.addS (x := noSuch) (y := name) ok Pu.str (Pu.name ok (by rfl)) hn8) Pa.nil) rn h16) Pu.none fun s u v t hu hv => cIsNot hu hv)
    (Ta.orF ok (Te.cmp (b1 := .dat .none) (b2 := .dat .none) ok (Pu.call ok (Pu.glob ok (by rfl) (by kernel_rfl)) (fn278 _) (Pa.cons ok Pu.str Pa.nil) r0 h16) Pu.none fun s u v t hu hv => cIsNot hu hv)
    (Ta.orF ok (Te.cmp (b1 := .dat .none) (b2 := .dat .none) ok (Pu.call ok (Pu.glob ok (by rfl) (by kernel_rfl)) (fn278 _) (Pa.cons ok Pu.bool Pa.nil) rF h16) Pu.none fun s u v t hu hv => cIsNot hu hv)
    Ta.orNil)))) (fun hb => nomatch hb) (fun _ s3 t => do_nil ?_)
  exact phase8 l vc hT hE hF ok.rho (t.sub ⟨by rfl, by rfl, trivial⟩)
end Mine
end TW66
section TW67
open PySem PySem.W PyProof.Rows PySem.Calls
set_option Elab.async false
namespace Mine
set_option maxRecDepth 100000
set_option maxHeartbeats 4000000
theorem seqIxJ {k : Int} {n : Nat} (h0 : 0 ≤ k) (h1 : k < n) : seqIndex? k n = some k.toNat := by
  unfold seqIndex?
  simp only [show ¬ (k < 0) by omega, if_false]
  rw [if_pos (by simp; omega)]
section
variable {c : Cx}
theorem Ex.subT (_ok : c.Ok) {e i : PySem.Expr} {pos : Pos} {ds : List PyData} (x : Pd c e (.tuple ds)) (y : Ex c i (intP fun k => 0 ≤ k ∧ k < ds.length)) (hl : ds.length ≤ 2 ^ 20) (hs : IxForm i := by intro _ _ _; with_unfolding_all rfl) :
    Ex c (.Subscript e i pos) (fun b => ∃ d ∈ ds, b = .dat d) := fun s t => by
  refine Subscript_ (wpAny_mono (x s t) (fun u s1 ⟨g1, a1, h1⟩ => wpAny_mono (y s1 (t.grow _ok g1 a1)) (fun v s2 ⟨u2, t2, b, hb, h2⟩ => ?_) fun _ _ f => f) fun _ _ f => f)
  obtain ⟨k, rfl, h0, hk⟩ := hb
  obtain ⟨_, rfl⟩ := Dat.int h2
  obtain ⟨a, vs, p⟩ := Dat.tuple (h1.up u2)
  obtain ⟨rfl, _, l, al, len⟩ := p
  have hlt : k.toNat < ds.length := by omega
  obtain ⟨r, hr, hd⟩ := al.get (i := k.toNat) (b := .dat ds[k.toNat]) (by simp [hlt])
  exact tail_any l.typeIs slot_tuple_getitem.lookup (getItem_tuple l (by omega) (by omega) (by rw [List.size_toArray, len]; exact seqIxJ h0 hk) (by simpa using hr) ⟨g1.up.trans u2, t2, _, ⟨_, List.getElem_mem hlt, rfl⟩, hd⟩) (hs _ _ _)
theorem Ex.subL (_ok : c.Ok) {e i : PySem.Expr} {pos : Pos} {ds : List PyData} (x : Pd c e (.list ds)) (y : Ex c i (intP fun k => 0 ≤ k ∧ k < ds.length)) (hl : ds.length ≤ 2 ^ 20) (hs : IxForm i := by intro _ _ _; with_unfolding_all rfl) :
    Ex c (.Subscript e i pos) (fun b => ∃ d ∈ ds, b = .dat d) := fun s t => by
  refine Subscript_ (wpAny_mono (x s t) (fun u s1 ⟨g1, a1, h1⟩ => wpAny_mono (y s1 (t.grow _ok g1 a1)) (fun v s2 ⟨u2, t2, b, hb, h2⟩ => ?_) fun _ _ f => f) fun _ _ f => f)
  obtain ⟨k, rfl, h0, hk⟩ := hb
  obtain ⟨_, rfl⟩ := Dat.int h2
  obtain ⟨a, vs, p⟩ := Dat.list (h1.up u2)
  obtain ⟨rfl, _, l, al, len⟩ := p
  have hlt : k.toNat < ds.length := by omega
  obtain ⟨r, hr, hd⟩ := al.get (i := k.toNat) (b := .dat ds[k.toNat]) (by simp [hlt])
  exact tail_any l.typeIs slot_list_getitem.lookup (wpAny_getItem_list l h0 (by omega) (by simpa using hr) ⟨g1.up.trans u2, t2, _, ⟨_, List.getElem_mem hlt, rfl⟩, hd⟩) (hs _ _ _)
def TeU (c : Cx) (e : PySem.Expr) : Prop := ∀ s, c.St s → wpAny (model pw c.w) c.A (isTrue e c.env (eval e c.env)) (fun _ s' => Up c.V s.heap s'.heap ∧ c.St s') (fun _ _ => False) s
theorem TeU.cmp (ok : c.Ok) {e1 e2 : PySem.Expr} {op : CmpOp} {pos : Pos} {B1 B2 : Bnd → Prop} (x : Ex c e1 B1) (y : Ex c e2 B2)
    (h : ∀ s u v b1 b2, c.St s → B1 b1 → B2 b2 → Has c.V s.heap u b1 → Has c.V s.heap v b2 → ∃ r, Pv c s (compareOp op u v) (.dat (.bool r))) (hm : behindInMarks op e2 = false := by with_unfolding_all rfl) : TeU c (.Compare e1 [op] [e2] pos) := fun s t => by
  refine wpAny_isTrue_Compare1 (wpAny_mono (x s t) (fun u s1 ⟨u1, t1, b1, hb1, h1⟩ => ?_) fun _ _ f => f) hm
  refine wpAny_mono (y s1 t1) (fun v s2 ⟨u2, t2, b2, hb2, h2⟩ => ?_) fun _ _ f => f
  obtain ⟨r, hr⟩ := h s2 u v b1 b2 t2 hb1 hb2 (h1.up u2) h2
  refine wpAny_mono hr (fun r s3 ⟨g3, a3, h3⟩ => ?_) fun _ _ f => f
  obtain rfl := Dat.bool h3
  exact wpAny_truthy_bool ⟨(u1.trans u2).trans g3.up, t2.grow ok g3 a3⟩
theorem Ex.ifU {t e f : PySem.Expr} {pos : Pos} {B : Bnd → Prop} (x : TeU c t) (y : Ex c e B) (z : Ex c f B) : Ex c (.IfExp t e f pos) B := fun s st =>
  wpAny_IfExp (wpAny_mono (x s st) (fun v s1 ⟨u, t1⟩ => by
    cases v
    · exact wpAny_mono (z s1 t1) (fun _ _ ⟨u2, h⟩ => ⟨u.trans u2, h⟩) fun _ _ f => f
    · exact wpAny_mono (y s1 t1) (fun _ _ ⟨u2, h⟩ => ⟨u.trans u2, h⟩) fun _ _ f => f) fun _ _ f => f)
def strP (P : PySem.Str → Prop) : Bnd → Prop := fun b => ∃ x : PySem.Str, b = .dat (.str x) ∧ P x
theorem Ex.addS (ok : c.Ok) {e1 e2 : PySem.Expr} {pos : Pos} {P1 P2 P : PySem.Str → Prop} (x : Ex c e1 (strP P1)) (y : Ex c e2 (strP P2)) (k : ∀ i j, P1 i → P2 j → i.length + j.length ≤ 2 ^ 20 ∧ P (i ++ j)) : Ex c (.BinOp e1 .Add e2 pos) (strP P) :=
  Ex.bin ok x y fun s u v b1 b2 t h1 h2 hu hv => by
    obtain ⟨i, rfl, p1⟩ := h1
    obtain ⟨j, rfl, p2⟩ := h2
    obtain ⟨hl, hp⟩ := k i j p1 p2
    obtain ⟨_, rfl⟩ := Dat.str hu; obtain ⟨_, rfl⟩ := Dat.str hv
    exact PySem.P.add_str (PySem.SB.post_add (by have := sizeLine_eq; omega) fun _ n => ⟨Up.refl, t.grow (s' := { s with toks := n }) ok Grow.refl ⟨rfl, rfl⟩, _, ⟨_, rfl, hp⟩, hasStr ..⟩)
end
end Mine
end TW67
section TW68
open PySem PySem.W PyProof.Rows PySem.Calls
set_option Elab.async false
namespace Mine
set_option maxRecDepth 100000
set_option maxHeartbeats 4000000
abbrev ρ6 (D : Addr) : List (PySem.Str × Bnd) := [(⟨⟨[100, 114, 97, 119]⟩⟩, .raw (.ref D))]
theorem tabs_of (w : World) {nm : PySem.Str} (h : nm = x1 ∨ nm = x2 ∨ nm = x3) : ∃ T, TabsOk w nm T ∧ EqFine T ∧ TabsFine T := by
  rcases h with rfl | rfl | rfl
  · exact ⟨_, tabs1_ok w, eq1, fine1⟩
  · exact ⟨_, tabs2_ok w, eq2, fine2⟩
  · exact ⟨_, tabs3_ok w, eq3, fine3⟩
theorem phase6 {w : World} {A : Around} {V W : Vol} {L : Addr} {s₀ s : Shared} {D D0 c' : Addr} (l : LA V W (callEnvC (fd335 w.params) L 335) s₀ D D0) (vc : V c' = false)
    (ok : (lc w A V W L s₀ (ρ6 D) (J2 w.params D D0 c')).Ok) (t : (lc w A V W L s₀ (ρ6 D) (J2 w.params D D0 c')).St s) :
    Do (lc w A V W L s₀ (ρ6 D) (J2 w.params D D0 c')) ((stmtsOf (fd335 w.params)).drop 6) (LawQ w.params s₀) s := by
  have h16 : 1 ≤ 6 := by decide
  have jo : ∀ h h', Up noX h h' → J2 w.params D D0 c' h → noJ h' → J2 w.params D D0 c' h' := fun h h' u j _ => ok.stab h h' (Up.le (F := noX) (fun _ e => by cases e) u) j
  have xw : ∀ a, two D D0 a = true → W a = true := fun a h => (l.two h).1
  have xf : ∀ a, two D D0 a = true → frm (callEnvC (fd335 w.params) L 335) a = false := fun a h => (l.two h).2.1
  have jt : ∀ h h', Up (two D D0) h h' → J2 w.params D D0 c' h → Drw D D0 h' → J2 w.params D D0 c' h' := fun h h' u j d => j.take l ok.wv vc u d
  refine do_assign ok t (Ex.call0 (X := noX) (J := noJ) ok (Pu.glob ok (by rfl) (by kernel_rfl)) (fn173 _) (listFn w) h16 (fun _ e => by cases e) (fun _ e => by cases e) (fun _ _ => trivial) jo) (.inl (by rfl)) fun s2 b hb ok t => ?_
  subst hb
  refine do_assign ok t (Ex.subT (ds := names5.map .str) ok (Pu.name ok (by rfl)) ((Ex.call (X := two D D0) (J := Drw D D0) ok (Pu.glob ok (by rfl) (by kernel_rfl)) (fn297 _) (Pa.cons ok (Pu.name ok (by rfl)) (Pa.cons ok (Pu.len_tup (ds := names5.map .str) ok (Pu.blt ok (by rfl) (by kernel_rfl) (by kernel_rfl)) (Pu.name ok (by rfl)) (by decide)) Pa.nil))
    (takeFn w D D0 ((names5.map PyData.str).length : Nat) (by decide)) h16 xw xf (fun h j => j.1) jt).weak fun b hb => hb) (by decide)) (.inl (by rfl)) fun s3 b hb ok t => ?_
  obtain ⟨d, hd, rfl⟩ := hb
  obtain ⟨name, hm, rfl⟩ := List.mem_map.mp hd
  obtain ⟨nm, hL⟩ := leads_ok w.params name hm
  obtain ⟨T, hT, hE, hF⟩ := tabs_of w hL.three
  have hup : (Txt.upper name).length ≤ 64 := (ln5 name hm).2.2.2.2.2.2
  refine do_assign ok t (Ex.callX (X := noX) (J := noJ) (P := fun l => ∃ a b d, l = [.dat (.str (written a b d name))]) (B := (· = .dat (.str nm))) ok (Pu.glob ok (by rfl) (by kernel_rfl)) (fn278 _) ((Xa.cons
    (Ex.addS (P1 := fun i => ∃ a b, i = pad0 a ++ up b name) (P2 := fun j => ∃ d, j = pad1 d) (P := fun i => ∃ a b d, i = written a b d name) ok
      (Ex.addS (P1 := fun i => ∃ a, i = pad0 a) (P2 := fun j => ∃ b, j = up b name) ok
        ((Ex.subL (ds := [.str ⟨⟨[]⟩⟩, .str ⟨⟨[32]⟩⟩]) ok (Pu.lst ok (Pa.cons ok Pu.str (Pa.cons ok Pu.str Pa.nil)) (by decide)) ((takeEx (D := D) (D0 := D0) ok (by decide) (by rfl) (Pu.name ok (by rfl)) h16 l.wD l.wD0 l.fD l.fD0 (fun h j => j.1) jt).weak fun b hb => hb) (by decide)).weak fun b hb => ?_)
        (Ex.ifU (TeU.cmp ok (takeEx (D := D) (D0 := D0) ok (by decide) (by rfl) (Pu.name ok (by rfl)) h16 l.wD l.wD0 l.fD l.fD0 (fun h j => j.1) jt) (Pu.intP ok Pu.int) (fun s u v b1 b2 t h1 h2 hu hv => ?_))
          ((Pu.ex ok (Pu.upper ok (Pu.name (b := .dat (.str name)) ok (by rfl)) (Nat.le_trans hup (by decide)))).weak fun b hb => ⟨_, hb, true, rfl⟩) ((Pu.ex ok (Pu.name (b := .dat (.str name)) ok (by rfl))).weak fun b hb => ⟨_, hb, false, rfl⟩))
        (fun i j ⟨a, ha⟩ ⟨b, hb⟩ => ?_))
      ((Ex.subL (ds := [.str ⟨⟨[]⟩⟩, .str ⟨⟨[32, 32]⟩⟩]) ok (Pu.lst ok (Pa.cons ok Pu.str (Pa.cons ok Pu.str Pa.nil)) (by decide)) ((takeEx (D := D) (D0 := D0) ok (by decide) (by rfl) (Pu.name ok (by rfl)) h16 l.wD l.wD0 l.fD l.fD0 (fun h j => j.1) jt).weak fun b hb => hb) (by decide)).weak fun b hb => ?_)
      (fun i j ⟨a, b, ha⟩ ⟨d, hb⟩ => ?_)) Xa.nil).weak fun ll hl => ?_) (fun bs hb => ?_) h16 (fun _ e => by cases e) (fun _ e => by cases e) (fun _ _ => trivial) jo) (.inr ⟨by rfl, by rfl, by rfl⟩) fun s4 b hb ok t => ?_
  · obtain ⟨d, hd, rfl⟩ := hb
    rcases List.mem_cons.mp hd with rfl | hd
    · exact ⟨_, rfl, false, rfl⟩
    · obtain rfl := List.mem_singleton.mp hd
      exact ⟨_, rfl, true, rfl⟩
  · obtain ⟨i, rfl, _⟩ := h1
    obtain ⟨j, rfl, _⟩ := h2
    exact ⟨_, cEq ok hu hv (by rfl) (by rfl)⟩
  · subst ha hb
    exact ⟨Nat.le_trans (lnw name hm a b false).2.2.2.1 (by decide), a, b, rfl⟩
  · obtain ⟨d, hd, rfl⟩ := hb
    rcases List.mem_cons.mp hd with rfl | hd
    · exact ⟨_, rfl, false, rfl⟩
    · obtain rfl := List.mem_singleton.mp hd
      exact ⟨_, rfl, true, rfl⟩
  · subst ha hb
    exact ⟨Nat.le_trans (lnw name hm a b d).2.2.2.2 (by decide), a, b, d, rfl⟩
  · obtain ⟨b, bs, rfl, ⟨i, rfl, a, b, d, rfl⟩, rfl⟩ := hl
    exact ⟨a, b, d, rfl⟩
  · obtain ⟨a, b, d, rfl⟩ := hb
    obtain ⟨m1, m2, m3, _⟩ := lnw name hm a b d
    have := resFn w (written a b d name) m1 (Nat.le_trans m2 (by decide)) (Nat.le_trans m3 (by decide))
    rw [hL.wr, hL.known] at this
    exact this
  · subst hb
    exact phase7 l vc hL hT hE hF ok.rho (t.sub ⟨by rfl, by rfl, by rfl, by rfl, trivial⟩)
end Mine
end TW68
section TW69
open PySem PySem.W PyProof.Rows PySem.Calls
set_option Elab.async false
namespace Mine
set_option maxRecDepth 100000
set_option maxHeartbeats 4000000
abbrev ρ5 (D : Addr) (ts : List (List (Int × Int))) (td : List (Int × Int)) : List (PySem.Str × Bnd) := [(⟨⟨[116, 111, 108, 100]⟩⟩, .dat (tblD td)), (⟨⟨[116, 97, 98, 108, 101, 115]⟩⟩, .dat (.list (ts.map tblD))), (⟨⟨[100, 114, 97, 119]⟩⟩, .raw (.ref D))]
theorem merge0 (w : World) {ts : List (List (Int × Int))} {c' : Addr} (hn : ts.length ≤ 8) (h0 : ts.flatten = []) : FnE w 1 180 (dats (ts.map tblD)) (uno 175) (TabSt lamPos (mq w.params) (some c')) (· = .dat (.tuple [])) := fun A V s vs rm vf xv hvs hJ =>
  wpAny_mono (mergeFn w (c' := c') hn (by rw [h0]; decide) (by rw [h0]; intro p hp; cases hp) A V s vs rm vf xv hvs hJ) (fun v s' ⟨u, a, j, b, ⟨told, e, ok⟩, h⟩ => by
    have hl := ok.len
    rw [h0] at hl
    obtain rfl : told = [] := List.eq_nil_of_length_eq_zero (Nat.le_zero.mp hl)
    exact ⟨u, a, j, b, e, h⟩) fun _ _ f => f
theorem phase5 {w : World} {A : Around} {V W : Vol} {L : Addr} {s₀ s : Shared} {D D0 c' : Addr} {ts : List (List (Int × Int))} {td : List (Int × Int)} (l : LA V W (callEnvC (fd335 w.params) L 335) s₀ D D0) (vc : V c' = false)
    (hts : ts.length ≤ 8) (hln : ∀ t ∈ ts, t.length ≤ 2 ^ 10) (hrow : td.Pairwise fun p q => p.2 < q.1) (hhas : ∀ n, hasTs n ts = hasT n td) (htd : td.length ≤ 2 ^ 10)
    (ok : (lc w A V W L s₀ (ρ5 D ts td) (J2 w.params D D0 c')).Ok) (t : (lc w A V W L s₀ (ρ5 D ts td) (J2 w.params D D0 c')).St s) :
    Do (lc w A V W L s₀ (ρ5 D ts td) (J2 w.params D D0 c')) ((stmtsOf (fd335 w.params)).drop 5) (LawQ w.params s₀) s := by
  have h16 : 1 ≤ 6 := by decide
  have h26 : 2 ≤ 6 := by decide
  have jo : ∀ h h', Up (uno 175) h h' → J2 w.params D D0 c' h → TabSt lamPos (mq w.params) (some c') h' → J2 w.params D D0 c' h' := fun h h' u j j' => ⟨j.1.up u (uno_ne l.d7) (uno_ne l.d07), j'⟩
  refine do_ifF t (TaX.te (TaX.or (TeX.not (b := true) (Te.x ok (Te.plain (d := .bool true) ok (Pu.call ok (Pu.glob ok (by rfl) (by kernel_rfl)) (fn323 _) (Pa.cons ok (Pu.name ok (by rfl)) (Pa.cons ok (Pu.name ok (by rfl)) Pa.nil)) (mergedFn w ts td hts hln htd hrow hhas) h26) rfl)))
    (TaX.or (TeX.cmp (r := false) (B1 := (· = .dat (.tuple []))) (B2 := (· = .dat (.tuple []))) ok (Ex.call0 (X := uno 175) ok (Pu.glob ok (by rfl) (by kernel_rfl)) (fn180 _) (merge0 w (ts := []) (c' := c') (by simp) rfl) h16 l.x7.1 l.x7.2 (fun h j => j.2) jo) (Pu.ex ok (Pu.tup ok (ds := []) Pa.nil (by decide))) fun s u v b1 b2 t h1 h2 hu hv => ?_)
    (TaX.or (TeX.cmp (r := false) (B1 := (· = .dat (.tuple []))) (B2 := (· = .dat (.tuple []))) ok (Ex.call (X := uno 175) ok (Pu.glob ok (by rfl) (by kernel_rfl)) (fn180 _) (Pa.cons ok (Pu.tup ok (ds := []) Pa.nil (by decide)) (Pa.cons ok (Pu.tup ok (ds := []) Pa.nil (by decide)) Pa.nil)) (merge0 w (ts := [[], []]) (c' := c') (by simp) rfl) h16 l.x7.1 l.x7.2 (fun h j => j.2) jo) (Pu.ex ok (Pu.tup ok (ds := []) Pa.nil (by decide))) fun s u v b1 b2 t h1 h2 hu hv => ?_)
    TaX.nil)))) fun s2 t => phase6 l vc ok.rho (t.sub ⟨by rfl, trivial⟩)
  · subst h1 h2
    exact cNe ok hu hv (by rfl) (by rfl)
  · subst h1 h2
    exact cNe ok hu hv (by rfl) (by rfl)
end Mine
end TW69
section TW70
open PySem PySem.W PyProof.Rows PySem.Calls
set_option Elab.async false
namespace Mine
set_option maxRecDepth 100000
set_option maxHeartbeats 4000000
def J1 (P : Params) (D D0 : Addr) (h : Heap) : Prop := Drw D D0 h ∧ TabSt lamPos (mq P) none h
abbrev ρ4 (D : Addr) (ts : List (List (Int × Int))) : List (PySem.Str × Bnd) := [(⟨⟨[116, 97, 98, 108, 101, 115]⟩⟩, .dat (.list (ts.map tblD))), (⟨⟨[100, 114, 97, 119]⟩⟩, .raw (.ref D))]
theorem toldStore {w : World} {A : Around} {V W : Vol} {L : Addr} {s₀ s : Shared} {D D0 : Addr} {ts us : List (List (Int × Int))} {vs : List Value} (l : LA V W (callEnvC (fd335 w.params) L 335) s₀ D D0)
    (hts : ts.length ≤ 8) (hln : ∀ t ∈ ts, t.length ≤ 2 ^ 10) (hus : us.length ≤ 8) (hfl : us.flatten.length < 64) (hbox : ∀ p ∈ us.flatten, p.1 ≤ p.2) (hne : us.flatten ≠ []) (hsame : ∀ n, hasTs n ts = hasTs n us)
    (ok : (lc w A V W L s₀ (ρ4 D ts) (J1 w.params D D0)).Ok) (t : (lc w A V W L s₀ (ρ4 D ts) (J1 w.params D D0)).St s) (hvs : HasAll V s.heap vs (dats (us.map tblD))) :
    wpAny (model pw w) A (call (.ref 180) vs) (fun v s' => wpAny (model pw w) A (storeName (callEnvC (fd335 w.params) L 335) ⟨⟨[116, 111, 108, 100]⟩⟩ v) (fun _ s'' => Do (lc w A V W L s₀ (ρ4 D ts) (J1 w.params D D0)) ((stmtsOf (fd335 w.params)).drop 5) (LawQ w.params s₀) s'') (fun _ _ => False) s') (fun _ _ => False) s := by
  have h16 : 1 ≤ 6 := by decide
  refine wpAny_mono (mergeRun (V := V) (m := none) (ok.rm.le h16) (t.fine ok) hvs hus hfl hbox t.j.2) (fun v s' ⟨u, a, m', td, j, mk, hd, ⟨_, hsm⟩, hm⟩ => ?_) fun _ _ f => f
  obtain ⟨c', rfl⟩ := hsm hne
  have hc : s.heap.objs.size ≤ c' := by
    rcases hm with h | ⟨_, c2, e, h⟩
    · cases h
    · cases e; exact h
  have dr : Drw D D0 s'.heap := t.j.1.up u (uno_ne l.d7) (uno_ne l.d07)
  have vc : V c' = false := by
    cases e : V c'
    · rfl
    · exact absurd hc (Nat.not_le.mpr (t.vok c' e))
  have t3 : (lc w A V W L s₀ (ρ4 D ts) (J2 w.params D D0 c')).St s' := t.mv ok (J' := J2 w.params D D0 c') u a l.x7.1 l.x7.2 ⟨dr, j⟩
  have okJ : (lc w A V W L s₀ (ρ4 D ts) (J2 w.params D D0 c')).Ok := ok.j fun h h' u q => J2.mix l ok.wv ok.fw vc (hs := s'.heap) ⟨dr, j⟩ (fun a e => .inl (own_frm e)) u q
  have htd : td.length ≤ 2 ^ 10 := Nat.le_trans mk.len (by omega)
  exact wpAny_mono (store (x := ⟨⟨[116, 111, 108, 100]⟩⟩) (b := .dat (tblD td)) okJ t3 hd (.inl (by rfl))) (fun _ s4 ⟨t4, _, _⟩ => phase5 l vc hts hln mk.row (fun n => (hsame n).trans (mk.has n)) htd (okJ.put _ _) t4) fun _ _ f => f
section
variable {c : Cx}
theorem Pu.len_lst (ok : c.Ok) {x : PySem.Str} {p pos : Pos} {e : PySem.Expr} {ds : List PyData} (hf : Pu c (.Name x p) (.raw (.builtin "len"))) (y : Pd c e (.list ds)) (hl : ds.length ≤ 2 ^ 20) (he : starEach [e] c.env = (false, eval e c.env) :: starEach [] c.env := by rfl) :
    Pd c (.Call (.Name x p) [e] [] pos) (.int ds.length) :=
  Pu.bcall ok hf (Pa.cons ok y Pa.nil he) (fun s vs t h => by
    obtain ⟨v, rfl, hv⟩ := Has1 h
    obtain ⟨a, us, q⟩ := Dat.list hv
    obtain ⟨rfl, _, l, _, len⟩ := q
    refine PyProof.Rows.len_list l (by rw [List.size_toArray]; omega) ⟨Grow.refl, ⟨rfl, rfl⟩, ?_⟩
    rw [List.size_toArray, len]
    exact hasInt ..) he
end
theorem flat_box {ts : List (List (Int × Int))} (ht : ∀ t ∈ ts, 1 ≤ t.length ∧ t.length ≤ 8 ∧ ∀ p ∈ t, p.1 ≤ p.2) : ∀ p ∈ ts.flatten, p.1 ≤ p.2 := fun p hp => by
  obtain ⟨t, h1, h2⟩ := List.mem_flatten.mp hp
  exact (ht t h1).2.2 p h2
theorem phase4 {w : World} {A : Around} {V W : Vol} {L : Addr} {s₀ s : Shared} {D D0 : Addr} {ts : List (List (Int × Int))} (l : LA V W (callEnvC (fd335 w.params) L 335) s₀ D D0)
    (h1 : 1 ≤ ts.length) (h3 : ts.length ≤ 3) (ht : ∀ t ∈ ts, 1 ≤ t.length ∧ t.length ≤ 8 ∧ ∀ p ∈ t, p.1 ≤ p.2)
    (ok : (lc w A V W L s₀ (ρ4 D ts) (J1 w.params D D0)).Ok) (t : (lc w A V W L s₀ (ρ4 D ts) (J1 w.params D D0)).St s) :
    Do (lc w A V W L s₀ (ρ4 D ts) (J1 w.params D D0)) ((stmtsOf (fd335 w.params)).drop 4) (LawQ w.params s₀) s := by
  have hln : ∀ t ∈ ts, t.length ≤ 2 ^ 10 := fun t h => Nat.le_trans (ht t h).2.1 (by decide)
  obtain ⟨o, ho, hd⟩ := (fn180 w.params).ob
  refine do_cons (wpAny_Assign_Name ?_ (by rfl))
  refine wpAny_IfExp (wpAny_mono ((Te.cmp (b1 := .dat (.int (ts.map tblD).length)) (b2 := .dat (.int 3)) ok (Pu.len_lst (ds := ts.map tblD) ok (Pu.blt ok (by rfl) (by kernel_rfl) (by kernel_rfl)) (Pu.name ok (by rfl)) (by rw [List.length_map]; omega)) Pu.int fun s u v t hu hv => cEq ok hu hv (by rfl) (by rfl)) s t) (fun b s1 ⟨g1, a1, e⟩ => ?_) fun _ _ f => f)
  have t1 := t.grow ok g1 a1
  have e : b = (((ts.map tblD).length : Int) == 3) := e
  rw [List.length_map] at e
  cases b with
  | true =>
    have hl : ts.length = 3 := by have := beq_iff_eq.mp e.symm; omega
    refine Call_ (wpAny_mono ((Pu.glob (v := .ref 180) ok (by rfl) (by kernel_rfl) (by decide)) s1 t1) (fun f s2 ⟨g2, a2, h2⟩ => ?_) fun _ _ f => f)
    obtain rfl : f = .ref 180 := h2
    have t2 := t1.grow ok g2 a2
    match ts, hl with
    | [q0, q1, q2], _ =>
      have b0 := ht q0 (by simp)
      have b1 := ht q1 (by simp)
      have b2 := ht q2 (by simp)
      refine callWith_def hd (wpAny_mono ((Pa.cons ok (Pu.sub_lst (d := tblD q0) (ds := [tblD q0, tblD q1, tblD q2]) ok (Pu.name ok (by rfl)) Pu.int (by decide) (by decide) (by rfl)) (Pa.cons ok (Pu.sub_lst (d := tblD q1) (ds := [tblD q0, tblD q1, tblD q2]) ok (Pu.name ok (by rfl)) Pu.int (by decide) (by decide) (by rfl))
        (Pa.cons ok (Pu.sub_lst (d := tblD q2) (ds := [tblD q0, tblD q1, tblD q2]) ok (Pu.name ok (by rfl)) Pu.int (by decide) (by decide) (by rfl)) Pa.nil))) s2 _ t2) (fun vs s3 ⟨g3, a3, hv⟩ => ?_) fun _ _ f => f)
      have t3 := t2.grow ok g3 a3
      refine ⟨t3.gl 180 o (by decide) ho, toldStore (us := [q0, q1, q2]) l (by simp) hln (by simp) ?_ (flat_box ht) ?_ (fun _ => rfl) ok t3 hv⟩
      · simp only [List.flatten_cons, List.flatten_nil, List.length_append, List.length_nil]; omega
      · intro h0; have := congrArg List.length h0; simp only [List.flatten_cons, List.flatten_nil, List.length_append, List.length_nil] at this; omega
  | false =>
    have hl : ts.length = 1 ∨ ts.length = 2 := by
      have : ¬ ((ts.length : Int) = 3) := fun q => by rw [q] at e; cases e
      omega
    refine Call_ (wpAny_mono ((Pu.glob (v := .ref 180) ok (by rfl) (by kernel_rfl) (by decide)) s1 t1) (fun f s2 ⟨g2, a2, h2⟩ => ?_) fun _ _ f => f)
    obtain rfl : f = .ref 180 := h2
    have t2 := t1.grow ok g2 a2
    match ts, hl with
    | [q0], _ =>
      have b0 := ht q0 (by simp)
      refine callWith_def hd (wpAny_mono ((Pa.cons ok (Pu.sub_lst (d := tblD q0) (ds := [tblD q0]) ok (Pu.name ok (by rfl)) Pu.int (by decide) (by decide) (by rfl)) (Pa.cons ok (Pu.sub_lst_neg (d := tblD q0) (ds := [tblD q0]) ok (Pu.name ok (by rfl)) (Pu.neg ok Pu.int) (by decide) (by simp) (by decide) (by rfl)) Pa.nil)) s2 _ t2) (fun vs s3 ⟨g3, a3, hv⟩ => ?_) fun _ _ f => f)
      have t3 := t2.grow ok g3 a3
      refine ⟨t3.gl 180 o (by decide) ho, toldStore (us := [q0, q0]) l (by simp) hln (by simp) ?_ (flat_box (by intro t h; simp at h; rw [h]; exact b0)) ?_ (fun n => ?_) ok t3 hv⟩
      · simp only [List.flatten_cons, List.flatten_nil, List.length_append, List.length_nil]; omega
      · intro h0; have := congrArg List.length h0; simp only [List.flatten_cons, List.flatten_nil, List.length_append, List.length_nil] at this; omega
      · unfold hasTs; simp
    | [q0, q1], _ =>
      have b0 := ht q0 (by simp)
      have b1 := ht q1 (by simp)
      refine callWith_def hd (wpAny_mono ((Pa.cons ok (Pu.sub_lst (d := tblD q0) (ds := [tblD q0, tblD q1]) ok (Pu.name ok (by rfl)) Pu.int (by decide) (by decide) (by rfl)) (Pa.cons ok (Pu.sub_lst_neg (d := tblD q1) (ds := [tblD q0, tblD q1]) ok (Pu.name ok (by rfl)) (Pu.neg ok Pu.int) (by decide) (by simp) (by decide) (by rfl)) Pa.nil)) s2 _ t2) (fun vs s3 ⟨g3, a3, hv⟩ => ?_) fun _ _ f => f)
      have t3 := t2.grow ok g3 a3
      refine ⟨t3.gl 180 o (by decide) ho, toldStore (us := [q0, q1]) l (by simp) hln (by simp) ?_ (flat_box ht) ?_ (fun _ => rfl) ok t3 hv⟩
      · simp only [List.flatten_cons, List.flatten_nil, List.length_append, List.length_nil]; omega
      · intro h0; have := congrArg List.length h0; simp only [List.flatten_cons, List.flatten_nil, List.length_append, List.length_nil] at this; omega
end Mine
end TW70
section TW71
open PySem PySem.W PyProof.Rows
set_option Elab.async false
namespace Mine
set_option maxRecDepth 100000
set_option maxHeartbeats 4000000
theorem do_comp {c : Cx} (ok : c.Ok) {s : Shared} (t : c.St s) {y : PySem.Str} {py spos : Pos} {rest : List Stmt} {Q : Flow → Shared → Prop} (hy : c.env.kindOf y = some .local) {elt iter : Expr} {x : PySem.Str} {px pos : Pos} {ifs : List Expr} {scope : Scope} {cl : List (PySem.Str × Addr)} {N : Nat → (Nat → Bnd) → Prop}
    (hclos : closureFor scope c.env = Pure.pure cl) (hcell : ∀ y ∈ scope.names, y.2 ≠ .cell) (hkind : scope.kind = .function) (hnames : ∀ y ∈ scope.names, y.2 = .local → scope.names.lookup y.1 = some .local) (hx : scope.names.lookup x = some .local)
    (hcl : ∀ y d, cl.lookup y = some d → c.env.cells.lookup y = some d) (hfm : c.env.frame = some c.env.locals)
    (hit : ∀ s, c.St s → wpAny (model pw c.w) c.A (eval iter c.env) (fun v s1 => Up c.V s.heap s1.heap ∧ c.St s1 ∧ ∃ n bs, N n bs ∧ n ≤ 2 ^ 20 ∧ Itb c.w c.A (fresh c.V s1.heap) s1 v n bs) (fun _ _ => False) s)
    (ρi : List (PySem.Str × Bnd)) (cap : Cap c scope cl ρi) (hρ : ∀ b, Sub ρi ((x, b) :: ρi)) (Kd : Nat → List PyData → Prop) (h0 : Kd 0 []) (hlen : ∀ i ys, Kd i ys → ys.length ≤ i) (jmx : ∀ s, c.St s → ∀ F h h', (∀ a, F a = true → s.heap.objs.size ≤ a) → Up F h h' → c.J h → c.J h')
    (step : ∀ n bs I D C h₁ K i ys s1, c.St s1 → N n bs → i < n → Kd i ys → Wk c.w c.A (fresh c.V s1.heap) I n bs K → s1.heap.objs.size ≤ I → s1.heap.objs.size ≤ D → s1.heap.objs.size ≤ C → (∀ a, c.V a = true → tri I D C a = false) → (∀ a, own (compEnvC scope cl C c.env) a = true → a = C) →
      (c.cj scope cl I D C ((x, bs i) :: ρi) h₁ K (i + 1) ys).Ok →
      ∃ b, Tests (c.cj scope cl I D C ((x, bs i) :: ρi) h₁ K (i + 1) ys) ifs b ∧
        if b = true then Ex (c.cj scope cl I D C ((x, bs i) :: ρi) h₁ K (i + 1) ys) elt (fun b => ∃ d, b = .dat d ∧ Kd (i + 1) (ys ++ [d])) else Kd (i + 1) ys)
    (hsw : swapsWith (.ListComp elt [⟨.Name x px, iter, ifs, 0⟩] scope pos) (some (.Name y py)) spos.line c.env = Pure.pure true)
    (k : ∀ s' n bs ys, N n bs → Kd n ys → (c.put y (.dat (.list ys))).Ok → (c.put y (.dat (.list ys))).St s' → Do (c.put y (.dat (.list ys))) rest Q s')
    (hs : ∀ x, foldedSetIterable iter c.env x = Pure.pure x := by intro _; rfl) :
    Do c (.Assign [.Name y py] (.ListComp elt [⟨.Name x px, iter, ifs, 0⟩] scope pos) spos :: rest) Q s := by
  refine do_cons ?_
  rw [exec_Assign_Name_used _ _ _ _ hsw]
  refine wpAny_bind (wpAny_standAt (wpAny_bind ?_))
  show wpAny _ _ (do let _ ← comprehension (.ListComp elt [⟨.Name x px, iter, ifs, 0⟩] scope pos) scope c.env _ (newList []) false (eval iter c.env) (some (assign (.Name y py) c.env))) _ _ s
  refine wpAny_bind (wpAny_mono (Q := fun _ s' => Do c rest Q s') (E := fun _ _ => False) ?_ (fun _ s' hq => wpAny_pure (wpAny_pure hq)) fun _ _ e => e)
  refine wpAny_comprehension_free (use := some (assign (.Name y py) c.env)) (Q := fun _ s' => Do c rest Q s') rfl hs hclos hkind hnames (wpAny_mono (hit s t) (fun v s1 ⟨u0, t1, n, bs, hN, hn, itb⟩ => wpAny_mono itb (fun it s2 ⟨I, K, e, g, a, hI, hI2, wk, hK⟩ => ?_) fun _ _ f => f) fun _ _ f => f)
  subst e
  refine wpAny_newObj_type (wpAny_newFunctionEnv hcell (by intro y hy; simp at hy) (fun h₁ hns₁ hsb₁ => ?_) hkind)
  dsimp only at hns₁ hsb₁ ⊢
  generalize hH2 : s2.heap.push { cls := .type "list", data := .seq ([] : List Value).toArray } = H2 at hns₁ hsb₁ ⊢
  generalize hDd : s2.heap.objs.size = D at hns₁ hsb₁ ⊢
  generalize hCc : H2.objs.size = C at hns₁ hsb₁ ⊢
  have hC : C = D + 1 := by rw [← hCc, ← hH2, Heap.size_push, hDd]
  have gH : Grow s2.heap H2 := hH2 ▸ Grow.push _
  have g1 : Grow H2 h₁ := ⟨fun b o _ e => (hsb₁.2 b (Nat.ne_of_lt (hCc ▸ Heap.lt_size e))).trans (Heap.get?_push_of_some _ e), by rw [hsb₁.1, Heap.size_push]; omega⟩
  have gA : Grow s1.heap h₁ := (g.trans gH).trans g1
  have hpl : PlainL h₁ D #[] := ⟨_, 0, g1.keeps _ _ (by rw [← hH2, ← hDd]; exact Heap.get?_push_size _ rfl), rfl, rfl, rfl⟩
  have zD : s1.heap.objs.size ≤ D := hDd ▸ g.size
  have zC : s1.heap.objs.size ≤ C := by omega
  have h336 := t1.gl.size
  have hz1 : h₁.objs.size = C + 1 := by rw [hsb₁.1, Heap.size_push, hCc]
  have triN : ∀ a, a < s1.heap.objs.size → tri I D C a = false := fun a ha => tri_new hI zD zC ha
  have triV : ∀ a, c.V a = true → tri I D C a = false := fun a ha => triN a (t1.vok a ha)
  have hasT : ∀ {v b}, Has c.V s1.heap v b → Has (joinV c.V (tri I D C)) h₁ v b := fun h => (mono_join h fun a o e _ => triN a (Heap.lt_size e)).up gA.up
  have hID : I < D := hDd ▸ hI2
  have nID : I ≠ D := Nat.ne_of_lt hID
  have nCD : C ≠ D := by omega
  have hIC : I < C := Nat.lt_trans hID (by omega)
  have nCI : C ≠ I := Nat.ne_of_gt hIC
  have tI : tri I D C I = true := by unfold tri; simp
  have tD : tri I D C D = true := by unfold tri; simp
  have tC : tri I D C C = true := by unfold tri; simp
  have frmLt : ∀ a, frm c.env a = true → a < s1.heap.objs.size := fun a e => t1.vok a (ok.wv a (ok.fw a e))
  have newF : ∀ a, s1.heap.objs.size ≤ a → frm c.env a = false := fun a ha => by
    cases e : frm c.env a
    · rfl
    · exact absurd (frmLt a e) (Nat.not_lt.mpr ha)
  have hownC : ∀ a, own (compEnvC scope cl C c.env) a = true → a = C := fun a e => by
    unfold own at e
    rcases Bool.or_eq_true_iff.mp e with e | e
    · simpa using (show (a == C) = true from e)
    · have e1 := (Bool.and_eq_true_iff.mp e).1
      have e1 : (c.env.frame == some C) = true := e1
      rw [hfm] at e1
      have q : c.env.locals = C := by simpa using e1
      exact absurd (q ▸ frmLt _ (frm_locals c.env)) (Nat.not_lt.mpr zC)
  have innerFrm : ∀ a, frm (compEnvC scope cl C c.env) a = true → a = C ∨ frm c.env a = true := fun a e => by
    rcases frm_cases e with e | ⟨x, e⟩
    · exact .inl e
    · exact .inr (frm_cell (hcl x a e))
  have jst : ∀ F h h', (∀ a, F a = true → s1.heap.objs.size ≤ a) → Up F h h' → c.J h → c.J h' := fun F h h' hF u j => jmx s t F h h' (fun a e => Nat.le_trans u0.size (hF a e)) u j
  -- the facts under a change at one new place
  have cjUp : ∀ {p i i' ys h h'}, tri I D C p = true → p ≠ D → Up (uno p) h h' → CompJ c I D C h₁ K i ys h → K i' h' → CompJ c I D C h₁ K i' ys h' := fun {p i i' ys h h'} hp hD u x k => by
    have hpn : s1.heap.objs.size ≤ p := by rcases tri_cases hp with rfl | rfl | rfl <;> assumption
    have e : ∀ a, uno p a = true → a = p := fun a h => by simpa [uno] using h
    exact ⟨jst _ _ _ (fun a h => (e a h) ▸ hpn) u x.j, k, x.row.up u (uno_ne (Ne.symm hD)) fun a h => joinV_r ((e a h) ▸ hp), x.out.up u (fun a h => newF a ((e a h) ▸ hpn)) fun a h => joinV_r ((e a h) ▸ hp)⟩
  have okI : ∀ ρ i ys, (c.cj scope cl I D C ρ h₁ K i ys).Ok := fun ρ i ys => ok.inner hkind (Nat.le_trans h336 hI) (Nat.le_trans h336 zD) (Nat.le_trans h336 zC) hcl (fun a h e => by rw [e] at h; rw [triV C h] at tC; cases tC) fun h h' u x => by
    have u' : Up (uno C) h h' := u.le fun a e => by rw [hownC a e]; simp [uno]
    exact cjUp tC nCD u' x (wk.stab i (uno C) h h' (fun a e => by
      have : a = C := by simpa [uno] using e
      subst this
      exact ⟨.inr hIC, nCI⟩) u' x.k)
  have st0 : (c.cj scope cl I D C ρi h₁ K 0 []).St { s2 with heap := h₁, toks := s2.toks + ([] : List (PySem.Str × Value)).length } := by
    refine ⟨fun i o n e => gA.keeps _ _ (t1.gl i o n e), fun b e => ?_, ?_, (t1.up.le fun _ h => joinV_l h).trans gA.up, ⟨(t1.sa.trans a).gens, (t1.sa.trans a).os⟩, ⟨ok.stab _ _ gA.up t1.j, wk.stab _ (fun _ => false) _ _ (fun _ h => by cases h) (gH.trans g1) hK, ⟨#[], hpl, trivial⟩, Up.refl, ?_⟩⟩
    · show b < h₁.objs.size
      rw [hz1]
      rcases Bool.or_eq_true_iff.mp e with e | e
      · have := t1.vok b e
        exact Nat.lt_of_lt_of_le this (by omega)
      · rcases tri_cases e with rfl | rfl | rfl
        · exact Nat.lt_of_lt_of_le hI2 (by omega)
        · exact Nat.lt_of_lt_of_le (Nat.lt_succ_self _) (by omega)
        · exact Nat.lt_succ_self _
    · obtain ⟨m, cm, f⟩ := t1.fr
      refine ⟨_, cm, hns₁, fun y d e => ?_, fun y b e => ?_⟩
      · obtain ⟨o, p, q⟩ := f.cell y d (hcl y d e)
        exact ⟨o, gA.keeps _ _ p, q⟩
      · obtain ⟨e1, e2, e3, e4⟩ := cap.get e
        obtain ⟨v, l, q⟩ := f.nm y b e1
        refine ⟨v, .inr ⟨e3, ?_, ?_⟩, hasT q⟩
        · rcases l with ⟨k, _⟩ | ⟨_, i, _⟩
          · rw [k] at e2; rcases e2 with e2 | e2 <;> cases e2
          · show (cl.lookup y).isSome = true
            rw [e4]; exact i
        · rcases l with ⟨k, _⟩ | ⟨_, _, p⟩
          · rw [k] at e2; rcases e2 with e2 | e2 <;> cases e2
          · exact p
    · obtain ⟨m, cm, f⟩ := t1.fr
      exact ⟨m, cm, f.ns.keeps gA.keeps, fun y d e => let ⟨o, p, q⟩ := f.cell y d e; ⟨o, gA.keeps _ _ p, q⟩, fun y b e => let ⟨v, l, q⟩ := f.nm y b e; ⟨v, l, hasT q⟩⟩
  -- the end
  have fin : ∀ ys s', Kd n ys → (c.cj scope cl I D C ρi h₁ (fun _ _ => True) n ys).St s' → compPost (model pw c.w) c.A (fun _ _ => False) (some (assign (.Name y py) c.env)) (fun _ s' => Do c rest Q s') (.ref D) C (.ok .next) s' := fun ys s' hk t' => by
    obtain ⟨mC, cmC, fC⟩ := t'.fr
    obtain ⟨wOut, m, cm, f⟩ := t'.j.out
    have lL : c.env.locals < s1.heap.objs.size := frmLt _ (frm_locals _)
    have nLD : D ≠ c.env.locals := Nat.ne_of_gt (Nat.lt_of_lt_of_le lL zD)
    have nLC : C ≠ c.env.locals := Nat.ne_of_gt (Nat.lt_of_lt_of_le lL zC)
    have lV : c.V c.env.locals = true := ok.wv _ (ok.fw _ (frm_locals _))
    show wpAny _ _ (assign (.Name y py) c.env (.ref D)) _ _ _
    refine PySem.wpAny_assign_Name (wpAny_storeName_local hy f.ns (fun h₂ hn₂ hs₂ => ?_) (by rw [ok.fn]; rfl))
    refine ⟨mC, fC.ns.sameBut hs₂ nLC, fun h₃ hs₃ => ?_⟩
    have uL : Up (uno c.env.locals) s'.heap h₂ := upBut (by simp [uno]) hs₂
    have uC : Up (uno C) h₂ h₃ := upBut (by simp [uno]) hs₃
    have uLC : Up (joinV (uno c.env.locals) (uno C)) s'.heap h₃ := (uL.le fun _ h => joinV_l h).trans (uC.le fun _ h => joinV_r h)
    have lc1 : ∀ a, joinV (uno c.env.locals) (uno C) a = true → a = c.env.locals ∨ a = C := fun a h => (Bool.or_eq_true_iff.mp h).imp (fun e => by simpa [uno] using e) (fun e => by simpa [uno] using e)
    have lcT : ∀ a, joinV (uno c.env.locals) (uno C) a = true → joinV c.V (tri I D C) a = true := fun a h => by
      rcases lc1 a h with rfl | rfl
      · exact joinV_l lV
      · exact joinV_r tC
    have no2 : ∀ {a}, a ≠ c.env.locals → a ≠ C → joinV (uno c.env.locals) (uno C) a = false := fun h1 h2 => joinV_f (uno_ne h1) (uno_ne h2)
    have uT : Up (joinV c.V (tri I D C)) s'.heap h₃ := uLC.le lcT
    have un : ∀ {v b}, Has (joinV c.V (tri I D C)) h₃ v b → Has c.V h₃ v b := fun h => h.vol fun a o hv e => ⟨(Bool.or_eq_false_iff.mp hv).1, e⟩
    have jj : c.J h₃ := jst _ _ _ (fun a h => by rw [show a = C by simpa [uno] using h]; exact zC) uC (ok.stab _ _ (uL.le fun a h => by rw [show a = c.env.locals by simpa [uno] using h]; exact own_locals _) t'.j.j)
    obtain ⟨items, ⟨o, n', e1, e2, e3, e4⟩, al⟩ := t'.j.row.up uLC (no2 nLD (Ne.symm nCD)) lcT
    have al' : HasAll c.V h₃ items.toList (dats ys) := by
      have : ∀ {vs : List Value} {bs : List Bnd}, HasAll (joinV c.V (tri I D C)) h₃ vs bs → HasAll c.V h₃ vs bs := fun {vs} {bs} => by
        induction vs generalizing bs with
        | nil => intro h; cases bs with
          | nil => trivial
          | cons _ _ => exact h.elim
        | cons v r ih => intro h; cases bs with
          | nil => exact h.elim
          | cons b bs => exact ⟨un h.1, ih h.2⟩
      exact this al
    have hD : Dat c.V h₃ (.ref D) (.list ys) := by
      refine (⟨rfl, ?_, ⟨o, e1, e2, n', by rw [e4]⟩, al', by rw [al'.length, List.length_map]⟩ : LstD c.V h₃ (.ref D) ys D items.toList).dat
      cases e : c.V D
      · rfl
      · rw [triV D e] at tD; cases tD
    have tup := t'.up
    refine k _ n bs ys hN hk (ok.put _ _) ⟨fun i o ni e => ?_, fun b e => ?_, ⟨fun z => if z = y then some (.ref D) else m z, cm, hn₂.sameBut hs₃ (Ne.symm nLC), fun z d e => ?_, fun z b e => ?_⟩, ⟨fun p o hp e => ?_, ?_⟩, ⟨t'.sa.gens, t'.sa.os⟩, jj⟩
    · have hi := L1_lt e
      refine uLC.keep _ _ (no2 (fun q => ?_) (Nat.ne_of_lt (Nat.lt_of_lt_of_le hi (Nat.le_trans h336 zC)))) (t'.gl i o ni e)
      have := ok.old i hi ni
      rw [q, lV] at this; cases this
    · exact Nat.lt_of_lt_of_le (t'.vok b (joinV_l e)) uLC.size
    · obtain ⟨o, p, q⟩ := f.cell z d e
      exact ⟨o, uLC.keep _ _ (no2 (ok.lc z d e) (Nat.ne_of_lt (Nat.lt_of_lt_of_le (frmLt d (frm_cell e)) zC))) p, q⟩
    · have e : ((y, Bnd.dat (.list ys)) :: c.ρ).lookup z = some b := e
      rw [List.lookup_cons] at e
      by_cases hz : z = y
      · subst hz
        rw [beq_self_eq_true] at e
        cases e
        exact ⟨.ref D, .inl ⟨hy, if_pos rfl⟩, hD⟩
      · rw [beq_eq_false_iff_ne.mpr hz] at e
        obtain ⟨v, l, q⟩ := f.nm z b e
        refine ⟨v, ?_, un (q.up uT)⟩
        rcases l with ⟨k1, k2⟩ | l
        · exact .inl ⟨k1, by rw [← k2]; exact if_neg hz⟩
        · exact .inr l
    · have hp' : p < s1.heap.objs.size := Nat.lt_of_lt_of_le (Heap.lt_size e) t1.up.size
      refine uLC.keep _ _ (no2 (fun q => ?_) (Nat.ne_of_lt (Nat.lt_of_lt_of_le hp' zC))) (tup.keep p o (joinV_f hp (triN p hp')) e)
      have hp : c.W p = false := hp
      rw [q, ok.fw _ (frm_locals _)] at hp; cases hp
    · exact Nat.le_trans tup.size uLC.size
  have loop : ∀ s', (∃ i ys, i ≤ n ∧ Kd i ys ∧ (c.cj scope cl I D C ρi h₁ K i ys).St s') → codeAny (model pw c.w) c.A (.compLoop (.ListComp elt [⟨.Name x px, iter, ifs, 0⟩] scope pos) 0 (.ref I) (.ref D) (compEnvC scope cl C c.env)) (compPost (model pw c.w) c.A (fun _ _ => False) (some (assign (.Name y py) c.env)) (fun _ s' => Do c rest Q s') (.ref D) C) s' := fun s' ⟨i0, ys0, hi0, hk0, t0⟩ => by
    refine codeAny_compLoop_tests (fun m s' => ∃ i ys, m = n - i ∧ i ≤ n ∧ Kd i ys ∧ (c.cj scope cl I D C ρi h₁ K i ys).St s') ?_ (n - i0) ⟨i0, ys0, rfl, hi0, hk0, t0⟩
    rintro m s' ⟨i, ys, rfl, hi, hk, t'⟩
    have hfI : frm (compEnvC scope cl C c.env) I = false := by
      cases e : frm (compEnvC scope cl C c.env) I
      · rfl
      · rcases innerFrm I e with h | h
        · exact absurd h.symm nCI
        · exact absurd (frmLt I h) (Nat.not_lt.mpr hI)
    have hfD : frm (compEnvC scope cl C c.env) D = false := by
      cases e : frm (compEnvC scope cl C c.env) D
      · rfl
      · rcases innerFrm D e with h | h
        · exact absurd h.symm nCD
        · exact absurd (frmLt D h) (Nat.not_lt.mpr zD)
    have wI : ∀ a, uno I a = true → joinV c.W (tri I D C) a = true := fun a e => by rw [show a = I by simpa [uno] using e]; exact joinV_r tI
    have nI : ∀ a, uno I a = true → frm (compEnvC scope cl C c.env) a = false := fun a e => by rw [show a = I by simpa [uno] using e]; exact hfI
    by_cases hlt : i < n
    · refine wpAny_mono (wk.item i s' hlt t'.j.k) (fun r s3 ⟨v, e, u, a3, hK', hv⟩ => ?_) (fun _ _ f => f.elim)
      subst e
      have t3 : (c.cj scope cl I D C ρi h₁ K (i + 1) ys).St s3 := t'.mv (okI ρi i ys) u a3 wI nI (cjUp tI nID u t'.j hK')
      have hv' : Has (joinV c.V (tri I D C)) s3.heap v (bs i) := hv.vol fun a o h e => by
        obtain ⟨q1, q2⟩ := Bool.or_eq_false_iff.mp h
        obtain ⟨q3, q4⟩ := fresh_no q1
        exact ⟨joinV_f q3 (triN a q4), e⟩
      refine wpAny_mono (asg1 (d := bs i) (pos := px) (P := fun s4 => (c.cj scope cl I D C ((x, bs i) :: ρi) h₁ K (i + 1) ys).St s4) (okI ρi (i + 1) ys) t3 hv' (.inl (lookup_relabel_local hx)) fun s4 _ t4 => t4) (fun _ s4 t4 => ?_) (fun _ _ f => f.elim)
      obtain ⟨b, hT, hE⟩ := step n bs I D C h₁ K i ys s1 t1 hN hlt hk wk hI zD zC triV hownC (okI _ _ _)
      refine wpAny_mono (hT s4 t4) (fun b' s5 ⟨g5, a5, e⟩ => ?_) (fun _ _ f => f.elim)
      subst e
      have t5 := t4.grow (okI _ _ _) g5 a5
      cases b' with
      | false =>
        rw [if_neg Bool.false_ne_true] at hE ⊢
        exact ⟨n - (i + 1), by omega, i + 1, ys, rfl, hlt, hE, t5.sub (hρ _)⟩
      | true =>
        rw [if_pos rfl] at hE ⊢
        refine wpAny_mono (hE s5 t5) (fun v' s6 ⟨u6, t6, b6, ⟨d, hb, hkd⟩, hv6⟩ => ?_) (fun _ _ f => f.elim)
        subst hb
        obtain ⟨items, pl, al⟩ := t6.j.row
        have hlen' := al.length
        rw [List.length_map, Array.length_toList] at hlen'
        have := sizeLine_eq
        have := hlen i ys hk
        refine list_append_plainL pl (fun h' pl' sb => ?_) (by omega)
        have uD : Up (uno D) s6.heap h' := upBut (by simp [uno]) sb
        have eD : ∀ a, uno D a = true → a = D := fun a e => by simpa [uno] using e
        have t7 : (c.cj scope cl I D C ((x, bs i) :: ρi) h₁ K (i + 1) (ys ++ [d])).St { s6 with heap := h' } := t6.mv (okI _ _ _) uD ⟨rfl, rfl⟩ (fun a e => by rw [eD a e]; exact joinV_r tD) (fun a e => by rw [eD a e]; exact hfD)
          ⟨jst _ _ _ (fun a e => (eD a e) ▸ zD) uD t6.j.j, wk.stab _ _ _ _ (fun a e => by rw [eD a e]; exact ⟨.inr hID, Ne.symm nID⟩) uD t6.j.k, ⟨_, pl', ?_⟩, t6.j.out.up uD (fun a e => newF a ((eD a e) ▸ zD)) (fun a e => joinV_r ((eD a e) ▸ tD))⟩
        · exact ⟨n - (i + 1), by omega, i + 1, ys ++ [d], rfl, hlt, hkd, t7.sub (hρ _)⟩
        · have uT := uD.le (V := joinV c.V (tri I D C)) fun a e => joinV_r ((eD a e) ▸ tD)
          rw [Array.toList_push, dats, List.map_append]
          exact (al.up uT).app ⟨hv6.up uT, trivial⟩
    · have : i = n := by omega
      subst this
      refine wpAny_mono (wk.done s' t'.j.k) (fun r s3 ⟨e, u, a3⟩ => ?_) (fun _ _ f => f.elim)
      subst e
      exact fin ys s3 hk (t'.mv (okI ρi i ys) u a3 wI nI ⟨jst _ _ _ (fun a h => by rw [show a = I by simpa [uno] using h]; exact hI) u t'.j.j, trivial, t'.j.row.up u (uno_ne (Ne.symm nID)) (fun a h => joinV_r (by rw [show a = I by simpa [uno] using h]; exact tI)), t'.j.out.up u (fun a h => newF a (by rw [show a = I by simpa [uno] using h]; exact hI)) (fun a h => joinV_r (by rw [show a = I by simpa [uno] using h]; exact tI))⟩)
  refine codeAny_compStart_list (loop _ ⟨0, [], Nat.zero_le _, h0, st0⟩) (wpAny_mono (wk.self 0 _ (fun v s' => v = .ref I ∧ s' = { s2 with heap := h₁, toks := s2.toks + ([] : List (PySem.Str × Value)).length }) st0.j.k ⟨rfl, rfl⟩) (fun v s' ⟨e1, e2⟩ => ?_) fun _ _ f => f.elim)
  subst e1 e2
  exact loop _ ⟨0, [], Nat.zero_le _, h0, st0⟩
end Mine
end TW71
section TW72
open PySem PySem.W PyProof.Rows PySem.Calls
set_option Elab.async false
namespace Mine
set_option maxRecDepth 100000
set_option maxHeartbeats 4000000
theorem hitR1F {c : Cx} (ok : c.Ok) {x : PySem.Str} {p pos : Pos} {e : PySem.Expr} {P : Int → Prop} (hf : Pu c (.Name x p) (.raw (.type "range"))) (y : Ex c e (Mine.intP P)) (hP : ∀ i, P i → -(2 ^ 62) ≤ i ∧ i < 2 ^ 20) (s : Shared) (t : c.St s)
    (he : starEach [e] c.env = (false, eval e c.env) :: starEach [] c.env := by rfl) :
    wpAny (model pw c.w) c.A (eval (.Call (.Name x p) [e] [] pos) c.env) (fun v s1 => Up c.V s.heap s1.heap ∧ c.St s1 ∧ ∃ n bs, (∃ i, P i ∧ n = i.toNat ∧ bs = fun (k : Nat) => Bnd.dat (.int ((0 : Int) + k))) ∧ n ≤ 2 ^ 20 ∧ Itb c.w c.A (fresh c.V s1.heap) s1 v n bs) (fun _ _ => False) s := by
  refine Call_ (wpAny_mono (hf s t) (fun f s1 ⟨g1, a1, h1⟩ => ?_) fun _ _ f => f)
  obtain rfl : f = .type "range" := h1
  refine PyProof.Rows.callWith_type1 (args_cons (wpAny_mono (y s1 (t.grow ok g1 a1)) (fun v s2 ⟨u2, t2, b, hb, h2⟩ => args_nil ?_) fun _ _ f => f) he) he (by rfl)
  obtain ⟨i, rfl, pi⟩ := hb
  obtain ⟨tk, rfl⟩ := Dat.int h2
  have hp := hP i pi
  refine call_range_1 (t := tk) ⟨(g1.up.trans u2).trans (Grow.push _).up, t2.grow (s' := { s2 with heap := s2.heap.push { cls := .type "range", data := .fields #[.int 0 s2.toks, .int i tk, .int 1 (s2.toks + 1)] }, toks := s2.toks + 1 + 1 }) ok (Grow.push _) ⟨rfl, rfl⟩, _, _, ⟨i, pi, rfl, rfl⟩, by omega, ?_⟩
  have := itb_range (w := c.w) (A := c.A) (V := fresh c.V (s2.heap.push { cls := .type "range", data := .fields #[.int 0 s2.toks, .int i tk, .int 1 (s2.toks + 1)] })) (s := { s2 with heap := s2.heap.push { cls := .type "range", data := .fields #[.int 0 s2.toks, .int i tk, .int 1 (s2.toks + 1)] }, toks := s2.toks + 1 + 1 }) ok.rm.hn (IsRange.new ..) (by decide) (by decide) hp.1 (by omega)
  rw [Int.sub_zero] at this
  exact this
theorem J1.mix {P : Params} {D D0 : Addr} {V W F : Vol} {e : Env} {s₀ : Shared} (l : LA V W e s₀ D D0) {hs h h' : Heap} (js : J1 P D D0 hs)
    (hF : ∀ a, F a = true → frm e a = true ∨ hs.objs.size ≤ a) (u : Up F h h') (j : J1 P D D0 h) : J1 P D D0 h' := by
  have no : ∀ a, frm e a = false → a < hs.objs.size → F a = false := fun a h1 h2 => by
    cases q : F a
    · rfl
    · rcases hF a q with q | q
      · rw [q] at h1; cases h1
      · exact absurd h2 (Nat.not_lt.mpr q)
  obtain ⟨⟨_, ⟨_, _, ⟨_, eD, _⟩, _⟩, _, _, eD0, _⟩, jt⟩ := js
  exact ⟨j.1.up u (no _ l.fD (Heap.lt_size eD)) (no _ l.fD0 (Heap.lt_size eD0)), j.2.up u (no _ l.f7 jt.lt7) fun b hb => by cases hb⟩
theorem J1.take {P : Params} {D D0 : Addr} {V W : Vol} {e : Env} {s₀ : Shared} (l : LA V W e s₀ D D0) {h h' : Heap} (u : Up (two D D0) h h') (j : J1 P D D0 h) (d : Drw D D0 h') : J1 P D D0 h' :=
  ⟨d, j.2.up u (by
    cases e : two D D0 175
    · rfl
    · exact absurd rfl (l.two e).2.2) fun b hb => by cases hb⟩
def TsOk (ts : List (List (Int × Int))) : Prop := ∀ t ∈ ts, 1 ≤ t.length ∧ t.length ≤ 8 ∧ ∀ p ∈ t, p.1 ≤ p.2
theorem phase3 {w : World} {A : Around} {V W : Vol} {L : Addr} {s₀ s : Shared} {D D0 : Addr} (l : LA V W (callEnvC (fd335 w.params) L 335) s₀ D D0)
    (ok : (lc w A V W L s₀ (ρ6 D) (J1 w.params D D0)).Ok) (t : (lc w A V W L s₀ (ρ6 D) (J1 w.params D D0)).St s) :
    Do (lc w A V W L s₀ (ρ6 D) (J1 w.params D D0)) ((stmtsOf (fd335 w.params)).drop 3) (LawQ w.params s₀) s := by
  have h16 : 1 ≤ 6 := by decide
  have h26 : 2 ≤ 6 := by decide
  have okk := ok
  refine do_comp (N := fun n bs => ∃ i : Int, (1 ≤ i ∧ i ≤ 3) ∧ n = i.toNat ∧ bs = fun (k : Nat) => Bnd.dat (.int ((0 : Int) + k))) (cl := capOf (callEnvC (fd335 w.params) L 335) [⟨⟨[100, 114, 97, 119]⟩⟩]) ok t (by rfl) (by rfl) (by decide) (by rfl) (by decide) (by rfl) (capOf_is (by rfl)) (by rfl)
    (fun s t => hitR1F (P := fun i => 1 ≤ i ∧ i ≤ 3) ok (Pu.blt ok (by rfl) (by kernel_rfl) (by kernel_rfl)) (Ex.add (P1 := (· = 1)) (P2 := fun r => 0 ≤ r ∧ r < 3) ok (Pu.intP ok Pu.int)
      (takeEx (D := D) (D0 := D0) ok (by decide) (by rfl) (Pu.name ok (by rfl)) h16 l.wD l.wD0 l.fD l.fD0 (fun h j => j.1) (fun h h' u j d => j.take l u d)) (fun i j h1 h2 => by omega)) (fun i h => by omega) s t)
    [(⟨⟨[100, 114, 97, 119]⟩⟩, .raw (.ref D))] ⟨⟨by rfl, .inl (by rfl), .inl (by rfl), by rfl⟩, trivial⟩ (fun _ => ⟨by rfl, trivial⟩)
    (fun j ys => ∃ ts, ys = ts.map tblD ∧ ts.length = j ∧ TsOk ts) ⟨[], rfl, rfl, fun _ h => nomatch h⟩ (fun j ys ⟨ts, h1, h2, _⟩ => by rw [h1, List.length_map, h2]; exact Nat.le_refl _) (fun s6 t6 F h h' hFn u j => J1.mix l t6.j (fun a e => .inr (hFn a e)) u j)
    (fun n' bs I' D' C' h₂ K' j ys s6 t6 hN hj hk wk' hI' hD' hC' hV' hown ok => ?_) (by rfl) fun s2 n' bs ys hN hk ok t => ?_
  · have wv : ∀ a, two D D0 a = true → V a = true := fun a e => okk.wv a (l.two e).1
    have nt : ∀ {a b}, two D D0 a = true → tri I' D' C' b = true → a ≠ b := fun {a b} h1 h2 q => by
      subst q
      rw [hV' a (wv a h1)] at h2; cases h2
    have jout : ∀ h h', Up (two D D0) h h' → CompJ (lc w A V W L s₀ (ρ6 D) (J1 w.params D D0)) I' D' C' h₂ K' (j + 1) ys h → Drw D D0 h' → CompJ (lc w A V W L s₀ (ρ6 D) (J1 w.params D D0)) I' D' C' h₂ K' (j + 1) ys h' := fun h h' u q d =>
      ⟨q.j.take l u d, wk'.stab (j + 1) (two D D0) h h' (fun a e => ⟨.inl (fresh_l (wv a e)), nt e (by simp [tri])⟩) u q.k, q.row.up u (by
        cases e : two D D0 D'
        · rfl
        · exact absurd rfl (nt e (b := D') (by simp [tri]))) (fun a e => joinV_l (wv a e)), q.out.up u (fun a e => (l.two e).2.1) (fun a e => joinV_l (wv a e))⟩
    refine ⟨true, Tests.nil, ?_⟩
    rw [if_pos rfl]
    refine (Ex.call (X := two D D0) (J := Drw D D0) ok (Pu.glob ok (by rfl) (by kernel_rfl)) (fn304 _) (Pa.cons ok (Pu.name ok (by rfl)) (Pa.cons ok Pu.int Pa.nil)) (tableFn w D D0 0 (.inl rfl)) h26 (fun a e => joinV_l (l.two e).1) (fun a e => ?_) (fun h q => q.j.1) jout).weak fun b hb => ?_
    · cases h : frm _ a
      · rfl
      · rcases frm_cases h with h | ⟨z, h⟩
        · exact absurd h (nt e (b := C') (by simp [tri]))
        · have h2 : (callEnvC (fd335 w.params) L 335).cells.lookup z = some a := capOf_is (by rfl) z a h
          rw [← (l.two e).2.1]
          exact (frm_cell h2).symm
    · obtain ⟨ts, rfl, hl, hts⟩ := hk
      obtain ⟨tb, i, a, rfl, hb, h1, h8⟩ := hb
      refine ⟨tblD tb, rfl, ts ++ [tb], by rw [List.map_append]; rfl, by rw [List.length_append, hl]; rfl, fun q hq => ?_⟩
      rcases List.mem_append.mp hq with hq | hq
      · exact hts q hq
      · obtain rfl := List.mem_singleton.mp hq
        exact ⟨by rw [hb.len]; exact h1, by rw [hb.len]; exact h8, fun p hp => (hb.box p hp).2.1⟩
  · obtain ⟨ts, rfl, hl, hts⟩ := hk
    obtain ⟨i, hi, rfl, _⟩ := hN
    exact phase4 l (by omega) (by omega) hts ok t
end Mine
end TW72
section TW73
open PySem PySem.W PyProof.Rows PySem.Calls
set_option Elab.async false
namespace Mine
set_option maxRecDepth 100000
set_option maxHeartbeats 4000000
abbrev ρ2 (D : Addr) (tb : List (Int × Int)) : List (PySem.Str × Bnd) := [(⟨⟨[116, 97, 98, 108, 101]⟩⟩, .dat (tblD tb)), (⟨⟨[100, 114, 97, 119]⟩⟩, .raw (.ref D))]
theorem TblOk.sep {tb : List (Int × Int)} {i : Nat} {a : Int} (x : TblOk 1 tb i a) (h1 : 1 ≤ i) (h8 : i ≤ 8) : Sep tb :=
  ⟨by rw [x.len]; exact h1, by rw [x.len]; omega, fun p hp => (x.box p hp).2.1, x.row.imp fun h => by simpa using h⟩
theorem seqNeg1 {n : Nat} (h : 0 < n) : seqIndex? (-1) n = some (n - 1) := by
  unfold seqIndex?
  simp only [show ((-1 : Int) < 0) from by decide, if_true]
  rw [if_pos (by simp; omega)]
  exact congrArg some (by omega)
theorem phase2 {w : World} {A : Around} {V W : Vol} {L : Addr} {s₀ s : Shared} {D D0 : Addr} {tb : List (Int × Int)} {i : Nat} {a : Int} (l : LA V W (callEnvC (fd335 w.params) L 335) s₀ D D0) (hb : TblOk 1 tb i a) (h1 : 1 ≤ i) (h8 : i ≤ 8)
    (ok : (lc w A V W L s₀ (ρ2 D tb) (J1 w.params D D0)).Ok) (t : (lc w A V W L s₀ (ρ2 D tb) (J1 w.params D D0)).St s) :
    Do (lc w A V W L s₀ (ρ2 D tb) (J1 w.params D D0)) ((stmtsOf (fd335 w.params)).drop 2) (LawQ w.params s₀) s := by
  have h16 : 1 ≤ 6 := by decide
  have hs := hb.sep h1 h8
  have hp := hs.pos
  have hl : tb.length ≤ 8 := by rw [hb.len]; exact h8
  have m0 : nth tb 0 ∈ tb := by rw [nth_is hp]; exact List.getElem_mem _
  have m1 : nth tb (tb.length - 1) ∈ tb := by rw [nth_is (by omega)]; exact List.getElem_mem _
  have b0 := hb.box _ m0
  have b1 := hb.box _ m1
  have hi8 : (i : Int) ≤ 8 := by omega
  refine do_for (κ := Unit) ok (hitR2 (a := (nth tb 0).1 - 2) (b := (nth tb (tb.length - 1)).2 + 3) ok t (Pu.blt ok (by rfl) (by kernel_rfl) (by kernel_rfl))
      (Pu.sub ok (Pu.fst (k := 0) (t := tb) ok (Pu.name ok (by rfl)) Pu.int (by decide) (by omega) (by decide) (by intro _ _ _; with_unfolding_all rfl)) Pu.int)
      (Pu.add ok (Pu.sub_tup (k := 1) (j := 1) (ds := [.int (nth tb (tb.length - 1)).1, .int (nth tb (tb.length - 1)).2]) ok (Pu.sub_tup (k := -1) (j := tb.length - 1) (ds := tb.map pairD) ok (Pu.name ok (by rfl)) (Pu.neg ok Pu.int) (by decide) (by decide) (by rw [List.length_map]; exact seqNeg1 hp) (nth_map (by omega))) Pu.int (by decide) (by decide) (by rfl) (by rfl)) Pu.int)
      (by omega) (by omega) (by omega) (by omega))
    (fun _ => ρ2 D tb) (fun _ => J1 w.params D D0) (fun _ _ => True) (fun V' _ F h h' mx u j => J1.mix l t.j (fun a e => (mx a e).2.imp own_frm id) u j) () trivial (fun _ t => t) (fun I K j _ s4 v hj _ wk hI hV ok t hv => ?_) (fun _ s5 _ ok t => phase3 l ok.rho (t.sub ⟨by rfl, trivial⟩))
  refine asg1 ok t hv (.inl (by rfl)) fun s5 ok t => ?_
  generalize (nth tb 0).1 - 2 + (j : Int) = n at ok t
  have e2 : hasTs n [tb] = hasT n tb := by unfold hasTs; simp
  refine do_if (b := false) ok t (Te.cmp (b1 := .dat (.int (if hasT n tb then 1 else 0))) (b2 := .dat (if hasTs n [tb] then .int 1 else .int 0)) ok (Pu.call ok (Pu.glob ok (by rfl) (by kernel_rfl)) (fn46 _) (Pa.cons ok (Pu.name ok (by rfl)) (Pa.cons ok (Pu.name ok (by rfl)) Pa.nil)) (bisFn w n tb hs) h16)
    (Pu.ifE (b := hasTs n [tb]) ok (Te.plain (d := .bool (hasTs n [tb])) ok (Pu.call ok (Pu.glob ok (by rfl) (by kernel_rfl)) (fn311 _) (Pa.cons ok (Pu.lst (ds := [tblD tb]) ok (Pa.cons ok (Pu.name ok (by rfl)) Pa.nil) (by simp)) (Pa.cons ok (Pu.name ok (by rfl)) Pa.nil)) (hasFn w [tb] n) h16) rfl) Pu.int Pu.int)
    fun s u v t hu hv => ?_) (fun hb => nomatch hb) (fun _ s6 t => do_nil (do_nil ⟨(), trivial, t.sub ⟨by rfl, by rfl, trivial⟩⟩))
  rw [e2] at hv
  have := cNe (d := .int (if hasT n tb then 1 else 0)) (e := if hasT n tb then .int 1 else .int 0) ok hu hv (by rfl) (by cases hasT n tb <;> rfl)
  rw [show (!PyData.eqv (.int (if hasT n tb then 1 else 0)) (if hasT n tb then .int 1 else .int 0)) = false from by cases hasT n tb <;> rfl] at this
  exact this
end Mine
end TW73
section TW74
open PySem PySem.W PyProof.Rows PySem.Calls
set_option Elab.async false
namespace Mine
set_option maxRecDepth 100000
set_option maxHeartbeats 4000000
theorem lawRun {w : World} {A : Around} {V : Vol} {s : Shared} {vs : List Value} {is : List Int} (rm : Rm A 7) (vf : VFine w.params V s.heap) (hvs : HasAll V s.heap vs [.dat (.list (is.map .int))]) (his : is.length ≤ 2 ^ 16)
    (htab : TabSt lamPos (mq w.params) none s.heap) :
    wpAny (model pw w) A (call (.ref 335) vs) (fun v s' => v = .bool true ∧ Up (uno 175) s.heap s'.heap ∧ Sa s s' ∧ ∃ m', TabSt lamPos (mq w.params) m' s'.heap) (fun _ _ => False) s := by
  have h336 := vf.gl.size
  have hl := hvs.length
  have h16 : 1 ≤ 6 := by decide
  have h26 : 2 ≤ 6 := by decide
  refine enter (n := 6) (V := V) (X := uno 175) (bs := [.dat (.list (is.map .int))]) (J := TabSt lamPos (mq w.params) none) (ns := parNames (fd335 w.params)) (fn335 w.params) rm vf hvs (fun A' => ?_) ?_ (of_decide_eq_true (by rfl)) (by rfl)
    (fun a e => by rw [show a = 175 by simpa [uno] using e]; exact vf.vtab) htab htab.new fun L s1 hL nf ok t => ?_
  · match vs, hl with
    | [_], _ => exact wpAny_pure ⟨rfl, rfl⟩
  · match vs, hl with
    | [_], _ => rfl
  have f7 : frm (callEnvC (fd335 w.params) L 335) 175 = false := uno175_no nf (Nat.lt_of_lt_of_le (by decide) h336)
  obtain ⟨o, ho, hd⟩ := (fn290 w.params).ob
  refine do_cons (wpAny_Assign_Name ?_ (by rfl))
  refine Call_ (wpAny_mono ((Pu.glob (v := .ref 290) ok (by rfl) (by kernel_rfl) (by decide)) s1 t) (fun f s2 ⟨g2, a2, h2⟩ => ?_) fun _ _ f => f)
  obtain rfl : f = .ref 290 := h2
  have t2 := t.grow ok g2 a2
  refine callWith_def hd (wpAny_mono ((Pa.cons ok (Pu.name (b := .dat (.list (is.map .int))) ok (by rfl)) Pa.nil) s2 _ t2) (fun us s3 ⟨g3, a3, hus⟩ => ?_) fun _ _ f => f)
  have t3 := t2.grow ok g3 a3
  refine ⟨t3.gl 290 o (by decide) ho, wpAny_mono (drawFn (ok.rm.le h16) (t3.fine ok) hus his) (fun v s4 ⟨g4, a4, D, D0, e, hD, hD0, lD, lD0, dr⟩ => ?_) fun _ _ f => f⟩
  subst e
  have t4 := t3.grow ok g4 a4
  have z3 : s.heap.objs.size ≤ s3.heap.objs.size := t3.up.size
  have D336 : 336 ≤ D := Nat.le_trans h336 (Nat.le_trans z3 hD)
  have D0336 : 336 ≤ D0 := Nat.le_trans h336 (Nat.le_trans z3 hD0)
  have two_c : ∀ {a}, two D D0 a = true → a = D ∨ a = D0 := fun {a} h => (Bool.or_eq_true_iff.mp h).imp (fun e => by simpa using e) (fun e => by simpa using e)
  have two_lt : ∀ {a}, a < s3.heap.objs.size → two D D0 a = false := fun {a} h => by
    cases e : two D D0 a
    · rfl
    · rcases two_c e with rfl | rfl
      · exact absurd h (Nat.not_lt.mpr hD)
      · exact absurd h (Nat.not_lt.mpr hD0)
  have nofrm : ∀ {a}, s3.heap.objs.size ≤ a → frm (callEnvC (fd335 w.params) L 335) a = false := fun {a} h => by
    cases e : frm (callEnvC (fd335 w.params) L 335) a
    · rfl
    · exact absurd (t3.vok a (ok.wv a (ok.fw a e))) (Nat.not_lt.mpr h)
  have l : LA (joinV (joinV V (frm (callEnvC (fd335 w.params) L 335))) (two D D0)) (joinV (joinV (uno 175) (frm (callEnvC (fd335 w.params) L 335))) (two D D0)) (callEnvC (fd335 w.params) L 335) s D D0 :=
    ⟨joinV_r (by simp [two]), joinV_r (by simp [two]), nofrm hD, nofrm hD0, joinV_l (joinV_l (by simp [uno])), f7, Nat.ne_of_gt (Nat.lt_of_lt_of_le (by decide) D336), Nat.ne_of_gt (Nat.lt_of_lt_of_le (by decide) D0336), fun a h => by
      rcases Bool.or_eq_true_iff.mp h with h | h
      · rcases Bool.or_eq_true_iff.mp h with h | h
        · exact .inl (by simpa [uno] using h)
        · exact .inr (nf a h)
      · rcases two_c h with rfl | rfl
        · exact .inr (Nat.le_trans z3 hD)
        · exact .inr (Nat.le_trans z3 hD0)⟩
  have okN : (lc w (A.deeper (callEnvC (fd335 w.params) L 335)) (joinV (joinV V (frm (callEnvC (fd335 w.params) L 335))) (two D D0)) (joinV (joinV (uno 175) (frm (callEnvC (fd335 w.params) L 335))) (two D D0)) L s [] (J1 w.params D D0)).Ok :=
    ⟨ok.fn, ok.gb, ok.bi, ok.rm, fun a h => joinV_l (ok.fw a h), fun a h => (Bool.or_eq_true_iff.mp h).elim (fun h => joinV_l (ok.wv a h)) (fun h => joinV_r h), fun h h' u j => J1.mix l (hs := s4.heap) ⟨dr, t4.j⟩ (fun a e => .inl (own_frm e)) u j, ok.lc, ok.ap,
      fun a h1 h2 => joinV_f (ok.old a h1 h2) (two_lt (Nat.lt_of_lt_of_le h1 (Nat.le_trans h336 z3))), joinV_l ok.vtab⟩
  have tN : (lc w (A.deeper (callEnvC (fd335 w.params) L 335)) (joinV (joinV V (frm (callEnvC (fd335 w.params) L 335))) (two D D0)) (joinV (joinV (uno 175) (frm (callEnvC (fd335 w.params) L 335))) (two D D0)) L s [] (J1 w.params D D0)).St s4 :=
    ⟨t4.gl, fun b e => (Bool.or_eq_true_iff.mp e).elim (fun h => t4.vok b h) (fun h => by
      rcases two_c h with rfl | rfl
      · exact lD
      · exact lD0), let ⟨m, cm, f⟩ := t4.fr; ⟨m, cm, f.ns, f.cell, fun _ _ e => nomatch e⟩, t4.up.le fun _ h => joinV_l h, t4.sa, ⟨dr, t4.j⟩⟩
  refine wpAny_mono (store (x := ⟨⟨[100, 114, 97, 119]⟩⟩) (b := .raw (.ref D)) okN tN rfl (.inr ⟨by rfl, by rfl, by rfl⟩)) (fun _ s5 ⟨t5, _, _⟩ => ?_) fun _ _ f => f
  have ok5 := okN.put ⟨⟨[100, 114, 97, 119]⟩⟩ (.raw (.ref D))
  have key : Do ((lc w (A.deeper (callEnvC (fd335 w.params) L 335)) (joinV (joinV V (frm (callEnvC (fd335 w.params) L 335))) (two D D0)) (joinV (joinV (uno 175) (frm (callEnvC (fd335 w.params) L 335))) (two D D0)) L s [] (J1 w.params D D0)).put ⟨⟨[100, 114, 97, 119]⟩⟩ (.raw (.ref D))) ((stmtsOf (fd335 w.params)).drop 1) (LawQ w.params s) s5 := by
    refine do_assign ok5 t5 (Ex.call (X := two D D0) (J := Drw D D0) ok5 (Pu.glob ok5 (by rfl) (by kernel_rfl)) (fn304 _) (Pa.cons ok5 (Pu.name ok5 (by rfl)) (Pa.cons ok5 Pu.int Pa.nil)) (tableFn w D D0 1 (.inr rfl)) h26 (fun a e => (l.two e).1) (fun a e => (l.two e).2.1) (fun h q => q.1) (fun h h' u j d => j.take l u d)) (.inl (by rfl)) fun s6 b hb ok6 t6 => ?_
    obtain ⟨tb, i, a, rfl, hb, h1, h8⟩ := hb
    exact phase2 l hb h1 h8 ok6 t6
  exact key
end Mine
end TW74
section TW75
open PySem PySem.W PyProof.Rows
set_option Elab.async false
namespace Mine
set_option maxRecDepth 100000
set_option maxHeartbeats 4000000
theorem intsW_of {R : WRecords} : ∀ {xs : List WData}, WShape.hasItems R xs .int = true → ∃ is : List Int, xs = is.map WData.int
  | [], _ => ⟨[], rfl⟩
  | d :: xs, h => by
    have h' : (WShape.has R d .int && WShape.hasItems R xs .int) = true := by simpa [WShape.hasItems] using h
    obtain ⟨h1, h2⟩ := Bool.and_eq_true_iff.mp h'
    obtain ⟨i, rfl⟩ := hasW_int h1
    obtain ⟨is, rfl⟩ := intsW_of h2
    exact ⟨i :: is, rfl⟩
theorem ofPys_ints : ∀ (is : List Int), is.map WData.int = ofPys (is.map PyData.int)
  | [] => by simp [ofPys]
  | i :: r => by simp [ofPys, ofPy, ofPys_ints r]
theorem ofPy_ints (is : List Int) : (WData.list (is.map WData.int)) = ofPy (.list (is.map PyData.int)) := by
  rw [ofPys_ints]; simp [ofPy]
theorem pre_len {xs : List WData} (h : Challenge.rw_at6046_01.row.toRowW.pre.holds Challenge.rw_at6046_01.row.toRowW.records { args := [.list xs] } = true) : xs.length ≤ 63 := by
  have h2 : (WTm.holds [] (.and (.not (.lt (.lit (.int ((63 : Nat) : Int))) (.len (.arg 0)))) (.lit (.bool true))) { args := [.list xs] }) = true := h
  unfold WTm.holds at h2
  simp only [WTm.value, List.getElem?_cons_zero] at h2
  by_cases hlt : ((63 : Nat) : Int) < (xs.length : Int)
  · rw [show less? (WData.int ((63 : Nat) : Int)) (WData.int (xs.length : Int)) = some (decide (((63 : Nat) : Int) < (xs.length : Int))) from rfl, decide_eq_true hlt] at h2
    cases h2
  · omega
theorem ns_same {h : Heap} {a : Addr} {m m' : PySem.Str → Option Value} (x : h.Ns a m) (y : h.Ns a m') (n : PySem.Str) : m n = m' n := by
  obtain ⟨o, es, ep, e1, e2, _, e3⟩ := x
  obtain ⟨o', es', ep', f1, f2, _, f3⟩ := y
  rw [e1] at f1
  cases f1
  rw [e2] at f2
  cases f2
  rw [← e3, ← f3]
theorem post_ok (args : List WData) : Challenge.rw_at6046_01.row.claim.post args (.bool true) args = true := by
  show (WShape.has [] (.bool true) .bool && WTm.holds [] (.eq .res (.lit (.bool true))) { args := args, res := some (.bool true), after := args }) = true
  refine Bool.and_eq_true_iff.mpr ⟨by simp [WShape.has, WShape.arms], ?_⟩
  unfold WTm.holds
  simp only [WTm.value]
  rw [show same (WData.bool true) (WData.bool true) = true from by kernel_rfl]
theorem law335 (P : Params) : gmap P ("law" : PySem.Str) = some (.ref 335) := by kernel_rfl
theorem ints_hide {V : Vol} {h : Heap} : ∀ {vs : List Value} {is : List Int} {as : List Addr}, ReadsAll h vs (is.map .int) as → ∃ as', ReadsAll (hide V h) vs (is.map .int) as'
  | _, [], _, r => by cases r; exact ⟨_, .nil⟩
  | _, i :: is, _, r => by
    cases r with
    | cons a b =>
      obtain ⟨as', q⟩ := ints_hide (V := V) b
      cases a with
      | int i t => exact ⟨_, .cons (.int i t) q⟩
theorem list_dat {w : World} {h : Heap} {v : Value} {is : List Int} {as : List Addr} (Y : ∀ i o, (L1 w.params)[i]? = some o → h.get? i = some o) (r : Reads h v (.list (is.map .int)) as) : Dat (uno 175) h v (.list (is.map .int)) := by
  cases r with
  | list e hc hd q =>
    rename_i a o vs n as
    obtain ⟨as', q'⟩ := ints_hide (V := uno 175) q
    refine ⟨_, .list (hide_some.mpr ⟨uno_ne (fun q => ?_), e⟩) hc hd q'⟩
    subst q
    have t := Y 175 _ (by rfl)
    rw [e] at t
    cases t
    cases hc
theorem tab_none {w : World} {h : Heap} (Y : ∀ i o, (L1 w.params)[i]? = some o → h.get? i = some o) : TabSt lamPos (mq w.params) none h := Y 175 _ (by rfl)
theorem codeTab {w : World} {h : Heap} (Y : ∀ i o, (L1 w.params)[i]? = some o → h.get? i = some o) : isCodeTable h 175 := ⟨179, _, _, Y 179 _ (by rfl), by rfl, by rfl, by rfl⟩
theorem oldK {w : World} {h h' : Heap} (Y : ∀ i o, (L1 w.params)[i]? = some o → h.get? i = some o) (u : Up (uno 175) h h') {m' : Option Addr} (t : TabSt lamPos (mq w.params) m' h') : OldK h h' := by
  have t0 : h.get? 175 = some (tabObj #[]) := tab_none Y
  refine ⟨fun b o e => ?_, fun b o e => ?_⟩
  · by_cases hb : b = 175
    · subst hb
      rw [t0] at e
      cases e
      cases m' with
      | none => exact .inl t
      | some c' => exact .inr (.inl ⟨codeTab Y, rfl, #[], _, rfl, by rw [Array.empty_append]; exact t.1⟩)
    · exact .inl (u.keep b o (uno_ne hb) e)
  · by_cases hb : b = 175
    · subst hb
      cases m' with
      | none => exact ⟨_, t⟩
      | some c' => exact ⟨_, t.1⟩
    · exact ⟨o, u.keep b o (uno_ne hb) e⟩
theorem callRun {w : World} {s : Shared} {v : Value} {is : List Int} {as : List Addr} (Y : ∀ i o, (L1 w.params)[i]? = some o → s.heap.get? i = some o) (r : Reads s.heap v (.list (is.map .int)) as) (hl : is.length ≤ 63) :
    wpAny (model pw w) callerA (call (.ref 335) [v]) (fun v s' => v = .bool true ∧ OldK s.heap s'.heap ∧ Sa s s') (fun _ _ => False) s := by
  have gl : Gl w.params s.heap := fun i o _ e => Y i o e
  have vf : VFine w.params (uno 175) s.heap := ⟨gl, fun a e => by rw [show a = 175 by simpa [uno] using e]; exact Nat.lt_of_lt_of_le (by decide) gl.size, fun a _ h => uno_ne h, by simp [uno]⟩
  refine wpAny_mono (lawRun (V := uno 175) ⟨rfl, by decide, by decide⟩ vf (⟨list_dat Y r, trivial⟩ : HasAll (uno 175) s.heap [v] [.dat (.list (is.map .int))]) (by omega) (tab_none Y)) (fun v s' ⟨hv, u, sa, m', t⟩ => ⟨hv, oldK Y u t, sa⟩) fun _ _ f => f
end Mine
end TW75
section TW76
open PySem PySem.W PyProof.Rows
set_option Elab.async false
namespace Mine
set_option maxRecDepth 100000 in
set_option maxHeartbeats 8000000 in
theorem main : PySem.Challenge.rw_at6046_01.Holds := by
  w_on
  o_law
  refine holds_open (q := qv) (loose := lo) (Xt := Xt) (XP := XL qv []) (Yf := Yf) (Ya := Ya) (YP := YP) (N := 5000) left Y_of Y_keeps (fun s e => xl_of s (Bool.and_eq_true_iff.mp e).1) XL.keeps (by rfl) (by rfl) (by rfl) (fun s e => recFacts_of (Bool.and_eq_true_iff.mp e).2) (by rfl) (by assumption) (by decide +kernel) ⟨rfl, rfl, rfl, rfl, rfl, by decide +kernel⟩ ?hw ?hc
  case hw => w_witness2
  intro w s₀ s₁ mg mb G Y a o pm cd doc dV kV ho hd hcr hdf hmg hgens args vals as hpre hlay hrd hwell hnosys
  obtain ⟨hsh, hpr⟩ := Bool.and_eq_true_iff.mp hpre
  obtain ⟨d, r, rfl, hd1, hr⟩ := hasAllW_cons hsh
  obtain rfl := hasAllW_nil hr
  obtain ⟨xs, rfl, hit⟩ := hasW_list hd1
  obtain ⟨is, rfl⟩ := intsW_of hit
  have hlen := pre_len hpr
  rw [List.length_map] at hlen
  rw [ofPy_ints] at hrd
  have gl : Gl w.params s₁.heap := fun i o _ e => Y i o e
  have ha : a = 335 := by
    have e := (ns_same G.T.g gl.ns3 _).symm.trans hmg
    have e2 : gmap w.params ("law" : PySem.Str) = some (.ref a) := e
    rw [law335] at e2
    cases e2
    rfl
  subst ha
  cases hrd with
  | cons r1 r2 =>
    cases r2
    rename_i v as' 
    refine wpAny_mono (callRun Y (reads_of_readsW _ r1) hlen) (fun v' s' ⟨hv, K, sa⟩ => ?_) fun _ _ f => f.elim
    subst hv
    exact ⟨.inl ⟨_, .bool true, [], rfl, fun _ => rfl, .bool true, post_ok _, fun _ => ⟨.nil, fun _ h => nomatch h⟩⟩, K, sa.os, .of_eq (sa.gens.trans hgens)⟩
end Mine
end TW76
set_option maxRecDepth 100000 in
set_option maxHeartbeats 8000000 in
theorem PySem.Challenge.cw_at6046_01_holds : PySem.Challenge.rw_at6046_01.Holds := by
  exact Mine.main
