import JvmDerived
import JvmDerived.Pilot.@@N@@Statement
import JvmDerived.Pilot.@@N@@Code
set_option linter.unusedVariables false
set_option linter.unusedSimpArgs false
@@BLOCK:NumsL.lean.txt@@
namespace Jvm.RoadKit
open Sem ClassFile Op Lib Jvm.Stand Jvm.Free Jvm.LawKit
section New
variable {p : Program} {l : Launch} {e : Env} {R : Room} {s : State} {m : MethodId} {args : Array Value} {below : List Frame} {meth : Method} {c : Code} {T : State} {locs : List Loc} {cells slots : Nat}
theorem retI (X : Stand p l e R s m args below meth c T locs cells slots) (hx : p.tables.exec = Jvm.exec) {pc : Nat} {Ls : Array Slot} {z : Int32} {rest : List Value} (hret : meth.sig.returnType = some .int) (hd : decode c.code pc = .ok (.ireturn, 1)) {fs : List Frame}
    (hl : ∀ (f : JFrame) (acts : List Action), f.method = m → f.locked = none → f.entered = [] → (doReturn e (T.setTop f) acts (some (.int z))).1 = T.setFrames fs) : Steps p.tables e below (T.setTop (mkF m pc Ls (.int z :: rest))) (T.setFrames fs) := by
  have hm' : T.vm.method? m = some meth := X.method'
  have hn : narrow .int (.int z) = .int z := rfl
  show Steps p.tables e below (T.setTop { method := m, pc := pc, locals := Ls, stack := _ :: rest, locked := none }) _
  jvm_step X.here [X.here.top, hx, hd, hm', hret, hn]
  first | (intro acts; rw [hl _ acts rfl rfl rfl]) | rw [hl _ _ rfl rfl rfl]
  exact Steps.refl _
/-- from U the run comes to its end, and Q holds there -/
def OwnEnds (p : Program) (e : Env) (below : List Frame) (Q : Outcome → State → Prop) (U : State) : Prop := ∃ s₂ o, Steps p.tables e below U s₂ ∧ s₂.status = .running ∧ Ended s₂ below o ∧ Q o s₂
theorem OwnEnds.pre {Q : Outcome → State → Prop} {U U' : State} (h : ∀ t, Steps p.tables e below U' t → Steps p.tables e below U t) (k : OwnEnds p e below Q U') : OwnEnds p e below Q U := by
  obtain ⟨s₂, o, h1, h2⟩ := k
  exact ⟨s₂, o, h _ h1, h2⟩
def OwnQ (s : State) (Q : Option Value → Heap → List Loc → Prop) (C S : Nat) : Outcome → State → Prop := fun o U' => ∃ v L, o = .returned v ∧ Q v U'.heap L ∧ FrameEnd s o U' L C S
theorem own_endI (X : Stand p l e R s m args below meth c T locs cells slots) (hx : p.tables.exec = Jvm.exec) (hlocks : meth.locks = false) {pc : Nat} {Ls : Array Slot} {z : Int32} {rest : List Value} (hret : meth.sig.returnType = some .int) (hd : decode c.code pc = .ok (.ireturn, 1))
    {Q : Option Value → Heap → List Loc → Prop} {C S : Nat} (hC : cells ≤ C) (hS : slots ≤ S) (hQ : Q (some (.int z)) T.heap locs) : OwnEnds p e below (OwnQ s Q C S) (T.setTop (mkF m pc Ls (.int z :: rest))) := by
  obtain ⟨fs, hr, hrun, hended, hW, hsame⟩ := X.leave (v := some (.int z)) (fun h => by rw [hret] at h; cases h) hlocks
  exact ⟨_, _, retI X hx hret hd hr, hrun, hended, _, _, rfl, hQ, ⟨_, rfl⟩, hW, hsame.mono hC hS⟩
theorem own_endN (X : Stand p l e R s m args below meth c T locs cells slots) (hx : p.tables.exec = Jvm.exec) (hlocks : meth.locks = false) {pc : Nat} {Ls : Array Slot} {z z' : Int32} {t : FieldType} {rest : List Value} (hret : meth.sig.returnType = some t) (ht : t = .boolean ∨ t = .byte ∨ t = .char ∨ t = .short) (hd : decode c.code pc = .ok (.ireturn, 1)) (hz : nar t z = z')
    {Q : Option Value → Heap → List Loc → Prop} {C S : Nat} (hC : cells ≤ C) (hS : slots ≤ S) (hQ : Q (some (.int z')) T.heap locs) : OwnEnds p e below (OwnQ s Q C S) (T.setTop (mkF m pc Ls (.int z :: rest))) := by
  subst hz
  obtain ⟨fs, hr, hrun, hended, hW, hsame⟩ := X.leave (v := some (.int (nar t z))) (fun h => by rw [hret] at h; cases h) hlocks
  exact ⟨_, _, retN X hx hret ht hd hr, hrun, hended, _, _, rfl, hQ, ⟨_, rfl⟩, hW, hsame.mono hC hS⟩
theorem own_endJ (X : Stand p l e R s m args below meth c T locs cells slots) (hx : p.tables.exec = Jvm.exec) (hlocks : meth.locks = false) {pc : Nat} {Ls : Array Slot} {z : Int64} (hret : meth.sig.returnType = some .long) (hd : decode c.code pc = .ok (.lreturn, 1))
    {Q : Option Value → Heap → List Loc → Prop} {C S : Nat} (hC : cells ≤ C) (hS : slots ≤ S) (hQ : Q (some (.long z)) T.heap locs) : OwnEnds p e below (OwnQ s Q C S) (T.setTop (mkF m pc Ls [.long z])) := by
  obtain ⟨fs, hr, hrun, hended, hW, hsame⟩ := X.leave (v := some (.long z)) (fun h => by rw [hret] at h; cases h) hlocks
  exact ⟨_, _, X.lreturnOut hx hret hd hr, hrun, hended, _, _, rfl, hQ, ⟨_, rfl⟩, hW, hsame.mono hC hS⟩
theorem own_endV (X : Stand p l e R s m args below meth c T locs cells slots) (hx : p.tables.exec = Jvm.exec) (hlocks : meth.locks = false) {pc : Nat} {Ls : Array Slot} (hret : meth.sig.returnType = none) (hd : decode c.code pc = .ok (.return_, 1))
    {Q : Option Value → Heap → List Loc → Prop} {C S : Nat} (hC : cells ≤ C) (hS : slots ≤ S) (hQ : Q none T.heap locs) : OwnEnds p e below (OwnQ s Q C S) (T.setTop (mkF m pc Ls [])) := by
  obtain ⟨fs, hr, hrun, hended, hW, hsame⟩ := X.leave (v := none) (fun _ => rfl) hlocks
  exact ⟨_, _, X.returnOut hx hret hd hr, hrun, hended, _, _, rfl, hQ, ⟨_, rfl⟩, hW, hsame.mono hC hS⟩
theorem own_endR (X : Stand p l e R s m args below meth c T locs cells slots) (hx : p.tables.exec = Jvm.exec) (hlocks : meth.locks = false) {pc : Nat} {Ls : Array Slot} {w : Value} {t : FieldType} {rest : List Value} (hret : meth.sig.returnType = some t) (ht : t.isReference = true) (hw : w.isRef = true) (hd : decode c.code pc = .ok (.areturn, 1))
    {Q : Option Value → Heap → List Loc → Prop} {C S : Nat} (hC : cells ≤ C) (hS : slots ≤ S) (hQ : Q (some w) T.heap locs) : OwnEnds p e below (OwnQ s Q C S) (T.setTop (mkF m pc Ls (w :: rest))) := by
  obtain ⟨fs, hr, hrun, hended, hW, hsame⟩ := X.leave (v := some w) (fun h => by rw [hret] at h; cases h) hlocks
  have hn : narrow t w = w := by cases t <;> first | rfl | (cases ht)
  exact ⟨_, _, retOut X hx hret hn (Or.inr (Or.inr (Or.inr (Or.inr ⟨rfl, ht, hw⟩)))) hd hr, hrun, hended, _, _, rfl, hQ, ⟨_, rfl⟩, hW, hsame.mono hC hS⟩
theorem own_getI (l : List Int32) (i : Nat) : (l.map Value.int).getD i (.int 0) = .int (l.getD i 0) := by
  simp only [List.getD_eq_getElem?_getD, List.getElem?_map]
  cases l[i]? <;> rfl
theorem own_getJ (l : List Int64) (i : Nat) : (l.map Value.long).getD i (.long 0) = .long (l.getD i 0) := by
  simp only [List.getD_eq_getElem?_getD, List.getElem?_map]
  cases l[i]? <;> rfl
theorem own_nin0 {a : Addr} : a ∉ ([] : List Addr) := List.not_mem_nil
theorem own_nin1 {a b : Addr} (h : a ≠ b) : a ∉ [b] := by simpa using h
theorem own_nin2 {a b c : Addr} (h : a ≠ b) (h' : a ≠ c) : a ∉ [b, c] := by simpa using ⟨h, h'⟩
theorem own_staK0 {Z : State} {h h' : Heap} {C n d : String} {v : Value} (F : Sta Z h C n d v) (K : Keep h h' []) : Sta Z h' C n d v := by
  obtain ⟨cf, i, k, f, st, cell, h1, h2, h3, h4, h5, h6, h7⟩ := F
  exact ⟨cf, i, k, f, st, cell, h1, h2, h3, h4, K.2.1 st cell h5 own_nin0, h6, h7⟩
theorem own_staK1 {Z : State} {h h' : Heap} {C n d D : String} {v : Value} {x : Addr} (F : Sta Z h C n d v) (K : Keep h h' [x]) (E : Exa Z h x D) : Sta Z h' C n d v := by
  obtain ⟨cf, i, k, f, st, cell, h1, h2, h3, h4, h5, h6, h7⟩ := F
  obtain ⟨cl, kk, e1, e2, e3, e4, e5⟩ := E
  refine ⟨cf, i, k, f, st, cell, h1, h2, h3, h4, K.2.1 st cell h5 (own_nin1 fun q => ?_), h6, h7⟩
  subst q
  cases h5.symm.trans e1
  rw [h6] at e4
  cases e4
theorem own_nsroot {Z : State} {a0 : Array Value} {O K : String} {n : Nat} (w : (Cond.noSuperclass O).before a0 Z = true) (wk : (Cond.instantiable K n).before a0 Z = true) (hn : O ≠ K) : NS Z O K := by
  obtain ⟨c, k, h1, h2, h3, -, -⟩ := Cond.noSuperclass_spec w
  obtain ⟨t, kt, g1, -⟩ := Cond.instantiable_spec wk
  have ne := ids_ne h1 g1 hn
  refine ⟨c, t, h1, g1, fun fuel => ?_⟩
  cases fuel with
  | zero => rfl
  | succ f => simp [Vm.isSubclassAux, ne, h2, h3]
theorem own_nsno {Z : State} {a0 : Array Value} {C S K : String} {n : Nat} (w : (Cond.superclass C S).before a0 Z = true) (wk : (Cond.instantiable K n).before a0 Z = true) (ns : NS Z C K) (hn : C ≠ K) : ∃ c t, Z.vm.findClass C = some c ∧ Z.vm.findClass K = some t ∧ Z.vm.assignable c t = false := by
  obtain ⟨c, t, h0, g0, n3⟩ := ns
  obtain ⟨p, k, kp, h1, h2, h3, h4, h5, -, h7⟩ := Cond.superclass_spec h0 w
  obtain ⟨t', kt, g1, g2, g3, g4, -⟩ := Cond.instantiable_spec wk
  cases g0.symm.trans g1
  have g7 : kt.isInterface = false := by simp only [Bool.or_eq_false_iff] at g4; exact g4.1
  have ne := ids_ne h0 g0 hn
  refine ⟨c, t, h0, g0, ?_⟩
  show Z.vm.assignableAux (255 + 1) c t = false
  simp [Vm.assignableAux, ne, h2, g2, h5, g3, g7, Vm.isSubclass, n3]
end New
end Jvm.RoadKit
namespace Jvm.Pilot.@@N@@
open Jvm Jvm.ClassFile Sem Op Lib Jvm.Free Jvm.Stand Jvm.LawKit Jvm.RoadKit Bundle Jvm.Pilot.@@N@@.Jvm.D
theorem d2_0 : decode jdk_30_method_1_code 0 = .ok (.aload_n 0, 1) := by decide +kernel
theorem d2_1 : decode jdk_30_method_1_code 1 = .ok (.invokespecial 1, 3) := by decide +kernel
theorem d2_4 : decode jdk_30_method_1_code 4 = .ok (.return_, 1) := by decide +kernel
theorem ef_2 (m : MethodId) (a0 : Addr) : entryFrame m #[(.ref a0)] 1 = mkF m 0 #[.val (.ref a0)] [] := by first | (simp [entryFrame, mkF, argsToLocals, Value.category]; done) | rfl
theorem pn_0 : plainName "java/lang/Record" = true := by first | (simp [plainName, overriddenIn]; done) | decide +kernel
def Q2 (Z : State) (a0 : Addr) (h0 : Heap) (n0 : Nat) (v : Option Value) (h : Heap) (L : List Loc) : Prop := v = none ∧ Fr n0 L ∧ h = h0
set_option maxRecDepth 65536 in
set_option maxHeartbeats 40000000 in
theorem rm2 (l : Launch) (Z : State) (aZ : Array Value) (hw : ∀ d ∈ tables_1, d.before aZ Z = true) (ws : List Jvm.Cond) (a0 : Addr) (h0 : Heap) (n0 : Nat) (Z0 : n0 ≤ h0.size) :
    MetFree l (⟨"java/lang/Record", "<init>", "()V"⟩ : MethodName) (head1 (Jvm.Cond.code (⟨"java/lang/Record", "<init>", "()V"⟩ : MethodName) jdk_30_method_1_code 1 none :: ws) ({ frames := 1, cells := 0, slots := 0, locals := 12 } : Room)) (fun a U => a = #[(.ref a0)] ∧ Z.Warmed39 U.vm ∧ U.heap = h0) (fun _ _ _ _ _ => True) (fun _ U o U' => ∃ v L, o = .returned v ∧ Q2 Z a0 h0 n0 v U'.heap L ∧ FrameEnd U o U' L 0 0) := by
  refine MetFree.of_bodySF (plainFor_of_name pn_0) hisR ?_
  intro p e s m args below meth c s₁ Bd hml0 hP hK
  obtain ⟨rfl, hZ, hh⟩ := hP
  have hx := Bd.exec
  have hby := Bd.bytes
  have hml : c.maxLocals = 1 := hml0
  have hown : s.vm.findClass "java/lang/Record" = some m.cls := findClass_of_methodNamed Bd.named
  have hnm := (name_of_methodNamed Bd.named Bd.method).1
  have hlk := BodyLoose.notSynchronized Bd
  have X0 : Stand p l e ({ frames := 1, cells := 0, slots := 0, locals := 12 } : Room) s m #[(.ref a0)] below meth c s₁ [] 0 0 := Stand.of_body Bd
  have e0 : s₁.heap = h0 := by rw [← hh, Bd.state]; rfl
  have N0 := Fr.nil n0
  have hk0 : 0 ≤ 0 := Nat.zero_le _
  have hn0 : 0 ≤ 0 := Nat.zero_le _
  show OwnEnds p e below (OwnQ s (Q2 Z a0 h0 n0) 0 0) (s₁.setTop (entryFrame m #[(.ref a0)] 1))
  refine .pre (fun t k => castTop (ef_2 m a0) k) ?_
  show OwnEnds p e below _ (s₁.setTop (mkF m 0 #[.val (.ref a0)] []))
  refine .pre (fun _ k => XS.aloadN X0.here hx rfl (hb hby d2_0) rfl rfl k) ?_
  show OwnEnds p e below _ (s₁.setTop (mkF m 1 #[.val (.ref a0)] [(.ref a0)]))
  obtain ⟨T1, X1, e1, st1⟩ := initO X0 hx hZ hown (hw _ (List.mem_of_getElem? (i := 11) rfl)) (hw _ (List.mem_of_getElem? (i := 12) rfl)) (hw _ (List.mem_of_getElem? (i := 13) rfl)) e0 (g := (mkF m 1 #[.val (.ref a0)] [(.ref a0)])) rfl (by rw [hml]; rfl) rfl (hb hby d2_1) (by decide) (W := 0) (by show 2 * 0 + _ ≤ _; exact Nat.le_of_eq rfl) (by decide)
  refine .pre (fun _ k => st1 _ k) ?_
  show OwnEnds p e below _ (T1.setTop (mkF m 4 #[.val (.ref a0)] []))
  exact own_endV X1 hx hlk Bd.returns (hb hby d2_4) (by decide) (by decide) ⟨rfl, N0, e1⟩
theorem d1_0 : decode prog_64_method_1_code 0 = .ok (.aload_n 0, 1) := by decide +kernel
theorem d1_1 : decode prog_64_method_1_code 1 = .ok (.invokespecial 1, 3) := by decide +kernel
theorem d1_4 : decode prog_64_method_1_code 4 = .ok (.aload_n 0, 1) := by decide +kernel
theorem d1_5 : decode prog_64_method_1_code 5 = .ok (.aload_n 1, 1) := by decide +kernel
theorem d1_6 : decode prog_64_method_1_code 6 = .ok (.putfield 7, 3) := by decide +kernel
theorem d1_9 : decode prog_64_method_1_code 9 = .ok (.aload_n 0, 1) := by decide +kernel
theorem d1_10 : decode prog_64_method_1_code 10 = .ok (.iload_n 2, 1) := by decide +kernel
theorem d1_11 : decode prog_64_method_1_code 11 = .ok (.putfield 13, 3) := by decide +kernel
theorem d1_14 : decode prog_64_method_1_code 14 = .ok (.return_, 1) := by decide +kernel
theorem ef_1 (m : MethodId) (a0 : Addr) (p2 : Int32) : entryFrame m #[(.ref a0), .null, (.int p2)] 3 = mkF m 0 #[.val (.ref a0), .val .null, .val (.int p2)] [] := by first | (simp [entryFrame, mkF, argsToLocals, Value.category]; done) | rfl
theorem pn_1 : plainName "com/example/hardy_queue/hardyqueue/store/QueueKey" = true := by first | (simp [plainName, overriddenIn]; done) | decide +kernel
theorem pd_2 : parseMethodDescriptor "()V" = some ⟨[], none⟩ := by decide +kernel
def Q1 (Z : State) (a0 : Addr) (p2 : Int32) (u_topic : Value) (u_queueId : Value) (h0 : Heap) (n0 : Nat) (v : Option Value) (h : Heap) (L : List Loc) : Prop := v = none ∧ Fr n0 L ∧ Keep h0 h [a0] ∧ Exa Z h a0 "com/example/hardy_queue/hardyqueue/store/QueueKey" ∧ Fld Z h a0 "com/example/hardy_queue/hardyqueue/store/QueueKey" "topic" "Ljava/lang/String;" .null ∧ Fld Z h a0 "com/example/hardy_queue/hardyqueue/store/QueueKey" "queueId" "I" (.int p2)
set_option maxRecDepth 65536 in
set_option maxHeartbeats 40000000 in
theorem rm1 (l : Launch) (Z : State) (aZ : Array Value) (hw : ∀ d ∈ tables_1, d.before aZ Z = true) (ws : List Jvm.Cond) (a0 : Addr) (p2 : Int32) (u_topic : Value) (u_queueId : Value) (h0 : Heap) (n0 : Nat) (Z0 : n0 ≤ h0.size) (g_a0 : n0 ≤ a0) (E_a0 : Exa Z h0 a0 "com/example/hardy_queue/hardyqueue/store/QueueKey") (F_u_topic : Fld Z h0 a0 "com/example/hardy_queue/hardyqueue/store/QueueKey" "topic" "Ljava/lang/String;" u_topic) (F_u_queueId : Fld Z h0 a0 "com/example/hardy_queue/hardyqueue/store/QueueKey" "queueId" "I" u_queueId) :
    MetFree l (⟨"com/example/hardy_queue/hardyqueue/store/QueueKey", "<init>", "(Ljava/lang/String;I)V"⟩ : MethodName) (head1 (Jvm.Cond.code (⟨"com/example/hardy_queue/hardyqueue/store/QueueKey", "<init>", "(Ljava/lang/String;I)V"⟩ : MethodName) prog_64_method_1_code 3 none :: ws) ({ frames := 2, cells := 0, slots := 0, locals := 24 } : Room)) (fun a U => a = #[(.ref a0), .null, (.int p2)] ∧ Z.Warmed39 U.vm ∧ U.heap = h0) (fun _ _ _ _ _ => True) (fun _ U o U' => ∃ v L, o = .returned v ∧ Q1 Z a0 p2 u_topic u_queueId h0 n0 v U'.heap L ∧ FrameEnd U o U' L 0 0) := by
  refine MetFree.of_bodySF (plainFor_of_name pn_1) hisR ?_
  intro p e s m args below meth c s₁ Bd hml0 hP hK
  obtain ⟨rfl, hZ, hh⟩ := hP
  have hx := Bd.exec
  have hby := Bd.bytes
  have hml : c.maxLocals = 3 := hml0
  have hown : s.vm.findClass "com/example/hardy_queue/hardyqueue/store/QueueKey" = some m.cls := findClass_of_methodNamed Bd.named
  have hnm := (name_of_methodNamed Bd.named Bd.method).1
  have hlk := BodyLoose.notSynchronized Bd
  have X0 : Stand p l e ({ frames := 2, cells := 0, slots := 0, locals := 24 } : Room) s m #[(.ref a0), .null, (.int p2)] below meth c s₁ [] 0 0 := Stand.of_body Bd
  have e0 : s₁.heap = h0 := by rw [← hh, Bd.state]; rfl
  have N0 := Fr.nil n0
  have hk0 : 0 ≤ 0 := Nat.zero_le _
  have hn0 : 0 ≤ 0 := Nat.zero_le _
  show OwnEnds p e below (OwnQ s (Q1 Z a0 p2 u_topic u_queueId h0 n0) 0 0) (s₁.setTop (entryFrame m #[(.ref a0), .null, (.int p2)] 3))
  refine .pre (fun t k => castTop (ef_1 m a0 p2) k) ?_
  show OwnEnds p e below _ (s₁.setTop (mkF m 0 #[.val (.ref a0), .val .null, .val (.int p2)] []))
  refine .pre (fun _ k => XS.aloadN X0.here hx rfl (hb hby d1_0) rfl rfl k) ?_
  show OwnEnds p e below _ (s₁.setTop (mkF m 1 #[.val (.ref a0), .val .null, .val (.int p2)] [(.ref a0)]))
  obtain ⟨_, _, ⟨T1, L1, k1, n1⟩, -, X1, ⟨Lc1, hQ1, l1, y1, z1⟩, st1⟩ := X0.specialBack hx (y := (⟨"java/lang/Record", "<init>", "()V"⟩ : MethodName)) rfl hown (mvT hZ (hw _ (List.mem_of_getElem? (i := 6) rfl))) (mvT hZ (hw _ (List.mem_of_getElem? (i := 7) rfl))) (mvT hZ (hw _ (List.mem_of_getElem? (i := 10) rfl))) (by decide) (backOf (W := 0) (rm2 l Z aZ hw [] a0 h0 n0 Z0) hZ (hw _ (List.mem_of_getElem? (i := 10) rfl)) (hw _ (List.mem_of_getElem? (i := 9) rfl)) (by decide) (by decide)) (g := (mkF m 1 #[.val (.ref a0), .val .null, .val (.int p2)] [(.ref a0)])) rfl (by rw [hml]; rfl) (Steps.refl _) (a := a0) (argsL := []) (rest := []) (lenOf pd_2 rfl) rfl (by show 2 * 0 + _ ≤ _; exact Nat.le_of_eq rfl) (hb hby d1_1) (fun _ _ => ⟨rfl, e0, (by decide : 0 + 0 ≤ _), (by decide : 0 + 0 ≤ _)⟩)
  dsimp only [Pt.U, Pt.locs, Pt.cells, Pt.slots] at X1 l1 y1 z1 st1 hQ1
  subst l1 y1 z1
  obtain ⟨rfl, N1q, e1⟩ := hQ1
  have N1 := Fr.app N0 N1q
  refine .pre (fun _ k => st1.trans k) ?_
  show OwnEnds p e below _ (T1.setTop (mkF m 4 #[.val (.ref a0), .val .null, .val (.int p2)] []))
  refine .pre (fun _ k => XS.aloadN X1.here hx rfl (hb hby d1_4) rfl rfl k) ?_
  show OwnEnds p e below _ (T1.setTop (mkF m 5 #[.val (.ref a0), .val .null, .val (.int p2)] [(.ref a0)]))
  refine .pre (fun _ k => XS.aloadN X1.here hx rfl (hb hby d1_5) rfl rfl k) ?_
  show OwnEnds p e below _ (T1.setTop (mkF m 6 #[.val (.ref a0), .val .null, .val (.int p2)] [.null, (.ref a0)]))
  obtain ⟨T2, h2, X2, e2, W2, st2⟩ := putF X1 hx hZ hown (host := "") (Or.inl (hw _ (List.mem_of_getElem? (i := 14) rfl))) Via.refl e1 F_u_topic E_a0 (Or.inr ⟨(hw _ (List.mem_of_getElem? (i := 15) rfl)), rfl, hnm⟩) (hw _ (List.mem_of_getElem? (i := 1) rfl)) (ty := (.object "java/lang/String")) (by decide) rfl rfl (g := (mkF m 6 #[.val (.ref a0), .val .null, .val (.int p2)] [.null, (.ref a0)])) rfl rfl (hb hby d1_6)
  have Fw2 := F_u_topic.same W2
  have N2 := Fr.snoc X2 N1 g_a0
  have Kp2 : Keep h0 h2 [a0] := (Keep.refl h0 [a0]).wr W2 (Or.inl (List.mem_of_getElem? (i := 0) rfl))
  refine .pre (fun _ k => st2 _ k) ?_
  show OwnEnds p e below _ (T2.setTop (mkF m 9 #[.val (.ref a0), .val .null, .val (.int p2)] []))
  refine .pre (fun _ k => XS.aloadN X2.here hx rfl (hb hby d1_9) rfl rfl k) ?_
  show OwnEnds p e below _ (T2.setTop (mkF m 10 #[.val (.ref a0), .val .null, .val (.int p2)] [(.ref a0)]))
  refine .pre (fun _ k => XS.iloadN X2.here hx rfl (hb hby d1_10) rfl k) ?_
  show OwnEnds p e below _ (T2.setTop (mkF m 11 #[.val (.ref a0), .val .null, .val (.int p2)] [(.int p2), (.ref a0)]))
  obtain ⟨T3, h3, X3, e3, W3, st3⟩ := putF X2 hx hZ hown (host := "") (Or.inl (hw _ (List.mem_of_getElem? (i := 16) rfl))) Via.refl e2 (F_u_queueId.other W2 (Or.inr (slot_ne (Or.inr (hw _ (List.mem_of_getElem? (i := 17) rfl))) (Or.inr (hw _ (List.mem_of_getElem? (i := 15) rfl))) (by decide) (t := .int) (t' := (.object "java/lang/String")) (by decide) (by decide)))) (E_a0.wr W2) (Or.inr ⟨(hw _ (List.mem_of_getElem? (i := 17) rfl)), rfl, hnm⟩) (hw _ (List.mem_of_getElem? (i := 1) rfl)) (ty := .int) (by decide) rfl rfl (g := (mkF m 11 #[.val (.ref a0), .val .null, .val (.int p2)] [(.int p2), (.ref a0)])) rfl rfl (hb hby d1_11)
  have Fw3 := (F_u_queueId.other W2 (Or.inr (slot_ne (Or.inr (hw _ (List.mem_of_getElem? (i := 17) rfl))) (Or.inr (hw _ (List.mem_of_getElem? (i := 15) rfl))) (by decide) (t := .int) (t' := (.object "java/lang/String")) (by decide) (by decide)))).same W3
  have N3 := Fr.snoc X3 N2 g_a0
  have Kp3 : Keep h0 h3 [a0] := Kp2.wr W3 (Or.inl (List.mem_of_getElem? (i := 0) rfl))
  refine .pre (fun _ k => st3 _ k) ?_
  show OwnEnds p e below _ (T3.setTop (mkF m 14 #[.val (.ref a0), .val .null, .val (.int p2)] []))
  exact own_endV X3 hx hlk Bd.returns (hb hby d1_14) (by decide) (by decide) ⟨rfl, N3, (by rw [e3]; exact Kp3), (by rw [e3]; exact ((E_a0.wr W2).wr W3)), (by rw [e3]; exact (Fw2.other W3 (Or.inr (slot_ne (Or.inr (hw _ (List.mem_of_getElem? (i := 15) rfl))) (Or.inr (hw _ (List.mem_of_getElem? (i := 17) rfl))) (by decide) (t := (.object "java/lang/String")) (t' := .int) (by decide) (by decide))))), (by rw [e3]; exact Fw3)⟩
theorem d4_0 : decode prog_9_method_1_code 0 = .ok (.aload_n 0, 1) := by decide +kernel
theorem d4_1 : decode prog_9_method_1_code 1 = .ok (.invokespecial 1, 3) := by decide +kernel
theorem d4_4 : decode prog_9_method_1_code 4 = .ok (.aload_n 0, 1) := by decide +kernel
theorem d4_5 : decode prog_9_method_1_code 5 = .ok (.aload_n 1, 1) := by decide +kernel
theorem d4_6 : decode prog_9_method_1_code 6 = .ok (.putfield 7, 3) := by decide +kernel
theorem d4_9 : decode prog_9_method_1_code 9 = .ok (.aload_n 0, 1) := by decide +kernel
theorem d4_10 : decode prog_9_method_1_code 10 = .ok (.aload_n 2, 1) := by decide +kernel
theorem d4_11 : decode prog_9_method_1_code 11 = .ok (.putfield 13, 3) := by decide +kernel
theorem d4_14 : decode prog_9_method_1_code 14 = .ok (.aload_n 0, 1) := by decide +kernel
theorem d4_15 : decode prog_9_method_1_code 15 = .ok (.lload_n 3, 1) := by decide +kernel
theorem d4_16 : decode prog_9_method_1_code 16 = .ok (.putfield 17, 3) := by decide +kernel
theorem d4_19 : decode prog_9_method_1_code 19 = .ok (.aload_n 0, 1) := by decide +kernel
theorem d4_20 : decode prog_9_method_1_code 20 = .ok (.iload 5, 2) := by decide +kernel
theorem d4_22 : decode prog_9_method_1_code 22 = .ok (.putfield 21, 3) := by decide +kernel
theorem d4_25 : decode prog_9_method_1_code 25 = .ok (.aload_n 0, 1) := by decide +kernel
theorem d4_26 : decode prog_9_method_1_code 26 = .ok (.iload 6, 2) := by decide +kernel
theorem d4_28 : decode prog_9_method_1_code 28 = .ok (.putfield 25, 3) := by decide +kernel
theorem d4_31 : decode prog_9_method_1_code 31 = .ok (.aload_n 0, 1) := by decide +kernel
theorem d4_32 : decode prog_9_method_1_code 32 = .ok (.iload 7, 2) := by decide +kernel
theorem d4_34 : decode prog_9_method_1_code 34 = .ok (.putfield 28, 3) := by decide +kernel
theorem d4_37 : decode prog_9_method_1_code 37 = .ok (.aload_n 0, 1) := by decide +kernel
theorem d4_38 : decode prog_9_method_1_code 38 = .ok (.lload 8, 2) := by decide +kernel
theorem d4_40 : decode prog_9_method_1_code 40 = .ok (.putfield 31, 3) := by decide +kernel
theorem d4_43 : decode prog_9_method_1_code 43 = .ok (.aload_n 0, 1) := by decide +kernel
theorem d4_44 : decode prog_9_method_1_code 44 = .ok (.lload 10, 2) := by decide +kernel
theorem d4_46 : decode prog_9_method_1_code 46 = .ok (.putfield 34, 3) := by decide +kernel
theorem d4_49 : decode prog_9_method_1_code 49 = .ok (.aload_n 0, 1) := by decide +kernel
theorem d4_50 : decode prog_9_method_1_code 50 = .ok (.aload 12, 2) := by decide +kernel
theorem d4_52 : decode prog_9_method_1_code 52 = .ok (.putfield 37, 3) := by decide +kernel
theorem d4_55 : decode prog_9_method_1_code 55 = .ok (.aload_n 0, 1) := by decide +kernel
theorem d4_56 : decode prog_9_method_1_code 56 = .ok (.aload 13, 2) := by decide +kernel
theorem d4_58 : decode prog_9_method_1_code 58 = .ok (.putfield 40, 3) := by decide +kernel
theorem d4_61 : decode prog_9_method_1_code 61 = .ok (.aload_n 0, 1) := by decide +kernel
theorem d4_62 : decode prog_9_method_1_code 62 = .ok (.aload 14, 2) := by decide +kernel
theorem d4_64 : decode prog_9_method_1_code 64 = .ok (.putfield 43, 3) := by decide +kernel
theorem d4_67 : decode prog_9_method_1_code 67 = .ok (.return_, 1) := by decide +kernel
theorem ef_4 (m : MethodId) (a0 : Addr) (a2 : Addr) (q3 : Int64) (p4 : Int32) (p5 : Int32) (p6 : Int32) (q7 : Int64) (q8 : Int64) : entryFrame m #[(.ref a0), .null, (.ref a2), (.long q3), (.int p4), (.int p5), (.int p6), (.long q7), (.long q8), .null, .null, .null] 15 = mkF m 0 #[.val (.ref a0), .val .null, .val (.ref a2), .val (.long q3), .second, .val (.int p4), .val (.int p5), .val (.int p6), .val (.long q7), .second, .val (.long q8), .second, .val .null, .val .null, .val .null] [] := by first | (simp [entryFrame, mkF, argsToLocals, Value.category]; done) | rfl
theorem pn_3 : plainName "com/example/hardy_queue/hardyqueue/broker/PullRequest" = true := by first | (simp [plainName, overriddenIn]; done) | decide +kernel
def Q4 (Z : State) (a0 : Addr) (a2 : Addr) (q3 : Int64) (p4 : Int32) (p5 : Int32) (p6 : Int32) (q7 : Int64) (q8 : Int64) (u_consumerGroup : Value) (u_queue : Value) (u_queueOffset : Value) (u_maxMsgNums : Value) (u_maxMsgBytes : Value) (u_sysFlag : Value) (u_commitOffset : Value) (u_suspendTimeoutMillis : Value) (u_subscription : Value) (u_expressionType : Value) (u_brokerName : Value) (h0 : Heap) (n0 : Nat) (v : Option Value) (h : Heap) (L : List Loc) : Prop := v = none ∧ Fr n0 L ∧ Keep h0 h [a0] ∧ Exa Z h a0 "com/example/hardy_queue/hardyqueue/broker/PullRequest" ∧ Fld Z h a0 "com/example/hardy_queue/hardyqueue/broker/PullRequest" "consumerGroup" "Ljava/lang/String;" .null ∧ Fld Z h a0 "com/example/hardy_queue/hardyqueue/broker/PullRequest" "queue" "Lcom/example/hardy_queue/hardyqueue/store/QueueKey;" (.ref a2) ∧ Fld Z h a0 "com/example/hardy_queue/hardyqueue/broker/PullRequest" "queueOffset" "J" (.long q3) ∧ Fld Z h a0 "com/example/hardy_queue/hardyqueue/broker/PullRequest" "maxMsgNums" "I" (.int p4) ∧ Fld Z h a0 "com/example/hardy_queue/hardyqueue/broker/PullRequest" "maxMsgBytes" "I" (.int p5) ∧ Fld Z h a0 "com/example/hardy_queue/hardyqueue/broker/PullRequest" "sysFlag" "I" (.int p6) ∧ Fld Z h a0 "com/example/hardy_queue/hardyqueue/broker/PullRequest" "commitOffset" "J" (.long q7) ∧ Fld Z h a0 "com/example/hardy_queue/hardyqueue/broker/PullRequest" "suspendTimeoutMillis" "J" (.long q8) ∧ Fld Z h a0 "com/example/hardy_queue/hardyqueue/broker/PullRequest" "subscription" "Ljava/lang/String;" .null ∧ Fld Z h a0 "com/example/hardy_queue/hardyqueue/broker/PullRequest" "expressionType" "Ljava/lang/String;" .null ∧ Fld Z h a0 "com/example/hardy_queue/hardyqueue/broker/PullRequest" "brokerName" "Ljava/lang/String;" .null
set_option maxRecDepth 65536 in
set_option maxHeartbeats 40000000 in
theorem rm4 (l : Launch) (Z : State) (aZ : Array Value) (hw : ∀ d ∈ tables_1, d.before aZ Z = true) (ws : List Jvm.Cond) (a0 : Addr) (a2 : Addr) (q3 : Int64) (p4 : Int32) (p5 : Int32) (p6 : Int32) (q7 : Int64) (q8 : Int64) (u_consumerGroup : Value) (u_queue : Value) (u_queueOffset : Value) (u_maxMsgNums : Value) (u_maxMsgBytes : Value) (u_sysFlag : Value) (u_commitOffset : Value) (u_suspendTimeoutMillis : Value) (u_subscription : Value) (u_expressionType : Value) (u_brokerName : Value) (h0 : Heap) (n0 : Nat) (Z0 : n0 ≤ h0.size) (g_a0 : n0 ≤ a0) (E_a0 : Exa Z h0 a0 "com/example/hardy_queue/hardyqueue/broker/PullRequest") (F_u_consumerGroup : Fld Z h0 a0 "com/example/hardy_queue/hardyqueue/broker/PullRequest" "consumerGroup" "Ljava/lang/String;" u_consumerGroup) (F_u_queue : Fld Z h0 a0 "com/example/hardy_queue/hardyqueue/broker/PullRequest" "queue" "Lcom/example/hardy_queue/hardyqueue/store/QueueKey;" u_queue) (F_u_queueOffset : Fld Z h0 a0 "com/example/hardy_queue/hardyqueue/broker/PullRequest" "queueOffset" "J" u_queueOffset) (F_u_maxMsgNums : Fld Z h0 a0 "com/example/hardy_queue/hardyqueue/broker/PullRequest" "maxMsgNums" "I" u_maxMsgNums) (F_u_maxMsgBytes : Fld Z h0 a0 "com/example/hardy_queue/hardyqueue/broker/PullRequest" "maxMsgBytes" "I" u_maxMsgBytes) (F_u_sysFlag : Fld Z h0 a0 "com/example/hardy_queue/hardyqueue/broker/PullRequest" "sysFlag" "I" u_sysFlag) (F_u_commitOffset : Fld Z h0 a0 "com/example/hardy_queue/hardyqueue/broker/PullRequest" "commitOffset" "J" u_commitOffset) (F_u_suspendTimeoutMillis : Fld Z h0 a0 "com/example/hardy_queue/hardyqueue/broker/PullRequest" "suspendTimeoutMillis" "J" u_suspendTimeoutMillis) (F_u_subscription : Fld Z h0 a0 "com/example/hardy_queue/hardyqueue/broker/PullRequest" "subscription" "Ljava/lang/String;" u_subscription) (F_u_expressionType : Fld Z h0 a0 "com/example/hardy_queue/hardyqueue/broker/PullRequest" "expressionType" "Ljava/lang/String;" u_expressionType) (F_u_brokerName : Fld Z h0 a0 "com/example/hardy_queue/hardyqueue/broker/PullRequest" "brokerName" "Ljava/lang/String;" u_brokerName) :
    MetFree l (⟨"com/example/hardy_queue/hardyqueue/broker/PullRequest", "<init>", "(Ljava/lang/String;Lcom/example/hardy_queue/hardyqueue/store/QueueKey;JIIIJJLjava/lang/String;Ljava/lang/String;Ljava/lang/String;)V"⟩ : MethodName) (head1 (Jvm.Cond.code (⟨"com/example/hardy_queue/hardyqueue/broker/PullRequest", "<init>", "(Ljava/lang/String;Lcom/example/hardy_queue/hardyqueue/store/QueueKey;JIIIJJLjava/lang/String;Ljava/lang/String;Ljava/lang/String;)V"⟩ : MethodName) prog_9_method_1_code 15 none :: ws) ({ frames := 2, cells := 0, slots := 0, locals := 24 } : Room)) (fun a U => a = #[(.ref a0), .null, (.ref a2), (.long q3), (.int p4), (.int p5), (.int p6), (.long q7), (.long q8), .null, .null, .null] ∧ Z.Warmed39 U.vm ∧ U.heap = h0) (fun _ _ _ _ _ => True) (fun _ U o U' => ∃ v L, o = .returned v ∧ Q4 Z a0 a2 q3 p4 p5 p6 q7 q8 u_consumerGroup u_queue u_queueOffset u_maxMsgNums u_maxMsgBytes u_sysFlag u_commitOffset u_suspendTimeoutMillis u_subscription u_expressionType u_brokerName h0 n0 v U'.heap L ∧ FrameEnd U o U' L 0 0) := by
  refine MetFree.of_bodySF (plainFor_of_name pn_3) hisR ?_
  intro p e s m args below meth c s₁ Bd hml0 hP hK
  obtain ⟨rfl, hZ, hh⟩ := hP
  have hx := Bd.exec
  have hby := Bd.bytes
  have hml : c.maxLocals = 15 := hml0
  have hown : s.vm.findClass "com/example/hardy_queue/hardyqueue/broker/PullRequest" = some m.cls := findClass_of_methodNamed Bd.named
  have hnm := (name_of_methodNamed Bd.named Bd.method).1
  have hlk := BodyLoose.notSynchronized Bd
  have X0 : Stand p l e ({ frames := 2, cells := 0, slots := 0, locals := 24 } : Room) s m #[(.ref a0), .null, (.ref a2), (.long q3), (.int p4), (.int p5), (.int p6), (.long q7), (.long q8), .null, .null, .null] below meth c s₁ [] 0 0 := Stand.of_body Bd
  have e0 : s₁.heap = h0 := by rw [← hh, Bd.state]; rfl
  have N0 := Fr.nil n0
  have hk0 : 0 ≤ 0 := Nat.zero_le _
  have hn0 : 0 ≤ 0 := Nat.zero_le _
  show OwnEnds p e below (OwnQ s (Q4 Z a0 a2 q3 p4 p5 p6 q7 q8 u_consumerGroup u_queue u_queueOffset u_maxMsgNums u_maxMsgBytes u_sysFlag u_commitOffset u_suspendTimeoutMillis u_subscription u_expressionType u_brokerName h0 n0) 0 0) (s₁.setTop (entryFrame m #[(.ref a0), .null, (.ref a2), (.long q3), (.int p4), (.int p5), (.int p6), (.long q7), (.long q8), .null, .null, .null] 15))
  refine .pre (fun t k => castTop (ef_4 m a0 a2 q3 p4 p5 p6 q7 q8) k) ?_
  show OwnEnds p e below _ (s₁.setTop (mkF m 0 #[.val (.ref a0), .val .null, .val (.ref a2), .val (.long q3), .second, .val (.int p4), .val (.int p5), .val (.int p6), .val (.long q7), .second, .val (.long q8), .second, .val .null, .val .null, .val .null] []))
  refine .pre (fun _ k => XS.aloadN X0.here hx rfl (hb hby d4_0) rfl rfl k) ?_
  show OwnEnds p e below _ (s₁.setTop (mkF m 1 #[.val (.ref a0), .val .null, .val (.ref a2), .val (.long q3), .second, .val (.int p4), .val (.int p5), .val (.int p6), .val (.long q7), .second, .val (.long q8), .second, .val .null, .val .null, .val .null] [(.ref a0)]))
  obtain ⟨_, _, ⟨T1, L1, k1, n1⟩, -, X1, ⟨Lc1, hQ1, l1, y1, z1⟩, st1⟩ := X0.specialBack hx (y := (⟨"java/lang/Record", "<init>", "()V"⟩ : MethodName)) rfl hown (mvT hZ (hw _ (List.mem_of_getElem? (i := 24) rfl))) (mvT hZ (hw _ (List.mem_of_getElem? (i := 7) rfl))) (mvT hZ (hw _ (List.mem_of_getElem? (i := 10) rfl))) (by decide) (backOf (W := 0) (rm2 l Z aZ hw [] a0 h0 n0 Z0) hZ (hw _ (List.mem_of_getElem? (i := 10) rfl)) (hw _ (List.mem_of_getElem? (i := 9) rfl)) (by decide) (by decide)) (g := (mkF m 1 #[.val (.ref a0), .val .null, .val (.ref a2), .val (.long q3), .second, .val (.int p4), .val (.int p5), .val (.int p6), .val (.long q7), .second, .val (.long q8), .second, .val .null, .val .null, .val .null] [(.ref a0)])) rfl (by rw [hml]; rfl) (Steps.refl _) (a := a0) (argsL := []) (rest := []) (lenOf pd_2 rfl) rfl (by show 2 * 0 + _ ≤ _; exact Nat.le_of_eq rfl) (hb hby d4_1) (fun _ _ => ⟨rfl, e0, (by decide : 0 + 0 ≤ _), (by decide : 0 + 0 ≤ _)⟩)
  dsimp only [Pt.U, Pt.locs, Pt.cells, Pt.slots] at X1 l1 y1 z1 st1 hQ1
  subst l1 y1 z1
  obtain ⟨rfl, N1q, e1⟩ := hQ1
  have N1 := Fr.app N0 N1q
  refine .pre (fun _ k => st1.trans k) ?_
  show OwnEnds p e below _ (T1.setTop (mkF m 4 #[.val (.ref a0), .val .null, .val (.ref a2), .val (.long q3), .second, .val (.int p4), .val (.int p5), .val (.int p6), .val (.long q7), .second, .val (.long q8), .second, .val .null, .val .null, .val .null] []))
  refine .pre (fun _ k => XS.aloadN X1.here hx rfl (hb hby d4_4) rfl rfl k) ?_
  show OwnEnds p e below _ (T1.setTop (mkF m 5 #[.val (.ref a0), .val .null, .val (.ref a2), .val (.long q3), .second, .val (.int p4), .val (.int p5), .val (.int p6), .val (.long q7), .second, .val (.long q8), .second, .val .null, .val .null, .val .null] [(.ref a0)]))
  refine .pre (fun _ k => XS.aloadN X1.here hx rfl (hb hby d4_5) rfl rfl k) ?_
  show OwnEnds p e below _ (T1.setTop (mkF m 6 #[.val (.ref a0), .val .null, .val (.ref a2), .val (.long q3), .second, .val (.int p4), .val (.int p5), .val (.int p6), .val (.long q7), .second, .val (.long q8), .second, .val .null, .val .null, .val .null] [.null, (.ref a0)]))
  obtain ⟨T2, h2, X2, e2, W2, st2⟩ := putF X1 hx hZ hown (host := "") (Or.inl (hw _ (List.mem_of_getElem? (i := 25) rfl))) Via.refl e1 F_u_consumerGroup E_a0 (Or.inr ⟨(hw _ (List.mem_of_getElem? (i := 26) rfl)), rfl, hnm⟩) (hw _ (List.mem_of_getElem? (i := 19) rfl)) (ty := (.object "java/lang/String")) (by decide) rfl rfl (g := (mkF m 6 #[.val (.ref a0), .val .null, .val (.ref a2), .val (.long q3), .second, .val (.int p4), .val (.int p5), .val (.int p6), .val (.long q7), .second, .val (.long q8), .second, .val .null, .val .null, .val .null] [.null, (.ref a0)])) rfl rfl (hb hby d4_6)
  have Fw2 := F_u_consumerGroup.same W2
  have N2 := Fr.snoc X2 N1 g_a0
  have Kp2 : Keep h0 h2 [a0] := (Keep.refl h0 [a0]).wr W2 (Or.inl (List.mem_of_getElem? (i := 0) rfl))
  refine .pre (fun _ k => st2 _ k) ?_
  show OwnEnds p e below _ (T2.setTop (mkF m 9 #[.val (.ref a0), .val .null, .val (.ref a2), .val (.long q3), .second, .val (.int p4), .val (.int p5), .val (.int p6), .val (.long q7), .second, .val (.long q8), .second, .val .null, .val .null, .val .null] []))
  refine .pre (fun _ k => XS.aloadN X2.here hx rfl (hb hby d4_9) rfl rfl k) ?_
  show OwnEnds p e below _ (T2.setTop (mkF m 10 #[.val (.ref a0), .val .null, .val (.ref a2), .val (.long q3), .second, .val (.int p4), .val (.int p5), .val (.int p6), .val (.long q7), .second, .val (.long q8), .second, .val .null, .val .null, .val .null] [(.ref a0)]))
  refine .pre (fun _ k => XS.aloadN X2.here hx rfl (hb hby d4_10) rfl rfl k) ?_
  show OwnEnds p e below _ (T2.setTop (mkF m 11 #[.val (.ref a0), .val .null, .val (.ref a2), .val (.long q3), .second, .val (.int p4), .val (.int p5), .val (.int p6), .val (.long q7), .second, .val (.long q8), .second, .val .null, .val .null, .val .null] [(.ref a2), (.ref a0)]))
  obtain ⟨T3, h3, X3, e3, W3, st3⟩ := putF X2 hx hZ hown (host := "") (Or.inl (hw _ (List.mem_of_getElem? (i := 27) rfl))) Via.refl e2 (F_u_queue.other W2 (Or.inr (slot_ne (Or.inr (hw _ (List.mem_of_getElem? (i := 28) rfl))) (Or.inr (hw _ (List.mem_of_getElem? (i := 26) rfl))) (by decide) (t := (.object "com/example/hardy_queue/hardyqueue/store/QueueKey")) (t' := (.object "java/lang/String")) (by decide) (by decide)))) (E_a0.wr W2) (Or.inr ⟨(hw _ (List.mem_of_getElem? (i := 28) rfl)), rfl, hnm⟩) (hw _ (List.mem_of_getElem? (i := 19) rfl)) (ty := (.object "com/example/hardy_queue/hardyqueue/store/QueueKey")) (by decide) rfl rfl (g := (mkF m 11 #[.val (.ref a0), .val .null, .val (.ref a2), .val (.long q3), .second, .val (.int p4), .val (.int p5), .val (.int p6), .val (.long q7), .second, .val (.long q8), .second, .val .null, .val .null, .val .null] [(.ref a2), (.ref a0)])) rfl rfl (hb hby d4_11)
  have Fw3 := (F_u_queue.other W2 (Or.inr (slot_ne (Or.inr (hw _ (List.mem_of_getElem? (i := 28) rfl))) (Or.inr (hw _ (List.mem_of_getElem? (i := 26) rfl))) (by decide) (t := (.object "com/example/hardy_queue/hardyqueue/store/QueueKey")) (t' := (.object "java/lang/String")) (by decide) (by decide)))).same W3
  have N3 := Fr.snoc X3 N2 g_a0
  have Kp3 : Keep h0 h3 [a0] := Kp2.wr W3 (Or.inl (List.mem_of_getElem? (i := 0) rfl))
  refine .pre (fun _ k => st3 _ k) ?_
  show OwnEnds p e below _ (T3.setTop (mkF m 14 #[.val (.ref a0), .val .null, .val (.ref a2), .val (.long q3), .second, .val (.int p4), .val (.int p5), .val (.int p6), .val (.long q7), .second, .val (.long q8), .second, .val .null, .val .null, .val .null] []))
  refine .pre (fun _ k => XS.aloadN X3.here hx rfl (hb hby d4_14) rfl rfl k) ?_
  show OwnEnds p e below _ (T3.setTop (mkF m 15 #[.val (.ref a0), .val .null, .val (.ref a2), .val (.long q3), .second, .val (.int p4), .val (.int p5), .val (.int p6), .val (.long q7), .second, .val (.long q8), .second, .val .null, .val .null, .val .null] [(.ref a0)]))
  refine .pre (fun _ k => XS.lloadN X3.here hx rfl (hb hby d4_15) rfl k) ?_
  show OwnEnds p e below _ (T3.setTop (mkF m 16 #[.val (.ref a0), .val .null, .val (.ref a2), .val (.long q3), .second, .val (.int p4), .val (.int p5), .val (.int p6), .val (.long q7), .second, .val (.long q8), .second, .val .null, .val .null, .val .null] [(.long q3), (.ref a0)]))
  obtain ⟨T4, h4, X4, e4, W4, st4⟩ := putF X3 hx hZ hown (host := "") (Or.inl (hw _ (List.mem_of_getElem? (i := 29) rfl))) Via.refl e3 ((F_u_queueOffset.other W2 (Or.inr (slot_ne (Or.inr (hw _ (List.mem_of_getElem? (i := 30) rfl))) (Or.inr (hw _ (List.mem_of_getElem? (i := 26) rfl))) (by decide) (t := .long) (t' := (.object "java/lang/String")) (by decide) (by decide)))).other W3 (Or.inr (slot_ne (Or.inr (hw _ (List.mem_of_getElem? (i := 30) rfl))) (Or.inr (hw _ (List.mem_of_getElem? (i := 28) rfl))) (by decide) (t := .long) (t' := (.object "com/example/hardy_queue/hardyqueue/store/QueueKey")) (by decide) (by decide)))) ((E_a0.wr W2).wr W3) (Or.inr ⟨(hw _ (List.mem_of_getElem? (i := 30) rfl)), rfl, hnm⟩) (hw _ (List.mem_of_getElem? (i := 19) rfl)) (ty := .long) (by decide) rfl rfl (g := (mkF m 16 #[.val (.ref a0), .val .null, .val (.ref a2), .val (.long q3), .second, .val (.int p4), .val (.int p5), .val (.int p6), .val (.long q7), .second, .val (.long q8), .second, .val .null, .val .null, .val .null] [(.long q3), (.ref a0)])) rfl rfl (hb hby d4_16)
  have Fw4 := ((F_u_queueOffset.other W2 (Or.inr (slot_ne (Or.inr (hw _ (List.mem_of_getElem? (i := 30) rfl))) (Or.inr (hw _ (List.mem_of_getElem? (i := 26) rfl))) (by decide) (t := .long) (t' := (.object "java/lang/String")) (by decide) (by decide)))).other W3 (Or.inr (slot_ne (Or.inr (hw _ (List.mem_of_getElem? (i := 30) rfl))) (Or.inr (hw _ (List.mem_of_getElem? (i := 28) rfl))) (by decide) (t := .long) (t' := (.object "com/example/hardy_queue/hardyqueue/store/QueueKey")) (by decide) (by decide)))).same W4
  have N4 := Fr.snoc X4 N3 g_a0
  have Kp4 : Keep h0 h4 [a0] := Kp3.wr W4 (Or.inl (List.mem_of_getElem? (i := 0) rfl))
  refine .pre (fun _ k => st4 _ k) ?_
  show OwnEnds p e below _ (T4.setTop (mkF m 19 #[.val (.ref a0), .val .null, .val (.ref a2), .val (.long q3), .second, .val (.int p4), .val (.int p5), .val (.int p6), .val (.long q7), .second, .val (.long q8), .second, .val .null, .val .null, .val .null] []))
  refine .pre (fun _ k => XS.aloadN X4.here hx rfl (hb hby d4_19) rfl rfl k) ?_
  show OwnEnds p e below _ (T4.setTop (mkF m 20 #[.val (.ref a0), .val .null, .val (.ref a2), .val (.long q3), .second, .val (.int p4), .val (.int p5), .val (.int p6), .val (.long q7), .second, .val (.long q8), .second, .val .null, .val .null, .val .null] [(.ref a0)]))
  refine .pre (fun _ k => XS.iload X4.here hx rfl (hb hby d4_20) rfl k) ?_
  show OwnEnds p e below _ (T4.setTop (mkF m 22 #[.val (.ref a0), .val .null, .val (.ref a2), .val (.long q3), .second, .val (.int p4), .val (.int p5), .val (.int p6), .val (.long q7), .second, .val (.long q8), .second, .val .null, .val .null, .val .null] [(.int p4), (.ref a0)]))
  obtain ⟨T5, h5, X5, e5, W5, st5⟩ := putF X4 hx hZ hown (host := "") (Or.inl (hw _ (List.mem_of_getElem? (i := 31) rfl))) Via.refl e4 (((F_u_maxMsgNums.other W2 (Or.inr (slot_ne (Or.inr (hw _ (List.mem_of_getElem? (i := 32) rfl))) (Or.inr (hw _ (List.mem_of_getElem? (i := 26) rfl))) (by decide) (t := .int) (t' := (.object "java/lang/String")) (by decide) (by decide)))).other W3 (Or.inr (slot_ne (Or.inr (hw _ (List.mem_of_getElem? (i := 32) rfl))) (Or.inr (hw _ (List.mem_of_getElem? (i := 28) rfl))) (by decide) (t := .int) (t' := (.object "com/example/hardy_queue/hardyqueue/store/QueueKey")) (by decide) (by decide)))).other W4 (Or.inr (slot_ne (Or.inr (hw _ (List.mem_of_getElem? (i := 32) rfl))) (Or.inr (hw _ (List.mem_of_getElem? (i := 30) rfl))) (by decide) (t := .int) (t' := .long) (by decide) (by decide)))) (((E_a0.wr W2).wr W3).wr W4) (Or.inr ⟨(hw _ (List.mem_of_getElem? (i := 32) rfl)), rfl, hnm⟩) (hw _ (List.mem_of_getElem? (i := 19) rfl)) (ty := .int) (by decide) rfl rfl (g := (mkF m 22 #[.val (.ref a0), .val .null, .val (.ref a2), .val (.long q3), .second, .val (.int p4), .val (.int p5), .val (.int p6), .val (.long q7), .second, .val (.long q8), .second, .val .null, .val .null, .val .null] [(.int p4), (.ref a0)])) rfl rfl (hb hby d4_22)
  have Fw5 := (((F_u_maxMsgNums.other W2 (Or.inr (slot_ne (Or.inr (hw _ (List.mem_of_getElem? (i := 32) rfl))) (Or.inr (hw _ (List.mem_of_getElem? (i := 26) rfl))) (by decide) (t := .int) (t' := (.object "java/lang/String")) (by decide) (by decide)))).other W3 (Or.inr (slot_ne (Or.inr (hw _ (List.mem_of_getElem? (i := 32) rfl))) (Or.inr (hw _ (List.mem_of_getElem? (i := 28) rfl))) (by decide) (t := .int) (t' := (.object "com/example/hardy_queue/hardyqueue/store/QueueKey")) (by decide) (by decide)))).other W4 (Or.inr (slot_ne (Or.inr (hw _ (List.mem_of_getElem? (i := 32) rfl))) (Or.inr (hw _ (List.mem_of_getElem? (i := 30) rfl))) (by decide) (t := .int) (t' := .long) (by decide) (by decide)))).same W5
  have N5 := Fr.snoc X5 N4 g_a0
  have Kp5 : Keep h0 h5 [a0] := Kp4.wr W5 (Or.inl (List.mem_of_getElem? (i := 0) rfl))
  refine .pre (fun _ k => st5 _ k) ?_
  show OwnEnds p e below _ (T5.setTop (mkF m 25 #[.val (.ref a0), .val .null, .val (.ref a2), .val (.long q3), .second, .val (.int p4), .val (.int p5), .val (.int p6), .val (.long q7), .second, .val (.long q8), .second, .val .null, .val .null, .val .null] []))
  refine .pre (fun _ k => XS.aloadN X5.here hx rfl (hb hby d4_25) rfl rfl k) ?_
  show OwnEnds p e below _ (T5.setTop (mkF m 26 #[.val (.ref a0), .val .null, .val (.ref a2), .val (.long q3), .second, .val (.int p4), .val (.int p5), .val (.int p6), .val (.long q7), .second, .val (.long q8), .second, .val .null, .val .null, .val .null] [(.ref a0)]))
  refine .pre (fun _ k => XS.iload X5.here hx rfl (hb hby d4_26) rfl k) ?_
  show OwnEnds p e below _ (T5.setTop (mkF m 28 #[.val (.ref a0), .val .null, .val (.ref a2), .val (.long q3), .second, .val (.int p4), .val (.int p5), .val (.int p6), .val (.long q7), .second, .val (.long q8), .second, .val .null, .val .null, .val .null] [(.int p5), (.ref a0)]))
  obtain ⟨T6, h6, X6, e6, W6, st6⟩ := putF X5 hx hZ hown (host := "") (Or.inl (hw _ (List.mem_of_getElem? (i := 33) rfl))) Via.refl e5 ((((F_u_maxMsgBytes.other W2 (Or.inr (slot_ne (Or.inr (hw _ (List.mem_of_getElem? (i := 34) rfl))) (Or.inr (hw _ (List.mem_of_getElem? (i := 26) rfl))) (by decide) (t := .int) (t' := (.object "java/lang/String")) (by decide) (by decide)))).other W3 (Or.inr (slot_ne (Or.inr (hw _ (List.mem_of_getElem? (i := 34) rfl))) (Or.inr (hw _ (List.mem_of_getElem? (i := 28) rfl))) (by decide) (t := .int) (t' := (.object "com/example/hardy_queue/hardyqueue/store/QueueKey")) (by decide) (by decide)))).other W4 (Or.inr (slot_ne (Or.inr (hw _ (List.mem_of_getElem? (i := 34) rfl))) (Or.inr (hw _ (List.mem_of_getElem? (i := 30) rfl))) (by decide) (t := .int) (t' := .long) (by decide) (by decide)))).other W5 (Or.inr (slot_ne (Or.inr (hw _ (List.mem_of_getElem? (i := 34) rfl))) (Or.inr (hw _ (List.mem_of_getElem? (i := 32) rfl))) (by decide) (t := .int) (t' := .int) (by decide) (by decide)))) ((((E_a0.wr W2).wr W3).wr W4).wr W5) (Or.inr ⟨(hw _ (List.mem_of_getElem? (i := 34) rfl)), rfl, hnm⟩) (hw _ (List.mem_of_getElem? (i := 19) rfl)) (ty := .int) (by decide) rfl rfl (g := (mkF m 28 #[.val (.ref a0), .val .null, .val (.ref a2), .val (.long q3), .second, .val (.int p4), .val (.int p5), .val (.int p6), .val (.long q7), .second, .val (.long q8), .second, .val .null, .val .null, .val .null] [(.int p5), (.ref a0)])) rfl rfl (hb hby d4_28)
  have Fw6 := ((((F_u_maxMsgBytes.other W2 (Or.inr (slot_ne (Or.inr (hw _ (List.mem_of_getElem? (i := 34) rfl))) (Or.inr (hw _ (List.mem_of_getElem? (i := 26) rfl))) (by decide) (t := .int) (t' := (.object "java/lang/String")) (by decide) (by decide)))).other W3 (Or.inr (slot_ne (Or.inr (hw _ (List.mem_of_getElem? (i := 34) rfl))) (Or.inr (hw _ (List.mem_of_getElem? (i := 28) rfl))) (by decide) (t := .int) (t' := (.object "com/example/hardy_queue/hardyqueue/store/QueueKey")) (by decide) (by decide)))).other W4 (Or.inr (slot_ne (Or.inr (hw _ (List.mem_of_getElem? (i := 34) rfl))) (Or.inr (hw _ (List.mem_of_getElem? (i := 30) rfl))) (by decide) (t := .int) (t' := .long) (by decide) (by decide)))).other W5 (Or.inr (slot_ne (Or.inr (hw _ (List.mem_of_getElem? (i := 34) rfl))) (Or.inr (hw _ (List.mem_of_getElem? (i := 32) rfl))) (by decide) (t := .int) (t' := .int) (by decide) (by decide)))).same W6
  have N6 := Fr.snoc X6 N5 g_a0
  have Kp6 : Keep h0 h6 [a0] := Kp5.wr W6 (Or.inl (List.mem_of_getElem? (i := 0) rfl))
  refine .pre (fun _ k => st6 _ k) ?_
  show OwnEnds p e below _ (T6.setTop (mkF m 31 #[.val (.ref a0), .val .null, .val (.ref a2), .val (.long q3), .second, .val (.int p4), .val (.int p5), .val (.int p6), .val (.long q7), .second, .val (.long q8), .second, .val .null, .val .null, .val .null] []))
  refine .pre (fun _ k => XS.aloadN X6.here hx rfl (hb hby d4_31) rfl rfl k) ?_
  show OwnEnds p e below _ (T6.setTop (mkF m 32 #[.val (.ref a0), .val .null, .val (.ref a2), .val (.long q3), .second, .val (.int p4), .val (.int p5), .val (.int p6), .val (.long q7), .second, .val (.long q8), .second, .val .null, .val .null, .val .null] [(.ref a0)]))
  refine .pre (fun _ k => XS.iload X6.here hx rfl (hb hby d4_32) rfl k) ?_
  show OwnEnds p e below _ (T6.setTop (mkF m 34 #[.val (.ref a0), .val .null, .val (.ref a2), .val (.long q3), .second, .val (.int p4), .val (.int p5), .val (.int p6), .val (.long q7), .second, .val (.long q8), .second, .val .null, .val .null, .val .null] [(.int p6), (.ref a0)]))
  obtain ⟨T7, h7, X7, e7, W7, st7⟩ := putF X6 hx hZ hown (host := "") (Or.inl (hw _ (List.mem_of_getElem? (i := 35) rfl))) Via.refl e6 (((((F_u_sysFlag.other W2 (Or.inr (slot_ne (Or.inr (hw _ (List.mem_of_getElem? (i := 36) rfl))) (Or.inr (hw _ (List.mem_of_getElem? (i := 26) rfl))) (by decide) (t := .int) (t' := (.object "java/lang/String")) (by decide) (by decide)))).other W3 (Or.inr (slot_ne (Or.inr (hw _ (List.mem_of_getElem? (i := 36) rfl))) (Or.inr (hw _ (List.mem_of_getElem? (i := 28) rfl))) (by decide) (t := .int) (t' := (.object "com/example/hardy_queue/hardyqueue/store/QueueKey")) (by decide) (by decide)))).other W4 (Or.inr (slot_ne (Or.inr (hw _ (List.mem_of_getElem? (i := 36) rfl))) (Or.inr (hw _ (List.mem_of_getElem? (i := 30) rfl))) (by decide) (t := .int) (t' := .long) (by decide) (by decide)))).other W5 (Or.inr (slot_ne (Or.inr (hw _ (List.mem_of_getElem? (i := 36) rfl))) (Or.inr (hw _ (List.mem_of_getElem? (i := 32) rfl))) (by decide) (t := .int) (t' := .int) (by decide) (by decide)))).other W6 (Or.inr (slot_ne (Or.inr (hw _ (List.mem_of_getElem? (i := 36) rfl))) (Or.inr (hw _ (List.mem_of_getElem? (i := 34) rfl))) (by decide) (t := .int) (t' := .int) (by decide) (by decide)))) (((((E_a0.wr W2).wr W3).wr W4).wr W5).wr W6) (Or.inr ⟨(hw _ (List.mem_of_getElem? (i := 36) rfl)), rfl, hnm⟩) (hw _ (List.mem_of_getElem? (i := 19) rfl)) (ty := .int) (by decide) rfl rfl (g := (mkF m 34 #[.val (.ref a0), .val .null, .val (.ref a2), .val (.long q3), .second, .val (.int p4), .val (.int p5), .val (.int p6), .val (.long q7), .second, .val (.long q8), .second, .val .null, .val .null, .val .null] [(.int p6), (.ref a0)])) rfl rfl (hb hby d4_34)
  have Fw7 := (((((F_u_sysFlag.other W2 (Or.inr (slot_ne (Or.inr (hw _ (List.mem_of_getElem? (i := 36) rfl))) (Or.inr (hw _ (List.mem_of_getElem? (i := 26) rfl))) (by decide) (t := .int) (t' := (.object "java/lang/String")) (by decide) (by decide)))).other W3 (Or.inr (slot_ne (Or.inr (hw _ (List.mem_of_getElem? (i := 36) rfl))) (Or.inr (hw _ (List.mem_of_getElem? (i := 28) rfl))) (by decide) (t := .int) (t' := (.object "com/example/hardy_queue/hardyqueue/store/QueueKey")) (by decide) (by decide)))).other W4 (Or.inr (slot_ne (Or.inr (hw _ (List.mem_of_getElem? (i := 36) rfl))) (Or.inr (hw _ (List.mem_of_getElem? (i := 30) rfl))) (by decide) (t := .int) (t' := .long) (by decide) (by decide)))).other W5 (Or.inr (slot_ne (Or.inr (hw _ (List.mem_of_getElem? (i := 36) rfl))) (Or.inr (hw _ (List.mem_of_getElem? (i := 32) rfl))) (by decide) (t := .int) (t' := .int) (by decide) (by decide)))).other W6 (Or.inr (slot_ne (Or.inr (hw _ (List.mem_of_getElem? (i := 36) rfl))) (Or.inr (hw _ (List.mem_of_getElem? (i := 34) rfl))) (by decide) (t := .int) (t' := .int) (by decide) (by decide)))).same W7
  have N7 := Fr.snoc X7 N6 g_a0
  have Kp7 : Keep h0 h7 [a0] := Kp6.wr W7 (Or.inl (List.mem_of_getElem? (i := 0) rfl))
  refine .pre (fun _ k => st7 _ k) ?_
  show OwnEnds p e below _ (T7.setTop (mkF m 37 #[.val (.ref a0), .val .null, .val (.ref a2), .val (.long q3), .second, .val (.int p4), .val (.int p5), .val (.int p6), .val (.long q7), .second, .val (.long q8), .second, .val .null, .val .null, .val .null] []))
  refine .pre (fun _ k => XS.aloadN X7.here hx rfl (hb hby d4_37) rfl rfl k) ?_
  show OwnEnds p e below _ (T7.setTop (mkF m 38 #[.val (.ref a0), .val .null, .val (.ref a2), .val (.long q3), .second, .val (.int p4), .val (.int p5), .val (.int p6), .val (.long q7), .second, .val (.long q8), .second, .val .null, .val .null, .val .null] [(.ref a0)]))
  refine .pre (fun _ k => XS.lload X7.here hx rfl (hb hby d4_38) rfl k) ?_
  show OwnEnds p e below _ (T7.setTop (mkF m 40 #[.val (.ref a0), .val .null, .val (.ref a2), .val (.long q3), .second, .val (.int p4), .val (.int p5), .val (.int p6), .val (.long q7), .second, .val (.long q8), .second, .val .null, .val .null, .val .null] [(.long q7), (.ref a0)]))
  obtain ⟨T8, h8, X8, e8, W8, st8⟩ := putF X7 hx hZ hown (host := "") (Or.inl (hw _ (List.mem_of_getElem? (i := 37) rfl))) Via.refl e7 ((((((F_u_commitOffset.other W2 (Or.inr (slot_ne (Or.inr (hw _ (List.mem_of_getElem? (i := 38) rfl))) (Or.inr (hw _ (List.mem_of_getElem? (i := 26) rfl))) (by decide) (t := .long) (t' := (.object "java/lang/String")) (by decide) (by decide)))).other W3 (Or.inr (slot_ne (Or.inr (hw _ (List.mem_of_getElem? (i := 38) rfl))) (Or.inr (hw _ (List.mem_of_getElem? (i := 28) rfl))) (by decide) (t := .long) (t' := (.object "com/example/hardy_queue/hardyqueue/store/QueueKey")) (by decide) (by decide)))).other W4 (Or.inr (slot_ne (Or.inr (hw _ (List.mem_of_getElem? (i := 38) rfl))) (Or.inr (hw _ (List.mem_of_getElem? (i := 30) rfl))) (by decide) (t := .long) (t' := .long) (by decide) (by decide)))).other W5 (Or.inr (slot_ne (Or.inr (hw _ (List.mem_of_getElem? (i := 38) rfl))) (Or.inr (hw _ (List.mem_of_getElem? (i := 32) rfl))) (by decide) (t := .long) (t' := .int) (by decide) (by decide)))).other W6 (Or.inr (slot_ne (Or.inr (hw _ (List.mem_of_getElem? (i := 38) rfl))) (Or.inr (hw _ (List.mem_of_getElem? (i := 34) rfl))) (by decide) (t := .long) (t' := .int) (by decide) (by decide)))).other W7 (Or.inr (slot_ne (Or.inr (hw _ (List.mem_of_getElem? (i := 38) rfl))) (Or.inr (hw _ (List.mem_of_getElem? (i := 36) rfl))) (by decide) (t := .long) (t' := .int) (by decide) (by decide)))) ((((((E_a0.wr W2).wr W3).wr W4).wr W5).wr W6).wr W7) (Or.inr ⟨(hw _ (List.mem_of_getElem? (i := 38) rfl)), rfl, hnm⟩) (hw _ (List.mem_of_getElem? (i := 19) rfl)) (ty := .long) (by decide) rfl rfl (g := (mkF m 40 #[.val (.ref a0), .val .null, .val (.ref a2), .val (.long q3), .second, .val (.int p4), .val (.int p5), .val (.int p6), .val (.long q7), .second, .val (.long q8), .second, .val .null, .val .null, .val .null] [(.long q7), (.ref a0)])) rfl rfl (hb hby d4_40)
  have Fw8 := ((((((F_u_commitOffset.other W2 (Or.inr (slot_ne (Or.inr (hw _ (List.mem_of_getElem? (i := 38) rfl))) (Or.inr (hw _ (List.mem_of_getElem? (i := 26) rfl))) (by decide) (t := .long) (t' := (.object "java/lang/String")) (by decide) (by decide)))).other W3 (Or.inr (slot_ne (Or.inr (hw _ (List.mem_of_getElem? (i := 38) rfl))) (Or.inr (hw _ (List.mem_of_getElem? (i := 28) rfl))) (by decide) (t := .long) (t' := (.object "com/example/hardy_queue/hardyqueue/store/QueueKey")) (by decide) (by decide)))).other W4 (Or.inr (slot_ne (Or.inr (hw _ (List.mem_of_getElem? (i := 38) rfl))) (Or.inr (hw _ (List.mem_of_getElem? (i := 30) rfl))) (by decide) (t := .long) (t' := .long) (by decide) (by decide)))).other W5 (Or.inr (slot_ne (Or.inr (hw _ (List.mem_of_getElem? (i := 38) rfl))) (Or.inr (hw _ (List.mem_of_getElem? (i := 32) rfl))) (by decide) (t := .long) (t' := .int) (by decide) (by decide)))).other W6 (Or.inr (slot_ne (Or.inr (hw _ (List.mem_of_getElem? (i := 38) rfl))) (Or.inr (hw _ (List.mem_of_getElem? (i := 34) rfl))) (by decide) (t := .long) (t' := .int) (by decide) (by decide)))).other W7 (Or.inr (slot_ne (Or.inr (hw _ (List.mem_of_getElem? (i := 38) rfl))) (Or.inr (hw _ (List.mem_of_getElem? (i := 36) rfl))) (by decide) (t := .long) (t' := .int) (by decide) (by decide)))).same W8
  have N8 := Fr.snoc X8 N7 g_a0
  have Kp8 : Keep h0 h8 [a0] := Kp7.wr W8 (Or.inl (List.mem_of_getElem? (i := 0) rfl))
  refine .pre (fun _ k => st8 _ k) ?_
  show OwnEnds p e below _ (T8.setTop (mkF m 43 #[.val (.ref a0), .val .null, .val (.ref a2), .val (.long q3), .second, .val (.int p4), .val (.int p5), .val (.int p6), .val (.long q7), .second, .val (.long q8), .second, .val .null, .val .null, .val .null] []))
  refine .pre (fun _ k => XS.aloadN X8.here hx rfl (hb hby d4_43) rfl rfl k) ?_
  show OwnEnds p e below _ (T8.setTop (mkF m 44 #[.val (.ref a0), .val .null, .val (.ref a2), .val (.long q3), .second, .val (.int p4), .val (.int p5), .val (.int p6), .val (.long q7), .second, .val (.long q8), .second, .val .null, .val .null, .val .null] [(.ref a0)]))
  refine .pre (fun _ k => XS.lload X8.here hx rfl (hb hby d4_44) rfl k) ?_
  show OwnEnds p e below _ (T8.setTop (mkF m 46 #[.val (.ref a0), .val .null, .val (.ref a2), .val (.long q3), .second, .val (.int p4), .val (.int p5), .val (.int p6), .val (.long q7), .second, .val (.long q8), .second, .val .null, .val .null, .val .null] [(.long q8), (.ref a0)]))
  obtain ⟨T9, h9, X9, e9, W9, st9⟩ := putF X8 hx hZ hown (host := "") (Or.inl (hw _ (List.mem_of_getElem? (i := 39) rfl))) Via.refl e8 (((((((F_u_suspendTimeoutMillis.other W2 (Or.inr (slot_ne (Or.inr (hw _ (List.mem_of_getElem? (i := 40) rfl))) (Or.inr (hw _ (List.mem_of_getElem? (i := 26) rfl))) (by decide) (t := .long) (t' := (.object "java/lang/String")) (by decide) (by decide)))).other W3 (Or.inr (slot_ne (Or.inr (hw _ (List.mem_of_getElem? (i := 40) rfl))) (Or.inr (hw _ (List.mem_of_getElem? (i := 28) rfl))) (by decide) (t := .long) (t' := (.object "com/example/hardy_queue/hardyqueue/store/QueueKey")) (by decide) (by decide)))).other W4 (Or.inr (slot_ne (Or.inr (hw _ (List.mem_of_getElem? (i := 40) rfl))) (Or.inr (hw _ (List.mem_of_getElem? (i := 30) rfl))) (by decide) (t := .long) (t' := .long) (by decide) (by decide)))).other W5 (Or.inr (slot_ne (Or.inr (hw _ (List.mem_of_getElem? (i := 40) rfl))) (Or.inr (hw _ (List.mem_of_getElem? (i := 32) rfl))) (by decide) (t := .long) (t' := .int) (by decide) (by decide)))).other W6 (Or.inr (slot_ne (Or.inr (hw _ (List.mem_of_getElem? (i := 40) rfl))) (Or.inr (hw _ (List.mem_of_getElem? (i := 34) rfl))) (by decide) (t := .long) (t' := .int) (by decide) (by decide)))).other W7 (Or.inr (slot_ne (Or.inr (hw _ (List.mem_of_getElem? (i := 40) rfl))) (Or.inr (hw _ (List.mem_of_getElem? (i := 36) rfl))) (by decide) (t := .long) (t' := .int) (by decide) (by decide)))).other W8 (Or.inr (slot_ne (Or.inr (hw _ (List.mem_of_getElem? (i := 40) rfl))) (Or.inr (hw _ (List.mem_of_getElem? (i := 38) rfl))) (by decide) (t := .long) (t' := .long) (by decide) (by decide)))) (((((((E_a0.wr W2).wr W3).wr W4).wr W5).wr W6).wr W7).wr W8) (Or.inr ⟨(hw _ (List.mem_of_getElem? (i := 40) rfl)), rfl, hnm⟩) (hw _ (List.mem_of_getElem? (i := 19) rfl)) (ty := .long) (by decide) rfl rfl (g := (mkF m 46 #[.val (.ref a0), .val .null, .val (.ref a2), .val (.long q3), .second, .val (.int p4), .val (.int p5), .val (.int p6), .val (.long q7), .second, .val (.long q8), .second, .val .null, .val .null, .val .null] [(.long q8), (.ref a0)])) rfl rfl (hb hby d4_46)
  have Fw9 := (((((((F_u_suspendTimeoutMillis.other W2 (Or.inr (slot_ne (Or.inr (hw _ (List.mem_of_getElem? (i := 40) rfl))) (Or.inr (hw _ (List.mem_of_getElem? (i := 26) rfl))) (by decide) (t := .long) (t' := (.object "java/lang/String")) (by decide) (by decide)))).other W3 (Or.inr (slot_ne (Or.inr (hw _ (List.mem_of_getElem? (i := 40) rfl))) (Or.inr (hw _ (List.mem_of_getElem? (i := 28) rfl))) (by decide) (t := .long) (t' := (.object "com/example/hardy_queue/hardyqueue/store/QueueKey")) (by decide) (by decide)))).other W4 (Or.inr (slot_ne (Or.inr (hw _ (List.mem_of_getElem? (i := 40) rfl))) (Or.inr (hw _ (List.mem_of_getElem? (i := 30) rfl))) (by decide) (t := .long) (t' := .long) (by decide) (by decide)))).other W5 (Or.inr (slot_ne (Or.inr (hw _ (List.mem_of_getElem? (i := 40) rfl))) (Or.inr (hw _ (List.mem_of_getElem? (i := 32) rfl))) (by decide) (t := .long) (t' := .int) (by decide) (by decide)))).other W6 (Or.inr (slot_ne (Or.inr (hw _ (List.mem_of_getElem? (i := 40) rfl))) (Or.inr (hw _ (List.mem_of_getElem? (i := 34) rfl))) (by decide) (t := .long) (t' := .int) (by decide) (by decide)))).other W7 (Or.inr (slot_ne (Or.inr (hw _ (List.mem_of_getElem? (i := 40) rfl))) (Or.inr (hw _ (List.mem_of_getElem? (i := 36) rfl))) (by decide) (t := .long) (t' := .int) (by decide) (by decide)))).other W8 (Or.inr (slot_ne (Or.inr (hw _ (List.mem_of_getElem? (i := 40) rfl))) (Or.inr (hw _ (List.mem_of_getElem? (i := 38) rfl))) (by decide) (t := .long) (t' := .long) (by decide) (by decide)))).same W9
  have N9 := Fr.snoc X9 N8 g_a0
  have Kp9 : Keep h0 h9 [a0] := Kp8.wr W9 (Or.inl (List.mem_of_getElem? (i := 0) rfl))
  refine .pre (fun _ k => st9 _ k) ?_
  show OwnEnds p e below _ (T9.setTop (mkF m 49 #[.val (.ref a0), .val .null, .val (.ref a2), .val (.long q3), .second, .val (.int p4), .val (.int p5), .val (.int p6), .val (.long q7), .second, .val (.long q8), .second, .val .null, .val .null, .val .null] []))
  refine .pre (fun _ k => XS.aloadN X9.here hx rfl (hb hby d4_49) rfl rfl k) ?_
  show OwnEnds p e below _ (T9.setTop (mkF m 50 #[.val (.ref a0), .val .null, .val (.ref a2), .val (.long q3), .second, .val (.int p4), .val (.int p5), .val (.int p6), .val (.long q7), .second, .val (.long q8), .second, .val .null, .val .null, .val .null] [(.ref a0)]))
  refine .pre (fun _ k => XS.aload X9.here hx rfl (hb hby d4_50) rfl rfl k) ?_
  show OwnEnds p e below _ (T9.setTop (mkF m 52 #[.val (.ref a0), .val .null, .val (.ref a2), .val (.long q3), .second, .val (.int p4), .val (.int p5), .val (.int p6), .val (.long q7), .second, .val (.long q8), .second, .val .null, .val .null, .val .null] [.null, (.ref a0)]))
  obtain ⟨T10, h10, X10, e10, W10, st10⟩ := putF X9 hx hZ hown (host := "") (Or.inl (hw _ (List.mem_of_getElem? (i := 41) rfl))) Via.refl e9 ((((((((F_u_subscription.other W2 (Or.inr (slot_ne (Or.inr (hw _ (List.mem_of_getElem? (i := 42) rfl))) (Or.inr (hw _ (List.mem_of_getElem? (i := 26) rfl))) (by decide) (t := (.object "java/lang/String")) (t' := (.object "java/lang/String")) (by decide) (by decide)))).other W3 (Or.inr (slot_ne (Or.inr (hw _ (List.mem_of_getElem? (i := 42) rfl))) (Or.inr (hw _ (List.mem_of_getElem? (i := 28) rfl))) (by decide) (t := (.object "java/lang/String")) (t' := (.object "com/example/hardy_queue/hardyqueue/store/QueueKey")) (by decide) (by decide)))).other W4 (Or.inr (slot_ne (Or.inr (hw _ (List.mem_of_getElem? (i := 42) rfl))) (Or.inr (hw _ (List.mem_of_getElem? (i := 30) rfl))) (by decide) (t := (.object "java/lang/String")) (t' := .long) (by decide) (by decide)))).other W5 (Or.inr (slot_ne (Or.inr (hw _ (List.mem_of_getElem? (i := 42) rfl))) (Or.inr (hw _ (List.mem_of_getElem? (i := 32) rfl))) (by decide) (t := (.object "java/lang/String")) (t' := .int) (by decide) (by decide)))).other W6 (Or.inr (slot_ne (Or.inr (hw _ (List.mem_of_getElem? (i := 42) rfl))) (Or.inr (hw _ (List.mem_of_getElem? (i := 34) rfl))) (by decide) (t := (.object "java/lang/String")) (t' := .int) (by decide) (by decide)))).other W7 (Or.inr (slot_ne (Or.inr (hw _ (List.mem_of_getElem? (i := 42) rfl))) (Or.inr (hw _ (List.mem_of_getElem? (i := 36) rfl))) (by decide) (t := (.object "java/lang/String")) (t' := .int) (by decide) (by decide)))).other W8 (Or.inr (slot_ne (Or.inr (hw _ (List.mem_of_getElem? (i := 42) rfl))) (Or.inr (hw _ (List.mem_of_getElem? (i := 38) rfl))) (by decide) (t := (.object "java/lang/String")) (t' := .long) (by decide) (by decide)))).other W9 (Or.inr (slot_ne (Or.inr (hw _ (List.mem_of_getElem? (i := 42) rfl))) (Or.inr (hw _ (List.mem_of_getElem? (i := 40) rfl))) (by decide) (t := (.object "java/lang/String")) (t' := .long) (by decide) (by decide)))) ((((((((E_a0.wr W2).wr W3).wr W4).wr W5).wr W6).wr W7).wr W8).wr W9) (Or.inr ⟨(hw _ (List.mem_of_getElem? (i := 42) rfl)), rfl, hnm⟩) (hw _ (List.mem_of_getElem? (i := 19) rfl)) (ty := (.object "java/lang/String")) (by decide) rfl rfl (g := (mkF m 52 #[.val (.ref a0), .val .null, .val (.ref a2), .val (.long q3), .second, .val (.int p4), .val (.int p5), .val (.int p6), .val (.long q7), .second, .val (.long q8), .second, .val .null, .val .null, .val .null] [.null, (.ref a0)])) rfl rfl (hb hby d4_52)
  have Fw10 := ((((((((F_u_subscription.other W2 (Or.inr (slot_ne (Or.inr (hw _ (List.mem_of_getElem? (i := 42) rfl))) (Or.inr (hw _ (List.mem_of_getElem? (i := 26) rfl))) (by decide) (t := (.object "java/lang/String")) (t' := (.object "java/lang/String")) (by decide) (by decide)))).other W3 (Or.inr (slot_ne (Or.inr (hw _ (List.mem_of_getElem? (i := 42) rfl))) (Or.inr (hw _ (List.mem_of_getElem? (i := 28) rfl))) (by decide) (t := (.object "java/lang/String")) (t' := (.object "com/example/hardy_queue/hardyqueue/store/QueueKey")) (by decide) (by decide)))).other W4 (Or.inr (slot_ne (Or.inr (hw _ (List.mem_of_getElem? (i := 42) rfl))) (Or.inr (hw _ (List.mem_of_getElem? (i := 30) rfl))) (by decide) (t := (.object "java/lang/String")) (t' := .long) (by decide) (by decide)))).other W5 (Or.inr (slot_ne (Or.inr (hw _ (List.mem_of_getElem? (i := 42) rfl))) (Or.inr (hw _ (List.mem_of_getElem? (i := 32) rfl))) (by decide) (t := (.object "java/lang/String")) (t' := .int) (by decide) (by decide)))).other W6 (Or.inr (slot_ne (Or.inr (hw _ (List.mem_of_getElem? (i := 42) rfl))) (Or.inr (hw _ (List.mem_of_getElem? (i := 34) rfl))) (by decide) (t := (.object "java/lang/String")) (t' := .int) (by decide) (by decide)))).other W7 (Or.inr (slot_ne (Or.inr (hw _ (List.mem_of_getElem? (i := 42) rfl))) (Or.inr (hw _ (List.mem_of_getElem? (i := 36) rfl))) (by decide) (t := (.object "java/lang/String")) (t' := .int) (by decide) (by decide)))).other W8 (Or.inr (slot_ne (Or.inr (hw _ (List.mem_of_getElem? (i := 42) rfl))) (Or.inr (hw _ (List.mem_of_getElem? (i := 38) rfl))) (by decide) (t := (.object "java/lang/String")) (t' := .long) (by decide) (by decide)))).other W9 (Or.inr (slot_ne (Or.inr (hw _ (List.mem_of_getElem? (i := 42) rfl))) (Or.inr (hw _ (List.mem_of_getElem? (i := 40) rfl))) (by decide) (t := (.object "java/lang/String")) (t' := .long) (by decide) (by decide)))).same W10
  have N10 := Fr.snoc X10 N9 g_a0
  have Kp10 : Keep h0 h10 [a0] := Kp9.wr W10 (Or.inl (List.mem_of_getElem? (i := 0) rfl))
  refine .pre (fun _ k => st10 _ k) ?_
  show OwnEnds p e below _ (T10.setTop (mkF m 55 #[.val (.ref a0), .val .null, .val (.ref a2), .val (.long q3), .second, .val (.int p4), .val (.int p5), .val (.int p6), .val (.long q7), .second, .val (.long q8), .second, .val .null, .val .null, .val .null] []))
  refine .pre (fun _ k => XS.aloadN X10.here hx rfl (hb hby d4_55) rfl rfl k) ?_
  show OwnEnds p e below _ (T10.setTop (mkF m 56 #[.val (.ref a0), .val .null, .val (.ref a2), .val (.long q3), .second, .val (.int p4), .val (.int p5), .val (.int p6), .val (.long q7), .second, .val (.long q8), .second, .val .null, .val .null, .val .null] [(.ref a0)]))
  refine .pre (fun _ k => XS.aload X10.here hx rfl (hb hby d4_56) rfl rfl k) ?_
  show OwnEnds p e below _ (T10.setTop (mkF m 58 #[.val (.ref a0), .val .null, .val (.ref a2), .val (.long q3), .second, .val (.int p4), .val (.int p5), .val (.int p6), .val (.long q7), .second, .val (.long q8), .second, .val .null, .val .null, .val .null] [.null, (.ref a0)]))
  obtain ⟨T11, h11, X11, e11, W11, st11⟩ := putF X10 hx hZ hown (host := "") (Or.inl (hw _ (List.mem_of_getElem? (i := 43) rfl))) Via.refl e10 (((((((((F_u_expressionType.other W2 (Or.inr (slot_ne (Or.inr (hw _ (List.mem_of_getElem? (i := 44) rfl))) (Or.inr (hw _ (List.mem_of_getElem? (i := 26) rfl))) (by decide) (t := (.object "java/lang/String")) (t' := (.object "java/lang/String")) (by decide) (by decide)))).other W3 (Or.inr (slot_ne (Or.inr (hw _ (List.mem_of_getElem? (i := 44) rfl))) (Or.inr (hw _ (List.mem_of_getElem? (i := 28) rfl))) (by decide) (t := (.object "java/lang/String")) (t' := (.object "com/example/hardy_queue/hardyqueue/store/QueueKey")) (by decide) (by decide)))).other W4 (Or.inr (slot_ne (Or.inr (hw _ (List.mem_of_getElem? (i := 44) rfl))) (Or.inr (hw _ (List.mem_of_getElem? (i := 30) rfl))) (by decide) (t := (.object "java/lang/String")) (t' := .long) (by decide) (by decide)))).other W5 (Or.inr (slot_ne (Or.inr (hw _ (List.mem_of_getElem? (i := 44) rfl))) (Or.inr (hw _ (List.mem_of_getElem? (i := 32) rfl))) (by decide) (t := (.object "java/lang/String")) (t' := .int) (by decide) (by decide)))).other W6 (Or.inr (slot_ne (Or.inr (hw _ (List.mem_of_getElem? (i := 44) rfl))) (Or.inr (hw _ (List.mem_of_getElem? (i := 34) rfl))) (by decide) (t := (.object "java/lang/String")) (t' := .int) (by decide) (by decide)))).other W7 (Or.inr (slot_ne (Or.inr (hw _ (List.mem_of_getElem? (i := 44) rfl))) (Or.inr (hw _ (List.mem_of_getElem? (i := 36) rfl))) (by decide) (t := (.object "java/lang/String")) (t' := .int) (by decide) (by decide)))).other W8 (Or.inr (slot_ne (Or.inr (hw _ (List.mem_of_getElem? (i := 44) rfl))) (Or.inr (hw _ (List.mem_of_getElem? (i := 38) rfl))) (by decide) (t := (.object "java/lang/String")) (t' := .long) (by decide) (by decide)))).other W9 (Or.inr (slot_ne (Or.inr (hw _ (List.mem_of_getElem? (i := 44) rfl))) (Or.inr (hw _ (List.mem_of_getElem? (i := 40) rfl))) (by decide) (t := (.object "java/lang/String")) (t' := .long) (by decide) (by decide)))).other W10 (Or.inr (slot_ne (Or.inr (hw _ (List.mem_of_getElem? (i := 44) rfl))) (Or.inr (hw _ (List.mem_of_getElem? (i := 42) rfl))) (by decide) (t := (.object "java/lang/String")) (t' := (.object "java/lang/String")) (by decide) (by decide)))) (((((((((E_a0.wr W2).wr W3).wr W4).wr W5).wr W6).wr W7).wr W8).wr W9).wr W10) (Or.inr ⟨(hw _ (List.mem_of_getElem? (i := 44) rfl)), rfl, hnm⟩) (hw _ (List.mem_of_getElem? (i := 19) rfl)) (ty := (.object "java/lang/String")) (by decide) rfl rfl (g := (mkF m 58 #[.val (.ref a0), .val .null, .val (.ref a2), .val (.long q3), .second, .val (.int p4), .val (.int p5), .val (.int p6), .val (.long q7), .second, .val (.long q8), .second, .val .null, .val .null, .val .null] [.null, (.ref a0)])) rfl rfl (hb hby d4_58)
  have Fw11 := (((((((((F_u_expressionType.other W2 (Or.inr (slot_ne (Or.inr (hw _ (List.mem_of_getElem? (i := 44) rfl))) (Or.inr (hw _ (List.mem_of_getElem? (i := 26) rfl))) (by decide) (t := (.object "java/lang/String")) (t' := (.object "java/lang/String")) (by decide) (by decide)))).other W3 (Or.inr (slot_ne (Or.inr (hw _ (List.mem_of_getElem? (i := 44) rfl))) (Or.inr (hw _ (List.mem_of_getElem? (i := 28) rfl))) (by decide) (t := (.object "java/lang/String")) (t' := (.object "com/example/hardy_queue/hardyqueue/store/QueueKey")) (by decide) (by decide)))).other W4 (Or.inr (slot_ne (Or.inr (hw _ (List.mem_of_getElem? (i := 44) rfl))) (Or.inr (hw _ (List.mem_of_getElem? (i := 30) rfl))) (by decide) (t := (.object "java/lang/String")) (t' := .long) (by decide) (by decide)))).other W5 (Or.inr (slot_ne (Or.inr (hw _ (List.mem_of_getElem? (i := 44) rfl))) (Or.inr (hw _ (List.mem_of_getElem? (i := 32) rfl))) (by decide) (t := (.object "java/lang/String")) (t' := .int) (by decide) (by decide)))).other W6 (Or.inr (slot_ne (Or.inr (hw _ (List.mem_of_getElem? (i := 44) rfl))) (Or.inr (hw _ (List.mem_of_getElem? (i := 34) rfl))) (by decide) (t := (.object "java/lang/String")) (t' := .int) (by decide) (by decide)))).other W7 (Or.inr (slot_ne (Or.inr (hw _ (List.mem_of_getElem? (i := 44) rfl))) (Or.inr (hw _ (List.mem_of_getElem? (i := 36) rfl))) (by decide) (t := (.object "java/lang/String")) (t' := .int) (by decide) (by decide)))).other W8 (Or.inr (slot_ne (Or.inr (hw _ (List.mem_of_getElem? (i := 44) rfl))) (Or.inr (hw _ (List.mem_of_getElem? (i := 38) rfl))) (by decide) (t := (.object "java/lang/String")) (t' := .long) (by decide) (by decide)))).other W9 (Or.inr (slot_ne (Or.inr (hw _ (List.mem_of_getElem? (i := 44) rfl))) (Or.inr (hw _ (List.mem_of_getElem? (i := 40) rfl))) (by decide) (t := (.object "java/lang/String")) (t' := .long) (by decide) (by decide)))).other W10 (Or.inr (slot_ne (Or.inr (hw _ (List.mem_of_getElem? (i := 44) rfl))) (Or.inr (hw _ (List.mem_of_getElem? (i := 42) rfl))) (by decide) (t := (.object "java/lang/String")) (t' := (.object "java/lang/String")) (by decide) (by decide)))).same W11
  have N11 := Fr.snoc X11 N10 g_a0
  have Kp11 : Keep h0 h11 [a0] := Kp10.wr W11 (Or.inl (List.mem_of_getElem? (i := 0) rfl))
  refine .pre (fun _ k => st11 _ k) ?_
  show OwnEnds p e below _ (T11.setTop (mkF m 61 #[.val (.ref a0), .val .null, .val (.ref a2), .val (.long q3), .second, .val (.int p4), .val (.int p5), .val (.int p6), .val (.long q7), .second, .val (.long q8), .second, .val .null, .val .null, .val .null] []))
  refine .pre (fun _ k => XS.aloadN X11.here hx rfl (hb hby d4_61) rfl rfl k) ?_
  show OwnEnds p e below _ (T11.setTop (mkF m 62 #[.val (.ref a0), .val .null, .val (.ref a2), .val (.long q3), .second, .val (.int p4), .val (.int p5), .val (.int p6), .val (.long q7), .second, .val (.long q8), .second, .val .null, .val .null, .val .null] [(.ref a0)]))
  refine .pre (fun _ k => XS.aload X11.here hx rfl (hb hby d4_62) rfl rfl k) ?_
  show OwnEnds p e below _ (T11.setTop (mkF m 64 #[.val (.ref a0), .val .null, .val (.ref a2), .val (.long q3), .second, .val (.int p4), .val (.int p5), .val (.int p6), .val (.long q7), .second, .val (.long q8), .second, .val .null, .val .null, .val .null] [.null, (.ref a0)]))
  obtain ⟨T12, h12, X12, e12, W12, st12⟩ := putF X11 hx hZ hown (host := "") (Or.inl (hw _ (List.mem_of_getElem? (i := 45) rfl))) Via.refl e11 ((((((((((F_u_brokerName.other W2 (Or.inr (slot_ne (Or.inr (hw _ (List.mem_of_getElem? (i := 46) rfl))) (Or.inr (hw _ (List.mem_of_getElem? (i := 26) rfl))) (by decide) (t := (.object "java/lang/String")) (t' := (.object "java/lang/String")) (by decide) (by decide)))).other W3 (Or.inr (slot_ne (Or.inr (hw _ (List.mem_of_getElem? (i := 46) rfl))) (Or.inr (hw _ (List.mem_of_getElem? (i := 28) rfl))) (by decide) (t := (.object "java/lang/String")) (t' := (.object "com/example/hardy_queue/hardyqueue/store/QueueKey")) (by decide) (by decide)))).other W4 (Or.inr (slot_ne (Or.inr (hw _ (List.mem_of_getElem? (i := 46) rfl))) (Or.inr (hw _ (List.mem_of_getElem? (i := 30) rfl))) (by decide) (t := (.object "java/lang/String")) (t' := .long) (by decide) (by decide)))).other W5 (Or.inr (slot_ne (Or.inr (hw _ (List.mem_of_getElem? (i := 46) rfl))) (Or.inr (hw _ (List.mem_of_getElem? (i := 32) rfl))) (by decide) (t := (.object "java/lang/String")) (t' := .int) (by decide) (by decide)))).other W6 (Or.inr (slot_ne (Or.inr (hw _ (List.mem_of_getElem? (i := 46) rfl))) (Or.inr (hw _ (List.mem_of_getElem? (i := 34) rfl))) (by decide) (t := (.object "java/lang/String")) (t' := .int) (by decide) (by decide)))).other W7 (Or.inr (slot_ne (Or.inr (hw _ (List.mem_of_getElem? (i := 46) rfl))) (Or.inr (hw _ (List.mem_of_getElem? (i := 36) rfl))) (by decide) (t := (.object "java/lang/String")) (t' := .int) (by decide) (by decide)))).other W8 (Or.inr (slot_ne (Or.inr (hw _ (List.mem_of_getElem? (i := 46) rfl))) (Or.inr (hw _ (List.mem_of_getElem? (i := 38) rfl))) (by decide) (t := (.object "java/lang/String")) (t' := .long) (by decide) (by decide)))).other W9 (Or.inr (slot_ne (Or.inr (hw _ (List.mem_of_getElem? (i := 46) rfl))) (Or.inr (hw _ (List.mem_of_getElem? (i := 40) rfl))) (by decide) (t := (.object "java/lang/String")) (t' := .long) (by decide) (by decide)))).other W10 (Or.inr (slot_ne (Or.inr (hw _ (List.mem_of_getElem? (i := 46) rfl))) (Or.inr (hw _ (List.mem_of_getElem? (i := 42) rfl))) (by decide) (t := (.object "java/lang/String")) (t' := (.object "java/lang/String")) (by decide) (by decide)))).other W11 (Or.inr (slot_ne (Or.inr (hw _ (List.mem_of_getElem? (i := 46) rfl))) (Or.inr (hw _ (List.mem_of_getElem? (i := 44) rfl))) (by decide) (t := (.object "java/lang/String")) (t' := (.object "java/lang/String")) (by decide) (by decide)))) ((((((((((E_a0.wr W2).wr W3).wr W4).wr W5).wr W6).wr W7).wr W8).wr W9).wr W10).wr W11) (Or.inr ⟨(hw _ (List.mem_of_getElem? (i := 46) rfl)), rfl, hnm⟩) (hw _ (List.mem_of_getElem? (i := 19) rfl)) (ty := (.object "java/lang/String")) (by decide) rfl rfl (g := (mkF m 64 #[.val (.ref a0), .val .null, .val (.ref a2), .val (.long q3), .second, .val (.int p4), .val (.int p5), .val (.int p6), .val (.long q7), .second, .val (.long q8), .second, .val .null, .val .null, .val .null] [.null, (.ref a0)])) rfl rfl (hb hby d4_64)
  have Fw12 := ((((((((((F_u_brokerName.other W2 (Or.inr (slot_ne (Or.inr (hw _ (List.mem_of_getElem? (i := 46) rfl))) (Or.inr (hw _ (List.mem_of_getElem? (i := 26) rfl))) (by decide) (t := (.object "java/lang/String")) (t' := (.object "java/lang/String")) (by decide) (by decide)))).other W3 (Or.inr (slot_ne (Or.inr (hw _ (List.mem_of_getElem? (i := 46) rfl))) (Or.inr (hw _ (List.mem_of_getElem? (i := 28) rfl))) (by decide) (t := (.object "java/lang/String")) (t' := (.object "com/example/hardy_queue/hardyqueue/store/QueueKey")) (by decide) (by decide)))).other W4 (Or.inr (slot_ne (Or.inr (hw _ (List.mem_of_getElem? (i := 46) rfl))) (Or.inr (hw _ (List.mem_of_getElem? (i := 30) rfl))) (by decide) (t := (.object "java/lang/String")) (t' := .long) (by decide) (by decide)))).other W5 (Or.inr (slot_ne (Or.inr (hw _ (List.mem_of_getElem? (i := 46) rfl))) (Or.inr (hw _ (List.mem_of_getElem? (i := 32) rfl))) (by decide) (t := (.object "java/lang/String")) (t' := .int) (by decide) (by decide)))).other W6 (Or.inr (slot_ne (Or.inr (hw _ (List.mem_of_getElem? (i := 46) rfl))) (Or.inr (hw _ (List.mem_of_getElem? (i := 34) rfl))) (by decide) (t := (.object "java/lang/String")) (t' := .int) (by decide) (by decide)))).other W7 (Or.inr (slot_ne (Or.inr (hw _ (List.mem_of_getElem? (i := 46) rfl))) (Or.inr (hw _ (List.mem_of_getElem? (i := 36) rfl))) (by decide) (t := (.object "java/lang/String")) (t' := .int) (by decide) (by decide)))).other W8 (Or.inr (slot_ne (Or.inr (hw _ (List.mem_of_getElem? (i := 46) rfl))) (Or.inr (hw _ (List.mem_of_getElem? (i := 38) rfl))) (by decide) (t := (.object "java/lang/String")) (t' := .long) (by decide) (by decide)))).other W9 (Or.inr (slot_ne (Or.inr (hw _ (List.mem_of_getElem? (i := 46) rfl))) (Or.inr (hw _ (List.mem_of_getElem? (i := 40) rfl))) (by decide) (t := (.object "java/lang/String")) (t' := .long) (by decide) (by decide)))).other W10 (Or.inr (slot_ne (Or.inr (hw _ (List.mem_of_getElem? (i := 46) rfl))) (Or.inr (hw _ (List.mem_of_getElem? (i := 42) rfl))) (by decide) (t := (.object "java/lang/String")) (t' := (.object "java/lang/String")) (by decide) (by decide)))).other W11 (Or.inr (slot_ne (Or.inr (hw _ (List.mem_of_getElem? (i := 46) rfl))) (Or.inr (hw _ (List.mem_of_getElem? (i := 44) rfl))) (by decide) (t := (.object "java/lang/String")) (t' := (.object "java/lang/String")) (by decide) (by decide)))).same W12
  have N12 := Fr.snoc X12 N11 g_a0
  have Kp12 : Keep h0 h12 [a0] := Kp11.wr W12 (Or.inl (List.mem_of_getElem? (i := 0) rfl))
  refine .pre (fun _ k => st12 _ k) ?_
  show OwnEnds p e below _ (T12.setTop (mkF m 67 #[.val (.ref a0), .val .null, .val (.ref a2), .val (.long q3), .second, .val (.int p4), .val (.int p5), .val (.int p6), .val (.long q7), .second, .val (.long q8), .second, .val .null, .val .null, .val .null] []))
  exact own_endV X12 hx hlk Bd.returns (hb hby d4_67) (by decide) (by decide) ⟨rfl, N12, (by rw [e12]; exact Kp12), (by rw [e12]; exact (((((((((((E_a0.wr W2).wr W3).wr W4).wr W5).wr W6).wr W7).wr W8).wr W9).wr W10).wr W11).wr W12)), (by rw [e12]; exact ((((((((((Fw2.other W3 (Or.inr (slot_ne (Or.inr (hw _ (List.mem_of_getElem? (i := 26) rfl))) (Or.inr (hw _ (List.mem_of_getElem? (i := 28) rfl))) (by decide) (t := (.object "java/lang/String")) (t' := (.object "com/example/hardy_queue/hardyqueue/store/QueueKey")) (by decide) (by decide)))).other W4 (Or.inr (slot_ne (Or.inr (hw _ (List.mem_of_getElem? (i := 26) rfl))) (Or.inr (hw _ (List.mem_of_getElem? (i := 30) rfl))) (by decide) (t := (.object "java/lang/String")) (t' := .long) (by decide) (by decide)))).other W5 (Or.inr (slot_ne (Or.inr (hw _ (List.mem_of_getElem? (i := 26) rfl))) (Or.inr (hw _ (List.mem_of_getElem? (i := 32) rfl))) (by decide) (t := (.object "java/lang/String")) (t' := .int) (by decide) (by decide)))).other W6 (Or.inr (slot_ne (Or.inr (hw _ (List.mem_of_getElem? (i := 26) rfl))) (Or.inr (hw _ (List.mem_of_getElem? (i := 34) rfl))) (by decide) (t := (.object "java/lang/String")) (t' := .int) (by decide) (by decide)))).other W7 (Or.inr (slot_ne (Or.inr (hw _ (List.mem_of_getElem? (i := 26) rfl))) (Or.inr (hw _ (List.mem_of_getElem? (i := 36) rfl))) (by decide) (t := (.object "java/lang/String")) (t' := .int) (by decide) (by decide)))).other W8 (Or.inr (slot_ne (Or.inr (hw _ (List.mem_of_getElem? (i := 26) rfl))) (Or.inr (hw _ (List.mem_of_getElem? (i := 38) rfl))) (by decide) (t := (.object "java/lang/String")) (t' := .long) (by decide) (by decide)))).other W9 (Or.inr (slot_ne (Or.inr (hw _ (List.mem_of_getElem? (i := 26) rfl))) (Or.inr (hw _ (List.mem_of_getElem? (i := 40) rfl))) (by decide) (t := (.object "java/lang/String")) (t' := .long) (by decide) (by decide)))).other W10 (Or.inr (slot_ne (Or.inr (hw _ (List.mem_of_getElem? (i := 26) rfl))) (Or.inr (hw _ (List.mem_of_getElem? (i := 42) rfl))) (by decide) (t := (.object "java/lang/String")) (t' := (.object "java/lang/String")) (by decide) (by decide)))).other W11 (Or.inr (slot_ne (Or.inr (hw _ (List.mem_of_getElem? (i := 26) rfl))) (Or.inr (hw _ (List.mem_of_getElem? (i := 44) rfl))) (by decide) (t := (.object "java/lang/String")) (t' := (.object "java/lang/String")) (by decide) (by decide)))).other W12 (Or.inr (slot_ne (Or.inr (hw _ (List.mem_of_getElem? (i := 26) rfl))) (Or.inr (hw _ (List.mem_of_getElem? (i := 46) rfl))) (by decide) (t := (.object "java/lang/String")) (t' := (.object "java/lang/String")) (by decide) (by decide))))), (by rw [e12]; exact (((((((((Fw3.other W4 (Or.inr (slot_ne (Or.inr (hw _ (List.mem_of_getElem? (i := 28) rfl))) (Or.inr (hw _ (List.mem_of_getElem? (i := 30) rfl))) (by decide) (t := (.object "com/example/hardy_queue/hardyqueue/store/QueueKey")) (t' := .long) (by decide) (by decide)))).other W5 (Or.inr (slot_ne (Or.inr (hw _ (List.mem_of_getElem? (i := 28) rfl))) (Or.inr (hw _ (List.mem_of_getElem? (i := 32) rfl))) (by decide) (t := (.object "com/example/hardy_queue/hardyqueue/store/QueueKey")) (t' := .int) (by decide) (by decide)))).other W6 (Or.inr (slot_ne (Or.inr (hw _ (List.mem_of_getElem? (i := 28) rfl))) (Or.inr (hw _ (List.mem_of_getElem? (i := 34) rfl))) (by decide) (t := (.object "com/example/hardy_queue/hardyqueue/store/QueueKey")) (t' := .int) (by decide) (by decide)))).other W7 (Or.inr (slot_ne (Or.inr (hw _ (List.mem_of_getElem? (i := 28) rfl))) (Or.inr (hw _ (List.mem_of_getElem? (i := 36) rfl))) (by decide) (t := (.object "com/example/hardy_queue/hardyqueue/store/QueueKey")) (t' := .int) (by decide) (by decide)))).other W8 (Or.inr (slot_ne (Or.inr (hw _ (List.mem_of_getElem? (i := 28) rfl))) (Or.inr (hw _ (List.mem_of_getElem? (i := 38) rfl))) (by decide) (t := (.object "com/example/hardy_queue/hardyqueue/store/QueueKey")) (t' := .long) (by decide) (by decide)))).other W9 (Or.inr (slot_ne (Or.inr (hw _ (List.mem_of_getElem? (i := 28) rfl))) (Or.inr (hw _ (List.mem_of_getElem? (i := 40) rfl))) (by decide) (t := (.object "com/example/hardy_queue/hardyqueue/store/QueueKey")) (t' := .long) (by decide) (by decide)))).other W10 (Or.inr (slot_ne (Or.inr (hw _ (List.mem_of_getElem? (i := 28) rfl))) (Or.inr (hw _ (List.mem_of_getElem? (i := 42) rfl))) (by decide) (t := (.object "com/example/hardy_queue/hardyqueue/store/QueueKey")) (t' := (.object "java/lang/String")) (by decide) (by decide)))).other W11 (Or.inr (slot_ne (Or.inr (hw _ (List.mem_of_getElem? (i := 28) rfl))) (Or.inr (hw _ (List.mem_of_getElem? (i := 44) rfl))) (by decide) (t := (.object "com/example/hardy_queue/hardyqueue/store/QueueKey")) (t' := (.object "java/lang/String")) (by decide) (by decide)))).other W12 (Or.inr (slot_ne (Or.inr (hw _ (List.mem_of_getElem? (i := 28) rfl))) (Or.inr (hw _ (List.mem_of_getElem? (i := 46) rfl))) (by decide) (t := (.object "com/example/hardy_queue/hardyqueue/store/QueueKey")) (t' := (.object "java/lang/String")) (by decide) (by decide))))), (by rw [e12]; exact ((((((((Fw4.other W5 (Or.inr (slot_ne (Or.inr (hw _ (List.mem_of_getElem? (i := 30) rfl))) (Or.inr (hw _ (List.mem_of_getElem? (i := 32) rfl))) (by decide) (t := .long) (t' := .int) (by decide) (by decide)))).other W6 (Or.inr (slot_ne (Or.inr (hw _ (List.mem_of_getElem? (i := 30) rfl))) (Or.inr (hw _ (List.mem_of_getElem? (i := 34) rfl))) (by decide) (t := .long) (t' := .int) (by decide) (by decide)))).other W7 (Or.inr (slot_ne (Or.inr (hw _ (List.mem_of_getElem? (i := 30) rfl))) (Or.inr (hw _ (List.mem_of_getElem? (i := 36) rfl))) (by decide) (t := .long) (t' := .int) (by decide) (by decide)))).other W8 (Or.inr (slot_ne (Or.inr (hw _ (List.mem_of_getElem? (i := 30) rfl))) (Or.inr (hw _ (List.mem_of_getElem? (i := 38) rfl))) (by decide) (t := .long) (t' := .long) (by decide) (by decide)))).other W9 (Or.inr (slot_ne (Or.inr (hw _ (List.mem_of_getElem? (i := 30) rfl))) (Or.inr (hw _ (List.mem_of_getElem? (i := 40) rfl))) (by decide) (t := .long) (t' := .long) (by decide) (by decide)))).other W10 (Or.inr (slot_ne (Or.inr (hw _ (List.mem_of_getElem? (i := 30) rfl))) (Or.inr (hw _ (List.mem_of_getElem? (i := 42) rfl))) (by decide) (t := .long) (t' := (.object "java/lang/String")) (by decide) (by decide)))).other W11 (Or.inr (slot_ne (Or.inr (hw _ (List.mem_of_getElem? (i := 30) rfl))) (Or.inr (hw _ (List.mem_of_getElem? (i := 44) rfl))) (by decide) (t := .long) (t' := (.object "java/lang/String")) (by decide) (by decide)))).other W12 (Or.inr (slot_ne (Or.inr (hw _ (List.mem_of_getElem? (i := 30) rfl))) (Or.inr (hw _ (List.mem_of_getElem? (i := 46) rfl))) (by decide) (t := .long) (t' := (.object "java/lang/String")) (by decide) (by decide))))), (by rw [e12]; exact (((((((Fw5.other W6 (Or.inr (slot_ne (Or.inr (hw _ (List.mem_of_getElem? (i := 32) rfl))) (Or.inr (hw _ (List.mem_of_getElem? (i := 34) rfl))) (by decide) (t := .int) (t' := .int) (by decide) (by decide)))).other W7 (Or.inr (slot_ne (Or.inr (hw _ (List.mem_of_getElem? (i := 32) rfl))) (Or.inr (hw _ (List.mem_of_getElem? (i := 36) rfl))) (by decide) (t := .int) (t' := .int) (by decide) (by decide)))).other W8 (Or.inr (slot_ne (Or.inr (hw _ (List.mem_of_getElem? (i := 32) rfl))) (Or.inr (hw _ (List.mem_of_getElem? (i := 38) rfl))) (by decide) (t := .int) (t' := .long) (by decide) (by decide)))).other W9 (Or.inr (slot_ne (Or.inr (hw _ (List.mem_of_getElem? (i := 32) rfl))) (Or.inr (hw _ (List.mem_of_getElem? (i := 40) rfl))) (by decide) (t := .int) (t' := .long) (by decide) (by decide)))).other W10 (Or.inr (slot_ne (Or.inr (hw _ (List.mem_of_getElem? (i := 32) rfl))) (Or.inr (hw _ (List.mem_of_getElem? (i := 42) rfl))) (by decide) (t := .int) (t' := (.object "java/lang/String")) (by decide) (by decide)))).other W11 (Or.inr (slot_ne (Or.inr (hw _ (List.mem_of_getElem? (i := 32) rfl))) (Or.inr (hw _ (List.mem_of_getElem? (i := 44) rfl))) (by decide) (t := .int) (t' := (.object "java/lang/String")) (by decide) (by decide)))).other W12 (Or.inr (slot_ne (Or.inr (hw _ (List.mem_of_getElem? (i := 32) rfl))) (Or.inr (hw _ (List.mem_of_getElem? (i := 46) rfl))) (by decide) (t := .int) (t' := (.object "java/lang/String")) (by decide) (by decide))))), (by rw [e12]; exact ((((((Fw6.other W7 (Or.inr (slot_ne (Or.inr (hw _ (List.mem_of_getElem? (i := 34) rfl))) (Or.inr (hw _ (List.mem_of_getElem? (i := 36) rfl))) (by decide) (t := .int) (t' := .int) (by decide) (by decide)))).other W8 (Or.inr (slot_ne (Or.inr (hw _ (List.mem_of_getElem? (i := 34) rfl))) (Or.inr (hw _ (List.mem_of_getElem? (i := 38) rfl))) (by decide) (t := .int) (t' := .long) (by decide) (by decide)))).other W9 (Or.inr (slot_ne (Or.inr (hw _ (List.mem_of_getElem? (i := 34) rfl))) (Or.inr (hw _ (List.mem_of_getElem? (i := 40) rfl))) (by decide) (t := .int) (t' := .long) (by decide) (by decide)))).other W10 (Or.inr (slot_ne (Or.inr (hw _ (List.mem_of_getElem? (i := 34) rfl))) (Or.inr (hw _ (List.mem_of_getElem? (i := 42) rfl))) (by decide) (t := .int) (t' := (.object "java/lang/String")) (by decide) (by decide)))).other W11 (Or.inr (slot_ne (Or.inr (hw _ (List.mem_of_getElem? (i := 34) rfl))) (Or.inr (hw _ (List.mem_of_getElem? (i := 44) rfl))) (by decide) (t := .int) (t' := (.object "java/lang/String")) (by decide) (by decide)))).other W12 (Or.inr (slot_ne (Or.inr (hw _ (List.mem_of_getElem? (i := 34) rfl))) (Or.inr (hw _ (List.mem_of_getElem? (i := 46) rfl))) (by decide) (t := .int) (t' := (.object "java/lang/String")) (by decide) (by decide))))), (by rw [e12]; exact (((((Fw7.other W8 (Or.inr (slot_ne (Or.inr (hw _ (List.mem_of_getElem? (i := 36) rfl))) (Or.inr (hw _ (List.mem_of_getElem? (i := 38) rfl))) (by decide) (t := .int) (t' := .long) (by decide) (by decide)))).other W9 (Or.inr (slot_ne (Or.inr (hw _ (List.mem_of_getElem? (i := 36) rfl))) (Or.inr (hw _ (List.mem_of_getElem? (i := 40) rfl))) (by decide) (t := .int) (t' := .long) (by decide) (by decide)))).other W10 (Or.inr (slot_ne (Or.inr (hw _ (List.mem_of_getElem? (i := 36) rfl))) (Or.inr (hw _ (List.mem_of_getElem? (i := 42) rfl))) (by decide) (t := .int) (t' := (.object "java/lang/String")) (by decide) (by decide)))).other W11 (Or.inr (slot_ne (Or.inr (hw _ (List.mem_of_getElem? (i := 36) rfl))) (Or.inr (hw _ (List.mem_of_getElem? (i := 44) rfl))) (by decide) (t := .int) (t' := (.object "java/lang/String")) (by decide) (by decide)))).other W12 (Or.inr (slot_ne (Or.inr (hw _ (List.mem_of_getElem? (i := 36) rfl))) (Or.inr (hw _ (List.mem_of_getElem? (i := 46) rfl))) (by decide) (t := .int) (t' := (.object "java/lang/String")) (by decide) (by decide))))), (by rw [e12]; exact ((((Fw8.other W9 (Or.inr (slot_ne (Or.inr (hw _ (List.mem_of_getElem? (i := 38) rfl))) (Or.inr (hw _ (List.mem_of_getElem? (i := 40) rfl))) (by decide) (t := .long) (t' := .long) (by decide) (by decide)))).other W10 (Or.inr (slot_ne (Or.inr (hw _ (List.mem_of_getElem? (i := 38) rfl))) (Or.inr (hw _ (List.mem_of_getElem? (i := 42) rfl))) (by decide) (t := .long) (t' := (.object "java/lang/String")) (by decide) (by decide)))).other W11 (Or.inr (slot_ne (Or.inr (hw _ (List.mem_of_getElem? (i := 38) rfl))) (Or.inr (hw _ (List.mem_of_getElem? (i := 44) rfl))) (by decide) (t := .long) (t' := (.object "java/lang/String")) (by decide) (by decide)))).other W12 (Or.inr (slot_ne (Or.inr (hw _ (List.mem_of_getElem? (i := 38) rfl))) (Or.inr (hw _ (List.mem_of_getElem? (i := 46) rfl))) (by decide) (t := .long) (t' := (.object "java/lang/String")) (by decide) (by decide))))), (by rw [e12]; exact (((Fw9.other W10 (Or.inr (slot_ne (Or.inr (hw _ (List.mem_of_getElem? (i := 40) rfl))) (Or.inr (hw _ (List.mem_of_getElem? (i := 42) rfl))) (by decide) (t := .long) (t' := (.object "java/lang/String")) (by decide) (by decide)))).other W11 (Or.inr (slot_ne (Or.inr (hw _ (List.mem_of_getElem? (i := 40) rfl))) (Or.inr (hw _ (List.mem_of_getElem? (i := 44) rfl))) (by decide) (t := .long) (t' := (.object "java/lang/String")) (by decide) (by decide)))).other W12 (Or.inr (slot_ne (Or.inr (hw _ (List.mem_of_getElem? (i := 40) rfl))) (Or.inr (hw _ (List.mem_of_getElem? (i := 46) rfl))) (by decide) (t := .long) (t' := (.object "java/lang/String")) (by decide) (by decide))))), (by rw [e12]; exact ((Fw10.other W11 (Or.inr (slot_ne (Or.inr (hw _ (List.mem_of_getElem? (i := 42) rfl))) (Or.inr (hw _ (List.mem_of_getElem? (i := 44) rfl))) (by decide) (t := (.object "java/lang/String")) (t' := (.object "java/lang/String")) (by decide) (by decide)))).other W12 (Or.inr (slot_ne (Or.inr (hw _ (List.mem_of_getElem? (i := 42) rfl))) (Or.inr (hw _ (List.mem_of_getElem? (i := 46) rfl))) (by decide) (t := (.object "java/lang/String")) (t' := (.object "java/lang/String")) (by decide) (by decide))))), (by rw [e12]; exact (Fw11.other W12 (Or.inr (slot_ne (Or.inr (hw _ (List.mem_of_getElem? (i := 44) rfl))) (Or.inr (hw _ (List.mem_of_getElem? (i := 46) rfl))) (by decide) (t := (.object "java/lang/String")) (t' := (.object "java/lang/String")) (by decide) (by decide))))), (by rw [e12]; exact Fw12)⟩
theorem d5_0 : decode prog_9_method_3_code 0 = .ok (.aload_n 0, 1) := by decide +kernel
theorem d5_1 : decode prog_9_method_3_code 1 = .ok (.getfield 28, 3) := by decide +kernel
theorem d5_4 : decode prog_9_method_3_code 4 = .ok (.iconst 1, 1) := by decide +kernel
theorem d5_5 : decode prog_9_method_3_code 5 = .ok (.iand, 1) := by decide +kernel
theorem d5_6 : decode prog_9_method_3_code 6 = .ok (.ifCond .eq 7, 3) := by decide +kernel
theorem d5_9 : decode prog_9_method_3_code 9 = .ok (.iconst 1, 1) := by decide +kernel
theorem d5_10 : decode prog_9_method_3_code 10 = .ok (.goto 4, 3) := by decide +kernel
theorem d5_13 : decode prog_9_method_3_code 13 = .ok (.iconst 0, 1) := by decide +kernel
theorem d5_14 : decode prog_9_method_3_code 14 = .ok (.ireturn, 1) := by decide +kernel
theorem ef_5 (m : MethodId) (a0 : Addr) : entryFrame m #[(.ref a0)] 1 = mkF m 0 #[.val (.ref a0)] [] := by first | (simp [entryFrame, mkF, argsToLocals, Value.category]; done) | rfl
def f5_0 (w0 : Int32) : Int32 := (if (w0 &&& (1 : Int32)) = (0 : Int32) then (0 : Int32) else (1 : Int32))
def Q5 (Z : State) (a0 : Addr) (w0 : Int32) (h0 : Heap) (n0 : Nat) (v : Option Value) (h : Heap) (L : List Loc) : Prop := v = some (.int (f5_0 w0)) ∧ Fr n0 L ∧ h = h0
set_option maxRecDepth 65536 in
set_option maxHeartbeats 40000000 in
theorem rm5 (l : Launch) (Z : State) (aZ : Array Value) (hw : ∀ d ∈ tables_1, d.before aZ Z = true) (ws : List Jvm.Cond) (a0 : Addr) (w0 : Int32) (h0 : Heap) (n0 : Nat) (Z0 : n0 ≤ h0.size) (F0 : Fld Z h0 a0 "com/example/hardy_queue/hardyqueue/broker/PullRequest" "sysFlag" "I" (.int w0)) :
    MetFree l (⟨"com/example/hardy_queue/hardyqueue/broker/PullRequest", "commitsOffset", "()Z"⟩ : MethodName) (head1 (Jvm.Cond.code (⟨"com/example/hardy_queue/hardyqueue/broker/PullRequest", "commitsOffset", "()Z"⟩ : MethodName) prog_9_method_3_code 1 (some .boolean) :: ws) ({ frames := 0, cells := 0, slots := 0, locals := 0 } : Room)) (fun a U => a = #[(.ref a0)] ∧ Z.Warmed39 U.vm ∧ U.heap = h0) (fun _ _ _ _ _ => True) (fun _ U o U' => ∃ v L, o = .returned v ∧ Q5 Z a0 w0 h0 n0 v U'.heap L ∧ FrameEnd U o U' L 0 0) := by
  refine MetFree.of_bodySF (plainFor_of_name pn_3) hisR ?_
  intro p e s m args below meth c s₁ Bd hml0 hP hK
  obtain ⟨rfl, hZ, hh⟩ := hP
  have hx := Bd.exec
  have hby := Bd.bytes
  have hml : c.maxLocals = 1 := hml0
  have hown : s.vm.findClass "com/example/hardy_queue/hardyqueue/broker/PullRequest" = some m.cls := findClass_of_methodNamed Bd.named
  have hnm := (name_of_methodNamed Bd.named Bd.method).1
  have hlk := BodyLoose.notSynchronized Bd
  have X0 : Stand p l e ({ frames := 0, cells := 0, slots := 0, locals := 0 } : Room) s m #[(.ref a0)] below meth c s₁ [] 0 0 := Stand.of_body Bd
  have e0 : s₁.heap = h0 := by rw [← hh, Bd.state]; rfl
  have N0 := Fr.nil n0
  have hk0 : 0 ≤ 0 := Nat.zero_le _
  have hn0 : 0 ≤ 0 := Nat.zero_le _
  show OwnEnds p e below (OwnQ s (Q5 Z a0 w0 h0 n0) 0 0) (s₁.setTop (entryFrame m #[(.ref a0)] 1))
  refine .pre (fun t k => castTop (ef_5 m a0) k) ?_
  have hF : f5_0 w0 = f5_0 w0 := rfl
  change (if (w0 &&& (1 : Int32)) = (0 : Int32) then (0 : Int32) else (1 : Int32)) = _ at hF
  show OwnEnds p e below _ (s₁.setTop (mkF m 0 #[.val (.ref a0)] []))
  refine .pre (fun _ k => XS.aloadN X0.here hx rfl (hb hby d5_0) rfl rfl k) ?_
  show OwnEnds p e below _ (s₁.setTop (mkF m 1 #[.val (.ref a0)] [(.ref a0)]))
  obtain ⟨T2, X2, e2, st2⟩ := getF X0 hx hZ hown (host := "") (Or.inl (hw _ (List.mem_of_getElem? (i := 35) rfl))) Via.refl e0 F0 (g := (mkF m 1 #[.val (.ref a0)] [(.ref a0)])) rfl rfl (hb hby d5_1)
  refine .pre (fun _ k => st2 _ k) ?_
  show OwnEnds p e below _ (T2.setTop (mkF m 4 #[.val (.ref a0)] [(.int w0)]))
  refine .pre (fun _ k => XS.iconst X2.here hx rfl (hb hby d5_4) k) ?_
  show OwnEnds p e below _ (T2.setTop (mkF m 5 #[.val (.ref a0)] [(.int (1 : Int32)), (.int w0)]))
  refine .pre (fun _ k => XS.iand X2.here hx rfl (hb hby d5_5) rfl k) ?_
  show OwnEnds p e below _ (T2.setTop (mkF m 6 #[.val (.ref a0)] [(.int (w0 &&& (1 : Int32)))]))
  by_cases hc6 : (w0 &&& (1 : Int32)) = (0 : Int32)
  · rw [if_pos hc6] at hF
    refine .pre (fun _ k => XS.ifYes X2.here hx rfl (pc0 := 6) (pc' := 13) rfl (hb hby d5_6) rfl ((if0 _ _).trans (teq hc6).1) (by decide) (by decide) k) ?_
    show OwnEnds p e below _ (T2.setTop (mkF m 13 #[.val (.ref a0)] []))
    refine .pre (fun _ k => XS.iconst X2.here hx rfl (hb hby d5_13) k) ?_
    show OwnEnds p e below _ (T2.setTop (mkF m 14 #[.val (.ref a0)] [(.int (0 : Int32))]))
    exact own_endN X2 hx hlk (t := .boolean) Bd.returns (by simp) (hb hby d5_14) rfl hk0 hn0 ⟨congrArg (fun z => some (Value.int z)) hF, N0, e2⟩
  · rw [if_neg hc6] at hF
    refine .pre (fun _ k => XS.ifNo X2.here hx rfl (hb hby d5_6) rfl ((if0 _ _).trans (feq hc6).1) k) ?_
    show OwnEnds p e below _ (T2.setTop (mkF m 9 #[.val (.ref a0)] []))
    refine .pre (fun _ k => XS.iconst X2.here hx rfl (hb hby d5_9) k) ?_
    show OwnEnds p e below _ (T2.setTop (mkF m 10 #[.val (.ref a0)] [(.int (1 : Int32))]))
    refine .pre (fun _ k => XS.goto X2.here hx rfl (pc0 := 10) (pc' := 14) rfl (hb hby d5_10) (by decide) (by decide) k) ?_
    show OwnEnds p e below _ (T2.setTop (mkF m 14 #[.val (.ref a0)] [(.int (1 : Int32))]))
    exact own_endN X2 hx hlk (t := .boolean) Bd.returns (by simp) (hb hby d5_14) rfl hk0 hn0 ⟨congrArg (fun z => some (Value.int z)) hF, N0, e2⟩
theorem ef_0 (m : MethodId) (p0 : Int32) (q1 : Int64) (q2 : Int64) (p3 : Int32) : entryFrame m #[(.int p0), (.long q1), (.long q2), (.int p3)] maxLocals = mkF m 0 #[.val (.int p0), .val (.long q1), .second, .val (.long q2), .second, .val (.int p3), .unset, .unset, .unset, .unset] [] := by first | (simp [entryFrame, mkF, argsToLocals, Value.category, maxLocals]; done) | rfl
theorem pn_4 : plainName "com/example/hardy_queue/hardyqueue/broker/PullRequestCommitsOffsetPinLaw" = true := by first | (simp [plainName, overriddenIn]; done) | decide +kernel
theorem pd_5 : parseMethodDescriptor "(Ljava/lang/String;I)V" = some ⟨[(.object "java/lang/String"), .int], none⟩ := by decide +kernel
theorem pd_6 : parseMethodDescriptor "(Ljava/lang/String;Lcom/example/hardy_queue/hardyqueue/store/QueueKey;JIIIJJLjava/lang/String;Ljava/lang/String;Ljava/lang/String;)V" = some ⟨[(.object "java/lang/String"), (.object "com/example/hardy_queue/hardyqueue/store/QueueKey"), .long, .int, .int, .int, .long, .long, (.object "java/lang/String"), (.object "java/lang/String"), (.object "java/lang/String")], none⟩ := by decide +kernel
theorem pd_7 : parseMethodDescriptor "()Z" = some ⟨[], some .boolean⟩ := by decide +kernel
def f0_98 (p0 : Int32) (q1 : Int64) (q2 : Int64) (p3 : Int32) (t0 : Int32) (t1 : Int32) : Int32 := (if t1 = t0 then (1 : Int32) else (0 : Int32))
def f0_71 (p0 : Int32) (q1 : Int64) (q2 : Int64) (p3 : Int32) (t0 : Int32) : Int32 := (if (f5_0 p0) = t0 then (if t0 = (0 : Int32) then (f0_98 p0 q1 q2 p3 (1 : Int32) (f5_0 (p0 ^^^ (1 : Int32)))) else (f0_98 p0 q1 q2 p3 (0 : Int32) (f5_0 (p0 ^^^ (1 : Int32))))) else (0 : Int32))
def f0_60 (p0 : Int32) (q1 : Int64) (q2 : Int64) (p3 : Int32) (i0 : Int32) : Int32 := (if (i0 % (2 : Int32)) = (0 : Int32) then (f0_71 p0 q1 q2 p3 (0 : Int32)) else (f0_71 p0 q1 q2 p3 (1 : Int32)))
def Q0 (Z : State) (p0 : Int32) (q1 : Int64) (q2 : Int64) (p3 : Int32) (h0 : Heap) (n0 : Nat) (v : Option Value) (h : Heap) (L : List Loc) : Prop := v = some (.int (f0_60 p0 q1 q2 p3 p0)) ∧ Fr n0 L ∧ True
set_option maxRecDepth 65536 in
set_option maxHeartbeats 40000000 in
theorem rm0 (l : Launch) (Z : State) (aZ : Array Value) (hw : ∀ d ∈ tables_1, d.before aZ Z = true) (ws : List Jvm.Cond) (p0 : Int32) (q1 : Int64) (q2 : Int64) (p3 : Int32) (h0 : Heap) (n0 : Nat) (Z0 : n0 ≤ h0.size) :
    MetFree l x (head1 (Jvm.Cond.code x code maxLocals ret :: ws) room_1) (fun a U => a = #[(.int p0), (.long q1), (.long q2), (.int p3)] ∧ Z.Warmed39 U.vm ∧ U.heap = h0) (fun _ _ _ _ _ => True) (fun _ U o U' => ∃ v L, o = .returned v ∧ Q0 Z p0 q1 q2 p3 h0 n0 v U'.heap L ∧ FrameEnd U o U' L 16 128) := by
  refine MetFree.of_bodySF (plainFor_of_name pn_4) hisR ?_
  intro p e s m args below meth c s₁ Bd hml0 hP hK
  obtain ⟨rfl, hZ, hh⟩ := hP
  have hx := Bd.exec
  have hby := Bd.bytes
  have hml : c.maxLocals = 10 := hml0
  have hown : s.vm.findClass "com/example/hardy_queue/hardyqueue/broker/PullRequestCommitsOffsetPinLaw" = some m.cls := findClass_of_methodNamed Bd.named
  have hnm := (name_of_methodNamed Bd.named Bd.method).1
  have hlk := BodyLoose.notSynchronized Bd
  have X0 : Stand p l e room_1 s m #[(.int p0), (.long q1), (.long q2), (.int p3)] below meth c s₁ [] 0 0 := Stand.of_body Bd
  have e0 : s₁.heap = h0 := by rw [← hh, Bd.state]; rfl
  have N0 := Fr.nil n0
  have hk0 : 0 ≤ 16 := Nat.zero_le _
  have hn0 : 0 ≤ 128 := Nat.zero_le _
  show OwnEnds p e below (OwnQ s (Q0 Z p0 q1 q2 p3 h0 n0) 16 128) (s₁.setTop (entryFrame m #[(.int p0), (.long q1), (.long q2), (.int p3)] maxLocals))
  refine .pre (fun t k => castTop (ef_0 m p0 q1 q2 p3) k) ?_
  show OwnEnds p e below _ (s₁.setTop (mkF m 0 #[.val (.int p0), .val (.long q1), .second, .val (.long q2), .second, .val (.int p3), .unset, .unset, .unset, .unset] []))
  obtain ⟨T1, h1, X1, e1, E1, A1, D1, -, st1⟩ := newO X0 hx hZ hown (hw _ (List.mem_of_getElem? (i := 0) rfl)) (hw _ (List.mem_of_getElem? (i := 1) rfl)) (hw _ (List.mem_of_getElem? (i := 2) rfl)) e0 (g := (mkF m 0 #[.val (.int p0), .val (.long q1), .second, .val (.long q2), .second, .val (.int p3), .unset, .unset, .unset, .unset] [])) rfl (hb hby at_0) (by decide) (by decide)
  obtain ⟨b1, g1⟩ : ∃ z, z = h0.size := ⟨_, rfl⟩
  rw [← g1] at A1 D1 st1
  have g_b1 : n0 ≤ b1 := Nat.le_trans Z0 (Nat.le_of_eq g1.symm)
  have F1_topic : Fld Z h1 b1 "com/example/hardy_queue/hardyqueue/store/QueueKey" "topic" "Ljava/lang/String;" .null := D1 (Or.inr (hw _ (List.mem_of_getElem? (i := 15) rfl))) (ty := (.object "java/lang/String")) (by decide)
  have F1_queueId : Fld Z h1 b1 "com/example/hardy_queue/hardyqueue/store/QueueKey" "queueId" "I" (.int (0 : Int32)) := D1 (Or.inr (hw _ (List.mem_of_getElem? (i := 17) rfl))) (ty := .int) (by decide)
  refine .pre (fun _ k => st1 _ k) ?_
  show OwnEnds p e below _ (T1.setTop (mkF m 3 #[.val (.int p0), .val (.long q1), .second, .val (.long q2), .second, .val (.int p3), .unset, .unset, .unset, .unset] [(.ref b1)]))
  refine .pre (fun _ k => XS.dup X1.here hx rfl (hb hby at_3) rfl rfl k) ?_
  show OwnEnds p e below _ (T1.setTop (mkF m 4 #[.val (.int p0), .val (.long q1), .second, .val (.long q2), .second, .val (.int p3), .unset, .unset, .unset, .unset] [(.ref b1), (.ref b1)]))
  refine .pre (fun _ k => XS.aconstNull X1.here hx rfl (hb hby at_4) k) ?_
  show OwnEnds p e below _ (T1.setTop (mkF m 5 #[.val (.int p0), .val (.long q1), .second, .val (.long q2), .second, .val (.int p3), .unset, .unset, .unset, .unset] [.null, (.ref b1), (.ref b1)]))
  refine .pre (fun _ k => XS.iload X1.here hx rfl (hb hby at_5) rfl k) ?_
  show OwnEnds p e below _ (T1.setTop (mkF m 7 #[.val (.int p0), .val (.long q1), .second, .val (.long q2), .second, .val (.int p3), .unset, .unset, .unset, .unset] [(.int p3), .null, (.ref b1), (.ref b1)]))
  obtain ⟨_, _, ⟨T2, L2, k2, n2⟩, -, X2, ⟨Lc2, hQ2, l2, y2, z2⟩, st2⟩ := X1.specialBack hx (y := (⟨"com/example/hardy_queue/hardyqueue/store/QueueKey", "<init>", "(Ljava/lang/String;I)V"⟩ : MethodName)) rfl hown (mvT hZ (hw _ (List.mem_of_getElem? (i := 3) rfl))) (mvT hZ (hw _ (List.mem_of_getElem? (i := 4) rfl))) (mvT hZ (hw _ (List.mem_of_getElem? (i := 5) rfl))) (by decide) (backOf (W := 1) (rm1 l Z aZ hw [] b1 p3 .null (.int (0 : Int32)) h1 n0 (Nat.le_trans Z0 E1.1) g_b1 A1 F1_topic F1_queueId) hZ (hw _ (List.mem_of_getElem? (i := 5) rfl)) (hw _ (List.mem_of_getElem? (i := 2) rfl)) (by decide) (by decide)) (g := (mkF m 7 #[.val (.int p0), .val (.long q1), .second, .val (.long q2), .second, .val (.int p3), .unset, .unset, .unset, .unset] [(.int p3), .null, (.ref b1), (.ref b1)])) rfl (by rw [hml]; rfl) (Steps.refl _) (a := b1) (argsL := [.null, (.int p3)]) (rest := [(.ref b1)]) (lenOf pd_5 rfl) rfl (by show 2 * 0 + _ ≤ _; exact Nat.le_of_eq rfl) (hb hby at_7) (fun _ _ => ⟨rfl, e1, (by decide : 1 + 0 ≤ _), (by decide : 2 + 0 ≤ _)⟩)
  dsimp only [Pt.U, Pt.locs, Pt.cells, Pt.slots] at X2 l2 y2 z2 st2 hQ2
  subst l2 y2 z2
  obtain ⟨rfl, N2q, K2, Ea2, Fa2_0, Fa2_1⟩ := hQ2
  have N2 := Fr.app N0 N2q
  refine .pre (fun _ k => st2.trans k) ?_
  show OwnEnds p e below _ (T2.setTop (mkF m 10 #[.val (.int p0), .val (.long q1), .second, .val (.long q2), .second, .val (.int p3), .unset, .unset, .unset, .unset] [(.ref b1)]))
  refine .pre (fun _ k => XS.astore X2.here hx rfl (hb hby at_10) rfl rfl (l' := #[.val (.int p0), .val (.long q1), .second, .val (.long q2), .second, .val (.int p3), .val (.ref b1), .unset, .unset, .unset]) rfl k) ?_
  show OwnEnds p e below _ (T2.setTop (mkF m 12 #[.val (.int p0), .val (.long q1), .second, .val (.long q2), .second, .val (.int p3), .val (.ref b1), .unset, .unset, .unset] []))
  obtain ⟨T3, h3, X3, e3, E3, A3, D3, -, st3⟩ := newO X2 hx hZ hown (hw _ (List.mem_of_getElem? (i := 18) rfl)) (hw _ (List.mem_of_getElem? (i := 19) rfl)) (hw _ (List.mem_of_getElem? (i := 20) rfl)) rfl (g := (mkF m 12 #[.val (.int p0), .val (.long q1), .second, .val (.long q2), .second, .val (.int p3), .val (.ref b1), .unset, .unset, .unset] [])) rfl (hb hby at_12) (by decide) (by decide)
  obtain ⟨b3, g3⟩ : ∃ z, z = T2.heap.size := ⟨_, rfl⟩
  rw [← g3] at A3 D3 st3
  have g_b3 : n0 ≤ b3 := Nat.le_trans (Nat.le_trans (Nat.le_trans Z0 E1.1) K2.1) (Nat.le_of_eq g3.symm)
  have F3_consumerGroup : Fld Z h3 b3 "com/example/hardy_queue/hardyqueue/broker/PullRequest" "consumerGroup" "Ljava/lang/String;" .null := D3 (Or.inr (hw _ (List.mem_of_getElem? (i := 26) rfl))) (ty := (.object "java/lang/String")) (by decide)
  have F3_queue : Fld Z h3 b3 "com/example/hardy_queue/hardyqueue/broker/PullRequest" "queue" "Lcom/example/hardy_queue/hardyqueue/store/QueueKey;" .null := D3 (Or.inr (hw _ (List.mem_of_getElem? (i := 28) rfl))) (ty := (.object "com/example/hardy_queue/hardyqueue/store/QueueKey")) (by decide)
  have F3_queueOffset : Fld Z h3 b3 "com/example/hardy_queue/hardyqueue/broker/PullRequest" "queueOffset" "J" (.long (0 : Int64)) := D3 (Or.inr (hw _ (List.mem_of_getElem? (i := 30) rfl))) (ty := .long) (by decide)
  have F3_maxMsgNums : Fld Z h3 b3 "com/example/hardy_queue/hardyqueue/broker/PullRequest" "maxMsgNums" "I" (.int (0 : Int32)) := D3 (Or.inr (hw _ (List.mem_of_getElem? (i := 32) rfl))) (ty := .int) (by decide)
  have F3_maxMsgBytes : Fld Z h3 b3 "com/example/hardy_queue/hardyqueue/broker/PullRequest" "maxMsgBytes" "I" (.int (0 : Int32)) := D3 (Or.inr (hw _ (List.mem_of_getElem? (i := 34) rfl))) (ty := .int) (by decide)
  have F3_sysFlag : Fld Z h3 b3 "com/example/hardy_queue/hardyqueue/broker/PullRequest" "sysFlag" "I" (.int (0 : Int32)) := D3 (Or.inr (hw _ (List.mem_of_getElem? (i := 36) rfl))) (ty := .int) (by decide)
  have F3_commitOffset : Fld Z h3 b3 "com/example/hardy_queue/hardyqueue/broker/PullRequest" "commitOffset" "J" (.long (0 : Int64)) := D3 (Or.inr (hw _ (List.mem_of_getElem? (i := 38) rfl))) (ty := .long) (by decide)
  have F3_suspendTimeoutMillis : Fld Z h3 b3 "com/example/hardy_queue/hardyqueue/broker/PullRequest" "suspendTimeoutMillis" "J" (.long (0 : Int64)) := D3 (Or.inr (hw _ (List.mem_of_getElem? (i := 40) rfl))) (ty := .long) (by decide)
  have F3_subscription : Fld Z h3 b3 "com/example/hardy_queue/hardyqueue/broker/PullRequest" "subscription" "Ljava/lang/String;" .null := D3 (Or.inr (hw _ (List.mem_of_getElem? (i := 42) rfl))) (ty := (.object "java/lang/String")) (by decide)
  have F3_expressionType : Fld Z h3 b3 "com/example/hardy_queue/hardyqueue/broker/PullRequest" "expressionType" "Ljava/lang/String;" .null := D3 (Or.inr (hw _ (List.mem_of_getElem? (i := 44) rfl))) (ty := (.object "java/lang/String")) (by decide)
  have F3_brokerName : Fld Z h3 b3 "com/example/hardy_queue/hardyqueue/broker/PullRequest" "brokerName" "Ljava/lang/String;" .null := D3 (Or.inr (hw _ (List.mem_of_getElem? (i := 46) rfl))) (ty := (.object "java/lang/String")) (by decide)
  refine .pre (fun _ k => st3 _ k) ?_
  show OwnEnds p e below _ (T3.setTop (mkF m 15 #[.val (.int p0), .val (.long q1), .second, .val (.long q2), .second, .val (.int p3), .val (.ref b1), .unset, .unset, .unset] [(.ref b3)]))
  refine .pre (fun _ k => XS.dup X3.here hx rfl (hb hby at_15) rfl rfl k) ?_
  show OwnEnds p e below _ (T3.setTop (mkF m 16 #[.val (.int p0), .val (.long q1), .second, .val (.long q2), .second, .val (.int p3), .val (.ref b1), .unset, .unset, .unset] [(.ref b3), (.ref b3)]))
  refine .pre (fun _ k => XS.aconstNull X3.here hx rfl (hb hby at_16) k) ?_
  show OwnEnds p e below _ (T3.setTop (mkF m 17 #[.val (.int p0), .val (.long q1), .second, .val (.long q2), .second, .val (.int p3), .val (.ref b1), .unset, .unset, .unset] [.null, (.ref b3), (.ref b3)]))
  refine .pre (fun _ k => XS.aload X3.here hx rfl (hb hby at_17) rfl rfl k) ?_
  show OwnEnds p e below _ (T3.setTop (mkF m 19 #[.val (.int p0), .val (.long q1), .second, .val (.long q2), .second, .val (.int p3), .val (.ref b1), .unset, .unset, .unset] [(.ref b1), .null, (.ref b3), (.ref b3)]))
  refine .pre (fun _ k => XS.lloadN X3.here hx rfl (hb hby at_19) rfl k) ?_
  show OwnEnds p e below _ (T3.setTop (mkF m 20 #[.val (.int p0), .val (.long q1), .second, .val (.long q2), .second, .val (.int p3), .val (.ref b1), .unset, .unset, .unset] [(.long q1), (.ref b1), .null, (.ref b3), (.ref b3)]))
  refine .pre (fun _ k => XS.iload X3.here hx rfl (hb hby at_20) rfl k) ?_
  show OwnEnds p e below _ (T3.setTop (mkF m 22 #[.val (.int p0), .val (.long q1), .second, .val (.long q2), .second, .val (.int p3), .val (.ref b1), .unset, .unset, .unset] [(.int p3), (.long q1), (.ref b1), .null, (.ref b3), (.ref b3)]))
  refine .pre (fun _ k => XS.iload X3.here hx rfl (hb hby at_22) rfl k) ?_
  show OwnEnds p e below _ (T3.setTop (mkF m 24 #[.val (.int p0), .val (.long q1), .second, .val (.long q2), .second, .val (.int p3), .val (.ref b1), .unset, .unset, .unset] [(.int p3), (.int p3), (.long q1), (.ref b1), .null, (.ref b3), (.ref b3)]))
  refine .pre (fun _ k => XS.iloadN X3.here hx rfl (hb hby at_24) rfl k) ?_
  show OwnEnds p e below _ (T3.setTop (mkF m 25 #[.val (.int p0), .val (.long q1), .second, .val (.long q2), .second, .val (.int p3), .val (.ref b1), .unset, .unset, .unset] [(.int p0), (.int p3), (.int p3), (.long q1), (.ref b1), .null, (.ref b3), (.ref b3)]))
  refine .pre (fun _ k => XS.lloadN X3.here hx rfl (hb hby at_25) rfl k) ?_
  show OwnEnds p e below _ (T3.setTop (mkF m 26 #[.val (.int p0), .val (.long q1), .second, .val (.long q2), .second, .val (.int p3), .val (.ref b1), .unset, .unset, .unset] [(.long q2), (.int p0), (.int p3), (.int p3), (.long q1), (.ref b1), .null, (.ref b3), (.ref b3)]))
  refine .pre (fun _ k => XS.lloadN X3.here hx rfl (hb hby at_26) rfl k) ?_
  show OwnEnds p e below _ (T3.setTop (mkF m 27 #[.val (.int p0), .val (.long q1), .second, .val (.long q2), .second, .val (.int p3), .val (.ref b1), .unset, .unset, .unset] [(.long q1), (.long q2), (.int p0), (.int p3), (.int p3), (.long q1), (.ref b1), .null, (.ref b3), (.ref b3)]))
  refine .pre (fun _ k => XS.aconstNull X3.here hx rfl (hb hby at_27) k) ?_
  show OwnEnds p e below _ (T3.setTop (mkF m 28 #[.val (.int p0), .val (.long q1), .second, .val (.long q2), .second, .val (.int p3), .val (.ref b1), .unset, .unset, .unset] [.null, (.long q1), (.long q2), (.int p0), (.int p3), (.int p3), (.long q1), (.ref b1), .null, (.ref b3), (.ref b3)]))
  refine .pre (fun _ k => XS.aconstNull X3.here hx rfl (hb hby at_28) k) ?_
  show OwnEnds p e below _ (T3.setTop (mkF m 29 #[.val (.int p0), .val (.long q1), .second, .val (.long q2), .second, .val (.int p3), .val (.ref b1), .unset, .unset, .unset] [.null, .null, (.long q1), (.long q2), (.int p0), (.int p3), (.int p3), (.long q1), (.ref b1), .null, (.ref b3), (.ref b3)]))
  refine .pre (fun _ k => XS.aconstNull X3.here hx rfl (hb hby at_29) k) ?_
  show OwnEnds p e below _ (T3.setTop (mkF m 30 #[.val (.int p0), .val (.long q1), .second, .val (.long q2), .second, .val (.int p3), .val (.ref b1), .unset, .unset, .unset] [.null, .null, .null, (.long q1), (.long q2), (.int p0), (.int p3), (.int p3), (.long q1), (.ref b1), .null, (.ref b3), (.ref b3)]))
  obtain ⟨_, _, ⟨T4, L4, k4, n4⟩, -, X4, ⟨Lc4, hQ4, l4, y4, z4⟩, st4⟩ := X3.specialBack hx (y := (⟨"com/example/hardy_queue/hardyqueue/broker/PullRequest", "<init>", "(Ljava/lang/String;Lcom/example/hardy_queue/hardyqueue/store/QueueKey;JIIIJJLjava/lang/String;Ljava/lang/String;Ljava/lang/String;)V"⟩ : MethodName)) rfl hown (mvT hZ (hw _ (List.mem_of_getElem? (i := 21) rfl))) (mvT hZ (hw _ (List.mem_of_getElem? (i := 22) rfl))) (mvT hZ (hw _ (List.mem_of_getElem? (i := 23) rfl))) (by decide) (backOf (W := 1) (rm4 l Z aZ hw [] b3 b1 q1 p3 p3 p0 q2 q1 .null .null (.long (0 : Int64)) (.int (0 : Int32)) (.int (0 : Int32)) (.int (0 : Int32)) (.long (0 : Int64)) (.long (0 : Int64)) .null .null .null h3 n0 (Nat.le_trans (Nat.le_trans (Nat.le_trans Z0 E1.1) K2.1) E3.1) g_b3 A3 F3_consumerGroup F3_queue F3_queueOffset F3_maxMsgNums F3_maxMsgBytes F3_sysFlag F3_commitOffset F3_suspendTimeoutMillis F3_subscription F3_expressionType F3_brokerName) hZ (hw _ (List.mem_of_getElem? (i := 23) rfl)) (hw _ (List.mem_of_getElem? (i := 20) rfl)) (by decide) (by decide)) (g := (mkF m 30 #[.val (.int p0), .val (.long q1), .second, .val (.long q2), .second, .val (.int p3), .val (.ref b1), .unset, .unset, .unset] [.null, .null, .null, (.long q1), (.long q2), (.int p0), (.int p3), (.int p3), (.long q1), (.ref b1), .null, (.ref b3), (.ref b3)])) rfl (by rw [hml]; rfl) (Steps.refl _) (a := b3) (argsL := [.null, (.ref b1), (.long q1), (.int p3), (.int p3), (.int p0), (.long q2), (.long q1), .null, .null, .null]) (rest := [(.ref b3)]) (lenOf pd_6 rfl) rfl (by show 2 * 0 + _ ≤ _; exact Nat.le_of_eq rfl) (hb hby at_30) (fun _ _ => ⟨rfl, e3, (by decide : 2 + 0 ≤ _), (by decide : 13 + 0 ≤ _)⟩)
  dsimp only [Pt.U, Pt.locs, Pt.cells, Pt.slots] at X4 l4 y4 z4 st4 hQ4
  subst l4 y4 z4
  obtain ⟨rfl, N4q, K4, Ea4, Fa4_0, Fa4_1, Fa4_2, Fa4_3, Fa4_4, Fa4_5, Fa4_6, Fa4_7, Fa4_8, Fa4_9, Fa4_10⟩ := hQ4
  have N4 := Fr.app N2 N4q
  refine .pre (fun _ k => st4.trans k) ?_
  show OwnEnds p e below _ (T4.setTop (mkF m 33 #[.val (.int p0), .val (.long q1), .second, .val (.long q2), .second, .val (.int p3), .val (.ref b1), .unset, .unset, .unset] [(.ref b3)]))
  refine .pre (fun _ k => XS.astore X4.here hx rfl (hb hby at_33) rfl rfl (l' := #[.val (.int p0), .val (.long q1), .second, .val (.long q2), .second, .val (.int p3), .val (.ref b1), .val (.ref b3), .unset, .unset]) rfl k) ?_
  show OwnEnds p e below _ (T4.setTop (mkF m 35 #[.val (.int p0), .val (.long q1), .second, .val (.long q2), .second, .val (.int p3), .val (.ref b1), .val (.ref b3), .unset, .unset] []))
  obtain ⟨T5, h5, X5, e5, E5, A5, D5, -, st5⟩ := newO X4 hx hZ hown (hw _ (List.mem_of_getElem? (i := 18) rfl)) (hw _ (List.mem_of_getElem? (i := 19) rfl)) (hw _ (List.mem_of_getElem? (i := 20) rfl)) rfl (g := (mkF m 35 #[.val (.int p0), .val (.long q1), .second, .val (.long q2), .second, .val (.int p3), .val (.ref b1), .val (.ref b3), .unset, .unset] [])) rfl (hb hby at_35) (by decide) (by decide)
  obtain ⟨b5, g5⟩ : ∃ z, z = T4.heap.size := ⟨_, rfl⟩
  rw [← g5] at A5 D5 st5
  have g_b5 : n0 ≤ b5 := Nat.le_trans (Nat.le_trans (Nat.le_trans (Nat.le_trans (Nat.le_trans Z0 E1.1) K2.1) E3.1) K4.1) (Nat.le_of_eq g5.symm)
  have F5_consumerGroup : Fld Z h5 b5 "com/example/hardy_queue/hardyqueue/broker/PullRequest" "consumerGroup" "Ljava/lang/String;" .null := D5 (Or.inr (hw _ (List.mem_of_getElem? (i := 26) rfl))) (ty := (.object "java/lang/String")) (by decide)
  have F5_queue : Fld Z h5 b5 "com/example/hardy_queue/hardyqueue/broker/PullRequest" "queue" "Lcom/example/hardy_queue/hardyqueue/store/QueueKey;" .null := D5 (Or.inr (hw _ (List.mem_of_getElem? (i := 28) rfl))) (ty := (.object "com/example/hardy_queue/hardyqueue/store/QueueKey")) (by decide)
  have F5_queueOffset : Fld Z h5 b5 "com/example/hardy_queue/hardyqueue/broker/PullRequest" "queueOffset" "J" (.long (0 : Int64)) := D5 (Or.inr (hw _ (List.mem_of_getElem? (i := 30) rfl))) (ty := .long) (by decide)
  have F5_maxMsgNums : Fld Z h5 b5 "com/example/hardy_queue/hardyqueue/broker/PullRequest" "maxMsgNums" "I" (.int (0 : Int32)) := D5 (Or.inr (hw _ (List.mem_of_getElem? (i := 32) rfl))) (ty := .int) (by decide)
  have F5_maxMsgBytes : Fld Z h5 b5 "com/example/hardy_queue/hardyqueue/broker/PullRequest" "maxMsgBytes" "I" (.int (0 : Int32)) := D5 (Or.inr (hw _ (List.mem_of_getElem? (i := 34) rfl))) (ty := .int) (by decide)
  have F5_sysFlag : Fld Z h5 b5 "com/example/hardy_queue/hardyqueue/broker/PullRequest" "sysFlag" "I" (.int (0 : Int32)) := D5 (Or.inr (hw _ (List.mem_of_getElem? (i := 36) rfl))) (ty := .int) (by decide)
  have F5_commitOffset : Fld Z h5 b5 "com/example/hardy_queue/hardyqueue/broker/PullRequest" "commitOffset" "J" (.long (0 : Int64)) := D5 (Or.inr (hw _ (List.mem_of_getElem? (i := 38) rfl))) (ty := .long) (by decide)
  have F5_suspendTimeoutMillis : Fld Z h5 b5 "com/example/hardy_queue/hardyqueue/broker/PullRequest" "suspendTimeoutMillis" "J" (.long (0 : Int64)) := D5 (Or.inr (hw _ (List.mem_of_getElem? (i := 40) rfl))) (ty := .long) (by decide)
  have F5_subscription : Fld Z h5 b5 "com/example/hardy_queue/hardyqueue/broker/PullRequest" "subscription" "Ljava/lang/String;" .null := D5 (Or.inr (hw _ (List.mem_of_getElem? (i := 42) rfl))) (ty := (.object "java/lang/String")) (by decide)
  have F5_expressionType : Fld Z h5 b5 "com/example/hardy_queue/hardyqueue/broker/PullRequest" "expressionType" "Ljava/lang/String;" .null := D5 (Or.inr (hw _ (List.mem_of_getElem? (i := 44) rfl))) (ty := (.object "java/lang/String")) (by decide)
  have F5_brokerName : Fld Z h5 b5 "com/example/hardy_queue/hardyqueue/broker/PullRequest" "brokerName" "Ljava/lang/String;" .null := D5 (Or.inr (hw _ (List.mem_of_getElem? (i := 46) rfl))) (ty := (.object "java/lang/String")) (by decide)
  refine .pre (fun _ k => st5 _ k) ?_
  show OwnEnds p e below _ (T5.setTop (mkF m 38 #[.val (.int p0), .val (.long q1), .second, .val (.long q2), .second, .val (.int p3), .val (.ref b1), .val (.ref b3), .unset, .unset] [(.ref b5)]))
  refine .pre (fun _ k => XS.dup X5.here hx rfl (hb hby at_38) rfl rfl k) ?_
  show OwnEnds p e below _ (T5.setTop (mkF m 39 #[.val (.int p0), .val (.long q1), .second, .val (.long q2), .second, .val (.int p3), .val (.ref b1), .val (.ref b3), .unset, .unset] [(.ref b5), (.ref b5)]))
  refine .pre (fun _ k => XS.aconstNull X5.here hx rfl (hb hby at_39) k) ?_
  show OwnEnds p e below _ (T5.setTop (mkF m 40 #[.val (.int p0), .val (.long q1), .second, .val (.long q2), .second, .val (.int p3), .val (.ref b1), .val (.ref b3), .unset, .unset] [.null, (.ref b5), (.ref b5)]))
  refine .pre (fun _ k => XS.aload X5.here hx rfl (hb hby at_40) rfl rfl k) ?_
  show OwnEnds p e below _ (T5.setTop (mkF m 42 #[.val (.int p0), .val (.long q1), .second, .val (.long q2), .second, .val (.int p3), .val (.ref b1), .val (.ref b3), .unset, .unset] [(.ref b1), .null, (.ref b5), (.ref b5)]))
  refine .pre (fun _ k => XS.lloadN X5.here hx rfl (hb hby at_42) rfl k) ?_
  show OwnEnds p e below _ (T5.setTop (mkF m 43 #[.val (.int p0), .val (.long q1), .second, .val (.long q2), .second, .val (.int p3), .val (.ref b1), .val (.ref b3), .unset, .unset] [(.long q2), (.ref b1), .null, (.ref b5), (.ref b5)]))
  refine .pre (fun _ k => XS.iload X5.here hx rfl (hb hby at_43) rfl k) ?_
  show OwnEnds p e below _ (T5.setTop (mkF m 45 #[.val (.int p0), .val (.long q1), .second, .val (.long q2), .second, .val (.int p3), .val (.ref b1), .val (.ref b3), .unset, .unset] [(.int p3), (.long q2), (.ref b1), .null, (.ref b5), (.ref b5)]))
  refine .pre (fun _ k => XS.iload X5.here hx rfl (hb hby at_45) rfl k) ?_
  show OwnEnds p e below _ (T5.setTop (mkF m 47 #[.val (.int p0), .val (.long q1), .second, .val (.long q2), .second, .val (.int p3), .val (.ref b1), .val (.ref b3), .unset, .unset] [(.int p3), (.int p3), (.long q2), (.ref b1), .null, (.ref b5), (.ref b5)]))
  refine .pre (fun _ k => XS.iloadN X5.here hx rfl (hb hby at_47) rfl k) ?_
  show OwnEnds p e below _ (T5.setTop (mkF m 48 #[.val (.int p0), .val (.long q1), .second, .val (.long q2), .second, .val (.int p3), .val (.ref b1), .val (.ref b3), .unset, .unset] [(.int p0), (.int p3), (.int p3), (.long q2), (.ref b1), .null, (.ref b5), (.ref b5)]))
  refine .pre (fun _ k => XS.iconst X5.here hx rfl (hb hby at_48) k) ?_
  show OwnEnds p e below _ (T5.setTop (mkF m 49 #[.val (.int p0), .val (.long q1), .second, .val (.long q2), .second, .val (.int p3), .val (.ref b1), .val (.ref b3), .unset, .unset] [(.int (1 : Int32)), (.int p0), (.int p3), (.int p3), (.long q2), (.ref b1), .null, (.ref b5), (.ref b5)]))
  refine .pre (fun _ k => XS.ixor X5.here hx rfl (hb hby at_49) rfl k) ?_
  show OwnEnds p e below _ (T5.setTop (mkF m 50 #[.val (.int p0), .val (.long q1), .second, .val (.long q2), .second, .val (.int p3), .val (.ref b1), .val (.ref b3), .unset, .unset] [(.int (p0 ^^^ (1 : Int32))), (.int p3), (.int p3), (.long q2), (.ref b1), .null, (.ref b5), (.ref b5)]))
  refine .pre (fun _ k => XS.lloadN X5.here hx rfl (hb hby at_50) rfl k) ?_
  show OwnEnds p e below _ (T5.setTop (mkF m 51 #[.val (.int p0), .val (.long q1), .second, .val (.long q2), .second, .val (.int p3), .val (.ref b1), .val (.ref b3), .unset, .unset] [(.long q1), (.int (p0 ^^^ (1 : Int32))), (.int p3), (.int p3), (.long q2), (.ref b1), .null, (.ref b5), (.ref b5)]))
  refine .pre (fun _ k => XS.lloadN X5.here hx rfl (hb hby at_51) rfl k) ?_
  show OwnEnds p e below _ (T5.setTop (mkF m 52 #[.val (.int p0), .val (.long q1), .second, .val (.long q2), .second, .val (.int p3), .val (.ref b1), .val (.ref b3), .unset, .unset] [(.long q2), (.long q1), (.int (p0 ^^^ (1 : Int32))), (.int p3), (.int p3), (.long q2), (.ref b1), .null, (.ref b5), (.ref b5)]))
  refine .pre (fun _ k => XS.aconstNull X5.here hx rfl (hb hby at_52) k) ?_
  show OwnEnds p e below _ (T5.setTop (mkF m 53 #[.val (.int p0), .val (.long q1), .second, .val (.long q2), .second, .val (.int p3), .val (.ref b1), .val (.ref b3), .unset, .unset] [.null, (.long q2), (.long q1), (.int (p0 ^^^ (1 : Int32))), (.int p3), (.int p3), (.long q2), (.ref b1), .null, (.ref b5), (.ref b5)]))
  refine .pre (fun _ k => XS.aconstNull X5.here hx rfl (hb hby at_53) k) ?_
  show OwnEnds p e below _ (T5.setTop (mkF m 54 #[.val (.int p0), .val (.long q1), .second, .val (.long q2), .second, .val (.int p3), .val (.ref b1), .val (.ref b3), .unset, .unset] [.null, .null, (.long q2), (.long q1), (.int (p0 ^^^ (1 : Int32))), (.int p3), (.int p3), (.long q2), (.ref b1), .null, (.ref b5), (.ref b5)]))
  refine .pre (fun _ k => XS.aconstNull X5.here hx rfl (hb hby at_54) k) ?_
  show OwnEnds p e below _ (T5.setTop (mkF m 55 #[.val (.int p0), .val (.long q1), .second, .val (.long q2), .second, .val (.int p3), .val (.ref b1), .val (.ref b3), .unset, .unset] [.null, .null, .null, (.long q2), (.long q1), (.int (p0 ^^^ (1 : Int32))), (.int p3), (.int p3), (.long q2), (.ref b1), .null, (.ref b5), (.ref b5)]))
  obtain ⟨_, _, ⟨T6, L6, k6, n6⟩, -, X6, ⟨Lc6, hQ6, l6, y6, z6⟩, st6⟩ := X5.specialBack hx (y := (⟨"com/example/hardy_queue/hardyqueue/broker/PullRequest", "<init>", "(Ljava/lang/String;Lcom/example/hardy_queue/hardyqueue/store/QueueKey;JIIIJJLjava/lang/String;Ljava/lang/String;Ljava/lang/String;)V"⟩ : MethodName)) rfl hown (mvT hZ (hw _ (List.mem_of_getElem? (i := 21) rfl))) (mvT hZ (hw _ (List.mem_of_getElem? (i := 22) rfl))) (mvT hZ (hw _ (List.mem_of_getElem? (i := 23) rfl))) (by decide) (backOf (W := 1) (rm4 l Z aZ hw [] b5 b1 q2 p3 p3 (p0 ^^^ (1 : Int32)) q1 q2 .null .null (.long (0 : Int64)) (.int (0 : Int32)) (.int (0 : Int32)) (.int (0 : Int32)) (.long (0 : Int64)) (.long (0 : Int64)) .null .null .null h5 n0 (Nat.le_trans (Nat.le_trans (Nat.le_trans (Nat.le_trans (Nat.le_trans Z0 E1.1) K2.1) E3.1) K4.1) E5.1) g_b5 A5 F5_consumerGroup F5_queue F5_queueOffset F5_maxMsgNums F5_maxMsgBytes F5_sysFlag F5_commitOffset F5_suspendTimeoutMillis F5_subscription F5_expressionType F5_brokerName) hZ (hw _ (List.mem_of_getElem? (i := 23) rfl)) (hw _ (List.mem_of_getElem? (i := 20) rfl)) (by decide) (by decide)) (g := (mkF m 55 #[.val (.int p0), .val (.long q1), .second, .val (.long q2), .second, .val (.int p3), .val (.ref b1), .val (.ref b3), .unset, .unset] [.null, .null, .null, (.long q2), (.long q1), (.int (p0 ^^^ (1 : Int32))), (.int p3), (.int p3), (.long q2), (.ref b1), .null, (.ref b5), (.ref b5)])) rfl (by rw [hml]; rfl) (Steps.refl _) (a := b5) (argsL := [.null, (.ref b1), (.long q2), (.int p3), (.int p3), (.int (p0 ^^^ (1 : Int32))), (.long q1), (.long q2), .null, .null, .null]) (rest := [(.ref b5)]) (lenOf pd_6 rfl) rfl (by show 2 * 0 + _ ≤ _; exact Nat.le_of_eq rfl) (hb hby at_55) (fun _ _ => ⟨rfl, e5, (by decide : 3 + 0 ≤ _), (by decide : 24 + 0 ≤ _)⟩)
  dsimp only [Pt.U, Pt.locs, Pt.cells, Pt.slots] at X6 l6 y6 z6 st6 hQ6
  subst l6 y6 z6
  obtain ⟨rfl, N6q, K6, Ea6, Fa6_0, Fa6_1, Fa6_2, Fa6_3, Fa6_4, Fa6_5, Fa6_6, Fa6_7, Fa6_8, Fa6_9, Fa6_10⟩ := hQ6
  have N6 := Fr.app N4 N6q
  refine .pre (fun _ k => st6.trans k) ?_
  show OwnEnds p e below _ (T6.setTop (mkF m 58 #[.val (.int p0), .val (.long q1), .second, .val (.long q2), .second, .val (.int p3), .val (.ref b1), .val (.ref b3), .unset, .unset] [(.ref b5)]))
  refine .pre (fun _ k => XS.astore X6.here hx rfl (hb hby at_58) rfl rfl (l' := #[.val (.int p0), .val (.long q1), .second, .val (.long q2), .second, .val (.int p3), .val (.ref b1), .val (.ref b3), .val (.ref b5), .unset]) rfl k) ?_
  have B98 : ∀ (T : State) (L : List Loc) (k n : Nat) (X : Stand p l e room_1 s m #[(.int p0), (.long q1), (.long q2), (.int p3)] below meth c T L k n) (eT : T.heap = T6.heap) (N : Fr n0 L) (hk : k ≤ 16) (hn : n ≤ 128) (i0 : Int32) (j1 : Int64) (j3 : Int64) (i5 : Int32) (i9 : Int32) (t0 : Int32) (t1 : Int32), f0_98 p0 q1 q2 p3 t0 t1 = f0_60 p0 q1 q2 p3 p0 → OwnEnds p e below (OwnQ s (Q0 Z p0 q1 q2 p3 h0 n0) 16 128) (T.setTop (mkF m 98 #[.val (.int i0), .val (.long j1), .second, .val (.long j3), .second, .val (.int i5), .val (.ref b1), .val (.ref b3), .val (.ref b5), .val (.int i9)] [(.int t0), (.int t1)])) := by
    intro T L k n X eT N hk hn i0 j1 j3 i5 i9 t0 t1 hF
    change (if t1 = t0 then (1 : Int32) else (0 : Int32)) = _ at hF
    show OwnEnds p e below _ (T.setTop (mkF m 98 #[.val (.int i0), .val (.long j1), .second, .val (.long j3), .second, .val (.int i5), .val (.ref b1), .val (.ref b3), .val (.ref b5), .val (.int i9)] [(.int t0), (.int t1)]))
    by_cases hc98 : t1 = t0
    · rw [if_pos hc98] at hF
      refine .pre (fun _ k => XS.icmpNo X.here hx rfl (hb hby at_98) rfl (teq hc98).2 k) ?_
      show OwnEnds p e below _ (T.setTop (mkF m 101 #[.val (.int i0), .val (.long j1), .second, .val (.long j3), .second, .val (.int i5), .val (.ref b1), .val (.ref b3), .val (.ref b5), .val (.int i9)] []))
      refine .pre (fun _ k => XS.iconst X.here hx rfl (hb hby at_101) k) ?_
      show OwnEnds p e below _ (T.setTop (mkF m 102 #[.val (.int i0), .val (.long j1), .second, .val (.long j3), .second, .val (.int i5), .val (.ref b1), .val (.ref b3), .val (.ref b5), .val (.int i9)] [(.int (1 : Int32))]))
      refine .pre (fun _ k => XS.goto X.here hx rfl (pc0 := 102) (pc' := 106) rfl (hb hby at_102) (by decide) (by decide) k) ?_
      show OwnEnds p e below _ (T.setTop (mkF m 106 #[.val (.int i0), .val (.long j1), .second, .val (.long j3), .second, .val (.int i5), .val (.ref b1), .val (.ref b3), .val (.ref b5), .val (.int i9)] [(.int (1 : Int32))]))
      exact own_endN X hx hlk (t := .boolean) Bd.returns (by simp) (hb hby at_106) rfl hk hn ⟨congrArg (fun z => some (Value.int z)) hF, N, trivial⟩
    · rw [if_neg hc98] at hF
      refine .pre (fun _ k => XS.icmpYes X.here hx rfl (pc0 := 98) (pc' := 105) rfl (hb hby at_98) rfl (feq hc98).2 (by decide) (by decide) k) ?_
      show OwnEnds p e below _ (T.setTop (mkF m 105 #[.val (.int i0), .val (.long j1), .second, .val (.long j3), .second, .val (.int i5), .val (.ref b1), .val (.ref b3), .val (.ref b5), .val (.int i9)] []))
      refine .pre (fun _ k => XS.iconst X.here hx rfl (hb hby at_105) k) ?_
      show OwnEnds p e below _ (T.setTop (mkF m 106 #[.val (.int i0), .val (.long j1), .second, .val (.long j3), .second, .val (.int i5), .val (.ref b1), .val (.ref b3), .val (.ref b5), .val (.int i9)] [(.int (0 : Int32))]))
      exact own_endN X hx hlk (t := .boolean) Bd.returns (by simp) (hb hby at_106) rfl hk hn ⟨congrArg (fun z => some (Value.int z)) hF, N, trivial⟩
  have B71 : ∀ (T : State) (L : List Loc) (k n : Nat) (X : Stand p l e room_1 s m #[(.int p0), (.long q1), (.long q2), (.int p3)] below meth c T L k n) (eT : T.heap = T6.heap) (N : Fr n0 L) (hk : k ≤ 16) (hn : n ≤ 128) (i0 : Int32) (j1 : Int64) (j3 : Int64) (i5 : Int32) (t0 : Int32), f0_71 p0 q1 q2 p3 t0 = f0_60 p0 q1 q2 p3 p0 → OwnEnds p e below (OwnQ s (Q0 Z p0 q1 q2 p3 h0 n0) 16 128) (T.setTop (mkF m 71 #[.val (.int i0), .val (.long j1), .second, .val (.long j3), .second, .val (.int i5), .val (.ref b1), .val (.ref b3), .val (.ref b5), .unset] [(.int t0)])) := by
    intro T L k n X eT N hk hn i0 j1 j3 i5 t0 hF
    change (if (f5_0 p0) = t0 then (if t0 = (0 : Int32) then (f0_98 p0 q1 q2 p3 (1 : Int32) (f5_0 (p0 ^^^ (1 : Int32)))) else (f0_98 p0 q1 q2 p3 (0 : Int32) (f5_0 (p0 ^^^ (1 : Int32))))) else (0 : Int32)) = _ at hF
    show OwnEnds p e below _ (T.setTop (mkF m 71 #[.val (.int i0), .val (.long j1), .second, .val (.long j3), .second, .val (.int i5), .val (.ref b1), .val (.ref b3), .val (.ref b5), .unset] [(.int t0)]))
    refine .pre (fun _ k => XS.istore X.here hx rfl (hb hby at_71) rfl (l' := #[.val (.int i0), .val (.long j1), .second, .val (.long j3), .second, .val (.int i5), .val (.ref b1), .val (.ref b3), .val (.ref b5), .val (.int t0)]) rfl k) ?_
    show OwnEnds p e below _ (T.setTop (mkF m 73 #[.val (.int i0), .val (.long j1), .second, .val (.long j3), .second, .val (.int i5), .val (.ref b1), .val (.ref b3), .val (.ref b5), .val (.int t0)] []))
    refine .pre (fun _ k => XS.aload X.here hx rfl (hb hby at_73) rfl rfl k) ?_
    show OwnEnds p e below _ (T.setTop (mkF m 75 #[.val (.int i0), .val (.long j1), .second, .val (.long j3), .second, .val (.int i5), .val (.ref b1), .val (.ref b3), .val (.ref b5), .val (.int t0)] [(.ref b3)]))
    obtain ⟨cq9, kq9, q9a, q9b, q9c⟩ := isOf hZ eT ((Ea4.ext E5).keep K6)
    obtain ⟨_, _, ⟨T9, L9, k9, n9⟩, -, X9, ⟨Lc9, hQ9, l9, y9, z9⟩, st9⟩ := X.virtualBack hx (y := (⟨"com/example/hardy_queue/hardyqueue/broker/PullRequest", "commitsOffset", "()Z"⟩ : MethodName)) (z := (⟨"com/example/hardy_queue/hardyqueue/broker/PullRequest", "commitsOffset", "()Z"⟩ : MethodName)) hown (mvT hZ (hw _ (List.mem_of_getElem? (i := 47) rfl))) (mvT hZ (hw _ (List.mem_of_getElem? (i := 48) rfl))) (notFace_of_selects (args := #[]) (mvT hZ (hw _ (List.mem_of_getElem? (i := 50) rfl)))) (mvT hZ (hw _ (List.mem_of_getElem? (i := 50) rfl))) (mvT hZ (hw _ (List.mem_of_getElem? (i := 49) rfl))) (by decide) (backOf (W := 0) (rm5 l Z aZ hw [] b3 p0 T6.heap n0 (Nat.le_trans (Nat.le_trans (Nat.le_trans (Nat.le_trans (Nat.le_trans (Nat.le_trans Z0 E1.1) K2.1) E3.1) K4.1) E5.1) K6.1) ((Fa4_5.ext E5).keep K6 (own_nin1 (Nat.ne_of_lt (Nat.lt_of_lt_of_le Ea4.lt (Nat.le_of_eq g5.symm)))))) hZ (hw _ (List.mem_of_getElem? (i := 51) rfl)) (hw _ (List.mem_of_getElem? (i := 20) rfl)) (by decide) (by decide)) q9a q9c (g := (mkF m 75 #[.val (.int i0), .val (.long j1), .second, .val (.long j3), .second, .val (.int i5), .val (.ref b1), .val (.ref b3), .val (.ref b5), .val (.int t0)] [(.ref b3)])) rfl (by rw [hml]; rfl) (Steps.refl _) (argsL := []) (rest := []) (lenOf pd_7 rfl) rfl (by show 2 * 0 + _ ≤ _; exact Nat.le_of_eq rfl) (hb hby at_75) (fun _ _ => ⟨rfl, eT, Nat.le_trans (Nat.add_le_add_right hk 0) (by decide : 16 + 0 ≤ _), Nat.le_trans (Nat.add_le_add_right hn 0) (by decide : 128 + 0 ≤ _)⟩)
    dsimp only [Pt.U, Pt.locs, Pt.cells, Pt.slots] at X9 l9 y9 z9 st9 hQ9
    subst l9 y9 z9
    obtain ⟨rfl, N9q, e9⟩ := hQ9
    have N9 := Fr.app N N9q
    refine .pre (fun _ k => st9.trans k) ?_
    show OwnEnds p e below _ (T9.setTop (mkF m 78 #[.val (.int i0), .val (.long j1), .second, .val (.long j3), .second, .val (.int i5), .val (.ref b1), .val (.ref b3), .val (.ref b5), .val (.int t0)] [(.int (f5_0 p0))]))
    refine .pre (fun _ k => XS.iload X9.here hx rfl (hb hby at_78) rfl k) ?_
    show OwnEnds p e below _ (T9.setTop (mkF m 80 #[.val (.int i0), .val (.long j1), .second, .val (.long j3), .second, .val (.int i5), .val (.ref b1), .val (.ref b3), .val (.ref b5), .val (.int t0)] [(.int t0), (.int (f5_0 p0))]))
    by_cases hc80 : (f5_0 p0) = t0
    · rw [if_pos hc80] at hF
      refine .pre (fun _ k => XS.icmpNo X9.here hx rfl (hb hby at_80) rfl (teq hc80).2 k) ?_
      show OwnEnds p e below _ (T9.setTop (mkF m 83 #[.val (.int i0), .val (.long j1), .second, .val (.long j3), .second, .val (.int i5), .val (.ref b1), .val (.ref b3), .val (.ref b5), .val (.int t0)] []))
      refine .pre (fun _ k => XS.aload X9.here hx rfl (hb hby at_83) rfl rfl k) ?_
      show OwnEnds p e below _ (T9.setTop (mkF m 85 #[.val (.int i0), .val (.long j1), .second, .val (.long j3), .second, .val (.int i5), .val (.ref b1), .val (.ref b3), .val (.ref b5), .val (.int t0)] [(.ref b5)]))
      obtain ⟨cq10, kq10, q10a, q10b, q10c⟩ := isOf hZ e9 Ea6
      obtain ⟨_, _, ⟨T10, L10, k10, n10⟩, -, X10, ⟨Lc10, hQ10, l10, y10, z10⟩, st10⟩ := X9.virtualBack hx (y := (⟨"com/example/hardy_queue/hardyqueue/broker/PullRequest", "commitsOffset", "()Z"⟩ : MethodName)) (z := (⟨"com/example/hardy_queue/hardyqueue/broker/PullRequest", "commitsOffset", "()Z"⟩ : MethodName)) hown (mvT hZ (hw _ (List.mem_of_getElem? (i := 47) rfl))) (mvT hZ (hw _ (List.mem_of_getElem? (i := 48) rfl))) (notFace_of_selects (args := #[]) (mvT hZ (hw _ (List.mem_of_getElem? (i := 50) rfl)))) (mvT hZ (hw _ (List.mem_of_getElem? (i := 50) rfl))) (mvT hZ (hw _ (List.mem_of_getElem? (i := 49) rfl))) (by decide) (backOf (W := 0) (rm5 l Z aZ hw [] b5 (p0 ^^^ (1 : Int32)) T6.heap n0 (Nat.le_trans (Nat.le_trans (Nat.le_trans (Nat.le_trans (Nat.le_trans (Nat.le_trans Z0 E1.1) K2.1) E3.1) K4.1) E5.1) K6.1) Fa6_5) hZ (hw _ (List.mem_of_getElem? (i := 51) rfl)) (hw _ (List.mem_of_getElem? (i := 20) rfl)) (by decide) (by decide)) q10a q10c (g := (mkF m 85 #[.val (.int i0), .val (.long j1), .second, .val (.long j3), .second, .val (.int i5), .val (.ref b1), .val (.ref b3), .val (.ref b5), .val (.int t0)] [(.ref b5)])) rfl (by rw [hml]; rfl) (Steps.refl _) (argsL := []) (rest := []) (lenOf pd_7 rfl) rfl (by show 2 * 0 + _ ≤ _; exact Nat.le_of_eq rfl) (hb hby at_85) (fun _ _ => ⟨rfl, e9, Nat.le_trans (Nat.add_le_add_right hk 0) (by decide : 16 + 0 ≤ _), Nat.le_trans (Nat.add_le_add_right hn 0) (by decide : 128 + 0 ≤ _)⟩)
      dsimp only [Pt.U, Pt.locs, Pt.cells, Pt.slots] at X10 l10 y10 z10 st10 hQ10
      subst l10 y10 z10
      obtain ⟨rfl, N10q, e10⟩ := hQ10
      have N10 := Fr.app N9 N10q
      refine .pre (fun _ k => st10.trans k) ?_
      show OwnEnds p e below _ (T10.setTop (mkF m 88 #[.val (.int i0), .val (.long j1), .second, .val (.long j3), .second, .val (.int i5), .val (.ref b1), .val (.ref b3), .val (.ref b5), .val (.int t0)] [(.int (f5_0 (p0 ^^^ (1 : Int32))))]))
      refine .pre (fun _ k => XS.iload X10.here hx rfl (hb hby at_88) rfl k) ?_
      show OwnEnds p e below _ (T10.setTop (mkF m 90 #[.val (.int i0), .val (.long j1), .second, .val (.long j3), .second, .val (.int i5), .val (.ref b1), .val (.ref b3), .val (.ref b5), .val (.int t0)] [(.int t0), (.int (f5_0 (p0 ^^^ (1 : Int32))))]))
      by_cases hc90 : t0 = (0 : Int32)
      · rw [if_pos hc90] at hF
        refine .pre (fun _ k => XS.ifNo X10.here hx rfl (hb hby at_90) rfl ((if0 _ _).trans (teq hc90).2) k) ?_
        show OwnEnds p e below _ (T10.setTop (mkF m 93 #[.val (.int i0), .val (.long j1), .second, .val (.long j3), .second, .val (.int i5), .val (.ref b1), .val (.ref b3), .val (.ref b5), .val (.int t0)] [(.int (f5_0 (p0 ^^^ (1 : Int32))))]))
        refine .pre (fun _ k => XS.iconst X10.here hx rfl (hb hby at_93) k) ?_
        show OwnEnds p e below _ (T10.setTop (mkF m 94 #[.val (.int i0), .val (.long j1), .second, .val (.long j3), .second, .val (.int i5), .val (.ref b1), .val (.ref b3), .val (.ref b5), .val (.int t0)] [(.int (1 : Int32)), (.int (f5_0 (p0 ^^^ (1 : Int32))))]))
        refine .pre (fun _ k => XS.goto X10.here hx rfl (pc0 := 94) (pc' := 98) rfl (hb hby at_94) (by decide) (by decide) k) ?_
        exact B98 T10 _ _ _ X10 e10 N10 hk hn i0 j1 j3 i5 t0 (1 : Int32) (f5_0 (p0 ^^^ (1 : Int32))) hF
      · rw [if_neg hc90] at hF
        refine .pre (fun _ k => XS.ifYes X10.here hx rfl (pc0 := 90) (pc' := 97) rfl (hb hby at_90) rfl ((if0 _ _).trans (feq hc90).2) (by decide) (by decide) k) ?_
        show OwnEnds p e below _ (T10.setTop (mkF m 97 #[.val (.int i0), .val (.long j1), .second, .val (.long j3), .second, .val (.int i5), .val (.ref b1), .val (.ref b3), .val (.ref b5), .val (.int t0)] [(.int (f5_0 (p0 ^^^ (1 : Int32))))]))
        refine .pre (fun _ k => XS.iconst X10.here hx rfl (hb hby at_97) k) ?_
        exact B98 T10 _ _ _ X10 e10 N10 hk hn i0 j1 j3 i5 t0 (0 : Int32) (f5_0 (p0 ^^^ (1 : Int32))) hF
    · rw [if_neg hc80] at hF
      refine .pre (fun _ k => XS.icmpYes X9.here hx rfl (pc0 := 80) (pc' := 105) rfl (hb hby at_80) rfl (feq hc80).2 (by decide) (by decide) k) ?_
      show OwnEnds p e below _ (T9.setTop (mkF m 105 #[.val (.int i0), .val (.long j1), .second, .val (.long j3), .second, .val (.int i5), .val (.ref b1), .val (.ref b3), .val (.ref b5), .val (.int t0)] []))
      refine .pre (fun _ k => XS.iconst X9.here hx rfl (hb hby at_105) k) ?_
      show OwnEnds p e below _ (T9.setTop (mkF m 106 #[.val (.int i0), .val (.long j1), .second, .val (.long j3), .second, .val (.int i5), .val (.ref b1), .val (.ref b3), .val (.ref b5), .val (.int t0)] [(.int (0 : Int32))]))
      exact own_endN X9 hx hlk (t := .boolean) Bd.returns (by simp) (hb hby at_106) rfl hk hn ⟨congrArg (fun z => some (Value.int z)) hF, N9, trivial⟩
  have B60 : ∀ (T : State) (L : List Loc) (k n : Nat) (X : Stand p l e room_1 s m #[(.int p0), (.long q1), (.long q2), (.int p3)] below meth c T L k n) (eT : T.heap = T6.heap) (N : Fr n0 L) (hk : k ≤ 16) (hn : n ≤ 128) (i0 : Int32) (j1 : Int64) (j3 : Int64) (i5 : Int32), f0_60 p0 q1 q2 p3 i0 = f0_60 p0 q1 q2 p3 p0 → OwnEnds p e below (OwnQ s (Q0 Z p0 q1 q2 p3 h0 n0) 16 128) (T.setTop (mkF m 60 #[.val (.int i0), .val (.long j1), .second, .val (.long j3), .second, .val (.int i5), .val (.ref b1), .val (.ref b3), .val (.ref b5), .unset] [])) := by
    intro T L k n X eT N hk hn i0 j1 j3 i5 hF
    change (if (i0 % (2 : Int32)) = (0 : Int32) then (f0_71 p0 q1 q2 p3 (0 : Int32)) else (f0_71 p0 q1 q2 p3 (1 : Int32))) = _ at hF
    show OwnEnds p e below _ (T.setTop (mkF m 60 #[.val (.int i0), .val (.long j1), .second, .val (.long j3), .second, .val (.int i5), .val (.ref b1), .val (.ref b3), .val (.ref b5), .unset] []))
    refine .pre (fun _ k => XS.iloadN X.here hx rfl (hb hby at_60) rfl k) ?_
    show OwnEnds p e below _ (T.setTop (mkF m 61 #[.val (.int i0), .val (.long j1), .second, .val (.long j3), .second, .val (.int i5), .val (.ref b1), .val (.ref b3), .val (.ref b5), .unset] [(.int i0)]))
    refine .pre (fun _ k => XS.iconst X.here hx rfl (hb hby at_61) k) ?_
    show OwnEnds p e below _ (T.setTop (mkF m 62 #[.val (.int i0), .val (.long j1), .second, .val (.long j3), .second, .val (.int i5), .val (.ref b1), .val (.ref b3), .val (.ref b5), .unset] [(.int (2 : Int32)), (.int i0)]))
    refine .pre (fun _ k => iremM X hx rfl (hb hby at_62) rfl (by decide) k) ?_
    show OwnEnds p e below _ (T.setTop (mkF m 63 #[.val (.int i0), .val (.long j1), .second, .val (.long j3), .second, .val (.int i5), .val (.ref b1), .val (.ref b3), .val (.ref b5), .unset] [(.int (i0 % (2 : Int32)))]))
    by_cases hc63 : (i0 % (2 : Int32)) = (0 : Int32)
    · rw [if_pos hc63] at hF
      refine .pre (fun _ k => XS.ifYes X.here hx rfl (pc0 := 63) (pc' := 70) rfl (hb hby at_63) rfl ((if0 _ _).trans (teq hc63).1) (by decide) (by decide) k) ?_
      show OwnEnds p e below _ (T.setTop (mkF m 70 #[.val (.int i0), .val (.long j1), .second, .val (.long j3), .second, .val (.int i5), .val (.ref b1), .val (.ref b3), .val (.ref b5), .unset] []))
      refine .pre (fun _ k => XS.iconst X.here hx rfl (hb hby at_70) k) ?_
      exact B71 T _ _ _ X eT N hk hn i0 j1 j3 i5 (0 : Int32) hF
    · rw [if_neg hc63] at hF
      refine .pre (fun _ k => XS.ifNo X.here hx rfl (hb hby at_63) rfl ((if0 _ _).trans (feq hc63).1) k) ?_
      show OwnEnds p e below _ (T.setTop (mkF m 66 #[.val (.int i0), .val (.long j1), .second, .val (.long j3), .second, .val (.int i5), .val (.ref b1), .val (.ref b3), .val (.ref b5), .unset] []))
      refine .pre (fun _ k => XS.iconst X.here hx rfl (hb hby at_66) k) ?_
      show OwnEnds p e below _ (T.setTop (mkF m 67 #[.val (.int i0), .val (.long j1), .second, .val (.long j3), .second, .val (.int i5), .val (.ref b1), .val (.ref b3), .val (.ref b5), .unset] [(.int (1 : Int32))]))
      refine .pre (fun _ k => XS.goto X.here hx rfl (pc0 := 67) (pc' := 71) rfl (hb hby at_67) (by decide) (by decide) k) ?_
      exact B71 T _ _ _ X eT N hk hn i0 j1 j3 i5 (1 : Int32) hF
  exact B60 T6 _ _ _ X6 rfl N6 (by decide) (by decide) p0 q1 q2 p3 rfl
theorem own_x1 (x : Int32) : (x ^^^ 1) &&& 1 = (x &&& 1) ^^^ 1 := by
  apply Int32.toBitVec_inj.mp
  simp only [Int32.toBitVec_and, Int32.toBitVec_xor]
  generalize x.toBitVec = b
  have h1 : (1 : Int32).toBitVec = 1#32 := rfl
  rw [h1]
  ext i hi
  simp only [BitVec.getElem_and, BitVec.getElem_xor]
  cases b[i] <;> cases (1#32)[i] <;> rfl
theorem own_law (x : Int32) (y : Int64) (z : Int64) (u : Int32) : f0_60 x y z u x = 1 := by
  have e1 : (x &&& 1).toInt = x.toInt % 2 ^ 1 := Jvm.Kit.i32_mask x 1 (k := 1) (by decide) (by decide)
  have e2 : (x % 2).toInt = x.toInt.tmod 2 := Int32.toInt_mod x 2
  have e3 : x.toInt.tmod 2 = 0 ↔ x.toInt % 2 ^ 1 = 0 := by
    constructor
    · intro h; have := Int.dvd_of_tmod_eq_zero h; omega
    · intro h; exact Int.tmod_eq_zero_of_dvd (by omega)
  have z : (0 : Int32).toInt = 0 := rfl
  have o : (1 : Int32).toInt = 1 := rfl
  have e4 : x % 2 = 0 ↔ x &&& 1 = 0 := by rw [← Int32.toInt_inj, ← Int32.toInt_inj, e1, e2, z, e3]
  have e5 : x &&& 1 = 0 ∨ x &&& 1 = 1 := by
    simp only [← Int32.toInt_inj, e1, z, o]; omega
  simp only [f5_0, f0_98, f0_71, f0_60, own_x1, e4]
  rcases e5 with e | e <;> simp [e]
set_option maxRecDepth 65536 in
set_option maxHeartbeats 40000000 in
theorem comes_1 {Post : Tables → Env → Array Value → State → Outcome → State → Prop} (hpost : ∀ tb e args s v u, (limb_1_1.after args s (.returned v) u = true ∧ limb_1_2.after args s (.returned v) u = true ∧ True) → FrameEnd s (.returned v) u (Jvm.fieldLocs frame_1_writes args s ++ Jvm.arrayLocs frame_1_arrays args s ++ Jvm.staticLocs frame_1_statics s) 16 128 → Post tb e args s (.returned v) u) :
    ArmFor flags0 classFile x code maxLocals ret World_1 tables_1 room_1 Calls_1 rest_1 Pre_1 Post := by
  intro l hfl _ _ p e ha hc hk s m args below hf hA hF happ hP
  obtain ⟨hcalls, hrest, hpre⟩ := hP
  obtain ⟨-, -, -, hnamed, -, -, -, hat⟩ := (Spec.applies_iff hf).mp happ
  obtain ⟨hg, hn⟩ := and_e (Cond.before_iff.mp (show (Jvm.Cond.and given_1 narrow_1).before args s = true from hpre))
  obtain ⟨hcount, hg0⟩ := and_e hg
  obtain ⟨ha0, hg1⟩ := and_e hg0
  obtain ⟨ha1, hg2⟩ := and_e hg1
  obtain ⟨ha2, hg3⟩ := and_e hg2
  have ha3 := hg3
  obtain ⟨w0, w1, w2, w3, rfl⟩ : ∃ w0 w1 w2 w3 : Value, args = #[w0, w1, w2, w3] := by
    have hs : args.size = 4 := by simpa [Cond.value, given_1] using hcount
    obtain ⟨L⟩ := args
    match L, hs with
    | [w0, w1, w2, w3], _ => exact ⟨w0, w1, w2, w3, rfl⟩
  have hw := fun d (hd : d ∈ tables_1) => atoms_spec (ws := Jvm.Cond.code x code maxLocals ret :: tables_1) hat d (List.mem_cons_of_mem _ hd)
  have hfit : Fit s := fun {y c} hc i hi => by
    obtain ⟨ha, rfl⟩ := Array.getElem?_eq_some_iff.mp hc
    have q := List.all_eq_true.mp ((Array.all_eq_true_iff_forall_mem.mp hF) _ (Array.getElem_mem ha)) i (List.mem_range.mpr hi)
    simpa [Array.getElem?_eq_getElem hi] using q
  obtain ⟨i0, ei0⟩ := is_v ha0
  obtain rfl : w0 = (.int i0) := Option.some.inj ei0
  obtain ⟨i1, ei1⟩ := isL_v ha1
  obtain rfl : w1 = (.long i1) := Option.some.inj ei1
  obtain ⟨i2, ei2⟩ := isL_v ha2
  obtain rfl : w2 = (.long i2) := Option.some.inj ei2
  obtain ⟨i3, ei3⟩ := is_v ha3
  obtain rfl : w3 = (.int i3) := Option.some.inj ei3
  obtain ⟨n, o, h1, h2, h3, _, L, rfl, ⟨hv, N, -⟩, hq⟩ := rm0 l s _ hw tables_1 i0 i1 i2 i3  s.heap s.heap.size (Nat.le_refl _)  p e ha hc hk s m _ below hf ((Spec.applies_iff_loose hf).mp happ).1 ⟨rfl, State.Warmed39.refl s, rfl⟩ trivial
  rw [own_law] at hv
  subst hv
  refine ⟨n, _, h1, h2, h3, hpost _ _ _ _ _ _ ⟨Cond.after_iff.mpr rfl, Cond.after_iff.mpr (eq_i res_at (Term.int_eval (1)) rfl), trivial⟩ ⟨hq.1, hq.2.1, (hq.2.2.sift fun y hy => Or.inr (N y hy)).mono (by decide) (by decide)⟩⟩
theorem main_1_1 : Claimed_1_1 := comes_1 fun _ _ _ _ _ _ h hF => ⟨h.1, hF⟩
theorem main_1_2 : Claimed_1_2 := comes_1 fun _ _ _ _ _ _ h hF => ⟨h.2.1, hF⟩
end Jvm.Pilot.@@N@@
namespace Jvm.Pilot.@@N@@
open Jvm Jvm.ClassFile Sem Op Lib Jvm.Free Jvm.Stand Jvm.Pilot.@@N@@.Jvm.D
/-! MADE BY PROGRAM (witnessworld.py) out of the Statement's table words and the real class files: 11 classes; the members and pool entries that the words name. The judged class is class 1, her method 1. -/
namespace start1
open Jvm.ClassFile
def u (s : String) : CpInfo := .utf8 (stringToUtf16 s)
/-- a pool by its gaps: so many unusable entries, then the entry; so many at the end -/
def gap : Nat → List CpInfo → List CpInfo
  | 0, r => r
  | n + 1, r => .unusable :: gap n r
def poolList (es : List (Nat × CpInfo)) (last : Nat) : List CpInfo := es.foldr (fun e r => gap e.1 (e.2 :: r)) (gap last [])
def pool (es : List (Nat × CpInfo)) (last : Nat) : Array CpInfo := ⟨poolList es last⟩
def fileOf (pool : Array CpInfo) (this : Nat) (attrs : Array Attribute := #[]) (ms : Array MethodInfo := #[]) (fl : Nat := 33) (sup : Nat := 0) (ifs : Array Nat := #[]) (fds : Array FieldInfo := #[]) : ClassFile where
  minorVersion := 0
  majorVersion := 65
  constantPool := pool
  accessFlags := fl
  thisClass := this
  superClass := sup
  interfaces := ifs
  fields := fds
  methods := ms
  attributes := attrs
def plain (name : String) (sup : Option ClassId) : Class where
  name := name
  kind := .ordinary
  loader := none
  accessFlags := 33
  super := sup
  interfaces := #[]
  cf := none
  fields := #[]
  methods := #[]
  instanceTypes := #[]
  staticTypes := #[]
  resolved := #[]
  callSites := []
  init := .initialized
  statics := none
  mirror := none

def pool0 : Array CpInfo := pool [(5, u "<init>"), (0, u "()V"), (1, .class_ 10), (1, u "java/lang/Object")] 113

def k0c0 : Code := { maxStack := 0, maxLocals := 1, code := object_method_1_code, exceptionTable := #[], attributes := #[] }
def k0m0 : Method := { name := "<init>", desc := "()V", sig := { parameters := [], returnType := none }, accessFlags := 1, code := some k0c0 }
/-- java/lang/Object -/
def k0 : Class := { plain "java/lang/Object" none with
  accessFlags := 33
  interfaces := #[]
  cf := some (fileOf pool0 8 #[] #[{ accessFlags := 1, nameIndex := 5, descriptorIndex := 6, attributes := #[] }] 33 0 #[] #[])
  fields := #[]
  methods := #[k0m0]
  instanceTypes := #[]
  staticTypes := #[]
  resolved := Array.replicate 124 none
  statics := none }

def pool1 : Array CpInfo := pool [(2, .class_ 4), (1, u "java/lang/Object"), (0, u "<init>"), (0, u "()V"), (0, .class_ 8), (0, u "com/example/hardy_queue/hardyqueue/store/QueueKey"), (0, .methodref 7 10), (0, .nameAndType 5 11), (0, u "(Ljava/lang/String;I)V"), (0, .class_ 13), (0, u "com/example/hardy_queue/hardyqueue/broker/PullRequest"), (0, .methodref 12 15), (0, .nameAndType 5 16), (0, u "(Ljava/lang/String;Lcom/example/hardy_queue/hardyqueue/store/QueueKey;JIIIJJLjava/lang/String;Ljava/lang/String;Ljava/lang/String;)V"), (0, .methodref 12 18), (0, .nameAndType 19 20), (0, u "commitsOffset"), (0, u "()Z"), (0, .class_ 22), (0, u "com/example/hardy_queue/hardyqueue/broker/PullRequestCommitsOffsetPinLaw"), (2, u "law"), (0, u "(IJJI)Z")] 3

def k1m0 : Method := { name := "<init>", desc := "()V", sig := { parameters := [], returnType := none }, accessFlags := 1, code := none }
def k1c1 : Code := { maxStack := 16, maxLocals := 10, code := code, exceptionTable := #[], attributes := #[] }
def k1m1 : Method := { name := "law", desc := "(IJJI)Z", sig := { parameters := [.int, .long, .long, .int], returnType := some .boolean }, accessFlags := 9, code := some k1c1 }
/-- com/example/hardy_queue/hardyqueue/broker/PullRequestCommitsOffsetPinLaw -/
def k1 : Class := { plain "com/example/hardy_queue/hardyqueue/broker/PullRequestCommitsOffsetPinLaw" (some 0) with
  accessFlags := 49
  interfaces := #[]
  cf := some (fileOf pool1 21 #[] #[{ accessFlags := 1, nameIndex := 5, descriptorIndex := 6, attributes := #[] }, { accessFlags := 9, nameIndex := 25, descriptorIndex := 26, attributes := #[] }] 49 2 #[] #[])
  fields := #[]
  methods := #[k1m0, k1m1]
  instanceTypes := #[]
  staticTypes := #[]
  resolved := Array.replicate 30 none
  statics := none }

def pool2 : Array CpInfo := pool [(1, .methodref 2 3), (0, .class_ 4), (0, .nameAndType 5 6), (0, u "java/lang/Object"), (0, u "<init>"), (0, u "()V"), (0, .class_ 8), (0, u "java/lang/Record")] 13

def k2c0 : Code := { maxStack := 1, maxLocals := 1, code := jdk_30_method_1_code, exceptionTable := #[], attributes := #[] }
def k2m0 : Method := { name := "<init>", desc := "()V", sig := { parameters := [], returnType := none }, accessFlags := 4, code := some k2c0 }
/-- java/lang/Record -/
def k2 : Class := { plain "java/lang/Record" (some 0) with
  accessFlags := 1057
  interfaces := #[]
  cf := some (fileOf pool2 7 #[] #[{ accessFlags := 4, nameIndex := 5, descriptorIndex := 6, attributes := #[] }] 1057 2 #[] #[])
  fields := #[]
  methods := #[k2m0]
  instanceTypes := #[]
  staticTypes := #[]
  resolved := Array.replicate 22 none
  statics := none }

def pool3 : Array CpInfo := pool [(1, .methodref 2 3), (0, .class_ 4), (0, .nameAndType 5 6), (0, u "java/lang/Record"), (0, u "<init>"), (0, u "()V"), (0, .fieldref 8 9), (0, .class_ 10), (0, .nameAndType 11 12), (0, u "com/example/hardy_queue/hardyqueue/store/QueueKey"), (0, u "topic"), (0, u "Ljava/lang/String;"), (0, .fieldref 8 14), (0, .nameAndType 15 16), (0, u "queueId"), (0, u "I"), (14, u "(Ljava/lang/String;I)V")] 28

def k3c0 : Code := { maxStack := 2, maxLocals := 3, code := prog_64_method_1_code, exceptionTable := #[], attributes := #[] }
def k3m0 : Method := { name := "<init>", desc := "(Ljava/lang/String;I)V", sig := { parameters := [(.object "java/lang/String"), .int], returnType := none }, accessFlags := 1, code := some k3c0 }
/-- com/example/hardy_queue/hardyqueue/store/QueueKey -/
def k3 : Class := { plain "com/example/hardy_queue/hardyqueue/store/QueueKey" (some 2) with
  accessFlags := 49
  interfaces := #[]
  cf := some (fileOf pool3 8 #[] #[{ accessFlags := 1, nameIndex := 5, descriptorIndex := 31, attributes := #[] }] 49 2 #[] #[{ accessFlags := 18, nameIndex := 11, descriptorIndex := 12, attributes := #[] }, { accessFlags := 18, nameIndex := 15, descriptorIndex := 16, attributes := #[] }])
  fields := #[{ name := "topic", type := (.object "java/lang/String"), accessFlags := 18, slot := 0, constantValue := 0 }, { name := "queueId", type := .int, accessFlags := 18, slot := 1, constantValue := 0 }]
  methods := #[k3m0]
  instanceTypes := #[(.object "java/lang/String"), .int]
  staticTypes := #[]
  resolved := Array.replicate 60 none
  statics := none }

def pool4 : Array CpInfo := pool [(1, .methodref 2 3), (0, .class_ 4), (0, .nameAndType 5 6), (0, u "java/lang/Record"), (0, u "<init>"), (0, u "()V"), (0, .fieldref 8 9), (0, .class_ 10), (0, .nameAndType 11 12), (0, u "com/example/hardy_queue/hardyqueue/broker/PullRequest"), (0, u "consumerGroup"), (0, u "Ljava/lang/String;"), (0, .fieldref 8 14), (0, .nameAndType 15 16), (0, u "queue"), (0, u "Lcom/example/hardy_queue/hardyqueue/store/QueueKey;"), (0, .fieldref 8 18), (0, .nameAndType 19 20), (0, u "queueOffset"), (0, u "J"), (0, .fieldref 8 22), (0, .nameAndType 23 24), (0, u "maxMsgNums"), (0, u "I"), (0, .fieldref 8 26), (0, .nameAndType 27 24), (0, u "maxMsgBytes"), (0, .fieldref 8 29), (0, .nameAndType 30 24), (0, u "sysFlag"), (0, .fieldref 8 32), (0, .nameAndType 33 20), (0, u "commitOffset"), (0, .fieldref 8 35), (0, .nameAndType 36 20), (0, u "suspendTimeoutMillis"), (0, .fieldref 8 38), (0, .nameAndType 39 12), (0, u "subscription"), (0, .fieldref 8 41), (0, .nameAndType 42 12), (0, u "expressionType"), (0, .fieldref 8 44), (0, .nameAndType 45 12), (0, u "brokerName"), (56, u "(Ljava/lang/String;Lcom/example/hardy_queue/hardyqueue/store/QueueKey;JIIIJJLjava/lang/String;Ljava/lang/String;Ljava/lang/String;)V"), (27, u "commitsOffset"), (0, u "()Z")] 37

def k4c0 : Code := { maxStack := 3, maxLocals := 15, code := prog_9_method_1_code, exceptionTable := #[], attributes := #[] }
def k4m0 : Method := { name := "<init>", desc := "(Ljava/lang/String;Lcom/example/hardy_queue/hardyqueue/store/QueueKey;JIIIJJLjava/lang/String;Ljava/lang/String;Ljava/lang/String;)V", sig := { parameters := [(.object "java/lang/String"), (.object "com/example/hardy_queue/hardyqueue/store/QueueKey"), .long, .int, .int, .int, .long, .long, (.object "java/lang/String"), (.object "java/lang/String"), (.object "java/lang/String")], returnType := none }, accessFlags := 0, code := some k4c0 }
def k4c1 : Code := { maxStack := 2, maxLocals := 1, code := prog_9_method_3_code, exceptionTable := #[], attributes := #[] }
def k4m1 : Method := { name := "commitsOffset", desc := "()Z", sig := { parameters := [], returnType := some .boolean }, accessFlags := 0, code := some k4c1 }
/-- com/example/hardy_queue/hardyqueue/broker/PullRequest -/
def k4 : Class := { plain "com/example/hardy_queue/hardyqueue/broker/PullRequest" (some 2) with
  accessFlags := 48
  interfaces := #[]
  cf := some (fileOf pool4 8 #[] #[{ accessFlags := 0, nameIndex := 5, descriptorIndex := 102, attributes := #[] }, { accessFlags := 0, nameIndex := 130, descriptorIndex := 131, attributes := #[] }] 48 2 #[] #[{ accessFlags := 18, nameIndex := 11, descriptorIndex := 12, attributes := #[] }, { accessFlags := 18, nameIndex := 15, descriptorIndex := 16, attributes := #[] }, { accessFlags := 18, nameIndex := 19, descriptorIndex := 20, attributes := #[] }, { accessFlags := 18, nameIndex := 23, descriptorIndex := 24, attributes := #[] }, { accessFlags := 18, nameIndex := 27, descriptorIndex := 24, attributes := #[] }, { accessFlags := 18, nameIndex := 30, descriptorIndex := 24, attributes := #[] }, { accessFlags := 18, nameIndex := 33, descriptorIndex := 20, attributes := #[] }, { accessFlags := 18, nameIndex := 36, descriptorIndex := 20, attributes := #[] }, { accessFlags := 18, nameIndex := 39, descriptorIndex := 12, attributes := #[] }, { accessFlags := 18, nameIndex := 42, descriptorIndex := 12, attributes := #[] }, { accessFlags := 18, nameIndex := 45, descriptorIndex := 12, attributes := #[] }])
  fields := #[{ name := "consumerGroup", type := (.object "java/lang/String"), accessFlags := 18, slot := 0, constantValue := 0 }, { name := "queue", type := (.object "com/example/hardy_queue/hardyqueue/store/QueueKey"), accessFlags := 18, slot := 1, constantValue := 0 }, { name := "queueOffset", type := .long, accessFlags := 18, slot := 2, constantValue := 0 }, { name := "maxMsgNums", type := .int, accessFlags := 18, slot := 3, constantValue := 0 }, { name := "maxMsgBytes", type := .int, accessFlags := 18, slot := 4, constantValue := 0 }, { name := "sysFlag", type := .int, accessFlags := 18, slot := 5, constantValue := 0 }, { name := "commitOffset", type := .long, accessFlags := 18, slot := 6, constantValue := 0 }, { name := "suspendTimeoutMillis", type := .long, accessFlags := 18, slot := 7, constantValue := 0 }, { name := "subscription", type := (.object "java/lang/String"), accessFlags := 18, slot := 8, constantValue := 0 }, { name := "expressionType", type := (.object "java/lang/String"), accessFlags := 18, slot := 9, constantValue := 0 }, { name := "brokerName", type := (.object "java/lang/String"), accessFlags := 18, slot := 10, constantValue := 0 }]
  methods := #[k4m0, k4m1]
  instanceTypes := #[(.object "java/lang/String"), (.object "com/example/hardy_queue/hardyqueue/store/QueueKey"), .long, .int, .int, .int, .long, .long, (.object "java/lang/String"), (.object "java/lang/String"), (.object "java/lang/String")]
  staticTypes := #[]
  resolved := Array.replicate 169 none
  statics := none }

def pool5 : Array CpInfo := pool [(1, u "java/lang/Cloneable"), (0, .class_ 1), (0, u "java/lang/Object"), (0, .class_ 3)] 3

/-- java/lang/Cloneable -/
def k5 : Class := { plain "java/lang/Cloneable" (some 0) with
  accessFlags := 1537
  interfaces := #[]
  cf := some (fileOf pool5 2 #[] #[] 1537 4 #[] #[])
  fields := #[]
  methods := #[]
  instanceTypes := #[]
  staticTypes := #[]
  resolved := Array.replicate 8 none
  statics := none }

def pool6 : Array CpInfo := pool [(1, u "java/io/Serializable"), (0, .class_ 1), (0, u "java/lang/Object"), (0, .class_ 3)] 3

/-- java/io/Serializable -/
def k6 : Class := { plain "java/io/Serializable" (some 0) with
  accessFlags := 1537
  interfaces := #[]
  cf := some (fileOf pool6 2 #[] #[] 1537 4 #[] #[])
  fields := #[]
  methods := #[]
  instanceTypes := #[]
  staticTypes := #[]
  resolved := Array.replicate 8 none
  statics := none }

/-- the primitive byte -/
def k7 : Class := { plain "byte" none with kind := .primitive 'B', accessFlags := 0x411 }
/-- [B -/
def k8 : Class := { plain "[B" (some 0) with kind := .array 7 .byte, interfaces := #[5, 6], accessFlags := 1041 }

/-- the primitive int -/
def k9 : Class := { plain "int" none with kind := .primitive 'I', accessFlags := 0x411 }
/-- [I -/
def k10 : Class := { plain "[I" (some 0) with kind := .array 9 .int, interfaces := #[5, 6], accessFlags := 1041 }

def heap : Heap := #[]
def classes : Array Class := #[k0, k1, k2, k3, k4, k5, k6, k7, k8, k9, k10]
def interned : List (Array UInt16 × Addr) := []
def slotsUsed : Nat := 0
def theMethod : MethodId := ⟨1, 1⟩
def args0 : Array Value := #[.int 32, .long 7, .long 1, .int 3]
def aboutOver (below : List Frame) : State where
  vm := { classes := classes, interned := interned.toArray }
  heap := heap
  slotsUsed := slotsUsed
  threads := #[{ frames := .invoking theMethod args0 :: below }]
def below0 : List Frame := [.native { method := ⟨0, 0⟩, args := #[] }]
def about1 : State := aboutOver below0
def p0 : Program := .bare "" "" ""
def e0 : Env := launch0.env 0 0 0
theorem w_frames : about1.frames = Frame.invoking theMethod args0 :: below0 := rfl
set_option maxRecDepth 65536 in
theorem w_args : argsFit about1.vm theMethod args0 = true := by decide +kernel
set_option maxRecDepth 65536 in
theorem w_heap : heapFits about1 = true := by decide +kernel
set_option maxRecDepth 65536 in
theorem w_runnable : about1.curStatus? = some .runnable := by decide +kernel
set_option maxRecDepth 65536 in
theorem w_alone : about1.alone = true := by decide +kernel
set_option maxRecDepth 65536 in
theorem w_named : about1.methodNamed? x = some theMethod := by decide +kernel
set_option maxRecDepth 65536 in
theorem w_hears : about1.hears theMethod below0 = true := by decide +kernel
set_option maxRecDepth 65536 in
theorem w_ripe : about1.ripe theMethod args0 below0 = true := by decide +kernel
theorem w_running : about1.status = .running := rfl
set_option maxRecDepth 65536 in
theorem w_room : about1.hasRoom e0.platform room_1 = true :=
  launch0.hasRoom_least _ room_1 (by decide +kernel) (by decide +kernel) (by decide +kernel) (by decide +kernel) (by decide +kernel) (by decide +kernel)
theorem allAtoms_all (ts : List Jvm.Cond) (a : Array Jvm.Value) (st : Jvm.State) : (allAtoms ts).before a st = ts.all (fun c => c.before a st) := by
  induction ts with
  | nil => rfl
  | cons c t ih =>
    show (Jvm.Cond.and c (allAtoms t)).before a st = _
    rw [Jvm.Cond.before_and, ih, List.all_cons]
def words1 : List Jvm.Cond := Jvm.Cond.code x code maxLocals ret :: tables_1
/-- a 'code' word, met by the world's own term for the bytes: nothing is compared byte by byte -/
theorem code_word {y : MethodName} {bytes : ByteArray} {mx : Nat} {rt : Option FieldType} {a : Array Value} {s : State} {m : MethodId} {meth : Method} {c : Code} (h1 : s.methodNamed? y = some m) (h2 : s.vm.method? m = some meth) (h3 : meth.code = some c) (h4 : c.code = bytes)
    (h5 : (c.maxLocals == mx && c.exceptionTable.isEmpty && decide (c.maxStack ≤ mostOperands) && decide (meth.sig.returnType = rt) && !meth.locks && decide (parseMethodDescriptor y.desc = some meth.sig)) = true) : (Jvm.Cond.code y bytes mx rt).before a s = true := by
  simp only [Bool.and_eq_true, beq_iff_eq, Bool.not_eq_true', decide_eq_true_eq] at h5
  obtain ⟨⟨⟨⟨⟨g1, g2⟩, g3⟩, g4⟩, g5⟩, g6⟩ := h5
  simp [Cond.before, Cond.holds, Cond.value, h1, h2, h3, h4, g1, g2, g3, g4, g5, g6]
def isCode : Jvm.Cond → Bool
  | .code _ _ _ _ => true
  | _ => false
theorem all_split {L : List Jvm.Cond} {P : Jvm.Cond → Bool} (h1 : L.all (fun c => isCode c || P c) = true) (h2 : ∀ c ∈ L.filter isCode, P c = true) : L.all P = true := by
  refine List.all_eq_true.mpr fun c hc => ?_
  have h := List.all_eq_true.mp h1 c hc
  rcases Bool.eq_false_or_eq_true (isCode c) with hi | hi
  · exact h2 c (List.mem_filter.mpr ⟨hc, hi⟩)
  · simpa [hi] using h
set_option maxRecDepth 65536 in
theorem w_c0 : (Jvm.Cond.code x code maxLocals ret).before args0 about1 = true := code_word (m := ⟨1, 1⟩) (meth := k1m1) (c := k1c1) (by decide +kernel) rfl rfl rfl (by decide +kernel)
set_option maxRecDepth 65536 in
theorem w_c1 : (Jvm.Cond.code ({ cls := "com/example/hardy_queue/hardyqueue/store/QueueKey", name := "<init>", desc := "(Ljava/lang/String;I)V" } : Jvm.MethodName) prog_64_method_1_code (3 : Nat) (Option.none : Option Jvm.ClassFile.FieldType)).before args0 about1 = true := code_word (m := ⟨3, 0⟩) (meth := k3m0) (c := k3c0) (by decide +kernel) rfl rfl rfl (by decide +kernel)
set_option maxRecDepth 65536 in
theorem w_c2 : (Jvm.Cond.code ({ cls := "java/lang/Record", name := "<init>", desc := "()V" } : Jvm.MethodName) jdk_30_method_1_code (1 : Nat) (Option.none : Option Jvm.ClassFile.FieldType)).before args0 about1 = true := code_word (m := ⟨2, 0⟩) (meth := k2m0) (c := k2c0) (by decide +kernel) rfl rfl rfl (by decide +kernel)
set_option maxRecDepth 65536 in
theorem w_c3 : (Jvm.Cond.code ({ cls := "java/lang/Object", name := "<init>", desc := "()V" } : Jvm.MethodName) object_method_1_code (1 : Nat) (Option.none : Option Jvm.ClassFile.FieldType)).before args0 about1 = true := code_word (m := ⟨0, 0⟩) (meth := k0m0) (c := k0c0) (by decide +kernel) rfl rfl rfl (by decide +kernel)
set_option maxRecDepth 65536 in
theorem w_c4 : (Jvm.Cond.code ({ cls := "com/example/hardy_queue/hardyqueue/broker/PullRequest", name := "<init>", desc := "(Ljava/lang/String;Lcom/example/hardy_queue/hardyqueue/store/QueueKey;JIIIJJLjava/lang/String;Ljava/lang/String;Ljava/lang/String;)V" } : Jvm.MethodName) prog_9_method_1_code (15 : Nat) (Option.none : Option Jvm.ClassFile.FieldType)).before args0 about1 = true := code_word (m := ⟨4, 0⟩) (meth := k4m0) (c := k4c0) (by decide +kernel) rfl rfl rfl (by decide +kernel)
set_option maxRecDepth 65536 in
theorem w_c5 : (Jvm.Cond.code ({ cls := "com/example/hardy_queue/hardyqueue/broker/PullRequest", name := "commitsOffset", desc := "()Z" } : Jvm.MethodName) prog_9_method_3_code (1 : Nat) (Option.some Jvm.ClassFile.FieldType.boolean)).before args0 about1 = true := code_word (m := ⟨4, 1⟩) (meth := k4m1) (c := k4c1) (by decide +kernel) rfl rfl rfl (by decide +kernel)
def codes1 : List Jvm.Cond := [Jvm.Cond.code x code maxLocals ret, Jvm.Cond.code ({ cls := "com/example/hardy_queue/hardyqueue/store/QueueKey", name := "<init>", desc := "(Ljava/lang/String;I)V" } : Jvm.MethodName) prog_64_method_1_code (3 : Nat) (Option.none : Option Jvm.ClassFile.FieldType), Jvm.Cond.code ({ cls := "java/lang/Record", name := "<init>", desc := "()V" } : Jvm.MethodName) jdk_30_method_1_code (1 : Nat) (Option.none : Option Jvm.ClassFile.FieldType), Jvm.Cond.code ({ cls := "java/lang/Object", name := "<init>", desc := "()V" } : Jvm.MethodName) object_method_1_code (1 : Nat) (Option.none : Option Jvm.ClassFile.FieldType), Jvm.Cond.code ({ cls := "com/example/hardy_queue/hardyqueue/broker/PullRequest", name := "<init>", desc := "(Ljava/lang/String;Lcom/example/hardy_queue/hardyqueue/store/QueueKey;JIIIJJLjava/lang/String;Ljava/lang/String;Ljava/lang/String;)V" } : Jvm.MethodName) prog_9_method_1_code (15 : Nat) (Option.none : Option Jvm.ClassFile.FieldType), Jvm.Cond.code ({ cls := "com/example/hardy_queue/hardyqueue/broker/PullRequest", name := "commitsOffset", desc := "()Z" } : Jvm.MethodName) prog_9_method_3_code (1 : Nat) (Option.some Jvm.ClassFile.FieldType.boolean)]
set_option maxRecDepth 65536 in
theorem codes_eq : words1.filter isCode = codes1 := rfl
theorem w_codes : ∀ c ∈ words1.filter isCode, c.before args0 about1 = true := by
  rw [codes_eq]
  intro c hc
  simp only [codes1, List.mem_cons, List.not_mem_nil, or_false] at hc
  rcases hc with rfl | rfl | rfl | rfl | rfl | rfl
  · exact w_c0
  · exact w_c1
  · exact w_c2
  · exact w_c3
  · exact w_c4
  · exact w_c5
set_option maxRecDepth 65536 in
theorem w_t1 : (words1.take 24).all (fun c => isCode c || c.before args0 about1) = true := by decide +kernel
set_option maxRecDepth 65536 in
theorem w_t2 : ((words1.drop 24).take 24).all (fun c => isCode c || c.before args0 about1) = true := by decide +kernel
set_option maxRecDepth 65536 in
theorem w_t3 : ((words1.drop 24).drop 24).all (fun c => isCode c || c.before args0 about1) = true := by decide +kernel
theorem w_tables : (allAtoms (Jvm.Cond.code x code maxLocals ret :: tables_1)).before args0 about1 = true := by
  rw [allAtoms_all]
  show words1.all (fun c => c.before args0 about1) = true
  refine all_split ?_ w_codes
  rw [← List.take_append_drop 24 words1, List.all_append, w_t1, ← List.take_append_drop 24 (words1.drop 24), List.all_append, w_t2, w_t3]
  rfl
set_option maxRecDepth 65536 in
theorem w_case : (Jvm.Cond.and given_1 narrow_1).before args0 about1 = true := by decide +kernel
theorem w_applies : (headSpec (Jvm.Cond.code x code maxLocals ret :: tables_1) room_1).applies x e0.platform about1 = true :=
  (Spec.applies_iff w_frames).mpr ⟨w_running, w_runnable, w_alone, w_named, w_hears, w_ripe, w_room, w_tables⟩
theorem atStart : AtStart classFile x code maxLocals ret World_1 tables_1 room_1 Calls_1 rest_1 Pre_1 launch0 p0 e0 about1 theMethod args0 below0 :=
  ⟨lists_1, trivial, launch0.admits_env _ _ _, launch0.least_env, fairChoices_fair.cas, fairChoices_fair.clock, w_frames, w_args, w_heap, w_applies, trivial, trivial, w_case⟩
end start1
theorem witness_1 : WitnessClaimed_1 := ⟨start1.p0, start1.e0, start1.about1, start1.theMethod, start1.args0, start1.below0, start1.atStart⟩
end Jvm.Pilot.@@N@@
