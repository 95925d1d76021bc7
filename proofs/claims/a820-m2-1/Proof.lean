import JvmDerived
import JvmDerived.Pilot.@@N@@Statement
import JvmDerived.Pilot.@@N@@Code
set_option linter.unusedVariables false
set_option linter.unusedSimpArgs false
namespace Jvm.RoadKit
open Sem ClassFile Op Lib Jvm.Stand Jvm.Free Jvm.LawKit
section New
variable {p : Program} {l : Launch} {e : Env} {R : Room} {s : State} {m : MethodId} {args : Array Value} {below : List Frame} {meth : Method} {c : Code} {T : State} {locs : List Loc} {cells slots : Nat}
theorem retI (X : Stand p l e R s m args below meth c T locs cells slots) (hx : p.tables.exec = Jvm.exec) {pc : Nat} {Ls : Array Slot} {z : Int32} {rest : List Value} (hret : meth.sig.returnType = some .int) (hd : decode c.code pc = .ok (.ireturn, 1)) {fs : List Frame}
    (hl : ∀ (f : JFrame) (acts : List Action), f.method = m → f.locked = none → f.entered = [] → (doReturn e (T.setTop f) acts (some (.int z))).1 = T.setFrames fs) : Steps p.tables e below (T.setTop (mkF m pc Ls (.int z :: rest))) (T.setFrames fs) := by
  have hm' : T.vm.method? m = some meth := X.method'
  have hn : narrow .int (.int z) = .int z := rfl
  show Steps p.tables e below (T.setTop { method := m, pc := pc, locals := Ls, stack := _ :: rest, locked := none }) _
  jvm_step X.here [X.here.top, hx, hd, hm', hret, hn]
  first | (intro acts; rw [hl _ acts rfl rfl rfl]) | rw [hl _ _ rfl rfl rfl]
  exact Steps.refl _
/-- from U the run comes to its end, and Q holds there -/
def OwnEnds (p : Program) (e : Env) (below : List Frame) (Q : Outcome → State → Prop) (U : State) : Prop := ∃ s₂ o, Steps p.tables e below U s₂ ∧ s₂.status = .running ∧ Ended s₂ below o ∧ Q o s₂
theorem OwnEnds.pre {Q : Outcome → State → Prop} {U U' : State} (h : ∀ t, Steps p.tables e below U' t → Steps p.tables e below U t) (k : OwnEnds p e below Q U') : OwnEnds p e below Q U := by
  obtain ⟨s₂, o, h1, h2⟩ := k
  exact ⟨s₂, o, h _ h1, h2⟩
def OwnQ (s : State) (Q : Option Value → Heap → List Loc → Prop) (C S : Nat) : Outcome → State → Prop := fun o U' => ∃ v L, o = .returned v ∧ Q v U'.heap L ∧ FrameEnd s o U' L C S
theorem own_endI (X : Stand p l e R s m args below meth c T locs cells slots) (hx : p.tables.exec = Jvm.exec) (hlocks : meth.locks = false) {pc : Nat} {Ls : Array Slot} {z : Int32} {rest : List Value} (hret : meth.sig.returnType = some .int) (hd : decode c.code pc = .ok (.ireturn, 1))
    {Q : Option Value → Heap → List Loc → Prop} {C S : Nat} (hC : cells ≤ C) (hS : slots ≤ S) (hQ : Q (some (.int z)) T.heap locs) : OwnEnds p e below (OwnQ s Q C S) (T.setTop (mkF m pc Ls (.int z :: rest))) := by
  obtain ⟨fs, hr, hrun, hended, hW, hsame⟩ := X.leave (v := some (.int z)) (fun h => by rw [hret] at h; cases h) hlocks
  exact ⟨_, _, retI X hx hret hd hr, hrun, hended, _, _, rfl, hQ, ⟨_, rfl⟩, hW, hsame.mono hC hS⟩
theorem own_endN (X : Stand p l e R s m args below meth c T locs cells slots) (hx : p.tables.exec = Jvm.exec) (hlocks : meth.locks = false) {pc : Nat} {Ls : Array Slot} {z z' : Int32} {t : FieldType} {rest : List Value} (hret : meth.sig.returnType = some t) (ht : t = .boolean ∨ t = .byte ∨ t = .char ∨ t = .short) (hd : decode c.code pc = .ok (.ireturn, 1)) (hz : nar t z = z')
    {Q : Option Value → Heap → List Loc → Prop} {C S : Nat} (hC : cells ≤ C) (hS : slots ≤ S) (hQ : Q (some (.int z')) T.heap locs) : OwnEnds p e below (OwnQ s Q C S) (T.setTop (mkF m pc Ls (.int z :: rest))) := by
  subst hz
  obtain ⟨fs, hr, hrun, hended, hW, hsame⟩ := X.leave (v := some (.int (nar t z))) (fun h => by rw [hret] at h; cases h) hlocks
  exact ⟨_, _, retN X hx hret ht hd hr, hrun, hended, _, _, rfl, hQ, ⟨_, rfl⟩, hW, hsame.mono hC hS⟩
theorem own_endJ (X : Stand p l e R s m args below meth c T locs cells slots) (hx : p.tables.exec = Jvm.exec) (hlocks : meth.locks = false) {pc : Nat} {Ls : Array Slot} {z : Int64} (hret : meth.sig.returnType = some .long) (hd : decode c.code pc = .ok (.lreturn, 1))
    {Q : Option Value → Heap → List Loc → Prop} {C S : Nat} (hC : cells ≤ C) (hS : slots ≤ S) (hQ : Q (some (.long z)) T.heap locs) : OwnEnds p e below (OwnQ s Q C S) (T.setTop (mkF m pc Ls [.long z])) := by
  obtain ⟨fs, hr, hrun, hended, hW, hsame⟩ := X.leave (v := some (.long z)) (fun h => by rw [hret] at h; cases h) hlocks
  exact ⟨_, _, X.lreturnOut hx hret hd hr, hrun, hended, _, _, rfl, hQ, ⟨_, rfl⟩, hW, hsame.mono hC hS⟩
theorem own_endV (X : Stand p l e R s m args below meth c T locs cells slots) (hx : p.tables.exec = Jvm.exec) (hlocks : meth.locks = false) {pc : Nat} {Ls : Array Slot} (hret : meth.sig.returnType = none) (hd : decode c.code pc = .ok (.return_, 1))
    {Q : Option Value → Heap → List Loc → Prop} {C S : Nat} (hC : cells ≤ C) (hS : slots ≤ S) (hQ : Q none T.heap locs) : OwnEnds p e below (OwnQ s Q C S) (T.setTop (mkF m pc Ls [])) := by
  obtain ⟨fs, hr, hrun, hended, hW, hsame⟩ := X.leave (v := none) (fun _ => rfl) hlocks
  exact ⟨_, _, X.returnOut hx hret hd hr, hrun, hended, _, _, rfl, hQ, ⟨_, rfl⟩, hW, hsame.mono hC hS⟩
theorem own_endR (X : Stand p l e R s m args below meth c T locs cells slots) (hx : p.tables.exec = Jvm.exec) (hlocks : meth.locks = false) {pc : Nat} {Ls : Array Slot} {w : Value} {t : FieldType} {rest : List Value} (hret : meth.sig.returnType = some t) (ht : t.isReference = true) (hw : w.isRef = true) (hd : decode c.code pc = .ok (.areturn, 1))
    {Q : Option Value → Heap → List Loc → Prop} {C S : Nat} (hC : cells ≤ C) (hS : slots ≤ S) (hQ : Q (some w) T.heap locs) : OwnEnds p e below (OwnQ s Q C S) (T.setTop (mkF m pc Ls (w :: rest))) := by
  obtain ⟨fs, hr, hrun, hended, hW, hsame⟩ := X.leave (v := some w) (fun h => by rw [hret] at h; cases h) hlocks
  have hn : narrow t w = w := by cases t <;> first | rfl | (cases ht)
  exact ⟨_, _, retOut X hx hret hn (Or.inr (Or.inr (Or.inr (Or.inr ⟨rfl, ht, hw⟩)))) hd hr, hrun, hended, _, _, rfl, hQ, ⟨_, rfl⟩, hW, hsame.mono hC hS⟩
theorem own_getI (l : List Int32) (i : Nat) : (l.map Value.int).getD i (.int 0) = .int (l.getD i 0) := by
  simp only [List.getD_eq_getElem?_getD, List.getElem?_map]
  cases l[i]? <;> rfl
theorem own_getJ (l : List Int64) (i : Nat) : (l.map Value.long).getD i (.long 0) = .long (l.getD i 0) := by
  simp only [List.getD_eq_getElem?_getD, List.getElem?_map]
  cases l[i]? <;> rfl
theorem own_nin0 {a : Addr} : a ∉ ([] : List Addr) := List.not_mem_nil
theorem own_nin1 {a b : Addr} (h : a ≠ b) : a ∉ [b] := by simpa using h
theorem own_nin2 {a b c : Addr} (h : a ≠ b) (h' : a ≠ c) : a ∉ [b, c] := by simpa using ⟨h, h'⟩
theorem own_staK0 {Z : State} {h h' : Heap} {C n d : String} {v : Value} (F : Sta Z h C n d v) (K : Keep h h' []) : Sta Z h' C n d v := by
  obtain ⟨cf, i, k, f, st, cell, h1, h2, h3, h4, h5, h6, h7⟩ := F
  exact ⟨cf, i, k, f, st, cell, h1, h2, h3, h4, K.2.1 st cell h5 own_nin0, h6, h7⟩
theorem own_staK1 {Z : State} {h h' : Heap} {C n d D : String} {v : Value} {x : Addr} (F : Sta Z h C n d v) (K : Keep h h' [x]) (E : Exa Z h x D) : Sta Z h' C n d v := by
  obtain ⟨cf, i, k, f, st, cell, h1, h2, h3, h4, h5, h6, h7⟩ := F
  obtain ⟨cl, kk, e1, e2, e3, e4, e5⟩ := E
  refine ⟨cf, i, k, f, st, cell, h1, h2, h3, h4, K.2.1 st cell h5 (own_nin1 fun q => ?_), h6, h7⟩
  subst q
  cases h5.symm.trans e1
  rw [h6] at e4
  cases e4
theorem own_nsroot {Z : State} {a0 : Array Value} {O K : String} {n : Nat} (w : (Cond.noSuperclass O).before a0 Z = true) (wk : (Cond.instantiable K n).before a0 Z = true) (hn : O ≠ K) : NS Z O K := by
  obtain ⟨c, k, h1, h2, h3, -, -⟩ := Cond.noSuperclass_spec w
  obtain ⟨t, kt, g1, -⟩ := Cond.instantiable_spec wk
  have ne := ids_ne h1 g1 hn
  refine ⟨c, t, h1, g1, fun fuel => ?_⟩
  cases fuel with
  | zero => rfl
  | succ f => simp [Vm.isSubclassAux, ne, h2, h3]
theorem own_nsno {Z : State} {a0 : Array Value} {C S K : String} {n : Nat} (w : (Cond.superclass C S).before a0 Z = true) (wk : (Cond.instantiable K n).before a0 Z = true) (ns : NS Z C K) (hn : C ≠ K) : ∃ c t, Z.vm.findClass C = some c ∧ Z.vm.findClass K = some t ∧ Z.vm.assignable c t = false := by
  obtain ⟨c, t, h0, g0, n3⟩ := ns
  obtain ⟨p, k, kp, h1, h2, h3, h4, h5, -, h7⟩ := Cond.superclass_spec h0 w
  obtain ⟨t', kt, g1, g2, g3, g4, -⟩ := Cond.instantiable_spec wk
  cases g0.symm.trans g1
  have g7 : kt.isInterface = false := by simp only [Bool.or_eq_false_iff] at g4; exact g4.1
  have ne := ids_ne h0 g0 hn
  refine ⟨c, t, h0, g0, ?_⟩
  show Z.vm.assignableAux (255 + 1) c t = false
  simp [Vm.assignableAux, ne, h2, g2, h5, g3, g7, Vm.isSubclass, n3]
end New
end Jvm.RoadKit
namespace Jvm.Pilot.@@N@@
open Jvm Jvm.ClassFile Sem Op Lib Jvm.Free Jvm.Stand Jvm.LawKit Jvm.RoadKit Bundle Jvm.Pilot.@@N@@.Jvm.D
theorem d2_0 : decode jdk_30_method_1_code 0 = .ok (.aload_n 0, 1) := by decide +kernel
theorem d2_1 : decode jdk_30_method_1_code 1 = .ok (.invokespecial 1, 3) := by decide +kernel
theorem d2_4 : decode jdk_30_method_1_code 4 = .ok (.return_, 1) := by decide +kernel
theorem ef_2 (m : MethodId) (a0 : Addr) : entryFrame m #[(.ref a0)] 1 = mkF m 0 #[.val (.ref a0)] [] := by first | (simp [entryFrame, mkF, argsToLocals, Value.category]; done) | rfl
theorem pn_0 : plainName "java/lang/Record" = true := by first | (simp [plainName, overriddenIn]; done) | decide +kernel
def Q2 (Z : State) (a0 : Addr) (h0 : Heap) (n0 : Nat) (v : Option Value) (h : Heap) (L : List Loc) : Prop := v = none ∧ Fr n0 L ∧ h = h0
set_option maxRecDepth 65536 in
set_option maxHeartbeats 40000000 in
theorem rm2 (l : Launch) (Z : State) (aZ : Array Value) (hw : ∀ d ∈ tables_1, d.before aZ Z = true) (ws : List Jvm.Cond) (a0 : Addr) (h0 : Heap) (n0 : Nat) (Z0 : n0 ≤ h0.size) :
    MetFree l (⟨"java/lang/Record", "<init>", "()V"⟩ : MethodName) (head1 (Jvm.Cond.code (⟨"java/lang/Record", "<init>", "()V"⟩ : MethodName) jdk_30_method_1_code 1 none :: ws) ({ frames := 1, cells := 0, slots := 0, locals := 12 } : Room)) (fun a U => a = #[(.ref a0)] ∧ Z.Warmed39 U.vm ∧ U.heap = h0) (fun _ _ _ _ _ => True) (fun _ U o U' => ∃ v L, o = .returned v ∧ Q2 Z a0 h0 n0 v U'.heap L ∧ FrameEnd U o U' L 0 0) := by
  refine MetFree.of_bodySF (plainFor_of_name pn_0) hisR ?_
  intro p e s m args below meth c s₁ Bd hml0 hP hK
  obtain ⟨rfl, hZ, hh⟩ := hP
  have hx := Bd.exec
  have hby := Bd.bytes
  have hml : c.maxLocals = 1 := hml0
  have hown : s.vm.findClass "java/lang/Record" = some m.cls := findClass_of_methodNamed Bd.named
  have hnm := (name_of_methodNamed Bd.named Bd.method).1
  have hlk := BodyLoose.notSynchronized Bd
  have X0 : Stand p l e ({ frames := 1, cells := 0, slots := 0, locals := 12 } : Room) s m #[(.ref a0)] below meth c s₁ [] 0 0 := Stand.of_body Bd
  have e0 : s₁.heap = h0 := by rw [← hh, Bd.state]; rfl
  have N0 := Fr.nil n0
  have hk0 : 0 ≤ 0 := Nat.zero_le _
  have hn0 : 0 ≤ 0 := Nat.zero_le _
  show OwnEnds p e below (OwnQ s (Q2 Z a0 h0 n0) 0 0) (s₁.setTop (entryFrame m #[(.ref a0)] 1))
  refine .pre (fun t k => castTop (ef_2 m a0) k) ?_
  show OwnEnds p e below _ (s₁.setTop (mkF m 0 #[.val (.ref a0)] []))
  refine .pre (fun _ k => XS.aloadN X0.here hx rfl (hb hby d2_0) rfl rfl k) ?_
  show OwnEnds p e below _ (s₁.setTop (mkF m 1 #[.val (.ref a0)] [(.ref a0)]))
  obtain ⟨T1, X1, e1, st1⟩ := initO X0 hx hZ hown (hw _ (List.mem_of_getElem? (i := 11) rfl)) (hw _ (List.mem_of_getElem? (i := 12) rfl)) (hw _ (List.mem_of_getElem? (i := 13) rfl)) e0 (g := (mkF m 1 #[.val (.ref a0)] [(.ref a0)])) rfl (by rw [hml]; rfl) rfl (hb hby d2_1) (by decide) (W := 0) (by show 2 * 0 + _ ≤ _; exact Nat.le_of_eq rfl) (by decide)
  refine .pre (fun _ k => st1 _ k) ?_
  show OwnEnds p e below _ (T1.setTop (mkF m 4 #[.val (.ref a0)] []))
  exact own_endV X1 hx hlk Bd.returns (hb hby d2_4) (by decide) (by decide) ⟨rfl, N0, e1⟩
theorem d1_0 : decode prog_54_method_1_code 0 = .ok (.aload_n 0, 1) := by decide +kernel
theorem d1_1 : decode prog_54_method_1_code 1 = .ok (.invokespecial 1, 3) := by decide +kernel
theorem d1_4 : decode prog_54_method_1_code 4 = .ok (.aload_n 0, 1) := by decide +kernel
theorem d1_5 : decode prog_54_method_1_code 5 = .ok (.lload_n 1, 1) := by decide +kernel
theorem d1_6 : decode prog_54_method_1_code 6 = .ok (.putfield 7, 3) := by decide +kernel
theorem d1_9 : decode prog_54_method_1_code 9 = .ok (.aload_n 0, 1) := by decide +kernel
theorem d1_10 : decode prog_54_method_1_code 10 = .ok (.lload_n 3, 1) := by decide +kernel
theorem d1_11 : decode prog_54_method_1_code 11 = .ok (.putfield 13, 3) := by decide +kernel
theorem d1_14 : decode prog_54_method_1_code 14 = .ok (.aload_n 0, 1) := by decide +kernel
theorem d1_15 : decode prog_54_method_1_code 15 = .ok (.lload 5, 2) := by decide +kernel
theorem d1_17 : decode prog_54_method_1_code 17 = .ok (.putfield 16, 3) := by decide +kernel
theorem d1_20 : decode prog_54_method_1_code 20 = .ok (.return_, 1) := by decide +kernel
theorem ef_1 (m : MethodId) (a0 : Addr) (q1 : Int64) (q2 : Int64) (q3 : Int64) : entryFrame m #[(.ref a0), (.long q1), (.long q2), (.long q3)] 7 = mkF m 0 #[.val (.ref a0), .val (.long q1), .second, .val (.long q2), .second, .val (.long q3), .second] [] := by first | (simp [entryFrame, mkF, argsToLocals, Value.category]; done) | rfl
theorem pn_1 : plainName "com/example/hardy_queue/hardyqueue/store/FlushMark$Flush" = true := by first | (simp [plainName, overriddenIn]; done) | decide +kernel
theorem pd_2 : parseMethodDescriptor "()V" = some ⟨[], none⟩ := by decide +kernel
def Q1 (Z : State) (a0 : Addr) (q1 : Int64) (q2 : Int64) (q3 : Int64) (u_from : Value) (u_upTo : Value) (u_cuts : Value) (h0 : Heap) (n0 : Nat) (v : Option Value) (h : Heap) (L : List Loc) : Prop := v = none ∧ Fr n0 L ∧ Keep h0 h [a0] ∧ Exa Z h a0 "com/example/hardy_queue/hardyqueue/store/FlushMark$Flush" ∧ Fld Z h a0 "com/example/hardy_queue/hardyqueue/store/FlushMark$Flush" "from" "J" (.long q1) ∧ Fld Z h a0 "com/example/hardy_queue/hardyqueue/store/FlushMark$Flush" "upTo" "J" (.long q2) ∧ Fld Z h a0 "com/example/hardy_queue/hardyqueue/store/FlushMark$Flush" "cuts" "J" (.long q3)
set_option maxRecDepth 65536 in
set_option maxHeartbeats 40000000 in
theorem rm1 (l : Launch) (Z : State) (aZ : Array Value) (hw : ∀ d ∈ tables_1, d.before aZ Z = true) (ws : List Jvm.Cond) (a0 : Addr) (q1 : Int64) (q2 : Int64) (q3 : Int64) (u_from : Value) (u_upTo : Value) (u_cuts : Value) (h0 : Heap) (n0 : Nat) (Z0 : n0 ≤ h0.size) (g_a0 : n0 ≤ a0) (E_a0 : Exa Z h0 a0 "com/example/hardy_queue/hardyqueue/store/FlushMark$Flush") (F_u_from : Fld Z h0 a0 "com/example/hardy_queue/hardyqueue/store/FlushMark$Flush" "from" "J" u_from) (F_u_upTo : Fld Z h0 a0 "com/example/hardy_queue/hardyqueue/store/FlushMark$Flush" "upTo" "J" u_upTo) (F_u_cuts : Fld Z h0 a0 "com/example/hardy_queue/hardyqueue/store/FlushMark$Flush" "cuts" "J" u_cuts) :
    MetFree l (⟨"com/example/hardy_queue/hardyqueue/store/FlushMark$Flush", "<init>", "(JJJ)V"⟩ : MethodName) (head1 (Jvm.Cond.code (⟨"com/example/hardy_queue/hardyqueue/store/FlushMark$Flush", "<init>", "(JJJ)V"⟩ : MethodName) prog_54_method_1_code 7 none :: ws) ({ frames := 2, cells := 0, slots := 0, locals := 24 } : Room)) (fun a U => a = #[(.ref a0), (.long q1), (.long q2), (.long q3)] ∧ Z.Warmed39 U.vm ∧ U.heap = h0) (fun _ _ _ _ _ => True) (fun _ U o U' => ∃ v L, o = .returned v ∧ Q1 Z a0 q1 q2 q3 u_from u_upTo u_cuts h0 n0 v U'.heap L ∧ FrameEnd U o U' L 0 0) := by
  refine MetFree.of_bodySF (plainFor_of_name pn_1) hisR ?_
  intro p e s m args below meth c s₁ Bd hml0 hP hK
  obtain ⟨rfl, hZ, hh⟩ := hP
  have hx := Bd.exec
  have hby := Bd.bytes
  have hml : c.maxLocals = 7 := hml0
  have hown : s.vm.findClass "com/example/hardy_queue/hardyqueue/store/FlushMark$Flush" = some m.cls := findClass_of_methodNamed Bd.named
  have hnm := (name_of_methodNamed Bd.named Bd.method).1
  have hlk := BodyLoose.notSynchronized Bd
  have X0 : Stand p l e ({ frames := 2, cells := 0, slots := 0, locals := 24 } : Room) s m #[(.ref a0), (.long q1), (.long q2), (.long q3)] below meth c s₁ [] 0 0 := Stand.of_body Bd
  have e0 : s₁.heap = h0 := by rw [← hh, Bd.state]; rfl
  have N0 := Fr.nil n0
  have hk0 : 0 ≤ 0 := Nat.zero_le _
  have hn0 : 0 ≤ 0 := Nat.zero_le _
  show OwnEnds p e below (OwnQ s (Q1 Z a0 q1 q2 q3 u_from u_upTo u_cuts h0 n0) 0 0) (s₁.setTop (entryFrame m #[(.ref a0), (.long q1), (.long q2), (.long q3)] 7))
  refine .pre (fun t k => castTop (ef_1 m a0 q1 q2 q3) k) ?_
  show OwnEnds p e below _ (s₁.setTop (mkF m 0 #[.val (.ref a0), .val (.long q1), .second, .val (.long q2), .second, .val (.long q3), .second] []))
  refine .pre (fun _ k => XS.aloadN X0.here hx rfl (hb hby d1_0) rfl rfl k) ?_
  show OwnEnds p e below _ (s₁.setTop (mkF m 1 #[.val (.ref a0), .val (.long q1), .second, .val (.long q2), .second, .val (.long q3), .second] [(.ref a0)]))
  obtain ⟨_, _, ⟨T1, L1, k1, n1⟩, -, X1, ⟨Lc1, hQ1, l1, y1, z1⟩, st1⟩ := X0.specialBack hx (y := (⟨"java/lang/Record", "<init>", "()V"⟩ : MethodName)) rfl hown (mvT hZ (hw _ (List.mem_of_getElem? (i := 6) rfl))) (mvT hZ (hw _ (List.mem_of_getElem? (i := 7) rfl))) (mvT hZ (hw _ (List.mem_of_getElem? (i := 10) rfl))) (by decide) (backOf (W := 0) (rm2 l Z aZ hw [] a0 h0 n0 Z0) hZ (hw _ (List.mem_of_getElem? (i := 10) rfl)) (hw _ (List.mem_of_getElem? (i := 9) rfl)) (by decide) (by decide)) (g := (mkF m 1 #[.val (.ref a0), .val (.long q1), .second, .val (.long q2), .second, .val (.long q3), .second] [(.ref a0)])) rfl (by rw [hml]; rfl) (Steps.refl _) (a := a0) (argsL := []) (rest := []) (lenOf pd_2 rfl) rfl (by show 2 * 0 + _ ≤ _; exact Nat.le_of_eq rfl) (hb hby d1_1) (fun _ _ => ⟨rfl, e0, (by decide : 0 + 0 ≤ _), (by decide : 0 + 0 ≤ _)⟩)
  dsimp only [Pt.U, Pt.locs, Pt.cells, Pt.slots] at X1 l1 y1 z1 st1 hQ1
  subst l1 y1 z1
  obtain ⟨rfl, N1q, e1⟩ := hQ1
  have N1 := Fr.app N0 N1q
  refine .pre (fun _ k => st1.trans k) ?_
  show OwnEnds p e below _ (T1.setTop (mkF m 4 #[.val (.ref a0), .val (.long q1), .second, .val (.long q2), .second, .val (.long q3), .second] []))
  refine .pre (fun _ k => XS.aloadN X1.here hx rfl (hb hby d1_4) rfl rfl k) ?_
  show OwnEnds p e below _ (T1.setTop (mkF m 5 #[.val (.ref a0), .val (.long q1), .second, .val (.long q2), .second, .val (.long q3), .second] [(.ref a0)]))
  refine .pre (fun _ k => XS.lloadN X1.here hx rfl (hb hby d1_5) rfl k) ?_
  show OwnEnds p e below _ (T1.setTop (mkF m 6 #[.val (.ref a0), .val (.long q1), .second, .val (.long q2), .second, .val (.long q3), .second] [(.long q1), (.ref a0)]))
  obtain ⟨T2, h2, X2, e2, W2, st2⟩ := putF X1 hx hZ hown (host := "") (Or.inl (hw _ (List.mem_of_getElem? (i := 14) rfl))) Via.refl e1 F_u_from E_a0 (Or.inr ⟨(hw _ (List.mem_of_getElem? (i := 15) rfl)), rfl, hnm⟩) (hw _ (List.mem_of_getElem? (i := 1) rfl)) (ty := .long) (by decide) rfl rfl (g := (mkF m 6 #[.val (.ref a0), .val (.long q1), .second, .val (.long q2), .second, .val (.long q3), .second] [(.long q1), (.ref a0)])) rfl rfl (hb hby d1_6)
  have Fw2 := F_u_from.same W2
  have N2 := Fr.snoc X2 N1 g_a0
  have Kp2 : Keep h0 h2 [a0] := (Keep.refl h0 [a0]).wr W2 (Or.inl (List.mem_of_getElem? (i := 0) rfl))
  refine .pre (fun _ k => st2 _ k) ?_
  show OwnEnds p e below _ (T2.setTop (mkF m 9 #[.val (.ref a0), .val (.long q1), .second, .val (.long q2), .second, .val (.long q3), .second] []))
  refine .pre (fun _ k => XS.aloadN X2.here hx rfl (hb hby d1_9) rfl rfl k) ?_
  show OwnEnds p e below _ (T2.setTop (mkF m 10 #[.val (.ref a0), .val (.long q1), .second, .val (.long q2), .second, .val (.long q3), .second] [(.ref a0)]))
  refine .pre (fun _ k => XS.lloadN X2.here hx rfl (hb hby d1_10) rfl k) ?_
  show OwnEnds p e below _ (T2.setTop (mkF m 11 #[.val (.ref a0), .val (.long q1), .second, .val (.long q2), .second, .val (.long q3), .second] [(.long q2), (.ref a0)]))
  obtain ⟨T3, h3, X3, e3, W3, st3⟩ := putF X2 hx hZ hown (host := "") (Or.inl (hw _ (List.mem_of_getElem? (i := 16) rfl))) Via.refl e2 (F_u_upTo.other W2 (Or.inr (slot_ne (Or.inr (hw _ (List.mem_of_getElem? (i := 17) rfl))) (Or.inr (hw _ (List.mem_of_getElem? (i := 15) rfl))) (by decide) (t := .long) (t' := .long) (by decide) (by decide)))) (E_a0.wr W2) (Or.inr ⟨(hw _ (List.mem_of_getElem? (i := 17) rfl)), rfl, hnm⟩) (hw _ (List.mem_of_getElem? (i := 1) rfl)) (ty := .long) (by decide) rfl rfl (g := (mkF m 11 #[.val (.ref a0), .val (.long q1), .second, .val (.long q2), .second, .val (.long q3), .second] [(.long q2), (.ref a0)])) rfl rfl (hb hby d1_11)
  have Fw3 := (F_u_upTo.other W2 (Or.inr (slot_ne (Or.inr (hw _ (List.mem_of_getElem? (i := 17) rfl))) (Or.inr (hw _ (List.mem_of_getElem? (i := 15) rfl))) (by decide) (t := .long) (t' := .long) (by decide) (by decide)))).same W3
  have N3 := Fr.snoc X3 N2 g_a0
  have Kp3 : Keep h0 h3 [a0] := Kp2.wr W3 (Or.inl (List.mem_of_getElem? (i := 0) rfl))
  refine .pre (fun _ k => st3 _ k) ?_
  show OwnEnds p e below _ (T3.setTop (mkF m 14 #[.val (.ref a0), .val (.long q1), .second, .val (.long q2), .second, .val (.long q3), .second] []))
  refine .pre (fun _ k => XS.aloadN X3.here hx rfl (hb hby d1_14) rfl rfl k) ?_
  show OwnEnds p e below _ (T3.setTop (mkF m 15 #[.val (.ref a0), .val (.long q1), .second, .val (.long q2), .second, .val (.long q3), .second] [(.ref a0)]))
  refine .pre (fun _ k => XS.lload X3.here hx rfl (hb hby d1_15) rfl k) ?_
  show OwnEnds p e below _ (T3.setTop (mkF m 17 #[.val (.ref a0), .val (.long q1), .second, .val (.long q2), .second, .val (.long q3), .second] [(.long q3), (.ref a0)]))
  obtain ⟨T4, h4, X4, e4, W4, st4⟩ := putF X3 hx hZ hown (host := "") (Or.inl (hw _ (List.mem_of_getElem? (i := 18) rfl))) Via.refl e3 ((F_u_cuts.other W2 (Or.inr (slot_ne (Or.inr (hw _ (List.mem_of_getElem? (i := 19) rfl))) (Or.inr (hw _ (List.mem_of_getElem? (i := 15) rfl))) (by decide) (t := .long) (t' := .long) (by decide) (by decide)))).other W3 (Or.inr (slot_ne (Or.inr (hw _ (List.mem_of_getElem? (i := 19) rfl))) (Or.inr (hw _ (List.mem_of_getElem? (i := 17) rfl))) (by decide) (t := .long) (t' := .long) (by decide) (by decide)))) ((E_a0.wr W2).wr W3) (Or.inr ⟨(hw _ (List.mem_of_getElem? (i := 19) rfl)), rfl, hnm⟩) (hw _ (List.mem_of_getElem? (i := 1) rfl)) (ty := .long) (by decide) rfl rfl (g := (mkF m 17 #[.val (.ref a0), .val (.long q1), .second, .val (.long q2), .second, .val (.long q3), .second] [(.long q3), (.ref a0)])) rfl rfl (hb hby d1_17)
  have Fw4 := ((F_u_cuts.other W2 (Or.inr (slot_ne (Or.inr (hw _ (List.mem_of_getElem? (i := 19) rfl))) (Or.inr (hw _ (List.mem_of_getElem? (i := 15) rfl))) (by decide) (t := .long) (t' := .long) (by decide) (by decide)))).other W3 (Or.inr (slot_ne (Or.inr (hw _ (List.mem_of_getElem? (i := 19) rfl))) (Or.inr (hw _ (List.mem_of_getElem? (i := 17) rfl))) (by decide) (t := .long) (t' := .long) (by decide) (by decide)))).same W4
  have N4 := Fr.snoc X4 N3 g_a0
  have Kp4 : Keep h0 h4 [a0] := Kp3.wr W4 (Or.inl (List.mem_of_getElem? (i := 0) rfl))
  refine .pre (fun _ k => st4 _ k) ?_
  show OwnEnds p e below _ (T4.setTop (mkF m 20 #[.val (.ref a0), .val (.long q1), .second, .val (.long q2), .second, .val (.long q3), .second] []))
  exact own_endV X4 hx hlk Bd.returns (hb hby d1_20) (by decide) (by decide) ⟨rfl, N4, (by rw [e4]; exact Kp4), (by rw [e4]; exact (((E_a0.wr W2).wr W3).wr W4)), (by rw [e4]; exact ((Fw2.other W3 (Or.inr (slot_ne (Or.inr (hw _ (List.mem_of_getElem? (i := 15) rfl))) (Or.inr (hw _ (List.mem_of_getElem? (i := 17) rfl))) (by decide) (t := .long) (t' := .long) (by decide) (by decide)))).other W4 (Or.inr (slot_ne (Or.inr (hw _ (List.mem_of_getElem? (i := 15) rfl))) (Or.inr (hw _ (List.mem_of_getElem? (i := 19) rfl))) (by decide) (t := .long) (t' := .long) (by decide) (by decide))))), (by rw [e4]; exact (Fw3.other W4 (Or.inr (slot_ne (Or.inr (hw _ (List.mem_of_getElem? (i := 17) rfl))) (Or.inr (hw _ (List.mem_of_getElem? (i := 19) rfl))) (by decide) (t := .long) (t' := .long) (by decide) (by decide))))), (by rw [e4]; exact Fw4)⟩
theorem d4_0 : decode prog_54_method_2_code 0 = .ok (.aload_n 0, 1) := by decide +kernel
theorem d4_1 : decode prog_54_method_2_code 1 = .ok (.getfield 13, 3) := by decide +kernel
theorem d4_4 : decode prog_54_method_2_code 4 = .ok (.aload_n 0, 1) := by decide +kernel
theorem d4_5 : decode prog_54_method_2_code 5 = .ok (.getfield 7, 3) := by decide +kernel
theorem d4_8 : decode prog_54_method_2_code 8 = .ok (.lcmp, 1) := by decide +kernel
theorem d4_9 : decode prog_54_method_2_code 9 = .ok (.ifCond .gt 7, 3) := by decide +kernel
theorem d4_12 : decode prog_54_method_2_code 12 = .ok (.iconst 1, 1) := by decide +kernel
theorem d4_13 : decode prog_54_method_2_code 13 = .ok (.goto 4, 3) := by decide +kernel
theorem d4_16 : decode prog_54_method_2_code 16 = .ok (.iconst 0, 1) := by decide +kernel
theorem d4_17 : decode prog_54_method_2_code 17 = .ok (.ireturn, 1) := by decide +kernel
theorem ef_4 (m : MethodId) (a0 : Addr) : entryFrame m #[(.ref a0)] 1 = mkF m 0 #[.val (.ref a0)] [] := by first | (simp [entryFrame, mkF, argsToLocals, Value.category]; done) | rfl
def f4_0 (w0 : Int64) (w1 : Int64) : Int32 := (if (0 : Int32) < (lcmpW w1 w0) then (0 : Int32) else (1 : Int32))
def Q4 (Z : State) (a0 : Addr) (w0 : Int64) (w1 : Int64) (h0 : Heap) (n0 : Nat) (v : Option Value) (h : Heap) (L : List Loc) : Prop := v = some (.int (f4_0 w0 w1)) ∧ Fr n0 L ∧ h = h0
set_option maxRecDepth 65536 in
set_option maxHeartbeats 40000000 in
theorem rm4 (l : Launch) (Z : State) (aZ : Array Value) (hw : ∀ d ∈ tables_1, d.before aZ Z = true) (ws : List Jvm.Cond) (a0 : Addr) (w0 : Int64) (w1 : Int64) (h0 : Heap) (n0 : Nat) (Z0 : n0 ≤ h0.size) (F0 : Fld Z h0 a0 "com/example/hardy_queue/hardyqueue/store/FlushMark$Flush" "from" "J" (.long w0)) (F1 : Fld Z h0 a0 "com/example/hardy_queue/hardyqueue/store/FlushMark$Flush" "upTo" "J" (.long w1)) :
    MetFree l (⟨"com/example/hardy_queue/hardyqueue/store/FlushMark$Flush", "isEmpty", "()Z"⟩ : MethodName) (head1 (Jvm.Cond.code (⟨"com/example/hardy_queue/hardyqueue/store/FlushMark$Flush", "isEmpty", "()Z"⟩ : MethodName) prog_54_method_2_code 1 (some .boolean) :: ws) ({ frames := 0, cells := 0, slots := 0, locals := 0 } : Room)) (fun a U => a = #[(.ref a0)] ∧ Z.Warmed39 U.vm ∧ U.heap = h0) (fun _ _ _ _ _ => True) (fun _ U o U' => ∃ v L, o = .returned v ∧ Q4 Z a0 w0 w1 h0 n0 v U'.heap L ∧ FrameEnd U o U' L 0 0) := by
  refine MetFree.of_bodySF (plainFor_of_name pn_1) hisR ?_
  intro p e s m args below meth c s₁ Bd hml0 hP hK
  obtain ⟨rfl, hZ, hh⟩ := hP
  have hx := Bd.exec
  have hby := Bd.bytes
  have hml : c.maxLocals = 1 := hml0
  have hown : s.vm.findClass "com/example/hardy_queue/hardyqueue/store/FlushMark$Flush" = some m.cls := findClass_of_methodNamed Bd.named
  have hnm := (name_of_methodNamed Bd.named Bd.method).1
  have hlk := BodyLoose.notSynchronized Bd
  have X0 : Stand p l e ({ frames := 0, cells := 0, slots := 0, locals := 0 } : Room) s m #[(.ref a0)] below meth c s₁ [] 0 0 := Stand.of_body Bd
  have e0 : s₁.heap = h0 := by rw [← hh, Bd.state]; rfl
  have N0 := Fr.nil n0
  have hk0 : 0 ≤ 0 := Nat.zero_le _
  have hn0 : 0 ≤ 0 := Nat.zero_le _
  show OwnEnds p e below (OwnQ s (Q4 Z a0 w0 w1 h0 n0) 0 0) (s₁.setTop (entryFrame m #[(.ref a0)] 1))
  refine .pre (fun t k => castTop (ef_4 m a0) k) ?_
  have hF : f4_0 w0 w1 = f4_0 w0 w1 := rfl
  change (if (0 : Int32) < (lcmpW w1 w0) then (0 : Int32) else (1 : Int32)) = _ at hF
  show OwnEnds p e below _ (s₁.setTop (mkF m 0 #[.val (.ref a0)] []))
  refine .pre (fun _ k => XS.aloadN X0.here hx rfl (hb hby d4_0) rfl rfl k) ?_
  show OwnEnds p e below _ (s₁.setTop (mkF m 1 #[.val (.ref a0)] [(.ref a0)]))
  obtain ⟨T3, X3, e3, st3⟩ := getF X0 hx hZ hown (host := "") (Or.inl (hw _ (List.mem_of_getElem? (i := 16) rfl))) Via.refl e0 F1 (g := (mkF m 1 #[.val (.ref a0)] [(.ref a0)])) rfl rfl (hb hby d4_1)
  refine .pre (fun _ k => st3 _ k) ?_
  show OwnEnds p e below _ (T3.setTop (mkF m 4 #[.val (.ref a0)] [(.long w1)]))
  refine .pre (fun _ k => XS.aloadN X3.here hx rfl (hb hby d4_4) rfl rfl k) ?_
  show OwnEnds p e below _ (T3.setTop (mkF m 5 #[.val (.ref a0)] [(.ref a0), (.long w1)]))
  obtain ⟨T4, X4, e4, st4⟩ := getF X3 hx hZ hown (host := "") (Or.inl (hw _ (List.mem_of_getElem? (i := 14) rfl))) Via.refl e3 F0 (g := (mkF m 5 #[.val (.ref a0)] [(.ref a0), (.long w1)])) rfl rfl (hb hby d4_5)
  refine .pre (fun _ k => st4 _ k) ?_
  show OwnEnds p e below _ (T4.setTop (mkF m 8 #[.val (.ref a0)] [(.long w0), (.long w1)]))
  refine .pre (fun _ k => XS.lcmp X4.here hx rfl (hb hby d4_8) rfl k) ?_
  show OwnEnds p e below _ (T4.setTop (mkF m 9 #[.val (.ref a0)] [(.int (lcmpW w1 w0))]))
  by_cases hc9 : (0 : Int32) < (lcmpW w1 w0)
  · rw [if_pos hc9] at hF
    refine .pre (fun _ k => XS.ifYes X4.here hx rfl (pc0 := 9) (pc' := 16) rfl (hb hby d4_9) rfl ((if0 _ _).trans (tlt hc9).2.2.1) (by decide) (by decide) k) ?_
    show OwnEnds p e below _ (T4.setTop (mkF m 16 #[.val (.ref a0)] []))
    refine .pre (fun _ k => XS.iconst X4.here hx rfl (hb hby d4_16) k) ?_
    show OwnEnds p e below _ (T4.setTop (mkF m 17 #[.val (.ref a0)] [(.int (0 : Int32))]))
    exact own_endN X4 hx hlk (t := .boolean) Bd.returns (by simp) (hb hby d4_17) rfl hk0 hn0 ⟨congrArg (fun z => some (Value.int z)) hF, N0, e4⟩
  · rw [if_neg hc9] at hF
    refine .pre (fun _ k => XS.ifNo X4.here hx rfl (hb hby d4_9) rfl ((if0 _ _).trans (flt hc9).2.2.1) k) ?_
    show OwnEnds p e below _ (T4.setTop (mkF m 12 #[.val (.ref a0)] []))
    refine .pre (fun _ k => XS.iconst X4.here hx rfl (hb hby d4_12) k) ?_
    show OwnEnds p e below _ (T4.setTop (mkF m 13 #[.val (.ref a0)] [(.int (1 : Int32))]))
    refine .pre (fun _ k => XS.goto X4.here hx rfl (pc0 := 13) (pc' := 17) rfl (hb hby d4_13) (by decide) (by decide) k) ?_
    show OwnEnds p e below _ (T4.setTop (mkF m 17 #[.val (.ref a0)] [(.int (1 : Int32))]))
    exact own_endN X4 hx hlk (t := .boolean) Bd.returns (by simp) (hb hby d4_17) rfl hk0 hn0 ⟨congrArg (fun z => some (Value.int z)) hF, N0, e4⟩
theorem d5_0 : decode jdk_29_method_66_code 0 = .ok (.lload_n 0, 1) := by decide +kernel
theorem d5_1 : decode jdk_29_method_66_code 1 = .ok (.lload_n 2, 1) := by decide +kernel
theorem d5_2 : decode jdk_29_method_66_code 2 = .ok (.lcmp, 1) := by decide +kernel
theorem d5_3 : decode jdk_29_method_66_code 3 = .ok (.ifCond .lt 7, 3) := by decide +kernel
theorem d5_6 : decode jdk_29_method_66_code 6 = .ok (.lload_n 0, 1) := by decide +kernel
theorem d5_7 : decode jdk_29_method_66_code 7 = .ok (.goto 4, 3) := by decide +kernel
theorem d5_10 : decode jdk_29_method_66_code 10 = .ok (.lload_n 2, 1) := by decide +kernel
theorem d5_11 : decode jdk_29_method_66_code 11 = .ok (.lreturn, 1) := by decide +kernel
theorem ef_5 (m : MethodId) (q0 : Int64) (q1 : Int64) : entryFrame m #[(.long q0), (.long q1)] 4 = mkF m 0 #[.val (.long q0), .second, .val (.long q1), .second] [] := by first | (simp [entryFrame, mkF, argsToLocals, Value.category]; done) | rfl
def f5_0 (q0 : Int64) (q1 : Int64) : Int64 := (if (lcmpW q0 q1) < (0 : Int32) then q1 else q0)
def Q5 (Z : State) (q0 : Int64) (q1 : Int64) (h0 : Heap) (n0 : Nat) (v : Option Value) (h : Heap) (L : List Loc) : Prop := v = some (.long (f5_0 q0 q1)) ∧ Fr n0 L ∧ h = h0
set_option maxRecDepth 65536 in
set_option maxHeartbeats 40000000 in
theorem rm5 (l : Launch) (Z : State) (aZ : Array Value) (hw : ∀ d ∈ tables_1, d.before aZ Z = true) (ws : List Jvm.Cond) (q0 : Int64) (q1 : Int64) (h0 : Heap) (n0 : Nat) (Z0 : n0 ≤ h0.size) :
    MetFree l (⟨"java/lang/Math", "max", "(JJ)J"⟩ : MethodName) (head1 (Jvm.Cond.code (⟨"java/lang/Math", "max", "(JJ)J"⟩ : MethodName) jdk_29_method_66_code 4 (some .long) :: ws) ({ frames := 0, cells := 0, slots := 0, locals := 0 } : Room)) (fun a U => a = #[(.long q0), (.long q1)] ∧ Z.Warmed39 U.vm ∧ U.heap = h0) (fun _ _ _ _ _ => True) (fun _ U o U' => ∃ v L, o = .returned v ∧ Q5 Z q0 q1 h0 n0 v U'.heap L ∧ FrameEnd U o U' L 0 0) := by
  refine MetFree.of_bodySF (Jvm.Free.JP.mathPlain rfl (by decide +kernel)) hisR ?_
  intro p e s m args below meth c s₁ Bd hml0 hP hK
  obtain ⟨rfl, hZ, hh⟩ := hP
  have hx := Bd.exec
  have hby := Bd.bytes
  have hml : c.maxLocals = 4 := hml0
  have hown : s.vm.findClass "java/lang/Math" = some m.cls := findClass_of_methodNamed Bd.named
  have hnm := (name_of_methodNamed Bd.named Bd.method).1
  have hlk := BodyLoose.notSynchronized Bd
  have X0 : Stand p l e ({ frames := 0, cells := 0, slots := 0, locals := 0 } : Room) s m #[(.long q0), (.long q1)] below meth c s₁ [] 0 0 := Stand.of_body Bd
  have e0 : s₁.heap = h0 := by rw [← hh, Bd.state]; rfl
  have N0 := Fr.nil n0
  have hk0 : 0 ≤ 0 := Nat.zero_le _
  have hn0 : 0 ≤ 0 := Nat.zero_le _
  show OwnEnds p e below (OwnQ s (Q5 Z q0 q1 h0 n0) 0 0) (s₁.setTop (entryFrame m #[(.long q0), (.long q1)] 4))
  refine .pre (fun t k => castTop (ef_5 m q0 q1) k) ?_
  have hF : f5_0 q0 q1 = f5_0 q0 q1 := rfl
  change (if (lcmpW q0 q1) < (0 : Int32) then q1 else q0) = _ at hF
  show OwnEnds p e below _ (s₁.setTop (mkF m 0 #[.val (.long q0), .second, .val (.long q1), .second] []))
  refine .pre (fun _ k => XS.lloadN X0.here hx rfl (hb hby d5_0) rfl k) ?_
  show OwnEnds p e below _ (s₁.setTop (mkF m 1 #[.val (.long q0), .second, .val (.long q1), .second] [(.long q0)]))
  refine .pre (fun _ k => XS.lloadN X0.here hx rfl (hb hby d5_1) rfl k) ?_
  show OwnEnds p e below _ (s₁.setTop (mkF m 2 #[.val (.long q0), .second, .val (.long q1), .second] [(.long q1), (.long q0)]))
  refine .pre (fun _ k => XS.lcmp X0.here hx rfl (hb hby d5_2) rfl k) ?_
  show OwnEnds p e below _ (s₁.setTop (mkF m 3 #[.val (.long q0), .second, .val (.long q1), .second] [(.int (lcmpW q0 q1))]))
  by_cases hc3 : (lcmpW q0 q1) < (0 : Int32)
  · rw [if_pos hc3] at hF
    refine .pre (fun _ k => XS.ifYes X0.here hx rfl (pc0 := 3) (pc' := 10) rfl (hb hby d5_3) rfl ((if0 _ _).trans (tlt hc3).1) (by decide) (by decide) k) ?_
    show OwnEnds p e below _ (s₁.setTop (mkF m 10 #[.val (.long q0), .second, .val (.long q1), .second] []))
    refine .pre (fun _ k => XS.lloadN X0.here hx rfl (hb hby d5_10) rfl k) ?_
    show OwnEnds p e below _ (s₁.setTop (mkF m 11 #[.val (.long q0), .second, .val (.long q1), .second] [(.long q1)]))
    exact own_endJ X0 hx hlk Bd.returns (hb hby d5_11) hk0 hn0 ⟨congrArg (fun z => some (Value.long z)) hF, N0, e0⟩
  · rw [if_neg hc3] at hF
    refine .pre (fun _ k => XS.ifNo X0.here hx rfl (hb hby d5_3) rfl ((if0 _ _).trans (flt hc3).1) k) ?_
    show OwnEnds p e below _ (s₁.setTop (mkF m 6 #[.val (.long q0), .second, .val (.long q1), .second] []))
    refine .pre (fun _ k => XS.lloadN X0.here hx rfl (hb hby d5_6) rfl k) ?_
    show OwnEnds p e below _ (s₁.setTop (mkF m 7 #[.val (.long q0), .second, .val (.long q1), .second] [(.long q0)]))
    refine .pre (fun _ k => XS.goto X0.here hx rfl (pc0 := 7) (pc' := 11) rfl (hb hby d5_7) (by decide) (by decide) k) ?_
    show OwnEnds p e below _ (s₁.setTop (mkF m 11 #[.val (.long q0), .second, .val (.long q1), .second] [(.long q0)]))
    exact own_endJ X0 hx hlk Bd.returns (hb hby d5_11) hk0 hn0 ⟨congrArg (fun z => some (Value.long z)) hF, N0, e0⟩
theorem ef_0 (m : MethodId) (q0 : Int64) (q1 : Int64) (q2 : Int64) : entryFrame m #[(.long q0), (.long q1), (.long q2)] maxLocals = mkF m 0 #[.val (.long q0), .second, .val (.long q1), .second, .val (.long q2), .second, .unset, .unset, .unset, .unset, .unset, .unset, .unset, .unset] [] := by first | (simp [entryFrame, mkF, argsToLocals, Value.category, maxLocals]; done) | rfl
theorem pn_3 : plainName "com/example/hardy_queue/hardyqueue/store/FlushIsEmptyPinLaw" = true := by first | (simp [plainName, overriddenIn]; done) | decide +kernel
theorem pd_4 : parseMethodDescriptor "(JJJ)V" = some ⟨[.long, .long, .long], none⟩ := by decide +kernel
theorem pd_5 : parseMethodDescriptor "()Z" = some ⟨[], some .boolean⟩ := by decide +kernel
theorem pd_6 : parseMethodDescriptor "(JJ)J" = some ⟨[.long, .long], some .long⟩ := by decide +kernel
def f0_119 (q0 : Int64) (q1 : Int64) (q2 : Int64) (i9 : Int32) (i11 : Int32) (i12 : Int32) (i13 : Int32) : Int32 := (if i9 = i12 then (if i13 = (0 : Int32) then (0 : Int32) else (if i11 = (0 : Int32) then (0 : Int32) else (1 : Int32))) else (0 : Int32))
def f0_100 (q0 : Int64) (q1 : Int64) (q2 : Int64) (i9 : Int32) (i11 : Int32) (i12 : Int32) (t0 : Int32) : Int32 := (f0_119 q0 q1 q2 i9 i11 i12 t0)
def f0_99 (q0 : Int64) (q1 : Int64) (q2 : Int64) (i9 : Int32) (i11 : Int32) (i12 : Int32) : Int32 := (f0_100 q0 q1 q2 i9 i11 i12 (0 : Int32))
def f0_117 (q0 : Int64) (q1 : Int64) (q2 : Int64) (i9 : Int32) (i11 : Int32) (i12 : Int32) (t0 : Int32) : Int32 := (f0_119 q0 q1 q2 i9 i11 i12 t0)
def f0_77 (q0 : Int64) (q1 : Int64) (q2 : Int64) (j0 : Int64) (j2 : Int64) (i9 : Int32) (i10 : Int32) (i11 : Int32) (t0 : Int32) : Int32 := (if (lcmpW j0 j2) = (0 : Int32) then (if i9 = (0 : Int32) then (f0_99 q0 q1 q2 i9 i11 t0) else (if i10 = (0 : Int32) then (f0_99 q0 q1 q2 i9 i11 t0) else (f0_100 q0 q1 q2 i9 i11 t0 (1 : Int32)))) else (if i9 = i10 then (f0_117 q0 q1 q2 i9 i11 t0 (0 : Int32)) else (f0_117 q0 q1 q2 i9 i11 t0 (1 : Int32))))
def f0_41 (q0 : Int64) (q1 : Int64) (q2 : Int64) (j0 : Int64) (j2 : Int64) : Int32 := (if (lcmpW (f5_0 j0 j2) j0) = (0 : Int32) then (f0_77 q0 q1 q2 j0 j2 (f4_0 q0 q1) (f4_0 q1 q0) (f4_0 q0 q0) (1 : Int32)) else (f0_77 q0 q1 q2 j0 j2 (f4_0 q0 q1) (f4_0 q1 q0) (f4_0 q0 q0) (0 : Int32)))
def Q0 (Z : State) (q0 : Int64) (q1 : Int64) (q2 : Int64) (h0 : Heap) (n0 : Nat) (v : Option Value) (h : Heap) (L : List Loc) : Prop := v = some (.int (f0_41 q0 q1 q2 q0 q1)) ∧ Fr n0 L ∧ True
set_option maxRecDepth 65536 in
set_option maxHeartbeats 40000000 in
theorem rm0 (l : Launch) (Z : State) (aZ : Array Value) (hw : ∀ d ∈ tables_1, d.before aZ Z = true) (ws : List Jvm.Cond) (q0 : Int64) (q1 : Int64) (q2 : Int64) (h0 : Heap) (n0 : Nat) (Z0 : n0 ≤ h0.size) :
    MetFree l x (head1 (Jvm.Cond.code x code maxLocals ret :: ws) room_1) (fun a U => a = #[(.long q0), (.long q1), (.long q2)] ∧ Z.Warmed39 U.vm ∧ U.heap = h0) (fun _ _ _ _ _ => True) (fun _ U o U' => ∃ v L, o = .returned v ∧ Q0 Z q0 q1 q2 h0 n0 v U'.heap L ∧ FrameEnd U o U' L 16 128) := by
  refine MetFree.of_bodySF (plainFor_of_name pn_3) hisR ?_
  intro p e s m args below meth c s₁ Bd hml0 hP hK
  obtain ⟨rfl, hZ, hh⟩ := hP
  have hx := Bd.exec
  have hby := Bd.bytes
  have hml : c.maxLocals = 14 := hml0
  have hown : s.vm.findClass "com/example/hardy_queue/hardyqueue/store/FlushIsEmptyPinLaw" = some m.cls := findClass_of_methodNamed Bd.named
  have hnm := (name_of_methodNamed Bd.named Bd.method).1
  have hlk := BodyLoose.notSynchronized Bd
  have X0 : Stand p l e room_1 s m #[(.long q0), (.long q1), (.long q2)] below meth c s₁ [] 0 0 := Stand.of_body Bd
  have e0 : s₁.heap = h0 := by rw [← hh, Bd.state]; rfl
  have N0 := Fr.nil n0
  have hk0 : 0 ≤ 16 := Nat.zero_le _
  have hn0 : 0 ≤ 128 := Nat.zero_le _
  show OwnEnds p e below (OwnQ s (Q0 Z q0 q1 q2 h0 n0) 16 128) (s₁.setTop (entryFrame m #[(.long q0), (.long q1), (.long q2)] maxLocals))
  refine .pre (fun t k => castTop (ef_0 m q0 q1 q2) k) ?_
  show OwnEnds p e below _ (s₁.setTop (mkF m 0 #[.val (.long q0), .second, .val (.long q1), .second, .val (.long q2), .second, .unset, .unset, .unset, .unset, .unset, .unset, .unset, .unset] []))
  obtain ⟨T1, h1, X1, e1, E1, A1, D1, -, st1⟩ := newO X0 hx hZ hown (hw _ (List.mem_of_getElem? (i := 0) rfl)) (hw _ (List.mem_of_getElem? (i := 1) rfl)) (hw _ (List.mem_of_getElem? (i := 2) rfl)) e0 (g := (mkF m 0 #[.val (.long q0), .second, .val (.long q1), .second, .val (.long q2), .second, .unset, .unset, .unset, .unset, .unset, .unset, .unset, .unset] [])) rfl (hb hby at_0) (by decide) (by decide)
  obtain ⟨b1, g1⟩ : ∃ z, z = h0.size := ⟨_, rfl⟩
  rw [← g1] at A1 D1 st1
  have g_b1 : n0 ≤ b1 := Nat.le_trans Z0 (Nat.le_of_eq g1.symm)
  have F1_from : Fld Z h1 b1 "com/example/hardy_queue/hardyqueue/store/FlushMark$Flush" "from" "J" (.long (0 : Int64)) := D1 (Or.inr (hw _ (List.mem_of_getElem? (i := 15) rfl))) (ty := .long) (by decide)
  have F1_upTo : Fld Z h1 b1 "com/example/hardy_queue/hardyqueue/store/FlushMark$Flush" "upTo" "J" (.long (0 : Int64)) := D1 (Or.inr (hw _ (List.mem_of_getElem? (i := 17) rfl))) (ty := .long) (by decide)
  have F1_cuts : Fld Z h1 b1 "com/example/hardy_queue/hardyqueue/store/FlushMark$Flush" "cuts" "J" (.long (0 : Int64)) := D1 (Or.inr (hw _ (List.mem_of_getElem? (i := 19) rfl))) (ty := .long) (by decide)
  refine .pre (fun _ k => st1 _ k) ?_
  show OwnEnds p e below _ (T1.setTop (mkF m 3 #[.val (.long q0), .second, .val (.long q1), .second, .val (.long q2), .second, .unset, .unset, .unset, .unset, .unset, .unset, .unset, .unset] [(.ref b1)]))
  refine .pre (fun _ k => XS.dup X1.here hx rfl (hb hby at_3) rfl rfl k) ?_
  show OwnEnds p e below _ (T1.setTop (mkF m 4 #[.val (.long q0), .second, .val (.long q1), .second, .val (.long q2), .second, .unset, .unset, .unset, .unset, .unset, .unset, .unset, .unset] [(.ref b1), (.ref b1)]))
  refine .pre (fun _ k => XS.lloadN X1.here hx rfl (hb hby at_4) rfl k) ?_
  show OwnEnds p e below _ (T1.setTop (mkF m 5 #[.val (.long q0), .second, .val (.long q1), .second, .val (.long q2), .second, .unset, .unset, .unset, .unset, .unset, .unset, .unset, .unset] [(.long q0), (.ref b1), (.ref b1)]))
  refine .pre (fun _ k => XS.lloadN X1.here hx rfl (hb hby at_5) rfl k) ?_
  show OwnEnds p e below _ (T1.setTop (mkF m 6 #[.val (.long q0), .second, .val (.long q1), .second, .val (.long q2), .second, .unset, .unset, .unset, .unset, .unset, .unset, .unset, .unset] [(.long q1), (.long q0), (.ref b1), (.ref b1)]))
  refine .pre (fun _ k => XS.lload X1.here hx rfl (hb hby at_6) rfl k) ?_
  show OwnEnds p e below _ (T1.setTop (mkF m 8 #[.val (.long q0), .second, .val (.long q1), .second, .val (.long q2), .second, .unset, .unset, .unset, .unset, .unset, .unset, .unset, .unset] [(.long q2), (.long q1), (.long q0), (.ref b1), (.ref b1)]))
  obtain ⟨_, _, ⟨T2, L2, k2, n2⟩, -, X2, ⟨Lc2, hQ2, l2, y2, z2⟩, st2⟩ := X1.specialBack hx (y := (⟨"com/example/hardy_queue/hardyqueue/store/FlushMark$Flush", "<init>", "(JJJ)V"⟩ : MethodName)) rfl hown (mvT hZ (hw _ (List.mem_of_getElem? (i := 3) rfl))) (mvT hZ (hw _ (List.mem_of_getElem? (i := 4) rfl))) (mvT hZ (hw _ (List.mem_of_getElem? (i := 5) rfl))) (by decide) (backOf (W := 1) (rm1 l Z aZ hw [] b1 q0 q1 q2 (.long (0 : Int64)) (.long (0 : Int64)) (.long (0 : Int64)) h1 n0 (Nat.le_trans Z0 E1.1) g_b1 A1 F1_from F1_upTo F1_cuts) hZ (hw _ (List.mem_of_getElem? (i := 5) rfl)) (hw _ (List.mem_of_getElem? (i := 2) rfl)) (by decide) (by decide)) (g := (mkF m 8 #[.val (.long q0), .second, .val (.long q1), .second, .val (.long q2), .second, .unset, .unset, .unset, .unset, .unset, .unset, .unset, .unset] [(.long q2), (.long q1), (.long q0), (.ref b1), (.ref b1)])) rfl (by rw [hml]; rfl) (Steps.refl _) (a := b1) (argsL := [(.long q0), (.long q1), (.long q2)]) (rest := [(.ref b1)]) (lenOf pd_4 rfl) rfl (by show 2 * 0 + _ ≤ _; exact Nat.le_of_eq rfl) (hb hby at_8) (fun _ _ => ⟨rfl, e1, (by decide : 1 + 0 ≤ _), (by decide : 3 + 0 ≤ _)⟩)
  dsimp only [Pt.U, Pt.locs, Pt.cells, Pt.slots] at X2 l2 y2 z2 st2 hQ2
  subst l2 y2 z2
  obtain ⟨rfl, N2q, K2, Ea2, Fa2_0, Fa2_1, Fa2_2⟩ := hQ2
  have N2 := Fr.app N0 N2q
  refine .pre (fun _ k => st2.trans k) ?_
  show OwnEnds p e below _ (T2.setTop (mkF m 11 #[.val (.long q0), .second, .val (.long q1), .second, .val (.long q2), .second, .unset, .unset, .unset, .unset, .unset, .unset, .unset, .unset] [(.ref b1)]))
  refine .pre (fun _ k => XS.astore X2.here hx rfl (hb hby at_11) rfl rfl (l' := #[.val (.long q0), .second, .val (.long q1), .second, .val (.long q2), .second, .val (.ref b1), .unset, .unset, .unset, .unset, .unset, .unset, .unset]) rfl k) ?_
  show OwnEnds p e below _ (T2.setTop (mkF m 13 #[.val (.long q0), .second, .val (.long q1), .second, .val (.long q2), .second, .val (.ref b1), .unset, .unset, .unset, .unset, .unset, .unset, .unset] []))
  obtain ⟨T3, h3, X3, e3, E3, A3, D3, -, st3⟩ := newO X2 hx hZ hown (hw _ (List.mem_of_getElem? (i := 0) rfl)) (hw _ (List.mem_of_getElem? (i := 1) rfl)) (hw _ (List.mem_of_getElem? (i := 2) rfl)) rfl (g := (mkF m 13 #[.val (.long q0), .second, .val (.long q1), .second, .val (.long q2), .second, .val (.ref b1), .unset, .unset, .unset, .unset, .unset, .unset, .unset] [])) rfl (hb hby at_13) (by decide) (by decide)
  obtain ⟨b3, g3⟩ : ∃ z, z = T2.heap.size := ⟨_, rfl⟩
  rw [← g3] at A3 D3 st3
  have g_b3 : n0 ≤ b3 := Nat.le_trans (Nat.le_trans (Nat.le_trans Z0 E1.1) K2.1) (Nat.le_of_eq g3.symm)
  have F3_from : Fld Z h3 b3 "com/example/hardy_queue/hardyqueue/store/FlushMark$Flush" "from" "J" (.long (0 : Int64)) := D3 (Or.inr (hw _ (List.mem_of_getElem? (i := 15) rfl))) (ty := .long) (by decide)
  have F3_upTo : Fld Z h3 b3 "com/example/hardy_queue/hardyqueue/store/FlushMark$Flush" "upTo" "J" (.long (0 : Int64)) := D3 (Or.inr (hw _ (List.mem_of_getElem? (i := 17) rfl))) (ty := .long) (by decide)
  have F3_cuts : Fld Z h3 b3 "com/example/hardy_queue/hardyqueue/store/FlushMark$Flush" "cuts" "J" (.long (0 : Int64)) := D3 (Or.inr (hw _ (List.mem_of_getElem? (i := 19) rfl))) (ty := .long) (by decide)
  refine .pre (fun _ k => st3 _ k) ?_
  show OwnEnds p e below _ (T3.setTop (mkF m 16 #[.val (.long q0), .second, .val (.long q1), .second, .val (.long q2), .second, .val (.ref b1), .unset, .unset, .unset, .unset, .unset, .unset, .unset] [(.ref b3)]))
  refine .pre (fun _ k => XS.dup X3.here hx rfl (hb hby at_16) rfl rfl k) ?_
  show OwnEnds p e below _ (T3.setTop (mkF m 17 #[.val (.long q0), .second, .val (.long q1), .second, .val (.long q2), .second, .val (.ref b1), .unset, .unset, .unset, .unset, .unset, .unset, .unset] [(.ref b3), (.ref b3)]))
  refine .pre (fun _ k => XS.lloadN X3.here hx rfl (hb hby at_17) rfl k) ?_
  show OwnEnds p e below _ (T3.setTop (mkF m 18 #[.val (.long q0), .second, .val (.long q1), .second, .val (.long q2), .second, .val (.ref b1), .unset, .unset, .unset, .unset, .unset, .unset, .unset] [(.long q1), (.ref b3), (.ref b3)]))
  refine .pre (fun _ k => XS.lloadN X3.here hx rfl (hb hby at_18) rfl k) ?_
  show OwnEnds p e below _ (T3.setTop (mkF m 19 #[.val (.long q0), .second, .val (.long q1), .second, .val (.long q2), .second, .val (.ref b1), .unset, .unset, .unset, .unset, .unset, .unset, .unset] [(.long q0), (.long q1), (.ref b3), (.ref b3)]))
  refine .pre (fun _ k => XS.lload X3.here hx rfl (hb hby at_19) rfl k) ?_
  show OwnEnds p e below _ (T3.setTop (mkF m 21 #[.val (.long q0), .second, .val (.long q1), .second, .val (.long q2), .second, .val (.ref b1), .unset, .unset, .unset, .unset, .unset, .unset, .unset] [(.long q2), (.long q0), (.long q1), (.ref b3), (.ref b3)]))
  refine .pre (fun _ k => XS.lconst X3.here hx rfl (hb hby at_21) k) ?_
  show OwnEnds p e below _ (T3.setTop (mkF m 22 #[.val (.long q0), .second, .val (.long q1), .second, .val (.long q2), .second, .val (.ref b1), .unset, .unset, .unset, .unset, .unset, .unset, .unset] [(.long (1 : Int64)), (.long q2), (.long q0), (.long q1), (.ref b3), (.ref b3)]))
  refine .pre (fun _ k => XS.lxor X3.here hx rfl (hb hby at_22) rfl k) ?_
  show OwnEnds p e below _ (T3.setTop (mkF m 23 #[.val (.long q0), .second, .val (.long q1), .second, .val (.long q2), .second, .val (.ref b1), .unset, .unset, .unset, .unset, .unset, .unset, .unset] [(.long (q2 ^^^ (1 : Int64))), (.long q0), (.long q1), (.ref b3), (.ref b3)]))
  obtain ⟨_, _, ⟨T4, L4, k4, n4⟩, -, X4, ⟨Lc4, hQ4, l4, y4, z4⟩, st4⟩ := X3.specialBack hx (y := (⟨"com/example/hardy_queue/hardyqueue/store/FlushMark$Flush", "<init>", "(JJJ)V"⟩ : MethodName)) rfl hown (mvT hZ (hw _ (List.mem_of_getElem? (i := 3) rfl))) (mvT hZ (hw _ (List.mem_of_getElem? (i := 4) rfl))) (mvT hZ (hw _ (List.mem_of_getElem? (i := 5) rfl))) (by decide) (backOf (W := 1) (rm1 l Z aZ hw [] b3 q1 q0 (q2 ^^^ (1 : Int64)) (.long (0 : Int64)) (.long (0 : Int64)) (.long (0 : Int64)) h3 n0 (Nat.le_trans (Nat.le_trans (Nat.le_trans Z0 E1.1) K2.1) E3.1) g_b3 A3 F3_from F3_upTo F3_cuts) hZ (hw _ (List.mem_of_getElem? (i := 5) rfl)) (hw _ (List.mem_of_getElem? (i := 2) rfl)) (by decide) (by decide)) (g := (mkF m 23 #[.val (.long q0), .second, .val (.long q1), .second, .val (.long q2), .second, .val (.ref b1), .unset, .unset, .unset, .unset, .unset, .unset, .unset] [(.long (q2 ^^^ (1 : Int64))), (.long q0), (.long q1), (.ref b3), (.ref b3)])) rfl (by rw [hml]; rfl) (Steps.refl _) (a := b3) (argsL := [(.long q1), (.long q0), (.long (q2 ^^^ (1 : Int64)))]) (rest := [(.ref b3)]) (lenOf pd_4 rfl) rfl (by show 2 * 0 + _ ≤ _; exact Nat.le_of_eq rfl) (hb hby at_23) (fun _ _ => ⟨rfl, e3, (by decide : 2 + 0 ≤ _), (by decide : 6 + 0 ≤ _)⟩)
  dsimp only [Pt.U, Pt.locs, Pt.cells, Pt.slots] at X4 l4 y4 z4 st4 hQ4
  subst l4 y4 z4
  obtain ⟨rfl, N4q, K4, Ea4, Fa4_0, Fa4_1, Fa4_2⟩ := hQ4
  have N4 := Fr.app N2 N4q
  refine .pre (fun _ k => st4.trans k) ?_
  show OwnEnds p e below _ (T4.setTop (mkF m 26 #[.val (.long q0), .second, .val (.long q1), .second, .val (.long q2), .second, .val (.ref b1), .unset, .unset, .unset, .unset, .unset, .unset, .unset] [(.ref b3)]))
  refine .pre (fun _ k => XS.astore X4.here hx rfl (hb hby at_26) rfl rfl (l' := #[.val (.long q0), .second, .val (.long q1), .second, .val (.long q2), .second, .val (.ref b1), .val (.ref b3), .unset, .unset, .unset, .unset, .unset, .unset]) rfl k) ?_
  show OwnEnds p e below _ (T4.setTop (mkF m 28 #[.val (.long q0), .second, .val (.long q1), .second, .val (.long q2), .second, .val (.ref b1), .val (.ref b3), .unset, .unset, .unset, .unset, .unset, .unset] []))
  obtain ⟨T5, h5, X5, e5, E5, A5, D5, -, st5⟩ := newO X4 hx hZ hown (hw _ (List.mem_of_getElem? (i := 0) rfl)) (hw _ (List.mem_of_getElem? (i := 1) rfl)) (hw _ (List.mem_of_getElem? (i := 2) rfl)) rfl (g := (mkF m 28 #[.val (.long q0), .second, .val (.long q1), .second, .val (.long q2), .second, .val (.ref b1), .val (.ref b3), .unset, .unset, .unset, .unset, .unset, .unset] [])) rfl (hb hby at_28) (by decide) (by decide)
  obtain ⟨b5, g5⟩ : ∃ z, z = T4.heap.size := ⟨_, rfl⟩
  rw [← g5] at A5 D5 st5
  have g_b5 : n0 ≤ b5 := Nat.le_trans (Nat.le_trans (Nat.le_trans (Nat.le_trans (Nat.le_trans Z0 E1.1) K2.1) E3.1) K4.1) (Nat.le_of_eq g5.symm)
  have F5_from : Fld Z h5 b5 "com/example/hardy_queue/hardyqueue/store/FlushMark$Flush" "from" "J" (.long (0 : Int64)) := D5 (Or.inr (hw _ (List.mem_of_getElem? (i := 15) rfl))) (ty := .long) (by decide)
  have F5_upTo : Fld Z h5 b5 "com/example/hardy_queue/hardyqueue/store/FlushMark$Flush" "upTo" "J" (.long (0 : Int64)) := D5 (Or.inr (hw _ (List.mem_of_getElem? (i := 17) rfl))) (ty := .long) (by decide)
  have F5_cuts : Fld Z h5 b5 "com/example/hardy_queue/hardyqueue/store/FlushMark$Flush" "cuts" "J" (.long (0 : Int64)) := D5 (Or.inr (hw _ (List.mem_of_getElem? (i := 19) rfl))) (ty := .long) (by decide)
  refine .pre (fun _ k => st5 _ k) ?_
  show OwnEnds p e below _ (T5.setTop (mkF m 31 #[.val (.long q0), .second, .val (.long q1), .second, .val (.long q2), .second, .val (.ref b1), .val (.ref b3), .unset, .unset, .unset, .unset, .unset, .unset] [(.ref b5)]))
  refine .pre (fun _ k => XS.dup X5.here hx rfl (hb hby at_31) rfl rfl k) ?_
  show OwnEnds p e below _ (T5.setTop (mkF m 32 #[.val (.long q0), .second, .val (.long q1), .second, .val (.long q2), .second, .val (.ref b1), .val (.ref b3), .unset, .unset, .unset, .unset, .unset, .unset] [(.ref b5), (.ref b5)]))
  refine .pre (fun _ k => XS.lloadN X5.here hx rfl (hb hby at_32) rfl k) ?_
  show OwnEnds p e below _ (T5.setTop (mkF m 33 #[.val (.long q0), .second, .val (.long q1), .second, .val (.long q2), .second, .val (.ref b1), .val (.ref b3), .unset, .unset, .unset, .unset, .unset, .unset] [(.long q0), (.ref b5), (.ref b5)]))
  refine .pre (fun _ k => XS.lloadN X5.here hx rfl (hb hby at_33) rfl k) ?_
  show OwnEnds p e below _ (T5.setTop (mkF m 34 #[.val (.long q0), .second, .val (.long q1), .second, .val (.long q2), .second, .val (.ref b1), .val (.ref b3), .unset, .unset, .unset, .unset, .unset, .unset] [(.long q0), (.long q0), (.ref b5), (.ref b5)]))
  refine .pre (fun _ k => XS.lload X5.here hx rfl (hb hby at_34) rfl k) ?_
  show OwnEnds p e below _ (T5.setTop (mkF m 36 #[.val (.long q0), .second, .val (.long q1), .second, .val (.long q2), .second, .val (.ref b1), .val (.ref b3), .unset, .unset, .unset, .unset, .unset, .unset] [(.long q2), (.long q0), (.long q0), (.ref b5), (.ref b5)]))
  obtain ⟨_, _, ⟨T6, L6, k6, n6⟩, -, X6, ⟨Lc6, hQ6, l6, y6, z6⟩, st6⟩ := X5.specialBack hx (y := (⟨"com/example/hardy_queue/hardyqueue/store/FlushMark$Flush", "<init>", "(JJJ)V"⟩ : MethodName)) rfl hown (mvT hZ (hw _ (List.mem_of_getElem? (i := 3) rfl))) (mvT hZ (hw _ (List.mem_of_getElem? (i := 4) rfl))) (mvT hZ (hw _ (List.mem_of_getElem? (i := 5) rfl))) (by decide) (backOf (W := 1) (rm1 l Z aZ hw [] b5 q0 q0 q2 (.long (0 : Int64)) (.long (0 : Int64)) (.long (0 : Int64)) h5 n0 (Nat.le_trans (Nat.le_trans (Nat.le_trans (Nat.le_trans (Nat.le_trans Z0 E1.1) K2.1) E3.1) K4.1) E5.1) g_b5 A5 F5_from F5_upTo F5_cuts) hZ (hw _ (List.mem_of_getElem? (i := 5) rfl)) (hw _ (List.mem_of_getElem? (i := 2) rfl)) (by decide) (by decide)) (g := (mkF m 36 #[.val (.long q0), .second, .val (.long q1), .second, .val (.long q2), .second, .val (.ref b1), .val (.ref b3), .unset, .unset, .unset, .unset, .unset, .unset] [(.long q2), (.long q0), (.long q0), (.ref b5), (.ref b5)])) rfl (by rw [hml]; rfl) (Steps.refl _) (a := b5) (argsL := [(.long q0), (.long q0), (.long q2)]) (rest := [(.ref b5)]) (lenOf pd_4 rfl) rfl (by show 2 * 0 + _ ≤ _; exact Nat.le_of_eq rfl) (hb hby at_36) (fun _ _ => ⟨rfl, e5, (by decide : 3 + 0 ≤ _), (by decide : 9 + 0 ≤ _)⟩)
  dsimp only [Pt.U, Pt.locs, Pt.cells, Pt.slots] at X6 l6 y6 z6 st6 hQ6
  subst l6 y6 z6
  obtain ⟨rfl, N6q, K6, Ea6, Fa6_0, Fa6_1, Fa6_2⟩ := hQ6
  have N6 := Fr.app N4 N6q
  refine .pre (fun _ k => st6.trans k) ?_
  show OwnEnds p e below _ (T6.setTop (mkF m 39 #[.val (.long q0), .second, .val (.long q1), .second, .val (.long q2), .second, .val (.ref b1), .val (.ref b3), .unset, .unset, .unset, .unset, .unset, .unset] [(.ref b5)]))
  refine .pre (fun _ k => XS.astore X6.here hx rfl (hb hby at_39) rfl rfl (l' := #[.val (.long q0), .second, .val (.long q1), .second, .val (.long q2), .second, .val (.ref b1), .val (.ref b3), .val (.ref b5), .unset, .unset, .unset, .unset, .unset]) rfl k) ?_
  have B119 : ∀ (T : State) (L : List Loc) (k n : Nat) (X : Stand p l e room_1 s m #[(.long q0), (.long q1), (.long q2)] below meth c T L k n) (eT : T.heap = T6.heap) (N : Fr n0 L) (hk : k ≤ 16) (hn : n ≤ 128) (j0 : Int64) (j2 : Int64) (j4 : Int64) (i9 : Int32) (i10 : Int32) (i11 : Int32) (i12 : Int32) (i13 : Int32), f0_119 q0 q1 q2 i9 i11 i12 i13 = f0_41 q0 q1 q2 q0 q1 → OwnEnds p e below (OwnQ s (Q0 Z q0 q1 q2 h0 n0) 16 128) (T.setTop (mkF m 119 #[.val (.long j0), .second, .val (.long j2), .second, .val (.long j4), .second, .val (.ref b1), .val (.ref b3), .val (.ref b5), .val (.int i9), .val (.int i10), .val (.int i11), .val (.int i12), .val (.int i13)] [])) := by
    intro T L k n X eT N hk hn j0 j2 j4 i9 i10 i11 i12 i13 hF
    change (if i9 = i12 then (if i13 = (0 : Int32) then (0 : Int32) else (if i11 = (0 : Int32) then (0 : Int32) else (1 : Int32))) else (0 : Int32)) = _ at hF
    show OwnEnds p e below _ (T.setTop (mkF m 119 #[.val (.long j0), .second, .val (.long j2), .second, .val (.long j4), .second, .val (.ref b1), .val (.ref b3), .val (.ref b5), .val (.int i9), .val (.int i10), .val (.int i11), .val (.int i12), .val (.int i13)] []))
    refine .pre (fun _ k => XS.iload X.here hx rfl (hb hby at_119) rfl k) ?_
    show OwnEnds p e below _ (T.setTop (mkF m 121 #[.val (.long j0), .second, .val (.long j2), .second, .val (.long j4), .second, .val (.ref b1), .val (.ref b3), .val (.ref b5), .val (.int i9), .val (.int i10), .val (.int i11), .val (.int i12), .val (.int i13)] [(.int i9)]))
    refine .pre (fun _ k => XS.iload X.here hx rfl (hb hby at_121) rfl k) ?_
    show OwnEnds p e below _ (T.setTop (mkF m 123 #[.val (.long j0), .second, .val (.long j2), .second, .val (.long j4), .second, .val (.ref b1), .val (.ref b3), .val (.ref b5), .val (.int i9), .val (.int i10), .val (.int i11), .val (.int i12), .val (.int i13)] [(.int i12), (.int i9)]))
    by_cases hc123 : i9 = i12
    · rw [if_pos hc123] at hF
      refine .pre (fun _ k => XS.icmpNo X.here hx rfl (hb hby at_123) rfl (teq hc123).2 k) ?_
      show OwnEnds p e below _ (T.setTop (mkF m 126 #[.val (.long j0), .second, .val (.long j2), .second, .val (.long j4), .second, .val (.ref b1), .val (.ref b3), .val (.ref b5), .val (.int i9), .val (.int i10), .val (.int i11), .val (.int i12), .val (.int i13)] []))
      refine .pre (fun _ k => XS.iload X.here hx rfl (hb hby at_126) rfl k) ?_
      show OwnEnds p e below _ (T.setTop (mkF m 128 #[.val (.long j0), .second, .val (.long j2), .second, .val (.long j4), .second, .val (.ref b1), .val (.ref b3), .val (.ref b5), .val (.int i9), .val (.int i10), .val (.int i11), .val (.int i12), .val (.int i13)] [(.int i13)]))
      by_cases hc128 : i13 = (0 : Int32)
      · rw [if_pos hc128] at hF
        refine .pre (fun _ k => XS.ifYes X.here hx rfl (pc0 := 128) (pc' := 140) rfl (hb hby at_128) rfl ((if0 _ _).trans (teq hc128).1) (by decide) (by decide) k) ?_
        show OwnEnds p e below _ (T.setTop (mkF m 140 #[.val (.long j0), .second, .val (.long j2), .second, .val (.long j4), .second, .val (.ref b1), .val (.ref b3), .val (.ref b5), .val (.int i9), .val (.int i10), .val (.int i11), .val (.int i12), .val (.int i13)] []))
        refine .pre (fun _ k => XS.iconst X.here hx rfl (hb hby at_140) k) ?_
        show OwnEnds p e below _ (T.setTop (mkF m 141 #[.val (.long j0), .second, .val (.long j2), .second, .val (.long j4), .second, .val (.ref b1), .val (.ref b3), .val (.ref b5), .val (.int i9), .val (.int i10), .val (.int i11), .val (.int i12), .val (.int i13)] [(.int (0 : Int32))]))
        exact own_endN X hx hlk (t := .boolean) Bd.returns (by simp) (hb hby at_141) rfl hk hn ⟨congrArg (fun z => some (Value.int z)) hF, N, trivial⟩
      · rw [if_neg hc128] at hF
        refine .pre (fun _ k => XS.ifNo X.here hx rfl (hb hby at_128) rfl ((if0 _ _).trans (feq hc128).1) k) ?_
        show OwnEnds p e below _ (T.setTop (mkF m 131 #[.val (.long j0), .second, .val (.long j2), .second, .val (.long j4), .second, .val (.ref b1), .val (.ref b3), .val (.ref b5), .val (.int i9), .val (.int i10), .val (.int i11), .val (.int i12), .val (.int i13)] []))
        refine .pre (fun _ k => XS.iload X.here hx rfl (hb hby at_131) rfl k) ?_
        show OwnEnds p e below _ (T.setTop (mkF m 133 #[.val (.long j0), .second, .val (.long j2), .second, .val (.long j4), .second, .val (.ref b1), .val (.ref b3), .val (.ref b5), .val (.int i9), .val (.int i10), .val (.int i11), .val (.int i12), .val (.int i13)] [(.int i11)]))
        by_cases hc133 : i11 = (0 : Int32)
        · rw [if_pos hc133] at hF
          refine .pre (fun _ k => XS.ifYes X.here hx rfl (pc0 := 133) (pc' := 140) rfl (hb hby at_133) rfl ((if0 _ _).trans (teq hc133).1) (by decide) (by decide) k) ?_
          show OwnEnds p e below _ (T.setTop (mkF m 140 #[.val (.long j0), .second, .val (.long j2), .second, .val (.long j4), .second, .val (.ref b1), .val (.ref b3), .val (.ref b5), .val (.int i9), .val (.int i10), .val (.int i11), .val (.int i12), .val (.int i13)] []))
          refine .pre (fun _ k => XS.iconst X.here hx rfl (hb hby at_140) k) ?_
          show OwnEnds p e below _ (T.setTop (mkF m 141 #[.val (.long j0), .second, .val (.long j2), .second, .val (.long j4), .second, .val (.ref b1), .val (.ref b3), .val (.ref b5), .val (.int i9), .val (.int i10), .val (.int i11), .val (.int i12), .val (.int i13)] [(.int (0 : Int32))]))
          exact own_endN X hx hlk (t := .boolean) Bd.returns (by simp) (hb hby at_141) rfl hk hn ⟨congrArg (fun z => some (Value.int z)) hF, N, trivial⟩
        · rw [if_neg hc133] at hF
          refine .pre (fun _ k => XS.ifNo X.here hx rfl (hb hby at_133) rfl ((if0 _ _).trans (feq hc133).1) k) ?_
          show OwnEnds p e below _ (T.setTop (mkF m 136 #[.val (.long j0), .second, .val (.long j2), .second, .val (.long j4), .second, .val (.ref b1), .val (.ref b3), .val (.ref b5), .val (.int i9), .val (.int i10), .val (.int i11), .val (.int i12), .val (.int i13)] []))
          refine .pre (fun _ k => XS.iconst X.here hx rfl (hb hby at_136) k) ?_
          show OwnEnds p e below _ (T.setTop (mkF m 137 #[.val (.long j0), .second, .val (.long j2), .second, .val (.long j4), .second, .val (.ref b1), .val (.ref b3), .val (.ref b5), .val (.int i9), .val (.int i10), .val (.int i11), .val (.int i12), .val (.int i13)] [(.int (1 : Int32))]))
          refine .pre (fun _ k => XS.goto X.here hx rfl (pc0 := 137) (pc' := 141) rfl (hb hby at_137) (by decide) (by decide) k) ?_
          show OwnEnds p e below _ (T.setTop (mkF m 141 #[.val (.long j0), .second, .val (.long j2), .second, .val (.long j4), .second, .val (.ref b1), .val (.ref b3), .val (.ref b5), .val (.int i9), .val (.int i10), .val (.int i11), .val (.int i12), .val (.int i13)] [(.int (1 : Int32))]))
          exact own_endN X hx hlk (t := .boolean) Bd.returns (by simp) (hb hby at_141) rfl hk hn ⟨congrArg (fun z => some (Value.int z)) hF, N, trivial⟩
    · rw [if_neg hc123] at hF
      refine .pre (fun _ k => XS.icmpYes X.here hx rfl (pc0 := 123) (pc' := 140) rfl (hb hby at_123) rfl (feq hc123).2 (by decide) (by decide) k) ?_
      show OwnEnds p e below _ (T.setTop (mkF m 140 #[.val (.long j0), .second, .val (.long j2), .second, .val (.long j4), .second, .val (.ref b1), .val (.ref b3), .val (.ref b5), .val (.int i9), .val (.int i10), .val (.int i11), .val (.int i12), .val (.int i13)] []))
      refine .pre (fun _ k => XS.iconst X.here hx rfl (hb hby at_140) k) ?_
      show OwnEnds p e below _ (T.setTop (mkF m 141 #[.val (.long j0), .second, .val (.long j2), .second, .val (.long j4), .second, .val (.ref b1), .val (.ref b3), .val (.ref b5), .val (.int i9), .val (.int i10), .val (.int i11), .val (.int i12), .val (.int i13)] [(.int (0 : Int32))]))
      exact own_endN X hx hlk (t := .boolean) Bd.returns (by simp) (hb hby at_141) rfl hk hn ⟨congrArg (fun z => some (Value.int z)) hF, N, trivial⟩
  have B100 : ∀ (T : State) (L : List Loc) (k n : Nat) (X : Stand p l e room_1 s m #[(.long q0), (.long q1), (.long q2)] below meth c T L k n) (eT : T.heap = T6.heap) (N : Fr n0 L) (hk : k ≤ 16) (hn : n ≤ 128) (j0 : Int64) (j2 : Int64) (j4 : Int64) (i9 : Int32) (i10 : Int32) (i11 : Int32) (i12 : Int32) (t0 : Int32), f0_100 q0 q1 q2 i9 i11 i12 t0 = f0_41 q0 q1 q2 q0 q1 → OwnEnds p e below (OwnQ s (Q0 Z q0 q1 q2 h0 n0) 16 128) (T.setTop (mkF m 100 #[.val (.long j0), .second, .val (.long j2), .second, .val (.long j4), .second, .val (.ref b1), .val (.ref b3), .val (.ref b5), .val (.int i9), .val (.int i10), .val (.int i11), .val (.int i12), .unset] [(.int t0)])) := by
    intro T L k n X eT N hk hn j0 j2 j4 i9 i10 i11 i12 t0 hF
    change (f0_119 q0 q1 q2 i9 i11 i12 t0) = _ at hF
    show OwnEnds p e below _ (T.setTop (mkF m 100 #[.val (.long j0), .second, .val (.long j2), .second, .val (.long j4), .second, .val (.ref b1), .val (.ref b3), .val (.ref b5), .val (.int i9), .val (.int i10), .val (.int i11), .val (.int i12), .unset] [(.int t0)]))
    refine .pre (fun _ k => XS.istore X.here hx rfl (hb hby at_100) rfl (l' := #[.val (.long j0), .second, .val (.long j2), .second, .val (.long j4), .second, .val (.ref b1), .val (.ref b3), .val (.ref b5), .val (.int i9), .val (.int i10), .val (.int i11), .val (.int i12), .val (.int t0)]) rfl k) ?_
    show OwnEnds p e below _ (T.setTop (mkF m 102 #[.val (.long j0), .second, .val (.long j2), .second, .val (.long j4), .second, .val (.ref b1), .val (.ref b3), .val (.ref b5), .val (.int i9), .val (.int i10), .val (.int i11), .val (.int i12), .val (.int t0)] []))
    refine .pre (fun _ k => XS.goto X.here hx rfl (pc0 := 102) (pc' := 119) rfl (hb hby at_102) (by decide) (by decide) k) ?_
    exact B119 T _ _ _ X eT N hk hn j0 j2 j4 i9 i10 i11 i12 t0 hF
  have B99 : ∀ (T : State) (L : List Loc) (k n : Nat) (X : Stand p l e room_1 s m #[(.long q0), (.long q1), (.long q2)] below meth c T L k n) (eT : T.heap = T6.heap) (N : Fr n0 L) (hk : k ≤ 16) (hn : n ≤ 128) (j0 : Int64) (j2 : Int64) (j4 : Int64) (i9 : Int32) (i10 : Int32) (i11 : Int32) (i12 : Int32), f0_99 q0 q1 q2 i9 i11 i12 = f0_41 q0 q1 q2 q0 q1 → OwnEnds p e below (OwnQ s (Q0 Z q0 q1 q2 h0 n0) 16 128) (T.setTop (mkF m 99 #[.val (.long j0), .second, .val (.long j2), .second, .val (.long j4), .second, .val (.ref b1), .val (.ref b3), .val (.ref b5), .val (.int i9), .val (.int i10), .val (.int i11), .val (.int i12), .unset] [])) := by
    intro T L k n X eT N hk hn j0 j2 j4 i9 i10 i11 i12 hF
    change (f0_100 q0 q1 q2 i9 i11 i12 (0 : Int32)) = _ at hF
    show OwnEnds p e below _ (T.setTop (mkF m 99 #[.val (.long j0), .second, .val (.long j2), .second, .val (.long j4), .second, .val (.ref b1), .val (.ref b3), .val (.ref b5), .val (.int i9), .val (.int i10), .val (.int i11), .val (.int i12), .unset] []))
    refine .pre (fun _ k => XS.iconst X.here hx rfl (hb hby at_99) k) ?_
    exact B100 T _ _ _ X eT N hk hn j0 j2 j4 i9 i10 i11 i12 (0 : Int32) hF
  have B117 : ∀ (T : State) (L : List Loc) (k n : Nat) (X : Stand p l e room_1 s m #[(.long q0), (.long q1), (.long q2)] below meth c T L k n) (eT : T.heap = T6.heap) (N : Fr n0 L) (hk : k ≤ 16) (hn : n ≤ 128) (j0 : Int64) (j2 : Int64) (j4 : Int64) (i9 : Int32) (i10 : Int32) (i11 : Int32) (i12 : Int32) (t0 : Int32), f0_117 q0 q1 q2 i9 i11 i12 t0 = f0_41 q0 q1 q2 q0 q1 → OwnEnds p e below (OwnQ s (Q0 Z q0 q1 q2 h0 n0) 16 128) (T.setTop (mkF m 117 #[.val (.long j0), .second, .val (.long j2), .second, .val (.long j4), .second, .val (.ref b1), .val (.ref b3), .val (.ref b5), .val (.int i9), .val (.int i10), .val (.int i11), .val (.int i12), .unset] [(.int t0)])) := by
    intro T L k n X eT N hk hn j0 j2 j4 i9 i10 i11 i12 t0 hF
    change (f0_119 q0 q1 q2 i9 i11 i12 t0) = _ at hF
    show OwnEnds p e below _ (T.setTop (mkF m 117 #[.val (.long j0), .second, .val (.long j2), .second, .val (.long j4), .second, .val (.ref b1), .val (.ref b3), .val (.ref b5), .val (.int i9), .val (.int i10), .val (.int i11), .val (.int i12), .unset] [(.int t0)]))
    refine .pre (fun _ k => XS.istore X.here hx rfl (hb hby at_117) rfl (l' := #[.val (.long j0), .second, .val (.long j2), .second, .val (.long j4), .second, .val (.ref b1), .val (.ref b3), .val (.ref b5), .val (.int i9), .val (.int i10), .val (.int i11), .val (.int i12), .val (.int t0)]) rfl k) ?_
    exact B119 T _ _ _ X eT N hk hn j0 j2 j4 i9 i10 i11 i12 t0 hF
  have B77 : ∀ (T : State) (L : List Loc) (k n : Nat) (X : Stand p l e room_1 s m #[(.long q0), (.long q1), (.long q2)] below meth c T L k n) (eT : T.heap = T6.heap) (N : Fr n0 L) (hk : k ≤ 16) (hn : n ≤ 128) (j0 : Int64) (j2 : Int64) (j4 : Int64) (i9 : Int32) (i10 : Int32) (i11 : Int32) (t0 : Int32), f0_77 q0 q1 q2 j0 j2 i9 i10 i11 t0 = f0_41 q0 q1 q2 q0 q1 → OwnEnds p e below (OwnQ s (Q0 Z q0 q1 q2 h0 n0) 16 128) (T.setTop (mkF m 77 #[.val (.long j0), .second, .val (.long j2), .second, .val (.long j4), .second, .val (.ref b1), .val (.ref b3), .val (.ref b5), .val (.int i9), .val (.int i10), .val (.int i11), .unset, .unset] [(.int t0)])) := by
    intro T L k n X eT N hk hn j0 j2 j4 i9 i10 i11 t0 hF
    change (if (lcmpW j0 j2) = (0 : Int32) then (if i9 = (0 : Int32) then (f0_99 q0 q1 q2 i9 i11 t0) else (if i10 = (0 : Int32) then (f0_99 q0 q1 q2 i9 i11 t0) else (f0_100 q0 q1 q2 i9 i11 t0 (1 : Int32)))) else (if i9 = i10 then (f0_117 q0 q1 q2 i9 i11 t0 (0 : Int32)) else (f0_117 q0 q1 q2 i9 i11 t0 (1 : Int32)))) = _ at hF
    show OwnEnds p e below _ (T.setTop (mkF m 77 #[.val (.long j0), .second, .val (.long j2), .second, .val (.long j4), .second, .val (.ref b1), .val (.ref b3), .val (.ref b5), .val (.int i9), .val (.int i10), .val (.int i11), .unset, .unset] [(.int t0)]))
    refine .pre (fun _ k => XS.istore X.here hx rfl (hb hby at_77) rfl (l' := #[.val (.long j0), .second, .val (.long j2), .second, .val (.long j4), .second, .val (.ref b1), .val (.ref b3), .val (.ref b5), .val (.int i9), .val (.int i10), .val (.int i11), .val (.int t0), .unset]) rfl k) ?_
    show OwnEnds p e below _ (T.setTop (mkF m 79 #[.val (.long j0), .second, .val (.long j2), .second, .val (.long j4), .second, .val (.ref b1), .val (.ref b3), .val (.ref b5), .val (.int i9), .val (.int i10), .val (.int i11), .val (.int t0), .unset] []))
    refine .pre (fun _ k => XS.lloadN X.here hx rfl (hb hby at_79) rfl k) ?_
    show OwnEnds p e below _ (T.setTop (mkF m 80 #[.val (.long j0), .second, .val (.long j2), .second, .val (.long j4), .second, .val (.ref b1), .val (.ref b3), .val (.ref b5), .val (.int i9), .val (.int i10), .val (.int i11), .val (.int t0), .unset] [(.long j0)]))
    refine .pre (fun _ k => XS.lloadN X.here hx rfl (hb hby at_80) rfl k) ?_
    show OwnEnds p e below _ (T.setTop (mkF m 81 #[.val (.long j0), .second, .val (.long j2), .second, .val (.long j4), .second, .val (.ref b1), .val (.ref b3), .val (.ref b5), .val (.int i9), .val (.int i10), .val (.int i11), .val (.int t0), .unset] [(.long j2), (.long j0)]))
    refine .pre (fun _ k => XS.lcmp X.here hx rfl (hb hby at_81) rfl k) ?_
    show OwnEnds p e below _ (T.setTop (mkF m 82 #[.val (.long j0), .second, .val (.long j2), .second, .val (.long j4), .second, .val (.ref b1), .val (.ref b3), .val (.ref b5), .val (.int i9), .val (.int i10), .val (.int i11), .val (.int t0), .unset] [(.int (lcmpW j0 j2))]))
    by_cases hc82 : (lcmpW j0 j2) = (0 : Int32)
    · rw [if_pos hc82] at hF
      refine .pre (fun _ k => XS.ifNo X.here hx rfl (hb hby at_82) rfl ((if0 _ _).trans (teq hc82).2) k) ?_
      show OwnEnds p e below _ (T.setTop (mkF m 85 #[.val (.long j0), .second, .val (.long j2), .second, .val (.long j4), .second, .val (.ref b1), .val (.ref b3), .val (.ref b5), .val (.int i9), .val (.int i10), .val (.int i11), .val (.int t0), .unset] []))
      refine .pre (fun _ k => XS.iload X.here hx rfl (hb hby at_85) rfl k) ?_
      show OwnEnds p e below _ (T.setTop (mkF m 87 #[.val (.long j0), .second, .val (.long j2), .second, .val (.long j4), .second, .val (.ref b1), .val (.ref b3), .val (.ref b5), .val (.int i9), .val (.int i10), .val (.int i11), .val (.int t0), .unset] [(.int i9)]))
      by_cases hc87 : i9 = (0 : Int32)
      · rw [if_pos hc87] at hF
        refine .pre (fun _ k => XS.ifYes X.here hx rfl (pc0 := 87) (pc' := 99) rfl (hb hby at_87) rfl ((if0 _ _).trans (teq hc87).1) (by decide) (by decide) k) ?_
        exact B99 T _ _ _ X eT N hk hn j0 j2 j4 i9 i10 i11 t0 hF
      · rw [if_neg hc87] at hF
        refine .pre (fun _ k => XS.ifNo X.here hx rfl (hb hby at_87) rfl ((if0 _ _).trans (feq hc87).1) k) ?_
        show OwnEnds p e below _ (T.setTop (mkF m 90 #[.val (.long j0), .second, .val (.long j2), .second, .val (.long j4), .second, .val (.ref b1), .val (.ref b3), .val (.ref b5), .val (.int i9), .val (.int i10), .val (.int i11), .val (.int t0), .unset] []))
        refine .pre (fun _ k => XS.iload X.here hx rfl (hb hby at_90) rfl k) ?_
        show OwnEnds p e below _ (T.setTop (mkF m 92 #[.val (.long j0), .second, .val (.long j2), .second, .val (.long j4), .second, .val (.ref b1), .val (.ref b3), .val (.ref b5), .val (.int i9), .val (.int i10), .val (.int i11), .val (.int t0), .unset] [(.int i10)]))
        by_cases hc92 : i10 = (0 : Int32)
        · rw [if_pos hc92] at hF
          refine .pre (fun _ k => XS.ifYes X.here hx rfl (pc0 := 92) (pc' := 99) rfl (hb hby at_92) rfl ((if0 _ _).trans (teq hc92).1) (by decide) (by decide) k) ?_
          exact B99 T _ _ _ X eT N hk hn j0 j2 j4 i9 i10 i11 t0 hF
        · rw [if_neg hc92] at hF
          refine .pre (fun _ k => XS.ifNo X.here hx rfl (hb hby at_92) rfl ((if0 _ _).trans (feq hc92).1) k) ?_
          show OwnEnds p e below _ (T.setTop (mkF m 95 #[.val (.long j0), .second, .val (.long j2), .second, .val (.long j4), .second, .val (.ref b1), .val (.ref b3), .val (.ref b5), .val (.int i9), .val (.int i10), .val (.int i11), .val (.int t0), .unset] []))
          refine .pre (fun _ k => XS.iconst X.here hx rfl (hb hby at_95) k) ?_
          show OwnEnds p e below _ (T.setTop (mkF m 96 #[.val (.long j0), .second, .val (.long j2), .second, .val (.long j4), .second, .val (.ref b1), .val (.ref b3), .val (.ref b5), .val (.int i9), .val (.int i10), .val (.int i11), .val (.int t0), .unset] [(.int (1 : Int32))]))
          refine .pre (fun _ k => XS.goto X.here hx rfl (pc0 := 96) (pc' := 100) rfl (hb hby at_96) (by decide) (by decide) k) ?_
          exact B100 T _ _ _ X eT N hk hn j0 j2 j4 i9 i10 i11 t0 (1 : Int32) hF
    · rw [if_neg hc82] at hF
      refine .pre (fun _ k => XS.ifYes X.here hx rfl (pc0 := 82) (pc' := 105) rfl (hb hby at_82) rfl ((if0 _ _).trans (feq hc82).2) (by decide) (by decide) k) ?_
      show OwnEnds p e below _ (T.setTop (mkF m 105 #[.val (.long j0), .second, .val (.long j2), .second, .val (.long j4), .second, .val (.ref b1), .val (.ref b3), .val (.ref b5), .val (.int i9), .val (.int i10), .val (.int i11), .val (.int t0), .unset] []))
      refine .pre (fun _ k => XS.iload X.here hx rfl (hb hby at_105) rfl k) ?_
      show OwnEnds p e below _ (T.setTop (mkF m 107 #[.val (.long j0), .second, .val (.long j2), .second, .val (.long j4), .second, .val (.ref b1), .val (.ref b3), .val (.ref b5), .val (.int i9), .val (.int i10), .val (.int i11), .val (.int t0), .unset] [(.int i9)]))
      refine .pre (fun _ k => XS.iload X.here hx rfl (hb hby at_107) rfl k) ?_
      show OwnEnds p e below _ (T.setTop (mkF m 109 #[.val (.long j0), .second, .val (.long j2), .second, .val (.long j4), .second, .val (.ref b1), .val (.ref b3), .val (.ref b5), .val (.int i9), .val (.int i10), .val (.int i11), .val (.int t0), .unset] [(.int i10), (.int i9)]))
      by_cases hc109 : i9 = i10
      · rw [if_pos hc109] at hF
        refine .pre (fun _ k => XS.icmpYes X.here hx rfl (pc0 := 109) (pc' := 116) rfl (hb hby at_109) rfl (teq hc109).1 (by decide) (by decide) k) ?_
        show OwnEnds p e below _ (T.setTop (mkF m 116 #[.val (.long j0), .second, .val (.long j2), .second, .val (.long j4), .second, .val (.ref b1), .val (.ref b3), .val (.ref b5), .val (.int i9), .val (.int i10), .val (.int i11), .val (.int t0), .unset] []))
        refine .pre (fun _ k => XS.iconst X.here hx rfl (hb hby at_116) k) ?_
        exact B117 T _ _ _ X eT N hk hn j0 j2 j4 i9 i10 i11 t0 (0 : Int32) hF
      · rw [if_neg hc109] at hF
        refine .pre (fun _ k => XS.icmpNo X.here hx rfl (hb hby at_109) rfl (feq hc109).1 k) ?_
        show OwnEnds p e below _ (T.setTop (mkF m 112 #[.val (.long j0), .second, .val (.long j2), .second, .val (.long j4), .second, .val (.ref b1), .val (.ref b3), .val (.ref b5), .val (.int i9), .val (.int i10), .val (.int i11), .val (.int t0), .unset] []))
        refine .pre (fun _ k => XS.iconst X.here hx rfl (hb hby at_112) k) ?_
        show OwnEnds p e below _ (T.setTop (mkF m 113 #[.val (.long j0), .second, .val (.long j2), .second, .val (.long j4), .second, .val (.ref b1), .val (.ref b3), .val (.ref b5), .val (.int i9), .val (.int i10), .val (.int i11), .val (.int t0), .unset] [(.int (1 : Int32))]))
        refine .pre (fun _ k => XS.goto X.here hx rfl (pc0 := 113) (pc' := 117) rfl (hb hby at_113) (by decide) (by decide) k) ?_
        exact B117 T _ _ _ X eT N hk hn j0 j2 j4 i9 i10 i11 t0 (1 : Int32) hF
  have B41 : ∀ (T : State) (L : List Loc) (k n : Nat) (X : Stand p l e room_1 s m #[(.long q0), (.long q1), (.long q2)] below meth c T L k n) (eT : T.heap = T6.heap) (N : Fr n0 L) (hk : k ≤ 16) (hn : n ≤ 128) (j0 : Int64) (j2 : Int64) (j4 : Int64), f0_41 q0 q1 q2 j0 j2 = f0_41 q0 q1 q2 q0 q1 → OwnEnds p e below (OwnQ s (Q0 Z q0 q1 q2 h0 n0) 16 128) (T.setTop (mkF m 41 #[.val (.long j0), .second, .val (.long j2), .second, .val (.long j4), .second, .val (.ref b1), .val (.ref b3), .val (.ref b5), .unset, .unset, .unset, .unset, .unset] [])) := by
    intro T L k n X eT N hk hn j0 j2 j4 hF
    change (if (lcmpW (f5_0 j0 j2) j0) = (0 : Int32) then (f0_77 q0 q1 q2 j0 j2 (f4_0 q0 q1) (f4_0 q1 q0) (f4_0 q0 q0) (1 : Int32)) else (f0_77 q0 q1 q2 j0 j2 (f4_0 q0 q1) (f4_0 q1 q0) (f4_0 q0 q0) (0 : Int32))) = _ at hF
    show OwnEnds p e below _ (T.setTop (mkF m 41 #[.val (.long j0), .second, .val (.long j2), .second, .val (.long j4), .second, .val (.ref b1), .val (.ref b3), .val (.ref b5), .unset, .unset, .unset, .unset, .unset] []))
    refine .pre (fun _ k => XS.aload X.here hx rfl (hb hby at_41) rfl rfl k) ?_
    show OwnEnds p e below _ (T.setTop (mkF m 43 #[.val (.long j0), .second, .val (.long j2), .second, .val (.long j4), .second, .val (.ref b1), .val (.ref b3), .val (.ref b5), .unset, .unset, .unset, .unset, .unset] [(.ref b1)]))
    obtain ⟨cq11, kq11, q11a, q11b, q11c⟩ := isOf hZ eT ((((Ea2.ext E3).keep K4).ext E5).keep K6)
    obtain ⟨_, _, ⟨T11, L11, k11, n11⟩, -, X11, ⟨Lc11, hQ11, l11, y11, z11⟩, st11⟩ := X.virtualBack hx (y := (⟨"com/example/hardy_queue/hardyqueue/store/FlushMark$Flush", "isEmpty", "()Z"⟩ : MethodName)) (z := (⟨"com/example/hardy_queue/hardyqueue/store/FlushMark$Flush", "isEmpty", "()Z"⟩ : MethodName)) hown (mvT hZ (hw _ (List.mem_of_getElem? (i := 20) rfl))) (mvT hZ (hw _ (List.mem_of_getElem? (i := 21) rfl))) (notFace_of_selects (args := #[]) (mvT hZ (hw _ (List.mem_of_getElem? (i := 23) rfl)))) (mvT hZ (hw _ (List.mem_of_getElem? (i := 23) rfl))) (mvT hZ (hw _ (List.mem_of_getElem? (i := 22) rfl))) (by decide) (backOf (W := 0) (rm4 l Z aZ hw [] b1 q0 q1 T6.heap n0 (Nat.le_trans (Nat.le_trans (Nat.le_trans (Nat.le_trans (Nat.le_trans (Nat.le_trans Z0 E1.1) K2.1) E3.1) K4.1) E5.1) K6.1) ((((Fa2_0.ext E3).keep K4 (own_nin1 (Nat.ne_of_lt (Nat.lt_of_lt_of_le Ea2.lt (Nat.le_of_eq g3.symm))))).ext E5).keep K6 (own_nin1 (Nat.ne_of_lt (Nat.lt_of_lt_of_le ((Ea2.ext E3).keep K4).lt (Nat.le_of_eq g5.symm))))) ((((Fa2_1.ext E3).keep K4 (own_nin1 (Nat.ne_of_lt (Nat.lt_of_lt_of_le Ea2.lt (Nat.le_of_eq g3.symm))))).ext E5).keep K6 (own_nin1 (Nat.ne_of_lt (Nat.lt_of_lt_of_le ((Ea2.ext E3).keep K4).lt (Nat.le_of_eq g5.symm)))))) hZ (hw _ (List.mem_of_getElem? (i := 24) rfl)) (hw _ (List.mem_of_getElem? (i := 2) rfl)) (by decide) (by decide)) q11a q11c (g := (mkF m 43 #[.val (.long j0), .second, .val (.long j2), .second, .val (.long j4), .second, .val (.ref b1), .val (.ref b3), .val (.ref b5), .unset, .unset, .unset, .unset, .unset] [(.ref b1)])) rfl (by rw [hml]; rfl) (Steps.refl _) (argsL := []) (rest := []) (lenOf pd_5 rfl) rfl (by show 2 * 0 + _ ≤ _; exact Nat.le_of_eq rfl) (hb hby at_43) (fun _ _ => ⟨rfl, eT, Nat.le_trans (Nat.add_le_add_right hk 0) (by decide : 16 + 0 ≤ _), Nat.le_trans (Nat.add_le_add_right hn 0) (by decide : 128 + 0 ≤ _)⟩)
    dsimp only [Pt.U, Pt.locs, Pt.cells, Pt.slots] at X11 l11 y11 z11 st11 hQ11
    subst l11 y11 z11
    obtain ⟨rfl, N11q, e11⟩ := hQ11
    have N11 := Fr.app N N11q
    refine .pre (fun _ k => st11.trans k) ?_
    show OwnEnds p e below _ (T11.setTop (mkF m 46 #[.val (.long j0), .second, .val (.long j2), .second, .val (.long j4), .second, .val (.ref b1), .val (.ref b3), .val (.ref b5), .unset, .unset, .unset, .unset, .unset] [(.int (f4_0 q0 q1))]))
    refine .pre (fun _ k => XS.istore X11.here hx rfl (hb hby at_46) rfl (l' := #[.val (.long j0), .second, .val (.long j2), .second, .val (.long j4), .second, .val (.ref b1), .val (.ref b3), .val (.ref b5), .val (.int (f4_0 q0 q1)), .unset, .unset, .unset, .unset]) rfl k) ?_
    show OwnEnds p e below _ (T11.setTop (mkF m 48 #[.val (.long j0), .second, .val (.long j2), .second, .val (.long j4), .second, .val (.ref b1), .val (.ref b3), .val (.ref b5), .val (.int (f4_0 q0 q1)), .unset, .unset, .unset, .unset] []))
    refine .pre (fun _ k => XS.aload X11.here hx rfl (hb hby at_48) rfl rfl k) ?_
    show OwnEnds p e below _ (T11.setTop (mkF m 50 #[.val (.long j0), .second, .val (.long j2), .second, .val (.long j4), .second, .val (.ref b1), .val (.ref b3), .val (.ref b5), .val (.int (f4_0 q0 q1)), .unset, .unset, .unset, .unset] [(.ref b3)]))
    obtain ⟨cq12, kq12, q12a, q12b, q12c⟩ := isOf hZ e11 ((Ea4.ext E5).keep K6)
    obtain ⟨_, _, ⟨T12, L12, k12, n12⟩, -, X12, ⟨Lc12, hQ12, l12, y12, z12⟩, st12⟩ := X11.virtualBack hx (y := (⟨"com/example/hardy_queue/hardyqueue/store/FlushMark$Flush", "isEmpty", "()Z"⟩ : MethodName)) (z := (⟨"com/example/hardy_queue/hardyqueue/store/FlushMark$Flush", "isEmpty", "()Z"⟩ : MethodName)) hown (mvT hZ (hw _ (List.mem_of_getElem? (i := 20) rfl))) (mvT hZ (hw _ (List.mem_of_getElem? (i := 21) rfl))) (notFace_of_selects (args := #[]) (mvT hZ (hw _ (List.mem_of_getElem? (i := 23) rfl)))) (mvT hZ (hw _ (List.mem_of_getElem? (i := 23) rfl))) (mvT hZ (hw _ (List.mem_of_getElem? (i := 22) rfl))) (by decide) (backOf (W := 0) (rm4 l Z aZ hw [] b3 q1 q0 T6.heap n0 (Nat.le_trans (Nat.le_trans (Nat.le_trans (Nat.le_trans (Nat.le_trans (Nat.le_trans Z0 E1.1) K2.1) E3.1) K4.1) E5.1) K6.1) ((Fa4_0.ext E5).keep K6 (own_nin1 (Nat.ne_of_lt (Nat.lt_of_lt_of_le Ea4.lt (Nat.le_of_eq g5.symm))))) ((Fa4_1.ext E5).keep K6 (own_nin1 (Nat.ne_of_lt (Nat.lt_of_lt_of_le Ea4.lt (Nat.le_of_eq g5.symm)))))) hZ (hw _ (List.mem_of_getElem? (i := 24) rfl)) (hw _ (List.mem_of_getElem? (i := 2) rfl)) (by decide) (by decide)) q12a q12c (g := (mkF m 50 #[.val (.long j0), .second, .val (.long j2), .second, .val (.long j4), .second, .val (.ref b1), .val (.ref b3), .val (.ref b5), .val (.int (f4_0 q0 q1)), .unset, .unset, .unset, .unset] [(.ref b3)])) rfl (by rw [hml]; rfl) (Steps.refl _) (argsL := []) (rest := []) (lenOf pd_5 rfl) rfl (by show 2 * 0 + _ ≤ _; exact Nat.le_of_eq rfl) (hb hby at_50) (fun _ _ => ⟨rfl, e11, Nat.le_trans (Nat.add_le_add_right hk 0) (by decide : 16 + 0 ≤ _), Nat.le_trans (Nat.add_le_add_right hn 0) (by decide : 128 + 0 ≤ _)⟩)
    dsimp only [Pt.U, Pt.locs, Pt.cells, Pt.slots] at X12 l12 y12 z12 st12 hQ12
    subst l12 y12 z12
    obtain ⟨rfl, N12q, e12⟩ := hQ12
    have N12 := Fr.app N11 N12q
    refine .pre (fun _ k => st12.trans k) ?_
    show OwnEnds p e below _ (T12.setTop (mkF m 53 #[.val (.long j0), .second, .val (.long j2), .second, .val (.long j4), .second, .val (.ref b1), .val (.ref b3), .val (.ref b5), .val (.int (f4_0 q0 q1)), .unset, .unset, .unset, .unset] [(.int (f4_0 q1 q0))]))
    refine .pre (fun _ k => XS.istore X12.here hx rfl (hb hby at_53) rfl (l' := #[.val (.long j0), .second, .val (.long j2), .second, .val (.long j4), .second, .val (.ref b1), .val (.ref b3), .val (.ref b5), .val (.int (f4_0 q0 q1)), .val (.int (f4_0 q1 q0)), .unset, .unset, .unset]) rfl k) ?_
    show OwnEnds p e below _ (T12.setTop (mkF m 55 #[.val (.long j0), .second, .val (.long j2), .second, .val (.long j4), .second, .val (.ref b1), .val (.ref b3), .val (.ref b5), .val (.int (f4_0 q0 q1)), .val (.int (f4_0 q1 q0)), .unset, .unset, .unset] []))
    refine .pre (fun _ k => XS.aload X12.here hx rfl (hb hby at_55) rfl rfl k) ?_
    show OwnEnds p e below _ (T12.setTop (mkF m 57 #[.val (.long j0), .second, .val (.long j2), .second, .val (.long j4), .second, .val (.ref b1), .val (.ref b3), .val (.ref b5), .val (.int (f4_0 q0 q1)), .val (.int (f4_0 q1 q0)), .unset, .unset, .unset] [(.ref b5)]))
    obtain ⟨cq13, kq13, q13a, q13b, q13c⟩ := isOf hZ e12 Ea6
    obtain ⟨_, _, ⟨T13, L13, k13, n13⟩, -, X13, ⟨Lc13, hQ13, l13, y13, z13⟩, st13⟩ := X12.virtualBack hx (y := (⟨"com/example/hardy_queue/hardyqueue/store/FlushMark$Flush", "isEmpty", "()Z"⟩ : MethodName)) (z := (⟨"com/example/hardy_queue/hardyqueue/store/FlushMark$Flush", "isEmpty", "()Z"⟩ : MethodName)) hown (mvT hZ (hw _ (List.mem_of_getElem? (i := 20) rfl))) (mvT hZ (hw _ (List.mem_of_getElem? (i := 21) rfl))) (notFace_of_selects (args := #[]) (mvT hZ (hw _ (List.mem_of_getElem? (i := 23) rfl)))) (mvT hZ (hw _ (List.mem_of_getElem? (i := 23) rfl))) (mvT hZ (hw _ (List.mem_of_getElem? (i := 22) rfl))) (by decide) (backOf (W := 0) (rm4 l Z aZ hw [] b5 q0 q0 T6.heap n0 (Nat.le_trans (Nat.le_trans (Nat.le_trans (Nat.le_trans (Nat.le_trans (Nat.le_trans Z0 E1.1) K2.1) E3.1) K4.1) E5.1) K6.1) Fa6_0 Fa6_1) hZ (hw _ (List.mem_of_getElem? (i := 24) rfl)) (hw _ (List.mem_of_getElem? (i := 2) rfl)) (by decide) (by decide)) q13a q13c (g := (mkF m 57 #[.val (.long j0), .second, .val (.long j2), .second, .val (.long j4), .second, .val (.ref b1), .val (.ref b3), .val (.ref b5), .val (.int (f4_0 q0 q1)), .val (.int (f4_0 q1 q0)), .unset, .unset, .unset] [(.ref b5)])) rfl (by rw [hml]; rfl) (Steps.refl _) (argsL := []) (rest := []) (lenOf pd_5 rfl) rfl (by show 2 * 0 + _ ≤ _; exact Nat.le_of_eq rfl) (hb hby at_57) (fun _ _ => ⟨rfl, e12, Nat.le_trans (Nat.add_le_add_right hk 0) (by decide : 16 + 0 ≤ _), Nat.le_trans (Nat.add_le_add_right hn 0) (by decide : 128 + 0 ≤ _)⟩)
    dsimp only [Pt.U, Pt.locs, Pt.cells, Pt.slots] at X13 l13 y13 z13 st13 hQ13
    subst l13 y13 z13
    obtain ⟨rfl, N13q, e13⟩ := hQ13
    have N13 := Fr.app N12 N13q
    refine .pre (fun _ k => st13.trans k) ?_
    show OwnEnds p e below _ (T13.setTop (mkF m 60 #[.val (.long j0), .second, .val (.long j2), .second, .val (.long j4), .second, .val (.ref b1), .val (.ref b3), .val (.ref b5), .val (.int (f4_0 q0 q1)), .val (.int (f4_0 q1 q0)), .unset, .unset, .unset] [(.int (f4_0 q0 q0))]))
    refine .pre (fun _ k => XS.istore X13.here hx rfl (hb hby at_60) rfl (l' := #[.val (.long j0), .second, .val (.long j2), .second, .val (.long j4), .second, .val (.ref b1), .val (.ref b3), .val (.ref b5), .val (.int (f4_0 q0 q1)), .val (.int (f4_0 q1 q0)), .val (.int (f4_0 q0 q0)), .unset, .unset]) rfl k) ?_
    show OwnEnds p e below _ (T13.setTop (mkF m 62 #[.val (.long j0), .second, .val (.long j2), .second, .val (.long j4), .second, .val (.ref b1), .val (.ref b3), .val (.ref b5), .val (.int (f4_0 q0 q1)), .val (.int (f4_0 q1 q0)), .val (.int (f4_0 q0 q0)), .unset, .unset] []))
    refine .pre (fun _ k => XS.lloadN X13.here hx rfl (hb hby at_62) rfl k) ?_
    show OwnEnds p e below _ (T13.setTop (mkF m 63 #[.val (.long j0), .second, .val (.long j2), .second, .val (.long j4), .second, .val (.ref b1), .val (.ref b3), .val (.ref b5), .val (.int (f4_0 q0 q1)), .val (.int (f4_0 q1 q0)), .val (.int (f4_0 q0 q0)), .unset, .unset] [(.long j0)]))
    refine .pre (fun _ k => XS.lloadN X13.here hx rfl (hb hby at_63) rfl k) ?_
    show OwnEnds p e below _ (T13.setTop (mkF m 64 #[.val (.long j0), .second, .val (.long j2), .second, .val (.long j4), .second, .val (.ref b1), .val (.ref b3), .val (.ref b5), .val (.int (f4_0 q0 q1)), .val (.int (f4_0 q1 q0)), .val (.int (f4_0 q0 q0)), .unset, .unset] [(.long j2), (.long j0)]))
    obtain ⟨_, _, ⟨T14, L14, k14, n14⟩, -, X14, ⟨Lc14, hQ14, l14, y14, z14⟩, st14⟩ := Jvm.LawKit.callS X13 hx (y := (⟨"java/lang/Math", "max", "(JJ)J"⟩ : MethodName)) hown (mvT hZ (hw _ (List.mem_of_getElem? (i := 25) rfl))) (mvT hZ (hw _ (List.mem_of_getElem? (i := 26) rfl))) (mvT hZ (hw _ (List.mem_of_getElem? (i := 27) rfl))) (mvT hZ (hw _ (List.mem_of_getElem? (i := 28) rfl))) (by decide) (backOf (W := 0) (rm5 l Z aZ hw [] j0 j2 T6.heap n0 (Nat.le_trans (Nat.le_trans (Nat.le_trans (Nat.le_trans (Nat.le_trans (Nat.le_trans Z0 E1.1) K2.1) E3.1) K4.1) E5.1) K6.1)) hZ (hw _ (List.mem_of_getElem? (i := 28) rfl)) (hw _ (List.mem_of_getElem? (i := 27) rfl)) (by decide) (by decide)) (g := (mkF m 64 #[.val (.long j0), .second, .val (.long j2), .second, .val (.long j4), .second, .val (.ref b1), .val (.ref b3), .val (.ref b5), .val (.int (f4_0 q0 q1)), .val (.int (f4_0 q1 q0)), .val (.int (f4_0 q0 q0)), .unset, .unset] [(.long j2), (.long j0)])) rfl (by rw [hml]; rfl) (argsL := [(.long j0), (.long j2)]) (rest := []) (lenOf pd_6 rfl) rfl (by show 2 * 0 + _ ≤ _; exact Nat.le_of_eq rfl) (hb hby at_64) (fun _ _ => ⟨rfl, e13, Nat.le_trans (Nat.add_le_add_right hk 0) (by decide : 16 + 0 ≤ _), Nat.le_trans (Nat.add_le_add_right hn 0) (by decide : 128 + 0 ≤ _)⟩)
    dsimp only [Pt.U, Pt.locs, Pt.cells, Pt.slots] at X14 l14 y14 z14 st14 hQ14
    subst l14 y14 z14
    obtain ⟨rfl, N14q, e14⟩ := hQ14
    have N14 := Fr.app N13 N14q
    refine .pre (fun _ k => st14 _ k) ?_
    show OwnEnds p e below _ (T14.setTop (mkF m 67 #[.val (.long j0), .second, .val (.long j2), .second, .val (.long j4), .second, .val (.ref b1), .val (.ref b3), .val (.ref b5), .val (.int (f4_0 q0 q1)), .val (.int (f4_0 q1 q0)), .val (.int (f4_0 q0 q0)), .unset, .unset] [(.long (f5_0 j0 j2))]))
    refine .pre (fun _ k => XS.lloadN X14.here hx rfl (hb hby at_67) rfl k) ?_
    show OwnEnds p e below _ (T14.setTop (mkF m 68 #[.val (.long j0), .second, .val (.long j2), .second, .val (.long j4), .second, .val (.ref b1), .val (.ref b3), .val (.ref b5), .val (.int (f4_0 q0 q1)), .val (.int (f4_0 q1 q0)), .val (.int (f4_0 q0 q0)), .unset, .unset] [(.long j0), (.long (f5_0 j0 j2))]))
    refine .pre (fun _ k => XS.lcmp X14.here hx rfl (hb hby at_68) rfl k) ?_
    show OwnEnds p e below _ (T14.setTop (mkF m 69 #[.val (.long j0), .second, .val (.long j2), .second, .val (.long j4), .second, .val (.ref b1), .val (.ref b3), .val (.ref b5), .val (.int (f4_0 q0 q1)), .val (.int (f4_0 q1 q0)), .val (.int (f4_0 q0 q0)), .unset, .unset] [(.int (lcmpW (f5_0 j0 j2) j0))]))
    by_cases hc69 : (lcmpW (f5_0 j0 j2) j0) = (0 : Int32)
    · rw [if_pos hc69] at hF
      refine .pre (fun _ k => XS.ifNo X14.here hx rfl (hb hby at_69) rfl ((if0 _ _).trans (teq hc69).2) k) ?_
      show OwnEnds p e below _ (T14.setTop (mkF m 72 #[.val (.long j0), .second, .val (.long j2), .second, .val (.long j4), .second, .val (.ref b1), .val (.ref b3), .val (.ref b5), .val (.int (f4_0 q0 q1)), .val (.int (f4_0 q1 q0)), .val (.int (f4_0 q0 q0)), .unset, .unset] []))
      refine .pre (fun _ k => XS.iconst X14.here hx rfl (hb hby at_72) k) ?_
      show OwnEnds p e below _ (T14.setTop (mkF m 73 #[.val (.long j0), .second, .val (.long j2), .second, .val (.long j4), .second, .val (.ref b1), .val (.ref b3), .val (.ref b5), .val (.int (f4_0 q0 q1)), .val (.int (f4_0 q1 q0)), .val (.int (f4_0 q0 q0)), .unset, .unset] [(.int (1 : Int32))]))
      refine .pre (fun _ k => XS.goto X14.here hx rfl (pc0 := 73) (pc' := 77) rfl (hb hby at_73) (by decide) (by decide) k) ?_
      exact B77 T14 _ _ _ X14 e14 N14 hk hn j0 j2 j4 (f4_0 q0 q1) (f4_0 q1 q0) (f4_0 q0 q0) (1 : Int32) hF
    · rw [if_neg hc69] at hF
      refine .pre (fun _ k => XS.ifYes X14.here hx rfl (pc0 := 69) (pc' := 76) rfl (hb hby at_69) rfl ((if0 _ _).trans (feq hc69).2) (by decide) (by decide) k) ?_
      show OwnEnds p e below _ (T14.setTop (mkF m 76 #[.val (.long j0), .second, .val (.long j2), .second, .val (.long j4), .second, .val (.ref b1), .val (.ref b3), .val (.ref b5), .val (.int (f4_0 q0 q1)), .val (.int (f4_0 q1 q0)), .val (.int (f4_0 q0 q0)), .unset, .unset] []))
      refine .pre (fun _ k => XS.iconst X14.here hx rfl (hb hby at_76) k) ?_
      exact B77 T14 _ _ _ X14 e14 N14 hk hn j0 j2 j4 (f4_0 q0 q1) (f4_0 q1 q0) (f4_0 q0 q0) (0 : Int32) hF
  exact B41 T6 _ _ _ X6 rfl N6 (by decide) (by decide) q0 q1 q2 rfl
theorem own_emp (a b : Int64) : f4_0 a b = if a < b then 0 else 1 := by
  simp only [f4_0, lw_gt]
theorem own_mx (a b : Int64) : f5_0 a b = if a < b then b else a := by
  simp only [f5_0, lw_lt]
theorem own_law (x : Int64) (y : Int64) (z : Int64) : f0_41 x y z x y = 1 := by
  have hxx : ¬ (x < x) := fun q => absurd (Int64.lt_iff_toInt_lt.mp q) (Int.lt_irrefl _)
  simp only [f0_119, f0_100, f0_99, f0_117, f0_77, f0_41, own_emp, own_mx, lw_eq, hxx, if_false]
  by_cases q1 : x < y
  · have q2 : ¬ (y < x) := fun q => absurd (Int64.lt_iff_toInt_lt.mp q) (by have := Int64.lt_iff_toInt_lt.mp q1; omega)
    have q3 : ¬ (y = x) := fun q => by subst q; exact hxx q1
    have q4 : ¬ (x = y) := fun q => q3 q.symm
    simp [q1, q2, q3, q4]
  · by_cases q2 : y < x
    · have q3 : ¬ (x = y) := fun q => by subst q; exact hxx q2
      simp [q1, q2, q3]
    · have q3 : x = y := Int64.toInt_inj.mp (by rw [Int64.lt_iff_toInt_lt] at q1 q2; omega)
      subst q3
      simp [hxx]
set_option maxRecDepth 65536 in
set_option maxHeartbeats 40000000 in
theorem comes_1 {Post : Tables → Env → Array Value → State → Outcome → State → Prop} (hpost : ∀ tb e args s v u, (limb_1_1.after args s (.returned v) u = true ∧ limb_1_2.after args s (.returned v) u = true ∧ True) → FrameEnd s (.returned v) u (Jvm.fieldLocs frame_1_writes args s ++ Jvm.arrayLocs frame_1_arrays args s ++ Jvm.staticLocs frame_1_statics s) 16 128 → Post tb e args s (.returned v) u) :
    ArmFor flags0 classFile x code maxLocals ret World_1 tables_1 room_1 Calls_1 rest_1 Pre_1 Post := by
  intro l hfl _ _ p e ha hc hk s m args below hf hA hF happ hP
  obtain ⟨hcalls, hrest, hpre⟩ := hP
  obtain ⟨-, -, -, hnamed, -, -, -, hat⟩ := (Spec.applies_iff hf).mp happ
  obtain ⟨hg, hn⟩ := and_e (Cond.before_iff.mp (show (Jvm.Cond.and given_1 narrow_1).before args s = true from hpre))
  obtain ⟨hcount, hg0⟩ := and_e hg
  obtain ⟨ha0, hg1⟩ := and_e hg0
  obtain ⟨ha1, hg2⟩ := and_e hg1
  have ha2 := hg2
  obtain ⟨w0, w1, w2, rfl⟩ : ∃ w0 w1 w2 : Value, args = #[w0, w1, w2] := by
    have hs : args.size = 3 := by simpa [Cond.value, given_1] using hcount
    obtain ⟨L⟩ := args
    match L, hs with
    | [w0, w1, w2], _ => exact ⟨w0, w1, w2, rfl⟩
  have hw := fun d (hd : d ∈ tables_1) => atoms_spec (ws := Jvm.Cond.code x code maxLocals ret :: tables_1) hat d (List.mem_cons_of_mem _ hd)
  have hfit : Fit s := fun {y c} hc i hi => by
    obtain ⟨ha, rfl⟩ := Array.getElem?_eq_some_iff.mp hc
    have q := List.all_eq_true.mp ((Array.all_eq_true_iff_forall_mem.mp hF) _ (Array.getElem_mem ha)) i (List.mem_range.mpr hi)
    simpa [Array.getElem?_eq_getElem hi] using q
  obtain ⟨i0, ei0⟩ := isL_v ha0
  obtain rfl : w0 = (.long i0) := Option.some.inj ei0
  obtain ⟨i1, ei1⟩ := isL_v ha1
  obtain rfl : w1 = (.long i1) := Option.some.inj ei1
  obtain ⟨i2, ei2⟩ := isL_v ha2
  obtain rfl : w2 = (.long i2) := Option.some.inj ei2
  obtain ⟨n, o, h1, h2, h3, _, L, rfl, ⟨hv, N, -⟩, hq⟩ := rm0 l s _ hw tables_1 i0 i1 i2  s.heap s.heap.size (Nat.le_refl _)  p e ha hc hk s m _ below hf ((Spec.applies_iff_loose hf).mp happ).1 ⟨rfl, State.Warmed39.refl s, rfl⟩ trivial
  rw [own_law] at hv
  subst hv
  refine ⟨n, _, h1, h2, h3, hpost _ _ _ _ _ _ ⟨Cond.after_iff.mpr rfl, Cond.after_iff.mpr (eq_i res_at (Term.int_eval (1)) rfl), trivial⟩ ⟨hq.1, hq.2.1, (hq.2.2.sift fun y hy => Or.inr (N y hy)).mono (by decide) (by decide)⟩⟩
theorem main_1_1 : Claimed_1_1 := comes_1 fun _ _ _ _ _ _ h hF => ⟨h.1, hF⟩
theorem main_1_2 : Claimed_1_2 := comes_1 fun _ _ _ _ _ _ h hF => ⟨h.2.1, hF⟩
end Jvm.Pilot.@@N@@
namespace Jvm.Pilot.@@N@@
open Jvm Jvm.ClassFile Sem Op Lib Jvm.Free Jvm.Stand Jvm.Pilot.@@N@@.Jvm.D
/-! MADE BY PROGRAM (witnessworld.py) out of the Statement's table words and the real class files: 11 classes; the members and pool entries that the words name. The judged class is class 1, her method 1. -/
namespace start1
open Jvm.ClassFile
def u (s : String) : CpInfo := .utf8 (stringToUtf16 s)
/-- a pool by its gaps: so many unusable entries, then the entry; so many at the end -/
def gap : Nat → List CpInfo → List CpInfo
  | 0, r => r
  | n + 1, r => .unusable :: gap n r
def poolList (es : List (Nat × CpInfo)) (last : Nat) : List CpInfo := es.foldr (fun e r => gap e.1 (e.2 :: r)) (gap last [])
def pool (es : List (Nat × CpInfo)) (last : Nat) : Array CpInfo := ⟨poolList es last⟩
def fileOf (pool : Array CpInfo) (this : Nat) (attrs : Array Attribute := #[]) (ms : Array MethodInfo := #[]) (fl : Nat := 33) (sup : Nat := 0) (ifs : Array Nat := #[]) (fds : Array FieldInfo := #[]) : ClassFile where
  minorVersion := 0
  majorVersion := 65
  constantPool := pool
  accessFlags := fl
  thisClass := this
  superClass := sup
  interfaces := ifs
  fields := fds
  methods := ms
  attributes := attrs
def plain (name : String) (sup : Option ClassId) : Class where
  name := name
  kind := .ordinary
  loader := none
  accessFlags := 33
  super := sup
  interfaces := #[]
  cf := none
  fields := #[]
  methods := #[]
  instanceTypes := #[]
  staticTypes := #[]
  resolved := #[]
  callSites := []
  init := .initialized
  statics := none
  mirror := none

def pool0 : Array CpInfo := pool [(5, u "<init>"), (0, u "()V"), (1, .class_ 10), (1, u "java/lang/Object")] 113

def k0c0 : Code := { maxStack := 0, maxLocals := 1, code := object_method_1_code, exceptionTable := #[], attributes := #[] }
def k0m0 : Method := { name := "<init>", desc := "()V", sig := { parameters := [], returnType := none }, accessFlags := 1, code := some k0c0 }
/-- java/lang/Object -/
def k0 : Class := { plain "java/lang/Object" none with
  accessFlags := 33
  interfaces := #[]
  cf := some (fileOf pool0 8 #[] #[{ accessFlags := 1, nameIndex := 5, descriptorIndex := 6, attributes := #[] }] 33 0 #[] #[])
  fields := #[]
  methods := #[k0m0]
  instanceTypes := #[]
  staticTypes := #[]
  resolved := Array.replicate 124 none
  statics := none }

def pool1 : Array CpInfo := pool [(2, .class_ 4), (1, u "java/lang/Object"), (0, u "<init>"), (0, u "()V"), (0, .class_ 8), (0, u "com/example/hardy_queue/hardyqueue/store/FlushMark$Flush"), (0, .methodref 7 10), (0, .nameAndType 5 11), (0, u "(JJJ)V"), (0, .methodref 7 13), (0, .nameAndType 14 15), (0, u "isEmpty"), (0, u "()Z"), (0, .methodref 17 18), (0, .class_ 19), (0, .nameAndType 20 21), (0, u "java/lang/Math"), (0, u "max"), (0, u "(JJ)J"), (0, .class_ 23), (0, u "com/example/hardy_queue/hardyqueue/store/FlushIsEmptyPinLaw"), (2, u "law"), (0, u "(JJJ)Z")] 7

def k1m0 : Method := { name := "<init>", desc := "()V", sig := { parameters := [], returnType := none }, accessFlags := 2, code := none }
def k1c1 : Code := { maxStack := 10, maxLocals := 14, code := code, exceptionTable := #[], attributes := #[] }
def k1m1 : Method := { name := "law", desc := "(JJJ)Z", sig := { parameters := [.long, .long, .long], returnType := some .boolean }, accessFlags := 9, code := some k1c1 }
/-- com/example/hardy_queue/hardyqueue/store/FlushIsEmptyPinLaw -/
def k1 : Class := { plain "com/example/hardy_queue/hardyqueue/store/FlushIsEmptyPinLaw" (some 0) with
  accessFlags := 49
  interfaces := #[]
  cf := some (fileOf pool1 22 #[] #[{ accessFlags := 2, nameIndex := 5, descriptorIndex := 6, attributes := #[] }, { accessFlags := 9, nameIndex := 26, descriptorIndex := 27, attributes := #[] }] 49 2 #[] #[])
  fields := #[]
  methods := #[k1m0, k1m1]
  instanceTypes := #[]
  staticTypes := #[]
  resolved := Array.replicate 35 none
  statics := none }

def pool2 : Array CpInfo := pool [(1, .methodref 2 3), (0, .class_ 4), (0, .nameAndType 5 6), (0, u "java/lang/Object"), (0, u "<init>"), (0, u "()V"), (0, .class_ 8), (0, u "java/lang/Record")] 13

def k2c0 : Code := { maxStack := 1, maxLocals := 1, code := jdk_30_method_1_code, exceptionTable := #[], attributes := #[] }
def k2m0 : Method := { name := "<init>", desc := "()V", sig := { parameters := [], returnType := none }, accessFlags := 4, code := some k2c0 }
/-- java/lang/Record -/
def k2 : Class := { plain "java/lang/Record" (some 0) with
  accessFlags := 1057
  interfaces := #[]
  cf := some (fileOf pool2 7 #[] #[{ accessFlags := 4, nameIndex := 5, descriptorIndex := 6, attributes := #[] }] 1057 2 #[] #[])
  fields := #[]
  methods := #[k2m0]
  instanceTypes := #[]
  staticTypes := #[]
  resolved := Array.replicate 22 none
  statics := none }

def pool3 : Array CpInfo := pool [(1, .methodref 2 3), (0, .class_ 4), (0, .nameAndType 5 6), (0, u "java/lang/Record"), (0, u "<init>"), (0, u "()V"), (0, .fieldref 8 9), (0, .class_ 10), (0, .nameAndType 11 12), (0, u "com/example/hardy_queue/hardyqueue/store/FlushMark$Flush"), (0, u "from"), (0, u "J"), (0, .fieldref 8 14), (0, .nameAndType 15 12), (0, u "upTo"), (0, .fieldref 8 17), (0, .nameAndType 18 12), (0, u "cuts"), (12, u "(JJJ)V"), (3, u "isEmpty"), (0, u "()Z"), (8, .class_ 46), (0, u "com/example/hardy_queue/hardyqueue/store/FlushMark")] 21

def k3c0 : Code := { maxStack := 3, maxLocals := 7, code := prog_54_method_1_code, exceptionTable := #[], attributes := #[] }
def k3m0 : Method := { name := "<init>", desc := "(JJJ)V", sig := { parameters := [.long, .long, .long], returnType := none }, accessFlags := 0, code := some k3c0 }
def k3c1 : Code := { maxStack := 4, maxLocals := 1, code := prog_54_method_2_code, exceptionTable := #[], attributes := #[] }
def k3m1 : Method := { name := "isEmpty", desc := "()Z", sig := { parameters := [], returnType := some .boolean }, accessFlags := 0, code := some k3c1 }
/-- com/example/hardy_queue/hardyqueue/store/FlushMark$Flush -/
def k3 : Class := { plain "com/example/hardy_queue/hardyqueue/store/FlushMark$Flush" (some 2) with
  accessFlags := 48
  interfaces := #[]
  cf := some (fileOf pool3 8 #[.nestHost 45] #[{ accessFlags := 0, nameIndex := 5, descriptorIndex := 31, attributes := #[] }, { accessFlags := 0, nameIndex := 35, descriptorIndex := 36, attributes := #[] }] 48 2 #[] #[{ accessFlags := 18, nameIndex := 11, descriptorIndex := 12, attributes := #[] }, { accessFlags := 18, nameIndex := 15, descriptorIndex := 12, attributes := #[] }, { accessFlags := 18, nameIndex := 18, descriptorIndex := 12, attributes := #[] }])
  fields := #[{ name := "from", type := .long, accessFlags := 18, slot := 0, constantValue := 0 }, { name := "upTo", type := .long, accessFlags := 18, slot := 1, constantValue := 0 }, { name := "cuts", type := .long, accessFlags := 18, slot := 2, constantValue := 0 }]
  methods := #[k3m0, k3m1]
  instanceTypes := #[.long, .long, .long]
  staticTypes := #[]
  resolved := Array.replicate 68 none
  statics := none }

def pool4 : Array CpInfo := pool [(1, .class_ 2), (0, u "java/lang/Math"), (1, .class_ 6), (1, u "java/lang/Object"), (0, u "<init>"), (0, u "()V"), (89, .class_ 100), (1, u "java/lang/Math$RandomNumberGeneratorHolder"), (20, u "(JJ)J"), (50, u "negativeZeroFloatBits"), (0, u "J"), (2, u "negativeZeroDoubleBits"), (21, u "max"), (46, u "$assertionsDisabled"), (0, u "Z"), (91, u "twoToTheDoubleScaleDown"), (0, u "D"), (4, u "twoToTheDoubleScaleUp"), (9, u "E"), (3, u "PI"), (2, u "TAU"), (2, u "DEGREES_TO_RADIANS"), (0, u "RADIANS_TO_DEGREES")] 94

def k4m0 : Method := { name := "<init>", desc := "()V", sig := { parameters := [], returnType := none }, accessFlags := 2, code := none }
def k4c1 : Code := { maxStack := 4, maxLocals := 4, code := jdk_29_method_66_code, exceptionTable := #[], attributes := #[] }
def k4m1 : Method := { name := "max", desc := "(JJ)J", sig := { parameters := [.long, .long], returnType := some .long }, accessFlags := 9, code := some k4c1 }
/-- java/lang/Math -/
def k4 : Class := { plain "java/lang/Math" (some 0) with
  accessFlags := 49
  interfaces := #[]
  cf := some (fileOf pool4 1 #[.nestMembers #[98]] #[{ accessFlags := 2, nameIndex := 7, descriptorIndex := 8, attributes := #[] }, { accessFlags := 9, nameIndex := 198, descriptorIndex := 121, attributes := #[] }] 49 4 #[] #[{ accessFlags := 25, nameIndex := 354, descriptorIndex := 339, attributes := #[] }, { accessFlags := 25, nameIndex := 358, descriptorIndex := 339, attributes := #[] }, { accessFlags := 25, nameIndex := 361, descriptorIndex := 339, attributes := #[] }, { accessFlags := 26, nameIndex := 364, descriptorIndex := 339, attributes := #[] }, { accessFlags := 26, nameIndex := 365, descriptorIndex := 339, attributes := #[] }, { accessFlags := 26, nameIndex := 172, descriptorIndex := 173, attributes := #[] }, { accessFlags := 26, nameIndex := 176, descriptorIndex := 173, attributes := #[] }, { accessFlags := 8, nameIndex := 344, descriptorIndex := 339, attributes := #[] }, { accessFlags := 8, nameIndex := 338, descriptorIndex := 339, attributes := #[] }, { accessFlags := 4120, nameIndex := 245, descriptorIndex := 246, attributes := #[] }])
  fields := #[{ name := "E", type := .double, accessFlags := 25, slot := 0, constantValue := 0 }, { name := "PI", type := .double, accessFlags := 25, slot := 1, constantValue := 0 }, { name := "TAU", type := .double, accessFlags := 25, slot := 2, constantValue := 0 }, { name := "DEGREES_TO_RADIANS", type := .double, accessFlags := 26, slot := 3, constantValue := 0 }, { name := "RADIANS_TO_DEGREES", type := .double, accessFlags := 26, slot := 4, constantValue := 0 }, { name := "negativeZeroFloatBits", type := .long, accessFlags := 26, slot := 5, constantValue := 0 }, { name := "negativeZeroDoubleBits", type := .long, accessFlags := 26, slot := 6, constantValue := 0 }, { name := "twoToTheDoubleScaleUp", type := .double, accessFlags := 8, slot := 7, constantValue := 0 }, { name := "twoToTheDoubleScaleDown", type := .double, accessFlags := 8, slot := 8, constantValue := 0 }, { name := "$assertionsDisabled", type := .boolean, accessFlags := 4120, slot := 9, constantValue := 0 }]
  methods := #[k4m0, k4m1]
  instanceTypes := #[]
  staticTypes := #[.double, .double, .double, .double, .double, .long, .long, .double, .double, .boolean]
  resolved := Array.replicate 460 none
  statics := none }

def pool5 : Array CpInfo := pool [(1, u "java/lang/Cloneable"), (0, .class_ 1), (0, u "java/lang/Object"), (0, .class_ 3)] 3

/-- java/lang/Cloneable -/
def k5 : Class := { plain "java/lang/Cloneable" (some 0) with
  accessFlags := 1537
  interfaces := #[]
  cf := some (fileOf pool5 2 #[] #[] 1537 4 #[] #[])
  fields := #[]
  methods := #[]
  instanceTypes := #[]
  staticTypes := #[]
  resolved := Array.replicate 8 none
  statics := none }

def pool6 : Array CpInfo := pool [(1, u "java/io/Serializable"), (0, .class_ 1), (0, u "java/lang/Object"), (0, .class_ 3)] 3

/-- java/io/Serializable -/
def k6 : Class := { plain "java/io/Serializable" (some 0) with
  accessFlags := 1537
  interfaces := #[]
  cf := some (fileOf pool6 2 #[] #[] 1537 4 #[] #[])
  fields := #[]
  methods := #[]
  instanceTypes := #[]
  staticTypes := #[]
  resolved := Array.replicate 8 none
  statics := none }

/-- the primitive byte -/
def k7 : Class := { plain "byte" none with kind := .primitive 'B', accessFlags := 0x411 }
/-- [B -/
def k8 : Class := { plain "[B" (some 0) with kind := .array 7 .byte, interfaces := #[5, 6], accessFlags := 1041 }

/-- the primitive int -/
def k9 : Class := { plain "int" none with kind := .primitive 'I', accessFlags := 0x411 }
/-- [I -/
def k10 : Class := { plain "[I" (some 0) with kind := .array 9 .int, interfaces := #[5, 6], accessFlags := 1041 }

def heap : Heap := #[]
def classes : Array Class := #[k0, k1, k2, k3, k4, k5, k6, k7, k8, k9, k10]
def interned : List (Array UInt16 × Addr) := []
def slotsUsed : Nat := 0
def theMethod : MethodId := ⟨1, 1⟩
def args0 : Array Value := #[.long 32, .long 7, .long 1]
def aboutOver (below : List Frame) : State where
  vm := { classes := classes, interned := interned.toArray }
  heap := heap
  slotsUsed := slotsUsed
  threads := #[{ frames := .invoking theMethod args0 :: below }]
def below0 : List Frame := [.native { method := ⟨0, 0⟩, args := #[] }]
def about1 : State := aboutOver below0
def p0 : Program := .bare "" "" ""
def e0 : Env := launch0.env 0 0 0
theorem w_frames : about1.frames = Frame.invoking theMethod args0 :: below0 := rfl
set_option maxRecDepth 65536 in
theorem w_args : argsFit about1.vm theMethod args0 = true := by decide +kernel
set_option maxRecDepth 65536 in
theorem w_heap : heapFits about1 = true := by decide +kernel
set_option maxRecDepth 65536 in
theorem w_runnable : about1.curStatus? = some .runnable := by decide +kernel
set_option maxRecDepth 65536 in
theorem w_alone : about1.alone = true := by decide +kernel
set_option maxRecDepth 65536 in
theorem w_named : about1.methodNamed? x = some theMethod := by decide +kernel
set_option maxRecDepth 65536 in
theorem w_hears : about1.hears theMethod below0 = true := by decide +kernel
set_option maxRecDepth 65536 in
theorem w_ripe : about1.ripe theMethod args0 below0 = true := by decide +kernel
theorem w_running : about1.status = .running := rfl
set_option maxRecDepth 65536 in
theorem w_room : about1.hasRoom e0.platform room_1 = true :=
  launch0.hasRoom_least _ room_1 (by decide +kernel) (by decide +kernel) (by decide +kernel) (by decide +kernel) (by decide +kernel) (by decide +kernel)
theorem allAtoms_all (ts : List Jvm.Cond) (a : Array Jvm.Value) (st : Jvm.State) : (allAtoms ts).before a st = ts.all (fun c => c.before a st) := by
  induction ts with
  | nil => rfl
  | cons c t ih =>
    show (Jvm.Cond.and c (allAtoms t)).before a st = _
    rw [Jvm.Cond.before_and, ih, List.all_cons]
def words1 : List Jvm.Cond := Jvm.Cond.code x code maxLocals ret :: tables_1
/-- a 'code' word, met by the world's own term for the bytes: nothing is compared byte by byte -/
theorem code_word {y : MethodName} {bytes : ByteArray} {mx : Nat} {rt : Option FieldType} {a : Array Value} {s : State} {m : MethodId} {meth : Method} {c : Code} (h1 : s.methodNamed? y = some m) (h2 : s.vm.method? m = some meth) (h3 : meth.code = some c) (h4 : c.code = bytes)
    (h5 : (c.maxLocals == mx && c.exceptionTable.isEmpty && decide (c.maxStack ≤ mostOperands) && decide (meth.sig.returnType = rt) && !meth.locks && decide (parseMethodDescriptor y.desc = some meth.sig)) = true) : (Jvm.Cond.code y bytes mx rt).before a s = true := by
  simp only [Bool.and_eq_true, beq_iff_eq, Bool.not_eq_true', decide_eq_true_eq] at h5
  obtain ⟨⟨⟨⟨⟨g1, g2⟩, g3⟩, g4⟩, g5⟩, g6⟩ := h5
  simp [Cond.before, Cond.holds, Cond.value, h1, h2, h3, h4, g1, g2, g3, g4, g5, g6]
def isCode : Jvm.Cond → Bool
  | .code _ _ _ _ => true
  | _ => false
theorem all_split {L : List Jvm.Cond} {P : Jvm.Cond → Bool} (h1 : L.all (fun c => isCode c || P c) = true) (h2 : ∀ c ∈ L.filter isCode, P c = true) : L.all P = true := by
  refine List.all_eq_true.mpr fun c hc => ?_
  have h := List.all_eq_true.mp h1 c hc
  rcases Bool.eq_false_or_eq_true (isCode c) with hi | hi
  · exact h2 c (List.mem_filter.mpr ⟨hc, hi⟩)
  · simpa [hi] using h
set_option maxRecDepth 65536 in
theorem w_c0 : (Jvm.Cond.code x code maxLocals ret).before args0 about1 = true := code_word (m := ⟨1, 1⟩) (meth := k1m1) (c := k1c1) (by decide +kernel) rfl rfl rfl (by decide +kernel)
set_option maxRecDepth 65536 in
theorem w_c1 : (Jvm.Cond.code ({ cls := "com/example/hardy_queue/hardyqueue/store/FlushMark$Flush", name := "<init>", desc := "(JJJ)V" } : Jvm.MethodName) prog_54_method_1_code (7 : Nat) (Option.none : Option Jvm.ClassFile.FieldType)).before args0 about1 = true := code_word (m := ⟨3, 0⟩) (meth := k3m0) (c := k3c0) (by decide +kernel) rfl rfl rfl (by decide +kernel)
set_option maxRecDepth 65536 in
theorem w_c2 : (Jvm.Cond.code ({ cls := "java/lang/Record", name := "<init>", desc := "()V" } : Jvm.MethodName) jdk_30_method_1_code (1 : Nat) (Option.none : Option Jvm.ClassFile.FieldType)).before args0 about1 = true := code_word (m := ⟨2, 0⟩) (meth := k2m0) (c := k2c0) (by decide +kernel) rfl rfl rfl (by decide +kernel)
set_option maxRecDepth 65536 in
theorem w_c3 : (Jvm.Cond.code ({ cls := "java/lang/Object", name := "<init>", desc := "()V" } : Jvm.MethodName) object_method_1_code (1 : Nat) (Option.none : Option Jvm.ClassFile.FieldType)).before args0 about1 = true := code_word (m := ⟨0, 0⟩) (meth := k0m0) (c := k0c0) (by decide +kernel) rfl rfl rfl (by decide +kernel)
set_option maxRecDepth 65536 in
theorem w_c4 : (Jvm.Cond.code ({ cls := "com/example/hardy_queue/hardyqueue/store/FlushMark$Flush", name := "isEmpty", desc := "()Z" } : Jvm.MethodName) prog_54_method_2_code (1 : Nat) (Option.some Jvm.ClassFile.FieldType.boolean)).before args0 about1 = true := code_word (m := ⟨3, 1⟩) (meth := k3m1) (c := k3c1) (by decide +kernel) rfl rfl rfl (by decide +kernel)
set_option maxRecDepth 65536 in
theorem w_c5 : (Jvm.Cond.code ({ cls := "java/lang/Math", name := "max", desc := "(JJ)J" } : Jvm.MethodName) jdk_29_method_66_code (4 : Nat) (Option.some Jvm.ClassFile.FieldType.long)).before args0 about1 = true := code_word (m := ⟨4, 1⟩) (meth := k4m1) (c := k4c1) (by decide +kernel) rfl rfl rfl (by decide +kernel)
def codes1 : List Jvm.Cond := [Jvm.Cond.code x code maxLocals ret, Jvm.Cond.code ({ cls := "com/example/hardy_queue/hardyqueue/store/FlushMark$Flush", name := "<init>", desc := "(JJJ)V" } : Jvm.MethodName) prog_54_method_1_code (7 : Nat) (Option.none : Option Jvm.ClassFile.FieldType), Jvm.Cond.code ({ cls := "java/lang/Record", name := "<init>", desc := "()V" } : Jvm.MethodName) jdk_30_method_1_code (1 : Nat) (Option.none : Option Jvm.ClassFile.FieldType), Jvm.Cond.code ({ cls := "java/lang/Object", name := "<init>", desc := "()V" } : Jvm.MethodName) object_method_1_code (1 : Nat) (Option.none : Option Jvm.ClassFile.FieldType), Jvm.Cond.code ({ cls := "com/example/hardy_queue/hardyqueue/store/FlushMark$Flush", name := "isEmpty", desc := "()Z" } : Jvm.MethodName) prog_54_method_2_code (1 : Nat) (Option.some Jvm.ClassFile.FieldType.boolean), Jvm.Cond.code ({ cls := "java/lang/Math", name := "max", desc := "(JJ)J" } : Jvm.MethodName) jdk_29_method_66_code (4 : Nat) (Option.some Jvm.ClassFile.FieldType.long)]
set_option maxRecDepth 65536 in
theorem codes_eq : words1.filter isCode = codes1 := rfl
theorem w_codes : ∀ c ∈ words1.filter isCode, c.before args0 about1 = true := by
  rw [codes_eq]
  intro c hc
  simp only [codes1, List.mem_cons, List.not_mem_nil, or_false] at hc
  rcases hc with rfl | rfl | rfl | rfl | rfl | rfl
  · exact w_c0
  · exact w_c1
  · exact w_c2
  · exact w_c3
  · exact w_c4
  · exact w_c5
set_option maxRecDepth 65536 in
theorem w_t1 : (words1.take 24).all (fun c => isCode c || c.before args0 about1) = true := by decide +kernel
set_option maxRecDepth 65536 in
theorem w_t2 : (words1.drop 24).all (fun c => isCode c || c.before args0 about1) = true := by decide +kernel
theorem w_tables : (allAtoms (Jvm.Cond.code x code maxLocals ret :: tables_1)).before args0 about1 = true := by
  rw [allAtoms_all]
  show words1.all (fun c => c.before args0 about1) = true
  refine all_split ?_ w_codes
  rw [← List.take_append_drop 24 words1, List.all_append, w_t1, w_t2]
  rfl
set_option maxRecDepth 65536 in
theorem w_case : (Jvm.Cond.and given_1 narrow_1).before args0 about1 = true := by decide +kernel
theorem w_applies : (headSpec (Jvm.Cond.code x code maxLocals ret :: tables_1) room_1).applies x e0.platform about1 = true :=
  (Spec.applies_iff w_frames).mpr ⟨w_running, w_runnable, w_alone, w_named, w_hears, w_ripe, w_room, w_tables⟩
theorem atStart : AtStart classFile x code maxLocals ret World_1 tables_1 room_1 Calls_1 rest_1 Pre_1 launch0 p0 e0 about1 theMethod args0 below0 :=
  ⟨lists_1, trivial, launch0.admits_env _ _ _, launch0.least_env, fairChoices_fair.cas, fairChoices_fair.clock, w_frames, w_args, w_heap, w_applies, trivial, trivial, w_case⟩
end start1
theorem witness_1 : WitnessClaimed_1 := ⟨start1.p0, start1.e0, start1.about1, start1.theMethod, start1.args0, start1.below0, start1.atStart⟩
end Jvm.Pilot.@@N@@
