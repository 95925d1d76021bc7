import JvmDerived
import JvmDerived.Pilot.@@N@@Statement
import JvmDerived.Pilot.@@N@@Code
set_option linter.unusedVariables false
set_option linter.unusedSimpArgs false
namespace Jvm.RoadKit
open Sem ClassFile Op Lib Jvm.Stand Jvm.Free Jvm.LawKit
section New
variable {p : Program} {l : Launch} {e : Env} {R : Room} {s : State} {m : MethodId} {args : Array Value} {below : List Frame} {meth : Method} {c : Code} {T : State} {locs : List Loc} {cells slots : Nat}
theorem retI (X : Stand p l e R s m args below meth c T locs cells slots) (hx : p.tables.exec = Jvm.exec) {pc : Nat} {Ls : Array Slot} {z : Int32} {rest : List Value} (hret : meth.sig.returnType = some .int) (hd : decode c.code pc = .ok (.ireturn, 1)) {fs : List Frame}
    (hl : ∀ (f : JFrame) (acts : List Action), f.method = m → f.locked = none → f.entered = [] → (doReturn e (T.setTop f) acts (some (.int z))).1 = T.setFrames fs) : Steps p.tables e below (T.setTop (mkF m pc Ls (.int z :: rest))) (T.setFrames fs) := by
  have hm' : T.vm.method? m = some meth := X.method'
  have hn : narrow .int (.int z) = .int z := rfl
  show Steps p.tables e below (T.setTop { method := m, pc := pc, locals := Ls, stack := _ :: rest, locked := none }) _
  jvm_step X.here [X.here.top, hx, hd, hm', hret, hn]
  first | (intro acts; rw [hl _ acts rfl rfl rfl]) | rw [hl _ _ rfl rfl rfl]
  exact Steps.refl _
/-- from U the run comes to its end, and Q holds there -/
def OwnEnds (p : Program) (e : Env) (below : List Frame) (Q : Outcome → State → Prop) (U : State) : Prop := ∃ s₂ o, Steps p.tables e below U s₂ ∧ s₂.status = .running ∧ Ended s₂ below o ∧ Q o s₂
theorem OwnEnds.pre {Q : Outcome → State → Prop} {U U' : State} (h : ∀ t, Steps p.tables e below U' t → Steps p.tables e below U t) (k : OwnEnds p e below Q U') : OwnEnds p e below Q U := by
  obtain ⟨s₂, o, h1, h2⟩ := k
  exact ⟨s₂, o, h _ h1, h2⟩
def OwnQ (s : State) (Q : Option Value → Heap → List Loc → Prop) (C S : Nat) : Outcome → State → Prop := fun o U' => ∃ v L, o = .returned v ∧ Q v U'.heap L ∧ FrameEnd s o U' L C S
theorem own_endI (X : Stand p l e R s m args below meth c T locs cells slots) (hx : p.tables.exec = Jvm.exec) (hlocks : meth.locks = false) {pc : Nat} {Ls : Array Slot} {z : Int32} {rest : List Value} (hret : meth.sig.returnType = some .int) (hd : decode c.code pc = .ok (.ireturn, 1))
    {Q : Option Value → Heap → List Loc → Prop} {C S : Nat} (hC : cells ≤ C) (hS : slots ≤ S) (hQ : Q (some (.int z)) T.heap locs) : OwnEnds p e below (OwnQ s Q C S) (T.setTop (mkF m pc Ls (.int z :: rest))) := by
  obtain ⟨fs, hr, hrun, hended, hW, hsame⟩ := X.leave (v := some (.int z)) (fun h => by rw [hret] at h; cases h) hlocks
  exact ⟨_, _, retI X hx hret hd hr, hrun, hended, _, _, rfl, hQ, ⟨_, rfl⟩, hW, hsame.mono hC hS⟩
theorem own_endN (X : Stand p l e R s m args below meth c T locs cells slots) (hx : p.tables.exec = Jvm.exec) (hlocks : meth.locks = false) {pc : Nat} {Ls : Array Slot} {z z' : Int32} {t : FieldType} {rest : List Value} (hret : meth.sig.returnType = some t) (ht : t = .boolean ∨ t = .byte ∨ t = .char ∨ t = .short) (hd : decode c.code pc = .ok (.ireturn, 1)) (hz : nar t z = z')
    {Q : Option Value → Heap → List Loc → Prop} {C S : Nat} (hC : cells ≤ C) (hS : slots ≤ S) (hQ : Q (some (.int z')) T.heap locs) : OwnEnds p e below (OwnQ s Q C S) (T.setTop (mkF m pc Ls (.int z :: rest))) := by
  subst hz
  obtain ⟨fs, hr, hrun, hended, hW, hsame⟩ := X.leave (v := some (.int (nar t z))) (fun h => by rw [hret] at h; cases h) hlocks
  exact ⟨_, _, retN X hx hret ht hd hr, hrun, hended, _, _, rfl, hQ, ⟨_, rfl⟩, hW, hsame.mono hC hS⟩
theorem own_endJ (X : Stand p l e R s m args below meth c T locs cells slots) (hx : p.tables.exec = Jvm.exec) (hlocks : meth.locks = false) {pc : Nat} {Ls : Array Slot} {z : Int64} (hret : meth.sig.returnType = some .long) (hd : decode c.code pc = .ok (.lreturn, 1))
    {Q : Option Value → Heap → List Loc → Prop} {C S : Nat} (hC : cells ≤ C) (hS : slots ≤ S) (hQ : Q (some (.long z)) T.heap locs) : OwnEnds p e below (OwnQ s Q C S) (T.setTop (mkF m pc Ls [.long z])) := by
  obtain ⟨fs, hr, hrun, hended, hW, hsame⟩ := X.leave (v := some (.long z)) (fun h => by rw [hret] at h; cases h) hlocks
  exact ⟨_, _, X.lreturnOut hx hret hd hr, hrun, hended, _, _, rfl, hQ, ⟨_, rfl⟩, hW, hsame.mono hC hS⟩
theorem own_endV (X : Stand p l e R s m args below meth c T locs cells slots) (hx : p.tables.exec = Jvm.exec) (hlocks : meth.locks = false) {pc : Nat} {Ls : Array Slot} (hret : meth.sig.returnType = none) (hd : decode c.code pc = .ok (.return_, 1))
    {Q : Option Value → Heap → List Loc → Prop} {C S : Nat} (hC : cells ≤ C) (hS : slots ≤ S) (hQ : Q none T.heap locs) : OwnEnds p e below (OwnQ s Q C S) (T.setTop (mkF m pc Ls [])) := by
  obtain ⟨fs, hr, hrun, hended, hW, hsame⟩ := X.leave (v := none) (fun _ => rfl) hlocks
  exact ⟨_, _, X.returnOut hx hret hd hr, hrun, hended, _, _, rfl, hQ, ⟨_, rfl⟩, hW, hsame.mono hC hS⟩
theorem own_endR (X : Stand p l e R s m args below meth c T locs cells slots) (hx : p.tables.exec = Jvm.exec) (hlocks : meth.locks = false) {pc : Nat} {Ls : Array Slot} {w : Value} {t : FieldType} {rest : List Value} (hret : meth.sig.returnType = some t) (ht : t.isReference = true) (hw : w.isRef = true) (hd : decode c.code pc = .ok (.areturn, 1))
    {Q : Option Value → Heap → List Loc → Prop} {C S : Nat} (hC : cells ≤ C) (hS : slots ≤ S) (hQ : Q (some w) T.heap locs) : OwnEnds p e below (OwnQ s Q C S) (T.setTop (mkF m pc Ls (w :: rest))) := by
  obtain ⟨fs, hr, hrun, hended, hW, hsame⟩ := X.leave (v := some w) (fun h => by rw [hret] at h; cases h) hlocks
  have hn : narrow t w = w := by cases t <;> first | rfl | (cases ht)
  exact ⟨_, _, retOut X hx hret hn (Or.inr (Or.inr (Or.inr (Or.inr ⟨rfl, ht, hw⟩)))) hd hr, hrun, hended, _, _, rfl, hQ, ⟨_, rfl⟩, hW, hsame.mono hC hS⟩
theorem own_getI (l : List Int32) (i : Nat) : (l.map Value.int).getD i (.int 0) = .int (l.getD i 0) := by
  simp only [List.getD_eq_getElem?_getD, List.getElem?_map]
  cases l[i]? <;> rfl
theorem own_getJ (l : List Int64) (i : Nat) : (l.map Value.long).getD i (.long 0) = .long (l.getD i 0) := by
  simp only [List.getD_eq_getElem?_getD, List.getElem?_map]
  cases l[i]? <;> rfl
theorem own_nin0 {a : Addr} : a ∉ ([] : List Addr) := List.not_mem_nil
theorem own_nin1 {a b : Addr} (h : a ≠ b) : a ∉ [b] := by simpa using h
theorem own_nin2 {a b c : Addr} (h : a ≠ b) (h' : a ≠ c) : a ∉ [b, c] := by simpa using ⟨h, h'⟩
theorem own_staK0 {Z : State} {h h' : Heap} {C n d : String} {v : Value} (F : Sta Z h C n d v) (K : Keep h h' []) : Sta Z h' C n d v := by
  obtain ⟨cf, i, k, f, st, cell, h1, h2, h3, h4, h5, h6, h7⟩ := F
  exact ⟨cf, i, k, f, st, cell, h1, h2, h3, h4, K.2.1 st cell h5 own_nin0, h6, h7⟩
theorem own_staK1 {Z : State} {h h' : Heap} {C n d D : String} {v : Value} {x : Addr} (F : Sta Z h C n d v) (K : Keep h h' [x]) (E : Exa Z h x D) : Sta Z h' C n d v := by
  obtain ⟨cf, i, k, f, st, cell, h1, h2, h3, h4, h5, h6, h7⟩ := F
  obtain ⟨cl, kk, e1, e2, e3, e4, e5⟩ := E
  refine ⟨cf, i, k, f, st, cell, h1, h2, h3, h4, K.2.1 st cell h5 (own_nin1 fun q => ?_), h6, h7⟩
  subst q
  cases h5.symm.trans e1
  rw [h6] at e4
  cases e4
theorem own_nsroot {Z : State} {a0 : Array Value} {O K : String} {n : Nat} (w : (Cond.noSuperclass O).before a0 Z = true) (wk : (Cond.instantiable K n).before a0 Z = true) (hn : O ≠ K) : NS Z O K := by
  obtain ⟨c, k, h1, h2, h3, -, -⟩ := Cond.noSuperclass_spec w
  obtain ⟨t, kt, g1, -⟩ := Cond.instantiable_spec wk
  have ne := ids_ne h1 g1 hn
  refine ⟨c, t, h1, g1, fun fuel => ?_⟩
  cases fuel with
  | zero => rfl
  | succ f => simp [Vm.isSubclassAux, ne, h2, h3]
theorem own_nsno {Z : State} {a0 : Array Value} {C S K : String} {n : Nat} (w : (Cond.superclass C S).before a0 Z = true) (wk : (Cond.instantiable K n).before a0 Z = true) (ns : NS Z C K) (hn : C ≠ K) : ∃ c t, Z.vm.findClass C = some c ∧ Z.vm.findClass K = some t ∧ Z.vm.assignable c t = false := by
  obtain ⟨c, t, h0, g0, n3⟩ := ns
  obtain ⟨p, k, kp, h1, h2, h3, h4, h5, -, h7⟩ := Cond.superclass_spec h0 w
  obtain ⟨t', kt, g1, g2, g3, g4, -⟩ := Cond.instantiable_spec wk
  cases g0.symm.trans g1
  have g7 : kt.isInterface = false := by simp only [Bool.or_eq_false_iff] at g4; exact g4.1
  have ne := ids_ne h0 g0 hn
  refine ⟨c, t, h0, g0, ?_⟩
  show Z.vm.assignableAux (255 + 1) c t = false
  simp [Vm.assignableAux, ne, h2, g2, h5, g3, g7, Vm.isSubclass, n3]
end New
end Jvm.RoadKit
namespace Jvm.Pilot.@@N@@
open Jvm Jvm.ClassFile Sem Op Lib Jvm.Free Jvm.Stand Jvm.LawKit Jvm.RoadKit Bundle Jvm.Pilot.@@N@@.Jvm.D
theorem d4_0 : decode jdk_40_method_36_code 0 = .ok (.getstatic 90, 3) := by decide +kernel
theorem d4_3 : decode jdk_40_method_36_code 3 = .ok (.areturn, 1) := by decide +kernel
theorem ef_4 (m : MethodId)  : entryFrame m #[] 0 = mkF m 0 #[] [] := by first | (simp [entryFrame, mkF, argsToLocals, Value.category]; done) | rfl
theorem pn_0 : plainName "java/util/List" = true := by first | (simp [plainName, overriddenIn]; done) | decide +kernel
def f4_0 (xL : Addr) : Addr := xL
def Q4 (Z : State) (xL : Addr) (h0 : Heap) (n0 : Nat) (v : Option Value) (h : Heap) (L : List Loc) : Prop := v = some (.ref (f4_0 xL)) ∧ Fr n0 L ∧ h = h0
set_option maxRecDepth 65536 in
set_option maxHeartbeats 40000000 in
theorem rm4 (l : Launch) (Z : State) (aZ : Array Value) (hw : ∀ d ∈ tables_1, d.before aZ Z = true) (ws : List Jvm.Cond) (xL : Addr) (h0 : Heap) (n0 : Nat) (Z0 : n0 ≤ h0.size) (SL : Sta Z h0 "java/util/ImmutableCollections" "EMPTY_LIST" "Ljava/util/ImmutableCollections$ListN;" (.ref xL)) :
    MetFree l (⟨"java/util/List", "of", "()Ljava/util/List;"⟩ : MethodName) (head1 (Jvm.Cond.code (⟨"java/util/List", "of", "()Ljava/util/List;"⟩ : MethodName) jdk_40_method_36_code 0 (some (.object "java/util/List")) :: ws) ({ frames := 0, cells := 0, slots := 0, locals := 0 } : Room)) (fun a U => a = #[] ∧ Z.Warmed39 U.vm ∧ U.heap = h0) (fun _ _ _ _ _ => True) (fun _ U o U' => ∃ v L, o = .returned v ∧ Q4 Z xL h0 n0 v U'.heap L ∧ FrameEnd U o U' L 0 0) := by
  refine MetFree.of_bodySF (plainFor_of_name pn_0) hisR ?_
  intro p e s m args below meth c s₁ Bd hml0 hP hK
  obtain ⟨rfl, hZ, hh⟩ := hP
  have hx := Bd.exec
  have hby := Bd.bytes
  have hml : c.maxLocals = 0 := hml0
  have hown : s.vm.findClass "java/util/List" = some m.cls := findClass_of_methodNamed Bd.named
  have hnm := (name_of_methodNamed Bd.named Bd.method).1
  have hlk := BodyLoose.notSynchronized Bd
  have X0 : Stand p l e ({ frames := 0, cells := 0, slots := 0, locals := 0 } : Room) s m #[] below meth c s₁ [] 0 0 := Stand.of_body Bd
  have e0 : s₁.heap = h0 := by rw [← hh, Bd.state]; rfl
  have N0 := Fr.nil n0
  have hk0 : 0 ≤ 0 := Nat.zero_le _
  have hn0 : 0 ≤ 0 := Nat.zero_le _
  show OwnEnds p e below (OwnQ s (Q4 Z xL h0 n0) 0 0) (s₁.setTop (entryFrame m #[] 0))
  refine .pre (fun t k => castTop (ef_4 m ) k) ?_
  have hF : f4_0 xL = f4_0 xL := rfl
  change xL = _ at hF
  show OwnEnds p e below _ (s₁.setTop (mkF m 0 #[] []))
  obtain ⟨T2, X2, e2, st2⟩ := getS2 X0 hx hZ hown (host := "") (Or.inl (hw _ (List.mem_of_getElem? (i := 18) rfl))) Via.refl e0 SL (g := (mkF m 0 #[] [])) rfl (hb hby d4_0)
  refine .pre (fun _ k => st2 _ k) ?_
  show OwnEnds p e below _ (T2.setTop (mkF m 3 #[] [(.ref xL)]))
  exact own_endR X2 hx hlk Bd.returns rfl rfl (hb hby d4_3) hk0 hn0 ⟨congrArg (fun z => some (Value.ref z)) hF, N0, e2⟩
theorem d2_0 : decode prog_43_method_1_code 0 = .ok (.aload_n 0, 1) := by decide +kernel
theorem d2_1 : decode prog_43_method_1_code 1 = .ok (.invokespecial 1, 3) := by decide +kernel
theorem d2_4 : decode prog_43_method_1_code 4 = .ok (.aload_n 0, 1) := by decide +kernel
theorem d2_5 : decode prog_43_method_1_code 5 = .ok (.invokestatic 7, 3) := by decide +kernel
theorem d2_8 : decode prog_43_method_1_code 8 = .ok (.putfield 13, 3) := by decide +kernel
theorem d2_11 : decode prog_43_method_1_code 11 = .ok (.return_, 1) := by decide +kernel
theorem ef_2 (m : MethodId) (a0 : Addr) : entryFrame m #[(.ref a0)] 1 = mkF m 0 #[.val (.ref a0)] [] := by first | (simp [entryFrame, mkF, argsToLocals, Value.category]; done) | rfl
theorem pn_1 : plainName "com/example/hellowire/hellowire/codec/RespValue" = true := by first | (simp [plainName, overriddenIn]; done) | decide +kernel
theorem pd_2 : parseMethodDescriptor "()Ljava/util/List;" = some ⟨[], some (.object "java/util/List")⟩ := by decide +kernel
def Q2 (Z : State) (a0 : Addr) (xL : Addr) (u_attributes : Value) (u_value : Value) (h0 : Heap) (n0 : Nat) (v : Option Value) (h : Heap) (L : List Loc) : Prop := v = none ∧ Fr n0 L ∧ Keep h0 h [a0] ∧ Exa Z h a0 "com/example/hellowire/hellowire/codec/RespInteger" ∧ Fld Z h a0 "com/example/hellowire/hellowire/codec/RespValue" "attributes" "Ljava/util/List;" (.ref xL) ∧ Fld Z h a0 "com/example/hellowire/hellowire/codec/RespInteger" "value" "J" u_value
set_option maxRecDepth 65536 in
set_option maxHeartbeats 40000000 in
theorem rm2 (l : Launch) (Z : State) (aZ : Array Value) (hw : ∀ d ∈ tables_1, d.before aZ Z = true) (ws : List Jvm.Cond) (a0 : Addr) (xL : Addr) (u_attributes : Value) (u_value : Value) (h0 : Heap) (n0 : Nat) (Z0 : n0 ≤ h0.size) (SL : Sta Z h0 "java/util/ImmutableCollections" "EMPTY_LIST" "Ljava/util/ImmutableCollections$ListN;" (.ref xL)) (g_a0 : n0 ≤ a0) (E_a0 : Exa Z h0 a0 "com/example/hellowire/hellowire/codec/RespInteger") (F_u_attributes : Fld Z h0 a0 "com/example/hellowire/hellowire/codec/RespValue" "attributes" "Ljava/util/List;" u_attributes) (F_u_value : Fld Z h0 a0 "com/example/hellowire/hellowire/codec/RespInteger" "value" "J" u_value) :
    MetFree l (⟨"com/example/hellowire/hellowire/codec/RespValue", "<init>", "()V"⟩ : MethodName) (head1 (Jvm.Cond.code (⟨"com/example/hellowire/hellowire/codec/RespValue", "<init>", "()V"⟩ : MethodName) prog_43_method_1_code 1 none :: ws) ({ frames := 1, cells := 0, slots := 0, locals := 12 } : Room)) (fun a U => a = #[(.ref a0)] ∧ Z.Warmed39 U.vm ∧ U.heap = h0) (fun _ _ _ _ _ => True) (fun _ U o U' => ∃ v L, o = .returned v ∧ Q2 Z a0 xL u_attributes u_value h0 n0 v U'.heap L ∧ FrameEnd U o U' L 0 0) := by
  refine MetFree.of_bodySF (plainFor_of_name pn_1) hisR ?_
  intro p e s m args below meth c s₁ Bd hml0 hP hK
  obtain ⟨rfl, hZ, hh⟩ := hP
  have hx := Bd.exec
  have hby := Bd.bytes
  have hml : c.maxLocals = 1 := hml0
  have hown : s.vm.findClass "com/example/hellowire/hellowire/codec/RespValue" = some m.cls := findClass_of_methodNamed Bd.named
  have hnm := (name_of_methodNamed Bd.named Bd.method).1
  have hlk := BodyLoose.notSynchronized Bd
  have X0 : Stand p l e ({ frames := 1, cells := 0, slots := 0, locals := 12 } : Room) s m #[(.ref a0)] below meth c s₁ [] 0 0 := Stand.of_body Bd
  have e0 : s₁.heap = h0 := by rw [← hh, Bd.state]; rfl
  have N0 := Fr.nil n0
  have hk0 : 0 ≤ 0 := Nat.zero_le _
  have hn0 : 0 ≤ 0 := Nat.zero_le _
  show OwnEnds p e below (OwnQ s (Q2 Z a0 xL u_attributes u_value h0 n0) 0 0) (s₁.setTop (entryFrame m #[(.ref a0)] 1))
  refine .pre (fun t k => castTop (ef_2 m a0) k) ?_
  show OwnEnds p e below _ (s₁.setTop (mkF m 0 #[.val (.ref a0)] []))
  refine .pre (fun _ k => XS.aloadN X0.here hx rfl (hb hby d2_0) rfl rfl k) ?_
  show OwnEnds p e below _ (s₁.setTop (mkF m 1 #[.val (.ref a0)] [(.ref a0)]))
  obtain ⟨T1, X1, e1, st1⟩ := initO X0 hx hZ hown (hw _ (List.mem_of_getElem? (i := 11) rfl)) (hw _ (List.mem_of_getElem? (i := 12) rfl)) (hw _ (List.mem_of_getElem? (i := 13) rfl)) e0 (g := (mkF m 1 #[.val (.ref a0)] [(.ref a0)])) rfl (by rw [hml]; rfl) rfl (hb hby d2_1) (by decide) (W := 0) (by show 2 * 0 + _ ≤ _; exact Nat.le_of_eq rfl) (by decide)
  refine .pre (fun _ k => st1 _ k) ?_
  show OwnEnds p e below _ (T1.setTop (mkF m 4 #[.val (.ref a0)] []))
  refine .pre (fun _ k => XS.aloadN X1.here hx rfl (hb hby d2_4) rfl rfl k) ?_
  show OwnEnds p e below _ (T1.setTop (mkF m 5 #[.val (.ref a0)] [(.ref a0)]))
  obtain ⟨_, _, ⟨T2, L2, k2, n2⟩, -, X2, ⟨Lc2, hQ2, l2, y2, z2⟩, st2⟩ := Jvm.LawKit.callS X1 hx (y := (⟨"java/util/List", "of", "()Ljava/util/List;"⟩ : MethodName)) hown (mvT hZ (hw _ (List.mem_of_getElem? (i := 14) rfl))) (mvT hZ (hw _ (List.mem_of_getElem? (i := 15) rfl))) (mvT hZ (hw _ (List.mem_of_getElem? (i := 16) rfl))) (mvT hZ (hw _ (List.mem_of_getElem? (i := 17) rfl))) (by decide) (backOf (W := 1) (rm4 l Z aZ hw [] xL h0 n0 Z0 SL) hZ (hw _ (List.mem_of_getElem? (i := 17) rfl)) (hw _ (List.mem_of_getElem? (i := 16) rfl)) (by decide) (by decide)) (g := (mkF m 5 #[.val (.ref a0)] [(.ref a0)])) rfl (by rw [hml]; rfl) (argsL := []) (rest := [(.ref a0)]) (lenOf pd_2 rfl) rfl (by show 2 * 0 + _ ≤ _; exact Nat.le_of_eq rfl) (hb hby d2_5) (fun _ _ => ⟨rfl, e1, (by decide : 0 + 0 ≤ _), (by decide : 0 + 0 ≤ _)⟩)
  dsimp only [Pt.U, Pt.locs, Pt.cells, Pt.slots] at X2 l2 y2 z2 st2 hQ2
  subst l2 y2 z2
  obtain ⟨rfl, N2q, e2⟩ := hQ2
  have N2 := Fr.app N0 N2q
  refine .pre (fun _ k => st2 _ k) ?_
  show OwnEnds p e below _ (T2.setTop (mkF m 8 #[.val (.ref a0)] [(.ref xL), (.ref a0)]))
  obtain ⟨T3, h3, X3, e3, W3, st3⟩ := putF X2 hx hZ hown (host := "") (Or.inl (hw _ (List.mem_of_getElem? (i := 20) rfl))) Via.refl e2 F_u_attributes E_a0 (Or.inl (hw _ (List.mem_of_getElem? (i := 21) rfl))) (hw _ (List.mem_of_getElem? (i := 1) rfl)) (ty := (.object "java/util/List")) (by decide) rfl rfl (g := (mkF m 8 #[.val (.ref a0)] [(.ref xL), (.ref a0)])) rfl rfl (hb hby d2_8)
  have Fw3 := F_u_attributes.same W3
  have N3 := Fr.snoc X3 N2 g_a0
  have Kp3 : Keep h0 h3 [a0] := (Keep.refl h0 [a0]).wr W3 (Or.inl (List.mem_of_getElem? (i := 0) rfl))
  refine .pre (fun _ k => st3 _ k) ?_
  show OwnEnds p e below _ (T3.setTop (mkF m 11 #[.val (.ref a0)] []))
  exact own_endV X3 hx hlk Bd.returns (hb hby d2_11) (by decide) (by decide) ⟨rfl, N3, (by rw [e3]; exact Kp3), (by rw [e3]; exact (E_a0.wr W3)), (by rw [e3]; exact Fw3), (by rw [e3]; exact (F_u_value.other W3 (Or.inr (slot_ne (Or.inr (hw _ (List.mem_of_getElem? (i := 23) rfl))) (Or.inl (hw _ (List.mem_of_getElem? (i := 21) rfl))) (by decide) (t := .long) (t' := (.object "java/util/List")) (by decide) (by decide)))))⟩
theorem d1_0 : decode prog_37_method_1_code 0 = .ok (.aload_n 0, 1) := by decide +kernel
theorem d1_1 : decode prog_37_method_1_code 1 = .ok (.invokespecial 1, 3) := by decide +kernel
theorem d1_4 : decode prog_37_method_1_code 4 = .ok (.aload_n 0, 1) := by decide +kernel
theorem d1_5 : decode prog_37_method_1_code 5 = .ok (.lload_n 1, 1) := by decide +kernel
theorem d1_6 : decode prog_37_method_1_code 6 = .ok (.putfield 7, 3) := by decide +kernel
theorem d1_9 : decode prog_37_method_1_code 9 = .ok (.return_, 1) := by decide +kernel
theorem ef_1 (m : MethodId) (a0 : Addr) (q1 : Int64) : entryFrame m #[(.ref a0), (.long q1)] 3 = mkF m 0 #[.val (.ref a0), .val (.long q1), .second] [] := by first | (simp [entryFrame, mkF, argsToLocals, Value.category]; done) | rfl
theorem pn_3 : plainName "com/example/hellowire/hellowire/codec/RespInteger" = true := by first | (simp [plainName, overriddenIn]; done) | decide +kernel
theorem pd_4 : parseMethodDescriptor "()V" = some ⟨[], none⟩ := by decide +kernel
def Q1 (Z : State) (a0 : Addr) (q1 : Int64) (xL : Addr) (u_attributes : Value) (u_value : Value) (h0 : Heap) (n0 : Nat) (v : Option Value) (h : Heap) (L : List Loc) : Prop := v = none ∧ Fr n0 L ∧ Keep h0 h [a0] ∧ Exa Z h a0 "com/example/hellowire/hellowire/codec/RespInteger" ∧ Fld Z h a0 "com/example/hellowire/hellowire/codec/RespValue" "attributes" "Ljava/util/List;" (.ref xL) ∧ Fld Z h a0 "com/example/hellowire/hellowire/codec/RespInteger" "value" "J" (.long q1)
set_option maxRecDepth 65536 in
set_option maxHeartbeats 40000000 in
theorem rm1 (l : Launch) (Z : State) (aZ : Array Value) (hw : ∀ d ∈ tables_1, d.before aZ Z = true) (ws : List Jvm.Cond) (a0 : Addr) (q1 : Int64) (xL : Addr) (u_attributes : Value) (u_value : Value) (h0 : Heap) (n0 : Nat) (Z0 : n0 ≤ h0.size) (SL : Sta Z h0 "java/util/ImmutableCollections" "EMPTY_LIST" "Ljava/util/ImmutableCollections$ListN;" (.ref xL)) (g_a0 : n0 ≤ a0) (E_a0 : Exa Z h0 a0 "com/example/hellowire/hellowire/codec/RespInteger") (F_u_attributes : Fld Z h0 a0 "com/example/hellowire/hellowire/codec/RespValue" "attributes" "Ljava/util/List;" u_attributes) (F_u_value : Fld Z h0 a0 "com/example/hellowire/hellowire/codec/RespInteger" "value" "J" u_value) :
    MetFree l (⟨"com/example/hellowire/hellowire/codec/RespInteger", "<init>", "(J)V"⟩ : MethodName) (head1 (Jvm.Cond.code (⟨"com/example/hellowire/hellowire/codec/RespInteger", "<init>", "(J)V"⟩ : MethodName) prog_37_method_1_code 3 none :: ws) ({ frames := 2, cells := 0, slots := 0, locals := 24 } : Room)) (fun a U => a = #[(.ref a0), (.long q1)] ∧ Z.Warmed39 U.vm ∧ U.heap = h0) (fun _ _ _ _ _ => True) (fun _ U o U' => ∃ v L, o = .returned v ∧ Q1 Z a0 q1 xL u_attributes u_value h0 n0 v U'.heap L ∧ FrameEnd U o U' L 0 0) := by
  refine MetFree.of_bodySF (plainFor_of_name pn_3) hisR ?_
  intro p e s m args below meth c s₁ Bd hml0 hP hK
  obtain ⟨rfl, hZ, hh⟩ := hP
  have hx := Bd.exec
  have hby := Bd.bytes
  have hml : c.maxLocals = 3 := hml0
  have hown : s.vm.findClass "com/example/hellowire/hellowire/codec/RespInteger" = some m.cls := findClass_of_methodNamed Bd.named
  have hnm := (name_of_methodNamed Bd.named Bd.method).1
  have hlk := BodyLoose.notSynchronized Bd
  have X0 : Stand p l e ({ frames := 2, cells := 0, slots := 0, locals := 24 } : Room) s m #[(.ref a0), (.long q1)] below meth c s₁ [] 0 0 := Stand.of_body Bd
  have e0 : s₁.heap = h0 := by rw [← hh, Bd.state]; rfl
  have N0 := Fr.nil n0
  have hk0 : 0 ≤ 0 := Nat.zero_le _
  have hn0 : 0 ≤ 0 := Nat.zero_le _
  show OwnEnds p e below (OwnQ s (Q1 Z a0 q1 xL u_attributes u_value h0 n0) 0 0) (s₁.setTop (entryFrame m #[(.ref a0), (.long q1)] 3))
  refine .pre (fun t k => castTop (ef_1 m a0 q1) k) ?_
  show OwnEnds p e below _ (s₁.setTop (mkF m 0 #[.val (.ref a0), .val (.long q1), .second] []))
  refine .pre (fun _ k => XS.aloadN X0.here hx rfl (hb hby d1_0) rfl rfl k) ?_
  show OwnEnds p e below _ (s₁.setTop (mkF m 1 #[.val (.ref a0), .val (.long q1), .second] [(.ref a0)]))
  obtain ⟨_, _, ⟨T1, L1, k1, n1⟩, -, X1, ⟨Lc1, hQ1, l1, y1, z1⟩, st1⟩ := X0.specialBack hx (y := (⟨"com/example/hellowire/hellowire/codec/RespValue", "<init>", "()V"⟩ : MethodName)) rfl hown (mvT hZ (hw _ (List.mem_of_getElem? (i := 6) rfl))) (mvT hZ (hw _ (List.mem_of_getElem? (i := 7) rfl))) (mvT hZ (hw _ (List.mem_of_getElem? (i := 10) rfl))) (by decide) (backOf (W := 0) (rm2 l Z aZ hw [] a0 xL u_attributes u_value h0 n0 Z0 SL g_a0 E_a0 F_u_attributes F_u_value) hZ (hw _ (List.mem_of_getElem? (i := 10) rfl)) (hw _ (List.mem_of_getElem? (i := 9) rfl)) (by decide) (by decide)) (g := (mkF m 1 #[.val (.ref a0), .val (.long q1), .second] [(.ref a0)])) rfl (by rw [hml]; rfl) (Steps.refl _) (a := a0) (argsL := []) (rest := []) (lenOf pd_4 rfl) rfl (by show 2 * 0 + _ ≤ _; exact Nat.le_of_eq rfl) (hb hby d1_1) (fun _ _ => ⟨rfl, e0, (by decide : 0 + 0 ≤ _), (by decide : 0 + 0 ≤ _)⟩)
  dsimp only [Pt.U, Pt.locs, Pt.cells, Pt.slots] at X1 l1 y1 z1 st1 hQ1
  subst l1 y1 z1
  obtain ⟨rfl, N1q, K1, Ea1, Fa1_0, Fa1_1⟩ := hQ1
  have N1 := Fr.app N0 N1q
  refine .pre (fun _ k => st1.trans k) ?_
  have Kp1 : Keep h0 T1.heap [a0] := (Keep.refl h0 [a0]).trans K1 (allS (Or.inl (List.mem_of_getElem? (i := 0) rfl)) all0)
  show OwnEnds p e below _ (T1.setTop (mkF m 4 #[.val (.ref a0), .val (.long q1), .second] []))
  refine .pre (fun _ k => XS.aloadN X1.here hx rfl (hb hby d1_4) rfl rfl k) ?_
  show OwnEnds p e below _ (T1.setTop (mkF m 5 #[.val (.ref a0), .val (.long q1), .second] [(.ref a0)]))
  refine .pre (fun _ k => XS.lloadN X1.here hx rfl (hb hby d1_5) rfl k) ?_
  show OwnEnds p e below _ (T1.setTop (mkF m 6 #[.val (.ref a0), .val (.long q1), .second] [(.long q1), (.ref a0)]))
  obtain ⟨T2, h2, X2, e2, W2, st2⟩ := putF X1 hx hZ hown (host := "") (Or.inl (hw _ (List.mem_of_getElem? (i := 22) rfl))) Via.refl rfl Fa1_1 Ea1 (Or.inr ⟨(hw _ (List.mem_of_getElem? (i := 23) rfl)), rfl, hnm⟩) (hw _ (List.mem_of_getElem? (i := 1) rfl)) (ty := .long) (by decide) rfl rfl (g := (mkF m 6 #[.val (.ref a0), .val (.long q1), .second] [(.long q1), (.ref a0)])) rfl rfl (hb hby d1_6)
  have Fw2 := Fa1_1.same W2
  have N2 := Fr.snoc X2 N1 g_a0
  have Kp2 : Keep h0 h2 [a0] := Kp1.wr W2 (Or.inl (List.mem_of_getElem? (i := 0) rfl))
  refine .pre (fun _ k => st2 _ k) ?_
  show OwnEnds p e below _ (T2.setTop (mkF m 9 #[.val (.ref a0), .val (.long q1), .second] []))
  exact own_endV X2 hx hlk Bd.returns (hb hby d1_9) (by decide) (by decide) ⟨rfl, N2, (by rw [e2]; exact Kp2), (by rw [e2]; exact (Ea1.wr W2)), (by rw [e2]; exact (Fa1_0.other W2 (Or.inr (slot_ne (Or.inl (hw _ (List.mem_of_getElem? (i := 21) rfl))) (Or.inr (hw _ (List.mem_of_getElem? (i := 23) rfl))) (by decide) (t := (.object "java/util/List")) (t' := .long) (by decide) (by decide))))), (by rw [e2]; exact Fw2)⟩
theorem d5_0 : decode prog_37_method_3_code 0 = .ok (.aload_n 1, 1) := by decide +kernel
theorem d5_1 : decode prog_37_method_3_code 1 = .ok (.instanceof 8, 3) := by decide +kernel
theorem d5_4 : decode prog_37_method_3_code 4 = .ok (.ifCond .eq 24, 3) := by decide +kernel
theorem d5_7 : decode prog_37_method_3_code 7 = .ok (.aload_n 1, 1) := by decide +kernel
theorem d5_8 : decode prog_37_method_3_code 8 = .ok (.checkcast 8, 3) := by decide +kernel
theorem d5_11 : decode prog_37_method_3_code 11 = .ok (.astore_n 2, 1) := by decide +kernel
theorem d5_12 : decode prog_37_method_3_code 12 = .ok (.aload_n 2, 1) := by decide +kernel
theorem d5_13 : decode prog_37_method_3_code 13 = .ok (.getfield 7, 3) := by decide +kernel
theorem d5_16 : decode prog_37_method_3_code 16 = .ok (.aload_n 0, 1) := by decide +kernel
theorem d5_17 : decode prog_37_method_3_code 17 = .ok (.getfield 7, 3) := by decide +kernel
theorem d5_20 : decode prog_37_method_3_code 20 = .ok (.lcmp, 1) := by decide +kernel
theorem d5_21 : decode prog_37_method_3_code 21 = .ok (.ifCond .ne 7, 3) := by decide +kernel
theorem d5_24 : decode prog_37_method_3_code 24 = .ok (.iconst 1, 1) := by decide +kernel
theorem d5_25 : decode prog_37_method_3_code 25 = .ok (.goto 4, 3) := by decide +kernel
theorem d5_28 : decode prog_37_method_3_code 28 = .ok (.iconst 0, 1) := by decide +kernel
theorem d5_29 : decode prog_37_method_3_code 29 = .ok (.ireturn, 1) := by decide +kernel
theorem ef_5A (m : MethodId) (a0 : Addr) (a1 : Addr) : entryFrame m #[(.ref a0), (.ref a1)] 3 = mkF m 0 #[.val (.ref a0), .val (.ref a1), .unset] [] := by first | (simp [entryFrame, mkF, argsToLocals, Value.category]; done) | rfl
def f5A_0 (w0 : Int64) (w1 : Int64) : Int32 := (if (lcmpW w1 w0) = (0 : Int32) then (1 : Int32) else (0 : Int32))
def Q5A (Z : State) (a0 : Addr) (a1 : Addr) (w0 : Int64) (w1 : Int64) (h0 : Heap) (n0 : Nat) (v : Option Value) (h : Heap) (L : List Loc) : Prop := v = some (.int (f5A_0 w0 w1)) ∧ Fr n0 L ∧ h = h0
set_option maxRecDepth 65536 in
set_option maxHeartbeats 40000000 in
theorem rm5A (l : Launch) (Z : State) (aZ : Array Value) (hw : ∀ d ∈ tables_1, d.before aZ Z = true) (ws : List Jvm.Cond) (a0 : Addr) (a1 : Addr) (w0 : Int64) (w1 : Int64) (h0 : Heap) (n0 : Nat) (Z0 : n0 ≤ h0.size) (F0 : Fld Z h0 a0 "com/example/hellowire/hellowire/codec/RespInteger" "value" "J" (.long w0)) (E1 : Exa Z h0 a1 "com/example/hellowire/hellowire/codec/RespInteger") (F1 : Fld Z h0 a1 "com/example/hellowire/hellowire/codec/RespInteger" "value" "J" (.long w1)) :
    MetFree l (⟨"com/example/hellowire/hellowire/codec/RespInteger", "equals", "(Ljava/lang/Object;)Z"⟩ : MethodName) (head1 (Jvm.Cond.code (⟨"com/example/hellowire/hellowire/codec/RespInteger", "equals", "(Ljava/lang/Object;)Z"⟩ : MethodName) prog_37_method_3_code 3 (some .boolean) :: ws) ({ frames := 0, cells := 0, slots := 0, locals := 0 } : Room)) (fun a U => a = #[(.ref a0), (.ref a1)] ∧ Z.Warmed39 U.vm ∧ U.heap = h0) (fun _ _ _ _ _ => True) (fun _ U o U' => ∃ v L, o = .returned v ∧ Q5A Z a0 a1 w0 w1 h0 n0 v U'.heap L ∧ FrameEnd U o U' L 0 0) := by
  refine MetFree.of_bodySF (plainFor_of_name pn_3) hisR ?_
  intro p e s m args below meth c s₁ Bd hml0 hP hK
  obtain ⟨rfl, hZ, hh⟩ := hP
  have hx := Bd.exec
  have hby := Bd.bytes
  have hml : c.maxLocals = 3 := hml0
  have hown : s.vm.findClass "com/example/hellowire/hellowire/codec/RespInteger" = some m.cls := findClass_of_methodNamed Bd.named
  have hnm := (name_of_methodNamed Bd.named Bd.method).1
  have hlk := BodyLoose.notSynchronized Bd
  have X0 : Stand p l e ({ frames := 0, cells := 0, slots := 0, locals := 0 } : Room) s m #[(.ref a0), (.ref a1)] below meth c s₁ [] 0 0 := Stand.of_body Bd
  have e0 : s₁.heap = h0 := by rw [← hh, Bd.state]; rfl
  have N0 := Fr.nil n0
  have hk0 : 0 ≤ 0 := Nat.zero_le _
  have hn0 : 0 ≤ 0 := Nat.zero_le _
  show OwnEnds p e below (OwnQ s (Q5A Z a0 a1 w0 w1 h0 n0) 0 0) (s₁.setTop (entryFrame m #[(.ref a0), (.ref a1)] 3))
  refine .pre (fun t k => castTop (ef_5A m a0 a1) k) ?_
  have hF : f5A_0 w0 w1 = f5A_0 w0 w1 := rfl
  change (if (lcmpW w1 w0) = (0 : Int32) then (1 : Int32) else (0 : Int32)) = _ at hF
  show OwnEnds p e below _ (s₁.setTop (mkF m 0 #[.val (.ref a0), .val (.ref a1), .unset] []))
  refine .pre (fun _ k => XS.aloadN X0.here hx rfl (hb hby d5_0) rfl rfl k) ?_
  show OwnEnds p e below _ (s₁.setTop (mkF m 1 #[.val (.ref a0), .val (.ref a1), .unset] [(.ref a1)]))
  obtain ⟨T5, X5, e5, st5⟩ := instY X0 hx hZ hown (hw _ (List.mem_of_getElem? (i := 29) rfl)) e0 (Ins.self E1) (g := (mkF m 1 #[.val (.ref a0), .val (.ref a1), .unset] [(.ref a1)])) rfl rfl (hb hby d5_1)
  refine .pre (fun _ k => st5 _ k) ?_
  show OwnEnds p e below _ (T5.setTop (mkF m 4 #[.val (.ref a0), .val (.ref a1), .unset] [(.int (1 : Int32))]))
  have hc4 : ¬ ((1 : Int32) = (0 : Int32)) := by decide
  refine .pre (fun _ k => XS.ifNo X5.here hx rfl (hb hby d5_4) rfl ((if0 _ _).trans (feq hc4).1) k) ?_
  show OwnEnds p e below _ (T5.setTop (mkF m 7 #[.val (.ref a0), .val (.ref a1), .unset] []))
  refine .pre (fun _ k => XS.aloadN X5.here hx rfl (hb hby d5_7) rfl rfl k) ?_
  show OwnEnds p e below _ (T5.setTop (mkF m 8 #[.val (.ref a0), .val (.ref a1), .unset] [(.ref a1)]))
  obtain ⟨T6, X6, e6, st6⟩ := castY X5 hx hZ hown (hw _ (List.mem_of_getElem? (i := 29) rfl)) e5 (Ins.self E1) (g := (mkF m 8 #[.val (.ref a0), .val (.ref a1), .unset] [(.ref a1)])) rfl rfl (hb hby d5_8)
  refine .pre (fun _ k => st6 _ k) ?_
  show OwnEnds p e below _ (T6.setTop (mkF m 11 #[.val (.ref a0), .val (.ref a1), .unset] [(.ref a1)]))
  refine .pre (fun _ k => XS.astoreN X6.here hx rfl (hb hby d5_11) rfl rfl (l' := #[.val (.ref a0), .val (.ref a1), .val (.ref a1)]) rfl k) ?_
  show OwnEnds p e below _ (T6.setTop (mkF m 12 #[.val (.ref a0), .val (.ref a1), .val (.ref a1)] []))
  refine .pre (fun _ k => XS.aloadN X6.here hx rfl (hb hby d5_12) rfl rfl k) ?_
  show OwnEnds p e below _ (T6.setTop (mkF m 13 #[.val (.ref a0), .val (.ref a1), .val (.ref a1)] [(.ref a1)]))
  obtain ⟨T7, X7, e7, st7⟩ := getF X6 hx hZ hown (host := "") (Or.inl (hw _ (List.mem_of_getElem? (i := 22) rfl))) Via.refl e6 F1 (g := (mkF m 13 #[.val (.ref a0), .val (.ref a1), .val (.ref a1)] [(.ref a1)])) rfl rfl (hb hby d5_13)
  refine .pre (fun _ k => st7 _ k) ?_
  show OwnEnds p e below _ (T7.setTop (mkF m 16 #[.val (.ref a0), .val (.ref a1), .val (.ref a1)] [(.long w1)]))
  refine .pre (fun _ k => XS.aloadN X7.here hx rfl (hb hby d5_16) rfl rfl k) ?_
  show OwnEnds p e below _ (T7.setTop (mkF m 17 #[.val (.ref a0), .val (.ref a1), .val (.ref a1)] [(.ref a0), (.long w1)]))
  obtain ⟨T8, X8, e8, st8⟩ := getF X7 hx hZ hown (host := "") (Or.inl (hw _ (List.mem_of_getElem? (i := 22) rfl))) Via.refl e7 F0 (g := (mkF m 17 #[.val (.ref a0), .val (.ref a1), .val (.ref a1)] [(.ref a0), (.long w1)])) rfl rfl (hb hby d5_17)
  refine .pre (fun _ k => st8 _ k) ?_
  show OwnEnds p e below _ (T8.setTop (mkF m 20 #[.val (.ref a0), .val (.ref a1), .val (.ref a1)] [(.long w0), (.long w1)]))
  refine .pre (fun _ k => XS.lcmp X8.here hx rfl (hb hby d5_20) rfl k) ?_
  show OwnEnds p e below _ (T8.setTop (mkF m 21 #[.val (.ref a0), .val (.ref a1), .val (.ref a1)] [(.int (lcmpW w1 w0))]))
  by_cases hc21 : (lcmpW w1 w0) = (0 : Int32)
  · rw [if_pos hc21] at hF
    refine .pre (fun _ k => XS.ifNo X8.here hx rfl (hb hby d5_21) rfl ((if0 _ _).trans (teq hc21).2) k) ?_
    show OwnEnds p e below _ (T8.setTop (mkF m 24 #[.val (.ref a0), .val (.ref a1), .val (.ref a1)] []))
    refine .pre (fun _ k => XS.iconst X8.here hx rfl (hb hby d5_24) k) ?_
    show OwnEnds p e below _ (T8.setTop (mkF m 25 #[.val (.ref a0), .val (.ref a1), .val (.ref a1)] [(.int (1 : Int32))]))
    refine .pre (fun _ k => XS.goto X8.here hx rfl (pc0 := 25) (pc' := 29) rfl (hb hby d5_25) (by decide) (by decide) k) ?_
    show OwnEnds p e below _ (T8.setTop (mkF m 29 #[.val (.ref a0), .val (.ref a1), .val (.ref a1)] [(.int (1 : Int32))]))
    exact own_endN X8 hx hlk (t := .boolean) Bd.returns (by simp) (hb hby d5_29) rfl hk0 hn0 ⟨congrArg (fun z => some (Value.int z)) hF, N0, e8⟩
  · rw [if_neg hc21] at hF
    refine .pre (fun _ k => XS.ifYes X8.here hx rfl (pc0 := 21) (pc' := 28) rfl (hb hby d5_21) rfl ((if0 _ _).trans (feq hc21).2) (by decide) (by decide) k) ?_
    show OwnEnds p e below _ (T8.setTop (mkF m 28 #[.val (.ref a0), .val (.ref a1), .val (.ref a1)] []))
    refine .pre (fun _ k => XS.iconst X8.here hx rfl (hb hby d5_28) k) ?_
    show OwnEnds p e below _ (T8.setTop (mkF m 29 #[.val (.ref a0), .val (.ref a1), .val (.ref a1)] [(.int (0 : Int32))]))
    exact own_endN X8 hx hlk (t := .boolean) Bd.returns (by simp) (hb hby d5_29) rfl hk0 hn0 ⟨congrArg (fun z => some (Value.int z)) hF, N0, e8⟩
theorem ef_5B (m : MethodId) (a0 : Addr) (a1 : Addr) : entryFrame m #[(.ref a0), (.ref a1)] 3 = mkF m 0 #[.val (.ref a0), .val (.ref a1), .unset] [] := by first | (simp [entryFrame, mkF, argsToLocals, Value.category]; done) | rfl
def f5B_0  : Int32 := (0 : Int32)
def Q5B (Z : State) (a0 : Addr) (a1 : Addr) (h0 : Heap) (n0 : Nat) (v : Option Value) (h : Heap) (L : List Loc) : Prop := v = some (.int (f5B_0)) ∧ Fr n0 L ∧ h = h0
set_option maxRecDepth 65536 in
set_option maxHeartbeats 40000000 in
theorem rm5B (l : Launch) (Z : State) (aZ : Array Value) (hw : ∀ d ∈ tables_1, d.before aZ Z = true) (ws : List Jvm.Cond) (a0 : Addr) (a1 : Addr) (h0 : Heap) (n0 : Nat) (Z0 : n0 ≤ h0.size) (E1 : Exa Z h0 a1 "com/example/hellowire/hellowire/codec/RespNull") :
    MetFree l (⟨"com/example/hellowire/hellowire/codec/RespInteger", "equals", "(Ljava/lang/Object;)Z"⟩ : MethodName) (head1 (Jvm.Cond.code (⟨"com/example/hellowire/hellowire/codec/RespInteger", "equals", "(Ljava/lang/Object;)Z"⟩ : MethodName) prog_37_method_3_code 3 (some .boolean) :: ws) ({ frames := 0, cells := 0, slots := 0, locals := 0 } : Room)) (fun a U => a = #[(.ref a0), (.ref a1)] ∧ Z.Warmed39 U.vm ∧ U.heap = h0) (fun _ _ _ _ _ => True) (fun _ U o U' => ∃ v L, o = .returned v ∧ Q5B Z a0 a1 h0 n0 v U'.heap L ∧ FrameEnd U o U' L 0 0) := by
  refine MetFree.of_bodySF (plainFor_of_name pn_3) hisR ?_
  intro p e s m args below meth c s₁ Bd hml0 hP hK
  obtain ⟨rfl, hZ, hh⟩ := hP
  have hx := Bd.exec
  have hby := Bd.bytes
  have hml : c.maxLocals = 3 := hml0
  have hown : s.vm.findClass "com/example/hellowire/hellowire/codec/RespInteger" = some m.cls := findClass_of_methodNamed Bd.named
  have hnm := (name_of_methodNamed Bd.named Bd.method).1
  have hlk := BodyLoose.notSynchronized Bd
  have X0 : Stand p l e ({ frames := 0, cells := 0, slots := 0, locals := 0 } : Room) s m #[(.ref a0), (.ref a1)] below meth c s₁ [] 0 0 := Stand.of_body Bd
  have e0 : s₁.heap = h0 := by rw [← hh, Bd.state]; rfl
  have N0 := Fr.nil n0
  have hk0 : 0 ≤ 0 := Nat.zero_le _
  have hn0 : 0 ≤ 0 := Nat.zero_le _
  show OwnEnds p e below (OwnQ s (Q5B Z a0 a1 h0 n0) 0 0) (s₁.setTop (entryFrame m #[(.ref a0), (.ref a1)] 3))
  refine .pre (fun t k => castTop (ef_5B m a0 a1) k) ?_
  have hF : f5B_0 = f5B_0 := rfl
  change (0 : Int32) = _ at hF
  show OwnEnds p e below _ (s₁.setTop (mkF m 0 #[.val (.ref a0), .val (.ref a1), .unset] []))
  refine .pre (fun _ k => XS.aloadN X0.here hx rfl (hb hby d5_0) rfl rfl k) ?_
  show OwnEnds p e below _ (s₁.setTop (mkF m 1 #[.val (.ref a0), .val (.ref a1), .unset] [(.ref a1)]))
  obtain ⟨T2, X2, e2, st2⟩ := instNo X0 hx hZ hown (hw _ (List.mem_of_getElem? (i := 29) rfl)) e0 E1 (own_nsno (hw _ (List.mem_of_getElem? (i := 34) rfl)) (hw _ (List.mem_of_getElem? (i := 1) rfl)) (NS.step (hw _ (List.mem_of_getElem? (i := 34) rfl)) (NS.step (hw _ (List.mem_of_getElem? (i := 35) rfl)) (own_nsroot (hw _ (List.mem_of_getElem? (i := 36) rfl)) (hw _ (List.mem_of_getElem? (i := 1) rfl)) (by decide)) (by decide)) (by decide)) (by decide)) (g := (mkF m 1 #[.val (.ref a0), .val (.ref a1), .unset] [(.ref a1)])) rfl rfl (hb hby d5_1)
  refine .pre (fun _ k => st2 _ k) ?_
  show OwnEnds p e below _ (T2.setTop (mkF m 4 #[.val (.ref a0), .val (.ref a1), .unset] [(.int (0 : Int32))]))
  have hc4 : ((0 : Int32) = (0 : Int32)) := by decide
  refine .pre (fun _ k => XS.ifYes X2.here hx rfl (pc0 := 4) (pc' := 28) rfl (hb hby d5_4) rfl ((if0 _ _).trans (teq hc4).1) (by decide) (by decide) k) ?_
  show OwnEnds p e below _ (T2.setTop (mkF m 28 #[.val (.ref a0), .val (.ref a1), .unset] []))
  refine .pre (fun _ k => XS.iconst X2.here hx rfl (hb hby d5_28) k) ?_
  show OwnEnds p e below _ (T2.setTop (mkF m 29 #[.val (.ref a0), .val (.ref a1), .unset] [(.int (0 : Int32))]))
  exact own_endN X2 hx hlk (t := .boolean) Bd.returns (by simp) (hb hby d5_29) rfl hk0 hn0 ⟨congrArg (fun z => some (Value.int z)) hF, N0, e2⟩
theorem ef_5C (m : MethodId) (a0 : Addr) : entryFrame m #[(.ref a0), .null] 3 = mkF m 0 #[.val (.ref a0), .val .null, .unset] [] := by first | (simp [entryFrame, mkF, argsToLocals, Value.category]; done) | rfl
def f5C_0  : Int32 := (0 : Int32)
def Q5C (Z : State) (a0 : Addr) (h0 : Heap) (n0 : Nat) (v : Option Value) (h : Heap) (L : List Loc) : Prop := v = some (.int (f5C_0)) ∧ Fr n0 L ∧ h = h0
set_option maxRecDepth 65536 in
set_option maxHeartbeats 40000000 in
theorem rm5C (l : Launch) (Z : State) (aZ : Array Value) (hw : ∀ d ∈ tables_1, d.before aZ Z = true) (ws : List Jvm.Cond) (a0 : Addr) (h0 : Heap) (n0 : Nat) (Z0 : n0 ≤ h0.size) :
    MetFree l (⟨"com/example/hellowire/hellowire/codec/RespInteger", "equals", "(Ljava/lang/Object;)Z"⟩ : MethodName) (head1 (Jvm.Cond.code (⟨"com/example/hellowire/hellowire/codec/RespInteger", "equals", "(Ljava/lang/Object;)Z"⟩ : MethodName) prog_37_method_3_code 3 (some .boolean) :: ws) ({ frames := 0, cells := 0, slots := 0, locals := 0 } : Room)) (fun a U => a = #[(.ref a0), .null] ∧ Z.Warmed39 U.vm ∧ U.heap = h0) (fun _ _ _ _ _ => True) (fun _ U o U' => ∃ v L, o = .returned v ∧ Q5C Z a0 h0 n0 v U'.heap L ∧ FrameEnd U o U' L 0 0) := by
  refine MetFree.of_bodySF (plainFor_of_name pn_3) hisR ?_
  intro p e s m args below meth c s₁ Bd hml0 hP hK
  obtain ⟨rfl, hZ, hh⟩ := hP
  have hx := Bd.exec
  have hby := Bd.bytes
  have hml : c.maxLocals = 3 := hml0
  have hown : s.vm.findClass "com/example/hellowire/hellowire/codec/RespInteger" = some m.cls := findClass_of_methodNamed Bd.named
  have hnm := (name_of_methodNamed Bd.named Bd.method).1
  have hlk := BodyLoose.notSynchronized Bd
  have X0 : Stand p l e ({ frames := 0, cells := 0, slots := 0, locals := 0 } : Room) s m #[(.ref a0), .null] below meth c s₁ [] 0 0 := Stand.of_body Bd
  have e0 : s₁.heap = h0 := by rw [← hh, Bd.state]; rfl
  have N0 := Fr.nil n0
  have hk0 : 0 ≤ 0 := Nat.zero_le _
  have hn0 : 0 ≤ 0 := Nat.zero_le _
  show OwnEnds p e below (OwnQ s (Q5C Z a0 h0 n0) 0 0) (s₁.setTop (entryFrame m #[(.ref a0), .null] 3))
  refine .pre (fun t k => castTop (ef_5C m a0) k) ?_
  have hF : f5C_0 = f5C_0 := rfl
  change (0 : Int32) = _ at hF
  show OwnEnds p e below _ (s₁.setTop (mkF m 0 #[.val (.ref a0), .val .null, .unset] []))
  refine .pre (fun _ k => XS.aloadN X0.here hx rfl (hb hby d5_0) rfl rfl k) ?_
  show OwnEnds p e below _ (s₁.setTop (mkF m 1 #[.val (.ref a0), .val .null, .unset] [.null]))
  refine .pre (fun _ k => X0.instanceofNull hx (g := (mkF m 1 #[.val (.ref a0), .val .null, .unset] [.null])) rfl rfl (hb hby d5_1) _ k) ?_
  show OwnEnds p e below _ (s₁.setTop (mkF m 4 #[.val (.ref a0), .val .null, .unset] [(.int (0 : Int32))]))
  have hc4 : ((0 : Int32) = (0 : Int32)) := by decide
  refine .pre (fun _ k => XS.ifYes X0.here hx rfl (pc0 := 4) (pc' := 28) rfl (hb hby d5_4) rfl ((if0 _ _).trans (teq hc4).1) (by decide) (by decide) k) ?_
  show OwnEnds p e below _ (s₁.setTop (mkF m 28 #[.val (.ref a0), .val .null, .unset] []))
  refine .pre (fun _ k => XS.iconst X0.here hx rfl (hb hby d5_28) k) ?_
  show OwnEnds p e below _ (s₁.setTop (mkF m 29 #[.val (.ref a0), .val .null, .unset] [(.int (0 : Int32))]))
  exact own_endN X0 hx hlk (t := .boolean) Bd.returns (by simp) (hb hby d5_29) rfl hk0 hn0 ⟨congrArg (fun z => some (Value.int z)) hF, N0, e0⟩
theorem ef_0 (m : MethodId) (q0 : Int64) (q1 : Int64) (p2 : Int32) : entryFrame m #[(.long q0), (.long q1), (.int p2)] maxLocals = mkF m 0 #[.val (.long q0), .second, .val (.long q1), .second, .val (.int p2), .unset, .unset, .unset, .unset, .unset, .unset, .unset] [] := by first | (simp [entryFrame, mkF, argsToLocals, Value.category, maxLocals]; done) | rfl
theorem pn_5 : plainName "com/example/hellowire/hellowire/codec/RespIntegerEqualsPinLaw" = true := by first | (simp [plainName, overriddenIn]; done) | decide +kernel
theorem pd_6 : parseMethodDescriptor "(J)V" = some ⟨[.long], none⟩ := by decide +kernel
theorem pd_7 : parseMethodDescriptor "(Ljava/lang/Object;)Z" = some ⟨[(.object "java/lang/Object")], some .boolean⟩ := by decide +kernel
def f0_12 (q0 : Int64) (q1 : Int64) (p2 : Int32) (xL : Addr) (xN : Addr) (j0 : Int64) (t0 : Int64) : Int32 := (if (lcmpW j0 t0) = (0 : Int32) then (if (f5A_0 j0 t0) = (1 : Int32) then (1 : Int32) else (0 : Int32)) else (if (f5A_0 j0 t0) = (0 : Int32) then (1 : Int32) else (0 : Int32)))
def f0_0 (q0 : Int64) (q1 : Int64) (p2 : Int32) (xL : Addr) (xN : Addr) (j0 : Int64) (j2 : Int64) (i4 : Int32) : Int32 := (if (i4 &&& (1 : Int32)) = (0 : Int32) then (f0_12 q0 q1 p2 xL xN j0 j0) else (f0_12 q0 q1 p2 xL xN j0 j2))
def Q0 (Z : State) (q0 : Int64) (q1 : Int64) (p2 : Int32) (xL : Addr) (xN : Addr) (h0 : Heap) (n0 : Nat) (v : Option Value) (h : Heap) (L : List Loc) : Prop := v = some (.int (f0_0 q0 q1 p2 xL xN q0 q1 p2)) ∧ Fr n0 L ∧ True
set_option maxRecDepth 65536 in
set_option maxHeartbeats 40000000 in
theorem rm0 (l : Launch) (Z : State) (aZ : Array Value) (hw : ∀ d ∈ tables_1, d.before aZ Z = true) (ws : List Jvm.Cond) (q0 : Int64) (q1 : Int64) (p2 : Int32) (xL : Addr) (xN : Addr) (h0 : Heap) (n0 : Nat) (Z0 : n0 ≤ h0.size) (SL : Sta Z h0 "java/util/ImmutableCollections" "EMPTY_LIST" "Ljava/util/ImmutableCollections$ListN;" (.ref xL)) (SN : Sta Z h0 "com/example/hellowire/hellowire/codec/RespNull" "INSTANCE" "Lcom/example/hellowire/hellowire/codec/RespNull;" (.ref xN)) (EN : Exa Z h0 xN "com/example/hellowire/hellowire/codec/RespNull") (ln : xN < n0) :
    MetFree l x (head1 (Jvm.Cond.code x code maxLocals ret :: ws) room_1) (fun a U => a = #[(.long q0), (.long q1), (.int p2)] ∧ Z.Warmed39 U.vm ∧ U.heap = h0) (fun _ _ _ _ _ => True) (fun _ U o U' => ∃ v L, o = .returned v ∧ Q0 Z q0 q1 p2 xL xN h0 n0 v U'.heap L ∧ FrameEnd U o U' L 16 128) := by
  refine MetFree.of_bodySF (plainFor_of_name pn_5) hisR ?_
  intro p e s m args below meth c s₁ Bd hml0 hP hK
  obtain ⟨rfl, hZ, hh⟩ := hP
  have hx := Bd.exec
  have hby := Bd.bytes
  have hml : c.maxLocals = 12 := hml0
  have hown : s.vm.findClass "com/example/hellowire/hellowire/codec/RespIntegerEqualsPinLaw" = some m.cls := findClass_of_methodNamed Bd.named
  have hnm := (name_of_methodNamed Bd.named Bd.method).1
  have hlk := BodyLoose.notSynchronized Bd
  have X0 : Stand p l e room_1 s m #[(.long q0), (.long q1), (.int p2)] below meth c s₁ [] 0 0 := Stand.of_body Bd
  have e0 : s₁.heap = h0 := by rw [← hh, Bd.state]; rfl
  have N0 := Fr.nil n0
  have hk0 : 0 ≤ 16 := Nat.zero_le _
  have hn0 : 0 ≤ 128 := Nat.zero_le _
  show OwnEnds p e below (OwnQ s (Q0 Z q0 q1 p2 xL xN h0 n0) 16 128) (s₁.setTop (entryFrame m #[(.long q0), (.long q1), (.int p2)] maxLocals))
  refine .pre (fun t k => castTop (ef_0 m q0 q1 p2) k) ?_
  have B12 : ∀ (T : State) (L : List Loc) (X : Stand p l e room_1 s m #[(.long q0), (.long q1), (.int p2)] below meth c T L 0 0) (eT : T.heap = h0) (N : Fr n0 L) (j0 : Int64) (j2 : Int64) (i4 : Int32) (t0 : Int64), f0_12 q0 q1 p2 xL xN j0 t0 = f0_0 q0 q1 p2 xL xN q0 q1 p2 → OwnEnds p e below (OwnQ s (Q0 Z q0 q1 p2 xL xN h0 n0) 16 128) (T.setTop (mkF m 12 #[.val (.long j0), .second, .val (.long j2), .second, .val (.int i4), .unset, .unset, .unset, .unset, .unset, .unset, .unset] [(.long t0)])) := by
    intro T L X eT N j0 j2 i4 t0 hF
    change (if (lcmpW j0 t0) = (0 : Int32) then (if (f5A_0 j0 t0) = (1 : Int32) then (1 : Int32) else (0 : Int32)) else (if (f5A_0 j0 t0) = (0 : Int32) then (1 : Int32) else (0 : Int32))) = _ at hF
    show OwnEnds p e below _ (T.setTop (mkF m 12 #[.val (.long j0), .second, .val (.long j2), .second, .val (.int i4), .unset, .unset, .unset, .unset, .unset, .unset, .unset] [(.long t0)]))
    refine .pre (fun _ k => XS.lstore X.here hx rfl (hb hby at_12) rfl (l' := #[.val (.long j0), .second, .val (.long j2), .second, .val (.int i4), .val (.long t0), .second, .unset, .unset, .unset, .unset, .unset]) rfl k) ?_
    show OwnEnds p e below _ (T.setTop (mkF m 14 #[.val (.long j0), .second, .val (.long j2), .second, .val (.int i4), .val (.long t0), .second, .unset, .unset, .unset, .unset, .unset] []))
    obtain ⟨T18, h18, X18, e18, E18, A18, D18, -, st18⟩ := newO X hx hZ hown (hw _ (List.mem_of_getElem? (i := 0) rfl)) (hw _ (List.mem_of_getElem? (i := 1) rfl)) (hw _ (List.mem_of_getElem? (i := 2) rfl)) eT (g := (mkF m 14 #[.val (.long j0), .second, .val (.long j2), .second, .val (.int i4), .val (.long t0), .second, .unset, .unset, .unset, .unset, .unset] [])) rfl (hb hby at_14) (by decide) (by decide)
    obtain ⟨b18, g18⟩ : ∃ z, z = h0.size := ⟨_, rfl⟩
    rw [← g18] at A18 D18 st18
    have g_b18 : n0 ≤ b18 := Nat.le_trans Z0 (Nat.le_of_eq g18.symm)
    have F18_attributes : Fld Z h18 b18 "com/example/hellowire/hellowire/codec/RespValue" "attributes" "Ljava/util/List;" .null := D18 (Or.inl (hw _ (List.mem_of_getElem? (i := 21) rfl))) (ty := (.object "java/util/List")) (by decide)
    have F18_value : Fld Z h18 b18 "com/example/hellowire/hellowire/codec/RespInteger" "value" "J" (.long (0 : Int64)) := D18 (Or.inr (hw _ (List.mem_of_getElem? (i := 23) rfl))) (ty := .long) (by decide)
    refine .pre (fun _ k => st18 _ k) ?_
    show OwnEnds p e below _ (T18.setTop (mkF m 17 #[.val (.long j0), .second, .val (.long j2), .second, .val (.int i4), .val (.long t0), .second, .unset, .unset, .unset, .unset, .unset] [(.ref b18)]))
    refine .pre (fun _ k => XS.dup X18.here hx rfl (hb hby at_17) rfl rfl k) ?_
    show OwnEnds p e below _ (T18.setTop (mkF m 18 #[.val (.long j0), .second, .val (.long j2), .second, .val (.int i4), .val (.long t0), .second, .unset, .unset, .unset, .unset, .unset] [(.ref b18), (.ref b18)]))
    refine .pre (fun _ k => XS.lloadN X18.here hx rfl (hb hby at_18) rfl k) ?_
    show OwnEnds p e below _ (T18.setTop (mkF m 19 #[.val (.long j0), .second, .val (.long j2), .second, .val (.int i4), .val (.long t0), .second, .unset, .unset, .unset, .unset, .unset] [(.long j0), (.ref b18), (.ref b18)]))
    obtain ⟨_, _, ⟨T19, L19, k19, n19⟩, -, X19, ⟨Lc19, hQ19, l19, y19, z19⟩, st19⟩ := X18.specialBack hx (y := (⟨"com/example/hellowire/hellowire/codec/RespInteger", "<init>", "(J)V"⟩ : MethodName)) rfl hown (mvT hZ (hw _ (List.mem_of_getElem? (i := 3) rfl))) (mvT hZ (hw _ (List.mem_of_getElem? (i := 4) rfl))) (mvT hZ (hw _ (List.mem_of_getElem? (i := 5) rfl))) (by decide) (backOf (W := 1) (rm1 l Z aZ hw [] b18 j0 xL .null (.long (0 : Int64)) h18 n0 (Nat.le_trans Z0 E18.1) (Sta.ext E18 SL) g_b18 A18 F18_attributes F18_value) hZ (hw _ (List.mem_of_getElem? (i := 5) rfl)) (hw _ (List.mem_of_getElem? (i := 2) rfl)) (by decide) (by decide)) (g := (mkF m 19 #[.val (.long j0), .second, .val (.long j2), .second, .val (.int i4), .val (.long t0), .second, .unset, .unset, .unset, .unset, .unset] [(.long j0), (.ref b18), (.ref b18)])) rfl (by rw [hml]; rfl) (Steps.refl _) (a := b18) (argsL := [(.long j0)]) (rest := [(.ref b18)]) (lenOf pd_6 rfl) rfl (by show 2 * 0 + _ ≤ _; exact Nat.le_of_eq rfl) (hb hby at_19) (fun _ _ => ⟨rfl, e18, (by decide : 1 + 0 ≤ _), (by decide : 2 + 0 ≤ _)⟩)
    dsimp only [Pt.U, Pt.locs, Pt.cells, Pt.slots] at X19 l19 y19 z19 st19 hQ19
    subst l19 y19 z19
    obtain ⟨rfl, N19q, K19, Ea19, Fa19_0, Fa19_1⟩ := hQ19
    have N19 := Fr.app N N19q
    refine .pre (fun _ k => st19.trans k) ?_
    show OwnEnds p e below _ (T19.setTop (mkF m 22 #[.val (.long j0), .second, .val (.long j2), .second, .val (.int i4), .val (.long t0), .second, .unset, .unset, .unset, .unset, .unset] [(.ref b18)]))
    refine .pre (fun _ k => XS.astore X19.here hx rfl (hb hby at_22) rfl rfl (l' := #[.val (.long j0), .second, .val (.long j2), .second, .val (.int i4), .val (.long t0), .second, .val (.ref b18), .unset, .unset, .unset, .unset]) rfl k) ?_
    show OwnEnds p e below _ (T19.setTop (mkF m 24 #[.val (.long j0), .second, .val (.long j2), .second, .val (.int i4), .val (.long t0), .second, .val (.ref b18), .unset, .unset, .unset, .unset] []))
    obtain ⟨T20, h20, X20, e20, E20, A20, D20, -, st20⟩ := newO X19 hx hZ hown (hw _ (List.mem_of_getElem? (i := 0) rfl)) (hw _ (List.mem_of_getElem? (i := 1) rfl)) (hw _ (List.mem_of_getElem? (i := 2) rfl)) rfl (g := (mkF m 24 #[.val (.long j0), .second, .val (.long j2), .second, .val (.int i4), .val (.long t0), .second, .val (.ref b18), .unset, .unset, .unset, .unset] [])) rfl (hb hby at_24) (by decide) (by decide)
    obtain ⟨b20, g20⟩ : ∃ z, z = T19.heap.size := ⟨_, rfl⟩
    rw [← g20] at A20 D20 st20
    have g_b20 : n0 ≤ b20 := Nat.le_trans (Nat.le_trans (Nat.le_trans Z0 E18.1) K19.1) (Nat.le_of_eq g20.symm)
    have F20_attributes : Fld Z h20 b20 "com/example/hellowire/hellowire/codec/RespValue" "attributes" "Ljava/util/List;" .null := D20 (Or.inl (hw _ (List.mem_of_getElem? (i := 21) rfl))) (ty := (.object "java/util/List")) (by decide)
    have F20_value : Fld Z h20 b20 "com/example/hellowire/hellowire/codec/RespInteger" "value" "J" (.long (0 : Int64)) := D20 (Or.inr (hw _ (List.mem_of_getElem? (i := 23) rfl))) (ty := .long) (by decide)
    refine .pre (fun _ k => st20 _ k) ?_
    show OwnEnds p e below _ (T20.setTop (mkF m 27 #[.val (.long j0), .second, .val (.long j2), .second, .val (.int i4), .val (.long t0), .second, .val (.ref b18), .unset, .unset, .unset, .unset] [(.ref b20)]))
    refine .pre (fun _ k => XS.dup X20.here hx rfl (hb hby at_27) rfl rfl k) ?_
    show OwnEnds p e below _ (T20.setTop (mkF m 28 #[.val (.long j0), .second, .val (.long j2), .second, .val (.int i4), .val (.long t0), .second, .val (.ref b18), .unset, .unset, .unset, .unset] [(.ref b20), (.ref b20)]))
    refine .pre (fun _ k => XS.lload X20.here hx rfl (hb hby at_28) rfl k) ?_
    show OwnEnds p e below _ (T20.setTop (mkF m 30 #[.val (.long j0), .second, .val (.long j2), .second, .val (.int i4), .val (.long t0), .second, .val (.ref b18), .unset, .unset, .unset, .unset] [(.long t0), (.ref b20), (.ref b20)]))
    obtain ⟨_, _, ⟨T21, L21, k21, n21⟩, -, X21, ⟨Lc21, hQ21, l21, y21, z21⟩, st21⟩ := X20.specialBack hx (y := (⟨"com/example/hellowire/hellowire/codec/RespInteger", "<init>", "(J)V"⟩ : MethodName)) rfl hown (mvT hZ (hw _ (List.mem_of_getElem? (i := 3) rfl))) (mvT hZ (hw _ (List.mem_of_getElem? (i := 4) rfl))) (mvT hZ (hw _ (List.mem_of_getElem? (i := 5) rfl))) (by decide) (backOf (W := 1) (rm1 l Z aZ hw [] b20 t0 xL .null (.long (0 : Int64)) h20 n0 (Nat.le_trans (Nat.le_trans (Nat.le_trans Z0 E18.1) K19.1) E20.1) (Sta.ext E20 (own_staK1 (Sta.ext E18 SL) K19 A18)) g_b20 A20 F20_attributes F20_value) hZ (hw _ (List.mem_of_getElem? (i := 5) rfl)) (hw _ (List.mem_of_getElem? (i := 2) rfl)) (by decide) (by decide)) (g := (mkF m 30 #[.val (.long j0), .second, .val (.long j2), .second, .val (.int i4), .val (.long t0), .second, .val (.ref b18), .unset, .unset, .unset, .unset] [(.long t0), (.ref b20), (.ref b20)])) rfl (by rw [hml]; rfl) (Steps.refl _) (a := b20) (argsL := [(.long t0)]) (rest := [(.ref b20)]) (lenOf pd_6 rfl) rfl (by show 2 * 0 + _ ≤ _; exact Nat.le_of_eq rfl) (hb hby at_30) (fun _ _ => ⟨rfl, e20, (by decide : 2 + 0 ≤ _), (by decide : 4 + 0 ≤ _)⟩)
    dsimp only [Pt.U, Pt.locs, Pt.cells, Pt.slots] at X21 l21 y21 z21 st21 hQ21
    subst l21 y21 z21
    obtain ⟨rfl, N21q, K21, Ea21, Fa21_0, Fa21_1⟩ := hQ21
    have N21 := Fr.app N19 N21q
    refine .pre (fun _ k => st21.trans k) ?_
    show OwnEnds p e below _ (T21.setTop (mkF m 33 #[.val (.long j0), .second, .val (.long j2), .second, .val (.int i4), .val (.long t0), .second, .val (.ref b18), .unset, .unset, .unset, .unset] [(.ref b20)]))
    refine .pre (fun _ k => XS.astore X21.here hx rfl (hb hby at_33) rfl rfl (l' := #[.val (.long j0), .second, .val (.long j2), .second, .val (.int i4), .val (.long t0), .second, .val (.ref b18), .val (.ref b20), .unset, .unset, .unset]) rfl k) ?_
    show OwnEnds p e below _ (T21.setTop (mkF m 35 #[.val (.long j0), .second, .val (.long j2), .second, .val (.int i4), .val (.long t0), .second, .val (.ref b18), .val (.ref b20), .unset, .unset, .unset] []))
    refine .pre (fun _ k => XS.aload X21.here hx rfl (hb hby at_35) rfl rfl k) ?_
    show OwnEnds p e below _ (T21.setTop (mkF m 37 #[.val (.long j0), .second, .val (.long j2), .second, .val (.int i4), .val (.long t0), .second, .val (.ref b18), .val (.ref b20), .unset, .unset, .unset] [(.ref b18)]))
    refine .pre (fun _ k => XS.aload X21.here hx rfl (hb hby at_37) rfl rfl k) ?_
    show OwnEnds p e below _ (T21.setTop (mkF m 39 #[.val (.long j0), .second, .val (.long j2), .second, .val (.int i4), .val (.long t0), .second, .val (.ref b18), .val (.ref b20), .unset, .unset, .unset] [(.ref b20), (.ref b18)]))
    obtain ⟨cq22, kq22, q22a, q22b, q22c⟩ := isOf hZ rfl ((Ea19.ext E20).keep K21)
    obtain ⟨_, _, ⟨T22, L22, k22, n22⟩, -, X22, ⟨Lc22, hQ22, l22, y22, z22⟩, st22⟩ := X21.virtualBack hx (y := (⟨"com/example/hellowire/hellowire/codec/RespInteger", "equals", "(Ljava/lang/Object;)Z"⟩ : MethodName)) (z := (⟨"com/example/hellowire/hellowire/codec/RespInteger", "equals", "(Ljava/lang/Object;)Z"⟩ : MethodName)) hown (mvT hZ (hw _ (List.mem_of_getElem? (i := 24) rfl))) (mvT hZ (hw _ (List.mem_of_getElem? (i := 25) rfl))) (notFace_of_selects (args := #[]) (mvT hZ (hw _ (List.mem_of_getElem? (i := 27) rfl)))) (mvT hZ (hw _ (List.mem_of_getElem? (i := 27) rfl))) (mvT hZ (hw _ (List.mem_of_getElem? (i := 26) rfl))) (by decide) (backOf (W := 0) (rm5A l Z aZ hw [] b18 b20 j0 t0 T21.heap n0 (Nat.le_trans (Nat.le_trans (Nat.le_trans (Nat.le_trans Z0 E18.1) K19.1) E20.1) K21.1) ((Fa19_1.ext E20).keep K21 (own_nin1 (Nat.ne_of_lt (Nat.lt_of_lt_of_le Ea19.lt (Nat.le_of_eq g20.symm))))) Ea21 Fa21_1) hZ (hw _ (List.mem_of_getElem? (i := 28) rfl)) (hw _ (List.mem_of_getElem? (i := 2) rfl)) (by decide) (by decide)) q22a q22c (g := (mkF m 39 #[.val (.long j0), .second, .val (.long j2), .second, .val (.int i4), .val (.long t0), .second, .val (.ref b18), .val (.ref b20), .unset, .unset, .unset] [(.ref b20), (.ref b18)])) rfl (by rw [hml]; rfl) (Steps.refl _) (argsL := [(.ref b20)]) (rest := []) (lenOf pd_7 rfl) rfl (by show 2 * 0 + _ ≤ _; exact Nat.le_of_eq rfl) (hb hby at_39) (fun _ _ => ⟨rfl, rfl, (by decide : 2 + 0 ≤ _), (by decide : 4 + 0 ≤ _)⟩)
    dsimp only [Pt.U, Pt.locs, Pt.cells, Pt.slots] at X22 l22 y22 z22 st22 hQ22
    subst l22 y22 z22
    obtain ⟨rfl, N22q, e22⟩ := hQ22
    have N22 := Fr.app N21 N22q
    refine .pre (fun _ k => st22.trans k) ?_
    show OwnEnds p e below _ (T22.setTop (mkF m 42 #[.val (.long j0), .second, .val (.long j2), .second, .val (.int i4), .val (.long t0), .second, .val (.ref b18), .val (.ref b20), .unset, .unset, .unset] [(.int (f5A_0 j0 t0))]))
    refine .pre (fun _ k => XS.lloadN X22.here hx rfl (hb hby at_42) rfl k) ?_
    show OwnEnds p e below _ (T22.setTop (mkF m 43 #[.val (.long j0), .second, .val (.long j2), .second, .val (.int i4), .val (.long t0), .second, .val (.ref b18), .val (.ref b20), .unset, .unset, .unset] [(.long j0), (.int (f5A_0 j0 t0))]))
    refine .pre (fun _ k => XS.lload X22.here hx rfl (hb hby at_43) rfl k) ?_
    show OwnEnds p e below _ (T22.setTop (mkF m 45 #[.val (.long j0), .second, .val (.long j2), .second, .val (.int i4), .val (.long t0), .second, .val (.ref b18), .val (.ref b20), .unset, .unset, .unset] [(.long t0), (.long j0), (.int (f5A_0 j0 t0))]))
    refine .pre (fun _ k => XS.lcmp X22.here hx rfl (hb hby at_45) rfl k) ?_
    show OwnEnds p e below _ (T22.setTop (mkF m 46 #[.val (.long j0), .second, .val (.long j2), .second, .val (.int i4), .val (.long t0), .second, .val (.ref b18), .val (.ref b20), .unset, .unset, .unset] [(.int (lcmpW j0 t0)), (.int (f5A_0 j0 t0))]))
    by_cases hc46 : (lcmpW j0 t0) = (0 : Int32)
    · rw [if_pos hc46] at hF
      refine .pre (fun _ k => XS.ifNo X22.here hx rfl (hb hby at_46) rfl ((if0 _ _).trans (teq hc46).2) k) ?_
      show OwnEnds p e below _ (T22.setTop (mkF m 49 #[.val (.long j0), .second, .val (.long j2), .second, .val (.int i4), .val (.long t0), .second, .val (.ref b18), .val (.ref b20), .unset, .unset, .unset] [(.int (f5A_0 j0 t0))]))
      refine .pre (fun _ k => XS.iconst X22.here hx rfl (hb hby at_49) k) ?_
      show OwnEnds p e below _ (T22.setTop (mkF m 50 #[.val (.long j0), .second, .val (.long j2), .second, .val (.int i4), .val (.long t0), .second, .val (.ref b18), .val (.ref b20), .unset, .unset, .unset] [(.int (1 : Int32)), (.int (f5A_0 j0 t0))]))
      refine .pre (fun _ k => XS.goto X22.here hx rfl (pc0 := 50) (pc' := 54) rfl (hb hby at_50) (by decide) (by decide) k) ?_
      show OwnEnds p e below _ (T22.setTop (mkF m 54 #[.val (.long j0), .second, .val (.long j2), .second, .val (.int i4), .val (.long t0), .second, .val (.ref b18), .val (.ref b20), .unset, .unset, .unset] [(.int (1 : Int32)), (.int (f5A_0 j0 t0))]))
      by_cases hc54 : (f5A_0 j0 t0) = (1 : Int32)
      · rw [if_pos hc54] at hF
        refine .pre (fun _ k => XS.icmpNo X22.here hx rfl (hb hby at_54) rfl (teq hc54).2 k) ?_
        show OwnEnds p e below _ (T22.setTop (mkF m 57 #[.val (.long j0), .second, .val (.long j2), .second, .val (.int i4), .val (.long t0), .second, .val (.ref b18), .val (.ref b20), .unset, .unset, .unset] []))
        refine .pre (fun _ k => XS.iconst X22.here hx rfl (hb hby at_57) k) ?_
        show OwnEnds p e below _ (T22.setTop (mkF m 58 #[.val (.long j0), .second, .val (.long j2), .second, .val (.int i4), .val (.long t0), .second, .val (.ref b18), .val (.ref b20), .unset, .unset, .unset] [(.int (1 : Int32))]))
        refine .pre (fun _ k => XS.goto X22.here hx rfl (pc0 := 58) (pc' := 62) rfl (hb hby at_58) (by decide) (by decide) k) ?_
        show OwnEnds p e below _ (T22.setTop (mkF m 62 #[.val (.long j0), .second, .val (.long j2), .second, .val (.int i4), .val (.long t0), .second, .val (.ref b18), .val (.ref b20), .unset, .unset, .unset] [(.int (1 : Int32))]))
        refine .pre (fun _ k => XS.istore X22.here hx rfl (hb hby at_62) rfl (l' := #[.val (.long j0), .second, .val (.long j2), .second, .val (.int i4), .val (.long t0), .second, .val (.ref b18), .val (.ref b20), .val (.int (1 : Int32)), .unset, .unset]) rfl k) ?_
        show OwnEnds p e below _ (T22.setTop (mkF m 64 #[.val (.long j0), .second, .val (.long j2), .second, .val (.int i4), .val (.long t0), .second, .val (.ref b18), .val (.ref b20), .val (.int (1 : Int32)), .unset, .unset] []))
        refine .pre (fun _ k => XS.aload X22.here hx rfl (hb hby at_64) rfl rfl k) ?_
        show OwnEnds p e below _ (T22.setTop (mkF m 66 #[.val (.long j0), .second, .val (.long j2), .second, .val (.int i4), .val (.long t0), .second, .val (.ref b18), .val (.ref b20), .val (.int (1 : Int32)), .unset, .unset] [(.ref b18)]))
        obtain ⟨T23, X23, e23, st23⟩ := getS2 X22 hx hZ hown (host := "") (Or.inl (hw _ (List.mem_of_getElem? (i := 31) rfl))) Via.refl e22 (own_staK1 (Sta.ext E20 (own_staK1 (Sta.ext E18 SN) K19 A18)) K21 A20) (g := (mkF m 66 #[.val (.long j0), .second, .val (.long j2), .second, .val (.int i4), .val (.long t0), .second, .val (.ref b18), .val (.ref b20), .val (.int (1 : Int32)), .unset, .unset] [(.ref b18)])) rfl (hb hby at_66)
        refine .pre (fun _ k => st23 _ k) ?_
        show OwnEnds p e below _ (T23.setTop (mkF m 69 #[.val (.long j0), .second, .val (.long j2), .second, .val (.int i4), .val (.long t0), .second, .val (.ref b18), .val (.ref b20), .val (.int (1 : Int32)), .unset, .unset] [(.ref xN), (.ref b18)]))
        obtain ⟨cq24, kq24, q24a, q24b, q24c⟩ := isOf hZ e23 ((Ea19.ext E20).keep K21)
        obtain ⟨_, _, ⟨T24, L24, k24, n24⟩, -, X24, ⟨Lc24, hQ24, l24, y24, z24⟩, st24⟩ := X23.virtualBack hx (y := (⟨"com/example/hellowire/hellowire/codec/RespInteger", "equals", "(Ljava/lang/Object;)Z"⟩ : MethodName)) (z := (⟨"com/example/hellowire/hellowire/codec/RespInteger", "equals", "(Ljava/lang/Object;)Z"⟩ : MethodName)) hown (mvT hZ (hw _ (List.mem_of_getElem? (i := 24) rfl))) (mvT hZ (hw _ (List.mem_of_getElem? (i := 25) rfl))) (notFace_of_selects (args := #[]) (mvT hZ (hw _ (List.mem_of_getElem? (i := 27) rfl)))) (mvT hZ (hw _ (List.mem_of_getElem? (i := 27) rfl))) (mvT hZ (hw _ (List.mem_of_getElem? (i := 26) rfl))) (by decide) (backOf (W := 0) (rm5B l Z aZ hw [] b18 xN T21.heap n0 (Nat.le_trans (Nat.le_trans (Nat.le_trans (Nat.le_trans Z0 E18.1) K19.1) E20.1) K21.1) ((((EN.ext E18).keep K19).ext E20).keep K21)) hZ (hw _ (List.mem_of_getElem? (i := 28) rfl)) (hw _ (List.mem_of_getElem? (i := 2) rfl)) (by decide) (by decide)) q24a q24c (g := (mkF m 69 #[.val (.long j0), .second, .val (.long j2), .second, .val (.int i4), .val (.long t0), .second, .val (.ref b18), .val (.ref b20), .val (.int (1 : Int32)), .unset, .unset] [(.ref xN), (.ref b18)])) rfl (by rw [hml]; rfl) (Steps.refl _) (argsL := [(.ref xN)]) (rest := []) (lenOf pd_7 rfl) rfl (by show 2 * 0 + _ ≤ _; exact Nat.le_of_eq rfl) (hb hby at_69) (fun _ _ => ⟨rfl, e23, (by decide : 2 + 0 ≤ _), (by decide : 4 + 0 ≤ _)⟩)
        dsimp only [Pt.U, Pt.locs, Pt.cells, Pt.slots] at X24 l24 y24 z24 st24 hQ24
        subst l24 y24 z24
        obtain ⟨rfl, N24q, e24⟩ := hQ24
        have N24 := Fr.app N22 N24q
        refine .pre (fun _ k => st24.trans k) ?_
        show OwnEnds p e below _ (T24.setTop (mkF m 72 #[.val (.long j0), .second, .val (.long j2), .second, .val (.int i4), .val (.long t0), .second, .val (.ref b18), .val (.ref b20), .val (.int (1 : Int32)), .unset, .unset] [(.int (0 : Int32))]))
        have hc72 : ((0 : Int32) = (0 : Int32)) := by decide
        refine .pre (fun _ k => XS.ifNo X24.here hx rfl (hb hby at_72) rfl ((if0 _ _).trans (teq hc72).2) k) ?_
        show OwnEnds p e below _ (T24.setTop (mkF m 75 #[.val (.long j0), .second, .val (.long j2), .second, .val (.int i4), .val (.long t0), .second, .val (.ref b18), .val (.ref b20), .val (.int (1 : Int32)), .unset, .unset] []))
        refine .pre (fun _ k => XS.iconst X24.here hx rfl (hb hby at_75) k) ?_
        show OwnEnds p e below _ (T24.setTop (mkF m 76 #[.val (.long j0), .second, .val (.long j2), .second, .val (.int i4), .val (.long t0), .second, .val (.ref b18), .val (.ref b20), .val (.int (1 : Int32)), .unset, .unset] [(.int (1 : Int32))]))
        refine .pre (fun _ k => XS.goto X24.here hx rfl (pc0 := 76) (pc' := 80) rfl (hb hby at_76) (by decide) (by decide) k) ?_
        show OwnEnds p e below _ (T24.setTop (mkF m 80 #[.val (.long j0), .second, .val (.long j2), .second, .val (.int i4), .val (.long t0), .second, .val (.ref b18), .val (.ref b20), .val (.int (1 : Int32)), .unset, .unset] [(.int (1 : Int32))]))
        refine .pre (fun _ k => XS.istore X24.here hx rfl (hb hby at_80) rfl (l' := #[.val (.long j0), .second, .val (.long j2), .second, .val (.int i4), .val (.long t0), .second, .val (.ref b18), .val (.ref b20), .val (.int (1 : Int32)), .val (.int (1 : Int32)), .unset]) rfl k) ?_
        show OwnEnds p e below _ (T24.setTop (mkF m 82 #[.val (.long j0), .second, .val (.long j2), .second, .val (.int i4), .val (.long t0), .second, .val (.ref b18), .val (.ref b20), .val (.int (1 : Int32)), .val (.int (1 : Int32)), .unset] []))
        refine .pre (fun _ k => XS.aload X24.here hx rfl (hb hby at_82) rfl rfl k) ?_
        show OwnEnds p e below _ (T24.setTop (mkF m 84 #[.val (.long j0), .second, .val (.long j2), .second, .val (.int i4), .val (.long t0), .second, .val (.ref b18), .val (.ref b20), .val (.int (1 : Int32)), .val (.int (1 : Int32)), .unset] [(.ref b18)]))
        refine .pre (fun _ k => XS.aconstNull X24.here hx rfl (hb hby at_84) k) ?_
        show OwnEnds p e below _ (T24.setTop (mkF m 85 #[.val (.long j0), .second, .val (.long j2), .second, .val (.int i4), .val (.long t0), .second, .val (.ref b18), .val (.ref b20), .val (.int (1 : Int32)), .val (.int (1 : Int32)), .unset] [.null, (.ref b18)]))
        obtain ⟨cq25, kq25, q25a, q25b, q25c⟩ := isOf hZ e24 ((Ea19.ext E20).keep K21)
        obtain ⟨_, _, ⟨T25, L25, k25, n25⟩, -, X25, ⟨Lc25, hQ25, l25, y25, z25⟩, st25⟩ := X24.virtualBack hx (y := (⟨"com/example/hellowire/hellowire/codec/RespInteger", "equals", "(Ljava/lang/Object;)Z"⟩ : MethodName)) (z := (⟨"com/example/hellowire/hellowire/codec/RespInteger", "equals", "(Ljava/lang/Object;)Z"⟩ : MethodName)) hown (mvT hZ (hw _ (List.mem_of_getElem? (i := 24) rfl))) (mvT hZ (hw _ (List.mem_of_getElem? (i := 25) rfl))) (notFace_of_selects (args := #[]) (mvT hZ (hw _ (List.mem_of_getElem? (i := 27) rfl)))) (mvT hZ (hw _ (List.mem_of_getElem? (i := 27) rfl))) (mvT hZ (hw _ (List.mem_of_getElem? (i := 26) rfl))) (by decide) (backOf (W := 0) (rm5C l Z aZ hw [] b18 T21.heap n0 (Nat.le_trans (Nat.le_trans (Nat.le_trans (Nat.le_trans Z0 E18.1) K19.1) E20.1) K21.1)) hZ (hw _ (List.mem_of_getElem? (i := 28) rfl)) (hw _ (List.mem_of_getElem? (i := 2) rfl)) (by decide) (by decide)) q25a q25c (g := (mkF m 85 #[.val (.long j0), .second, .val (.long j2), .second, .val (.int i4), .val (.long t0), .second, .val (.ref b18), .val (.ref b20), .val (.int (1 : Int32)), .val (.int (1 : Int32)), .unset] [.null, (.ref b18)])) rfl (by rw [hml]; rfl) (Steps.refl _) (argsL := [.null]) (rest := []) (lenOf pd_7 rfl) rfl (by show 2 * 0 + _ ≤ _; exact Nat.le_of_eq rfl) (hb hby at_85) (fun _ _ => ⟨rfl, e24, (by decide : 2 + 0 ≤ _), (by decide : 4 + 0 ≤ _)⟩)
        dsimp only [Pt.U, Pt.locs, Pt.cells, Pt.slots] at X25 l25 y25 z25 st25 hQ25
        subst l25 y25 z25
        obtain ⟨rfl, N25q, e25⟩ := hQ25
        have N25 := Fr.app N24 N25q
        refine .pre (fun _ k => st25.trans k) ?_
        show OwnEnds p e below _ (T25.setTop (mkF m 88 #[.val (.long j0), .second, .val (.long j2), .second, .val (.int i4), .val (.long t0), .second, .val (.ref b18), .val (.ref b20), .val (.int (1 : Int32)), .val (.int (1 : Int32)), .unset] [(.int (0 : Int32))]))
        have hc88 : ((0 : Int32) = (0 : Int32)) := by decide
        refine .pre (fun _ k => XS.ifNo X25.here hx rfl (hb hby at_88) rfl ((if0 _ _).trans (teq hc88).2) k) ?_
        show OwnEnds p e below _ (T25.setTop (mkF m 91 #[.val (.long j0), .second, .val (.long j2), .second, .val (.int i4), .val (.long t0), .second, .val (.ref b18), .val (.ref b20), .val (.int (1 : Int32)), .val (.int (1 : Int32)), .unset] []))
        refine .pre (fun _ k => XS.iconst X25.here hx rfl (hb hby at_91) k) ?_
        show OwnEnds p e below _ (T25.setTop (mkF m 92 #[.val (.long j0), .second, .val (.long j2), .second, .val (.int i4), .val (.long t0), .second, .val (.ref b18), .val (.ref b20), .val (.int (1 : Int32)), .val (.int (1 : Int32)), .unset] [(.int (1 : Int32))]))
        refine .pre (fun _ k => XS.goto X25.here hx rfl (pc0 := 92) (pc' := 96) rfl (hb hby at_92) (by decide) (by decide) k) ?_
        show OwnEnds p e below _ (T25.setTop (mkF m 96 #[.val (.long j0), .second, .val (.long j2), .second, .val (.int i4), .val (.long t0), .second, .val (.ref b18), .val (.ref b20), .val (.int (1 : Int32)), .val (.int (1 : Int32)), .unset] [(.int (1 : Int32))]))
        refine .pre (fun _ k => XS.istore X25.here hx rfl (hb hby at_96) rfl (l' := #[.val (.long j0), .second, .val (.long j2), .second, .val (.int i4), .val (.long t0), .second, .val (.ref b18), .val (.ref b20), .val (.int (1 : Int32)), .val (.int (1 : Int32)), .val (.int (1 : Int32))]) rfl k) ?_
        show OwnEnds p e below _ (T25.setTop (mkF m 98 #[.val (.long j0), .second, .val (.long j2), .second, .val (.int i4), .val (.long t0), .second, .val (.ref b18), .val (.ref b20), .val (.int (1 : Int32)), .val (.int (1 : Int32)), .val (.int (1 : Int32))] []))
        refine .pre (fun _ k => XS.iload X25.here hx rfl (hb hby at_98) rfl k) ?_
        show OwnEnds p e below _ (T25.setTop (mkF m 100 #[.val (.long j0), .second, .val (.long j2), .second, .val (.int i4), .val (.long t0), .second, .val (.ref b18), .val (.ref b20), .val (.int (1 : Int32)), .val (.int (1 : Int32)), .val (.int (1 : Int32))] [(.int (1 : Int32))]))
        have hc100 : ¬ ((1 : Int32) = (0 : Int32)) := by decide
        refine .pre (fun _ k => XS.ifNo X25.here hx rfl (hb hby at_100) rfl ((if0 _ _).trans (feq hc100).1) k) ?_
        show OwnEnds p e below _ (T25.setTop (mkF m 103 #[.val (.long j0), .second, .val (.long j2), .second, .val (.int i4), .val (.long t0), .second, .val (.ref b18), .val (.ref b20), .val (.int (1 : Int32)), .val (.int (1 : Int32)), .val (.int (1 : Int32))] []))
        refine .pre (fun _ k => XS.iload X25.here hx rfl (hb hby at_103) rfl k) ?_
        show OwnEnds p e below _ (T25.setTop (mkF m 105 #[.val (.long j0), .second, .val (.long j2), .second, .val (.int i4), .val (.long t0), .second, .val (.ref b18), .val (.ref b20), .val (.int (1 : Int32)), .val (.int (1 : Int32)), .val (.int (1 : Int32))] [(.int (1 : Int32))]))
        have hc105 : ¬ ((1 : Int32) = (0 : Int32)) := by decide
        refine .pre (fun _ k => XS.ifNo X25.here hx rfl (hb hby at_105) rfl ((if0 _ _).trans (feq hc105).1) k) ?_
        show OwnEnds p e below _ (T25.setTop (mkF m 108 #[.val (.long j0), .second, .val (.long j2), .second, .val (.int i4), .val (.long t0), .second, .val (.ref b18), .val (.ref b20), .val (.int (1 : Int32)), .val (.int (1 : Int32)), .val (.int (1 : Int32))] []))
        refine .pre (fun _ k => XS.iload X25.here hx rfl (hb hby at_108) rfl k) ?_
        show OwnEnds p e below _ (T25.setTop (mkF m 110 #[.val (.long j0), .second, .val (.long j2), .second, .val (.int i4), .val (.long t0), .second, .val (.ref b18), .val (.ref b20), .val (.int (1 : Int32)), .val (.int (1 : Int32)), .val (.int (1 : Int32))] [(.int (1 : Int32))]))
        have hc110 : ¬ ((1 : Int32) = (0 : Int32)) := by decide
        refine .pre (fun _ k => XS.ifNo X25.here hx rfl (hb hby at_110) rfl ((if0 _ _).trans (feq hc110).1) k) ?_
        show OwnEnds p e below _ (T25.setTop (mkF m 113 #[.val (.long j0), .second, .val (.long j2), .second, .val (.int i4), .val (.long t0), .second, .val (.ref b18), .val (.ref b20), .val (.int (1 : Int32)), .val (.int (1 : Int32)), .val (.int (1 : Int32))] []))
        refine .pre (fun _ k => XS.iconst X25.here hx rfl (hb hby at_113) k) ?_
        show OwnEnds p e below _ (T25.setTop (mkF m 114 #[.val (.long j0), .second, .val (.long j2), .second, .val (.int i4), .val (.long t0), .second, .val (.ref b18), .val (.ref b20), .val (.int (1 : Int32)), .val (.int (1 : Int32)), .val (.int (1 : Int32))] [(.int (1 : Int32))]))
        refine .pre (fun _ k => XS.goto X25.here hx rfl (pc0 := 114) (pc' := 118) rfl (hb hby at_114) (by decide) (by decide) k) ?_
        show OwnEnds p e below _ (T25.setTop (mkF m 118 #[.val (.long j0), .second, .val (.long j2), .second, .val (.int i4), .val (.long t0), .second, .val (.ref b18), .val (.ref b20), .val (.int (1 : Int32)), .val (.int (1 : Int32)), .val (.int (1 : Int32))] [(.int (1 : Int32))]))
        exact own_endN X25 hx hlk (t := .boolean) Bd.returns (by simp) (hb hby at_118) rfl (by decide) (by decide) ⟨congrArg (fun z => some (Value.int z)) hF, N25, trivial⟩
      · rw [if_neg hc54] at hF
        refine .pre (fun _ k => XS.icmpYes X22.here hx rfl (pc0 := 54) (pc' := 61) rfl (hb hby at_54) rfl (feq hc54).2 (by decide) (by decide) k) ?_
        show OwnEnds p e below _ (T22.setTop (mkF m 61 #[.val (.long j0), .second, .val (.long j2), .second, .val (.int i4), .val (.long t0), .second, .val (.ref b18), .val (.ref b20), .unset, .unset, .unset] []))
        refine .pre (fun _ k => XS.iconst X22.here hx rfl (hb hby at_61) k) ?_
        show OwnEnds p e below _ (T22.setTop (mkF m 62 #[.val (.long j0), .second, .val (.long j2), .second, .val (.int i4), .val (.long t0), .second, .val (.ref b18), .val (.ref b20), .unset, .unset, .unset] [(.int (0 : Int32))]))
        refine .pre (fun _ k => XS.istore X22.here hx rfl (hb hby at_62) rfl (l' := #[.val (.long j0), .second, .val (.long j2), .second, .val (.int i4), .val (.long t0), .second, .val (.ref b18), .val (.ref b20), .val (.int (0 : Int32)), .unset, .unset]) rfl k) ?_
        show OwnEnds p e below _ (T22.setTop (mkF m 64 #[.val (.long j0), .second, .val (.long j2), .second, .val (.int i4), .val (.long t0), .second, .val (.ref b18), .val (.ref b20), .val (.int (0 : Int32)), .unset, .unset] []))
        refine .pre (fun _ k => XS.aload X22.here hx rfl (hb hby at_64) rfl rfl k) ?_
        show OwnEnds p e below _ (T22.setTop (mkF m 66 #[.val (.long j0), .second, .val (.long j2), .second, .val (.int i4), .val (.long t0), .second, .val (.ref b18), .val (.ref b20), .val (.int (0 : Int32)), .unset, .unset] [(.ref b18)]))
        obtain ⟨T26, X26, e26, st26⟩ := getS2 X22 hx hZ hown (host := "") (Or.inl (hw _ (List.mem_of_getElem? (i := 31) rfl))) Via.refl e22 (own_staK1 (Sta.ext E20 (own_staK1 (Sta.ext E18 SN) K19 A18)) K21 A20) (g := (mkF m 66 #[.val (.long j0), .second, .val (.long j2), .second, .val (.int i4), .val (.long t0), .second, .val (.ref b18), .val (.ref b20), .val (.int (0 : Int32)), .unset, .unset] [(.ref b18)])) rfl (hb hby at_66)
        refine .pre (fun _ k => st26 _ k) ?_
        show OwnEnds p e below _ (T26.setTop (mkF m 69 #[.val (.long j0), .second, .val (.long j2), .second, .val (.int i4), .val (.long t0), .second, .val (.ref b18), .val (.ref b20), .val (.int (0 : Int32)), .unset, .unset] [(.ref xN), (.ref b18)]))
        obtain ⟨cq27, kq27, q27a, q27b, q27c⟩ := isOf hZ e26 ((Ea19.ext E20).keep K21)
        obtain ⟨_, _, ⟨T27, L27, k27, n27⟩, -, X27, ⟨Lc27, hQ27, l27, y27, z27⟩, st27⟩ := X26.virtualBack hx (y := (⟨"com/example/hellowire/hellowire/codec/RespInteger", "equals", "(Ljava/lang/Object;)Z"⟩ : MethodName)) (z := (⟨"com/example/hellowire/hellowire/codec/RespInteger", "equals", "(Ljava/lang/Object;)Z"⟩ : MethodName)) hown (mvT hZ (hw _ (List.mem_of_getElem? (i := 24) rfl))) (mvT hZ (hw _ (List.mem_of_getElem? (i := 25) rfl))) (notFace_of_selects (args := #[]) (mvT hZ (hw _ (List.mem_of_getElem? (i := 27) rfl)))) (mvT hZ (hw _ (List.mem_of_getElem? (i := 27) rfl))) (mvT hZ (hw _ (List.mem_of_getElem? (i := 26) rfl))) (by decide) (backOf (W := 0) (rm5B l Z aZ hw [] b18 xN T21.heap n0 (Nat.le_trans (Nat.le_trans (Nat.le_trans (Nat.le_trans Z0 E18.1) K19.1) E20.1) K21.1) ((((EN.ext E18).keep K19).ext E20).keep K21)) hZ (hw _ (List.mem_of_getElem? (i := 28) rfl)) (hw _ (List.mem_of_getElem? (i := 2) rfl)) (by decide) (by decide)) q27a q27c (g := (mkF m 69 #[.val (.long j0), .second, .val (.long j2), .second, .val (.int i4), .val (.long t0), .second, .val (.ref b18), .val (.ref b20), .val (.int (0 : Int32)), .unset, .unset] [(.ref xN), (.ref b18)])) rfl (by rw [hml]; rfl) (Steps.refl _) (argsL := [(.ref xN)]) (rest := []) (lenOf pd_7 rfl) rfl (by show 2 * 0 + _ ≤ _; exact Nat.le_of_eq rfl) (hb hby at_69) (fun _ _ => ⟨rfl, e26, (by decide : 2 + 0 ≤ _), (by decide : 4 + 0 ≤ _)⟩)
        dsimp only [Pt.U, Pt.locs, Pt.cells, Pt.slots] at X27 l27 y27 z27 st27 hQ27
        subst l27 y27 z27
        obtain ⟨rfl, N27q, e27⟩ := hQ27
        have N27 := Fr.app N22 N27q
        refine .pre (fun _ k => st27.trans k) ?_
        show OwnEnds p e below _ (T27.setTop (mkF m 72 #[.val (.long j0), .second, .val (.long j2), .second, .val (.int i4), .val (.long t0), .second, .val (.ref b18), .val (.ref b20), .val (.int (0 : Int32)), .unset, .unset] [(.int (0 : Int32))]))
        have hc72 : ((0 : Int32) = (0 : Int32)) := by decide
        refine .pre (fun _ k => XS.ifNo X27.here hx rfl (hb hby at_72) rfl ((if0 _ _).trans (teq hc72).2) k) ?_
        show OwnEnds p e below _ (T27.setTop (mkF m 75 #[.val (.long j0), .second, .val (.long j2), .second, .val (.int i4), .val (.long t0), .second, .val (.ref b18), .val (.ref b20), .val (.int (0 : Int32)), .unset, .unset] []))
        refine .pre (fun _ k => XS.iconst X27.here hx rfl (hb hby at_75) k) ?_
        show OwnEnds p e below _ (T27.setTop (mkF m 76 #[.val (.long j0), .second, .val (.long j2), .second, .val (.int i4), .val (.long t0), .second, .val (.ref b18), .val (.ref b20), .val (.int (0 : Int32)), .unset, .unset] [(.int (1 : Int32))]))
        refine .pre (fun _ k => XS.goto X27.here hx rfl (pc0 := 76) (pc' := 80) rfl (hb hby at_76) (by decide) (by decide) k) ?_
        show OwnEnds p e below _ (T27.setTop (mkF m 80 #[.val (.long j0), .second, .val (.long j2), .second, .val (.int i4), .val (.long t0), .second, .val (.ref b18), .val (.ref b20), .val (.int (0 : Int32)), .unset, .unset] [(.int (1 : Int32))]))
        refine .pre (fun _ k => XS.istore X27.here hx rfl (hb hby at_80) rfl (l' := #[.val (.long j0), .second, .val (.long j2), .second, .val (.int i4), .val (.long t0), .second, .val (.ref b18), .val (.ref b20), .val (.int (0 : Int32)), .val (.int (1 : Int32)), .unset]) rfl k) ?_
        show OwnEnds p e below _ (T27.setTop (mkF m 82 #[.val (.long j0), .second, .val (.long j2), .second, .val (.int i4), .val (.long t0), .second, .val (.ref b18), .val (.ref b20), .val (.int (0 : Int32)), .val (.int (1 : Int32)), .unset] []))
        refine .pre (fun _ k => XS.aload X27.here hx rfl (hb hby at_82) rfl rfl k) ?_
        show OwnEnds p e below _ (T27.setTop (mkF m 84 #[.val (.long j0), .second, .val (.long j2), .second, .val (.int i4), .val (.long t0), .second, .val (.ref b18), .val (.ref b20), .val (.int (0 : Int32)), .val (.int (1 : Int32)), .unset] [(.ref b18)]))
        refine .pre (fun _ k => XS.aconstNull X27.here hx rfl (hb hby at_84) k) ?_
        show OwnEnds p e below _ (T27.setTop (mkF m 85 #[.val (.long j0), .second, .val (.long j2), .second, .val (.int i4), .val (.long t0), .second, .val (.ref b18), .val (.ref b20), .val (.int (0 : Int32)), .val (.int (1 : Int32)), .unset] [.null, (.ref b18)]))
        obtain ⟨cq28, kq28, q28a, q28b, q28c⟩ := isOf hZ e27 ((Ea19.ext E20).keep K21)
        obtain ⟨_, _, ⟨T28, L28, k28, n28⟩, -, X28, ⟨Lc28, hQ28, l28, y28, z28⟩, st28⟩ := X27.virtualBack hx (y := (⟨"com/example/hellowire/hellowire/codec/RespInteger", "equals", "(Ljava/lang/Object;)Z"⟩ : MethodName)) (z := (⟨"com/example/hellowire/hellowire/codec/RespInteger", "equals", "(Ljava/lang/Object;)Z"⟩ : MethodName)) hown (mvT hZ (hw _ (List.mem_of_getElem? (i := 24) rfl))) (mvT hZ (hw _ (List.mem_of_getElem? (i := 25) rfl))) (notFace_of_selects (args := #[]) (mvT hZ (hw _ (List.mem_of_getElem? (i := 27) rfl)))) (mvT hZ (hw _ (List.mem_of_getElem? (i := 27) rfl))) (mvT hZ (hw _ (List.mem_of_getElem? (i := 26) rfl))) (by decide) (backOf (W := 0) (rm5C l Z aZ hw [] b18 T21.heap n0 (Nat.le_trans (Nat.le_trans (Nat.le_trans (Nat.le_trans Z0 E18.1) K19.1) E20.1) K21.1)) hZ (hw _ (List.mem_of_getElem? (i := 28) rfl)) (hw _ (List.mem_of_getElem? (i := 2) rfl)) (by decide) (by decide)) q28a q28c (g := (mkF m 85 #[.val (.long j0), .second, .val (.long j2), .second, .val (.int i4), .val (.long t0), .second, .val (.ref b18), .val (.ref b20), .val (.int (0 : Int32)), .val (.int (1 : Int32)), .unset] [.null, (.ref b18)])) rfl (by rw [hml]; rfl) (Steps.refl _) (argsL := [.null]) (rest := []) (lenOf pd_7 rfl) rfl (by show 2 * 0 + _ ≤ _; exact Nat.le_of_eq rfl) (hb hby at_85) (fun _ _ => ⟨rfl, e27, (by decide : 2 + 0 ≤ _), (by decide : 4 + 0 ≤ _)⟩)
        dsimp only [Pt.U, Pt.locs, Pt.cells, Pt.slots] at X28 l28 y28 z28 st28 hQ28
        subst l28 y28 z28
        obtain ⟨rfl, N28q, e28⟩ := hQ28
        have N28 := Fr.app N27 N28q
        refine .pre (fun _ k => st28.trans k) ?_
        show OwnEnds p e below _ (T28.setTop (mkF m 88 #[.val (.long j0), .second, .val (.long j2), .second, .val (.int i4), .val (.long t0), .second, .val (.ref b18), .val (.ref b20), .val (.int (0 : Int32)), .val (.int (1 : Int32)), .unset] [(.int (0 : Int32))]))
        have hc88 : ((0 : Int32) = (0 : Int32)) := by decide
        refine .pre (fun _ k => XS.ifNo X28.here hx rfl (hb hby at_88) rfl ((if0 _ _).trans (teq hc88).2) k) ?_
        show OwnEnds p e below _ (T28.setTop (mkF m 91 #[.val (.long j0), .second, .val (.long j2), .second, .val (.int i4), .val (.long t0), .second, .val (.ref b18), .val (.ref b20), .val (.int (0 : Int32)), .val (.int (1 : Int32)), .unset] []))
        refine .pre (fun _ k => XS.iconst X28.here hx rfl (hb hby at_91) k) ?_
        show OwnEnds p e below _ (T28.setTop (mkF m 92 #[.val (.long j0), .second, .val (.long j2), .second, .val (.int i4), .val (.long t0), .second, .val (.ref b18), .val (.ref b20), .val (.int (0 : Int32)), .val (.int (1 : Int32)), .unset] [(.int (1 : Int32))]))
        refine .pre (fun _ k => XS.goto X28.here hx rfl (pc0 := 92) (pc' := 96) rfl (hb hby at_92) (by decide) (by decide) k) ?_
        show OwnEnds p e below _ (T28.setTop (mkF m 96 #[.val (.long j0), .second, .val (.long j2), .second, .val (.int i4), .val (.long t0), .second, .val (.ref b18), .val (.ref b20), .val (.int (0 : Int32)), .val (.int (1 : Int32)), .unset] [(.int (1 : Int32))]))
        refine .pre (fun _ k => XS.istore X28.here hx rfl (hb hby at_96) rfl (l' := #[.val (.long j0), .second, .val (.long j2), .second, .val (.int i4), .val (.long t0), .second, .val (.ref b18), .val (.ref b20), .val (.int (0 : Int32)), .val (.int (1 : Int32)), .val (.int (1 : Int32))]) rfl k) ?_
        show OwnEnds p e below _ (T28.setTop (mkF m 98 #[.val (.long j0), .second, .val (.long j2), .second, .val (.int i4), .val (.long t0), .second, .val (.ref b18), .val (.ref b20), .val (.int (0 : Int32)), .val (.int (1 : Int32)), .val (.int (1 : Int32))] []))
        refine .pre (fun _ k => XS.iload X28.here hx rfl (hb hby at_98) rfl k) ?_
        show OwnEnds p e below _ (T28.setTop (mkF m 100 #[.val (.long j0), .second, .val (.long j2), .second, .val (.int i4), .val (.long t0), .second, .val (.ref b18), .val (.ref b20), .val (.int (0 : Int32)), .val (.int (1 : Int32)), .val (.int (1 : Int32))] [(.int (0 : Int32))]))
        have hc100 : ((0 : Int32) = (0 : Int32)) := by decide
        refine .pre (fun _ k => XS.ifYes X28.here hx rfl (pc0 := 100) (pc' := 117) rfl (hb hby at_100) rfl ((if0 _ _).trans (teq hc100).1) (by decide) (by decide) k) ?_
        show OwnEnds p e below _ (T28.setTop (mkF m 117 #[.val (.long j0), .second, .val (.long j2), .second, .val (.int i4), .val (.long t0), .second, .val (.ref b18), .val (.ref b20), .val (.int (0 : Int32)), .val (.int (1 : Int32)), .val (.int (1 : Int32))] []))
        refine .pre (fun _ k => XS.iconst X28.here hx rfl (hb hby at_117) k) ?_
        show OwnEnds p e below _ (T28.setTop (mkF m 118 #[.val (.long j0), .second, .val (.long j2), .second, .val (.int i4), .val (.long t0), .second, .val (.ref b18), .val (.ref b20), .val (.int (0 : Int32)), .val (.int (1 : Int32)), .val (.int (1 : Int32))] [(.int (0 : Int32))]))
        exact own_endN X28 hx hlk (t := .boolean) Bd.returns (by simp) (hb hby at_118) rfl (by decide) (by decide) ⟨congrArg (fun z => some (Value.int z)) hF, N28, trivial⟩
    · rw [if_neg hc46] at hF
      refine .pre (fun _ k => XS.ifYes X22.here hx rfl (pc0 := 46) (pc' := 53) rfl (hb hby at_46) rfl ((if0 _ _).trans (feq hc46).2) (by decide) (by decide) k) ?_
      show OwnEnds p e below _ (T22.setTop (mkF m 53 #[.val (.long j0), .second, .val (.long j2), .second, .val (.int i4), .val (.long t0), .second, .val (.ref b18), .val (.ref b20), .unset, .unset, .unset] [(.int (f5A_0 j0 t0))]))
      refine .pre (fun _ k => XS.iconst X22.here hx rfl (hb hby at_53) k) ?_
      show OwnEnds p e below _ (T22.setTop (mkF m 54 #[.val (.long j0), .second, .val (.long j2), .second, .val (.int i4), .val (.long t0), .second, .val (.ref b18), .val (.ref b20), .unset, .unset, .unset] [(.int (0 : Int32)), (.int (f5A_0 j0 t0))]))
      by_cases hc54 : (f5A_0 j0 t0) = (0 : Int32)
      · rw [if_pos hc54] at hF
        refine .pre (fun _ k => XS.icmpNo X22.here hx rfl (hb hby at_54) rfl (teq hc54).2 k) ?_
        show OwnEnds p e below _ (T22.setTop (mkF m 57 #[.val (.long j0), .second, .val (.long j2), .second, .val (.int i4), .val (.long t0), .second, .val (.ref b18), .val (.ref b20), .unset, .unset, .unset] []))
        refine .pre (fun _ k => XS.iconst X22.here hx rfl (hb hby at_57) k) ?_
        show OwnEnds p e below _ (T22.setTop (mkF m 58 #[.val (.long j0), .second, .val (.long j2), .second, .val (.int i4), .val (.long t0), .second, .val (.ref b18), .val (.ref b20), .unset, .unset, .unset] [(.int (1 : Int32))]))
        refine .pre (fun _ k => XS.goto X22.here hx rfl (pc0 := 58) (pc' := 62) rfl (hb hby at_58) (by decide) (by decide) k) ?_
        show OwnEnds p e below _ (T22.setTop (mkF m 62 #[.val (.long j0), .second, .val (.long j2), .second, .val (.int i4), .val (.long t0), .second, .val (.ref b18), .val (.ref b20), .unset, .unset, .unset] [(.int (1 : Int32))]))
        refine .pre (fun _ k => XS.istore X22.here hx rfl (hb hby at_62) rfl (l' := #[.val (.long j0), .second, .val (.long j2), .second, .val (.int i4), .val (.long t0), .second, .val (.ref b18), .val (.ref b20), .val (.int (1 : Int32)), .unset, .unset]) rfl k) ?_
        show OwnEnds p e below _ (T22.setTop (mkF m 64 #[.val (.long j0), .second, .val (.long j2), .second, .val (.int i4), .val (.long t0), .second, .val (.ref b18), .val (.ref b20), .val (.int (1 : Int32)), .unset, .unset] []))
        refine .pre (fun _ k => XS.aload X22.here hx rfl (hb hby at_64) rfl rfl k) ?_
        show OwnEnds p e below _ (T22.setTop (mkF m 66 #[.val (.long j0), .second, .val (.long j2), .second, .val (.int i4), .val (.long t0), .second, .val (.ref b18), .val (.ref b20), .val (.int (1 : Int32)), .unset, .unset] [(.ref b18)]))
        obtain ⟨T29, X29, e29, st29⟩ := getS2 X22 hx hZ hown (host := "") (Or.inl (hw _ (List.mem_of_getElem? (i := 31) rfl))) Via.refl e22 (own_staK1 (Sta.ext E20 (own_staK1 (Sta.ext E18 SN) K19 A18)) K21 A20) (g := (mkF m 66 #[.val (.long j0), .second, .val (.long j2), .second, .val (.int i4), .val (.long t0), .second, .val (.ref b18), .val (.ref b20), .val (.int (1 : Int32)), .unset, .unset] [(.ref b18)])) rfl (hb hby at_66)
        refine .pre (fun _ k => st29 _ k) ?_
        show OwnEnds p e below _ (T29.setTop (mkF m 69 #[.val (.long j0), .second, .val (.long j2), .second, .val (.int i4), .val (.long t0), .second, .val (.ref b18), .val (.ref b20), .val (.int (1 : Int32)), .unset, .unset] [(.ref xN), (.ref b18)]))
        obtain ⟨cq30, kq30, q30a, q30b, q30c⟩ := isOf hZ e29 ((Ea19.ext E20).keep K21)
        obtain ⟨_, _, ⟨T30, L30, k30, n30⟩, -, X30, ⟨Lc30, hQ30, l30, y30, z30⟩, st30⟩ := X29.virtualBack hx (y := (⟨"com/example/hellowire/hellowire/codec/RespInteger", "equals", "(Ljava/lang/Object;)Z"⟩ : MethodName)) (z := (⟨"com/example/hellowire/hellowire/codec/RespInteger", "equals", "(Ljava/lang/Object;)Z"⟩ : MethodName)) hown (mvT hZ (hw _ (List.mem_of_getElem? (i := 24) rfl))) (mvT hZ (hw _ (List.mem_of_getElem? (i := 25) rfl))) (notFace_of_selects (args := #[]) (mvT hZ (hw _ (List.mem_of_getElem? (i := 27) rfl)))) (mvT hZ (hw _ (List.mem_of_getElem? (i := 27) rfl))) (mvT hZ (hw _ (List.mem_of_getElem? (i := 26) rfl))) (by decide) (backOf (W := 0) (rm5B l Z aZ hw [] b18 xN T21.heap n0 (Nat.le_trans (Nat.le_trans (Nat.le_trans (Nat.le_trans Z0 E18.1) K19.1) E20.1) K21.1) ((((EN.ext E18).keep K19).ext E20).keep K21)) hZ (hw _ (List.mem_of_getElem? (i := 28) rfl)) (hw _ (List.mem_of_getElem? (i := 2) rfl)) (by decide) (by decide)) q30a q30c (g := (mkF m 69 #[.val (.long j0), .second, .val (.long j2), .second, .val (.int i4), .val (.long t0), .second, .val (.ref b18), .val (.ref b20), .val (.int (1 : Int32)), .unset, .unset] [(.ref xN), (.ref b18)])) rfl (by rw [hml]; rfl) (Steps.refl _) (argsL := [(.ref xN)]) (rest := []) (lenOf pd_7 rfl) rfl (by show 2 * 0 + _ ≤ _; exact Nat.le_of_eq rfl) (hb hby at_69) (fun _ _ => ⟨rfl, e29, (by decide : 2 + 0 ≤ _), (by decide : 4 + 0 ≤ _)⟩)
        dsimp only [Pt.U, Pt.locs, Pt.cells, Pt.slots] at X30 l30 y30 z30 st30 hQ30
        subst l30 y30 z30
        obtain ⟨rfl, N30q, e30⟩ := hQ30
        have N30 := Fr.app N22 N30q
        refine .pre (fun _ k => st30.trans k) ?_
        show OwnEnds p e below _ (T30.setTop (mkF m 72 #[.val (.long j0), .second, .val (.long j2), .second, .val (.int i4), .val (.long t0), .second, .val (.ref b18), .val (.ref b20), .val (.int (1 : Int32)), .unset, .unset] [(.int (0 : Int32))]))
        have hc72 : ((0 : Int32) = (0 : Int32)) := by decide
        refine .pre (fun _ k => XS.ifNo X30.here hx rfl (hb hby at_72) rfl ((if0 _ _).trans (teq hc72).2) k) ?_
        show OwnEnds p e below _ (T30.setTop (mkF m 75 #[.val (.long j0), .second, .val (.long j2), .second, .val (.int i4), .val (.long t0), .second, .val (.ref b18), .val (.ref b20), .val (.int (1 : Int32)), .unset, .unset] []))
        refine .pre (fun _ k => XS.iconst X30.here hx rfl (hb hby at_75) k) ?_
        show OwnEnds p e below _ (T30.setTop (mkF m 76 #[.val (.long j0), .second, .val (.long j2), .second, .val (.int i4), .val (.long t0), .second, .val (.ref b18), .val (.ref b20), .val (.int (1 : Int32)), .unset, .unset] [(.int (1 : Int32))]))
        refine .pre (fun _ k => XS.goto X30.here hx rfl (pc0 := 76) (pc' := 80) rfl (hb hby at_76) (by decide) (by decide) k) ?_
        show OwnEnds p e below _ (T30.setTop (mkF m 80 #[.val (.long j0), .second, .val (.long j2), .second, .val (.int i4), .val (.long t0), .second, .val (.ref b18), .val (.ref b20), .val (.int (1 : Int32)), .unset, .unset] [(.int (1 : Int32))]))
        refine .pre (fun _ k => XS.istore X30.here hx rfl (hb hby at_80) rfl (l' := #[.val (.long j0), .second, .val (.long j2), .second, .val (.int i4), .val (.long t0), .second, .val (.ref b18), .val (.ref b20), .val (.int (1 : Int32)), .val (.int (1 : Int32)), .unset]) rfl k) ?_
        show OwnEnds p e below _ (T30.setTop (mkF m 82 #[.val (.long j0), .second, .val (.long j2), .second, .val (.int i4), .val (.long t0), .second, .val (.ref b18), .val (.ref b20), .val (.int (1 : Int32)), .val (.int (1 : Int32)), .unset] []))
        refine .pre (fun _ k => XS.aload X30.here hx rfl (hb hby at_82) rfl rfl k) ?_
        show OwnEnds p e below _ (T30.setTop (mkF m 84 #[.val (.long j0), .second, .val (.long j2), .second, .val (.int i4), .val (.long t0), .second, .val (.ref b18), .val (.ref b20), .val (.int (1 : Int32)), .val (.int (1 : Int32)), .unset] [(.ref b18)]))
        refine .pre (fun _ k => XS.aconstNull X30.here hx rfl (hb hby at_84) k) ?_
        show OwnEnds p e below _ (T30.setTop (mkF m 85 #[.val (.long j0), .second, .val (.long j2), .second, .val (.int i4), .val (.long t0), .second, .val (.ref b18), .val (.ref b20), .val (.int (1 : Int32)), .val (.int (1 : Int32)), .unset] [.null, (.ref b18)]))
        obtain ⟨cq31, kq31, q31a, q31b, q31c⟩ := isOf hZ e30 ((Ea19.ext E20).keep K21)
        obtain ⟨_, _, ⟨T31, L31, k31, n31⟩, -, X31, ⟨Lc31, hQ31, l31, y31, z31⟩, st31⟩ := X30.virtualBack hx (y := (⟨"com/example/hellowire/hellowire/codec/RespInteger", "equals", "(Ljava/lang/Object;)Z"⟩ : MethodName)) (z := (⟨"com/example/hellowire/hellowire/codec/RespInteger", "equals", "(Ljava/lang/Object;)Z"⟩ : MethodName)) hown (mvT hZ (hw _ (List.mem_of_getElem? (i := 24) rfl))) (mvT hZ (hw _ (List.mem_of_getElem? (i := 25) rfl))) (notFace_of_selects (args := #[]) (mvT hZ (hw _ (List.mem_of_getElem? (i := 27) rfl)))) (mvT hZ (hw _ (List.mem_of_getElem? (i := 27) rfl))) (mvT hZ (hw _ (List.mem_of_getElem? (i := 26) rfl))) (by decide) (backOf (W := 0) (rm5C l Z aZ hw [] b18 T21.heap n0 (Nat.le_trans (Nat.le_trans (Nat.le_trans (Nat.le_trans Z0 E18.1) K19.1) E20.1) K21.1)) hZ (hw _ (List.mem_of_getElem? (i := 28) rfl)) (hw _ (List.mem_of_getElem? (i := 2) rfl)) (by decide) (by decide)) q31a q31c (g := (mkF m 85 #[.val (.long j0), .second, .val (.long j2), .second, .val (.int i4), .val (.long t0), .second, .val (.ref b18), .val (.ref b20), .val (.int (1 : Int32)), .val (.int (1 : Int32)), .unset] [.null, (.ref b18)])) rfl (by rw [hml]; rfl) (Steps.refl _) (argsL := [.null]) (rest := []) (lenOf pd_7 rfl) rfl (by show 2 * 0 + _ ≤ _; exact Nat.le_of_eq rfl) (hb hby at_85) (fun _ _ => ⟨rfl, e30, (by decide : 2 + 0 ≤ _), (by decide : 4 + 0 ≤ _)⟩)
        dsimp only [Pt.U, Pt.locs, Pt.cells, Pt.slots] at X31 l31 y31 z31 st31 hQ31
        subst l31 y31 z31
        obtain ⟨rfl, N31q, e31⟩ := hQ31
        have N31 := Fr.app N30 N31q
        refine .pre (fun _ k => st31.trans k) ?_
        show OwnEnds p e below _ (T31.setTop (mkF m 88 #[.val (.long j0), .second, .val (.long j2), .second, .val (.int i4), .val (.long t0), .second, .val (.ref b18), .val (.ref b20), .val (.int (1 : Int32)), .val (.int (1 : Int32)), .unset] [(.int (0 : Int32))]))
        have hc88 : ((0 : Int32) = (0 : Int32)) := by decide
        refine .pre (fun _ k => XS.ifNo X31.here hx rfl (hb hby at_88) rfl ((if0 _ _).trans (teq hc88).2) k) ?_
        show OwnEnds p e below _ (T31.setTop (mkF m 91 #[.val (.long j0), .second, .val (.long j2), .second, .val (.int i4), .val (.long t0), .second, .val (.ref b18), .val (.ref b20), .val (.int (1 : Int32)), .val (.int (1 : Int32)), .unset] []))
        refine .pre (fun _ k => XS.iconst X31.here hx rfl (hb hby at_91) k) ?_
        show OwnEnds p e below _ (T31.setTop (mkF m 92 #[.val (.long j0), .second, .val (.long j2), .second, .val (.int i4), .val (.long t0), .second, .val (.ref b18), .val (.ref b20), .val (.int (1 : Int32)), .val (.int (1 : Int32)), .unset] [(.int (1 : Int32))]))
        refine .pre (fun _ k => XS.goto X31.here hx rfl (pc0 := 92) (pc' := 96) rfl (hb hby at_92) (by decide) (by decide) k) ?_
        show OwnEnds p e below _ (T31.setTop (mkF m 96 #[.val (.long j0), .second, .val (.long j2), .second, .val (.int i4), .val (.long t0), .second, .val (.ref b18), .val (.ref b20), .val (.int (1 : Int32)), .val (.int (1 : Int32)), .unset] [(.int (1 : Int32))]))
        refine .pre (fun _ k => XS.istore X31.here hx rfl (hb hby at_96) rfl (l' := #[.val (.long j0), .second, .val (.long j2), .second, .val (.int i4), .val (.long t0), .second, .val (.ref b18), .val (.ref b20), .val (.int (1 : Int32)), .val (.int (1 : Int32)), .val (.int (1 : Int32))]) rfl k) ?_
        show OwnEnds p e below _ (T31.setTop (mkF m 98 #[.val (.long j0), .second, .val (.long j2), .second, .val (.int i4), .val (.long t0), .second, .val (.ref b18), .val (.ref b20), .val (.int (1 : Int32)), .val (.int (1 : Int32)), .val (.int (1 : Int32))] []))
        refine .pre (fun _ k => XS.iload X31.here hx rfl (hb hby at_98) rfl k) ?_
        show OwnEnds p e below _ (T31.setTop (mkF m 100 #[.val (.long j0), .second, .val (.long j2), .second, .val (.int i4), .val (.long t0), .second, .val (.ref b18), .val (.ref b20), .val (.int (1 : Int32)), .val (.int (1 : Int32)), .val (.int (1 : Int32))] [(.int (1 : Int32))]))
        have hc100 : ¬ ((1 : Int32) = (0 : Int32)) := by decide
        refine .pre (fun _ k => XS.ifNo X31.here hx rfl (hb hby at_100) rfl ((if0 _ _).trans (feq hc100).1) k) ?_
        show OwnEnds p e below _ (T31.setTop (mkF m 103 #[.val (.long j0), .second, .val (.long j2), .second, .val (.int i4), .val (.long t0), .second, .val (.ref b18), .val (.ref b20), .val (.int (1 : Int32)), .val (.int (1 : Int32)), .val (.int (1 : Int32))] []))
        refine .pre (fun _ k => XS.iload X31.here hx rfl (hb hby at_103) rfl k) ?_
        show OwnEnds p e below _ (T31.setTop (mkF m 105 #[.val (.long j0), .second, .val (.long j2), .second, .val (.int i4), .val (.long t0), .second, .val (.ref b18), .val (.ref b20), .val (.int (1 : Int32)), .val (.int (1 : Int32)), .val (.int (1 : Int32))] [(.int (1 : Int32))]))
        have hc105 : ¬ ((1 : Int32) = (0 : Int32)) := by decide
        refine .pre (fun _ k => XS.ifNo X31.here hx rfl (hb hby at_105) rfl ((if0 _ _).trans (feq hc105).1) k) ?_
        show OwnEnds p e below _ (T31.setTop (mkF m 108 #[.val (.long j0), .second, .val (.long j2), .second, .val (.int i4), .val (.long t0), .second, .val (.ref b18), .val (.ref b20), .val (.int (1 : Int32)), .val (.int (1 : Int32)), .val (.int (1 : Int32))] []))
        refine .pre (fun _ k => XS.iload X31.here hx rfl (hb hby at_108) rfl k) ?_
        show OwnEnds p e below _ (T31.setTop (mkF m 110 #[.val (.long j0), .second, .val (.long j2), .second, .val (.int i4), .val (.long t0), .second, .val (.ref b18), .val (.ref b20), .val (.int (1 : Int32)), .val (.int (1 : Int32)), .val (.int (1 : Int32))] [(.int (1 : Int32))]))
        have hc110 : ¬ ((1 : Int32) = (0 : Int32)) := by decide
        refine .pre (fun _ k => XS.ifNo X31.here hx rfl (hb hby at_110) rfl ((if0 _ _).trans (feq hc110).1) k) ?_
        show OwnEnds p e below _ (T31.setTop (mkF m 113 #[.val (.long j0), .second, .val (.long j2), .second, .val (.int i4), .val (.long t0), .second, .val (.ref b18), .val (.ref b20), .val (.int (1 : Int32)), .val (.int (1 : Int32)), .val (.int (1 : Int32))] []))
        refine .pre (fun _ k => XS.iconst X31.here hx rfl (hb hby at_113) k) ?_
        show OwnEnds p e below _ (T31.setTop (mkF m 114 #[.val (.long j0), .second, .val (.long j2), .second, .val (.int i4), .val (.long t0), .second, .val (.ref b18), .val (.ref b20), .val (.int (1 : Int32)), .val (.int (1 : Int32)), .val (.int (1 : Int32))] [(.int (1 : Int32))]))
        refine .pre (fun _ k => XS.goto X31.here hx rfl (pc0 := 114) (pc' := 118) rfl (hb hby at_114) (by decide) (by decide) k) ?_
        show OwnEnds p e below _ (T31.setTop (mkF m 118 #[.val (.long j0), .second, .val (.long j2), .second, .val (.int i4), .val (.long t0), .second, .val (.ref b18), .val (.ref b20), .val (.int (1 : Int32)), .val (.int (1 : Int32)), .val (.int (1 : Int32))] [(.int (1 : Int32))]))
        exact own_endN X31 hx hlk (t := .boolean) Bd.returns (by simp) (hb hby at_118) rfl (by decide) (by decide) ⟨congrArg (fun z => some (Value.int z)) hF, N31, trivial⟩
      · rw [if_neg hc54] at hF
        refine .pre (fun _ k => XS.icmpYes X22.here hx rfl (pc0 := 54) (pc' := 61) rfl (hb hby at_54) rfl (feq hc54).2 (by decide) (by decide) k) ?_
        show OwnEnds p e below _ (T22.setTop (mkF m 61 #[.val (.long j0), .second, .val (.long j2), .second, .val (.int i4), .val (.long t0), .second, .val (.ref b18), .val (.ref b20), .unset, .unset, .unset] []))
        refine .pre (fun _ k => XS.iconst X22.here hx rfl (hb hby at_61) k) ?_
        show OwnEnds p e below _ (T22.setTop (mkF m 62 #[.val (.long j0), .second, .val (.long j2), .second, .val (.int i4), .val (.long t0), .second, .val (.ref b18), .val (.ref b20), .unset, .unset, .unset] [(.int (0 : Int32))]))
        refine .pre (fun _ k => XS.istore X22.here hx rfl (hb hby at_62) rfl (l' := #[.val (.long j0), .second, .val (.long j2), .second, .val (.int i4), .val (.long t0), .second, .val (.ref b18), .val (.ref b20), .val (.int (0 : Int32)), .unset, .unset]) rfl k) ?_
        show OwnEnds p e below _ (T22.setTop (mkF m 64 #[.val (.long j0), .second, .val (.long j2), .second, .val (.int i4), .val (.long t0), .second, .val (.ref b18), .val (.ref b20), .val (.int (0 : Int32)), .unset, .unset] []))
        refine .pre (fun _ k => XS.aload X22.here hx rfl (hb hby at_64) rfl rfl k) ?_
        show OwnEnds p e below _ (T22.setTop (mkF m 66 #[.val (.long j0), .second, .val (.long j2), .second, .val (.int i4), .val (.long t0), .second, .val (.ref b18), .val (.ref b20), .val (.int (0 : Int32)), .unset, .unset] [(.ref b18)]))
        obtain ⟨T32, X32, e32, st32⟩ := getS2 X22 hx hZ hown (host := "") (Or.inl (hw _ (List.mem_of_getElem? (i := 31) rfl))) Via.refl e22 (own_staK1 (Sta.ext E20 (own_staK1 (Sta.ext E18 SN) K19 A18)) K21 A20) (g := (mkF m 66 #[.val (.long j0), .second, .val (.long j2), .second, .val (.int i4), .val (.long t0), .second, .val (.ref b18), .val (.ref b20), .val (.int (0 : Int32)), .unset, .unset] [(.ref b18)])) rfl (hb hby at_66)
        refine .pre (fun _ k => st32 _ k) ?_
        show OwnEnds p e below _ (T32.setTop (mkF m 69 #[.val (.long j0), .second, .val (.long j2), .second, .val (.int i4), .val (.long t0), .second, .val (.ref b18), .val (.ref b20), .val (.int (0 : Int32)), .unset, .unset] [(.ref xN), (.ref b18)]))
        obtain ⟨cq33, kq33, q33a, q33b, q33c⟩ := isOf hZ e32 ((Ea19.ext E20).keep K21)
        obtain ⟨_, _, ⟨T33, L33, k33, n33⟩, -, X33, ⟨Lc33, hQ33, l33, y33, z33⟩, st33⟩ := X32.virtualBack hx (y := (⟨"com/example/hellowire/hellowire/codec/RespInteger", "equals", "(Ljava/lang/Object;)Z"⟩ : MethodName)) (z := (⟨"com/example/hellowire/hellowire/codec/RespInteger", "equals", "(Ljava/lang/Object;)Z"⟩ : MethodName)) hown (mvT hZ (hw _ (List.mem_of_getElem? (i := 24) rfl))) (mvT hZ (hw _ (List.mem_of_getElem? (i := 25) rfl))) (notFace_of_selects (args := #[]) (mvT hZ (hw _ (List.mem_of_getElem? (i := 27) rfl)))) (mvT hZ (hw _ (List.mem_of_getElem? (i := 27) rfl))) (mvT hZ (hw _ (List.mem_of_getElem? (i := 26) rfl))) (by decide) (backOf (W := 0) (rm5B l Z aZ hw [] b18 xN T21.heap n0 (Nat.le_trans (Nat.le_trans (Nat.le_trans (Nat.le_trans Z0 E18.1) K19.1) E20.1) K21.1) ((((EN.ext E18).keep K19).ext E20).keep K21)) hZ (hw _ (List.mem_of_getElem? (i := 28) rfl)) (hw _ (List.mem_of_getElem? (i := 2) rfl)) (by decide) (by decide)) q33a q33c (g := (mkF m 69 #[.val (.long j0), .second, .val (.long j2), .second, .val (.int i4), .val (.long t0), .second, .val (.ref b18), .val (.ref b20), .val (.int (0 : Int32)), .unset, .unset] [(.ref xN), (.ref b18)])) rfl (by rw [hml]; rfl) (Steps.refl _) (argsL := [(.ref xN)]) (rest := []) (lenOf pd_7 rfl) rfl (by show 2 * 0 + _ ≤ _; exact Nat.le_of_eq rfl) (hb hby at_69) (fun _ _ => ⟨rfl, e32, (by decide : 2 + 0 ≤ _), (by decide : 4 + 0 ≤ _)⟩)
        dsimp only [Pt.U, Pt.locs, Pt.cells, Pt.slots] at X33 l33 y33 z33 st33 hQ33
        subst l33 y33 z33
        obtain ⟨rfl, N33q, e33⟩ := hQ33
        have N33 := Fr.app N22 N33q
        refine .pre (fun _ k => st33.trans k) ?_
        show OwnEnds p e below _ (T33.setTop (mkF m 72 #[.val (.long j0), .second, .val (.long j2), .second, .val (.int i4), .val (.long t0), .second, .val (.ref b18), .val (.ref b20), .val (.int (0 : Int32)), .unset, .unset] [(.int (0 : Int32))]))
        have hc72 : ((0 : Int32) = (0 : Int32)) := by decide
        refine .pre (fun _ k => XS.ifNo X33.here hx rfl (hb hby at_72) rfl ((if0 _ _).trans (teq hc72).2) k) ?_
        show OwnEnds p e below _ (T33.setTop (mkF m 75 #[.val (.long j0), .second, .val (.long j2), .second, .val (.int i4), .val (.long t0), .second, .val (.ref b18), .val (.ref b20), .val (.int (0 : Int32)), .unset, .unset] []))
        refine .pre (fun _ k => XS.iconst X33.here hx rfl (hb hby at_75) k) ?_
        show OwnEnds p e below _ (T33.setTop (mkF m 76 #[.val (.long j0), .second, .val (.long j2), .second, .val (.int i4), .val (.long t0), .second, .val (.ref b18), .val (.ref b20), .val (.int (0 : Int32)), .unset, .unset] [(.int (1 : Int32))]))
        refine .pre (fun _ k => XS.goto X33.here hx rfl (pc0 := 76) (pc' := 80) rfl (hb hby at_76) (by decide) (by decide) k) ?_
        show OwnEnds p e below _ (T33.setTop (mkF m 80 #[.val (.long j0), .second, .val (.long j2), .second, .val (.int i4), .val (.long t0), .second, .val (.ref b18), .val (.ref b20), .val (.int (0 : Int32)), .unset, .unset] [(.int (1 : Int32))]))
        refine .pre (fun _ k => XS.istore X33.here hx rfl (hb hby at_80) rfl (l' := #[.val (.long j0), .second, .val (.long j2), .second, .val (.int i4), .val (.long t0), .second, .val (.ref b18), .val (.ref b20), .val (.int (0 : Int32)), .val (.int (1 : Int32)), .unset]) rfl k) ?_
        show OwnEnds p e below _ (T33.setTop (mkF m 82 #[.val (.long j0), .second, .val (.long j2), .second, .val (.int i4), .val (.long t0), .second, .val (.ref b18), .val (.ref b20), .val (.int (0 : Int32)), .val (.int (1 : Int32)), .unset] []))
        refine .pre (fun _ k => XS.aload X33.here hx rfl (hb hby at_82) rfl rfl k) ?_
        show OwnEnds p e below _ (T33.setTop (mkF m 84 #[.val (.long j0), .second, .val (.long j2), .second, .val (.int i4), .val (.long t0), .second, .val (.ref b18), .val (.ref b20), .val (.int (0 : Int32)), .val (.int (1 : Int32)), .unset] [(.ref b18)]))
        refine .pre (fun _ k => XS.aconstNull X33.here hx rfl (hb hby at_84) k) ?_
        show OwnEnds p e below _ (T33.setTop (mkF m 85 #[.val (.long j0), .second, .val (.long j2), .second, .val (.int i4), .val (.long t0), .second, .val (.ref b18), .val (.ref b20), .val (.int (0 : Int32)), .val (.int (1 : Int32)), .unset] [.null, (.ref b18)]))
        obtain ⟨cq34, kq34, q34a, q34b, q34c⟩ := isOf hZ e33 ((Ea19.ext E20).keep K21)
        obtain ⟨_, _, ⟨T34, L34, k34, n34⟩, -, X34, ⟨Lc34, hQ34, l34, y34, z34⟩, st34⟩ := X33.virtualBack hx (y := (⟨"com/example/hellowire/hellowire/codec/RespInteger", "equals", "(Ljava/lang/Object;)Z"⟩ : MethodName)) (z := (⟨"com/example/hellowire/hellowire/codec/RespInteger", "equals", "(Ljava/lang/Object;)Z"⟩ : MethodName)) hown (mvT hZ (hw _ (List.mem_of_getElem? (i := 24) rfl))) (mvT hZ (hw _ (List.mem_of_getElem? (i := 25) rfl))) (notFace_of_selects (args := #[]) (mvT hZ (hw _ (List.mem_of_getElem? (i := 27) rfl)))) (mvT hZ (hw _ (List.mem_of_getElem? (i := 27) rfl))) (mvT hZ (hw _ (List.mem_of_getElem? (i := 26) rfl))) (by decide) (backOf (W := 0) (rm5C l Z aZ hw [] b18 T21.heap n0 (Nat.le_trans (Nat.le_trans (Nat.le_trans (Nat.le_trans Z0 E18.1) K19.1) E20.1) K21.1)) hZ (hw _ (List.mem_of_getElem? (i := 28) rfl)) (hw _ (List.mem_of_getElem? (i := 2) rfl)) (by decide) (by decide)) q34a q34c (g := (mkF m 85 #[.val (.long j0), .second, .val (.long j2), .second, .val (.int i4), .val (.long t0), .second, .val (.ref b18), .val (.ref b20), .val (.int (0 : Int32)), .val (.int (1 : Int32)), .unset] [.null, (.ref b18)])) rfl (by rw [hml]; rfl) (Steps.refl _) (argsL := [.null]) (rest := []) (lenOf pd_7 rfl) rfl (by show 2 * 0 + _ ≤ _; exact Nat.le_of_eq rfl) (hb hby at_85) (fun _ _ => ⟨rfl, e33, (by decide : 2 + 0 ≤ _), (by decide : 4 + 0 ≤ _)⟩)
        dsimp only [Pt.U, Pt.locs, Pt.cells, Pt.slots] at X34 l34 y34 z34 st34 hQ34
        subst l34 y34 z34
        obtain ⟨rfl, N34q, e34⟩ := hQ34
        have N34 := Fr.app N33 N34q
        refine .pre (fun _ k => st34.trans k) ?_
        show OwnEnds p e below _ (T34.setTop (mkF m 88 #[.val (.long j0), .second, .val (.long j2), .second, .val (.int i4), .val (.long t0), .second, .val (.ref b18), .val (.ref b20), .val (.int (0 : Int32)), .val (.int (1 : Int32)), .unset] [(.int (0 : Int32))]))
        have hc88 : ((0 : Int32) = (0 : Int32)) := by decide
        refine .pre (fun _ k => XS.ifNo X34.here hx rfl (hb hby at_88) rfl ((if0 _ _).trans (teq hc88).2) k) ?_
        show OwnEnds p e below _ (T34.setTop (mkF m 91 #[.val (.long j0), .second, .val (.long j2), .second, .val (.int i4), .val (.long t0), .second, .val (.ref b18), .val (.ref b20), .val (.int (0 : Int32)), .val (.int (1 : Int32)), .unset] []))
        refine .pre (fun _ k => XS.iconst X34.here hx rfl (hb hby at_91) k) ?_
        show OwnEnds p e below _ (T34.setTop (mkF m 92 #[.val (.long j0), .second, .val (.long j2), .second, .val (.int i4), .val (.long t0), .second, .val (.ref b18), .val (.ref b20), .val (.int (0 : Int32)), .val (.int (1 : Int32)), .unset] [(.int (1 : Int32))]))
        refine .pre (fun _ k => XS.goto X34.here hx rfl (pc0 := 92) (pc' := 96) rfl (hb hby at_92) (by decide) (by decide) k) ?_
        show OwnEnds p e below _ (T34.setTop (mkF m 96 #[.val (.long j0), .second, .val (.long j2), .second, .val (.int i4), .val (.long t0), .second, .val (.ref b18), .val (.ref b20), .val (.int (0 : Int32)), .val (.int (1 : Int32)), .unset] [(.int (1 : Int32))]))
        refine .pre (fun _ k => XS.istore X34.here hx rfl (hb hby at_96) rfl (l' := #[.val (.long j0), .second, .val (.long j2), .second, .val (.int i4), .val (.long t0), .second, .val (.ref b18), .val (.ref b20), .val (.int (0 : Int32)), .val (.int (1 : Int32)), .val (.int (1 : Int32))]) rfl k) ?_
        show OwnEnds p e below _ (T34.setTop (mkF m 98 #[.val (.long j0), .second, .val (.long j2), .second, .val (.int i4), .val (.long t0), .second, .val (.ref b18), .val (.ref b20), .val (.int (0 : Int32)), .val (.int (1 : Int32)), .val (.int (1 : Int32))] []))
        refine .pre (fun _ k => XS.iload X34.here hx rfl (hb hby at_98) rfl k) ?_
        show OwnEnds p e below _ (T34.setTop (mkF m 100 #[.val (.long j0), .second, .val (.long j2), .second, .val (.int i4), .val (.long t0), .second, .val (.ref b18), .val (.ref b20), .val (.int (0 : Int32)), .val (.int (1 : Int32)), .val (.int (1 : Int32))] [(.int (0 : Int32))]))
        have hc100 : ((0 : Int32) = (0 : Int32)) := by decide
        refine .pre (fun _ k => XS.ifYes X34.here hx rfl (pc0 := 100) (pc' := 117) rfl (hb hby at_100) rfl ((if0 _ _).trans (teq hc100).1) (by decide) (by decide) k) ?_
        show OwnEnds p e below _ (T34.setTop (mkF m 117 #[.val (.long j0), .second, .val (.long j2), .second, .val (.int i4), .val (.long t0), .second, .val (.ref b18), .val (.ref b20), .val (.int (0 : Int32)), .val (.int (1 : Int32)), .val (.int (1 : Int32))] []))
        refine .pre (fun _ k => XS.iconst X34.here hx rfl (hb hby at_117) k) ?_
        show OwnEnds p e below _ (T34.setTop (mkF m 118 #[.val (.long j0), .second, .val (.long j2), .second, .val (.int i4), .val (.long t0), .second, .val (.ref b18), .val (.ref b20), .val (.int (0 : Int32)), .val (.int (1 : Int32)), .val (.int (1 : Int32))] [(.int (0 : Int32))]))
        exact own_endN X34 hx hlk (t := .boolean) Bd.returns (by simp) (hb hby at_118) rfl (by decide) (by decide) ⟨congrArg (fun z => some (Value.int z)) hF, N34, trivial⟩
  have B0 : ∀ (T : State) (L : List Loc) (X : Stand p l e room_1 s m #[(.long q0), (.long q1), (.int p2)] below meth c T L 0 0) (eT : T.heap = h0) (N : Fr n0 L) (j0 : Int64) (j2 : Int64) (i4 : Int32), f0_0 q0 q1 p2 xL xN j0 j2 i4 = f0_0 q0 q1 p2 xL xN q0 q1 p2 → OwnEnds p e below (OwnQ s (Q0 Z q0 q1 p2 xL xN h0 n0) 16 128) (T.setTop (mkF m 0 #[.val (.long j0), .second, .val (.long j2), .second, .val (.int i4), .unset, .unset, .unset, .unset, .unset, .unset, .unset] [])) := by
    intro T L X eT N j0 j2 i4 hF
    change (if (i4 &&& (1 : Int32)) = (0 : Int32) then (f0_12 q0 q1 p2 xL xN j0 j0) else (f0_12 q0 q1 p2 xL xN j0 j2)) = _ at hF
    show OwnEnds p e below _ (T.setTop (mkF m 0 #[.val (.long j0), .second, .val (.long j2), .second, .val (.int i4), .unset, .unset, .unset, .unset, .unset, .unset, .unset] []))
    refine .pre (fun _ k => XS.iload X.here hx rfl (hb hby at_0) rfl k) ?_
    show OwnEnds p e below _ (T.setTop (mkF m 2 #[.val (.long j0), .second, .val (.long j2), .second, .val (.int i4), .unset, .unset, .unset, .unset, .unset, .unset, .unset] [(.int i4)]))
    refine .pre (fun _ k => XS.iconst X.here hx rfl (hb hby at_2) k) ?_
    show OwnEnds p e below _ (T.setTop (mkF m 3 #[.val (.long j0), .second, .val (.long j2), .second, .val (.int i4), .unset, .unset, .unset, .unset, .unset, .unset, .unset] [(.int (1 : Int32)), (.int i4)]))
    refine .pre (fun _ k => XS.iand X.here hx rfl (hb hby at_3) rfl k) ?_
    show OwnEnds p e below _ (T.setTop (mkF m 4 #[.val (.long j0), .second, .val (.long j2), .second, .val (.int i4), .unset, .unset, .unset, .unset, .unset, .unset, .unset] [(.int (i4 &&& (1 : Int32)))]))
    by_cases hc4 : (i4 &&& (1 : Int32)) = (0 : Int32)
    · rw [if_pos hc4] at hF
      refine .pre (fun _ k => XS.ifYes X.here hx rfl (pc0 := 4) (pc' := 11) rfl (hb hby at_4) rfl ((if0 _ _).trans (teq hc4).1) (by decide) (by decide) k) ?_
      show OwnEnds p e below _ (T.setTop (mkF m 11 #[.val (.long j0), .second, .val (.long j2), .second, .val (.int i4), .unset, .unset, .unset, .unset, .unset, .unset, .unset] []))
      refine .pre (fun _ k => XS.lloadN X.here hx rfl (hb hby at_11) rfl k) ?_
      exact B12 T _ X eT N j0 j2 i4 j0  hF
    · rw [if_neg hc4] at hF
      refine .pre (fun _ k => XS.ifNo X.here hx rfl (hb hby at_4) rfl ((if0 _ _).trans (feq hc4).1) k) ?_
      show OwnEnds p e below _ (T.setTop (mkF m 7 #[.val (.long j0), .second, .val (.long j2), .second, .val (.int i4), .unset, .unset, .unset, .unset, .unset, .unset, .unset] []))
      refine .pre (fun _ k => XS.lloadN X.here hx rfl (hb hby at_7) rfl k) ?_
      show OwnEnds p e below _ (T.setTop (mkF m 8 #[.val (.long j0), .second, .val (.long j2), .second, .val (.int i4), .unset, .unset, .unset, .unset, .unset, .unset, .unset] [(.long j2)]))
      refine .pre (fun _ k => XS.goto X.here hx rfl (pc0 := 8) (pc' := 12) rfl (hb hby at_8) (by decide) (by decide) k) ?_
      exact B12 T _ X eT N j0 j2 i4 j2  hF
  exact B0 s₁ _ X0 e0 N0 q0 q1 p2 rfl
theorem own_law (xL xN : Addr) (x y : Int64) (z : Int32) : f0_0 x y z xL xN x y z = 1 := by
  have h : ∀ b : Int64, f0_12 x y z xL xN x b = 1 := by
    intro b
    simp only [f0_12, f5A_0, lw_eq]
    by_cases q : x = b
    · simp [q]
    · simp [q, Ne.symm q]
  simp only [f0_0, h]
  split <;> rfl
set_option maxRecDepth 65536 in
set_option maxHeartbeats 40000000 in
theorem comes_1 {Post : Tables → Env → Array Value → State → Outcome → State → Prop} (hpost : ∀ tb e args s v u, (limb_1_1.after args s (.returned v) u = true ∧ limb_1_2.after args s (.returned v) u = true ∧ True) → FrameEnd s (.returned v) u (Jvm.fieldLocs frame_1_writes args s ++ Jvm.arrayLocs frame_1_arrays args s ++ Jvm.staticLocs frame_1_statics s) 16 128 → Post tb e args s (.returned v) u) :
    ArmFor flags0 classFile x code maxLocals ret World_1 tables_1 room_1 Calls_1 rest_1 Pre_1 Post := by
  intro l hfl _ _ p e ha hc hk s m args below hf hA hF happ hP
  obtain ⟨hcalls, hrest, hpre⟩ := hP
  obtain ⟨-, -, -, hnamed, -, -, -, hat⟩ := (Spec.applies_iff hf).mp happ
  obtain ⟨hg, hn⟩ := and_e (Cond.before_iff.mp (show (Jvm.Cond.and given_1 narrow_1).before args s = true from hpre))
  obtain ⟨hcount, hg0⟩ := and_e hg
  obtain ⟨ha0, hg1⟩ := and_e hg0
  obtain ⟨ha1, hg2⟩ := and_e hg1
  have ha2 := hg2
  obtain ⟨w0, w1, w2, rfl⟩ : ∃ w0 w1 w2 : Value, args = #[w0, w1, w2] := by
    have hs : args.size = 3 := by simpa [Cond.value, given_1] using hcount
    obtain ⟨L⟩ := args
    match L, hs with
    | [w0, w1, w2], _ => exact ⟨w0, w1, w2, rfl⟩
  have hw := fun d (hd : d ∈ tables_1) => atoms_spec (ws := Jvm.Cond.code x code maxLocals ret :: tables_1) hat d (List.mem_cons_of_mem _ hd)
  have hfit : Fit s := fun {y c} hc i hi => by
    obtain ⟨ha, rfl⟩ := Array.getElem?_eq_some_iff.mp hc
    have q := List.all_eq_true.mp ((Array.all_eq_true_iff_forall_mem.mp hF) _ (Array.getElem_mem ha)) i (List.mem_range.mpr hi)
    simpa [Array.getElem?_eq_getElem hi] using q
  obtain ⟨hsets, hown0⟩ := atoms_of _ (rest_1_c_eq ▸ (show rest_1_c.before _ s = true from hrest))
  have hr0 := Cond.before_iff.mp hown0
  obtain ⟨i0, ei0⟩ := isL_v ha0
  obtain rfl : w0 = (.long i0) := Option.some.inj ei0
  obtain ⟨i1, ei1⟩ := isL_v ha1
  obtain rfl : w1 = (.long i1) := Option.some.inj ei1
  obtain ⟨i2, ei2⟩ := is_v ha2
  obtain rfl : w2 = (.int i2) := Option.some.inj ei2
  obtain ⟨xN, vN⟩ := exa_v hn
  have EN := Exa.start vN hn
  have SN := Sta.start vN (Or.inr ⟨(hw _ (List.mem_of_getElem? (i := 32) rfl)), (hw _ (List.mem_of_getElem? (i := 33) rfl))⟩)
  have h2 := Cond.before_iff.mp (hsets _ (List.mem_of_getElem? (i := 2) rfl))
  obtain ⟨xL, vL⟩ := exa_v h2
  have SL := Sta.start vL (Or.inl (hsets _ (List.mem_of_getElem? (i := 1) rfl)))
  obtain ⟨n, o, h1, h2, h3, _, L, rfl, ⟨hv, N, -⟩, hq⟩ := rm0 l s _ hw tables_1 i0 i1 i2 xL xN s.heap s.heap.size (Nat.le_refl _) SL SN EN EN.lt p e ha hc hk s m _ below hf ((Spec.applies_iff_loose hf).mp happ).1 ⟨rfl, State.Warmed39.refl s, rfl⟩ trivial
  rw [own_law xL xN] at hv
  subst hv
  refine ⟨n, _, h1, h2, h3, hpost _ _ _ _ _ _ ⟨Cond.after_iff.mpr rfl, Cond.after_iff.mpr (eq_i res_at (Term.int_eval (1)) rfl), trivial⟩ ⟨hq.1, hq.2.1, (hq.2.2.sift fun y hy => Or.inr (N y hy)).mono (by decide) (by decide)⟩⟩
theorem main_1_1 : Claimed_1_1 := comes_1 fun _ _ _ _ _ _ h hF => ⟨h.1, hF⟩
theorem main_1_2 : Claimed_1_2 := comes_1 fun _ _ _ _ _ _ h hF => ⟨h.2.1, hF⟩
end Jvm.Pilot.@@N@@
namespace Jvm.Pilot.@@N@@
open Jvm Jvm.ClassFile Sem Op Lib Jvm.Free Jvm.Stand Jvm.Pilot.@@N@@.Jvm.D
/-! MADE BY PROGRAM (witnessworld.py) out of the Statement's table words and the real class files: 22 classes; the members and pool entries that the words name. The judged class is class 1, her method 1. -/
namespace start1
open Jvm.ClassFile
def u (s : String) : CpInfo := .utf8 (stringToUtf16 s)
/-- a pool by its gaps: so many unusable entries, then the entry; so many at the end -/
def gap : Nat → List CpInfo → List CpInfo
  | 0, r => r
  | n + 1, r => .unusable :: gap n r
def poolList (es : List (Nat × CpInfo)) (last : Nat) : List CpInfo := es.foldr (fun e r => gap e.1 (e.2 :: r)) (gap last [])
def pool (es : List (Nat × CpInfo)) (last : Nat) : Array CpInfo := ⟨poolList es last⟩
def fileOf (pool : Array CpInfo) (this : Nat) (attrs : Array Attribute := #[]) (ms : Array MethodInfo := #[]) (fl : Nat := 33) (sup : Nat := 0) (ifs : Array Nat := #[]) (fds : Array FieldInfo := #[]) : ClassFile where
  minorVersion := 0
  majorVersion := 65
  constantPool := pool
  accessFlags := fl
  thisClass := this
  superClass := sup
  interfaces := ifs
  fields := fds
  methods := ms
  attributes := attrs
def plain (name : String) (sup : Option ClassId) : Class where
  name := name
  kind := .ordinary
  loader := none
  accessFlags := 33
  super := sup
  interfaces := #[]
  cf := none
  fields := #[]
  methods := #[]
  instanceTypes := #[]
  staticTypes := #[]
  resolved := #[]
  callSites := []
  init := .initialized
  statics := none
  mirror := none

def pool0 : Array CpInfo := pool [(5, u "<init>"), (0, u "()V"), (1, .class_ 10), (1, u "java/lang/Object")] 113

def k0c0 : Code := { maxStack := 0, maxLocals := 1, code := object_method_1_code, exceptionTable := #[], attributes := #[] }
def k0m0 : Method := { name := "<init>", desc := "()V", sig := { parameters := [], returnType := none }, accessFlags := 1, code := some k0c0 }
/-- java/lang/Object -/
def k0 : Class := { plain "java/lang/Object" none with
  accessFlags := 33
  interfaces := #[]
  cf := some (fileOf pool0 8 #[] #[{ accessFlags := 1, nameIndex := 5, descriptorIndex := 6, attributes := #[] }] 33 0 #[] #[])
  fields := #[]
  methods := #[k0m0]
  instanceTypes := #[]
  staticTypes := #[]
  resolved := Array.replicate 124 none
  statics := none }

def pool1 : Array CpInfo := pool [(2, .class_ 4), (1, u "java/lang/Object"), (0, u "<init>"), (0, u "()V"), (0, .class_ 8), (0, u "com/example/hellowire/hellowire/codec/RespInteger"), (0, .methodref 7 10), (0, .nameAndType 5 11), (0, u "(J)V"), (0, .methodref 7 13), (0, .nameAndType 14 15), (0, u "equals"), (0, u "(Ljava/lang/Object;)Z"), (0, .fieldref 17 18), (0, .class_ 19), (0, .nameAndType 20 21), (0, u "com/example/hellowire/hellowire/codec/RespNull"), (0, u "INSTANCE"), (0, u "Lcom/example/hellowire/hellowire/codec/RespNull;"), (0, .class_ 23), (0, u "com/example/hellowire/hellowire/codec/RespIntegerEqualsPinLaw"), (2, u "law"), (0, u "(JJI)Z")] 3

def k1m0 : Method := { name := "<init>", desc := "()V", sig := { parameters := [], returnType := none }, accessFlags := 1, code := none }
def k1c1 : Code := { maxStack := 5, maxLocals := 12, code := code, exceptionTable := #[], attributes := #[] }
def k1m1 : Method := { name := "law", desc := "(JJI)Z", sig := { parameters := [.long, .long, .int], returnType := some .boolean }, accessFlags := 9, code := some k1c1 }
/-- com/example/hellowire/hellowire/codec/RespIntegerEqualsPinLaw -/
def k1 : Class := { plain "com/example/hellowire/hellowire/codec/RespIntegerEqualsPinLaw" (some 0) with
  accessFlags := 49
  interfaces := #[]
  cf := some (fileOf pool1 22 #[] #[{ accessFlags := 1, nameIndex := 5, descriptorIndex := 6, attributes := #[] }, { accessFlags := 9, nameIndex := 26, descriptorIndex := 27, attributes := #[] }] 49 2 #[] #[])
  fields := #[]
  methods := #[k1m0, k1m1]
  instanceTypes := #[]
  staticTypes := #[]
  resolved := Array.replicate 31 none
  statics := none }

def pool2 : Array CpInfo := pool [(1, .class_ 2), (0, u "java/lang/Cloneable"), (0, .class_ 4), (0, u "java/lang/Object")] 2

/-- java/lang/Cloneable -/
def k2 : Class := { plain "java/lang/Cloneable" (some 0) with
  accessFlags := 1537
  interfaces := #[]
  cf := some (fileOf pool2 1 #[] #[] 1537 3 #[] #[])
  fields := #[]
  methods := #[]
  instanceTypes := #[]
  staticTypes := #[]
  resolved := Array.replicate 7 none
  statics := none }

def pool3 : Array CpInfo := pool [(1, .methodref 2 3), (0, .class_ 4), (0, .nameAndType 5 6), (0, u "java/lang/Object"), (0, u "<init>"), (0, u "()V"), (0, .interfaceMethodref 8 9), (0, .class_ 10), (0, .nameAndType 11 12), (0, u "java/util/List"), (0, u "of"), (0, u "()Ljava/util/List;"), (0, .fieldref 14 15), (0, .class_ 16), (0, .nameAndType 17 18), (0, u "com/example/hellowire/hellowire/codec/RespValue"), (0, u "attributes"), (0, u "Ljava/util/List;"), (46, .class_ 66), (0, u "java/lang/Cloneable")] 50

def k3c0 : Code := { maxStack := 2, maxLocals := 1, code := prog_43_method_1_code, exceptionTable := #[], attributes := #[] }
def k3m0 : Method := { name := "<init>", desc := "()V", sig := { parameters := [], returnType := none }, accessFlags := 1, code := some k3c0 }
/-- com/example/hellowire/hellowire/codec/RespValue -/
def k3 : Class := { plain "com/example/hellowire/hellowire/codec/RespValue" (some 0) with
  accessFlags := 1057
  interfaces := #[2]
  cf := some (fileOf pool3 14 #[] #[{ accessFlags := 1, nameIndex := 5, descriptorIndex := 6, attributes := #[] }] 1057 2 #[65] #[{ accessFlags := 2, nameIndex := 17, descriptorIndex := 18, attributes := #[] }])
  fields := #[{ name := "attributes", type := (.object "java/util/List"), accessFlags := 2, slot := 0, constantValue := 0 }]
  methods := #[k3m0]
  instanceTypes := #[(.object "java/util/List")]
  staticTypes := #[]
  resolved := Array.replicate 117 none
  statics := none }

def pool4 : Array CpInfo := pool [(1, .methodref 2 3), (0, .class_ 4), (0, .nameAndType 5 6), (0, u "com/example/hellowire/hellowire/codec/RespValue"), (0, u "<init>"), (0, u "()V"), (0, .fieldref 8 9), (0, .class_ 10), (0, .nameAndType 11 12), (0, u "com/example/hellowire/hellowire/codec/RespInteger"), (0, u "value"), (0, u "J"), (10, u "(J)V"), (3, u "equals"), (0, u "(Ljava/lang/Object;)Z")] 21

def k4c0 : Code := { maxStack := 3, maxLocals := 3, code := prog_37_method_1_code, exceptionTable := #[], attributes := #[] }
def k4m0 : Method := { name := "<init>", desc := "(J)V", sig := { parameters := [.long], returnType := none }, accessFlags := 1, code := some k4c0 }
def k4c1 : Code := { maxStack := 4, maxLocals := 3, code := prog_37_method_3_code, exceptionTable := #[], attributes := #[] }
def k4m1 : Method := { name := "equals", desc := "(Ljava/lang/Object;)Z", sig := { parameters := [(.object "java/lang/Object")], returnType := some .boolean }, accessFlags := 1, code := some k4c1 }
/-- com/example/hellowire/hellowire/codec/RespInteger -/
def k4 : Class := { plain "com/example/hellowire/hellowire/codec/RespInteger" (some 3) with
  accessFlags := 49
  interfaces := #[]
  cf := some (fileOf pool4 8 #[] #[{ accessFlags := 1, nameIndex := 5, descriptorIndex := 23, attributes := #[] }, { accessFlags := 1, nameIndex := 27, descriptorIndex := 28, attributes := #[] }] 49 2 #[] #[{ accessFlags := 18, nameIndex := 11, descriptorIndex := 12, attributes := #[] }])
  fields := #[{ name := "value", type := .long, accessFlags := 18, slot := 1, constantValue := 0 }]
  methods := #[k4m0, k4m1]
  instanceTypes := #[(.object "java/util/List"), .long]
  staticTypes := #[]
  resolved := Array.replicate 50 none
  statics := none }

def pool5 : Array CpInfo := pool [(8, .class_ 10), (1, u "java/lang/Iterable"), (24, .class_ 36), (0, u "java/lang/Object")] 25

/-- java/lang/Iterable -/
def k5 : Class := { plain "java/lang/Iterable" (some 0) with
  accessFlags := 1537
  interfaces := #[]
  cf := some (fileOf pool5 8 #[] #[] 1537 35 #[] #[])
  fields := #[]
  methods := #[]
  instanceTypes := #[]
  staticTypes := #[]
  resolved := Array.replicate 62 none
  statics := none }

def pool6 : Array CpInfo := pool [(10, .class_ 12), (1, u "java/util/Collection"), (47, .class_ 61), (0, u "java/lang/Object"), (0, .class_ 63), (0, u "java/lang/Iterable")] 51

/-- java/util/Collection -/
def k6 : Class := { plain "java/util/Collection" (some 0) with
  accessFlags := 1537
  interfaces := #[5]
  cf := some (fileOf pool6 10 #[] #[] 1537 60 #[62] #[])
  fields := #[]
  methods := #[]
  instanceTypes := #[]
  staticTypes := #[]
  resolved := Array.replicate 115 none
  statics := none }

def pool7 : Array CpInfo := pool [(8, .class_ 10), (1, u "java/util/SequencedCollection"), (15, .class_ 27), (0, u "java/lang/Object"), (0, .class_ 29), (0, u "java/util/Collection")] 27

/-- java/util/SequencedCollection -/
def k7 : Class := { plain "java/util/SequencedCollection" (some 0) with
  accessFlags := 1537
  interfaces := #[6]
  cf := some (fileOf pool7 8 #[] #[] 1537 26 #[28] #[])
  fields := #[]
  methods := #[]
  instanceTypes := #[]
  staticTypes := #[]
  resolved := Array.replicate 57 none
  statics := none }

def pool8 : Array CpInfo := pool [(8, .class_ 10), (1, u "java/util/List"), (77, u "of"), (1, .fieldref 91 92), (0, .class_ 93), (0, .nameAndType 94 95), (0, u "java/util/ImmutableCollections"), (0, u "EMPTY_LIST"), (0, u "Ljava/util/ImmutableCollections$ListN;"), (7, .class_ 104), (0, u "java/lang/Object"), (14, u "()Ljava/util/List;"), (0, .class_ 121), (0, u "java/util/SequencedCollection")] 129

def k8c0 : Code := { maxStack := 1, maxLocals := 0, code := jdk_40_method_36_code, exceptionTable := #[], attributes := #[] }
def k8m0 : Method := { name := "of", desc := "()Ljava/util/List;", sig := { parameters := [], returnType := some (.object "java/util/List") }, accessFlags := 9, code := some k8c0 }
/-- java/util/List -/
def k8 : Class := { plain "java/util/List" (some 0) with
  accessFlags := 1537
  interfaces := #[7]
  cf := some (fileOf pool8 8 #[] #[{ accessFlags := 9, nameIndex := 88, descriptorIndex := 119, attributes := #[] }] 1537 103 #[120] #[])
  fields := #[]
  methods := #[k8m0]
  instanceTypes := #[]
  staticTypes := #[]
  resolved := Array.replicate 251 none
  statics := none }

def pool9 : Array CpInfo := pool [(2, .class_ 4), (1, u "java/lang/Object"), (0, u "<init>"), (0, u "()V"), (3, .class_ 11), (0, u "java/util/ImmutableCollections$List12"), (0, .class_ 13), (0, u "java/util/ImmutableCollections$ListN"), (3, u "Z"), (29, .class_ 49), (1, u "java/util/ImmutableCollections"), (0, u "$assertionsDisabled"), (5, u "[Ljava/lang/Object;"), (5, u "EMPTY_LIST"), (0, u "Ljava/util/ImmutableCollections$ListN;"), (8, u "EMPTY_LIST_NULLS"), (22, u "SALT32L"), (0, u "J"), (2, u "REVERSE"), (6, u "archivedObjects"), (2, u "EMPTY"), (0, u "Ljava/lang/Object;"), (0, .class_ 112), (0, u "java/util/ImmutableCollections$SetN"), (5, u "EMPTY_SET"), (0, u "Ljava/util/ImmutableCollections$SetN;"), (0, .class_ 121), (0, u "java/util/ImmutableCollections$MapN"), (3, u "EMPTY_MAP"), (0, u "Ljava/util/ImmutableCollections$MapN;"), (4, u "EXPAND_FACTOR"), (0, u "I"), (36, .class_ 170), (0, u "java/util/ImmutableCollections$MapN$MapNIterator"), (0, .class_ 172), (0, u "java/util/ImmutableCollections$MapN$1"), (0, .class_ 174), (0, u "java/util/ImmutableCollections$Map1"), (0, .class_ 176), (0, u "java/util/ImmutableCollections$AbstractImmutableMap"), (0, .class_ 178), (0, u "java/util/ImmutableCollections$SetN$SetNIterator"), (0, .class_ 180), (0, u "java/util/ImmutableCollections$Set12"), (0, .class_ 182), (0, u "java/util/ImmutableCollections$Set12$1"), (0, .class_ 184), (0, u "java/util/ImmutableCollections$AbstractImmutableSet"), (0, .class_ 186), (0, u "java/util/ImmutableCollections$SubList"), (0, .class_ 188), (0, u "java/util/ImmutableCollections$ListItr"), (0, .class_ 190), (0, u "java/util/ImmutableCollections$AbstractImmutableList"), (0, .class_ 192), (0, u "java/util/ImmutableCollections$AbstractImmutableCollection"), (0, .class_ 194), (0, u "java/util/ImmutableCollections$Access"), (0, .class_ 196), (0, u "java/util/ImmutableCollections$Access$1")] 16

def k9m0 : Method := { name := "<init>", desc := "()V", sig := { parameters := [], returnType := none }, accessFlags := 2, code := none }
/-- java/util/ImmutableCollections -/
def k9 : Class := { plain "java/util/ImmutableCollections" (some 0) with
  accessFlags := 32
  interfaces := #[]
  cf := some (fileOf pool9 47 #[.nestMembers #[120, 169, 171, 173, 175, 111, 177, 179, 181, 183, 12, 10, 185, 187, 189, 191, 193, 195]] #[{ accessFlags := 2, nameIndex := 5, descriptorIndex := 6, attributes := #[] }] 32 2 #[] #[{ accessFlags := 26, nameIndex := 95, descriptorIndex := 96, attributes := #[] }, { accessFlags := 26, nameIndex := 99, descriptorIndex := 17, attributes := #[] }, { accessFlags := 10, nameIndex := 106, descriptorIndex := 56, attributes := #[] }, { accessFlags := 26, nameIndex := 109, descriptorIndex := 110, attributes := #[] }, { accessFlags := 24, nameIndex := 62, descriptorIndex := 63, attributes := #[] }, { accessFlags := 24, nameIndex := 72, descriptorIndex := 63, attributes := #[] }, { accessFlags := 24, nameIndex := 118, descriptorIndex := 119, attributes := #[] }, { accessFlags := 24, nameIndex := 125, descriptorIndex := 126, attributes := #[] }, { accessFlags := 24, nameIndex := 131, descriptorIndex := 132, attributes := #[] }, { accessFlags := 4120, nameIndex := 50, descriptorIndex := 17, attributes := #[] }])
  fields := #[{ name := "SALT32L", type := .long, accessFlags := 26, slot := 0, constantValue := 0 }, { name := "REVERSE", type := .boolean, accessFlags := 26, slot := 1, constantValue := 0 }, { name := "archivedObjects", type := (.array (.object "java/lang/Object")), accessFlags := 10, slot := 2, constantValue := 0 }, { name := "EMPTY", type := (.object "java/lang/Object"), accessFlags := 26, slot := 3, constantValue := 0 }, { name := "EMPTY_LIST", type := (.object "java/util/ImmutableCollections$ListN"), accessFlags := 24, slot := 4, constantValue := 0 }, { name := "EMPTY_LIST_NULLS", type := (.object "java/util/ImmutableCollections$ListN"), accessFlags := 24, slot := 5, constantValue := 0 }, { name := "EMPTY_SET", type := (.object "java/util/ImmutableCollections$SetN"), accessFlags := 24, slot := 6, constantValue := 0 }, { name := "EMPTY_MAP", type := (.object "java/util/ImmutableCollections$MapN"), accessFlags := 24, slot := 7, constantValue := 0 }, { name := "EXPAND_FACTOR", type := .int, accessFlags := 24, slot := 8, constantValue := 0 }, { name := "$assertionsDisabled", type := .boolean, accessFlags := 4120, slot := 9, constantValue := 0 }]
  methods := #[k9m0]
  instanceTypes := #[]
  staticTypes := #[.long, .boolean, (.array (.object "java/lang/Object")), (.object "java/lang/Object"), (.object "java/util/ImmutableCollections$ListN"), (.object "java/util/ImmutableCollections$ListN"), (.object "java/util/ImmutableCollections$SetN"), (.object "java/util/ImmutableCollections$MapN"), .int, .boolean]
  resolved := Array.replicate 213 none
  statics := some 0 }

def pool10 : Array CpInfo := pool [(2, .class_ 4), (1, u "com/example/hellowire/hellowire/codec/RespValue"), (0, u "<init>"), (0, u "()V"), (0, .class_ 8), (0, u "com/example/hellowire/hellowire/codec/RespNull"), (5, u "INSTANCE"), (0, u "Lcom/example/hellowire/hellowire/codec/RespNull;")] 11

def k10m0 : Method := { name := "<init>", desc := "()V", sig := { parameters := [], returnType := none }, accessFlags := 2, code := none }
/-- com/example/hellowire/hellowire/codec/RespNull -/
def k10 : Class := { plain "com/example/hellowire/hellowire/codec/RespNull" (some 3) with
  accessFlags := 49
  interfaces := #[]
  cf := some (fileOf pool10 7 #[] #[{ accessFlags := 2, nameIndex := 5, descriptorIndex := 6, attributes := #[] }] 49 2 #[] #[{ accessFlags := 25, nameIndex := 14, descriptorIndex := 15, attributes := #[] }])
  fields := #[{ name := "INSTANCE", type := (.object "com/example/hellowire/hellowire/codec/RespNull"), accessFlags := 25, slot := 0, constantValue := 0 }]
  methods := #[k10m0]
  instanceTypes := #[(.object "java/util/List")]
  staticTypes := #[(.object "com/example/hellowire/hellowire/codec/RespNull")]
  resolved := Array.replicate 27 none
  statics := some 1 }

def pool11 : Array CpInfo := pool [(2, .class_ 4), (1, u "java/lang/Object"), (0, u "<init>"), (0, u "()V"), (1, .class_ 10), (1, u "java/util/AbstractCollection"), (66, .class_ 78), (0, u "java/util/Collection")] 81

def k11m0 : Method := { name := "<init>", desc := "()V", sig := { parameters := [], returnType := none }, accessFlags := 4, code := none }
/-- java/util/AbstractCollection -/
def k11 : Class := { plain "java/util/AbstractCollection" (some 0) with
  accessFlags := 1057
  interfaces := #[6]
  cf := some (fileOf pool11 8 #[] #[{ accessFlags := 4, nameIndex := 5, descriptorIndex := 6, attributes := #[] }] 1057 2 #[77] #[])
  fields := #[]
  methods := #[k11m0]
  instanceTypes := #[]
  staticTypes := #[]
  resolved := Array.replicate 160 none
  statics := none }

def pool12 : Array CpInfo := pool [(2, .class_ 4), (1, u "java/util/AbstractCollection"), (0, u "<init>"), (0, u "()V"), (1, .class_ 10), (1, u "java/util/ImmutableCollections"), (2, .class_ 14), (0, u "java/util/ImmutableCollections$AbstractImmutableCollection")] 41

def k12m0 : Method := { name := "<init>", desc := "()V", sig := { parameters := [], returnType := none }, accessFlags := 0, code := none }
/-- java/util/ImmutableCollections$AbstractImmutableCollection -/
def k12 : Class := { plain "java/util/ImmutableCollections$AbstractImmutableCollection" (some 11) with
  accessFlags := 1056
  interfaces := #[]
  cf := some (fileOf pool12 13 #[.nestHost 8] #[{ accessFlags := 0, nameIndex := 5, descriptorIndex := 6, attributes := #[] }] 1056 2 #[] #[])
  fields := #[]
  methods := #[k12m0]
  instanceTypes := #[]
  staticTypes := #[]
  resolved := Array.replicate 56 none
  statics := none }

def pool13 : Array CpInfo := pool [(1, .class_ 2), (0, u "java/util/RandomAccess"), (0, .class_ 4), (0, u "java/lang/Object")] 2

/-- java/util/RandomAccess -/
def k13 : Class := { plain "java/util/RandomAccess" (some 0) with
  accessFlags := 1537
  interfaces := #[]
  cf := some (fileOf pool13 1 #[] #[] 1537 3 #[] #[])
  fields := #[]
  methods := #[]
  instanceTypes := #[]
  staticTypes := #[]
  resolved := Array.replicate 7 none
  statics := none }

def pool14 : Array CpInfo := pool [(2, .class_ 4), (1, u "java/util/ImmutableCollections$AbstractImmutableCollection"), (0, u "<init>"), (0, u "()V"), (1, .class_ 10), (1, u "java/util/ImmutableCollections"), (3, .class_ 16), (1, u "java/util/ImmutableCollections$AbstractImmutableList"), (60, .class_ 78), (0, u "java/util/List"), (45, .class_ 125), (0, u "java/util/RandomAccess")] 70

def k14m0 : Method := { name := "<init>", desc := "()V", sig := { parameters := [], returnType := none }, accessFlags := 0, code := none }
/-- java/util/ImmutableCollections$AbstractImmutableList -/
def k14 : Class := { plain "java/util/ImmutableCollections$AbstractImmutableList" (some 12) with
  accessFlags := 1056
  interfaces := #[8, 13]
  cf := some (fileOf pool14 14 #[.nestHost 8] #[{ accessFlags := 0, nameIndex := 5, descriptorIndex := 6, attributes := #[] }] 1056 2 #[77, 124] #[])
  fields := #[]
  methods := #[k14m0]
  instanceTypes := #[]
  staticTypes := #[]
  resolved := Array.replicate 196 none
  statics := none }

def pool15 : Array CpInfo := pool [(1, .class_ 2), (0, u "java/io/Serializable"), (0, .class_ 4), (0, u "java/lang/Object")] 2

/-- java/io/Serializable -/
def k15 : Class := { plain "java/io/Serializable" (some 0) with
  accessFlags := 1537
  interfaces := #[]
  cf := some (fileOf pool15 1 #[] #[] 1537 3 #[] #[])
  fields := #[]
  methods := #[]
  instanceTypes := #[]
  staticTypes := #[]
  resolved := Array.replicate 7 none
  statics := none }

def pool16 : Array CpInfo := pool [(2, .class_ 4), (1, u "java/util/ImmutableCollections$AbstractImmutableList"), (3, .class_ 10), (1, u "java/util/ImmutableCollections$ListN"), (0, u "elements"), (0, u "[Ljava/lang/Object;"), (2, u "allowNulls"), (0, u "Z"), (42, .class_ 60), (0, u "java/io/Serializable"), (53, .class_ 115), (0, u "java/util/ImmutableCollections")] 3

/-- java/util/ImmutableCollections$ListN -/
def k16 : Class := { plain "java/util/ImmutableCollections$ListN" (some 14) with
  accessFlags := 48
  interfaces := #[15]
  cf := some (fileOf pool16 8 #[.nestHost 114] #[] 48 2 #[59] #[{ accessFlags := 18, nameIndex := 11, descriptorIndex := 12, attributes := #[] }, { accessFlags := 18, nameIndex := 15, descriptorIndex := 16, attributes := #[] }])
  fields := #[{ name := "elements", type := (.array (.object "java/lang/Object")), accessFlags := 18, slot := 0, constantValue := 0 }, { name := "allowNulls", type := .boolean, accessFlags := 18, slot := 1, constantValue := 0 }]
  methods := #[]
  instanceTypes := #[(.array (.object "java/lang/Object")), .boolean]
  staticTypes := #[]
  resolved := Array.replicate 119 none
  statics := none }

/-- the primitive byte -/
def k17 : Class := { plain "byte" none with kind := .primitive 'B', accessFlags := 0x411 }
/-- [B -/
def k18 : Class := { plain "[B" (some 0) with kind := .array 17 .byte, interfaces := #[2, 15], accessFlags := 1041 }

/-- the primitive int -/
def k19 : Class := { plain "int" none with kind := .primitive 'I', accessFlags := 0x411 }
/-- [I -/
def k20 : Class := { plain "[I" (some 0) with kind := .array 19 .int, interfaces := #[2, 15], accessFlags := 1041 }

/-- [Ljava/lang/Object; -/
def k21 : Class := { plain "[Ljava/lang/Object;" (some 0) with kind := .array 0 (.object "java/lang/Object"), interfaces := #[2, 15], accessFlags := 1041 }

def heap : Heap := #[{ cls := 9, slots := #[.long 0, .int 0, .null, .null, .ref 3, .null, .null, .null, .int 0, .int 0], vm := .statics 9 },
  { cls := 10, slots := #[.ref 4], vm := .statics 10 },
  { cls := 21, slots := #[], vm := .none },
  { cls := 16, slots := #[.ref 2, .int 0], vm := .none },
  { cls := 10, slots := #[.null], vm := .none }]
def classes : Array Class := #[k0, k1, k2, k3, k4, k5, k6, k7, k8, k9, k10, k11, k12, k13, k14, k15, k16, k17, k18, k19, k20, k21]
def interned : List (Array UInt16 × Addr) := []
def slotsUsed : Nat := 14
def theMethod : MethodId := ⟨1, 1⟩
def args0 : Array Value := #[.long 32, .long 7, .int 1]
def aboutOver (below : List Frame) : State where
  vm := { classes := classes, interned := interned.toArray }
  heap := heap
  slotsUsed := slotsUsed
  threads := #[{ frames := .invoking theMethod args0 :: below }]
def below0 : List Frame := [.native { method := ⟨0, 0⟩, args := #[] }]
def about1 : State := aboutOver below0
def p0 : Program := .bare "" "" ""
def e0 : Env := launch0.env 0 0 0
theorem w_frames : about1.frames = Frame.invoking theMethod args0 :: below0 := rfl
set_option maxRecDepth 65536 in
theorem w_args : argsFit about1.vm theMethod args0 = true := by decide +kernel
set_option maxRecDepth 65536 in
theorem w_heap : heapFits about1 = true := by decide +kernel
set_option maxRecDepth 65536 in
theorem w_runnable : about1.curStatus? = some .runnable := by decide +kernel
set_option maxRecDepth 65536 in
theorem w_alone : about1.alone = true := by decide +kernel
set_option maxRecDepth 65536 in
theorem w_named : about1.methodNamed? x = some theMethod := by decide +kernel
set_option maxRecDepth 65536 in
theorem w_hears : about1.hears theMethod below0 = true := by decide +kernel
set_option maxRecDepth 65536 in
theorem w_ripe : about1.ripe theMethod args0 below0 = true := by decide +kernel
theorem w_running : about1.status = .running := rfl
set_option maxRecDepth 65536 in
theorem w_room : about1.hasRoom e0.platform room_1 = true :=
  launch0.hasRoom_least _ room_1 (by decide +kernel) (by decide +kernel) (by decide +kernel) (by decide +kernel) (by decide +kernel) (by decide +kernel)
theorem allAtoms_all (ts : List Jvm.Cond) (a : Array Jvm.Value) (st : Jvm.State) : (allAtoms ts).before a st = ts.all (fun c => c.before a st) := by
  induction ts with
  | nil => rfl
  | cons c t ih =>
    show (Jvm.Cond.and c (allAtoms t)).before a st = _
    rw [Jvm.Cond.before_and, ih, List.all_cons]
def words1 : List Jvm.Cond := Jvm.Cond.code x code maxLocals ret :: tables_1
/-- a 'code' word, met by the world's own term for the bytes: nothing is compared byte by byte -/
theorem code_word {y : MethodName} {bytes : ByteArray} {mx : Nat} {rt : Option FieldType} {a : Array Value} {s : State} {m : MethodId} {meth : Method} {c : Code} (h1 : s.methodNamed? y = some m) (h2 : s.vm.method? m = some meth) (h3 : meth.code = some c) (h4 : c.code = bytes)
    (h5 : (c.maxLocals == mx && c.exceptionTable.isEmpty && decide (c.maxStack ≤ mostOperands) && decide (meth.sig.returnType = rt) && !meth.locks && decide (parseMethodDescriptor y.desc = some meth.sig)) = true) : (Jvm.Cond.code y bytes mx rt).before a s = true := by
  simp only [Bool.and_eq_true, beq_iff_eq, Bool.not_eq_true', decide_eq_true_eq] at h5
  obtain ⟨⟨⟨⟨⟨g1, g2⟩, g3⟩, g4⟩, g5⟩, g6⟩ := h5
  simp [Cond.before, Cond.holds, Cond.value, h1, h2, h3, h4, g1, g2, g3, g4, g5, g6]
def isCode : Jvm.Cond → Bool
  | .code _ _ _ _ => true
  | _ => false
theorem all_split {L : List Jvm.Cond} {P : Jvm.Cond → Bool} (h1 : L.all (fun c => isCode c || P c) = true) (h2 : ∀ c ∈ L.filter isCode, P c = true) : L.all P = true := by
  refine List.all_eq_true.mpr fun c hc => ?_
  have h := List.all_eq_true.mp h1 c hc
  rcases Bool.eq_false_or_eq_true (isCode c) with hi | hi
  · exact h2 c (List.mem_filter.mpr ⟨hc, hi⟩)
  · simpa [hi] using h
set_option maxRecDepth 65536 in
theorem w_c0 : (Jvm.Cond.code x code maxLocals ret).before args0 about1 = true := code_word (m := ⟨1, 1⟩) (meth := k1m1) (c := k1c1) (by decide +kernel) rfl rfl rfl (by decide +kernel)
set_option maxRecDepth 65536 in
theorem w_c1 : (Jvm.Cond.code ({ cls := "com/example/hellowire/hellowire/codec/RespInteger", name := "<init>", desc := "(J)V" } : Jvm.MethodName) prog_37_method_1_code (3 : Nat) (Option.none : Option Jvm.ClassFile.FieldType)).before args0 about1 = true := code_word (m := ⟨4, 0⟩) (meth := k4m0) (c := k4c0) (by decide +kernel) rfl rfl rfl (by decide +kernel)
set_option maxRecDepth 65536 in
theorem w_c2 : (Jvm.Cond.code ({ cls := "com/example/hellowire/hellowire/codec/RespValue", name := "<init>", desc := "()V" } : Jvm.MethodName) prog_43_method_1_code (1 : Nat) (Option.none : Option Jvm.ClassFile.FieldType)).before args0 about1 = true := code_word (m := ⟨3, 0⟩) (meth := k3m0) (c := k3c0) (by decide +kernel) rfl rfl rfl (by decide +kernel)
set_option maxRecDepth 65536 in
theorem w_c3 : (Jvm.Cond.code ({ cls := "java/lang/Object", name := "<init>", desc := "()V" } : Jvm.MethodName) object_method_1_code (1 : Nat) (Option.none : Option Jvm.ClassFile.FieldType)).before args0 about1 = true := code_word (m := ⟨0, 0⟩) (meth := k0m0) (c := k0c0) (by decide +kernel) rfl rfl rfl (by decide +kernel)
set_option maxRecDepth 65536 in
theorem w_c4 : (Jvm.Cond.code ({ cls := "java/util/List", name := "of", desc := "()Ljava/util/List;" } : Jvm.MethodName) jdk_40_method_36_code (0 : Nat) (Option.some (Jvm.ClassFile.FieldType.object "java/util/List"))).before args0 about1 = true := code_word (m := ⟨8, 0⟩) (meth := k8m0) (c := k8c0) (by decide +kernel) rfl rfl rfl (by decide +kernel)
set_option maxRecDepth 65536 in
theorem w_c5 : (Jvm.Cond.code ({ cls := "com/example/hellowire/hellowire/codec/RespInteger", name := "equals", desc := "(Ljava/lang/Object;)Z" } : Jvm.MethodName) prog_37_method_3_code (3 : Nat) (Option.some Jvm.ClassFile.FieldType.boolean)).before args0 about1 = true := code_word (m := ⟨4, 1⟩) (meth := k4m1) (c := k4c1) (by decide +kernel) rfl rfl rfl (by decide +kernel)
def codes1 : List Jvm.Cond := [Jvm.Cond.code x code maxLocals ret, Jvm.Cond.code ({ cls := "com/example/hellowire/hellowire/codec/RespInteger", name := "<init>", desc := "(J)V" } : Jvm.MethodName) prog_37_method_1_code (3 : Nat) (Option.none : Option Jvm.ClassFile.FieldType), Jvm.Cond.code ({ cls := "com/example/hellowire/hellowire/codec/RespValue", name := "<init>", desc := "()V" } : Jvm.MethodName) prog_43_method_1_code (1 : Nat) (Option.none : Option Jvm.ClassFile.FieldType), Jvm.Cond.code ({ cls := "java/lang/Object", name := "<init>", desc := "()V" } : Jvm.MethodName) object_method_1_code (1 : Nat) (Option.none : Option Jvm.ClassFile.FieldType), Jvm.Cond.code ({ cls := "java/util/List", name := "of", desc := "()Ljava/util/List;" } : Jvm.MethodName) jdk_40_method_36_code (0 : Nat) (Option.some (Jvm.ClassFile.FieldType.object "java/util/List")), Jvm.Cond.code ({ cls := "com/example/hellowire/hellowire/codec/RespInteger", name := "equals", desc := "(Ljava/lang/Object;)Z" } : Jvm.MethodName) prog_37_method_3_code (3 : Nat) (Option.some Jvm.ClassFile.FieldType.boolean)]
set_option maxRecDepth 65536 in
theorem codes_eq : words1.filter isCode = codes1 := rfl
theorem w_codes : ∀ c ∈ words1.filter isCode, c.before args0 about1 = true := by
  rw [codes_eq]
  intro c hc
  simp only [codes1, List.mem_cons, List.not_mem_nil, or_false] at hc
  rcases hc with rfl | rfl | rfl | rfl | rfl | rfl
  · exact w_c0
  · exact w_c1
  · exact w_c2
  · exact w_c3
  · exact w_c4
  · exact w_c5
set_option maxRecDepth 65536 in
theorem w_t1 : (words1.take 24).all (fun c => isCode c || c.before args0 about1) = true := by decide +kernel
set_option maxRecDepth 65536 in
theorem w_t2 : (words1.drop 24).all (fun c => isCode c || c.before args0 about1) = true := by decide +kernel
theorem w_tables : (allAtoms (Jvm.Cond.code x code maxLocals ret :: tables_1)).before args0 about1 = true := by
  rw [allAtoms_all]
  show words1.all (fun c => c.before args0 about1) = true
  refine all_split ?_ w_codes
  rw [← List.take_append_drop 24 words1, List.all_append, w_t1, w_t2]
  rfl
set_option maxRecDepth 65536 in
theorem w_rest : rest_1_c.before args0 about1 = true := by decide +kernel
set_option maxRecDepth 65536 in
theorem w_case : (Jvm.Cond.and given_1 narrow_1).before args0 about1 = true := by decide +kernel
theorem w_applies : (headSpec (Jvm.Cond.code x code maxLocals ret :: tables_1) room_1).applies x e0.platform about1 = true :=
  (Spec.applies_iff w_frames).mpr ⟨w_running, w_runnable, w_alone, w_named, w_hears, w_ripe, w_room, w_tables⟩
theorem atStart : AtStart classFile x code maxLocals ret World_1 tables_1 room_1 Calls_1 rest_1 Pre_1 launch0 p0 e0 about1 theMethod args0 below0 :=
  ⟨lists_1, trivial, launch0.admits_env _ _ _, launch0.least_env, fairChoices_fair.cas, fairChoices_fair.clock, w_frames, w_args, w_heap, w_applies, trivial, w_rest, w_case⟩
end start1
theorem witness_1 : WitnessClaimed_1 := ⟨start1.p0, start1.e0, start1.about1, start1.theMethod, start1.args0, start1.below0, start1.atStart⟩
end Jvm.Pilot.@@N@@
