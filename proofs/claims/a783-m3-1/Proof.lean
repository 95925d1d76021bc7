import JvmDerived
import JvmDerived.Pilot.@@N@@Statement
import JvmDerived.Pilot.@@N@@Code
set_option linter.unusedVariables false
set_option linter.unusedSimpArgs false
@@BLOCK:NumsL.lean.txt@@
namespace Jvm.RoadKit
open Sem ClassFile Op Lib Jvm.Stand Jvm.Free Jvm.LawKit
section New
variable {p : Program} {l : Launch} {e : Env} {R : Room} {s : State} {m : MethodId} {args : Array Value} {below : List Frame} {meth : Method} {c : Code} {T : State} {locs : List Loc} {cells slots : Nat}
theorem retI (X : Stand p l e R s m args below meth c T locs cells slots) (hx : p.tables.exec = Jvm.exec) {pc : Nat} {Ls : Array Slot} {z : Int32} {rest : List Value} (hret : meth.sig.returnType = some .int) (hd : decode c.code pc = .ok (.ireturn, 1)) {fs : List Frame}
    (hl : ∀ (f : JFrame) (acts : List Action), f.method = m → f.locked = none → f.entered = [] → (doReturn e (T.setTop f) acts (some (.int z))).1 = T.setFrames fs) : Steps p.tables e below (T.setTop (mkF m pc Ls (.int z :: rest))) (T.setFrames fs) := by
  have hm' : T.vm.method? m = some meth := X.method'
  have hn : narrow .int (.int z) = .int z := rfl
  show Steps p.tables e below (T.setTop { method := m, pc := pc, locals := Ls, stack := _ :: rest, locked := none }) _
  jvm_step X.here [X.here.top, hx, hd, hm', hret, hn]
  first | (intro acts; rw [hl _ acts rfl rfl rfl]) | rw [hl _ _ rfl rfl rfl]
  exact Steps.refl _
/-- from U the run comes to its end, and Q holds there -/
def OwnEnds (p : Program) (e : Env) (below : List Frame) (Q : Outcome → State → Prop) (U : State) : Prop := ∃ s₂ o, Steps p.tables e below U s₂ ∧ s₂.status = .running ∧ Ended s₂ below o ∧ Q o s₂
theorem OwnEnds.pre {Q : Outcome → State → Prop} {U U' : State} (h : ∀ t, Steps p.tables e below U' t → Steps p.tables e below U t) (k : OwnEnds p e below Q U') : OwnEnds p e below Q U := by
  obtain ⟨s₂, o, h1, h2⟩ := k
  exact ⟨s₂, o, h _ h1, h2⟩
def OwnQ (s : State) (Q : Option Value → Heap → List Loc → Prop) (C S : Nat) : Outcome → State → Prop := fun o U' => ∃ v L, o = .returned v ∧ Q v U'.heap L ∧ FrameEnd s o U' L C S
theorem own_endI (X : Stand p l e R s m args below meth c T locs cells slots) (hx : p.tables.exec = Jvm.exec) (hlocks : meth.locks = false) {pc : Nat} {Ls : Array Slot} {z : Int32} {rest : List Value} (hret : meth.sig.returnType = some .int) (hd : decode c.code pc = .ok (.ireturn, 1))
    {Q : Option Value → Heap → List Loc → Prop} {C S : Nat} (hC : cells ≤ C) (hS : slots ≤ S) (hQ : Q (some (.int z)) T.heap locs) : OwnEnds p e below (OwnQ s Q C S) (T.setTop (mkF m pc Ls (.int z :: rest))) := by
  obtain ⟨fs, hr, hrun, hended, hW, hsame⟩ := X.leave (v := some (.int z)) (fun h => by rw [hret] at h; cases h) hlocks
  exact ⟨_, _, retI X hx hret hd hr, hrun, hended, _, _, rfl, hQ, ⟨_, rfl⟩, hW, hsame.mono hC hS⟩
theorem own_endN (X : Stand p l e R s m args below meth c T locs cells slots) (hx : p.tables.exec = Jvm.exec) (hlocks : meth.locks = false) {pc : Nat} {Ls : Array Slot} {z z' : Int32} {t : FieldType} {rest : List Value} (hret : meth.sig.returnType = some t) (ht : t = .boolean ∨ t = .byte ∨ t = .char ∨ t = .short) (hd : decode c.code pc = .ok (.ireturn, 1)) (hz : nar t z = z')
    {Q : Option Value → Heap → List Loc → Prop} {C S : Nat} (hC : cells ≤ C) (hS : slots ≤ S) (hQ : Q (some (.int z')) T.heap locs) : OwnEnds p e below (OwnQ s Q C S) (T.setTop (mkF m pc Ls (.int z :: rest))) := by
  subst hz
  obtain ⟨fs, hr, hrun, hended, hW, hsame⟩ := X.leave (v := some (.int (nar t z))) (fun h => by rw [hret] at h; cases h) hlocks
  exact ⟨_, _, retN X hx hret ht hd hr, hrun, hended, _, _, rfl, hQ, ⟨_, rfl⟩, hW, hsame.mono hC hS⟩
theorem own_endJ (X : Stand p l e R s m args below meth c T locs cells slots) (hx : p.tables.exec = Jvm.exec) (hlocks : meth.locks = false) {pc : Nat} {Ls : Array Slot} {z : Int64} (hret : meth.sig.returnType = some .long) (hd : decode c.code pc = .ok (.lreturn, 1))
    {Q : Option Value → Heap → List Loc → Prop} {C S : Nat} (hC : cells ≤ C) (hS : slots ≤ S) (hQ : Q (some (.long z)) T.heap locs) : OwnEnds p e below (OwnQ s Q C S) (T.setTop (mkF m pc Ls [.long z])) := by
  obtain ⟨fs, hr, hrun, hended, hW, hsame⟩ := X.leave (v := some (.long z)) (fun h => by rw [hret] at h; cases h) hlocks
  exact ⟨_, _, X.lreturnOut hx hret hd hr, hrun, hended, _, _, rfl, hQ, ⟨_, rfl⟩, hW, hsame.mono hC hS⟩
theorem own_endV (X : Stand p l e R s m args below meth c T locs cells slots) (hx : p.tables.exec = Jvm.exec) (hlocks : meth.locks = false) {pc : Nat} {Ls : Array Slot} (hret : meth.sig.returnType = none) (hd : decode c.code pc = .ok (.return_, 1))
    {Q : Option Value → Heap → List Loc → Prop} {C S : Nat} (hC : cells ≤ C) (hS : slots ≤ S) (hQ : Q none T.heap locs) : OwnEnds p e below (OwnQ s Q C S) (T.setTop (mkF m pc Ls [])) := by
  obtain ⟨fs, hr, hrun, hended, hW, hsame⟩ := X.leave (v := none) (fun _ => rfl) hlocks
  exact ⟨_, _, X.returnOut hx hret hd hr, hrun, hended, _, _, rfl, hQ, ⟨_, rfl⟩, hW, hsame.mono hC hS⟩
theorem own_endR (X : Stand p l e R s m args below meth c T locs cells slots) (hx : p.tables.exec = Jvm.exec) (hlocks : meth.locks = false) {pc : Nat} {Ls : Array Slot} {w : Value} {t : FieldType} {rest : List Value} (hret : meth.sig.returnType = some t) (ht : t.isReference = true) (hw : w.isRef = true) (hd : decode c.code pc = .ok (.areturn, 1))
    {Q : Option Value → Heap → List Loc → Prop} {C S : Nat} (hC : cells ≤ C) (hS : slots ≤ S) (hQ : Q (some w) T.heap locs) : OwnEnds p e below (OwnQ s Q C S) (T.setTop (mkF m pc Ls (w :: rest))) := by
  obtain ⟨fs, hr, hrun, hended, hW, hsame⟩ := X.leave (v := some w) (fun h => by rw [hret] at h; cases h) hlocks
  have hn : narrow t w = w := by cases t <;> first | rfl | (cases ht)
  exact ⟨_, _, retOut X hx hret hn (Or.inr (Or.inr (Or.inr (Or.inr ⟨rfl, ht, hw⟩)))) hd hr, hrun, hended, _, _, rfl, hQ, ⟨_, rfl⟩, hW, hsame.mono hC hS⟩
theorem own_getI (l : List Int32) (i : Nat) : (l.map Value.int).getD i (.int 0) = .int (l.getD i 0) := by
  simp only [List.getD_eq_getElem?_getD, List.getElem?_map]
  cases l[i]? <;> rfl
theorem own_getJ (l : List Int64) (i : Nat) : (l.map Value.long).getD i (.long 0) = .long (l.getD i 0) := by
  simp only [List.getD_eq_getElem?_getD, List.getElem?_map]
  cases l[i]? <;> rfl
theorem own_nin0 {a : Addr} : a ∉ ([] : List Addr) := List.not_mem_nil
theorem own_nin1 {a b : Addr} (h : a ≠ b) : a ∉ [b] := by simpa using h
theorem own_nin2 {a b c : Addr} (h : a ≠ b) (h' : a ≠ c) : a ∉ [b, c] := by simpa using ⟨h, h'⟩
theorem own_staK0 {Z : State} {h h' : Heap} {C n d : String} {v : Value} (F : Sta Z h C n d v) (K : Keep h h' []) : Sta Z h' C n d v := by
  obtain ⟨cf, i, k, f, st, cell, h1, h2, h3, h4, h5, h6, h7⟩ := F
  exact ⟨cf, i, k, f, st, cell, h1, h2, h3, h4, K.2.1 st cell h5 own_nin0, h6, h7⟩
theorem own_staK1 {Z : State} {h h' : Heap} {C n d D : String} {v : Value} {x : Addr} (F : Sta Z h C n d v) (K : Keep h h' [x]) (E : Exa Z h x D) : Sta Z h' C n d v := by
  obtain ⟨cf, i, k, f, st, cell, h1, h2, h3, h4, h5, h6, h7⟩ := F
  obtain ⟨cl, kk, e1, e2, e3, e4, e5⟩ := E
  refine ⟨cf, i, k, f, st, cell, h1, h2, h3, h4, K.2.1 st cell h5 (own_nin1 fun q => ?_), h6, h7⟩
  subst q
  cases h5.symm.trans e1
  rw [h6] at e4
  cases e4
theorem own_nsroot {Z : State} {a0 : Array Value} {O K : String} {n : Nat} (w : (Cond.noSuperclass O).before a0 Z = true) (wk : (Cond.instantiable K n).before a0 Z = true) (hn : O ≠ K) : NS Z O K := by
  obtain ⟨c, k, h1, h2, h3, -, -⟩ := Cond.noSuperclass_spec w
  obtain ⟨t, kt, g1, -⟩ := Cond.instantiable_spec wk
  have ne := ids_ne h1 g1 hn
  refine ⟨c, t, h1, g1, fun fuel => ?_⟩
  cases fuel with
  | zero => rfl
  | succ f => simp [Vm.isSubclassAux, ne, h2, h3]
theorem own_nsno {Z : State} {a0 : Array Value} {C S K : String} {n : Nat} (w : (Cond.superclass C S).before a0 Z = true) (wk : (Cond.instantiable K n).before a0 Z = true) (ns : NS Z C K) (hn : C ≠ K) : ∃ c t, Z.vm.findClass C = some c ∧ Z.vm.findClass K = some t ∧ Z.vm.assignable c t = false := by
  obtain ⟨c, t, h0, g0, n3⟩ := ns
  obtain ⟨p, k, kp, h1, h2, h3, h4, h5, -, h7⟩ := Cond.superclass_spec h0 w
  obtain ⟨t', kt, g1, g2, g3, g4, -⟩ := Cond.instantiable_spec wk
  cases g0.symm.trans g1
  have g7 : kt.isInterface = false := by simp only [Bool.or_eq_false_iff] at g4; exact g4.1
  have ne := ids_ne h0 g0 hn
  refine ⟨c, t, h0, g0, ?_⟩
  show Z.vm.assignableAux (255 + 1) c t = false
  simp [Vm.assignableAux, ne, h2, g2, h5, g3, g7, Vm.isSubclass, n3]
end New
end Jvm.RoadKit
namespace Jvm.Pilot.@@N@@
open Jvm Jvm.ClassFile Sem Op Lib Jvm.Free Jvm.Stand Jvm.LawKit Jvm.RoadKit Bundle Jvm.Pilot.@@N@@.Jvm.D
theorem d1_0 : decode prog_43_method_5_code 0 = .ok (.iload_n 0, 1) := by decide +kernel
theorem d1_1 : decode prog_43_method_5_code 1 = .ok (.i2l, 1) := by decide +kernel
theorem d1_2 : decode prog_43_method_5_code 2 = .ok (.ldc2_w 85, 3) := by decide +kernel
theorem d1_5 : decode prog_43_method_5_code 5 = .ok (.lmul, 1) := by decide +kernel
theorem d1_6 : decode prog_43_method_5_code 6 = .ok (.ldc2_w 87, 3) := by decide +kernel
theorem d1_9 : decode prog_43_method_5_code 9 = .ok (.ladd, 1) := by decide +kernel
theorem d1_10 : decode prog_43_method_5_code 10 = .ok (.bipush 32, 2) := by decide +kernel
theorem d1_12 : decode prog_43_method_5_code 12 = .ok (.lshr, 1) := by decide +kernel
theorem d1_13 : decode prog_43_method_5_code 13 = .ok (.l2i, 1) := by decide +kernel
theorem d1_14 : decode prog_43_method_5_code 14 = .ok (.ireturn, 1) := by decide +kernel
theorem ef_1 (m : MethodId) (p0 : Int32) : entryFrame m #[(.int p0)] 1 = mkF m 0 #[.val (.int p0)] [] := by first | (simp [entryFrame, mkF, argsToLocals, Value.category]; done) | rfl
theorem pn_0 : plainName "com/example/hellowire/hellowire/codec/ShortestDecimal" = true := by first | (simp [plainName, overriddenIn]; done) | decide +kernel
def f1_0 (p0 : Int32) : Int32 := (((((p0.toInt64) * (1292913986 : Int64)) + (-536607788 : Int64)) >>> ((32 : Int32) &&& 0x3f).toInt64).toInt32)
def Q1 (Z : State) (p0 : Int32) (h0 : Heap) (n0 : Nat) (v : Option Value) (h : Heap) (L : List Loc) : Prop := v = some (.int (f1_0 p0)) ∧ Fr n0 L ∧ h = h0
set_option maxRecDepth 65536 in
set_option maxHeartbeats 40000000 in
theorem rm1 (l : Launch) (Z : State) (aZ : Array Value) (hw : ∀ d ∈ tables_1, d.before aZ Z = true) (ws : List Jvm.Cond) (p0 : Int32) (h0 : Heap) (n0 : Nat) (Z0 : n0 ≤ h0.size) :
    MetFree l (⟨"com/example/hellowire/hellowire/codec/ShortestDecimal", "floorLog10ThreeQuartersPow2", "(I)I"⟩ : MethodName) (head1 (Jvm.Cond.code (⟨"com/example/hellowire/hellowire/codec/ShortestDecimal", "floorLog10ThreeQuartersPow2", "(I)I"⟩ : MethodName) prog_43_method_5_code 1 (some .int) :: ws) ({ frames := 0, cells := 0, slots := 0, locals := 0 } : Room)) (fun a U => a = #[(.int p0)] ∧ Z.Warmed39 U.vm ∧ U.heap = h0) (fun _ _ _ _ _ => True) (fun _ U o U' => ∃ v L, o = .returned v ∧ Q1 Z p0 h0 n0 v U'.heap L ∧ FrameEnd U o U' L 0 0) := by
  refine MetFree.of_bodySF (plainFor_of_name pn_0) hisR ?_
  intro p e s m args below meth c s₁ Bd hml0 hP hK
  obtain ⟨rfl, hZ, hh⟩ := hP
  have hx := Bd.exec
  have hby := Bd.bytes
  have hml : c.maxLocals = 1 := hml0
  have hown : s.vm.findClass "com/example/hellowire/hellowire/codec/ShortestDecimal" = some m.cls := findClass_of_methodNamed Bd.named
  have hnm := (name_of_methodNamed Bd.named Bd.method).1
  have hlk := BodyLoose.notSynchronized Bd
  have X0 : Stand p l e ({ frames := 0, cells := 0, slots := 0, locals := 0 } : Room) s m #[(.int p0)] below meth c s₁ [] 0 0 := Stand.of_body Bd
  have e0 : s₁.heap = h0 := by rw [← hh, Bd.state]; rfl
  have N0 := Fr.nil n0
  have hk0 : 0 ≤ 0 := Nat.zero_le _
  have hn0 : 0 ≤ 0 := Nat.zero_le _
  show OwnEnds p e below (OwnQ s (Q1 Z p0 h0 n0) 0 0) (s₁.setTop (entryFrame m #[(.int p0)] 1))
  refine .pre (fun t k => castTop (ef_1 m p0) k) ?_
  have hF : f1_0 p0 = f1_0 p0 := rfl
  change (((((p0.toInt64) * (1292913986 : Int64)) + (-536607788 : Int64)) >>> ((32 : Int32) &&& 0x3f).toInt64).toInt32) = _ at hF
  show OwnEnds p e below _ (s₁.setTop (mkF m 0 #[.val (.int p0)] []))
  refine .pre (fun _ k => XS.iloadN X0.here hx rfl (hb hby d1_0) rfl k) ?_
  show OwnEnds p e below _ (s₁.setTop (mkF m 1 #[.val (.int p0)] [(.int p0)]))
  refine .pre (fun _ k => XS.i2l X0.here hx rfl (hb hby d1_1) rfl k) ?_
  show OwnEnds p e below _ (s₁.setTop (mkF m 2 #[.val (.int p0)] [(.long (p0.toInt64))]))
  refine .pre (fun _ k => X0.ldc2Long hx hown (mvT hZ (hw _ (List.mem_of_getElem? (i := 5) rfl))) (g := (mkF m 2 #[.val (.int p0)] [(.long (p0.toInt64))])) rfl (hb hby d1_2) _ k) ?_
  show OwnEnds p e below _ (s₁.setTop (mkF m 5 #[.val (.int p0)] [(.long (1292913986 : Int64)), (.long (p0.toInt64))]))
  refine .pre (fun _ k => XS.lmul X0.here hx rfl (hb hby d1_5) rfl k) ?_
  show OwnEnds p e below _ (s₁.setTop (mkF m 6 #[.val (.int p0)] [(.long ((p0.toInt64) * (1292913986 : Int64)))]))
  refine .pre (fun _ k => X0.ldc2Long hx hown (mvT hZ (hw _ (List.mem_of_getElem? (i := 6) rfl))) (g := (mkF m 6 #[.val (.int p0)] [(.long ((p0.toInt64) * (1292913986 : Int64)))])) rfl (hb hby d1_6) _ k) ?_
  show OwnEnds p e below _ (s₁.setTop (mkF m 9 #[.val (.int p0)] [(.long (-536607788 : Int64)), (.long ((p0.toInt64) * (1292913986 : Int64)))]))
  refine .pre (fun _ k => XS.ladd X0.here hx rfl (hb hby d1_9) rfl k) ?_
  show OwnEnds p e below _ (s₁.setTop (mkF m 10 #[.val (.int p0)] [(.long (((p0.toInt64) * (1292913986 : Int64)) + (-536607788 : Int64)))]))
  refine .pre (fun _ k => XS.bipush X0.here hx rfl (hb hby d1_10) k) ?_
  show OwnEnds p e below _ (s₁.setTop (mkF m 12 #[.val (.int p0)] [(.int (32 : Int32)), (.long (((p0.toInt64) * (1292913986 : Int64)) + (-536607788 : Int64)))]))
  refine .pre (fun _ k => XS.lshr X0.here hx rfl (hb hby d1_12) rfl k) ?_
  show OwnEnds p e below _ (s₁.setTop (mkF m 13 #[.val (.int p0)] [(.long ((((p0.toInt64) * (1292913986 : Int64)) + (-536607788 : Int64)) >>> ((32 : Int32) &&& 0x3f).toInt64))]))
  refine .pre (fun _ k => XS.l2i X0.here hx rfl (hb hby d1_13) rfl k) ?_
  show OwnEnds p e below _ (s₁.setTop (mkF m 14 #[.val (.int p0)] [(.int (((((p0.toInt64) * (1292913986 : Int64)) + (-536607788 : Int64)) >>> ((32 : Int32) &&& 0x3f).toInt64).toInt32))]))
  exact own_endI X0 hx hlk Bd.returns (hb hby d1_14) hk0 hn0 ⟨congrArg (fun z => some (Value.int z)) hF, N0, e0⟩
theorem d3_0 : decode prog_43_method_4_code 0 = .ok (.iload_n 0, 1) := by decide +kernel
theorem d3_1 : decode prog_43_method_4_code 1 = .ok (.i2l, 1) := by decide +kernel
theorem d3_2 : decode prog_43_method_4_code 2 = .ok (.ldc2_w 85, 3) := by decide +kernel
theorem d3_5 : decode prog_43_method_4_code 5 = .ok (.lmul, 1) := by decide +kernel
theorem d3_6 : decode prog_43_method_4_code 6 = .ok (.bipush 32, 2) := by decide +kernel
theorem d3_8 : decode prog_43_method_4_code 8 = .ok (.lshr, 1) := by decide +kernel
theorem d3_9 : decode prog_43_method_4_code 9 = .ok (.l2i, 1) := by decide +kernel
theorem d3_10 : decode prog_43_method_4_code 10 = .ok (.ireturn, 1) := by decide +kernel
theorem ef_3 (m : MethodId) (p0 : Int32) : entryFrame m #[(.int p0)] 1 = mkF m 0 #[.val (.int p0)] [] := by first | (simp [entryFrame, mkF, argsToLocals, Value.category]; done) | rfl
def f3_0 (p0 : Int32) : Int32 := ((((p0.toInt64) * (1292913986 : Int64)) >>> ((32 : Int32) &&& 0x3f).toInt64).toInt32)
def Q3 (Z : State) (p0 : Int32) (h0 : Heap) (n0 : Nat) (v : Option Value) (h : Heap) (L : List Loc) : Prop := v = some (.int (f3_0 p0)) ∧ Fr n0 L ∧ h = h0
set_option maxRecDepth 65536 in
set_option maxHeartbeats 40000000 in
theorem rm3 (l : Launch) (Z : State) (aZ : Array Value) (hw : ∀ d ∈ tables_1, d.before aZ Z = true) (ws : List Jvm.Cond) (p0 : Int32) (h0 : Heap) (n0 : Nat) (Z0 : n0 ≤ h0.size) :
    MetFree l (⟨"com/example/hellowire/hellowire/codec/ShortestDecimal", "floorLog10Pow2", "(I)I"⟩ : MethodName) (head1 (Jvm.Cond.code (⟨"com/example/hellowire/hellowire/codec/ShortestDecimal", "floorLog10Pow2", "(I)I"⟩ : MethodName) prog_43_method_4_code 1 (some .int) :: ws) ({ frames := 0, cells := 0, slots := 0, locals := 0 } : Room)) (fun a U => a = #[(.int p0)] ∧ Z.Warmed39 U.vm ∧ U.heap = h0) (fun _ _ _ _ _ => True) (fun _ U o U' => ∃ v L, o = .returned v ∧ Q3 Z p0 h0 n0 v U'.heap L ∧ FrameEnd U o U' L 0 0) := by
  refine MetFree.of_bodySF (plainFor_of_name pn_0) hisR ?_
  intro p e s m args below meth c s₁ Bd hml0 hP hK
  obtain ⟨rfl, hZ, hh⟩ := hP
  have hx := Bd.exec
  have hby := Bd.bytes
  have hml : c.maxLocals = 1 := hml0
  have hown : s.vm.findClass "com/example/hellowire/hellowire/codec/ShortestDecimal" = some m.cls := findClass_of_methodNamed Bd.named
  have hnm := (name_of_methodNamed Bd.named Bd.method).1
  have hlk := BodyLoose.notSynchronized Bd
  have X0 : Stand p l e ({ frames := 0, cells := 0, slots := 0, locals := 0 } : Room) s m #[(.int p0)] below meth c s₁ [] 0 0 := Stand.of_body Bd
  have e0 : s₁.heap = h0 := by rw [← hh, Bd.state]; rfl
  have N0 := Fr.nil n0
  have hk0 : 0 ≤ 0 := Nat.zero_le _
  have hn0 : 0 ≤ 0 := Nat.zero_le _
  show OwnEnds p e below (OwnQ s (Q3 Z p0 h0 n0) 0 0) (s₁.setTop (entryFrame m #[(.int p0)] 1))
  refine .pre (fun t k => castTop (ef_3 m p0) k) ?_
  have hF : f3_0 p0 = f3_0 p0 := rfl
  change ((((p0.toInt64) * (1292913986 : Int64)) >>> ((32 : Int32) &&& 0x3f).toInt64).toInt32) = _ at hF
  show OwnEnds p e below _ (s₁.setTop (mkF m 0 #[.val (.int p0)] []))
  refine .pre (fun _ k => XS.iloadN X0.here hx rfl (hb hby d3_0) rfl k) ?_
  show OwnEnds p e below _ (s₁.setTop (mkF m 1 #[.val (.int p0)] [(.int p0)]))
  refine .pre (fun _ k => XS.i2l X0.here hx rfl (hb hby d3_1) rfl k) ?_
  show OwnEnds p e below _ (s₁.setTop (mkF m 2 #[.val (.int p0)] [(.long (p0.toInt64))]))
  refine .pre (fun _ k => X0.ldc2Long hx hown (mvT hZ (hw _ (List.mem_of_getElem? (i := 5) rfl))) (g := (mkF m 2 #[.val (.int p0)] [(.long (p0.toInt64))])) rfl (hb hby d3_2) _ k) ?_
  show OwnEnds p e below _ (s₁.setTop (mkF m 5 #[.val (.int p0)] [(.long (1292913986 : Int64)), (.long (p0.toInt64))]))
  refine .pre (fun _ k => XS.lmul X0.here hx rfl (hb hby d3_5) rfl k) ?_
  show OwnEnds p e below _ (s₁.setTop (mkF m 6 #[.val (.int p0)] [(.long ((p0.toInt64) * (1292913986 : Int64)))]))
  refine .pre (fun _ k => XS.bipush X0.here hx rfl (hb hby d3_6) k) ?_
  show OwnEnds p e below _ (s₁.setTop (mkF m 8 #[.val (.int p0)] [(.int (32 : Int32)), (.long ((p0.toInt64) * (1292913986 : Int64)))]))
  refine .pre (fun _ k => XS.lshr X0.here hx rfl (hb hby d3_8) rfl k) ?_
  show OwnEnds p e below _ (s₁.setTop (mkF m 9 #[.val (.int p0)] [(.long (((p0.toInt64) * (1292913986 : Int64)) >>> ((32 : Int32) &&& 0x3f).toInt64))]))
  refine .pre (fun _ k => XS.l2i X0.here hx rfl (hb hby d3_9) rfl k) ?_
  show OwnEnds p e below _ (s₁.setTop (mkF m 10 #[.val (.int p0)] [(.int ((((p0.toInt64) * (1292913986 : Int64)) >>> ((32 : Int32) &&& 0x3f).toInt64).toInt32))]))
  exact own_endI X0 hx hlk Bd.returns (hb hby d3_10) hk0 hn0 ⟨congrArg (fun z => some (Value.int z)) hF, N0, e0⟩
theorem d2_0 : decode method_3_code 0 = .ok (.bipush 19, 2) := by decide +kernel
theorem d2_2 : decode method_3_code 2 = .ok (.newarray .long, 2) := by decide +kernel
theorem d2_4 : decode method_3_code 4 = .ok (.dup, 1) := by decide +kernel
theorem d2_5 : decode method_3_code 5 = .ok (.iconst 0, 1) := by decide +kernel
theorem d2_6 : decode method_3_code 6 = .ok (.lconst 1, 1) := by decide +kernel
theorem d2_7 : decode method_3_code 7 = .ok (.lastore, 1) := by decide +kernel
theorem d2_8 : decode method_3_code 8 = .ok (.dup, 1) := by decide +kernel
theorem d2_9 : decode method_3_code 9 = .ok (.iconst 1, 1) := by decide +kernel
theorem d2_10 : decode method_3_code 10 = .ok (.ldc2_w 23, 3) := by decide +kernel
theorem d2_13 : decode method_3_code 13 = .ok (.lastore, 1) := by decide +kernel
theorem d2_14 : decode method_3_code 14 = .ok (.dup, 1) := by decide +kernel
theorem d2_15 : decode method_3_code 15 = .ok (.iconst 2, 1) := by decide +kernel
theorem d2_16 : decode method_3_code 16 = .ok (.ldc2_w 25, 3) := by decide +kernel
theorem d2_19 : decode method_3_code 19 = .ok (.lastore, 1) := by decide +kernel
theorem d2_20 : decode method_3_code 20 = .ok (.dup, 1) := by decide +kernel
theorem d2_21 : decode method_3_code 21 = .ok (.iconst 3, 1) := by decide +kernel
theorem d2_22 : decode method_3_code 22 = .ok (.ldc2_w 27, 3) := by decide +kernel
theorem d2_25 : decode method_3_code 25 = .ok (.lastore, 1) := by decide +kernel
theorem d2_26 : decode method_3_code 26 = .ok (.dup, 1) := by decide +kernel
theorem d2_27 : decode method_3_code 27 = .ok (.iconst 4, 1) := by decide +kernel
theorem d2_28 : decode method_3_code 28 = .ok (.ldc2_w 29, 3) := by decide +kernel
theorem d2_31 : decode method_3_code 31 = .ok (.lastore, 1) := by decide +kernel
theorem d2_32 : decode method_3_code 32 = .ok (.dup, 1) := by decide +kernel
theorem d2_33 : decode method_3_code 33 = .ok (.iconst 5, 1) := by decide +kernel
theorem d2_34 : decode method_3_code 34 = .ok (.ldc2_w 31, 3) := by decide +kernel
theorem d2_37 : decode method_3_code 37 = .ok (.lastore, 1) := by decide +kernel
theorem d2_38 : decode method_3_code 38 = .ok (.dup, 1) := by decide +kernel
theorem d2_39 : decode method_3_code 39 = .ok (.bipush 6, 2) := by decide +kernel
theorem d2_41 : decode method_3_code 41 = .ok (.ldc2_w 33, 3) := by decide +kernel
theorem d2_44 : decode method_3_code 44 = .ok (.lastore, 1) := by decide +kernel
theorem d2_45 : decode method_3_code 45 = .ok (.dup, 1) := by decide +kernel
theorem d2_46 : decode method_3_code 46 = .ok (.bipush 7, 2) := by decide +kernel
theorem d2_48 : decode method_3_code 48 = .ok (.ldc2_w 35, 3) := by decide +kernel
theorem d2_51 : decode method_3_code 51 = .ok (.lastore, 1) := by decide +kernel
theorem d2_52 : decode method_3_code 52 = .ok (.dup, 1) := by decide +kernel
theorem d2_53 : decode method_3_code 53 = .ok (.bipush 8, 2) := by decide +kernel
theorem d2_55 : decode method_3_code 55 = .ok (.ldc2_w 37, 3) := by decide +kernel
theorem d2_58 : decode method_3_code 58 = .ok (.lastore, 1) := by decide +kernel
theorem d2_59 : decode method_3_code 59 = .ok (.dup, 1) := by decide +kernel
theorem d2_60 : decode method_3_code 60 = .ok (.bipush 9, 2) := by decide +kernel
theorem d2_62 : decode method_3_code 62 = .ok (.ldc2_w 39, 3) := by decide +kernel
theorem d2_65 : decode method_3_code 65 = .ok (.lastore, 1) := by decide +kernel
theorem d2_66 : decode method_3_code 66 = .ok (.dup, 1) := by decide +kernel
theorem d2_67 : decode method_3_code 67 = .ok (.bipush 10, 2) := by decide +kernel
theorem d2_69 : decode method_3_code 69 = .ok (.ldc2_w 41, 3) := by decide +kernel
theorem d2_72 : decode method_3_code 72 = .ok (.lastore, 1) := by decide +kernel
theorem d2_73 : decode method_3_code 73 = .ok (.dup, 1) := by decide +kernel
theorem d2_74 : decode method_3_code 74 = .ok (.bipush 11, 2) := by decide +kernel
theorem d2_76 : decode method_3_code 76 = .ok (.ldc2_w 43, 3) := by decide +kernel
theorem d2_79 : decode method_3_code 79 = .ok (.lastore, 1) := by decide +kernel
theorem d2_80 : decode method_3_code 80 = .ok (.dup, 1) := by decide +kernel
theorem d2_81 : decode method_3_code 81 = .ok (.bipush 12, 2) := by decide +kernel
theorem d2_83 : decode method_3_code 83 = .ok (.ldc2_w 45, 3) := by decide +kernel
theorem d2_86 : decode method_3_code 86 = .ok (.lastore, 1) := by decide +kernel
theorem d2_87 : decode method_3_code 87 = .ok (.dup, 1) := by decide +kernel
theorem d2_88 : decode method_3_code 88 = .ok (.bipush 13, 2) := by decide +kernel
theorem d2_90 : decode method_3_code 90 = .ok (.ldc2_w 47, 3) := by decide +kernel
theorem d2_93 : decode method_3_code 93 = .ok (.lastore, 1) := by decide +kernel
theorem d2_94 : decode method_3_code 94 = .ok (.dup, 1) := by decide +kernel
theorem d2_95 : decode method_3_code 95 = .ok (.bipush 14, 2) := by decide +kernel
theorem d2_97 : decode method_3_code 97 = .ok (.ldc2_w 49, 3) := by decide +kernel
theorem d2_100 : decode method_3_code 100 = .ok (.lastore, 1) := by decide +kernel
theorem d2_101 : decode method_3_code 101 = .ok (.dup, 1) := by decide +kernel
theorem d2_102 : decode method_3_code 102 = .ok (.bipush 15, 2) := by decide +kernel
theorem d2_104 : decode method_3_code 104 = .ok (.ldc2_w 51, 3) := by decide +kernel
theorem d2_107 : decode method_3_code 107 = .ok (.lastore, 1) := by decide +kernel
theorem d2_108 : decode method_3_code 108 = .ok (.dup, 1) := by decide +kernel
theorem d2_109 : decode method_3_code 109 = .ok (.bipush 16, 2) := by decide +kernel
theorem d2_111 : decode method_3_code 111 = .ok (.ldc2_w 53, 3) := by decide +kernel
theorem d2_114 : decode method_3_code 114 = .ok (.lastore, 1) := by decide +kernel
theorem d2_115 : decode method_3_code 115 = .ok (.dup, 1) := by decide +kernel
theorem d2_116 : decode method_3_code 116 = .ok (.bipush 17, 2) := by decide +kernel
theorem d2_118 : decode method_3_code 118 = .ok (.ldc2_w 55, 3) := by decide +kernel
theorem d2_121 : decode method_3_code 121 = .ok (.lastore, 1) := by decide +kernel
theorem d2_122 : decode method_3_code 122 = .ok (.dup, 1) := by decide +kernel
theorem d2_123 : decode method_3_code 123 = .ok (.bipush 18, 2) := by decide +kernel
theorem d2_125 : decode method_3_code 125 = .ok (.ldc2_w 57, 3) := by decide +kernel
theorem d2_128 : decode method_3_code 128 = .ok (.lastore, 1) := by decide +kernel
theorem d2_129 : decode method_3_code 129 = .ok (.astore_n 2, 1) := by decide +kernel
theorem d2_130 : decode method_3_code 130 = .ok (.iload_n 0, 1) := by decide +kernel
theorem d2_131 : decode method_3_code 131 = .ok (.iconst 2, 1) := by decide +kernel
theorem d2_132 : decode method_3_code 132 = .ok (.if_icmp .lt 49, 3) := by decide +kernel
theorem d2_135 : decode method_3_code 135 = .ok (.iload_n 1, 1) := by decide +kernel
theorem d2_136 : decode method_3_code 136 = .ok (.ifCond .lt 9, 3) := by decide +kernel
theorem d2_139 : decode method_3_code 139 = .ok (.iload_n 1, 1) := by decide +kernel
theorem d2_140 : decode method_3_code 140 = .ok (.bipush 18, 2) := by decide +kernel
theorem d2_142 : decode method_3_code 142 = .ok (.if_icmp .le 5, 3) := by decide +kernel
theorem d2_145 : decode method_3_code 145 = .ok (.iconst 0, 1) := by decide +kernel
theorem d2_146 : decode method_3_code 146 = .ok (.ireturn, 1) := by decide +kernel
theorem d2_147 : decode method_3_code 147 = .ok (.ldc2_w 59, 3) := by decide +kernel
theorem d2_150 : decode method_3_code 150 = .ok (.iload_n 0, 1) := by decide +kernel
theorem d2_151 : decode method_3_code 151 = .ok (.iconst 2, 1) := by decide +kernel
theorem d2_152 : decode method_3_code 152 = .ok (.isub, 1) := by decide +kernel
theorem d2_153 : decode method_3_code 153 = .ok (.lshl, 1) := by decide +kernel
theorem d2_154 : decode method_3_code 154 = .ok (.lstore_n 3, 1) := by decide +kernel
theorem d2_155 : decode method_3_code 155 = .ok (.aload_n 2, 1) := by decide +kernel
theorem d2_156 : decode method_3_code 156 = .ok (.iload_n 1, 1) := by decide +kernel
theorem d2_157 : decode method_3_code 157 = .ok (.laload, 1) := by decide +kernel
theorem d2_158 : decode method_3_code 158 = .ok (.lload_n 3, 1) := by decide +kernel
theorem d2_159 : decode method_3_code 159 = .ok (.lcmp, 1) := by decide +kernel
theorem d2_160 : decode method_3_code 160 = .ok (.ifCond .gt 19, 3) := by decide +kernel
theorem d2_163 : decode method_3_code 163 = .ok (.lload_n 3, 1) := by decide +kernel
theorem d2_164 : decode method_3_code 164 = .ok (.ldc2_w 23, 3) := by decide +kernel
theorem d2_167 : decode method_3_code 167 = .ok (.ldiv, 1) := by decide +kernel
theorem d2_168 : decode method_3_code 168 = .ok (.aload_n 2, 1) := by decide +kernel
theorem d2_169 : decode method_3_code 169 = .ok (.iload_n 1, 1) := by decide +kernel
theorem d2_170 : decode method_3_code 170 = .ok (.laload, 1) := by decide +kernel
theorem d2_171 : decode method_3_code 171 = .ok (.lcmp, 1) := by decide +kernel
theorem d2_172 : decode method_3_code 172 = .ok (.ifCond .ge 7, 3) := by decide +kernel
theorem d2_175 : decode method_3_code 175 = .ok (.iconst 1, 1) := by decide +kernel
theorem d2_176 : decode method_3_code 176 = .ok (.goto 4, 3) := by decide +kernel
theorem d2_179 : decode method_3_code 179 = .ok (.iconst 0, 1) := by decide +kernel
theorem d2_180 : decode method_3_code 180 = .ok (.ireturn, 1) := by decide +kernel
theorem d2_181 : decode method_3_code 181 = .ok (.iconst 2, 1) := by decide +kernel
theorem d2_182 : decode method_3_code 182 = .ok (.iload_n 0, 1) := by decide +kernel
theorem d2_183 : decode method_3_code 183 = .ok (.isub, 1) := by decide +kernel
theorem d2_184 : decode method_3_code 184 = .ok (.istore_n 3, 1) := by decide +kernel
theorem d2_185 : decode method_3_code 185 = .ok (.iload_n 1, 1) := by decide +kernel
theorem d2_186 : decode method_3_code 186 = .ok (.ineg, 1) := by decide +kernel
theorem d2_187 : decode method_3_code 187 = .ok (.istore 4, 2) := by decide +kernel
theorem d2_189 : decode method_3_code 189 = .ok (.iload 4, 2) := by decide +kernel
theorem d2_191 : decode method_3_code 191 = .ok (.ifCond .lt 10, 3) := by decide +kernel
theorem d2_194 : decode method_3_code 194 = .ok (.iload 4, 2) := by decide +kernel
theorem d2_196 : decode method_3_code 196 = .ok (.bipush 18, 2) := by decide +kernel
theorem d2_198 : decode method_3_code 198 = .ok (.if_icmp .le 5, 3) := by decide +kernel
theorem d2_201 : decode method_3_code 201 = .ok (.iconst 0, 1) := by decide +kernel
theorem d2_202 : decode method_3_code 202 = .ok (.ireturn, 1) := by decide +kernel
theorem d2_203 : decode method_3_code 203 = .ok (.ldc2_w 59, 3) := by decide +kernel
theorem d2_206 : decode method_3_code 206 = .ok (.aload_n 2, 1) := by decide +kernel
theorem d2_207 : decode method_3_code 207 = .ok (.iload 4, 2) := by decide +kernel
theorem d2_209 : decode method_3_code 209 = .ok (.laload, 1) := by decide +kernel
theorem d2_210 : decode method_3_code 210 = .ok (.lmul, 1) := by decide +kernel
theorem d2_211 : decode method_3_code 211 = .ok (.lstore 5, 2) := by decide +kernel
theorem d2_213 : decode method_3_code 213 = .ok (.lconst 1, 1) := by decide +kernel
theorem d2_214 : decode method_3_code 214 = .ok (.iload_n 3, 1) := by decide +kernel
theorem d2_215 : decode method_3_code 215 = .ok (.lshl, 1) := by decide +kernel
theorem d2_216 : decode method_3_code 216 = .ok (.lstore 7, 2) := by decide +kernel
theorem d2_218 : decode method_3_code 218 = .ok (.lload 7, 2) := by decide +kernel
theorem d2_220 : decode method_3_code 220 = .ok (.lload 5, 2) := by decide +kernel
theorem d2_222 : decode method_3_code 222 = .ok (.lcmp, 1) := by decide +kernel
theorem d2_223 : decode method_3_code 223 = .ok (.ifCond .gt 19, 3) := by decide +kernel
theorem d2_226 : decode method_3_code 226 = .ok (.lload 5, 2) := by decide +kernel
theorem d2_228 : decode method_3_code 228 = .ok (.ldc2_w 23, 3) := by decide +kernel
theorem d2_231 : decode method_3_code 231 = .ok (.lload 7, 2) := by decide +kernel
theorem d2_233 : decode method_3_code 233 = .ok (.lmul, 1) := by decide +kernel
theorem d2_234 : decode method_3_code 234 = .ok (.lcmp, 1) := by decide +kernel
theorem d2_235 : decode method_3_code 235 = .ok (.ifCond .ge 7, 3) := by decide +kernel
theorem d2_238 : decode method_3_code 238 = .ok (.iconst 1, 1) := by decide +kernel
theorem d2_239 : decode method_3_code 239 = .ok (.goto 4, 3) := by decide +kernel
theorem d2_242 : decode method_3_code 242 = .ok (.iconst 0, 1) := by decide +kernel
theorem d2_243 : decode method_3_code 243 = .ok (.ireturn, 1) := by decide +kernel
theorem ef_2 (m : MethodId) (p0 : Int32) (p1 : Int32) : entryFrame m #[(.int p0), (.int p1)] 9 = mkF m 0 #[.val (.int p0), .val (.int p1), .unset, .unset, .unset, .unset, .unset, .unset, .unset] [] := by first | (simp [entryFrame, mkF, argsToLocals, Value.category]; done) | rfl
theorem pn_1 : plainName "com/example/hellowire/hellowire/codec/ShortestDecimalFloorLog10ThreeQuartersPow2PinLaw" = true := by first | (simp [plainName, overriddenIn]; done) | decide +kernel
def own_pow (j : Int32) : Int64 := ([1, 10, 100, 1000, 10000, 100000, 1000000, 10000000, 100000000, 1000000000, 10000000000, 100000000000, 1000000000000, 10000000000000, 100000000000000, 1000000000000000, 10000000000000000, 100000000000000000, 1000000000000000000] : List Int64).getD j.toNatClampNeg 0
theorem own_le18 {x : Int32} (h : ¬ ((18 : Int32) < x)) : x < (19 : Int32) := by
  rw [Int32.lt_iff_toInt_lt] at h ⊢
  have h1 : (18 : Int32).toInt = 18 := rfl
  have h2 : (19 : Int32).toInt = 19 := rfl
  omega
def f2_130 (i0 : Int32) (i1 : Int32) : Int32 := (if i0 < (2 : Int32) then (if (-i1) < (0 : Int32) then (0 : Int32) else (if (18 : Int32) < (-i1) then (0 : Int32) else (if (0 : Int32) < (lcmpW ((1 : Int64) <<< (((2 : Int32) - i0) &&& 0x3f).toInt64) ((3 : Int64) * (own_pow (-i1)))) then (0 : Int32) else (if (lcmpW ((3 : Int64) * (own_pow (-i1))) ((10 : Int64) * ((1 : Int64) <<< (((2 : Int32) - i0) &&& 0x3f).toInt64))) < (0 : Int32) then (1 : Int32) else (0 : Int32))))) else (if i1 < (0 : Int32) then (0 : Int32) else (if (18 : Int32) < i1 then (0 : Int32) else (if (0 : Int32) < (lcmpW (own_pow i1) ((3 : Int64) <<< ((i0 - (2 : Int32)) &&& 0x3f).toInt64)) then (0 : Int32) else (if (lcmpW (((3 : Int64) <<< ((i0 - (2 : Int32)) &&& 0x3f).toInt64) / (10 : Int64)) (own_pow i1)) < (0 : Int32) then (1 : Int32) else (0 : Int32))))))
def Q2 (Z : State) (p0 : Int32) (p1 : Int32) (h0 : Heap) (n0 : Nat) (v : Option Value) (h : Heap) (L : List Loc) : Prop := v = some (.int (f2_130 p0 p1)) ∧ Fr n0 L ∧ Keep h0 h []
set_option maxRecDepth 65536 in
set_option maxHeartbeats 40000000 in
theorem rm2 (l : Launch) (Z : State) (aZ : Array Value) (hw : ∀ d ∈ tables_1, d.before aZ Z = true) (ws : List Jvm.Cond) (p0 : Int32) (p1 : Int32) (h0 : Heap) (n0 : Nat) (Z0 : n0 ≤ h0.size) :
    MetFree l (⟨"com/example/hellowire/hellowire/codec/ShortestDecimalFloorLog10ThreeQuartersPow2PinLaw", "exactOk", "(II)Z"⟩ : MethodName) (head1 (Jvm.Cond.code (⟨"com/example/hellowire/hellowire/codec/ShortestDecimalFloorLog10ThreeQuartersPow2PinLaw", "exactOk", "(II)Z"⟩ : MethodName) method_3_code 9 (some .boolean) :: ws) ({ frames := 0, cells := 1, slots := 19, locals := 0 } : Room)) (fun a U => a = #[(.int p0), (.int p1)] ∧ Z.Warmed39 U.vm ∧ U.heap = h0) (fun _ _ _ _ _ => True) (fun _ U o U' => ∃ v L, o = .returned v ∧ Q2 Z p0 p1 h0 n0 v U'.heap L ∧ FrameEnd U o U' L 1 19) := by
  refine MetFree.of_bodySF (plainFor_of_name pn_1) hisR ?_
  intro p e s m args below meth c s₁ Bd hml0 hP hK
  obtain ⟨rfl, hZ, hh⟩ := hP
  have hx := Bd.exec
  have hby := Bd.bytes
  have hml : c.maxLocals = 9 := hml0
  have hown : s.vm.findClass "com/example/hellowire/hellowire/codec/ShortestDecimalFloorLog10ThreeQuartersPow2PinLaw" = some m.cls := findClass_of_methodNamed Bd.named
  have hnm := (name_of_methodNamed Bd.named Bd.method).1
  have hlk := BodyLoose.notSynchronized Bd
  have X0 : Stand p l e ({ frames := 0, cells := 1, slots := 19, locals := 0 } : Room) s m #[(.int p0), (.int p1)] below meth c s₁ [] 0 0 := Stand.of_body Bd
  have e0 : s₁.heap = h0 := by rw [← hh, Bd.state]; rfl
  have N0 := Fr.nil n0
  have hk0 : 0 ≤ 1 := Nat.zero_le _
  have hn0 : 0 ≤ 19 := Nat.zero_le _
  show OwnEnds p e below (OwnQ s (Q2 Z p0 p1 h0 n0) 1 19) (s₁.setTop (entryFrame m #[(.int p0), (.int p1)] 9))
  refine .pre (fun t k => castTop (ef_2 m p0 p1) k) ?_
  show OwnEnds p e below _ (s₁.setTop (mkF m 0 #[.val (.int p0), .val (.int p1), .unset, .unset, .unset, .unset, .unset, .unset, .unset] []))
  refine .pre (fun _ k => XS.bipush X0.here hx rfl (hb hby d2_0) k) ?_
  show OwnEnds p e below _ (s₁.setTop (mkF m 2 #[.val (.int p0), .val (.int p1), .unset, .unset, .unset, .unset, .unset, .unset, .unset] [(.int (19 : Int32))]))
  obtain ⟨T1, h1, kk1, X1, e1, E1, A1, st1⟩ := newP X0 hx hZ (hw _ (List.mem_of_getElem? (i := 11) rfl)) e0 (g := (mkF m 2 #[.val (.int p0), .val (.int p1), .unset, .unset, .unset, .unset, .unset, .unset, .unset] [(.int (19 : Int32))])) rfl (hb hby d2_2) rfl (by decide) (cap := 19) (by decide) (by decide) (by decide) (by decide)
  obtain ⟨b1, g1⟩ : ∃ z, z = h0.size := ⟨_, rfl⟩
  rw [← g1] at A1 st1
  have V_b1 : Arv Z h1 b1 kk1 .long (19 : Int32) [(.long (0 : Int64)), (.long (0 : Int64)), (.long (0 : Int64)), (.long (0 : Int64)), (.long (0 : Int64)), (.long (0 : Int64)), (.long (0 : Int64)), (.long (0 : Int64)), (.long (0 : Int64)), (.long (0 : Int64)), (.long (0 : Int64)), (.long (0 : Int64)), (.long (0 : Int64)), (.long (0 : Int64)), (.long (0 : Int64)), (.long (0 : Int64)), (.long (0 : Int64)), (.long (0 : Int64)), (.long (0 : Int64))] (.long (0 : Int64)) := (Arv.new A1 (by decide)).pad (pad_rep [] (.long (0 : Int64)) 19)
  have g_b1 : n0 ≤ b1 := Nat.le_trans Z0 (Nat.le_of_eq g1.symm)
  have sz_b1 : h0.size ≤ b1 := Nat.le_trans (Keep.refl h0 []).1 (Nat.le_of_eq g1.symm)
  have Kp1 : Keep h0 h1 [] := (Keep.refl h0 []).ext E1
  refine .pre (fun _ k => st1 _ k) ?_
  show OwnEnds p e below _ (T1.setTop (mkF m 4 #[.val (.int p0), .val (.int p1), .unset, .unset, .unset, .unset, .unset, .unset, .unset] [(.ref b1)]))
  refine .pre (fun _ k => XS.dup X1.here hx rfl (hb hby d2_4) rfl rfl k) ?_
  show OwnEnds p e below _ (T1.setTop (mkF m 5 #[.val (.int p0), .val (.int p1), .unset, .unset, .unset, .unset, .unset, .unset, .unset] [(.ref b1), (.ref b1)]))
  refine .pre (fun _ k => XS.iconst X1.here hx rfl (hb hby d2_5) k) ?_
  show OwnEnds p e below _ (T1.setTop (mkF m 6 #[.val (.int p0), .val (.int p1), .unset, .unset, .unset, .unset, .unset, .unset, .unset] [(.int (0 : Int32)), (.ref b1), (.ref b1)]))
  refine .pre (fun _ k => XS.lconst X1.here hx rfl (hb hby d2_6) k) ?_
  show OwnEnds p e below _ (T1.setTop (mkF m 7 #[.val (.int p0), .val (.int p1), .unset, .unset, .unset, .unset, .unset, .unset, .unset] [(.long (1 : Int64)), (.int (0 : Int32)), (.ref b1), (.ref b1)]))
  obtain ⟨cl2, Ar2, qa2, qs2, qn2, qh2, qg2⟩ := id V_b1
  have hin2 : ¬ ((0 : Int32) < 0 ∨ cl2.slots.size ≤ ((0 : Int32)).toNatClampNeg) := inb_of qs2 ⟨by decide, by decide⟩
  obtain ⟨T2, h2, X2, e2, W2, st2⟩ := stJ X1 hx hZ e1 Ar2 (j := (0 : Int32)) hin2 (g := (mkF m 7 #[.val (.int p0), .val (.int p1), .unset, .unset, .unset, .unset, .unset, .unset, .unset] [(.long (1 : Int64)), (.int (0 : Int32)), (.ref b1), (.ref b1)])) rfl rfl (hb hby d2_7)
  have V2 : Arv Z h2 b1 kk1 .long (19 : Int32) [(.long (1 : Int64)), (.long (0 : Int64)), (.long (0 : Int64)), (.long (0 : Int64)), (.long (0 : Int64)), (.long (0 : Int64)), (.long (0 : Int64)), (.long (0 : Int64)), (.long (0 : Int64)), (.long (0 : Int64)), (.long (0 : Int64)), (.long (0 : Int64)), (.long (0 : Int64)), (.long (0 : Int64)), (.long (0 : Int64)), (.long (0 : Int64)), (.long (0 : Int64)), (.long (0 : Int64)), (.long (0 : Int64))] (.long (0 : Int64)) := Arv.set Ar2 qa2 qs2 qn2 qh2 qg2 rfl W2 0 rfl (Nat.le_of_ble_eq_true rfl)
  have N2 := Fr.snoc X2 N0 g_b1
  have Kp2 : Keep h0 h2 [] := Kp1.wr W2 (Or.inr sz_b1)
  refine .pre (fun _ k => st2 _ k) ?_
  show OwnEnds p e below _ (T2.setTop (mkF m 8 #[.val (.int p0), .val (.int p1), .unset, .unset, .unset, .unset, .unset, .unset, .unset] [(.ref b1)]))
  refine .pre (fun _ k => XS.dup X2.here hx rfl (hb hby d2_8) rfl rfl k) ?_
  show OwnEnds p e below _ (T2.setTop (mkF m 9 #[.val (.int p0), .val (.int p1), .unset, .unset, .unset, .unset, .unset, .unset, .unset] [(.ref b1), (.ref b1)]))
  refine .pre (fun _ k => XS.iconst X2.here hx rfl (hb hby d2_9) k) ?_
  show OwnEnds p e below _ (T2.setTop (mkF m 10 #[.val (.int p0), .val (.int p1), .unset, .unset, .unset, .unset, .unset, .unset, .unset] [(.int (1 : Int32)), (.ref b1), (.ref b1)]))
  refine .pre (fun _ k => X2.ldc2Long hx hown (mvT hZ (hw _ (List.mem_of_getElem? (i := 12) rfl))) (g := (mkF m 10 #[.val (.int p0), .val (.int p1), .unset, .unset, .unset, .unset, .unset, .unset, .unset] [(.int (1 : Int32)), (.ref b1), (.ref b1)])) rfl (hb hby d2_10) _ k) ?_
  show OwnEnds p e below _ (T2.setTop (mkF m 13 #[.val (.int p0), .val (.int p1), .unset, .unset, .unset, .unset, .unset, .unset, .unset] [(.long (10 : Int64)), (.int (1 : Int32)), (.ref b1), (.ref b1)]))
  obtain ⟨cl3, Ar3, qa3, qs3, qn3, qh3, qg3⟩ := id V2
  have hin3 : ¬ ((1 : Int32) < 0 ∨ cl3.slots.size ≤ ((1 : Int32)).toNatClampNeg) := inb_of qs3 ⟨by decide, by decide⟩
  obtain ⟨T3, h3, X3, e3, W3, st3⟩ := stJ X2 hx hZ e2 Ar3 (j := (1 : Int32)) hin3 (g := (mkF m 13 #[.val (.int p0), .val (.int p1), .unset, .unset, .unset, .unset, .unset, .unset, .unset] [(.long (10 : Int64)), (.int (1 : Int32)), (.ref b1), (.ref b1)])) rfl rfl (hb hby d2_13)
  have V3 : Arv Z h3 b1 kk1 .long (19 : Int32) [(.long (1 : Int64)), (.long (10 : Int64)), (.long (0 : Int64)), (.long (0 : Int64)), (.long (0 : Int64)), (.long (0 : Int64)), (.long (0 : Int64)), (.long (0 : Int64)), (.long (0 : Int64)), (.long (0 : Int64)), (.long (0 : Int64)), (.long (0 : Int64)), (.long (0 : Int64)), (.long (0 : Int64)), (.long (0 : Int64)), (.long (0 : Int64)), (.long (0 : Int64)), (.long (0 : Int64)), (.long (0 : Int64))] (.long (0 : Int64)) := Arv.set Ar3 qa3 qs3 qn3 qh3 qg3 rfl W3 1 rfl (Nat.le_of_ble_eq_true rfl)
  have N3 := Fr.snoc X3 N2 g_b1
  have Kp3 : Keep h0 h3 [] := Kp2.wr W3 (Or.inr sz_b1)
  refine .pre (fun _ k => st3 _ k) ?_
  show OwnEnds p e below _ (T3.setTop (mkF m 14 #[.val (.int p0), .val (.int p1), .unset, .unset, .unset, .unset, .unset, .unset, .unset] [(.ref b1)]))
  refine .pre (fun _ k => XS.dup X3.here hx rfl (hb hby d2_14) rfl rfl k) ?_
  show OwnEnds p e below _ (T3.setTop (mkF m 15 #[.val (.int p0), .val (.int p1), .unset, .unset, .unset, .unset, .unset, .unset, .unset] [(.ref b1), (.ref b1)]))
  refine .pre (fun _ k => XS.iconst X3.here hx rfl (hb hby d2_15) k) ?_
  show OwnEnds p e below _ (T3.setTop (mkF m 16 #[.val (.int p0), .val (.int p1), .unset, .unset, .unset, .unset, .unset, .unset, .unset] [(.int (2 : Int32)), (.ref b1), (.ref b1)]))
  refine .pre (fun _ k => X3.ldc2Long hx hown (mvT hZ (hw _ (List.mem_of_getElem? (i := 13) rfl))) (g := (mkF m 16 #[.val (.int p0), .val (.int p1), .unset, .unset, .unset, .unset, .unset, .unset, .unset] [(.int (2 : Int32)), (.ref b1), (.ref b1)])) rfl (hb hby d2_16) _ k) ?_
  show OwnEnds p e below _ (T3.setTop (mkF m 19 #[.val (.int p0), .val (.int p1), .unset, .unset, .unset, .unset, .unset, .unset, .unset] [(.long (100 : Int64)), (.int (2 : Int32)), (.ref b1), (.ref b1)]))
  obtain ⟨cl4, Ar4, qa4, qs4, qn4, qh4, qg4⟩ := id V3
  have hin4 : ¬ ((2 : Int32) < 0 ∨ cl4.slots.size ≤ ((2 : Int32)).toNatClampNeg) := inb_of qs4 ⟨by decide, by decide⟩
  obtain ⟨T4, h4, X4, e4, W4, st4⟩ := stJ X3 hx hZ e3 Ar4 (j := (2 : Int32)) hin4 (g := (mkF m 19 #[.val (.int p0), .val (.int p1), .unset, .unset, .unset, .unset, .unset, .unset, .unset] [(.long (100 : Int64)), (.int (2 : Int32)), (.ref b1), (.ref b1)])) rfl rfl (hb hby d2_19)
  have V4 : Arv Z h4 b1 kk1 .long (19 : Int32) [(.long (1 : Int64)), (.long (10 : Int64)), (.long (100 : Int64)), (.long (0 : Int64)), (.long (0 : Int64)), (.long (0 : Int64)), (.long (0 : Int64)), (.long (0 : Int64)), (.long (0 : Int64)), (.long (0 : Int64)), (.long (0 : Int64)), (.long (0 : Int64)), (.long (0 : Int64)), (.long (0 : Int64)), (.long (0 : Int64)), (.long (0 : Int64)), (.long (0 : Int64)), (.long (0 : Int64)), (.long (0 : Int64))] (.long (0 : Int64)) := Arv.set Ar4 qa4 qs4 qn4 qh4 qg4 rfl W4 2 rfl (Nat.le_of_ble_eq_true rfl)
  have N4 := Fr.snoc X4 N3 g_b1
  have Kp4 : Keep h0 h4 [] := Kp3.wr W4 (Or.inr sz_b1)
  refine .pre (fun _ k => st4 _ k) ?_
  show OwnEnds p e below _ (T4.setTop (mkF m 20 #[.val (.int p0), .val (.int p1), .unset, .unset, .unset, .unset, .unset, .unset, .unset] [(.ref b1)]))
  refine .pre (fun _ k => XS.dup X4.here hx rfl (hb hby d2_20) rfl rfl k) ?_
  show OwnEnds p e below _ (T4.setTop (mkF m 21 #[.val (.int p0), .val (.int p1), .unset, .unset, .unset, .unset, .unset, .unset, .unset] [(.ref b1), (.ref b1)]))
  refine .pre (fun _ k => XS.iconst X4.here hx rfl (hb hby d2_21) k) ?_
  show OwnEnds p e below _ (T4.setTop (mkF m 22 #[.val (.int p0), .val (.int p1), .unset, .unset, .unset, .unset, .unset, .unset, .unset] [(.int (3 : Int32)), (.ref b1), (.ref b1)]))
  refine .pre (fun _ k => X4.ldc2Long hx hown (mvT hZ (hw _ (List.mem_of_getElem? (i := 14) rfl))) (g := (mkF m 22 #[.val (.int p0), .val (.int p1), .unset, .unset, .unset, .unset, .unset, .unset, .unset] [(.int (3 : Int32)), (.ref b1), (.ref b1)])) rfl (hb hby d2_22) _ k) ?_
  show OwnEnds p e below _ (T4.setTop (mkF m 25 #[.val (.int p0), .val (.int p1), .unset, .unset, .unset, .unset, .unset, .unset, .unset] [(.long (1000 : Int64)), (.int (3 : Int32)), (.ref b1), (.ref b1)]))
  obtain ⟨cl5, Ar5, qa5, qs5, qn5, qh5, qg5⟩ := id V4
  have hin5 : ¬ ((3 : Int32) < 0 ∨ cl5.slots.size ≤ ((3 : Int32)).toNatClampNeg) := inb_of qs5 ⟨by decide, by decide⟩
  obtain ⟨T5, h5, X5, e5, W5, st5⟩ := stJ X4 hx hZ e4 Ar5 (j := (3 : Int32)) hin5 (g := (mkF m 25 #[.val (.int p0), .val (.int p1), .unset, .unset, .unset, .unset, .unset, .unset, .unset] [(.long (1000 : Int64)), (.int (3 : Int32)), (.ref b1), (.ref b1)])) rfl rfl (hb hby d2_25)
  have V5 : Arv Z h5 b1 kk1 .long (19 : Int32) [(.long (1 : Int64)), (.long (10 : Int64)), (.long (100 : Int64)), (.long (1000 : Int64)), (.long (0 : Int64)), (.long (0 : Int64)), (.long (0 : Int64)), (.long (0 : Int64)), (.long (0 : Int64)), (.long (0 : Int64)), (.long (0 : Int64)), (.long (0 : Int64)), (.long (0 : Int64)), (.long (0 : Int64)), (.long (0 : Int64)), (.long (0 : Int64)), (.long (0 : Int64)), (.long (0 : Int64)), (.long (0 : Int64))] (.long (0 : Int64)) := Arv.set Ar5 qa5 qs5 qn5 qh5 qg5 rfl W5 3 rfl (Nat.le_of_ble_eq_true rfl)
  have N5 := Fr.snoc X5 N4 g_b1
  have Kp5 : Keep h0 h5 [] := Kp4.wr W5 (Or.inr sz_b1)
  refine .pre (fun _ k => st5 _ k) ?_
  show OwnEnds p e below _ (T5.setTop (mkF m 26 #[.val (.int p0), .val (.int p1), .unset, .unset, .unset, .unset, .unset, .unset, .unset] [(.ref b1)]))
  refine .pre (fun _ k => XS.dup X5.here hx rfl (hb hby d2_26) rfl rfl k) ?_
  show OwnEnds p e below _ (T5.setTop (mkF m 27 #[.val (.int p0), .val (.int p1), .unset, .unset, .unset, .unset, .unset, .unset, .unset] [(.ref b1), (.ref b1)]))
  refine .pre (fun _ k => XS.iconst X5.here hx rfl (hb hby d2_27) k) ?_
  show OwnEnds p e below _ (T5.setTop (mkF m 28 #[.val (.int p0), .val (.int p1), .unset, .unset, .unset, .unset, .unset, .unset, .unset] [(.int (4 : Int32)), (.ref b1), (.ref b1)]))
  refine .pre (fun _ k => X5.ldc2Long hx hown (mvT hZ (hw _ (List.mem_of_getElem? (i := 15) rfl))) (g := (mkF m 28 #[.val (.int p0), .val (.int p1), .unset, .unset, .unset, .unset, .unset, .unset, .unset] [(.int (4 : Int32)), (.ref b1), (.ref b1)])) rfl (hb hby d2_28) _ k) ?_
  show OwnEnds p e below _ (T5.setTop (mkF m 31 #[.val (.int p0), .val (.int p1), .unset, .unset, .unset, .unset, .unset, .unset, .unset] [(.long (10000 : Int64)), (.int (4 : Int32)), (.ref b1), (.ref b1)]))
  obtain ⟨cl6, Ar6, qa6, qs6, qn6, qh6, qg6⟩ := id V5
  have hin6 : ¬ ((4 : Int32) < 0 ∨ cl6.slots.size ≤ ((4 : Int32)).toNatClampNeg) := inb_of qs6 ⟨by decide, by decide⟩
  obtain ⟨T6, h6, X6, e6, W6, st6⟩ := stJ X5 hx hZ e5 Ar6 (j := (4 : Int32)) hin6 (g := (mkF m 31 #[.val (.int p0), .val (.int p1), .unset, .unset, .unset, .unset, .unset, .unset, .unset] [(.long (10000 : Int64)), (.int (4 : Int32)), (.ref b1), (.ref b1)])) rfl rfl (hb hby d2_31)
  have V6 : Arv Z h6 b1 kk1 .long (19 : Int32) [(.long (1 : Int64)), (.long (10 : Int64)), (.long (100 : Int64)), (.long (1000 : Int64)), (.long (10000 : Int64)), (.long (0 : Int64)), (.long (0 : Int64)), (.long (0 : Int64)), (.long (0 : Int64)), (.long (0 : Int64)), (.long (0 : Int64)), (.long (0 : Int64)), (.long (0 : Int64)), (.long (0 : Int64)), (.long (0 : Int64)), (.long (0 : Int64)), (.long (0 : Int64)), (.long (0 : Int64)), (.long (0 : Int64))] (.long (0 : Int64)) := Arv.set Ar6 qa6 qs6 qn6 qh6 qg6 rfl W6 4 rfl (Nat.le_of_ble_eq_true rfl)
  have N6 := Fr.snoc X6 N5 g_b1
  have Kp6 : Keep h0 h6 [] := Kp5.wr W6 (Or.inr sz_b1)
  refine .pre (fun _ k => st6 _ k) ?_
  show OwnEnds p e below _ (T6.setTop (mkF m 32 #[.val (.int p0), .val (.int p1), .unset, .unset, .unset, .unset, .unset, .unset, .unset] [(.ref b1)]))
  refine .pre (fun _ k => XS.dup X6.here hx rfl (hb hby d2_32) rfl rfl k) ?_
  show OwnEnds p e below _ (T6.setTop (mkF m 33 #[.val (.int p0), .val (.int p1), .unset, .unset, .unset, .unset, .unset, .unset, .unset] [(.ref b1), (.ref b1)]))
  refine .pre (fun _ k => XS.iconst X6.here hx rfl (hb hby d2_33) k) ?_
  show OwnEnds p e below _ (T6.setTop (mkF m 34 #[.val (.int p0), .val (.int p1), .unset, .unset, .unset, .unset, .unset, .unset, .unset] [(.int (5 : Int32)), (.ref b1), (.ref b1)]))
  refine .pre (fun _ k => X6.ldc2Long hx hown (mvT hZ (hw _ (List.mem_of_getElem? (i := 16) rfl))) (g := (mkF m 34 #[.val (.int p0), .val (.int p1), .unset, .unset, .unset, .unset, .unset, .unset, .unset] [(.int (5 : Int32)), (.ref b1), (.ref b1)])) rfl (hb hby d2_34) _ k) ?_
  show OwnEnds p e below _ (T6.setTop (mkF m 37 #[.val (.int p0), .val (.int p1), .unset, .unset, .unset, .unset, .unset, .unset, .unset] [(.long (100000 : Int64)), (.int (5 : Int32)), (.ref b1), (.ref b1)]))
  obtain ⟨cl7, Ar7, qa7, qs7, qn7, qh7, qg7⟩ := id V6
  have hin7 : ¬ ((5 : Int32) < 0 ∨ cl7.slots.size ≤ ((5 : Int32)).toNatClampNeg) := inb_of qs7 ⟨by decide, by decide⟩
  obtain ⟨T7, h7, X7, e7, W7, st7⟩ := stJ X6 hx hZ e6 Ar7 (j := (5 : Int32)) hin7 (g := (mkF m 37 #[.val (.int p0), .val (.int p1), .unset, .unset, .unset, .unset, .unset, .unset, .unset] [(.long (100000 : Int64)), (.int (5 : Int32)), (.ref b1), (.ref b1)])) rfl rfl (hb hby d2_37)
  have V7 : Arv Z h7 b1 kk1 .long (19 : Int32) [(.long (1 : Int64)), (.long (10 : Int64)), (.long (100 : Int64)), (.long (1000 : Int64)), (.long (10000 : Int64)), (.long (100000 : Int64)), (.long (0 : Int64)), (.long (0 : Int64)), (.long (0 : Int64)), (.long (0 : Int64)), (.long (0 : Int64)), (.long (0 : Int64)), (.long (0 : Int64)), (.long (0 : Int64)), (.long (0 : Int64)), (.long (0 : Int64)), (.long (0 : Int64)), (.long (0 : Int64)), (.long (0 : Int64))] (.long (0 : Int64)) := Arv.set Ar7 qa7 qs7 qn7 qh7 qg7 rfl W7 5 rfl (Nat.le_of_ble_eq_true rfl)
  have N7 := Fr.snoc X7 N6 g_b1
  have Kp7 : Keep h0 h7 [] := Kp6.wr W7 (Or.inr sz_b1)
  refine .pre (fun _ k => st7 _ k) ?_
  show OwnEnds p e below _ (T7.setTop (mkF m 38 #[.val (.int p0), .val (.int p1), .unset, .unset, .unset, .unset, .unset, .unset, .unset] [(.ref b1)]))
  refine .pre (fun _ k => XS.dup X7.here hx rfl (hb hby d2_38) rfl rfl k) ?_
  show OwnEnds p e below _ (T7.setTop (mkF m 39 #[.val (.int p0), .val (.int p1), .unset, .unset, .unset, .unset, .unset, .unset, .unset] [(.ref b1), (.ref b1)]))
  refine .pre (fun _ k => XS.bipush X7.here hx rfl (hb hby d2_39) k) ?_
  show OwnEnds p e below _ (T7.setTop (mkF m 41 #[.val (.int p0), .val (.int p1), .unset, .unset, .unset, .unset, .unset, .unset, .unset] [(.int (6 : Int32)), (.ref b1), (.ref b1)]))
  refine .pre (fun _ k => X7.ldc2Long hx hown (mvT hZ (hw _ (List.mem_of_getElem? (i := 17) rfl))) (g := (mkF m 41 #[.val (.int p0), .val (.int p1), .unset, .unset, .unset, .unset, .unset, .unset, .unset] [(.int (6 : Int32)), (.ref b1), (.ref b1)])) rfl (hb hby d2_41) _ k) ?_
  show OwnEnds p e below _ (T7.setTop (mkF m 44 #[.val (.int p0), .val (.int p1), .unset, .unset, .unset, .unset, .unset, .unset, .unset] [(.long (1000000 : Int64)), (.int (6 : Int32)), (.ref b1), (.ref b1)]))
  obtain ⟨cl8, Ar8, qa8, qs8, qn8, qh8, qg8⟩ := id V7
  have hin8 : ¬ ((6 : Int32) < 0 ∨ cl8.slots.size ≤ ((6 : Int32)).toNatClampNeg) := inb_of qs8 ⟨by decide, by decide⟩
  obtain ⟨T8, h8, X8, e8, W8, st8⟩ := stJ X7 hx hZ e7 Ar8 (j := (6 : Int32)) hin8 (g := (mkF m 44 #[.val (.int p0), .val (.int p1), .unset, .unset, .unset, .unset, .unset, .unset, .unset] [(.long (1000000 : Int64)), (.int (6 : Int32)), (.ref b1), (.ref b1)])) rfl rfl (hb hby d2_44)
  have V8 : Arv Z h8 b1 kk1 .long (19 : Int32) [(.long (1 : Int64)), (.long (10 : Int64)), (.long (100 : Int64)), (.long (1000 : Int64)), (.long (10000 : Int64)), (.long (100000 : Int64)), (.long (1000000 : Int64)), (.long (0 : Int64)), (.long (0 : Int64)), (.long (0 : Int64)), (.long (0 : Int64)), (.long (0 : Int64)), (.long (0 : Int64)), (.long (0 : Int64)), (.long (0 : Int64)), (.long (0 : Int64)), (.long (0 : Int64)), (.long (0 : Int64)), (.long (0 : Int64))] (.long (0 : Int64)) := Arv.set Ar8 qa8 qs8 qn8 qh8 qg8 rfl W8 6 rfl (Nat.le_of_ble_eq_true rfl)
  have N8 := Fr.snoc X8 N7 g_b1
  have Kp8 : Keep h0 h8 [] := Kp7.wr W8 (Or.inr sz_b1)
  refine .pre (fun _ k => st8 _ k) ?_
  show OwnEnds p e below _ (T8.setTop (mkF m 45 #[.val (.int p0), .val (.int p1), .unset, .unset, .unset, .unset, .unset, .unset, .unset] [(.ref b1)]))
  refine .pre (fun _ k => XS.dup X8.here hx rfl (hb hby d2_45) rfl rfl k) ?_
  show OwnEnds p e below _ (T8.setTop (mkF m 46 #[.val (.int p0), .val (.int p1), .unset, .unset, .unset, .unset, .unset, .unset, .unset] [(.ref b1), (.ref b1)]))
  refine .pre (fun _ k => XS.bipush X8.here hx rfl (hb hby d2_46) k) ?_
  show OwnEnds p e below _ (T8.setTop (mkF m 48 #[.val (.int p0), .val (.int p1), .unset, .unset, .unset, .unset, .unset, .unset, .unset] [(.int (7 : Int32)), (.ref b1), (.ref b1)]))
  refine .pre (fun _ k => X8.ldc2Long hx hown (mvT hZ (hw _ (List.mem_of_getElem? (i := 18) rfl))) (g := (mkF m 48 #[.val (.int p0), .val (.int p1), .unset, .unset, .unset, .unset, .unset, .unset, .unset] [(.int (7 : Int32)), (.ref b1), (.ref b1)])) rfl (hb hby d2_48) _ k) ?_
  show OwnEnds p e below _ (T8.setTop (mkF m 51 #[.val (.int p0), .val (.int p1), .unset, .unset, .unset, .unset, .unset, .unset, .unset] [(.long (10000000 : Int64)), (.int (7 : Int32)), (.ref b1), (.ref b1)]))
  obtain ⟨cl9, Ar9, qa9, qs9, qn9, qh9, qg9⟩ := id V8
  have hin9 : ¬ ((7 : Int32) < 0 ∨ cl9.slots.size ≤ ((7 : Int32)).toNatClampNeg) := inb_of qs9 ⟨by decide, by decide⟩
  obtain ⟨T9, h9, X9, e9, W9, st9⟩ := stJ X8 hx hZ e8 Ar9 (j := (7 : Int32)) hin9 (g := (mkF m 51 #[.val (.int p0), .val (.int p1), .unset, .unset, .unset, .unset, .unset, .unset, .unset] [(.long (10000000 : Int64)), (.int (7 : Int32)), (.ref b1), (.ref b1)])) rfl rfl (hb hby d2_51)
  have V9 : Arv Z h9 b1 kk1 .long (19 : Int32) [(.long (1 : Int64)), (.long (10 : Int64)), (.long (100 : Int64)), (.long (1000 : Int64)), (.long (10000 : Int64)), (.long (100000 : Int64)), (.long (1000000 : Int64)), (.long (10000000 : Int64)), (.long (0 : Int64)), (.long (0 : Int64)), (.long (0 : Int64)), (.long (0 : Int64)), (.long (0 : Int64)), (.long (0 : Int64)), (.long (0 : Int64)), (.long (0 : Int64)), (.long (0 : Int64)), (.long (0 : Int64)), (.long (0 : Int64))] (.long (0 : Int64)) := Arv.set Ar9 qa9 qs9 qn9 qh9 qg9 rfl W9 7 rfl (Nat.le_of_ble_eq_true rfl)
  have N9 := Fr.snoc X9 N8 g_b1
  have Kp9 : Keep h0 h9 [] := Kp8.wr W9 (Or.inr sz_b1)
  refine .pre (fun _ k => st9 _ k) ?_
  show OwnEnds p e below _ (T9.setTop (mkF m 52 #[.val (.int p0), .val (.int p1), .unset, .unset, .unset, .unset, .unset, .unset, .unset] [(.ref b1)]))
  refine .pre (fun _ k => XS.dup X9.here hx rfl (hb hby d2_52) rfl rfl k) ?_
  show OwnEnds p e below _ (T9.setTop (mkF m 53 #[.val (.int p0), .val (.int p1), .unset, .unset, .unset, .unset, .unset, .unset, .unset] [(.ref b1), (.ref b1)]))
  refine .pre (fun _ k => XS.bipush X9.here hx rfl (hb hby d2_53) k) ?_
  show OwnEnds p e below _ (T9.setTop (mkF m 55 #[.val (.int p0), .val (.int p1), .unset, .unset, .unset, .unset, .unset, .unset, .unset] [(.int (8 : Int32)), (.ref b1), (.ref b1)]))
  refine .pre (fun _ k => X9.ldc2Long hx hown (mvT hZ (hw _ (List.mem_of_getElem? (i := 19) rfl))) (g := (mkF m 55 #[.val (.int p0), .val (.int p1), .unset, .unset, .unset, .unset, .unset, .unset, .unset] [(.int (8 : Int32)), (.ref b1), (.ref b1)])) rfl (hb hby d2_55) _ k) ?_
  show OwnEnds p e below _ (T9.setTop (mkF m 58 #[.val (.int p0), .val (.int p1), .unset, .unset, .unset, .unset, .unset, .unset, .unset] [(.long (100000000 : Int64)), (.int (8 : Int32)), (.ref b1), (.ref b1)]))
  obtain ⟨cl10, Ar10, qa10, qs10, qn10, qh10, qg10⟩ := id V9
  have hin10 : ¬ ((8 : Int32) < 0 ∨ cl10.slots.size ≤ ((8 : Int32)).toNatClampNeg) := inb_of qs10 ⟨by decide, by decide⟩
  obtain ⟨T10, h10, X10, e10, W10, st10⟩ := stJ X9 hx hZ e9 Ar10 (j := (8 : Int32)) hin10 (g := (mkF m 58 #[.val (.int p0), .val (.int p1), .unset, .unset, .unset, .unset, .unset, .unset, .unset] [(.long (100000000 : Int64)), (.int (8 : Int32)), (.ref b1), (.ref b1)])) rfl rfl (hb hby d2_58)
  have V10 : Arv Z h10 b1 kk1 .long (19 : Int32) [(.long (1 : Int64)), (.long (10 : Int64)), (.long (100 : Int64)), (.long (1000 : Int64)), (.long (10000 : Int64)), (.long (100000 : Int64)), (.long (1000000 : Int64)), (.long (10000000 : Int64)), (.long (100000000 : Int64)), (.long (0 : Int64)), (.long (0 : Int64)), (.long (0 : Int64)), (.long (0 : Int64)), (.long (0 : Int64)), (.long (0 : Int64)), (.long (0 : Int64)), (.long (0 : Int64)), (.long (0 : Int64)), (.long (0 : Int64))] (.long (0 : Int64)) := Arv.set Ar10 qa10 qs10 qn10 qh10 qg10 rfl W10 8 rfl (Nat.le_of_ble_eq_true rfl)
  have N10 := Fr.snoc X10 N9 g_b1
  have Kp10 : Keep h0 h10 [] := Kp9.wr W10 (Or.inr sz_b1)
  refine .pre (fun _ k => st10 _ k) ?_
  show OwnEnds p e below _ (T10.setTop (mkF m 59 #[.val (.int p0), .val (.int p1), .unset, .unset, .unset, .unset, .unset, .unset, .unset] [(.ref b1)]))
  refine .pre (fun _ k => XS.dup X10.here hx rfl (hb hby d2_59) rfl rfl k) ?_
  show OwnEnds p e below _ (T10.setTop (mkF m 60 #[.val (.int p0), .val (.int p1), .unset, .unset, .unset, .unset, .unset, .unset, .unset] [(.ref b1), (.ref b1)]))
  refine .pre (fun _ k => XS.bipush X10.here hx rfl (hb hby d2_60) k) ?_
  show OwnEnds p e below _ (T10.setTop (mkF m 62 #[.val (.int p0), .val (.int p1), .unset, .unset, .unset, .unset, .unset, .unset, .unset] [(.int (9 : Int32)), (.ref b1), (.ref b1)]))
  refine .pre (fun _ k => X10.ldc2Long hx hown (mvT hZ (hw _ (List.mem_of_getElem? (i := 20) rfl))) (g := (mkF m 62 #[.val (.int p0), .val (.int p1), .unset, .unset, .unset, .unset, .unset, .unset, .unset] [(.int (9 : Int32)), (.ref b1), (.ref b1)])) rfl (hb hby d2_62) _ k) ?_
  show OwnEnds p e below _ (T10.setTop (mkF m 65 #[.val (.int p0), .val (.int p1), .unset, .unset, .unset, .unset, .unset, .unset, .unset] [(.long (1000000000 : Int64)), (.int (9 : Int32)), (.ref b1), (.ref b1)]))
  obtain ⟨cl11, Ar11, qa11, qs11, qn11, qh11, qg11⟩ := id V10
  have hin11 : ¬ ((9 : Int32) < 0 ∨ cl11.slots.size ≤ ((9 : Int32)).toNatClampNeg) := inb_of qs11 ⟨by decide, by decide⟩
  obtain ⟨T11, h11, X11, e11, W11, st11⟩ := stJ X10 hx hZ e10 Ar11 (j := (9 : Int32)) hin11 (g := (mkF m 65 #[.val (.int p0), .val (.int p1), .unset, .unset, .unset, .unset, .unset, .unset, .unset] [(.long (1000000000 : Int64)), (.int (9 : Int32)), (.ref b1), (.ref b1)])) rfl rfl (hb hby d2_65)
  have V11 : Arv Z h11 b1 kk1 .long (19 : Int32) [(.long (1 : Int64)), (.long (10 : Int64)), (.long (100 : Int64)), (.long (1000 : Int64)), (.long (10000 : Int64)), (.long (100000 : Int64)), (.long (1000000 : Int64)), (.long (10000000 : Int64)), (.long (100000000 : Int64)), (.long (1000000000 : Int64)), (.long (0 : Int64)), (.long (0 : Int64)), (.long (0 : Int64)), (.long (0 : Int64)), (.long (0 : Int64)), (.long (0 : Int64)), (.long (0 : Int64)), (.long (0 : Int64)), (.long (0 : Int64))] (.long (0 : Int64)) := Arv.set Ar11 qa11 qs11 qn11 qh11 qg11 rfl W11 9 rfl (Nat.le_of_ble_eq_true rfl)
  have N11 := Fr.snoc X11 N10 g_b1
  have Kp11 : Keep h0 h11 [] := Kp10.wr W11 (Or.inr sz_b1)
  refine .pre (fun _ k => st11 _ k) ?_
  show OwnEnds p e below _ (T11.setTop (mkF m 66 #[.val (.int p0), .val (.int p1), .unset, .unset, .unset, .unset, .unset, .unset, .unset] [(.ref b1)]))
  refine .pre (fun _ k => XS.dup X11.here hx rfl (hb hby d2_66) rfl rfl k) ?_
  show OwnEnds p e below _ (T11.setTop (mkF m 67 #[.val (.int p0), .val (.int p1), .unset, .unset, .unset, .unset, .unset, .unset, .unset] [(.ref b1), (.ref b1)]))
  refine .pre (fun _ k => XS.bipush X11.here hx rfl (hb hby d2_67) k) ?_
  show OwnEnds p e below _ (T11.setTop (mkF m 69 #[.val (.int p0), .val (.int p1), .unset, .unset, .unset, .unset, .unset, .unset, .unset] [(.int (10 : Int32)), (.ref b1), (.ref b1)]))
  refine .pre (fun _ k => X11.ldc2Long hx hown (mvT hZ (hw _ (List.mem_of_getElem? (i := 21) rfl))) (g := (mkF m 69 #[.val (.int p0), .val (.int p1), .unset, .unset, .unset, .unset, .unset, .unset, .unset] [(.int (10 : Int32)), (.ref b1), (.ref b1)])) rfl (hb hby d2_69) _ k) ?_
  show OwnEnds p e below _ (T11.setTop (mkF m 72 #[.val (.int p0), .val (.int p1), .unset, .unset, .unset, .unset, .unset, .unset, .unset] [(.long (10000000000 : Int64)), (.int (10 : Int32)), (.ref b1), (.ref b1)]))
  obtain ⟨cl12, Ar12, qa12, qs12, qn12, qh12, qg12⟩ := id V11
  have hin12 : ¬ ((10 : Int32) < 0 ∨ cl12.slots.size ≤ ((10 : Int32)).toNatClampNeg) := inb_of qs12 ⟨by decide, by decide⟩
  obtain ⟨T12, h12, X12, e12, W12, st12⟩ := stJ X11 hx hZ e11 Ar12 (j := (10 : Int32)) hin12 (g := (mkF m 72 #[.val (.int p0), .val (.int p1), .unset, .unset, .unset, .unset, .unset, .unset, .unset] [(.long (10000000000 : Int64)), (.int (10 : Int32)), (.ref b1), (.ref b1)])) rfl rfl (hb hby d2_72)
  have V12 : Arv Z h12 b1 kk1 .long (19 : Int32) [(.long (1 : Int64)), (.long (10 : Int64)), (.long (100 : Int64)), (.long (1000 : Int64)), (.long (10000 : Int64)), (.long (100000 : Int64)), (.long (1000000 : Int64)), (.long (10000000 : Int64)), (.long (100000000 : Int64)), (.long (1000000000 : Int64)), (.long (10000000000 : Int64)), (.long (0 : Int64)), (.long (0 : Int64)), (.long (0 : Int64)), (.long (0 : Int64)), (.long (0 : Int64)), (.long (0 : Int64)), (.long (0 : Int64)), (.long (0 : Int64))] (.long (0 : Int64)) := Arv.set Ar12 qa12 qs12 qn12 qh12 qg12 rfl W12 10 rfl (Nat.le_of_ble_eq_true rfl)
  have N12 := Fr.snoc X12 N11 g_b1
  have Kp12 : Keep h0 h12 [] := Kp11.wr W12 (Or.inr sz_b1)
  refine .pre (fun _ k => st12 _ k) ?_
  show OwnEnds p e below _ (T12.setTop (mkF m 73 #[.val (.int p0), .val (.int p1), .unset, .unset, .unset, .unset, .unset, .unset, .unset] [(.ref b1)]))
  refine .pre (fun _ k => XS.dup X12.here hx rfl (hb hby d2_73) rfl rfl k) ?_
  show OwnEnds p e below _ (T12.setTop (mkF m 74 #[.val (.int p0), .val (.int p1), .unset, .unset, .unset, .unset, .unset, .unset, .unset] [(.ref b1), (.ref b1)]))
  refine .pre (fun _ k => XS.bipush X12.here hx rfl (hb hby d2_74) k) ?_
  show OwnEnds p e below _ (T12.setTop (mkF m 76 #[.val (.int p0), .val (.int p1), .unset, .unset, .unset, .unset, .unset, .unset, .unset] [(.int (11 : Int32)), (.ref b1), (.ref b1)]))
  refine .pre (fun _ k => X12.ldc2Long hx hown (mvT hZ (hw _ (List.mem_of_getElem? (i := 22) rfl))) (g := (mkF m 76 #[.val (.int p0), .val (.int p1), .unset, .unset, .unset, .unset, .unset, .unset, .unset] [(.int (11 : Int32)), (.ref b1), (.ref b1)])) rfl (hb hby d2_76) _ k) ?_
  show OwnEnds p e below _ (T12.setTop (mkF m 79 #[.val (.int p0), .val (.int p1), .unset, .unset, .unset, .unset, .unset, .unset, .unset] [(.long (100000000000 : Int64)), (.int (11 : Int32)), (.ref b1), (.ref b1)]))
  obtain ⟨cl13, Ar13, qa13, qs13, qn13, qh13, qg13⟩ := id V12
  have hin13 : ¬ ((11 : Int32) < 0 ∨ cl13.slots.size ≤ ((11 : Int32)).toNatClampNeg) := inb_of qs13 ⟨by decide, by decide⟩
  obtain ⟨T13, h13, X13, e13, W13, st13⟩ := stJ X12 hx hZ e12 Ar13 (j := (11 : Int32)) hin13 (g := (mkF m 79 #[.val (.int p0), .val (.int p1), .unset, .unset, .unset, .unset, .unset, .unset, .unset] [(.long (100000000000 : Int64)), (.int (11 : Int32)), (.ref b1), (.ref b1)])) rfl rfl (hb hby d2_79)
  have V13 : Arv Z h13 b1 kk1 .long (19 : Int32) [(.long (1 : Int64)), (.long (10 : Int64)), (.long (100 : Int64)), (.long (1000 : Int64)), (.long (10000 : Int64)), (.long (100000 : Int64)), (.long (1000000 : Int64)), (.long (10000000 : Int64)), (.long (100000000 : Int64)), (.long (1000000000 : Int64)), (.long (10000000000 : Int64)), (.long (100000000000 : Int64)), (.long (0 : Int64)), (.long (0 : Int64)), (.long (0 : Int64)), (.long (0 : Int64)), (.long (0 : Int64)), (.long (0 : Int64)), (.long (0 : Int64))] (.long (0 : Int64)) := Arv.set Ar13 qa13 qs13 qn13 qh13 qg13 rfl W13 11 rfl (Nat.le_of_ble_eq_true rfl)
  have N13 := Fr.snoc X13 N12 g_b1
  have Kp13 : Keep h0 h13 [] := Kp12.wr W13 (Or.inr sz_b1)
  refine .pre (fun _ k => st13 _ k) ?_
  show OwnEnds p e below _ (T13.setTop (mkF m 80 #[.val (.int p0), .val (.int p1), .unset, .unset, .unset, .unset, .unset, .unset, .unset] [(.ref b1)]))
  refine .pre (fun _ k => XS.dup X13.here hx rfl (hb hby d2_80) rfl rfl k) ?_
  show OwnEnds p e below _ (T13.setTop (mkF m 81 #[.val (.int p0), .val (.int p1), .unset, .unset, .unset, .unset, .unset, .unset, .unset] [(.ref b1), (.ref b1)]))
  refine .pre (fun _ k => XS.bipush X13.here hx rfl (hb hby d2_81) k) ?_
  show OwnEnds p e below _ (T13.setTop (mkF m 83 #[.val (.int p0), .val (.int p1), .unset, .unset, .unset, .unset, .unset, .unset, .unset] [(.int (12 : Int32)), (.ref b1), (.ref b1)]))
  refine .pre (fun _ k => X13.ldc2Long hx hown (mvT hZ (hw _ (List.mem_of_getElem? (i := 23) rfl))) (g := (mkF m 83 #[.val (.int p0), .val (.int p1), .unset, .unset, .unset, .unset, .unset, .unset, .unset] [(.int (12 : Int32)), (.ref b1), (.ref b1)])) rfl (hb hby d2_83) _ k) ?_
  show OwnEnds p e below _ (T13.setTop (mkF m 86 #[.val (.int p0), .val (.int p1), .unset, .unset, .unset, .unset, .unset, .unset, .unset] [(.long (1000000000000 : Int64)), (.int (12 : Int32)), (.ref b1), (.ref b1)]))
  obtain ⟨cl14, Ar14, qa14, qs14, qn14, qh14, qg14⟩ := id V13
  have hin14 : ¬ ((12 : Int32) < 0 ∨ cl14.slots.size ≤ ((12 : Int32)).toNatClampNeg) := inb_of qs14 ⟨by decide, by decide⟩
  obtain ⟨T14, h14, X14, e14, W14, st14⟩ := stJ X13 hx hZ e13 Ar14 (j := (12 : Int32)) hin14 (g := (mkF m 86 #[.val (.int p0), .val (.int p1), .unset, .unset, .unset, .unset, .unset, .unset, .unset] [(.long (1000000000000 : Int64)), (.int (12 : Int32)), (.ref b1), (.ref b1)])) rfl rfl (hb hby d2_86)
  have V14 : Arv Z h14 b1 kk1 .long (19 : Int32) [(.long (1 : Int64)), (.long (10 : Int64)), (.long (100 : Int64)), (.long (1000 : Int64)), (.long (10000 : Int64)), (.long (100000 : Int64)), (.long (1000000 : Int64)), (.long (10000000 : Int64)), (.long (100000000 : Int64)), (.long (1000000000 : Int64)), (.long (10000000000 : Int64)), (.long (100000000000 : Int64)), (.long (1000000000000 : Int64)), (.long (0 : Int64)), (.long (0 : Int64)), (.long (0 : Int64)), (.long (0 : Int64)), (.long (0 : Int64)), (.long (0 : Int64))] (.long (0 : Int64)) := Arv.set Ar14 qa14 qs14 qn14 qh14 qg14 rfl W14 12 rfl (Nat.le_of_ble_eq_true rfl)
  have N14 := Fr.snoc X14 N13 g_b1
  have Kp14 : Keep h0 h14 [] := Kp13.wr W14 (Or.inr sz_b1)
  refine .pre (fun _ k => st14 _ k) ?_
  show OwnEnds p e below _ (T14.setTop (mkF m 87 #[.val (.int p0), .val (.int p1), .unset, .unset, .unset, .unset, .unset, .unset, .unset] [(.ref b1)]))
  refine .pre (fun _ k => XS.dup X14.here hx rfl (hb hby d2_87) rfl rfl k) ?_
  show OwnEnds p e below _ (T14.setTop (mkF m 88 #[.val (.int p0), .val (.int p1), .unset, .unset, .unset, .unset, .unset, .unset, .unset] [(.ref b1), (.ref b1)]))
  refine .pre (fun _ k => XS.bipush X14.here hx rfl (hb hby d2_88) k) ?_
  show OwnEnds p e below _ (T14.setTop (mkF m 90 #[.val (.int p0), .val (.int p1), .unset, .unset, .unset, .unset, .unset, .unset, .unset] [(.int (13 : Int32)), (.ref b1), (.ref b1)]))
  refine .pre (fun _ k => X14.ldc2Long hx hown (mvT hZ (hw _ (List.mem_of_getElem? (i := 24) rfl))) (g := (mkF m 90 #[.val (.int p0), .val (.int p1), .unset, .unset, .unset, .unset, .unset, .unset, .unset] [(.int (13 : Int32)), (.ref b1), (.ref b1)])) rfl (hb hby d2_90) _ k) ?_
  show OwnEnds p e below _ (T14.setTop (mkF m 93 #[.val (.int p0), .val (.int p1), .unset, .unset, .unset, .unset, .unset, .unset, .unset] [(.long (10000000000000 : Int64)), (.int (13 : Int32)), (.ref b1), (.ref b1)]))
  obtain ⟨cl15, Ar15, qa15, qs15, qn15, qh15, qg15⟩ := id V14
  have hin15 : ¬ ((13 : Int32) < 0 ∨ cl15.slots.size ≤ ((13 : Int32)).toNatClampNeg) := inb_of qs15 ⟨by decide, by decide⟩
  obtain ⟨T15, h15, X15, e15, W15, st15⟩ := stJ X14 hx hZ e14 Ar15 (j := (13 : Int32)) hin15 (g := (mkF m 93 #[.val (.int p0), .val (.int p1), .unset, .unset, .unset, .unset, .unset, .unset, .unset] [(.long (10000000000000 : Int64)), (.int (13 : Int32)), (.ref b1), (.ref b1)])) rfl rfl (hb hby d2_93)
  have V15 : Arv Z h15 b1 kk1 .long (19 : Int32) [(.long (1 : Int64)), (.long (10 : Int64)), (.long (100 : Int64)), (.long (1000 : Int64)), (.long (10000 : Int64)), (.long (100000 : Int64)), (.long (1000000 : Int64)), (.long (10000000 : Int64)), (.long (100000000 : Int64)), (.long (1000000000 : Int64)), (.long (10000000000 : Int64)), (.long (100000000000 : Int64)), (.long (1000000000000 : Int64)), (.long (10000000000000 : Int64)), (.long (0 : Int64)), (.long (0 : Int64)), (.long (0 : Int64)), (.long (0 : Int64)), (.long (0 : Int64))] (.long (0 : Int64)) := Arv.set Ar15 qa15 qs15 qn15 qh15 qg15 rfl W15 13 rfl (Nat.le_of_ble_eq_true rfl)
  have N15 := Fr.snoc X15 N14 g_b1
  have Kp15 : Keep h0 h15 [] := Kp14.wr W15 (Or.inr sz_b1)
  refine .pre (fun _ k => st15 _ k) ?_
  show OwnEnds p e below _ (T15.setTop (mkF m 94 #[.val (.int p0), .val (.int p1), .unset, .unset, .unset, .unset, .unset, .unset, .unset] [(.ref b1)]))
  refine .pre (fun _ k => XS.dup X15.here hx rfl (hb hby d2_94) rfl rfl k) ?_
  show OwnEnds p e below _ (T15.setTop (mkF m 95 #[.val (.int p0), .val (.int p1), .unset, .unset, .unset, .unset, .unset, .unset, .unset] [(.ref b1), (.ref b1)]))
  refine .pre (fun _ k => XS.bipush X15.here hx rfl (hb hby d2_95) k) ?_
  show OwnEnds p e below _ (T15.setTop (mkF m 97 #[.val (.int p0), .val (.int p1), .unset, .unset, .unset, .unset, .unset, .unset, .unset] [(.int (14 : Int32)), (.ref b1), (.ref b1)]))
  refine .pre (fun _ k => X15.ldc2Long hx hown (mvT hZ (hw _ (List.mem_of_getElem? (i := 25) rfl))) (g := (mkF m 97 #[.val (.int p0), .val (.int p1), .unset, .unset, .unset, .unset, .unset, .unset, .unset] [(.int (14 : Int32)), (.ref b1), (.ref b1)])) rfl (hb hby d2_97) _ k) ?_
  show OwnEnds p e below _ (T15.setTop (mkF m 100 #[.val (.int p0), .val (.int p1), .unset, .unset, .unset, .unset, .unset, .unset, .unset] [(.long (100000000000000 : Int64)), (.int (14 : Int32)), (.ref b1), (.ref b1)]))
  obtain ⟨cl16, Ar16, qa16, qs16, qn16, qh16, qg16⟩ := id V15
  have hin16 : ¬ ((14 : Int32) < 0 ∨ cl16.slots.size ≤ ((14 : Int32)).toNatClampNeg) := inb_of qs16 ⟨by decide, by decide⟩
  obtain ⟨T16, h16, X16, e16, W16, st16⟩ := stJ X15 hx hZ e15 Ar16 (j := (14 : Int32)) hin16 (g := (mkF m 100 #[.val (.int p0), .val (.int p1), .unset, .unset, .unset, .unset, .unset, .unset, .unset] [(.long (100000000000000 : Int64)), (.int (14 : Int32)), (.ref b1), (.ref b1)])) rfl rfl (hb hby d2_100)
  have V16 : Arv Z h16 b1 kk1 .long (19 : Int32) [(.long (1 : Int64)), (.long (10 : Int64)), (.long (100 : Int64)), (.long (1000 : Int64)), (.long (10000 : Int64)), (.long (100000 : Int64)), (.long (1000000 : Int64)), (.long (10000000 : Int64)), (.long (100000000 : Int64)), (.long (1000000000 : Int64)), (.long (10000000000 : Int64)), (.long (100000000000 : Int64)), (.long (1000000000000 : Int64)), (.long (10000000000000 : Int64)), (.long (100000000000000 : Int64)), (.long (0 : Int64)), (.long (0 : Int64)), (.long (0 : Int64)), (.long (0 : Int64))] (.long (0 : Int64)) := Arv.set Ar16 qa16 qs16 qn16 qh16 qg16 rfl W16 14 rfl (Nat.le_of_ble_eq_true rfl)
  have N16 := Fr.snoc X16 N15 g_b1
  have Kp16 : Keep h0 h16 [] := Kp15.wr W16 (Or.inr sz_b1)
  refine .pre (fun _ k => st16 _ k) ?_
  show OwnEnds p e below _ (T16.setTop (mkF m 101 #[.val (.int p0), .val (.int p1), .unset, .unset, .unset, .unset, .unset, .unset, .unset] [(.ref b1)]))
  refine .pre (fun _ k => XS.dup X16.here hx rfl (hb hby d2_101) rfl rfl k) ?_
  show OwnEnds p e below _ (T16.setTop (mkF m 102 #[.val (.int p0), .val (.int p1), .unset, .unset, .unset, .unset, .unset, .unset, .unset] [(.ref b1), (.ref b1)]))
  refine .pre (fun _ k => XS.bipush X16.here hx rfl (hb hby d2_102) k) ?_
  show OwnEnds p e below _ (T16.setTop (mkF m 104 #[.val (.int p0), .val (.int p1), .unset, .unset, .unset, .unset, .unset, .unset, .unset] [(.int (15 : Int32)), (.ref b1), (.ref b1)]))
  refine .pre (fun _ k => X16.ldc2Long hx hown (mvT hZ (hw _ (List.mem_of_getElem? (i := 26) rfl))) (g := (mkF m 104 #[.val (.int p0), .val (.int p1), .unset, .unset, .unset, .unset, .unset, .unset, .unset] [(.int (15 : Int32)), (.ref b1), (.ref b1)])) rfl (hb hby d2_104) _ k) ?_
  show OwnEnds p e below _ (T16.setTop (mkF m 107 #[.val (.int p0), .val (.int p1), .unset, .unset, .unset, .unset, .unset, .unset, .unset] [(.long (1000000000000000 : Int64)), (.int (15 : Int32)), (.ref b1), (.ref b1)]))
  obtain ⟨cl17, Ar17, qa17, qs17, qn17, qh17, qg17⟩ := id V16
  have hin17 : ¬ ((15 : Int32) < 0 ∨ cl17.slots.size ≤ ((15 : Int32)).toNatClampNeg) := inb_of qs17 ⟨by decide, by decide⟩
  obtain ⟨T17, h17, X17, e17, W17, st17⟩ := stJ X16 hx hZ e16 Ar17 (j := (15 : Int32)) hin17 (g := (mkF m 107 #[.val (.int p0), .val (.int p1), .unset, .unset, .unset, .unset, .unset, .unset, .unset] [(.long (1000000000000000 : Int64)), (.int (15 : Int32)), (.ref b1), (.ref b1)])) rfl rfl (hb hby d2_107)
  have V17 : Arv Z h17 b1 kk1 .long (19 : Int32) [(.long (1 : Int64)), (.long (10 : Int64)), (.long (100 : Int64)), (.long (1000 : Int64)), (.long (10000 : Int64)), (.long (100000 : Int64)), (.long (1000000 : Int64)), (.long (10000000 : Int64)), (.long (100000000 : Int64)), (.long (1000000000 : Int64)), (.long (10000000000 : Int64)), (.long (100000000000 : Int64)), (.long (1000000000000 : Int64)), (.long (10000000000000 : Int64)), (.long (100000000000000 : Int64)), (.long (1000000000000000 : Int64)), (.long (0 : Int64)), (.long (0 : Int64)), (.long (0 : Int64))] (.long (0 : Int64)) := Arv.set Ar17 qa17 qs17 qn17 qh17 qg17 rfl W17 15 rfl (Nat.le_of_ble_eq_true rfl)
  have N17 := Fr.snoc X17 N16 g_b1
  have Kp17 : Keep h0 h17 [] := Kp16.wr W17 (Or.inr sz_b1)
  refine .pre (fun _ k => st17 _ k) ?_
  show OwnEnds p e below _ (T17.setTop (mkF m 108 #[.val (.int p0), .val (.int p1), .unset, .unset, .unset, .unset, .unset, .unset, .unset] [(.ref b1)]))
  refine .pre (fun _ k => XS.dup X17.here hx rfl (hb hby d2_108) rfl rfl k) ?_
  show OwnEnds p e below _ (T17.setTop (mkF m 109 #[.val (.int p0), .val (.int p1), .unset, .unset, .unset, .unset, .unset, .unset, .unset] [(.ref b1), (.ref b1)]))
  refine .pre (fun _ k => XS.bipush X17.here hx rfl (hb hby d2_109) k) ?_
  show OwnEnds p e below _ (T17.setTop (mkF m 111 #[.val (.int p0), .val (.int p1), .unset, .unset, .unset, .unset, .unset, .unset, .unset] [(.int (16 : Int32)), (.ref b1), (.ref b1)]))
  refine .pre (fun _ k => X17.ldc2Long hx hown (mvT hZ (hw _ (List.mem_of_getElem? (i := 27) rfl))) (g := (mkF m 111 #[.val (.int p0), .val (.int p1), .unset, .unset, .unset, .unset, .unset, .unset, .unset] [(.int (16 : Int32)), (.ref b1), (.ref b1)])) rfl (hb hby d2_111) _ k) ?_
  show OwnEnds p e below _ (T17.setTop (mkF m 114 #[.val (.int p0), .val (.int p1), .unset, .unset, .unset, .unset, .unset, .unset, .unset] [(.long (10000000000000000 : Int64)), (.int (16 : Int32)), (.ref b1), (.ref b1)]))
  obtain ⟨cl18, Ar18, qa18, qs18, qn18, qh18, qg18⟩ := id V17
  have hin18 : ¬ ((16 : Int32) < 0 ∨ cl18.slots.size ≤ ((16 : Int32)).toNatClampNeg) := inb_of qs18 ⟨by decide, by decide⟩
  obtain ⟨T18, h18, X18, e18, W18, st18⟩ := stJ X17 hx hZ e17 Ar18 (j := (16 : Int32)) hin18 (g := (mkF m 114 #[.val (.int p0), .val (.int p1), .unset, .unset, .unset, .unset, .unset, .unset, .unset] [(.long (10000000000000000 : Int64)), (.int (16 : Int32)), (.ref b1), (.ref b1)])) rfl rfl (hb hby d2_114)
  have V18 : Arv Z h18 b1 kk1 .long (19 : Int32) [(.long (1 : Int64)), (.long (10 : Int64)), (.long (100 : Int64)), (.long (1000 : Int64)), (.long (10000 : Int64)), (.long (100000 : Int64)), (.long (1000000 : Int64)), (.long (10000000 : Int64)), (.long (100000000 : Int64)), (.long (1000000000 : Int64)), (.long (10000000000 : Int64)), (.long (100000000000 : Int64)), (.long (1000000000000 : Int64)), (.long (10000000000000 : Int64)), (.long (100000000000000 : Int64)), (.long (1000000000000000 : Int64)), (.long (10000000000000000 : Int64)), (.long (0 : Int64)), (.long (0 : Int64))] (.long (0 : Int64)) := Arv.set Ar18 qa18 qs18 qn18 qh18 qg18 rfl W18 16 rfl (Nat.le_of_ble_eq_true rfl)
  have N18 := Fr.snoc X18 N17 g_b1
  have Kp18 : Keep h0 h18 [] := Kp17.wr W18 (Or.inr sz_b1)
  refine .pre (fun _ k => st18 _ k) ?_
  show OwnEnds p e below _ (T18.setTop (mkF m 115 #[.val (.int p0), .val (.int p1), .unset, .unset, .unset, .unset, .unset, .unset, .unset] [(.ref b1)]))
  refine .pre (fun _ k => XS.dup X18.here hx rfl (hb hby d2_115) rfl rfl k) ?_
  show OwnEnds p e below _ (T18.setTop (mkF m 116 #[.val (.int p0), .val (.int p1), .unset, .unset, .unset, .unset, .unset, .unset, .unset] [(.ref b1), (.ref b1)]))
  refine .pre (fun _ k => XS.bipush X18.here hx rfl (hb hby d2_116) k) ?_
  show OwnEnds p e below _ (T18.setTop (mkF m 118 #[.val (.int p0), .val (.int p1), .unset, .unset, .unset, .unset, .unset, .unset, .unset] [(.int (17 : Int32)), (.ref b1), (.ref b1)]))
  refine .pre (fun _ k => X18.ldc2Long hx hown (mvT hZ (hw _ (List.mem_of_getElem? (i := 28) rfl))) (g := (mkF m 118 #[.val (.int p0), .val (.int p1), .unset, .unset, .unset, .unset, .unset, .unset, .unset] [(.int (17 : Int32)), (.ref b1), (.ref b1)])) rfl (hb hby d2_118) _ k) ?_
  show OwnEnds p e below _ (T18.setTop (mkF m 121 #[.val (.int p0), .val (.int p1), .unset, .unset, .unset, .unset, .unset, .unset, .unset] [(.long (100000000000000000 : Int64)), (.int (17 : Int32)), (.ref b1), (.ref b1)]))
  obtain ⟨cl19, Ar19, qa19, qs19, qn19, qh19, qg19⟩ := id V18
  have hin19 : ¬ ((17 : Int32) < 0 ∨ cl19.slots.size ≤ ((17 : Int32)).toNatClampNeg) := inb_of qs19 ⟨by decide, by decide⟩
  obtain ⟨T19, h19, X19, e19, W19, st19⟩ := stJ X18 hx hZ e18 Ar19 (j := (17 : Int32)) hin19 (g := (mkF m 121 #[.val (.int p0), .val (.int p1), .unset, .unset, .unset, .unset, .unset, .unset, .unset] [(.long (100000000000000000 : Int64)), (.int (17 : Int32)), (.ref b1), (.ref b1)])) rfl rfl (hb hby d2_121)
  have V19 : Arv Z h19 b1 kk1 .long (19 : Int32) [(.long (1 : Int64)), (.long (10 : Int64)), (.long (100 : Int64)), (.long (1000 : Int64)), (.long (10000 : Int64)), (.long (100000 : Int64)), (.long (1000000 : Int64)), (.long (10000000 : Int64)), (.long (100000000 : Int64)), (.long (1000000000 : Int64)), (.long (10000000000 : Int64)), (.long (100000000000 : Int64)), (.long (1000000000000 : Int64)), (.long (10000000000000 : Int64)), (.long (100000000000000 : Int64)), (.long (1000000000000000 : Int64)), (.long (10000000000000000 : Int64)), (.long (100000000000000000 : Int64)), (.long (0 : Int64))] (.long (0 : Int64)) := Arv.set Ar19 qa19 qs19 qn19 qh19 qg19 rfl W19 17 rfl (Nat.le_of_ble_eq_true rfl)
  have N19 := Fr.snoc X19 N18 g_b1
  have Kp19 : Keep h0 h19 [] := Kp18.wr W19 (Or.inr sz_b1)
  refine .pre (fun _ k => st19 _ k) ?_
  show OwnEnds p e below _ (T19.setTop (mkF m 122 #[.val (.int p0), .val (.int p1), .unset, .unset, .unset, .unset, .unset, .unset, .unset] [(.ref b1)]))
  refine .pre (fun _ k => XS.dup X19.here hx rfl (hb hby d2_122) rfl rfl k) ?_
  show OwnEnds p e below _ (T19.setTop (mkF m 123 #[.val (.int p0), .val (.int p1), .unset, .unset, .unset, .unset, .unset, .unset, .unset] [(.ref b1), (.ref b1)]))
  refine .pre (fun _ k => XS.bipush X19.here hx rfl (hb hby d2_123) k) ?_
  show OwnEnds p e below _ (T19.setTop (mkF m 125 #[.val (.int p0), .val (.int p1), .unset, .unset, .unset, .unset, .unset, .unset, .unset] [(.int (18 : Int32)), (.ref b1), (.ref b1)]))
  refine .pre (fun _ k => X19.ldc2Long hx hown (mvT hZ (hw _ (List.mem_of_getElem? (i := 29) rfl))) (g := (mkF m 125 #[.val (.int p0), .val (.int p1), .unset, .unset, .unset, .unset, .unset, .unset, .unset] [(.int (18 : Int32)), (.ref b1), (.ref b1)])) rfl (hb hby d2_125) _ k) ?_
  show OwnEnds p e below _ (T19.setTop (mkF m 128 #[.val (.int p0), .val (.int p1), .unset, .unset, .unset, .unset, .unset, .unset, .unset] [(.long (1000000000000000000 : Int64)), (.int (18 : Int32)), (.ref b1), (.ref b1)]))
  obtain ⟨cl20, Ar20, qa20, qs20, qn20, qh20, qg20⟩ := id V19
  have hin20 : ¬ ((18 : Int32) < 0 ∨ cl20.slots.size ≤ ((18 : Int32)).toNatClampNeg) := inb_of qs20 ⟨by decide, by decide⟩
  obtain ⟨T20, h20, X20, e20, W20, st20⟩ := stJ X19 hx hZ e19 Ar20 (j := (18 : Int32)) hin20 (g := (mkF m 128 #[.val (.int p0), .val (.int p1), .unset, .unset, .unset, .unset, .unset, .unset, .unset] [(.long (1000000000000000000 : Int64)), (.int (18 : Int32)), (.ref b1), (.ref b1)])) rfl rfl (hb hby d2_128)
  have V20 : Arv Z h20 b1 kk1 .long (19 : Int32) [(.long (1 : Int64)), (.long (10 : Int64)), (.long (100 : Int64)), (.long (1000 : Int64)), (.long (10000 : Int64)), (.long (100000 : Int64)), (.long (1000000 : Int64)), (.long (10000000 : Int64)), (.long (100000000 : Int64)), (.long (1000000000 : Int64)), (.long (10000000000 : Int64)), (.long (100000000000 : Int64)), (.long (1000000000000 : Int64)), (.long (10000000000000 : Int64)), (.long (100000000000000 : Int64)), (.long (1000000000000000 : Int64)), (.long (10000000000000000 : Int64)), (.long (100000000000000000 : Int64)), (.long (1000000000000000000 : Int64))] (.long (0 : Int64)) := Arv.set Ar20 qa20 qs20 qn20 qh20 qg20 rfl W20 18 rfl (Nat.le_of_ble_eq_true rfl)
  have N20 := Fr.snoc X20 N19 g_b1
  have Kp20 : Keep h0 h20 [] := Kp19.wr W20 (Or.inr sz_b1)
  refine .pre (fun _ k => st20 _ k) ?_
  show OwnEnds p e below _ (T20.setTop (mkF m 129 #[.val (.int p0), .val (.int p1), .unset, .unset, .unset, .unset, .unset, .unset, .unset] [(.ref b1)]))
  refine .pre (fun _ k => XS.astoreN X20.here hx rfl (hb hby d2_129) rfl rfl (l' := #[.val (.int p0), .val (.int p1), .val (.ref b1), .unset, .unset, .unset, .unset, .unset, .unset]) rfl k) ?_
  have B130 : ∀ (T : State) (L : List Loc) (k n : Nat) (X : Stand p l e ({ frames := 0, cells := 1, slots := 19, locals := 0 } : Room) s m #[(.int p0), (.int p1)] below meth c T L k n) (eT : T.heap = h20) (N : Fr n0 L) (hk : k ≤ 1) (hn : n ≤ 19) (i0 : Int32) (i1 : Int32), f2_130 i0 i1 = f2_130 p0 p1 → OwnEnds p e below (OwnQ s (Q2 Z p0 p1 h0 n0) 1 19) (T.setTop (mkF m 130 #[.val (.int i0), .val (.int i1), .val (.ref b1), .unset, .unset, .unset, .unset, .unset, .unset] [])) := by
    intro T L k n X eT N hk hn i0 i1 hF
    change (if i0 < (2 : Int32) then (if (-i1) < (0 : Int32) then (0 : Int32) else (if (18 : Int32) < (-i1) then (0 : Int32) else (if (0 : Int32) < (lcmpW ((1 : Int64) <<< (((2 : Int32) - i0) &&& 0x3f).toInt64) ((3 : Int64) * (own_pow (-i1)))) then (0 : Int32) else (if (lcmpW ((3 : Int64) * (own_pow (-i1))) ((10 : Int64) * ((1 : Int64) <<< (((2 : Int32) - i0) &&& 0x3f).toInt64))) < (0 : Int32) then (1 : Int32) else (0 : Int32))))) else (if i1 < (0 : Int32) then (0 : Int32) else (if (18 : Int32) < i1 then (0 : Int32) else (if (0 : Int32) < (lcmpW (own_pow i1) ((3 : Int64) <<< ((i0 - (2 : Int32)) &&& 0x3f).toInt64)) then (0 : Int32) else (if (lcmpW (((3 : Int64) <<< ((i0 - (2 : Int32)) &&& 0x3f).toInt64) / (10 : Int64)) (own_pow i1)) < (0 : Int32) then (1 : Int32) else (0 : Int32)))))) = _ at hF
    show OwnEnds p e below _ (T.setTop (mkF m 130 #[.val (.int i0), .val (.int i1), .val (.ref b1), .unset, .unset, .unset, .unset, .unset, .unset] []))
    refine .pre (fun _ k => XS.iloadN X.here hx rfl (hb hby d2_130) rfl k) ?_
    show OwnEnds p e below _ (T.setTop (mkF m 131 #[.val (.int i0), .val (.int i1), .val (.ref b1), .unset, .unset, .unset, .unset, .unset, .unset] [(.int i0)]))
    refine .pre (fun _ k => XS.iconst X.here hx rfl (hb hby d2_131) k) ?_
    show OwnEnds p e below _ (T.setTop (mkF m 132 #[.val (.int i0), .val (.int i1), .val (.ref b1), .unset, .unset, .unset, .unset, .unset, .unset] [(.int (2 : Int32)), (.int i0)]))
    by_cases hc132 : i0 < (2 : Int32)
    · rw [if_pos hc132] at hF
      refine .pre (fun _ k => XS.icmpYes X.here hx rfl (pc0 := 132) (pc' := 181) rfl (hb hby d2_132) rfl (tlt hc132).1 (by decide) (by decide) k) ?_
      show OwnEnds p e below _ (T.setTop (mkF m 181 #[.val (.int i0), .val (.int i1), .val (.ref b1), .unset, .unset, .unset, .unset, .unset, .unset] []))
      refine .pre (fun _ k => XS.iconst X.here hx rfl (hb hby d2_181) k) ?_
      show OwnEnds p e below _ (T.setTop (mkF m 182 #[.val (.int i0), .val (.int i1), .val (.ref b1), .unset, .unset, .unset, .unset, .unset, .unset] [(.int (2 : Int32))]))
      refine .pre (fun _ k => XS.iloadN X.here hx rfl (hb hby d2_182) rfl k) ?_
      show OwnEnds p e below _ (T.setTop (mkF m 183 #[.val (.int i0), .val (.int i1), .val (.ref b1), .unset, .unset, .unset, .unset, .unset, .unset] [(.int i0), (.int (2 : Int32))]))
      refine .pre (fun _ k => XS.isub X.here hx rfl (hb hby d2_183) rfl k) ?_
      show OwnEnds p e below _ (T.setTop (mkF m 184 #[.val (.int i0), .val (.int i1), .val (.ref b1), .unset, .unset, .unset, .unset, .unset, .unset] [(.int ((2 : Int32) - i0))]))
      refine .pre (fun _ k => XS.istoreN X.here hx rfl (hb hby d2_184) rfl (l' := #[.val (.int i0), .val (.int i1), .val (.ref b1), .val (.int ((2 : Int32) - i0)), .unset, .unset, .unset, .unset, .unset]) rfl k) ?_
      show OwnEnds p e below _ (T.setTop (mkF m 185 #[.val (.int i0), .val (.int i1), .val (.ref b1), .val (.int ((2 : Int32) - i0)), .unset, .unset, .unset, .unset, .unset] []))
      refine .pre (fun _ k => XS.iloadN X.here hx rfl (hb hby d2_185) rfl k) ?_
      show OwnEnds p e below _ (T.setTop (mkF m 186 #[.val (.int i0), .val (.int i1), .val (.ref b1), .val (.int ((2 : Int32) - i0)), .unset, .unset, .unset, .unset, .unset] [(.int i1)]))
      refine .pre (fun _ k => XS.ineg X.here hx rfl (hb hby d2_186) rfl k) ?_
      show OwnEnds p e below _ (T.setTop (mkF m 187 #[.val (.int i0), .val (.int i1), .val (.ref b1), .val (.int ((2 : Int32) - i0)), .unset, .unset, .unset, .unset, .unset] [(.int (-i1))]))
      refine .pre (fun _ k => XS.istore X.here hx rfl (hb hby d2_187) rfl (l' := #[.val (.int i0), .val (.int i1), .val (.ref b1), .val (.int ((2 : Int32) - i0)), .val (.int (-i1)), .unset, .unset, .unset, .unset]) rfl k) ?_
      show OwnEnds p e below _ (T.setTop (mkF m 189 #[.val (.int i0), .val (.int i1), .val (.ref b1), .val (.int ((2 : Int32) - i0)), .val (.int (-i1)), .unset, .unset, .unset, .unset] []))
      refine .pre (fun _ k => XS.iload X.here hx rfl (hb hby d2_189) rfl k) ?_
      show OwnEnds p e below _ (T.setTop (mkF m 191 #[.val (.int i0), .val (.int i1), .val (.ref b1), .val (.int ((2 : Int32) - i0)), .val (.int (-i1)), .unset, .unset, .unset, .unset] [(.int (-i1))]))
      by_cases hc191 : (-i1) < (0 : Int32)
      · rw [if_pos hc191] at hF
        refine .pre (fun _ k => XS.ifYes X.here hx rfl (pc0 := 191) (pc' := 201) rfl (hb hby d2_191) rfl ((if0 _ _).trans (tlt hc191).1) (by decide) (by decide) k) ?_
        show OwnEnds p e below _ (T.setTop (mkF m 201 #[.val (.int i0), .val (.int i1), .val (.ref b1), .val (.int ((2 : Int32) - i0)), .val (.int (-i1)), .unset, .unset, .unset, .unset] []))
        refine .pre (fun _ k => XS.iconst X.here hx rfl (hb hby d2_201) k) ?_
        show OwnEnds p e below _ (T.setTop (mkF m 202 #[.val (.int i0), .val (.int i1), .val (.ref b1), .val (.int ((2 : Int32) - i0)), .val (.int (-i1)), .unset, .unset, .unset, .unset] [(.int (0 : Int32))]))
        exact own_endN X hx hlk (t := .boolean) Bd.returns (by simp) (hb hby d2_202) rfl hk hn ⟨congrArg (fun z => some (Value.int z)) hF, N, (by rw [eT]; exact Kp20)⟩
      · rw [if_neg hc191] at hF
        refine .pre (fun _ k => XS.ifNo X.here hx rfl (hb hby d2_191) rfl ((if0 _ _).trans (flt hc191).1) k) ?_
        show OwnEnds p e below _ (T.setTop (mkF m 194 #[.val (.int i0), .val (.int i1), .val (.ref b1), .val (.int ((2 : Int32) - i0)), .val (.int (-i1)), .unset, .unset, .unset, .unset] []))
        refine .pre (fun _ k => XS.iload X.here hx rfl (hb hby d2_194) rfl k) ?_
        show OwnEnds p e below _ (T.setTop (mkF m 196 #[.val (.int i0), .val (.int i1), .val (.ref b1), .val (.int ((2 : Int32) - i0)), .val (.int (-i1)), .unset, .unset, .unset, .unset] [(.int (-i1))]))
        refine .pre (fun _ k => XS.bipush X.here hx rfl (hb hby d2_196) k) ?_
        show OwnEnds p e below _ (T.setTop (mkF m 198 #[.val (.int i0), .val (.int i1), .val (.ref b1), .val (.int ((2 : Int32) - i0)), .val (.int (-i1)), .unset, .unset, .unset, .unset] [(.int (18 : Int32)), (.int (-i1))]))
        by_cases hc198 : (18 : Int32) < (-i1)
        · rw [if_pos hc198] at hF
          refine .pre (fun _ k => XS.icmpNo X.here hx rfl (hb hby d2_198) rfl (tlt hc198).2.2.2 k) ?_
          show OwnEnds p e below _ (T.setTop (mkF m 201 #[.val (.int i0), .val (.int i1), .val (.ref b1), .val (.int ((2 : Int32) - i0)), .val (.int (-i1)), .unset, .unset, .unset, .unset] []))
          refine .pre (fun _ k => XS.iconst X.here hx rfl (hb hby d2_201) k) ?_
          show OwnEnds p e below _ (T.setTop (mkF m 202 #[.val (.int i0), .val (.int i1), .val (.ref b1), .val (.int ((2 : Int32) - i0)), .val (.int (-i1)), .unset, .unset, .unset, .unset] [(.int (0 : Int32))]))
          exact own_endN X hx hlk (t := .boolean) Bd.returns (by simp) (hb hby d2_202) rfl hk hn ⟨congrArg (fun z => some (Value.int z)) hF, N, (by rw [eT]; exact Kp20)⟩
        · rw [if_neg hc198] at hF
          refine .pre (fun _ k => XS.icmpYes X.here hx rfl (pc0 := 198) (pc' := 203) rfl (hb hby d2_198) rfl (flt hc198).2.2.2 (by decide) (by decide) k) ?_
          show OwnEnds p e below _ (T.setTop (mkF m 203 #[.val (.int i0), .val (.int i1), .val (.ref b1), .val (.int ((2 : Int32) - i0)), .val (.int (-i1)), .unset, .unset, .unset, .unset] []))
          refine .pre (fun _ k => X.ldc2Long hx hown (mvT hZ (hw _ (List.mem_of_getElem? (i := 30) rfl))) (g := (mkF m 203 #[.val (.int i0), .val (.int i1), .val (.ref b1), .val (.int ((2 : Int32) - i0)), .val (.int (-i1)), .unset, .unset, .unset, .unset] [])) rfl (hb hby d2_203) _ k) ?_
          show OwnEnds p e below _ (T.setTop (mkF m 206 #[.val (.int i0), .val (.int i1), .val (.ref b1), .val (.int ((2 : Int32) - i0)), .val (.int (-i1)), .unset, .unset, .unset, .unset] [(.long (3 : Int64))]))
          refine .pre (fun _ k => XS.aloadN X.here hx rfl (hb hby d2_206) rfl rfl k) ?_
          show OwnEnds p e below _ (T.setTop (mkF m 207 #[.val (.int i0), .val (.int i1), .val (.ref b1), .val (.int ((2 : Int32) - i0)), .val (.int (-i1)), .unset, .unset, .unset, .unset] [(.ref b1), (.long (3 : Int64))]))
          refine .pre (fun _ k => XS.iload X.here hx rfl (hb hby d2_207) rfl k) ?_
          show OwnEnds p e below _ (T.setTop (mkF m 209 #[.val (.int i0), .val (.int i1), .val (.ref b1), .val (.int ((2 : Int32) - i0)), .val (.int (-i1)), .unset, .unset, .unset, .unset] [(.int (-i1)), (.ref b1), (.long (3 : Int64))]))
          obtain ⟨cl24, Ar24, qa24, qs24, qn24, qh24, qg24⟩ := id V20
          have hj24 : ¬ ((-i1) < 0) ∧ (-i1) < (19 : Int32) := ⟨hc191, own_le18 hc198⟩
          have hin24 : ¬ ((-i1) < 0 ∨ cl24.slots.size ≤ ((-i1)).toNatClampNeg) := inb_of qs24 hj24
          have hat24 : cl24.slots[((-i1)).toNatClampNeg]? = some (.long (own_pow (-i1))) := (qh24 _ (Nat.lt_of_not_le fun y => hin24 (Or.inr y))).trans (congrArg some (own_getJ [1, 10, 100, 1000, 10000, 100000, 1000000, 10000000, 100000000, 1000000000, 10000000000, 100000000000, 1000000000000, 10000000000000, 100000000000000, 1000000000000000, 10000000000000000, 100000000000000000, 1000000000000000000] _))
          refine .pre (fun _ k => X.laload hx (j := (-i1)) (v := (.long (own_pow (-i1)))) (by rw [eT]; exact Ar24.1) (State.isArrayOf_alike hZ.alike Ar24.2.1) Ar24.2.2 hin24 hat24 (g := (mkF m 209 #[.val (.int i0), .val (.int i1), .val (.ref b1), .val (.int ((2 : Int32) - i0)), .val (.int (-i1)), .unset, .unset, .unset, .unset] [(.int (-i1)), (.ref b1), (.long (3 : Int64))])) rfl rfl (hb hby d2_209) _ k) ?_
          show OwnEnds p e below _ (T.setTop (mkF m 210 #[.val (.int i0), .val (.int i1), .val (.ref b1), .val (.int ((2 : Int32) - i0)), .val (.int (-i1)), .unset, .unset, .unset, .unset] [(.long (own_pow (-i1))), (.long (3 : Int64))]))
          refine .pre (fun _ k => XS.lmul X.here hx rfl (hb hby d2_210) rfl k) ?_
          show OwnEnds p e below _ (T.setTop (mkF m 211 #[.val (.int i0), .val (.int i1), .val (.ref b1), .val (.int ((2 : Int32) - i0)), .val (.int (-i1)), .unset, .unset, .unset, .unset] [(.long ((3 : Int64) * (own_pow (-i1))))]))
          refine .pre (fun _ k => XS.lstore X.here hx rfl (hb hby d2_211) rfl (l' := #[.val (.int i0), .val (.int i1), .val (.ref b1), .val (.int ((2 : Int32) - i0)), .val (.int (-i1)), .val (.long ((3 : Int64) * (own_pow (-i1)))), .second, .unset, .unset]) rfl k) ?_
          show OwnEnds p e below _ (T.setTop (mkF m 213 #[.val (.int i0), .val (.int i1), .val (.ref b1), .val (.int ((2 : Int32) - i0)), .val (.int (-i1)), .val (.long ((3 : Int64) * (own_pow (-i1)))), .second, .unset, .unset] []))
          refine .pre (fun _ k => XS.lconst X.here hx rfl (hb hby d2_213) k) ?_
          show OwnEnds p e below _ (T.setTop (mkF m 214 #[.val (.int i0), .val (.int i1), .val (.ref b1), .val (.int ((2 : Int32) - i0)), .val (.int (-i1)), .val (.long ((3 : Int64) * (own_pow (-i1)))), .second, .unset, .unset] [(.long (1 : Int64))]))
          refine .pre (fun _ k => XS.iloadN X.here hx rfl (hb hby d2_214) rfl k) ?_
          show OwnEnds p e below _ (T.setTop (mkF m 215 #[.val (.int i0), .val (.int i1), .val (.ref b1), .val (.int ((2 : Int32) - i0)), .val (.int (-i1)), .val (.long ((3 : Int64) * (own_pow (-i1)))), .second, .unset, .unset] [(.int ((2 : Int32) - i0)), (.long (1 : Int64))]))
          refine .pre (fun _ k => XS.lshl X.here hx rfl (hb hby d2_215) rfl k) ?_
          show OwnEnds p e below _ (T.setTop (mkF m 216 #[.val (.int i0), .val (.int i1), .val (.ref b1), .val (.int ((2 : Int32) - i0)), .val (.int (-i1)), .val (.long ((3 : Int64) * (own_pow (-i1)))), .second, .unset, .unset] [(.long ((1 : Int64) <<< (((2 : Int32) - i0) &&& 0x3f).toInt64))]))
          refine .pre (fun _ k => XS.lstore X.here hx rfl (hb hby d2_216) rfl (l' := #[.val (.int i0), .val (.int i1), .val (.ref b1), .val (.int ((2 : Int32) - i0)), .val (.int (-i1)), .val (.long ((3 : Int64) * (own_pow (-i1)))), .second, .val (.long ((1 : Int64) <<< (((2 : Int32) - i0) &&& 0x3f).toInt64)), .second]) rfl k) ?_
          show OwnEnds p e below _ (T.setTop (mkF m 218 #[.val (.int i0), .val (.int i1), .val (.ref b1), .val (.int ((2 : Int32) - i0)), .val (.int (-i1)), .val (.long ((3 : Int64) * (own_pow (-i1)))), .second, .val (.long ((1 : Int64) <<< (((2 : Int32) - i0) &&& 0x3f).toInt64)), .second] []))
          refine .pre (fun _ k => XS.lload X.here hx rfl (hb hby d2_218) rfl k) ?_
          show OwnEnds p e below _ (T.setTop (mkF m 220 #[.val (.int i0), .val (.int i1), .val (.ref b1), .val (.int ((2 : Int32) - i0)), .val (.int (-i1)), .val (.long ((3 : Int64) * (own_pow (-i1)))), .second, .val (.long ((1 : Int64) <<< (((2 : Int32) - i0) &&& 0x3f).toInt64)), .second] [(.long ((1 : Int64) <<< (((2 : Int32) - i0) &&& 0x3f).toInt64))]))
          refine .pre (fun _ k => XS.lload X.here hx rfl (hb hby d2_220) rfl k) ?_
          show OwnEnds p e below _ (T.setTop (mkF m 222 #[.val (.int i0), .val (.int i1), .val (.ref b1), .val (.int ((2 : Int32) - i0)), .val (.int (-i1)), .val (.long ((3 : Int64) * (own_pow (-i1)))), .second, .val (.long ((1 : Int64) <<< (((2 : Int32) - i0) &&& 0x3f).toInt64)), .second] [(.long ((3 : Int64) * (own_pow (-i1)))), (.long ((1 : Int64) <<< (((2 : Int32) - i0) &&& 0x3f).toInt64))]))
          refine .pre (fun _ k => XS.lcmp X.here hx rfl (hb hby d2_222) rfl k) ?_
          show OwnEnds p e below _ (T.setTop (mkF m 223 #[.val (.int i0), .val (.int i1), .val (.ref b1), .val (.int ((2 : Int32) - i0)), .val (.int (-i1)), .val (.long ((3 : Int64) * (own_pow (-i1)))), .second, .val (.long ((1 : Int64) <<< (((2 : Int32) - i0) &&& 0x3f).toInt64)), .second] [(.int (lcmpW ((1 : Int64) <<< (((2 : Int32) - i0) &&& 0x3f).toInt64) ((3 : Int64) * (own_pow (-i1)))))]))
          by_cases hc223 : (0 : Int32) < (lcmpW ((1 : Int64) <<< (((2 : Int32) - i0) &&& 0x3f).toInt64) ((3 : Int64) * (own_pow (-i1))))
          · rw [if_pos hc223] at hF
            refine .pre (fun _ k => XS.ifYes X.here hx rfl (pc0 := 223) (pc' := 242) rfl (hb hby d2_223) rfl ((if0 _ _).trans (tlt hc223).2.2.1) (by decide) (by decide) k) ?_
            show OwnEnds p e below _ (T.setTop (mkF m 242 #[.val (.int i0), .val (.int i1), .val (.ref b1), .val (.int ((2 : Int32) - i0)), .val (.int (-i1)), .val (.long ((3 : Int64) * (own_pow (-i1)))), .second, .val (.long ((1 : Int64) <<< (((2 : Int32) - i0) &&& 0x3f).toInt64)), .second] []))
            refine .pre (fun _ k => XS.iconst X.here hx rfl (hb hby d2_242) k) ?_
            show OwnEnds p e below _ (T.setTop (mkF m 243 #[.val (.int i0), .val (.int i1), .val (.ref b1), .val (.int ((2 : Int32) - i0)), .val (.int (-i1)), .val (.long ((3 : Int64) * (own_pow (-i1)))), .second, .val (.long ((1 : Int64) <<< (((2 : Int32) - i0) &&& 0x3f).toInt64)), .second] [(.int (0 : Int32))]))
            exact own_endN X hx hlk (t := .boolean) Bd.returns (by simp) (hb hby d2_243) rfl hk hn ⟨congrArg (fun z => some (Value.int z)) hF, N, (by rw [eT]; exact Kp20)⟩
          · rw [if_neg hc223] at hF
            refine .pre (fun _ k => XS.ifNo X.here hx rfl (hb hby d2_223) rfl ((if0 _ _).trans (flt hc223).2.2.1) k) ?_
            show OwnEnds p e below _ (T.setTop (mkF m 226 #[.val (.int i0), .val (.int i1), .val (.ref b1), .val (.int ((2 : Int32) - i0)), .val (.int (-i1)), .val (.long ((3 : Int64) * (own_pow (-i1)))), .second, .val (.long ((1 : Int64) <<< (((2 : Int32) - i0) &&& 0x3f).toInt64)), .second] []))
            refine .pre (fun _ k => XS.lload X.here hx rfl (hb hby d2_226) rfl k) ?_
            show OwnEnds p e below _ (T.setTop (mkF m 228 #[.val (.int i0), .val (.int i1), .val (.ref b1), .val (.int ((2 : Int32) - i0)), .val (.int (-i1)), .val (.long ((3 : Int64) * (own_pow (-i1)))), .second, .val (.long ((1 : Int64) <<< (((2 : Int32) - i0) &&& 0x3f).toInt64)), .second] [(.long ((3 : Int64) * (own_pow (-i1))))]))
            refine .pre (fun _ k => X.ldc2Long hx hown (mvT hZ (hw _ (List.mem_of_getElem? (i := 12) rfl))) (g := (mkF m 228 #[.val (.int i0), .val (.int i1), .val (.ref b1), .val (.int ((2 : Int32) - i0)), .val (.int (-i1)), .val (.long ((3 : Int64) * (own_pow (-i1)))), .second, .val (.long ((1 : Int64) <<< (((2 : Int32) - i0) &&& 0x3f).toInt64)), .second] [(.long ((3 : Int64) * (own_pow (-i1))))])) rfl (hb hby d2_228) _ k) ?_
            show OwnEnds p e below _ (T.setTop (mkF m 231 #[.val (.int i0), .val (.int i1), .val (.ref b1), .val (.int ((2 : Int32) - i0)), .val (.int (-i1)), .val (.long ((3 : Int64) * (own_pow (-i1)))), .second, .val (.long ((1 : Int64) <<< (((2 : Int32) - i0) &&& 0x3f).toInt64)), .second] [(.long (10 : Int64)), (.long ((3 : Int64) * (own_pow (-i1))))]))
            refine .pre (fun _ k => XS.lload X.here hx rfl (hb hby d2_231) rfl k) ?_
            show OwnEnds p e below _ (T.setTop (mkF m 233 #[.val (.int i0), .val (.int i1), .val (.ref b1), .val (.int ((2 : Int32) - i0)), .val (.int (-i1)), .val (.long ((3 : Int64) * (own_pow (-i1)))), .second, .val (.long ((1 : Int64) <<< (((2 : Int32) - i0) &&& 0x3f).toInt64)), .second] [(.long ((1 : Int64) <<< (((2 : Int32) - i0) &&& 0x3f).toInt64)), (.long (10 : Int64)), (.long ((3 : Int64) * (own_pow (-i1))))]))
            refine .pre (fun _ k => XS.lmul X.here hx rfl (hb hby d2_233) rfl k) ?_
            show OwnEnds p e below _ (T.setTop (mkF m 234 #[.val (.int i0), .val (.int i1), .val (.ref b1), .val (.int ((2 : Int32) - i0)), .val (.int (-i1)), .val (.long ((3 : Int64) * (own_pow (-i1)))), .second, .val (.long ((1 : Int64) <<< (((2 : Int32) - i0) &&& 0x3f).toInt64)), .second] [(.long ((10 : Int64) * ((1 : Int64) <<< (((2 : Int32) - i0) &&& 0x3f).toInt64))), (.long ((3 : Int64) * (own_pow (-i1))))]))
            refine .pre (fun _ k => XS.lcmp X.here hx rfl (hb hby d2_234) rfl k) ?_
            show OwnEnds p e below _ (T.setTop (mkF m 235 #[.val (.int i0), .val (.int i1), .val (.ref b1), .val (.int ((2 : Int32) - i0)), .val (.int (-i1)), .val (.long ((3 : Int64) * (own_pow (-i1)))), .second, .val (.long ((1 : Int64) <<< (((2 : Int32) - i0) &&& 0x3f).toInt64)), .second] [(.int (lcmpW ((3 : Int64) * (own_pow (-i1))) ((10 : Int64) * ((1 : Int64) <<< (((2 : Int32) - i0) &&& 0x3f).toInt64))))]))
            by_cases hc235 : (lcmpW ((3 : Int64) * (own_pow (-i1))) ((10 : Int64) * ((1 : Int64) <<< (((2 : Int32) - i0) &&& 0x3f).toInt64))) < (0 : Int32)
            · rw [if_pos hc235] at hF
              refine .pre (fun _ k => XS.ifNo X.here hx rfl (hb hby d2_235) rfl ((if0 _ _).trans (tlt hc235).2.1) k) ?_
              show OwnEnds p e below _ (T.setTop (mkF m 238 #[.val (.int i0), .val (.int i1), .val (.ref b1), .val (.int ((2 : Int32) - i0)), .val (.int (-i1)), .val (.long ((3 : Int64) * (own_pow (-i1)))), .second, .val (.long ((1 : Int64) <<< (((2 : Int32) - i0) &&& 0x3f).toInt64)), .second] []))
              refine .pre (fun _ k => XS.iconst X.here hx rfl (hb hby d2_238) k) ?_
              show OwnEnds p e below _ (T.setTop (mkF m 239 #[.val (.int i0), .val (.int i1), .val (.ref b1), .val (.int ((2 : Int32) - i0)), .val (.int (-i1)), .val (.long ((3 : Int64) * (own_pow (-i1)))), .second, .val (.long ((1 : Int64) <<< (((2 : Int32) - i0) &&& 0x3f).toInt64)), .second] [(.int (1 : Int32))]))
              refine .pre (fun _ k => XS.goto X.here hx rfl (pc0 := 239) (pc' := 243) rfl (hb hby d2_239) (by decide) (by decide) k) ?_
              show OwnEnds p e below _ (T.setTop (mkF m 243 #[.val (.int i0), .val (.int i1), .val (.ref b1), .val (.int ((2 : Int32) - i0)), .val (.int (-i1)), .val (.long ((3 : Int64) * (own_pow (-i1)))), .second, .val (.long ((1 : Int64) <<< (((2 : Int32) - i0) &&& 0x3f).toInt64)), .second] [(.int (1 : Int32))]))
              exact own_endN X hx hlk (t := .boolean) Bd.returns (by simp) (hb hby d2_243) rfl hk hn ⟨congrArg (fun z => some (Value.int z)) hF, N, (by rw [eT]; exact Kp20)⟩
            · rw [if_neg hc235] at hF
              refine .pre (fun _ k => XS.ifYes X.here hx rfl (pc0 := 235) (pc' := 242) rfl (hb hby d2_235) rfl ((if0 _ _).trans (flt hc235).2.1) (by decide) (by decide) k) ?_
              show OwnEnds p e below _ (T.setTop (mkF m 242 #[.val (.int i0), .val (.int i1), .val (.ref b1), .val (.int ((2 : Int32) - i0)), .val (.int (-i1)), .val (.long ((3 : Int64) * (own_pow (-i1)))), .second, .val (.long ((1 : Int64) <<< (((2 : Int32) - i0) &&& 0x3f).toInt64)), .second] []))
              refine .pre (fun _ k => XS.iconst X.here hx rfl (hb hby d2_242) k) ?_
              show OwnEnds p e below _ (T.setTop (mkF m 243 #[.val (.int i0), .val (.int i1), .val (.ref b1), .val (.int ((2 : Int32) - i0)), .val (.int (-i1)), .val (.long ((3 : Int64) * (own_pow (-i1)))), .second, .val (.long ((1 : Int64) <<< (((2 : Int32) - i0) &&& 0x3f).toInt64)), .second] [(.int (0 : Int32))]))
              exact own_endN X hx hlk (t := .boolean) Bd.returns (by simp) (hb hby d2_243) rfl hk hn ⟨congrArg (fun z => some (Value.int z)) hF, N, (by rw [eT]; exact Kp20)⟩
    · rw [if_neg hc132] at hF
      refine .pre (fun _ k => XS.icmpNo X.here hx rfl (hb hby d2_132) rfl (flt hc132).1 k) ?_
      show OwnEnds p e below _ (T.setTop (mkF m 135 #[.val (.int i0), .val (.int i1), .val (.ref b1), .unset, .unset, .unset, .unset, .unset, .unset] []))
      refine .pre (fun _ k => XS.iloadN X.here hx rfl (hb hby d2_135) rfl k) ?_
      show OwnEnds p e below _ (T.setTop (mkF m 136 #[.val (.int i0), .val (.int i1), .val (.ref b1), .unset, .unset, .unset, .unset, .unset, .unset] [(.int i1)]))
      by_cases hc136 : i1 < (0 : Int32)
      · rw [if_pos hc136] at hF
        refine .pre (fun _ k => XS.ifYes X.here hx rfl (pc0 := 136) (pc' := 145) rfl (hb hby d2_136) rfl ((if0 _ _).trans (tlt hc136).1) (by decide) (by decide) k) ?_
        show OwnEnds p e below _ (T.setTop (mkF m 145 #[.val (.int i0), .val (.int i1), .val (.ref b1), .unset, .unset, .unset, .unset, .unset, .unset] []))
        refine .pre (fun _ k => XS.iconst X.here hx rfl (hb hby d2_145) k) ?_
        show OwnEnds p e below _ (T.setTop (mkF m 146 #[.val (.int i0), .val (.int i1), .val (.ref b1), .unset, .unset, .unset, .unset, .unset, .unset] [(.int (0 : Int32))]))
        exact own_endN X hx hlk (t := .boolean) Bd.returns (by simp) (hb hby d2_146) rfl hk hn ⟨congrArg (fun z => some (Value.int z)) hF, N, (by rw [eT]; exact Kp20)⟩
      · rw [if_neg hc136] at hF
        refine .pre (fun _ k => XS.ifNo X.here hx rfl (hb hby d2_136) rfl ((if0 _ _).trans (flt hc136).1) k) ?_
        show OwnEnds p e below _ (T.setTop (mkF m 139 #[.val (.int i0), .val (.int i1), .val (.ref b1), .unset, .unset, .unset, .unset, .unset, .unset] []))
        refine .pre (fun _ k => XS.iloadN X.here hx rfl (hb hby d2_139) rfl k) ?_
        show OwnEnds p e below _ (T.setTop (mkF m 140 #[.val (.int i0), .val (.int i1), .val (.ref b1), .unset, .unset, .unset, .unset, .unset, .unset] [(.int i1)]))
        refine .pre (fun _ k => XS.bipush X.here hx rfl (hb hby d2_140) k) ?_
        show OwnEnds p e below _ (T.setTop (mkF m 142 #[.val (.int i0), .val (.int i1), .val (.ref b1), .unset, .unset, .unset, .unset, .unset, .unset] [(.int (18 : Int32)), (.int i1)]))
        by_cases hc142 : (18 : Int32) < i1
        · rw [if_pos hc142] at hF
          refine .pre (fun _ k => XS.icmpNo X.here hx rfl (hb hby d2_142) rfl (tlt hc142).2.2.2 k) ?_
          show OwnEnds p e below _ (T.setTop (mkF m 145 #[.val (.int i0), .val (.int i1), .val (.ref b1), .unset, .unset, .unset, .unset, .unset, .unset] []))
          refine .pre (fun _ k => XS.iconst X.here hx rfl (hb hby d2_145) k) ?_
          show OwnEnds p e below _ (T.setTop (mkF m 146 #[.val (.int i0), .val (.int i1), .val (.ref b1), .unset, .unset, .unset, .unset, .unset, .unset] [(.int (0 : Int32))]))
          exact own_endN X hx hlk (t := .boolean) Bd.returns (by simp) (hb hby d2_146) rfl hk hn ⟨congrArg (fun z => some (Value.int z)) hF, N, (by rw [eT]; exact Kp20)⟩
        · rw [if_neg hc142] at hF
          refine .pre (fun _ k => XS.icmpYes X.here hx rfl (pc0 := 142) (pc' := 147) rfl (hb hby d2_142) rfl (flt hc142).2.2.2 (by decide) (by decide) k) ?_
          show OwnEnds p e below _ (T.setTop (mkF m 147 #[.val (.int i0), .val (.int i1), .val (.ref b1), .unset, .unset, .unset, .unset, .unset, .unset] []))
          refine .pre (fun _ k => X.ldc2Long hx hown (mvT hZ (hw _ (List.mem_of_getElem? (i := 30) rfl))) (g := (mkF m 147 #[.val (.int i0), .val (.int i1), .val (.ref b1), .unset, .unset, .unset, .unset, .unset, .unset] [])) rfl (hb hby d2_147) _ k) ?_
          show OwnEnds p e below _ (T.setTop (mkF m 150 #[.val (.int i0), .val (.int i1), .val (.ref b1), .unset, .unset, .unset, .unset, .unset, .unset] [(.long (3 : Int64))]))
          refine .pre (fun _ k => XS.iloadN X.here hx rfl (hb hby d2_150) rfl k) ?_
          show OwnEnds p e below _ (T.setTop (mkF m 151 #[.val (.int i0), .val (.int i1), .val (.ref b1), .unset, .unset, .unset, .unset, .unset, .unset] [(.int i0), (.long (3 : Int64))]))
          refine .pre (fun _ k => XS.iconst X.here hx rfl (hb hby d2_151) k) ?_
          show OwnEnds p e below _ (T.setTop (mkF m 152 #[.val (.int i0), .val (.int i1), .val (.ref b1), .unset, .unset, .unset, .unset, .unset, .unset] [(.int (2 : Int32)), (.int i0), (.long (3 : Int64))]))
          refine .pre (fun _ k => XS.isub X.here hx rfl (hb hby d2_152) rfl k) ?_
          show OwnEnds p e below _ (T.setTop (mkF m 153 #[.val (.int i0), .val (.int i1), .val (.ref b1), .unset, .unset, .unset, .unset, .unset, .unset] [(.int (i0 - (2 : Int32))), (.long (3 : Int64))]))
          refine .pre (fun _ k => XS.lshl X.here hx rfl (hb hby d2_153) rfl k) ?_
          show OwnEnds p e below _ (T.setTop (mkF m 154 #[.val (.int i0), .val (.int i1), .val (.ref b1), .unset, .unset, .unset, .unset, .unset, .unset] [(.long ((3 : Int64) <<< ((i0 - (2 : Int32)) &&& 0x3f).toInt64))]))
          refine .pre (fun _ k => XS.lstoreN X.here hx rfl (hb hby d2_154) rfl (l' := #[.val (.int i0), .val (.int i1), .val (.ref b1), .val (.long ((3 : Int64) <<< ((i0 - (2 : Int32)) &&& 0x3f).toInt64)), .second, .unset, .unset, .unset, .unset]) rfl k) ?_
          show OwnEnds p e below _ (T.setTop (mkF m 155 #[.val (.int i0), .val (.int i1), .val (.ref b1), .val (.long ((3 : Int64) <<< ((i0 - (2 : Int32)) &&& 0x3f).toInt64)), .second, .unset, .unset, .unset, .unset] []))
          refine .pre (fun _ k => XS.aloadN X.here hx rfl (hb hby d2_155) rfl rfl k) ?_
          show OwnEnds p e below _ (T.setTop (mkF m 156 #[.val (.int i0), .val (.int i1), .val (.ref b1), .val (.long ((3 : Int64) <<< ((i0 - (2 : Int32)) &&& 0x3f).toInt64)), .second, .unset, .unset, .unset, .unset] [(.ref b1)]))
          refine .pre (fun _ k => XS.iloadN X.here hx rfl (hb hby d2_156) rfl k) ?_
          show OwnEnds p e below _ (T.setTop (mkF m 157 #[.val (.int i0), .val (.int i1), .val (.ref b1), .val (.long ((3 : Int64) <<< ((i0 - (2 : Int32)) &&& 0x3f).toInt64)), .second, .unset, .unset, .unset, .unset] [(.int i1), (.ref b1)]))
          obtain ⟨cl25, Ar25, qa25, qs25, qn25, qh25, qg25⟩ := id V20
          have hj25 : ¬ (i1 < 0) ∧ i1 < (19 : Int32) := ⟨hc136, own_le18 hc142⟩
          have hin25 : ¬ (i1 < 0 ∨ cl25.slots.size ≤ (i1).toNatClampNeg) := inb_of qs25 hj25
          have hat25 : cl25.slots[(i1).toNatClampNeg]? = some (.long (own_pow i1)) := (qh25 _ (Nat.lt_of_not_le fun y => hin25 (Or.inr y))).trans (congrArg some (own_getJ [1, 10, 100, 1000, 10000, 100000, 1000000, 10000000, 100000000, 1000000000, 10000000000, 100000000000, 1000000000000, 10000000000000, 100000000000000, 1000000000000000, 10000000000000000, 100000000000000000, 1000000000000000000] _))
          refine .pre (fun _ k => X.laload hx (j := i1) (v := (.long (own_pow i1))) (by rw [eT]; exact Ar25.1) (State.isArrayOf_alike hZ.alike Ar25.2.1) Ar25.2.2 hin25 hat25 (g := (mkF m 157 #[.val (.int i0), .val (.int i1), .val (.ref b1), .val (.long ((3 : Int64) <<< ((i0 - (2 : Int32)) &&& 0x3f).toInt64)), .second, .unset, .unset, .unset, .unset] [(.int i1), (.ref b1)])) rfl rfl (hb hby d2_157) _ k) ?_
          show OwnEnds p e below _ (T.setTop (mkF m 158 #[.val (.int i0), .val (.int i1), .val (.ref b1), .val (.long ((3 : Int64) <<< ((i0 - (2 : Int32)) &&& 0x3f).toInt64)), .second, .unset, .unset, .unset, .unset] [(.long (own_pow i1))]))
          refine .pre (fun _ k => XS.lloadN X.here hx rfl (hb hby d2_158) rfl k) ?_
          show OwnEnds p e below _ (T.setTop (mkF m 159 #[.val (.int i0), .val (.int i1), .val (.ref b1), .val (.long ((3 : Int64) <<< ((i0 - (2 : Int32)) &&& 0x3f).toInt64)), .second, .unset, .unset, .unset, .unset] [(.long ((3 : Int64) <<< ((i0 - (2 : Int32)) &&& 0x3f).toInt64)), (.long (own_pow i1))]))
          refine .pre (fun _ k => XS.lcmp X.here hx rfl (hb hby d2_159) rfl k) ?_
          show OwnEnds p e below _ (T.setTop (mkF m 160 #[.val (.int i0), .val (.int i1), .val (.ref b1), .val (.long ((3 : Int64) <<< ((i0 - (2 : Int32)) &&& 0x3f).toInt64)), .second, .unset, .unset, .unset, .unset] [(.int (lcmpW (own_pow i1) ((3 : Int64) <<< ((i0 - (2 : Int32)) &&& 0x3f).toInt64)))]))
          by_cases hc160 : (0 : Int32) < (lcmpW (own_pow i1) ((3 : Int64) <<< ((i0 - (2 : Int32)) &&& 0x3f).toInt64))
          · rw [if_pos hc160] at hF
            refine .pre (fun _ k => XS.ifYes X.here hx rfl (pc0 := 160) (pc' := 179) rfl (hb hby d2_160) rfl ((if0 _ _).trans (tlt hc160).2.2.1) (by decide) (by decide) k) ?_
            show OwnEnds p e below _ (T.setTop (mkF m 179 #[.val (.int i0), .val (.int i1), .val (.ref b1), .val (.long ((3 : Int64) <<< ((i0 - (2 : Int32)) &&& 0x3f).toInt64)), .second, .unset, .unset, .unset, .unset] []))
            refine .pre (fun _ k => XS.iconst X.here hx rfl (hb hby d2_179) k) ?_
            show OwnEnds p e below _ (T.setTop (mkF m 180 #[.val (.int i0), .val (.int i1), .val (.ref b1), .val (.long ((3 : Int64) <<< ((i0 - (2 : Int32)) &&& 0x3f).toInt64)), .second, .unset, .unset, .unset, .unset] [(.int (0 : Int32))]))
            exact own_endN X hx hlk (t := .boolean) Bd.returns (by simp) (hb hby d2_180) rfl hk hn ⟨congrArg (fun z => some (Value.int z)) hF, N, (by rw [eT]; exact Kp20)⟩
          · rw [if_neg hc160] at hF
            refine .pre (fun _ k => XS.ifNo X.here hx rfl (hb hby d2_160) rfl ((if0 _ _).trans (flt hc160).2.2.1) k) ?_
            show OwnEnds p e below _ (T.setTop (mkF m 163 #[.val (.int i0), .val (.int i1), .val (.ref b1), .val (.long ((3 : Int64) <<< ((i0 - (2 : Int32)) &&& 0x3f).toInt64)), .second, .unset, .unset, .unset, .unset] []))
            refine .pre (fun _ k => XS.lloadN X.here hx rfl (hb hby d2_163) rfl k) ?_
            show OwnEnds p e below _ (T.setTop (mkF m 164 #[.val (.int i0), .val (.int i1), .val (.ref b1), .val (.long ((3 : Int64) <<< ((i0 - (2 : Int32)) &&& 0x3f).toInt64)), .second, .unset, .unset, .unset, .unset] [(.long ((3 : Int64) <<< ((i0 - (2 : Int32)) &&& 0x3f).toInt64))]))
            refine .pre (fun _ k => X.ldc2Long hx hown (mvT hZ (hw _ (List.mem_of_getElem? (i := 12) rfl))) (g := (mkF m 164 #[.val (.int i0), .val (.int i1), .val (.ref b1), .val (.long ((3 : Int64) <<< ((i0 - (2 : Int32)) &&& 0x3f).toInt64)), .second, .unset, .unset, .unset, .unset] [(.long ((3 : Int64) <<< ((i0 - (2 : Int32)) &&& 0x3f).toInt64))])) rfl (hb hby d2_164) _ k) ?_
            show OwnEnds p e below _ (T.setTop (mkF m 167 #[.val (.int i0), .val (.int i1), .val (.ref b1), .val (.long ((3 : Int64) <<< ((i0 - (2 : Int32)) &&& 0x3f).toInt64)), .second, .unset, .unset, .unset, .unset] [(.long (10 : Int64)), (.long ((3 : Int64) <<< ((i0 - (2 : Int32)) &&& 0x3f).toInt64))]))
            refine .pre (fun _ k => XS.ldiv X.here hx rfl (hb hby d2_167) rfl (by decide) k) ?_
            show OwnEnds p e below _ (T.setTop (mkF m 168 #[.val (.int i0), .val (.int i1), .val (.ref b1), .val (.long ((3 : Int64) <<< ((i0 - (2 : Int32)) &&& 0x3f).toInt64)), .second, .unset, .unset, .unset, .unset] [(.long (((3 : Int64) <<< ((i0 - (2 : Int32)) &&& 0x3f).toInt64) / (10 : Int64)))]))
            refine .pre (fun _ k => XS.aloadN X.here hx rfl (hb hby d2_168) rfl rfl k) ?_
            show OwnEnds p e below _ (T.setTop (mkF m 169 #[.val (.int i0), .val (.int i1), .val (.ref b1), .val (.long ((3 : Int64) <<< ((i0 - (2 : Int32)) &&& 0x3f).toInt64)), .second, .unset, .unset, .unset, .unset] [(.ref b1), (.long (((3 : Int64) <<< ((i0 - (2 : Int32)) &&& 0x3f).toInt64) / (10 : Int64)))]))
            refine .pre (fun _ k => XS.iloadN X.here hx rfl (hb hby d2_169) rfl k) ?_
            show OwnEnds p e below _ (T.setTop (mkF m 170 #[.val (.int i0), .val (.int i1), .val (.ref b1), .val (.long ((3 : Int64) <<< ((i0 - (2 : Int32)) &&& 0x3f).toInt64)), .second, .unset, .unset, .unset, .unset] [(.int i1), (.ref b1), (.long (((3 : Int64) <<< ((i0 - (2 : Int32)) &&& 0x3f).toInt64) / (10 : Int64)))]))
            obtain ⟨cl26, Ar26, qa26, qs26, qn26, qh26, qg26⟩ := id V20
            have hj26 : ¬ (i1 < 0) ∧ i1 < (19 : Int32) := ⟨hc136, own_le18 hc142⟩
            have hin26 : ¬ (i1 < 0 ∨ cl26.slots.size ≤ (i1).toNatClampNeg) := inb_of qs26 hj26
            have hat26 : cl26.slots[(i1).toNatClampNeg]? = some (.long (own_pow i1)) := (qh26 _ (Nat.lt_of_not_le fun y => hin26 (Or.inr y))).trans (congrArg some (own_getJ [1, 10, 100, 1000, 10000, 100000, 1000000, 10000000, 100000000, 1000000000, 10000000000, 100000000000, 1000000000000, 10000000000000, 100000000000000, 1000000000000000, 10000000000000000, 100000000000000000, 1000000000000000000] _))
            refine .pre (fun _ k => X.laload hx (j := i1) (v := (.long (own_pow i1))) (by rw [eT]; exact Ar26.1) (State.isArrayOf_alike hZ.alike Ar26.2.1) Ar26.2.2 hin26 hat26 (g := (mkF m 170 #[.val (.int i0), .val (.int i1), .val (.ref b1), .val (.long ((3 : Int64) <<< ((i0 - (2 : Int32)) &&& 0x3f).toInt64)), .second, .unset, .unset, .unset, .unset] [(.int i1), (.ref b1), (.long (((3 : Int64) <<< ((i0 - (2 : Int32)) &&& 0x3f).toInt64) / (10 : Int64)))])) rfl rfl (hb hby d2_170) _ k) ?_
            show OwnEnds p e below _ (T.setTop (mkF m 171 #[.val (.int i0), .val (.int i1), .val (.ref b1), .val (.long ((3 : Int64) <<< ((i0 - (2 : Int32)) &&& 0x3f).toInt64)), .second, .unset, .unset, .unset, .unset] [(.long (own_pow i1)), (.long (((3 : Int64) <<< ((i0 - (2 : Int32)) &&& 0x3f).toInt64) / (10 : Int64)))]))
            refine .pre (fun _ k => XS.lcmp X.here hx rfl (hb hby d2_171) rfl k) ?_
            show OwnEnds p e below _ (T.setTop (mkF m 172 #[.val (.int i0), .val (.int i1), .val (.ref b1), .val (.long ((3 : Int64) <<< ((i0 - (2 : Int32)) &&& 0x3f).toInt64)), .second, .unset, .unset, .unset, .unset] [(.int (lcmpW (((3 : Int64) <<< ((i0 - (2 : Int32)) &&& 0x3f).toInt64) / (10 : Int64)) (own_pow i1)))]))
            by_cases hc172 : (lcmpW (((3 : Int64) <<< ((i0 - (2 : Int32)) &&& 0x3f).toInt64) / (10 : Int64)) (own_pow i1)) < (0 : Int32)
            · rw [if_pos hc172] at hF
              refine .pre (fun _ k => XS.ifNo X.here hx rfl (hb hby d2_172) rfl ((if0 _ _).trans (tlt hc172).2.1) k) ?_
              show OwnEnds p e below _ (T.setTop (mkF m 175 #[.val (.int i0), .val (.int i1), .val (.ref b1), .val (.long ((3 : Int64) <<< ((i0 - (2 : Int32)) &&& 0x3f).toInt64)), .second, .unset, .unset, .unset, .unset] []))
              refine .pre (fun _ k => XS.iconst X.here hx rfl (hb hby d2_175) k) ?_
              show OwnEnds p e below _ (T.setTop (mkF m 176 #[.val (.int i0), .val (.int i1), .val (.ref b1), .val (.long ((3 : Int64) <<< ((i0 - (2 : Int32)) &&& 0x3f).toInt64)), .second, .unset, .unset, .unset, .unset] [(.int (1 : Int32))]))
              refine .pre (fun _ k => XS.goto X.here hx rfl (pc0 := 176) (pc' := 180) rfl (hb hby d2_176) (by decide) (by decide) k) ?_
              show OwnEnds p e below _ (T.setTop (mkF m 180 #[.val (.int i0), .val (.int i1), .val (.ref b1), .val (.long ((3 : Int64) <<< ((i0 - (2 : Int32)) &&& 0x3f).toInt64)), .second, .unset, .unset, .unset, .unset] [(.int (1 : Int32))]))
              exact own_endN X hx hlk (t := .boolean) Bd.returns (by simp) (hb hby d2_180) rfl hk hn ⟨congrArg (fun z => some (Value.int z)) hF, N, (by rw [eT]; exact Kp20)⟩
            · rw [if_neg hc172] at hF
              refine .pre (fun _ k => XS.ifYes X.here hx rfl (pc0 := 172) (pc' := 179) rfl (hb hby d2_172) rfl ((if0 _ _).trans (flt hc172).2.1) (by decide) (by decide) k) ?_
              show OwnEnds p e below _ (T.setTop (mkF m 179 #[.val (.int i0), .val (.int i1), .val (.ref b1), .val (.long ((3 : Int64) <<< ((i0 - (2 : Int32)) &&& 0x3f).toInt64)), .second, .unset, .unset, .unset, .unset] []))
              refine .pre (fun _ k => XS.iconst X.here hx rfl (hb hby d2_179) k) ?_
              show OwnEnds p e below _ (T.setTop (mkF m 180 #[.val (.int i0), .val (.int i1), .val (.ref b1), .val (.long ((3 : Int64) <<< ((i0 - (2 : Int32)) &&& 0x3f).toInt64)), .second, .unset, .unset, .unset, .unset] [(.int (0 : Int32))]))
              exact own_endN X hx hlk (t := .boolean) Bd.returns (by simp) (hb hby d2_180) rfl hk hn ⟨congrArg (fun z => some (Value.int z)) hF, N, (by rw [eT]; exact Kp20)⟩
  exact B130 T20 _ _ _ X20 e20 N20 (by decide) (by decide) p0 p1 rfl
theorem ef_0 (m : MethodId) (p0 : Int32) (p1 : Int32) : entryFrame m #[(.int p0), (.int p1)] maxLocals = mkF m 0 #[.val (.int p0), .val (.int p1), .unset, .unset, .unset, .unset, .unset, .unset, .unset, .unset] [] := by first | (simp [entryFrame, mkF, argsToLocals, Value.category, maxLocals]; done) | rfl
theorem pd_2 : parseMethodDescriptor "(I)I" = some ⟨[.int], some .int⟩ := by decide +kernel
theorem pd_3 : parseMethodDescriptor "(II)Z" = some ⟨[.int, .int], some .boolean⟩ := by decide +kernel
def f0_97 (i4 : Int32) (t0 : Int32) : Int32 := (if i4 = (0 : Int32) then (0 : Int32) else (if t0 = (0 : Int32) then (0 : Int32) else (1 : Int32)))
def f0_92 (i4 : Int32) : Int32 := (f0_97 i4 (1 : Int32))
def f0_96 (i4 : Int32) : Int32 := (f0_97 i4 (0 : Int32))
def f0_76 (i4 : Int32) (i6 : Int32) (i7 : Int32) : Int32 := (if i7 = i6 then (f0_92 i4) else (if i7 = (i6 + (1 : Int32)) then (f0_92 i4) else (f0_96 i4)))
def f0_21 (i1 : Int32) (t0 : Int32) : Int32 := (if (f1_0 ((-1073 : Int32) + ((i1 &&& (2147483647 : Int32)) % (2044 : Int32)))) = (f3_0 ((-1073 : Int32) + ((i1 &&& (2147483647 : Int32)) % (2044 : Int32)))) then (f0_76 t0 (f1_0 ((-1073 : Int32) + ((i1 &&& (2147483647 : Int32)) % (2044 : Int32)))) (f1_0 (((-1073 : Int32) + ((i1 &&& (2147483647 : Int32)) % (2044 : Int32))) + (1 : Int32)))) else (if (f1_0 ((-1073 : Int32) + ((i1 &&& (2147483647 : Int32)) % (2044 : Int32)))) = ((f3_0 ((-1073 : Int32) + ((i1 &&& (2147483647 : Int32)) % (2044 : Int32)))) - (1 : Int32)) then (f0_76 t0 (f1_0 ((-1073 : Int32) + ((i1 &&& (2147483647 : Int32)) % (2044 : Int32)))) (f1_0 (((-1073 : Int32) + ((i1 &&& (2147483647 : Int32)) % (2044 : Int32))) + (1 : Int32)))) else (f0_96 t0)))
def Q0 (Z : State) (p0 : Int32) (p1 : Int32) (h0 : Heap) (n0 : Nat) (v : Option Value) (h : Heap) (L : List Loc) : Prop := v = some (.int (f0_21 p1 (f2_130 ((-57 : Int32) + ((p0 &&& (2147483647 : Int32)) % (121 : Int32))) (f1_0 ((-57 : Int32) + ((p0 &&& (2147483647 : Int32)) % (121 : Int32))))))) ∧ Fr n0 L ∧ True
set_option maxRecDepth 65536 in
set_option maxHeartbeats 40000000 in
theorem rm0 (l : Launch) (Z : State) (aZ : Array Value) (hw : ∀ d ∈ tables_1, d.before aZ Z = true) (ws : List Jvm.Cond) (p0 : Int32) (p1 : Int32) (h0 : Heap) (n0 : Nat) (Z0 : n0 ≤ h0.size) :
    MetFree l x (head1 (Jvm.Cond.code x code maxLocals ret :: ws) room_1) (fun a U => a = #[(.int p0), (.int p1)] ∧ Z.Warmed39 U.vm ∧ U.heap = h0) (fun _ _ _ _ _ => True) (fun _ U o U' => ∃ v L, o = .returned v ∧ Q0 Z p0 p1 h0 n0 v U'.heap L ∧ FrameEnd U o U' L 16 128) := by
  refine MetFree.of_bodySF (plainFor_of_name pn_1) hisR ?_
  intro p e s m args below meth c s₁ Bd hml0 hP hK
  obtain ⟨rfl, hZ, hh⟩ := hP
  have hx := Bd.exec
  have hby := Bd.bytes
  have hml : c.maxLocals = 10 := hml0
  have hown : s.vm.findClass "com/example/hellowire/hellowire/codec/ShortestDecimalFloorLog10ThreeQuartersPow2PinLaw" = some m.cls := findClass_of_methodNamed Bd.named
  have hnm := (name_of_methodNamed Bd.named Bd.method).1
  have hlk := BodyLoose.notSynchronized Bd
  have X0 : Stand p l e room_1 s m #[(.int p0), (.int p1)] below meth c s₁ [] 0 0 := Stand.of_body Bd
  have e0 : s₁.heap = h0 := by rw [← hh, Bd.state]; rfl
  have N0 := Fr.nil n0
  have hk0 : 0 ≤ 16 := Nat.zero_le _
  have hn0 : 0 ≤ 128 := Nat.zero_le _
  show OwnEnds p e below (OwnQ s (Q0 Z p0 p1 h0 n0) 16 128) (s₁.setTop (entryFrame m #[(.int p0), (.int p1)] maxLocals))
  refine .pre (fun t k => castTop (ef_0 m p0 p1) k) ?_
  show OwnEnds p e below _ (s₁.setTop (mkF m 0 #[.val (.int p0), .val (.int p1), .unset, .unset, .unset, .unset, .unset, .unset, .unset, .unset] []))
  refine .pre (fun _ k => XS.bipush X0.here hx rfl (hb hby at_0) k) ?_
  show OwnEnds p e below _ (s₁.setTop (mkF m 2 #[.val (.int p0), .val (.int p1), .unset, .unset, .unset, .unset, .unset, .unset, .unset, .unset] [(.int (-57 : Int32))]))
  refine .pre (fun _ k => XS.iloadN X0.here hx rfl (hb hby at_2) rfl k) ?_
  show OwnEnds p e below _ (s₁.setTop (mkF m 3 #[.val (.int p0), .val (.int p1), .unset, .unset, .unset, .unset, .unset, .unset, .unset, .unset] [(.int p0), (.int (-57 : Int32))]))
  refine .pre (fun _ k => X0.ldcInt hx hown (mvT hZ (hw _ (List.mem_of_getElem? (i := 0) rfl))) (g := (mkF m 3 #[.val (.int p0), .val (.int p1), .unset, .unset, .unset, .unset, .unset, .unset, .unset, .unset] [(.int p0), (.int (-57 : Int32))])) rfl (hb hby at_3) _ k) ?_
  show OwnEnds p e below _ (s₁.setTop (mkF m 5 #[.val (.int p0), .val (.int p1), .unset, .unset, .unset, .unset, .unset, .unset, .unset, .unset] [(.int (2147483647 : Int32)), (.int p0), (.int (-57 : Int32))]))
  refine .pre (fun _ k => XS.iand X0.here hx rfl (hb hby at_5) rfl k) ?_
  show OwnEnds p e below _ (s₁.setTop (mkF m 6 #[.val (.int p0), .val (.int p1), .unset, .unset, .unset, .unset, .unset, .unset, .unset, .unset] [(.int (p0 &&& (2147483647 : Int32))), (.int (-57 : Int32))]))
  refine .pre (fun _ k => XS.bipush X0.here hx rfl (hb hby at_6) k) ?_
  show OwnEnds p e below _ (s₁.setTop (mkF m 8 #[.val (.int p0), .val (.int p1), .unset, .unset, .unset, .unset, .unset, .unset, .unset, .unset] [(.int (121 : Int32)), (.int (p0 &&& (2147483647 : Int32))), (.int (-57 : Int32))]))
  refine .pre (fun _ k => iremM X0 hx rfl (hb hby at_8) rfl (by decide) k) ?_
  show OwnEnds p e below _ (s₁.setTop (mkF m 9 #[.val (.int p0), .val (.int p1), .unset, .unset, .unset, .unset, .unset, .unset, .unset, .unset] [(.int ((p0 &&& (2147483647 : Int32)) % (121 : Int32))), (.int (-57 : Int32))]))
  refine .pre (fun _ k => XS.iadd X0.here hx rfl (hb hby at_9) rfl k) ?_
  show OwnEnds p e below _ (s₁.setTop (mkF m 10 #[.val (.int p0), .val (.int p1), .unset, .unset, .unset, .unset, .unset, .unset, .unset, .unset] [(.int ((-57 : Int32) + ((p0 &&& (2147483647 : Int32)) % (121 : Int32))))]))
  refine .pre (fun _ k => XS.istoreN X0.here hx rfl (hb hby at_10) rfl (l' := #[.val (.int p0), .val (.int p1), .val (.int ((-57 : Int32) + ((p0 &&& (2147483647 : Int32)) % (121 : Int32)))), .unset, .unset, .unset, .unset, .unset, .unset, .unset]) rfl k) ?_
  show OwnEnds p e below _ (s₁.setTop (mkF m 11 #[.val (.int p0), .val (.int p1), .val (.int ((-57 : Int32) + ((p0 &&& (2147483647 : Int32)) % (121 : Int32)))), .unset, .unset, .unset, .unset, .unset, .unset, .unset] []))
  refine .pre (fun _ k => XS.iloadN X0.here hx rfl (hb hby at_11) rfl k) ?_
  show OwnEnds p e below _ (s₁.setTop (mkF m 12 #[.val (.int p0), .val (.int p1), .val (.int ((-57 : Int32) + ((p0 &&& (2147483647 : Int32)) % (121 : Int32)))), .unset, .unset, .unset, .unset, .unset, .unset, .unset] [(.int ((-57 : Int32) + ((p0 &&& (2147483647 : Int32)) % (121 : Int32))))]))
  obtain ⟨_, _, ⟨T1, L1, k1, n1⟩, -, X1, ⟨Lc1, hQ1, l1, y1, z1⟩, st1⟩ := Jvm.LawKit.callS X0 hx (y := (⟨"com/example/hellowire/hellowire/codec/ShortestDecimal", "floorLog10ThreeQuartersPow2", "(I)I"⟩ : MethodName)) hown (mvT hZ (hw _ (List.mem_of_getElem? (i := 1) rfl))) (mvT hZ (hw _ (List.mem_of_getElem? (i := 2) rfl))) (mvT hZ (hw _ (List.mem_of_getElem? (i := 3) rfl))) (mvT hZ (hw _ (List.mem_of_getElem? (i := 4) rfl))) (by decide) (backOf (W := 0) (rm1 l Z aZ hw [] ((-57 : Int32) + ((p0 &&& (2147483647 : Int32)) % (121 : Int32))) h0 n0 Z0) hZ (hw _ (List.mem_of_getElem? (i := 4) rfl)) (hw _ (List.mem_of_getElem? (i := 3) rfl)) (by decide) (by decide)) (g := (mkF m 12 #[.val (.int p0), .val (.int p1), .val (.int ((-57 : Int32) + ((p0 &&& (2147483647 : Int32)) % (121 : Int32)))), .unset, .unset, .unset, .unset, .unset, .unset, .unset] [(.int ((-57 : Int32) + ((p0 &&& (2147483647 : Int32)) % (121 : Int32))))])) rfl (by rw [hml]; rfl) (argsL := [(.int ((-57 : Int32) + ((p0 &&& (2147483647 : Int32)) % (121 : Int32))))]) (rest := []) (lenOf pd_2 rfl) rfl (by show 2 * 0 + _ ≤ _; exact Nat.le_of_eq rfl) (hb hby at_12) (fun _ _ => ⟨rfl, e0, (by decide : 0 + 0 ≤ _), (by decide : 0 + 0 ≤ _)⟩)
  dsimp only [Pt.U, Pt.locs, Pt.cells, Pt.slots] at X1 l1 y1 z1 st1 hQ1
  subst l1 y1 z1
  obtain ⟨rfl, N1q, e1⟩ := hQ1
  have N1 := Fr.app N0 N1q
  refine .pre (fun _ k => st1 _ k) ?_
  show OwnEnds p e below _ (T1.setTop (mkF m 15 #[.val (.int p0), .val (.int p1), .val (.int ((-57 : Int32) + ((p0 &&& (2147483647 : Int32)) % (121 : Int32)))), .unset, .unset, .unset, .unset, .unset, .unset, .unset] [(.int (f1_0 ((-57 : Int32) + ((p0 &&& (2147483647 : Int32)) % (121 : Int32)))))]))
  refine .pre (fun _ k => XS.istoreN X1.here hx rfl (hb hby at_15) rfl (l' := #[.val (.int p0), .val (.int p1), .val (.int ((-57 : Int32) + ((p0 &&& (2147483647 : Int32)) % (121 : Int32)))), .val (.int (f1_0 ((-57 : Int32) + ((p0 &&& (2147483647 : Int32)) % (121 : Int32))))), .unset, .unset, .unset, .unset, .unset, .unset]) rfl k) ?_
  show OwnEnds p e below _ (T1.setTop (mkF m 16 #[.val (.int p0), .val (.int p1), .val (.int ((-57 : Int32) + ((p0 &&& (2147483647 : Int32)) % (121 : Int32)))), .val (.int (f1_0 ((-57 : Int32) + ((p0 &&& (2147483647 : Int32)) % (121 : Int32))))), .unset, .unset, .unset, .unset, .unset, .unset] []))
  refine .pre (fun _ k => XS.iloadN X1.here hx rfl (hb hby at_16) rfl k) ?_
  show OwnEnds p e below _ (T1.setTop (mkF m 17 #[.val (.int p0), .val (.int p1), .val (.int ((-57 : Int32) + ((p0 &&& (2147483647 : Int32)) % (121 : Int32)))), .val (.int (f1_0 ((-57 : Int32) + ((p0 &&& (2147483647 : Int32)) % (121 : Int32))))), .unset, .unset, .unset, .unset, .unset, .unset] [(.int ((-57 : Int32) + ((p0 &&& (2147483647 : Int32)) % (121 : Int32))))]))
  refine .pre (fun _ k => XS.iloadN X1.here hx rfl (hb hby at_17) rfl k) ?_
  show OwnEnds p e below _ (T1.setTop (mkF m 18 #[.val (.int p0), .val (.int p1), .val (.int ((-57 : Int32) + ((p0 &&& (2147483647 : Int32)) % (121 : Int32)))), .val (.int (f1_0 ((-57 : Int32) + ((p0 &&& (2147483647 : Int32)) % (121 : Int32))))), .unset, .unset, .unset, .unset, .unset, .unset] [(.int (f1_0 ((-57 : Int32) + ((p0 &&& (2147483647 : Int32)) % (121 : Int32))))), (.int ((-57 : Int32) + ((p0 &&& (2147483647 : Int32)) % (121 : Int32))))]))
  obtain ⟨_, _, ⟨T2, L2, k2, n2⟩, -, X2, ⟨Lc2, hQ2, l2, y2, z2⟩, st2⟩ := Jvm.LawKit.callS X1 hx (y := (⟨"com/example/hellowire/hellowire/codec/ShortestDecimalFloorLog10ThreeQuartersPow2PinLaw", "exactOk", "(II)Z"⟩ : MethodName)) hown (mvT hZ (hw _ (List.mem_of_getElem? (i := 7) rfl))) (mvT hZ (hw _ (List.mem_of_getElem? (i := 8) rfl))) (mvT hZ (hw _ (List.mem_of_getElem? (i := 9) rfl))) (mvT hZ (hw _ (List.mem_of_getElem? (i := 10) rfl))) (by decide) (backOf (W := 0) (rm2 l Z aZ hw [] ((-57 : Int32) + ((p0 &&& (2147483647 : Int32)) % (121 : Int32))) (f1_0 ((-57 : Int32) + ((p0 &&& (2147483647 : Int32)) % (121 : Int32)))) h0 n0 Z0) hZ (hw _ (List.mem_of_getElem? (i := 10) rfl)) (hw _ (List.mem_of_getElem? (i := 9) rfl)) (by decide) (by decide)) (g := (mkF m 18 #[.val (.int p0), .val (.int p1), .val (.int ((-57 : Int32) + ((p0 &&& (2147483647 : Int32)) % (121 : Int32)))), .val (.int (f1_0 ((-57 : Int32) + ((p0 &&& (2147483647 : Int32)) % (121 : Int32))))), .unset, .unset, .unset, .unset, .unset, .unset] [(.int (f1_0 ((-57 : Int32) + ((p0 &&& (2147483647 : Int32)) % (121 : Int32))))), (.int ((-57 : Int32) + ((p0 &&& (2147483647 : Int32)) % (121 : Int32))))])) rfl (by rw [hml]; rfl) (argsL := [(.int ((-57 : Int32) + ((p0 &&& (2147483647 : Int32)) % (121 : Int32)))), (.int (f1_0 ((-57 : Int32) + ((p0 &&& (2147483647 : Int32)) % (121 : Int32)))))]) (rest := []) (lenOf pd_3 rfl) rfl (by show 2 * 0 + _ ≤ _; exact Nat.le_of_eq rfl) (hb hby at_18) (fun _ _ => ⟨rfl, e1, (by decide : 0 + 1 ≤ _), (by decide : 0 + 19 ≤ _)⟩)
  dsimp only [Pt.U, Pt.locs, Pt.cells, Pt.slots] at X2 l2 y2 z2 st2 hQ2
  subst l2 y2 z2
  obtain ⟨rfl, N2q, K2⟩ := hQ2
  have N2 := Fr.app N1 N2q
  refine .pre (fun _ k => st2 _ k) ?_
  have B97 : ∀ (T : State) (L : List Loc) (k n : Nat) (X : Stand p l e room_1 s m #[(.int p0), (.int p1)] below meth c T L k n) (eT : T.heap = T2.heap) (N : Fr n0 L) (hk : k ≤ 16) (hn : n ≤ 128) (i0 : Int32) (i1 : Int32) (i2 : Int32) (i3 : Int32) (i4 : Int32) (i5 : Int32) (i6 : Int32) (i7 : Int32) (i8 : Int32) (t0 : Int32), f0_97 i4 t0 = f0_21 p1 (f2_130 ((-57 : Int32) + ((p0 &&& (2147483647 : Int32)) % (121 : Int32))) (f1_0 ((-57 : Int32) + ((p0 &&& (2147483647 : Int32)) % (121 : Int32))))) → OwnEnds p e below (OwnQ s (Q0 Z p0 p1 h0 n0) 16 128) (T.setTop (mkF m 97 #[.val (.int i0), .val (.int i1), .val (.int i2), .val (.int i3), .val (.int i4), .val (.int i5), .val (.int i6), .val (.int i7), .val (.int i8), .unset] [(.int t0)])) := by
    intro T L k n X eT N hk hn i0 i1 i2 i3 i4 i5 i6 i7 i8 t0 hF
    change (if i4 = (0 : Int32) then (0 : Int32) else (if t0 = (0 : Int32) then (0 : Int32) else (1 : Int32))) = _ at hF
    show OwnEnds p e below _ (T.setTop (mkF m 97 #[.val (.int i0), .val (.int i1), .val (.int i2), .val (.int i3), .val (.int i4), .val (.int i5), .val (.int i6), .val (.int i7), .val (.int i8), .unset] [(.int t0)]))
    refine .pre (fun _ k => XS.istore X.here hx rfl (hb hby at_97) rfl (l' := #[.val (.int i0), .val (.int i1), .val (.int i2), .val (.int i3), .val (.int i4), .val (.int i5), .val (.int i6), .val (.int i7), .val (.int i8), .val (.int t0)]) rfl k) ?_
    show OwnEnds p e below _ (T.setTop (mkF m 99 #[.val (.int i0), .val (.int i1), .val (.int i2), .val (.int i3), .val (.int i4), .val (.int i5), .val (.int i6), .val (.int i7), .val (.int i8), .val (.int t0)] []))
    refine .pre (fun _ k => XS.iload X.here hx rfl (hb hby at_99) rfl k) ?_
    show OwnEnds p e below _ (T.setTop (mkF m 101 #[.val (.int i0), .val (.int i1), .val (.int i2), .val (.int i3), .val (.int i4), .val (.int i5), .val (.int i6), .val (.int i7), .val (.int i8), .val (.int t0)] [(.int i4)]))
    by_cases hc101 : i4 = (0 : Int32)
    · rw [if_pos hc101] at hF
      refine .pre (fun _ k => XS.ifYes X.here hx rfl (pc0 := 101) (pc' := 113) rfl (hb hby at_101) rfl ((if0 _ _).trans (teq hc101).1) (by decide) (by decide) k) ?_
      show OwnEnds p e below _ (T.setTop (mkF m 113 #[.val (.int i0), .val (.int i1), .val (.int i2), .val (.int i3), .val (.int i4), .val (.int i5), .val (.int i6), .val (.int i7), .val (.int i8), .val (.int t0)] []))
      refine .pre (fun _ k => XS.iconst X.here hx rfl (hb hby at_113) k) ?_
      show OwnEnds p e below _ (T.setTop (mkF m 114 #[.val (.int i0), .val (.int i1), .val (.int i2), .val (.int i3), .val (.int i4), .val (.int i5), .val (.int i6), .val (.int i7), .val (.int i8), .val (.int t0)] [(.int (0 : Int32))]))
      exact own_endN X hx hlk (t := .boolean) Bd.returns (by simp) (hb hby at_114) rfl hk hn ⟨congrArg (fun z => some (Value.int z)) hF, N, trivial⟩
    · rw [if_neg hc101] at hF
      refine .pre (fun _ k => XS.ifNo X.here hx rfl (hb hby at_101) rfl ((if0 _ _).trans (feq hc101).1) k) ?_
      show OwnEnds p e below _ (T.setTop (mkF m 104 #[.val (.int i0), .val (.int i1), .val (.int i2), .val (.int i3), .val (.int i4), .val (.int i5), .val (.int i6), .val (.int i7), .val (.int i8), .val (.int t0)] []))
      refine .pre (fun _ k => XS.iload X.here hx rfl (hb hby at_104) rfl k) ?_
      show OwnEnds p e below _ (T.setTop (mkF m 106 #[.val (.int i0), .val (.int i1), .val (.int i2), .val (.int i3), .val (.int i4), .val (.int i5), .val (.int i6), .val (.int i7), .val (.int i8), .val (.int t0)] [(.int t0)]))
      by_cases hc106 : t0 = (0 : Int32)
      · rw [if_pos hc106] at hF
        refine .pre (fun _ k => XS.ifYes X.here hx rfl (pc0 := 106) (pc' := 113) rfl (hb hby at_106) rfl ((if0 _ _).trans (teq hc106).1) (by decide) (by decide) k) ?_
        show OwnEnds p e below _ (T.setTop (mkF m 113 #[.val (.int i0), .val (.int i1), .val (.int i2), .val (.int i3), .val (.int i4), .val (.int i5), .val (.int i6), .val (.int i7), .val (.int i8), .val (.int t0)] []))
        refine .pre (fun _ k => XS.iconst X.here hx rfl (hb hby at_113) k) ?_
        show OwnEnds p e below _ (T.setTop (mkF m 114 #[.val (.int i0), .val (.int i1), .val (.int i2), .val (.int i3), .val (.int i4), .val (.int i5), .val (.int i6), .val (.int i7), .val (.int i8), .val (.int t0)] [(.int (0 : Int32))]))
        exact own_endN X hx hlk (t := .boolean) Bd.returns (by simp) (hb hby at_114) rfl hk hn ⟨congrArg (fun z => some (Value.int z)) hF, N, trivial⟩
      · rw [if_neg hc106] at hF
        refine .pre (fun _ k => XS.ifNo X.here hx rfl (hb hby at_106) rfl ((if0 _ _).trans (feq hc106).1) k) ?_
        show OwnEnds p e below _ (T.setTop (mkF m 109 #[.val (.int i0), .val (.int i1), .val (.int i2), .val (.int i3), .val (.int i4), .val (.int i5), .val (.int i6), .val (.int i7), .val (.int i8), .val (.int t0)] []))
        refine .pre (fun _ k => XS.iconst X.here hx rfl (hb hby at_109) k) ?_
        show OwnEnds p e below _ (T.setTop (mkF m 110 #[.val (.int i0), .val (.int i1), .val (.int i2), .val (.int i3), .val (.int i4), .val (.int i5), .val (.int i6), .val (.int i7), .val (.int i8), .val (.int t0)] [(.int (1 : Int32))]))
        refine .pre (fun _ k => XS.goto X.here hx rfl (pc0 := 110) (pc' := 114) rfl (hb hby at_110) (by decide) (by decide) k) ?_
        show OwnEnds p e below _ (T.setTop (mkF m 114 #[.val (.int i0), .val (.int i1), .val (.int i2), .val (.int i3), .val (.int i4), .val (.int i5), .val (.int i6), .val (.int i7), .val (.int i8), .val (.int t0)] [(.int (1 : Int32))]))
        exact own_endN X hx hlk (t := .boolean) Bd.returns (by simp) (hb hby at_114) rfl hk hn ⟨congrArg (fun z => some (Value.int z)) hF, N, trivial⟩
  have B92 : ∀ (T : State) (L : List Loc) (k n : Nat) (X : Stand p l e room_1 s m #[(.int p0), (.int p1)] below meth c T L k n) (eT : T.heap = T2.heap) (N : Fr n0 L) (hk : k ≤ 16) (hn : n ≤ 128) (i0 : Int32) (i1 : Int32) (i2 : Int32) (i3 : Int32) (i4 : Int32) (i5 : Int32) (i6 : Int32) (i7 : Int32) (i8 : Int32), f0_92 i4 = f0_21 p1 (f2_130 ((-57 : Int32) + ((p0 &&& (2147483647 : Int32)) % (121 : Int32))) (f1_0 ((-57 : Int32) + ((p0 &&& (2147483647 : Int32)) % (121 : Int32))))) → OwnEnds p e below (OwnQ s (Q0 Z p0 p1 h0 n0) 16 128) (T.setTop (mkF m 92 #[.val (.int i0), .val (.int i1), .val (.int i2), .val (.int i3), .val (.int i4), .val (.int i5), .val (.int i6), .val (.int i7), .val (.int i8), .unset] [])) := by
    intro T L k n X eT N hk hn i0 i1 i2 i3 i4 i5 i6 i7 i8 hF
    change (f0_97 i4 (1 : Int32)) = _ at hF
    show OwnEnds p e below _ (T.setTop (mkF m 92 #[.val (.int i0), .val (.int i1), .val (.int i2), .val (.int i3), .val (.int i4), .val (.int i5), .val (.int i6), .val (.int i7), .val (.int i8), .unset] []))
    refine .pre (fun _ k => XS.iconst X.here hx rfl (hb hby at_92) k) ?_
    show OwnEnds p e below _ (T.setTop (mkF m 93 #[.val (.int i0), .val (.int i1), .val (.int i2), .val (.int i3), .val (.int i4), .val (.int i5), .val (.int i6), .val (.int i7), .val (.int i8), .unset] [(.int (1 : Int32))]))
    refine .pre (fun _ k => XS.goto X.here hx rfl (pc0 := 93) (pc' := 97) rfl (hb hby at_93) (by decide) (by decide) k) ?_
    exact B97 T _ _ _ X eT N hk hn i0 i1 i2 i3 i4 i5 i6 i7 i8 (1 : Int32) hF
  have B96 : ∀ (T : State) (L : List Loc) (k n : Nat) (X : Stand p l e room_1 s m #[(.int p0), (.int p1)] below meth c T L k n) (eT : T.heap = T2.heap) (N : Fr n0 L) (hk : k ≤ 16) (hn : n ≤ 128) (i0 : Int32) (i1 : Int32) (i2 : Int32) (i3 : Int32) (i4 : Int32) (i5 : Int32) (i6 : Int32) (i7 : Int32) (i8 : Int32), f0_96 i4 = f0_21 p1 (f2_130 ((-57 : Int32) + ((p0 &&& (2147483647 : Int32)) % (121 : Int32))) (f1_0 ((-57 : Int32) + ((p0 &&& (2147483647 : Int32)) % (121 : Int32))))) → OwnEnds p e below (OwnQ s (Q0 Z p0 p1 h0 n0) 16 128) (T.setTop (mkF m 96 #[.val (.int i0), .val (.int i1), .val (.int i2), .val (.int i3), .val (.int i4), .val (.int i5), .val (.int i6), .val (.int i7), .val (.int i8), .unset] [])) := by
    intro T L k n X eT N hk hn i0 i1 i2 i3 i4 i5 i6 i7 i8 hF
    change (f0_97 i4 (0 : Int32)) = _ at hF
    show OwnEnds p e below _ (T.setTop (mkF m 96 #[.val (.int i0), .val (.int i1), .val (.int i2), .val (.int i3), .val (.int i4), .val (.int i5), .val (.int i6), .val (.int i7), .val (.int i8), .unset] []))
    refine .pre (fun _ k => XS.iconst X.here hx rfl (hb hby at_96) k) ?_
    exact B97 T _ _ _ X eT N hk hn i0 i1 i2 i3 i4 i5 i6 i7 i8 (0 : Int32) hF
  have B76 : ∀ (T : State) (L : List Loc) (k n : Nat) (X : Stand p l e room_1 s m #[(.int p0), (.int p1)] below meth c T L k n) (eT : T.heap = T2.heap) (N : Fr n0 L) (hk : k ≤ 16) (hn : n ≤ 128) (i0 : Int32) (i1 : Int32) (i2 : Int32) (i3 : Int32) (i4 : Int32) (i5 : Int32) (i6 : Int32) (i7 : Int32) (i8 : Int32), f0_76 i4 i6 i7 = f0_21 p1 (f2_130 ((-57 : Int32) + ((p0 &&& (2147483647 : Int32)) % (121 : Int32))) (f1_0 ((-57 : Int32) + ((p0 &&& (2147483647 : Int32)) % (121 : Int32))))) → OwnEnds p e below (OwnQ s (Q0 Z p0 p1 h0 n0) 16 128) (T.setTop (mkF m 76 #[.val (.int i0), .val (.int i1), .val (.int i2), .val (.int i3), .val (.int i4), .val (.int i5), .val (.int i6), .val (.int i7), .val (.int i8), .unset] [])) := by
    intro T L k n X eT N hk hn i0 i1 i2 i3 i4 i5 i6 i7 i8 hF
    change (if i7 = i6 then (f0_92 i4) else (if i7 = (i6 + (1 : Int32)) then (f0_92 i4) else (f0_96 i4))) = _ at hF
    show OwnEnds p e below _ (T.setTop (mkF m 76 #[.val (.int i0), .val (.int i1), .val (.int i2), .val (.int i3), .val (.int i4), .val (.int i5), .val (.int i6), .val (.int i7), .val (.int i8), .unset] []))
    refine .pre (fun _ k => XS.iload X.here hx rfl (hb hby at_76) rfl k) ?_
    show OwnEnds p e below _ (T.setTop (mkF m 78 #[.val (.int i0), .val (.int i1), .val (.int i2), .val (.int i3), .val (.int i4), .val (.int i5), .val (.int i6), .val (.int i7), .val (.int i8), .unset] [(.int i7)]))
    refine .pre (fun _ k => XS.iload X.here hx rfl (hb hby at_78) rfl k) ?_
    show OwnEnds p e below _ (T.setTop (mkF m 80 #[.val (.int i0), .val (.int i1), .val (.int i2), .val (.int i3), .val (.int i4), .val (.int i5), .val (.int i6), .val (.int i7), .val (.int i8), .unset] [(.int i6), (.int i7)]))
    by_cases hc80 : i7 = i6
    · rw [if_pos hc80] at hF
      refine .pre (fun _ k => XS.icmpYes X.here hx rfl (pc0 := 80) (pc' := 92) rfl (hb hby at_80) rfl (teq hc80).1 (by decide) (by decide) k) ?_
      exact B92 T _ _ _ X eT N hk hn i0 i1 i2 i3 i4 i5 i6 i7 i8 hF
    · rw [if_neg hc80] at hF
      refine .pre (fun _ k => XS.icmpNo X.here hx rfl (hb hby at_80) rfl (feq hc80).1 k) ?_
      show OwnEnds p e below _ (T.setTop (mkF m 83 #[.val (.int i0), .val (.int i1), .val (.int i2), .val (.int i3), .val (.int i4), .val (.int i5), .val (.int i6), .val (.int i7), .val (.int i8), .unset] []))
      refine .pre (fun _ k => XS.iload X.here hx rfl (hb hby at_83) rfl k) ?_
      show OwnEnds p e below _ (T.setTop (mkF m 85 #[.val (.int i0), .val (.int i1), .val (.int i2), .val (.int i3), .val (.int i4), .val (.int i5), .val (.int i6), .val (.int i7), .val (.int i8), .unset] [(.int i7)]))
      refine .pre (fun _ k => XS.iload X.here hx rfl (hb hby at_85) rfl k) ?_
      show OwnEnds p e below _ (T.setTop (mkF m 87 #[.val (.int i0), .val (.int i1), .val (.int i2), .val (.int i3), .val (.int i4), .val (.int i5), .val (.int i6), .val (.int i7), .val (.int i8), .unset] [(.int i6), (.int i7)]))
      refine .pre (fun _ k => XS.iconst X.here hx rfl (hb hby at_87) k) ?_
      show OwnEnds p e below _ (T.setTop (mkF m 88 #[.val (.int i0), .val (.int i1), .val (.int i2), .val (.int i3), .val (.int i4), .val (.int i5), .val (.int i6), .val (.int i7), .val (.int i8), .unset] [(.int (1 : Int32)), (.int i6), (.int i7)]))
      refine .pre (fun _ k => XS.iadd X.here hx rfl (hb hby at_88) rfl k) ?_
      show OwnEnds p e below _ (T.setTop (mkF m 89 #[.val (.int i0), .val (.int i1), .val (.int i2), .val (.int i3), .val (.int i4), .val (.int i5), .val (.int i6), .val (.int i7), .val (.int i8), .unset] [(.int (i6 + (1 : Int32))), (.int i7)]))
      by_cases hc89 : i7 = (i6 + (1 : Int32))
      · rw [if_pos hc89] at hF
        refine .pre (fun _ k => XS.icmpNo X.here hx rfl (hb hby at_89) rfl (teq hc89).2 k) ?_
        exact B92 T _ _ _ X eT N hk hn i0 i1 i2 i3 i4 i5 i6 i7 i8 hF
      · rw [if_neg hc89] at hF
        refine .pre (fun _ k => XS.icmpYes X.here hx rfl (pc0 := 89) (pc' := 96) rfl (hb hby at_89) rfl (feq hc89).2 (by decide) (by decide) k) ?_
        exact B96 T _ _ _ X eT N hk hn i0 i1 i2 i3 i4 i5 i6 i7 i8 hF
  have B21 : ∀ (T : State) (L : List Loc) (k n : Nat) (X : Stand p l e room_1 s m #[(.int p0), (.int p1)] below meth c T L k n) (eT : T.heap = T2.heap) (N : Fr n0 L) (hk : k ≤ 16) (hn : n ≤ 128) (i0 : Int32) (i1 : Int32) (i2 : Int32) (i3 : Int32) (t0 : Int32), f0_21 i1 t0 = f0_21 p1 (f2_130 ((-57 : Int32) + ((p0 &&& (2147483647 : Int32)) % (121 : Int32))) (f1_0 ((-57 : Int32) + ((p0 &&& (2147483647 : Int32)) % (121 : Int32))))) → OwnEnds p e below (OwnQ s (Q0 Z p0 p1 h0 n0) 16 128) (T.setTop (mkF m 21 #[.val (.int i0), .val (.int i1), .val (.int i2), .val (.int i3), .unset, .unset, .unset, .unset, .unset, .unset] [(.int t0)])) := by
    intro T L k n X eT N hk hn i0 i1 i2 i3 t0 hF
    change (if (f1_0 ((-1073 : Int32) + ((i1 &&& (2147483647 : Int32)) % (2044 : Int32)))) = (f3_0 ((-1073 : Int32) + ((i1 &&& (2147483647 : Int32)) % (2044 : Int32)))) then (f0_76 t0 (f1_0 ((-1073 : Int32) + ((i1 &&& (2147483647 : Int32)) % (2044 : Int32)))) (f1_0 (((-1073 : Int32) + ((i1 &&& (2147483647 : Int32)) % (2044 : Int32))) + (1 : Int32)))) else (if (f1_0 ((-1073 : Int32) + ((i1 &&& (2147483647 : Int32)) % (2044 : Int32)))) = ((f3_0 ((-1073 : Int32) + ((i1 &&& (2147483647 : Int32)) % (2044 : Int32)))) - (1 : Int32)) then (f0_76 t0 (f1_0 ((-1073 : Int32) + ((i1 &&& (2147483647 : Int32)) % (2044 : Int32)))) (f1_0 (((-1073 : Int32) + ((i1 &&& (2147483647 : Int32)) % (2044 : Int32))) + (1 : Int32)))) else (f0_96 t0))) = _ at hF
    show OwnEnds p e below _ (T.setTop (mkF m 21 #[.val (.int i0), .val (.int i1), .val (.int i2), .val (.int i3), .unset, .unset, .unset, .unset, .unset, .unset] [(.int t0)]))
    refine .pre (fun _ k => XS.istore X.here hx rfl (hb hby at_21) rfl (l' := #[.val (.int i0), .val (.int i1), .val (.int i2), .val (.int i3), .val (.int t0), .unset, .unset, .unset, .unset, .unset]) rfl k) ?_
    show OwnEnds p e below _ (T.setTop (mkF m 23 #[.val (.int i0), .val (.int i1), .val (.int i2), .val (.int i3), .val (.int t0), .unset, .unset, .unset, .unset, .unset] []))
    refine .pre (fun _ k => XS.sipush X.here hx rfl (hb hby at_23) k) ?_
    show OwnEnds p e below _ (T.setTop (mkF m 26 #[.val (.int i0), .val (.int i1), .val (.int i2), .val (.int i3), .val (.int t0), .unset, .unset, .unset, .unset, .unset] [(.int (-1073 : Int32))]))
    refine .pre (fun _ k => XS.iloadN X.here hx rfl (hb hby at_26) rfl k) ?_
    show OwnEnds p e below _ (T.setTop (mkF m 27 #[.val (.int i0), .val (.int i1), .val (.int i2), .val (.int i3), .val (.int t0), .unset, .unset, .unset, .unset, .unset] [(.int i1), (.int (-1073 : Int32))]))
    refine .pre (fun _ k => X.ldcInt hx hown (mvT hZ (hw _ (List.mem_of_getElem? (i := 0) rfl))) (g := (mkF m 27 #[.val (.int i0), .val (.int i1), .val (.int i2), .val (.int i3), .val (.int t0), .unset, .unset, .unset, .unset, .unset] [(.int i1), (.int (-1073 : Int32))])) rfl (hb hby at_27) _ k) ?_
    show OwnEnds p e below _ (T.setTop (mkF m 29 #[.val (.int i0), .val (.int i1), .val (.int i2), .val (.int i3), .val (.int t0), .unset, .unset, .unset, .unset, .unset] [(.int (2147483647 : Int32)), (.int i1), (.int (-1073 : Int32))]))
    refine .pre (fun _ k => XS.iand X.here hx rfl (hb hby at_29) rfl k) ?_
    show OwnEnds p e below _ (T.setTop (mkF m 30 #[.val (.int i0), .val (.int i1), .val (.int i2), .val (.int i3), .val (.int t0), .unset, .unset, .unset, .unset, .unset] [(.int (i1 &&& (2147483647 : Int32))), (.int (-1073 : Int32))]))
    refine .pre (fun _ k => XS.sipush X.here hx rfl (hb hby at_30) k) ?_
    show OwnEnds p e below _ (T.setTop (mkF m 33 #[.val (.int i0), .val (.int i1), .val (.int i2), .val (.int i3), .val (.int t0), .unset, .unset, .unset, .unset, .unset] [(.int (2044 : Int32)), (.int (i1 &&& (2147483647 : Int32))), (.int (-1073 : Int32))]))
    refine .pre (fun _ k => iremM X hx rfl (hb hby at_33) rfl (by decide) k) ?_
    show OwnEnds p e below _ (T.setTop (mkF m 34 #[.val (.int i0), .val (.int i1), .val (.int i2), .val (.int i3), .val (.int t0), .unset, .unset, .unset, .unset, .unset] [(.int ((i1 &&& (2147483647 : Int32)) % (2044 : Int32))), (.int (-1073 : Int32))]))
    refine .pre (fun _ k => XS.iadd X.here hx rfl (hb hby at_34) rfl k) ?_
    show OwnEnds p e below _ (T.setTop (mkF m 35 #[.val (.int i0), .val (.int i1), .val (.int i2), .val (.int i3), .val (.int t0), .unset, .unset, .unset, .unset, .unset] [(.int ((-1073 : Int32) + ((i1 &&& (2147483647 : Int32)) % (2044 : Int32))))]))
    refine .pre (fun _ k => XS.istore X.here hx rfl (hb hby at_35) rfl (l' := #[.val (.int i0), .val (.int i1), .val (.int i2), .val (.int i3), .val (.int t0), .val (.int ((-1073 : Int32) + ((i1 &&& (2147483647 : Int32)) % (2044 : Int32)))), .unset, .unset, .unset, .unset]) rfl k) ?_
    show OwnEnds p e below _ (T.setTop (mkF m 37 #[.val (.int i0), .val (.int i1), .val (.int i2), .val (.int i3), .val (.int t0), .val (.int ((-1073 : Int32) + ((i1 &&& (2147483647 : Int32)) % (2044 : Int32)))), .unset, .unset, .unset, .unset] []))
    refine .pre (fun _ k => XS.iload X.here hx rfl (hb hby at_37) rfl k) ?_
    show OwnEnds p e below _ (T.setTop (mkF m 39 #[.val (.int i0), .val (.int i1), .val (.int i2), .val (.int i3), .val (.int t0), .val (.int ((-1073 : Int32) + ((i1 &&& (2147483647 : Int32)) % (2044 : Int32)))), .unset, .unset, .unset, .unset] [(.int ((-1073 : Int32) + ((i1 &&& (2147483647 : Int32)) % (2044 : Int32))))]))
    obtain ⟨_, _, ⟨T6, L6, k6, n6⟩, -, X6, ⟨Lc6, hQ6, l6, y6, z6⟩, st6⟩ := Jvm.LawKit.callS X hx (y := (⟨"com/example/hellowire/hellowire/codec/ShortestDecimal", "floorLog10ThreeQuartersPow2", "(I)I"⟩ : MethodName)) hown (mvT hZ (hw _ (List.mem_of_getElem? (i := 1) rfl))) (mvT hZ (hw _ (List.mem_of_getElem? (i := 2) rfl))) (mvT hZ (hw _ (List.mem_of_getElem? (i := 3) rfl))) (mvT hZ (hw _ (List.mem_of_getElem? (i := 4) rfl))) (by decide) (backOf (W := 0) (rm1 l Z aZ hw [] ((-1073 : Int32) + ((i1 &&& (2147483647 : Int32)) % (2044 : Int32))) T2.heap n0 (Nat.le_trans Z0 K2.1)) hZ (hw _ (List.mem_of_getElem? (i := 4) rfl)) (hw _ (List.mem_of_getElem? (i := 3) rfl)) (by decide) (by decide)) (g := (mkF m 39 #[.val (.int i0), .val (.int i1), .val (.int i2), .val (.int i3), .val (.int t0), .val (.int ((-1073 : Int32) + ((i1 &&& (2147483647 : Int32)) % (2044 : Int32)))), .unset, .unset, .unset, .unset] [(.int ((-1073 : Int32) + ((i1 &&& (2147483647 : Int32)) % (2044 : Int32))))])) rfl (by rw [hml]; rfl) (argsL := [(.int ((-1073 : Int32) + ((i1 &&& (2147483647 : Int32)) % (2044 : Int32))))]) (rest := []) (lenOf pd_2 rfl) rfl (by show 2 * 0 + _ ≤ _; exact Nat.le_of_eq rfl) (hb hby at_39) (fun _ _ => ⟨rfl, eT, Nat.le_trans (Nat.add_le_add_right hk 0) (by decide : 16 + 0 ≤ _), Nat.le_trans (Nat.add_le_add_right hn 0) (by decide : 128 + 0 ≤ _)⟩)
    dsimp only [Pt.U, Pt.locs, Pt.cells, Pt.slots] at X6 l6 y6 z6 st6 hQ6
    subst l6 y6 z6
    obtain ⟨rfl, N6q, e6⟩ := hQ6
    have N6 := Fr.app N N6q
    refine .pre (fun _ k => st6 _ k) ?_
    show OwnEnds p e below _ (T6.setTop (mkF m 42 #[.val (.int i0), .val (.int i1), .val (.int i2), .val (.int i3), .val (.int t0), .val (.int ((-1073 : Int32) + ((i1 &&& (2147483647 : Int32)) % (2044 : Int32)))), .unset, .unset, .unset, .unset] [(.int (f1_0 ((-1073 : Int32) + ((i1 &&& (2147483647 : Int32)) % (2044 : Int32)))))]))
    refine .pre (fun _ k => XS.istore X6.here hx rfl (hb hby at_42) rfl (l' := #[.val (.int i0), .val (.int i1), .val (.int i2), .val (.int i3), .val (.int t0), .val (.int ((-1073 : Int32) + ((i1 &&& (2147483647 : Int32)) % (2044 : Int32)))), .val (.int (f1_0 ((-1073 : Int32) + ((i1 &&& (2147483647 : Int32)) % (2044 : Int32))))), .unset, .unset, .unset]) rfl k) ?_
    show OwnEnds p e below _ (T6.setTop (mkF m 44 #[.val (.int i0), .val (.int i1), .val (.int i2), .val (.int i3), .val (.int t0), .val (.int ((-1073 : Int32) + ((i1 &&& (2147483647 : Int32)) % (2044 : Int32)))), .val (.int (f1_0 ((-1073 : Int32) + ((i1 &&& (2147483647 : Int32)) % (2044 : Int32))))), .unset, .unset, .unset] []))
    refine .pre (fun _ k => XS.iload X6.here hx rfl (hb hby at_44) rfl k) ?_
    show OwnEnds p e below _ (T6.setTop (mkF m 46 #[.val (.int i0), .val (.int i1), .val (.int i2), .val (.int i3), .val (.int t0), .val (.int ((-1073 : Int32) + ((i1 &&& (2147483647 : Int32)) % (2044 : Int32)))), .val (.int (f1_0 ((-1073 : Int32) + ((i1 &&& (2147483647 : Int32)) % (2044 : Int32))))), .unset, .unset, .unset] [(.int ((-1073 : Int32) + ((i1 &&& (2147483647 : Int32)) % (2044 : Int32))))]))
    refine .pre (fun _ k => XS.iconst X6.here hx rfl (hb hby at_46) k) ?_
    show OwnEnds p e below _ (T6.setTop (mkF m 47 #[.val (.int i0), .val (.int i1), .val (.int i2), .val (.int i3), .val (.int t0), .val (.int ((-1073 : Int32) + ((i1 &&& (2147483647 : Int32)) % (2044 : Int32)))), .val (.int (f1_0 ((-1073 : Int32) + ((i1 &&& (2147483647 : Int32)) % (2044 : Int32))))), .unset, .unset, .unset] [(.int (1 : Int32)), (.int ((-1073 : Int32) + ((i1 &&& (2147483647 : Int32)) % (2044 : Int32))))]))
    refine .pre (fun _ k => XS.iadd X6.here hx rfl (hb hby at_47) rfl k) ?_
    show OwnEnds p e below _ (T6.setTop (mkF m 48 #[.val (.int i0), .val (.int i1), .val (.int i2), .val (.int i3), .val (.int t0), .val (.int ((-1073 : Int32) + ((i1 &&& (2147483647 : Int32)) % (2044 : Int32)))), .val (.int (f1_0 ((-1073 : Int32) + ((i1 &&& (2147483647 : Int32)) % (2044 : Int32))))), .unset, .unset, .unset] [(.int (((-1073 : Int32) + ((i1 &&& (2147483647 : Int32)) % (2044 : Int32))) + (1 : Int32)))]))
    obtain ⟨_, _, ⟨T7, L7, k7, n7⟩, -, X7, ⟨Lc7, hQ7, l7, y7, z7⟩, st7⟩ := Jvm.LawKit.callS X6 hx (y := (⟨"com/example/hellowire/hellowire/codec/ShortestDecimal", "floorLog10ThreeQuartersPow2", "(I)I"⟩ : MethodName)) hown (mvT hZ (hw _ (List.mem_of_getElem? (i := 1) rfl))) (mvT hZ (hw _ (List.mem_of_getElem? (i := 2) rfl))) (mvT hZ (hw _ (List.mem_of_getElem? (i := 3) rfl))) (mvT hZ (hw _ (List.mem_of_getElem? (i := 4) rfl))) (by decide) (backOf (W := 0) (rm1 l Z aZ hw [] (((-1073 : Int32) + ((i1 &&& (2147483647 : Int32)) % (2044 : Int32))) + (1 : Int32)) T2.heap n0 (Nat.le_trans Z0 K2.1)) hZ (hw _ (List.mem_of_getElem? (i := 4) rfl)) (hw _ (List.mem_of_getElem? (i := 3) rfl)) (by decide) (by decide)) (g := (mkF m 48 #[.val (.int i0), .val (.int i1), .val (.int i2), .val (.int i3), .val (.int t0), .val (.int ((-1073 : Int32) + ((i1 &&& (2147483647 : Int32)) % (2044 : Int32)))), .val (.int (f1_0 ((-1073 : Int32) + ((i1 &&& (2147483647 : Int32)) % (2044 : Int32))))), .unset, .unset, .unset] [(.int (((-1073 : Int32) + ((i1 &&& (2147483647 : Int32)) % (2044 : Int32))) + (1 : Int32)))])) rfl (by rw [hml]; rfl) (argsL := [(.int (((-1073 : Int32) + ((i1 &&& (2147483647 : Int32)) % (2044 : Int32))) + (1 : Int32)))]) (rest := []) (lenOf pd_2 rfl) rfl (by show 2 * 0 + _ ≤ _; exact Nat.le_of_eq rfl) (hb hby at_48) (fun _ _ => ⟨rfl, e6, Nat.le_trans (Nat.add_le_add_right hk 0) (by decide : 16 + 0 ≤ _), Nat.le_trans (Nat.add_le_add_right hn 0) (by decide : 128 + 0 ≤ _)⟩)
    dsimp only [Pt.U, Pt.locs, Pt.cells, Pt.slots] at X7 l7 y7 z7 st7 hQ7
    subst l7 y7 z7
    obtain ⟨rfl, N7q, e7⟩ := hQ7
    have N7 := Fr.app N6 N7q
    refine .pre (fun _ k => st7 _ k) ?_
    show OwnEnds p e below _ (T7.setTop (mkF m 51 #[.val (.int i0), .val (.int i1), .val (.int i2), .val (.int i3), .val (.int t0), .val (.int ((-1073 : Int32) + ((i1 &&& (2147483647 : Int32)) % (2044 : Int32)))), .val (.int (f1_0 ((-1073 : Int32) + ((i1 &&& (2147483647 : Int32)) % (2044 : Int32))))), .unset, .unset, .unset] [(.int (f1_0 (((-1073 : Int32) + ((i1 &&& (2147483647 : Int32)) % (2044 : Int32))) + (1 : Int32))))]))
    refine .pre (fun _ k => XS.istore X7.here hx rfl (hb hby at_51) rfl (l' := #[.val (.int i0), .val (.int i1), .val (.int i2), .val (.int i3), .val (.int t0), .val (.int ((-1073 : Int32) + ((i1 &&& (2147483647 : Int32)) % (2044 : Int32)))), .val (.int (f1_0 ((-1073 : Int32) + ((i1 &&& (2147483647 : Int32)) % (2044 : Int32))))), .val (.int (f1_0 (((-1073 : Int32) + ((i1 &&& (2147483647 : Int32)) % (2044 : Int32))) + (1 : Int32)))), .unset, .unset]) rfl k) ?_
    show OwnEnds p e below _ (T7.setTop (mkF m 53 #[.val (.int i0), .val (.int i1), .val (.int i2), .val (.int i3), .val (.int t0), .val (.int ((-1073 : Int32) + ((i1 &&& (2147483647 : Int32)) % (2044 : Int32)))), .val (.int (f1_0 ((-1073 : Int32) + ((i1 &&& (2147483647 : Int32)) % (2044 : Int32))))), .val (.int (f1_0 (((-1073 : Int32) + ((i1 &&& (2147483647 : Int32)) % (2044 : Int32))) + (1 : Int32)))), .unset, .unset] []))
    refine .pre (fun _ k => XS.iload X7.here hx rfl (hb hby at_53) rfl k) ?_
    show OwnEnds p e below _ (T7.setTop (mkF m 55 #[.val (.int i0), .val (.int i1), .val (.int i2), .val (.int i3), .val (.int t0), .val (.int ((-1073 : Int32) + ((i1 &&& (2147483647 : Int32)) % (2044 : Int32)))), .val (.int (f1_0 ((-1073 : Int32) + ((i1 &&& (2147483647 : Int32)) % (2044 : Int32))))), .val (.int (f1_0 (((-1073 : Int32) + ((i1 &&& (2147483647 : Int32)) % (2044 : Int32))) + (1 : Int32)))), .unset, .unset] [(.int ((-1073 : Int32) + ((i1 &&& (2147483647 : Int32)) % (2044 : Int32))))]))
    obtain ⟨_, _, ⟨T8, L8, k8, n8⟩, -, X8, ⟨Lc8, hQ8, l8, y8, z8⟩, st8⟩ := Jvm.LawKit.callS X7 hx (y := (⟨"com/example/hellowire/hellowire/codec/ShortestDecimal", "floorLog10Pow2", "(I)I"⟩ : MethodName)) hown (mvT hZ (hw _ (List.mem_of_getElem? (i := 31) rfl))) (mvT hZ (hw _ (List.mem_of_getElem? (i := 32) rfl))) (mvT hZ (hw _ (List.mem_of_getElem? (i := 3) rfl))) (mvT hZ (hw _ (List.mem_of_getElem? (i := 33) rfl))) (by decide) (backOf (W := 0) (rm3 l Z aZ hw [] ((-1073 : Int32) + ((i1 &&& (2147483647 : Int32)) % (2044 : Int32))) T2.heap n0 (Nat.le_trans Z0 K2.1)) hZ (hw _ (List.mem_of_getElem? (i := 33) rfl)) (hw _ (List.mem_of_getElem? (i := 3) rfl)) (by decide) (by decide)) (g := (mkF m 55 #[.val (.int i0), .val (.int i1), .val (.int i2), .val (.int i3), .val (.int t0), .val (.int ((-1073 : Int32) + ((i1 &&& (2147483647 : Int32)) % (2044 : Int32)))), .val (.int (f1_0 ((-1073 : Int32) + ((i1 &&& (2147483647 : Int32)) % (2044 : Int32))))), .val (.int (f1_0 (((-1073 : Int32) + ((i1 &&& (2147483647 : Int32)) % (2044 : Int32))) + (1 : Int32)))), .unset, .unset] [(.int ((-1073 : Int32) + ((i1 &&& (2147483647 : Int32)) % (2044 : Int32))))])) rfl (by rw [hml]; rfl) (argsL := [(.int ((-1073 : Int32) + ((i1 &&& (2147483647 : Int32)) % (2044 : Int32))))]) (rest := []) (lenOf pd_2 rfl) rfl (by show 2 * 0 + _ ≤ _; exact Nat.le_of_eq rfl) (hb hby at_55) (fun _ _ => ⟨rfl, e7, Nat.le_trans (Nat.add_le_add_right hk 0) (by decide : 16 + 0 ≤ _), Nat.le_trans (Nat.add_le_add_right hn 0) (by decide : 128 + 0 ≤ _)⟩)
    dsimp only [Pt.U, Pt.locs, Pt.cells, Pt.slots] at X8 l8 y8 z8 st8 hQ8
    subst l8 y8 z8
    obtain ⟨rfl, N8q, e8⟩ := hQ8
    have N8 := Fr.app N7 N8q
    refine .pre (fun _ k => st8 _ k) ?_
    show OwnEnds p e below _ (T8.setTop (mkF m 58 #[.val (.int i0), .val (.int i1), .val (.int i2), .val (.int i3), .val (.int t0), .val (.int ((-1073 : Int32) + ((i1 &&& (2147483647 : Int32)) % (2044 : Int32)))), .val (.int (f1_0 ((-1073 : Int32) + ((i1 &&& (2147483647 : Int32)) % (2044 : Int32))))), .val (.int (f1_0 (((-1073 : Int32) + ((i1 &&& (2147483647 : Int32)) % (2044 : Int32))) + (1 : Int32)))), .unset, .unset] [(.int (f3_0 ((-1073 : Int32) + ((i1 &&& (2147483647 : Int32)) % (2044 : Int32)))))]))
    refine .pre (fun _ k => XS.istore X8.here hx rfl (hb hby at_58) rfl (l' := #[.val (.int i0), .val (.int i1), .val (.int i2), .val (.int i3), .val (.int t0), .val (.int ((-1073 : Int32) + ((i1 &&& (2147483647 : Int32)) % (2044 : Int32)))), .val (.int (f1_0 ((-1073 : Int32) + ((i1 &&& (2147483647 : Int32)) % (2044 : Int32))))), .val (.int (f1_0 (((-1073 : Int32) + ((i1 &&& (2147483647 : Int32)) % (2044 : Int32))) + (1 : Int32)))), .val (.int (f3_0 ((-1073 : Int32) + ((i1 &&& (2147483647 : Int32)) % (2044 : Int32))))), .unset]) rfl k) ?_
    show OwnEnds p e below _ (T8.setTop (mkF m 60 #[.val (.int i0), .val (.int i1), .val (.int i2), .val (.int i3), .val (.int t0), .val (.int ((-1073 : Int32) + ((i1 &&& (2147483647 : Int32)) % (2044 : Int32)))), .val (.int (f1_0 ((-1073 : Int32) + ((i1 &&& (2147483647 : Int32)) % (2044 : Int32))))), .val (.int (f1_0 (((-1073 : Int32) + ((i1 &&& (2147483647 : Int32)) % (2044 : Int32))) + (1 : Int32)))), .val (.int (f3_0 ((-1073 : Int32) + ((i1 &&& (2147483647 : Int32)) % (2044 : Int32))))), .unset] []))
    refine .pre (fun _ k => XS.iload X8.here hx rfl (hb hby at_60) rfl k) ?_
    show OwnEnds p e below _ (T8.setTop (mkF m 62 #[.val (.int i0), .val (.int i1), .val (.int i2), .val (.int i3), .val (.int t0), .val (.int ((-1073 : Int32) + ((i1 &&& (2147483647 : Int32)) % (2044 : Int32)))), .val (.int (f1_0 ((-1073 : Int32) + ((i1 &&& (2147483647 : Int32)) % (2044 : Int32))))), .val (.int (f1_0 (((-1073 : Int32) + ((i1 &&& (2147483647 : Int32)) % (2044 : Int32))) + (1 : Int32)))), .val (.int (f3_0 ((-1073 : Int32) + ((i1 &&& (2147483647 : Int32)) % (2044 : Int32))))), .unset] [(.int (f1_0 ((-1073 : Int32) + ((i1 &&& (2147483647 : Int32)) % (2044 : Int32)))))]))
    refine .pre (fun _ k => XS.iload X8.here hx rfl (hb hby at_62) rfl k) ?_
    show OwnEnds p e below _ (T8.setTop (mkF m 64 #[.val (.int i0), .val (.int i1), .val (.int i2), .val (.int i3), .val (.int t0), .val (.int ((-1073 : Int32) + ((i1 &&& (2147483647 : Int32)) % (2044 : Int32)))), .val (.int (f1_0 ((-1073 : Int32) + ((i1 &&& (2147483647 : Int32)) % (2044 : Int32))))), .val (.int (f1_0 (((-1073 : Int32) + ((i1 &&& (2147483647 : Int32)) % (2044 : Int32))) + (1 : Int32)))), .val (.int (f3_0 ((-1073 : Int32) + ((i1 &&& (2147483647 : Int32)) % (2044 : Int32))))), .unset] [(.int (f3_0 ((-1073 : Int32) + ((i1 &&& (2147483647 : Int32)) % (2044 : Int32))))), (.int (f1_0 ((-1073 : Int32) + ((i1 &&& (2147483647 : Int32)) % (2044 : Int32)))))]))
    by_cases hc64 : (f1_0 ((-1073 : Int32) + ((i1 &&& (2147483647 : Int32)) % (2044 : Int32)))) = (f3_0 ((-1073 : Int32) + ((i1 &&& (2147483647 : Int32)) % (2044 : Int32))))
    · rw [if_pos hc64] at hF
      refine .pre (fun _ k => XS.icmpYes X8.here hx rfl (pc0 := 64) (pc' := 76) rfl (hb hby at_64) rfl (teq hc64).1 (by decide) (by decide) k) ?_
      exact B76 T8 _ _ _ X8 e8 N8 hk hn i0 i1 i2 i3 t0 ((-1073 : Int32) + ((i1 &&& (2147483647 : Int32)) % (2044 : Int32))) (f1_0 ((-1073 : Int32) + ((i1 &&& (2147483647 : Int32)) % (2044 : Int32)))) (f1_0 (((-1073 : Int32) + ((i1 &&& (2147483647 : Int32)) % (2044 : Int32))) + (1 : Int32))) (f3_0 ((-1073 : Int32) + ((i1 &&& (2147483647 : Int32)) % (2044 : Int32)))) hF
    · rw [if_neg hc64] at hF
      refine .pre (fun _ k => XS.icmpNo X8.here hx rfl (hb hby at_64) rfl (feq hc64).1 k) ?_
      show OwnEnds p e below _ (T8.setTop (mkF m 67 #[.val (.int i0), .val (.int i1), .val (.int i2), .val (.int i3), .val (.int t0), .val (.int ((-1073 : Int32) + ((i1 &&& (2147483647 : Int32)) % (2044 : Int32)))), .val (.int (f1_0 ((-1073 : Int32) + ((i1 &&& (2147483647 : Int32)) % (2044 : Int32))))), .val (.int (f1_0 (((-1073 : Int32) + ((i1 &&& (2147483647 : Int32)) % (2044 : Int32))) + (1 : Int32)))), .val (.int (f3_0 ((-1073 : Int32) + ((i1 &&& (2147483647 : Int32)) % (2044 : Int32))))), .unset] []))
      refine .pre (fun _ k => XS.iload X8.here hx rfl (hb hby at_67) rfl k) ?_
      show OwnEnds p e below _ (T8.setTop (mkF m 69 #[.val (.int i0), .val (.int i1), .val (.int i2), .val (.int i3), .val (.int t0), .val (.int ((-1073 : Int32) + ((i1 &&& (2147483647 : Int32)) % (2044 : Int32)))), .val (.int (f1_0 ((-1073 : Int32) + ((i1 &&& (2147483647 : Int32)) % (2044 : Int32))))), .val (.int (f1_0 (((-1073 : Int32) + ((i1 &&& (2147483647 : Int32)) % (2044 : Int32))) + (1 : Int32)))), .val (.int (f3_0 ((-1073 : Int32) + ((i1 &&& (2147483647 : Int32)) % (2044 : Int32))))), .unset] [(.int (f1_0 ((-1073 : Int32) + ((i1 &&& (2147483647 : Int32)) % (2044 : Int32)))))]))
      refine .pre (fun _ k => XS.iload X8.here hx rfl (hb hby at_69) rfl k) ?_
      show OwnEnds p e below _ (T8.setTop (mkF m 71 #[.val (.int i0), .val (.int i1), .val (.int i2), .val (.int i3), .val (.int t0), .val (.int ((-1073 : Int32) + ((i1 &&& (2147483647 : Int32)) % (2044 : Int32)))), .val (.int (f1_0 ((-1073 : Int32) + ((i1 &&& (2147483647 : Int32)) % (2044 : Int32))))), .val (.int (f1_0 (((-1073 : Int32) + ((i1 &&& (2147483647 : Int32)) % (2044 : Int32))) + (1 : Int32)))), .val (.int (f3_0 ((-1073 : Int32) + ((i1 &&& (2147483647 : Int32)) % (2044 : Int32))))), .unset] [(.int (f3_0 ((-1073 : Int32) + ((i1 &&& (2147483647 : Int32)) % (2044 : Int32))))), (.int (f1_0 ((-1073 : Int32) + ((i1 &&& (2147483647 : Int32)) % (2044 : Int32)))))]))
      refine .pre (fun _ k => XS.iconst X8.here hx rfl (hb hby at_71) k) ?_
      show OwnEnds p e below _ (T8.setTop (mkF m 72 #[.val (.int i0), .val (.int i1), .val (.int i2), .val (.int i3), .val (.int t0), .val (.int ((-1073 : Int32) + ((i1 &&& (2147483647 : Int32)) % (2044 : Int32)))), .val (.int (f1_0 ((-1073 : Int32) + ((i1 &&& (2147483647 : Int32)) % (2044 : Int32))))), .val (.int (f1_0 (((-1073 : Int32) + ((i1 &&& (2147483647 : Int32)) % (2044 : Int32))) + (1 : Int32)))), .val (.int (f3_0 ((-1073 : Int32) + ((i1 &&& (2147483647 : Int32)) % (2044 : Int32))))), .unset] [(.int (1 : Int32)), (.int (f3_0 ((-1073 : Int32) + ((i1 &&& (2147483647 : Int32)) % (2044 : Int32))))), (.int (f1_0 ((-1073 : Int32) + ((i1 &&& (2147483647 : Int32)) % (2044 : Int32)))))]))
      refine .pre (fun _ k => XS.isub X8.here hx rfl (hb hby at_72) rfl k) ?_
      show OwnEnds p e below _ (T8.setTop (mkF m 73 #[.val (.int i0), .val (.int i1), .val (.int i2), .val (.int i3), .val (.int t0), .val (.int ((-1073 : Int32) + ((i1 &&& (2147483647 : Int32)) % (2044 : Int32)))), .val (.int (f1_0 ((-1073 : Int32) + ((i1 &&& (2147483647 : Int32)) % (2044 : Int32))))), .val (.int (f1_0 (((-1073 : Int32) + ((i1 &&& (2147483647 : Int32)) % (2044 : Int32))) + (1 : Int32)))), .val (.int (f3_0 ((-1073 : Int32) + ((i1 &&& (2147483647 : Int32)) % (2044 : Int32))))), .unset] [(.int ((f3_0 ((-1073 : Int32) + ((i1 &&& (2147483647 : Int32)) % (2044 : Int32)))) - (1 : Int32))), (.int (f1_0 ((-1073 : Int32) + ((i1 &&& (2147483647 : Int32)) % (2044 : Int32)))))]))
      by_cases hc73 : (f1_0 ((-1073 : Int32) + ((i1 &&& (2147483647 : Int32)) % (2044 : Int32)))) = ((f3_0 ((-1073 : Int32) + ((i1 &&& (2147483647 : Int32)) % (2044 : Int32)))) - (1 : Int32))
      · rw [if_pos hc73] at hF
        refine .pre (fun _ k => XS.icmpNo X8.here hx rfl (hb hby at_73) rfl (teq hc73).2 k) ?_
        exact B76 T8 _ _ _ X8 e8 N8 hk hn i0 i1 i2 i3 t0 ((-1073 : Int32) + ((i1 &&& (2147483647 : Int32)) % (2044 : Int32))) (f1_0 ((-1073 : Int32) + ((i1 &&& (2147483647 : Int32)) % (2044 : Int32)))) (f1_0 (((-1073 : Int32) + ((i1 &&& (2147483647 : Int32)) % (2044 : Int32))) + (1 : Int32))) (f3_0 ((-1073 : Int32) + ((i1 &&& (2147483647 : Int32)) % (2044 : Int32)))) hF
      · rw [if_neg hc73] at hF
        refine .pre (fun _ k => XS.icmpYes X8.here hx rfl (pc0 := 73) (pc' := 96) rfl (hb hby at_73) rfl (feq hc73).2 (by decide) (by decide) k) ?_
        exact B96 T8 _ _ _ X8 e8 N8 hk hn i0 i1 i2 i3 t0 ((-1073 : Int32) + ((i1 &&& (2147483647 : Int32)) % (2044 : Int32))) (f1_0 ((-1073 : Int32) + ((i1 &&& (2147483647 : Int32)) % (2044 : Int32)))) (f1_0 (((-1073 : Int32) + ((i1 &&& (2147483647 : Int32)) % (2044 : Int32))) + (1 : Int32))) (f3_0 ((-1073 : Int32) + ((i1 &&& (2147483647 : Int32)) % (2044 : Int32)))) hF
  exact B21 T2 _ _ _ X2 rfl N2 (by decide) (by decide) p0 p1 ((-57 : Int32) + ((p0 &&& (2147483647 : Int32)) % (121 : Int32))) (f1_0 ((-57 : Int32) + ((p0 &&& (2147483647 : Int32)) % (121 : Int32)))) (f2_130 ((-57 : Int32) + ((p0 &&& (2147483647 : Int32)) % (121 : Int32))) (f1_0 ((-57 : Int32) + ((p0 &&& (2147483647 : Int32)) % (121 : Int32))))) rfl
set_option maxRecDepth 65536 in
theorem own_A : ∀ n : Nat, n < 121 → f2_130 ((-57 : Int32) + Int32.ofNat n) (f1_0 ((-57 : Int32) + Int32.ofNat n)) = 1 := by decide +kernel
theorem own_r (x m : Int32) (hm : 0 < m.toInt) : 0 ≤ ((x &&& (2147483647 : Int32)) % m).toInt ∧ ((x &&& (2147483647 : Int32)) % m).toInt < m.toInt := by
  have e : (x &&& 2147483647).toInt = x.toInt % 2 ^ 31 := Jvm.Kit.i32_mask x 2147483647 (k := 31) (by decide) (by decide)
  have h0 : 0 ≤ (x &&& 2147483647).toInt := by rw [e]; omega
  rw [Jvm.Kit.i32_rem_nonneg h0]
  exact ⟨Int.emod_nonneg _ (by omega), Int.emod_lt_of_pos _ hm⟩
theorem own_nat (r : Int32) (h : 0 ≤ r.toInt) : r = Int32.ofNat r.toInt.toNat := by
  apply Int32.toInt_inj.mp
  have h2 := r.toInt_lt
  rw [Int32.toInt_ofNat_of_lt (by omega)]
  omega
theorem own_f1 (w : Int32) (h1 : -2000 ≤ w.toInt) (h2 : w.toInt ≤ 2000) : (f1_0 w).toInt = (w.toInt * 1292913986 - 536607788) / 2 ^ 32 := by
  have a1 : (1292913986 : Int64).toInt = 1292913986 := rfl
  have a2 : (-536607788 : Int64).toInt = -536607788 := rfl
  have a3 := Jvm.Kit.i64_of_i32 w
  have a4 : (w.toInt64 * (1292913986 : Int64)).toInt = w.toInt * 1292913986 := by rw [Jvm.Kit.i64_mul (by rw [a1, a3]; omega) (by rw [a1, a3]; omega), a1, a3]
  have a5 : (w.toInt64 * (1292913986 : Int64) + (-536607788 : Int64)).toInt = w.toInt * 1292913986 - 536607788 := by rw [Jvm.Kit.i64_add (by rw [a4, a2]; omega) (by rw [a4, a2]; omega), a4, a2]; omega
  have a6 : ((w.toInt64 * (1292913986 : Int64) + (-536607788 : Int64)) >>> ((32 : Int32) &&& 0x3f).toInt64).toInt = (w.toInt * 1292913986 - 536607788) / 2 ^ 32 := by rw [Jvm.Kit.i64_shr _ _ (k := 32) (by decide), a5]
  show ((w.toInt64 * (1292913986 : Int64) + (-536607788 : Int64)) >>> ((32 : Int32) &&& 0x3f).toInt64).toInt32.toInt = _
  rw [Jvm.Kit.i32_of_i64 (by rw [a6]; omega) (by rw [a6]; omega), a6]
theorem own_f3 (w : Int32) (h1 : -2000 ≤ w.toInt) (h2 : w.toInt ≤ 2000) : (f3_0 w).toInt = (w.toInt * 1292913986) / 2 ^ 32 := by
  have a1 : (1292913986 : Int64).toInt = 1292913986 := rfl
  have a3 := Jvm.Kit.i64_of_i32 w
  have a4 : (w.toInt64 * (1292913986 : Int64)).toInt = w.toInt * 1292913986 := by rw [Jvm.Kit.i64_mul (by rw [a1, a3]; omega) (by rw [a1, a3]; omega), a1, a3]
  have a6 : ((w.toInt64 * (1292913986 : Int64)) >>> ((32 : Int32) &&& 0x3f).toInt64).toInt = (w.toInt * 1292913986) / 2 ^ 32 := by rw [Jvm.Kit.i64_shr _ _ (k := 32) (by decide), a4]
  show ((w.toInt64 * (1292913986 : Int64)) >>> ((32 : Int32) &&& 0x3f).toInt64).toInt32.toInt = _
  rw [Jvm.Kit.i32_of_i64 (by rw [a6]; omega) (by rw [a6]; omega), a6]
theorem own_fl (P : Int) : (P / 4294967296 = (P + 536607788) / 4294967296 ∨ P / 4294967296 = (P + 536607788) / 4294967296 - 1) ∧ ((P + 1292913986) / 4294967296 = P / 4294967296 ∨ (P + 1292913986) / 4294967296 = P / 4294967296 + 1) := by
  omega
theorem own_wide (w : Int32) (h1 : -1999 ≤ w.toInt) (h2 : w.toInt ≤ 1999) : (f1_0 w = f3_0 w ∨ f1_0 w = f3_0 w - 1) ∧ (f1_0 (w + 1) = f1_0 w ∨ f1_0 (w + 1) = f1_0 w + 1) := by
  have o1 : (1 : Int32).toInt = 1 := rfl
  have hw : (w + 1).toInt = w.toInt + 1 := by rw [Jvm.Kit.i32_add (by rw [o1]; omega) (by rw [o1]; omega), o1]
  have ea := own_f1 w (by omega) (by omega)
  have eb := own_f1 (w + 1) (by omega) (by omega)
  have eg := own_f3 w (by omega) (by omega)
  rw [hw] at eb
  have k1 : (w.toInt + 1) * 1292913986 - 536607788 = (w.toInt * 1292913986 - 536607788) + 1292913986 := by omega
  have k2 : w.toInt * 1292913986 = (w.toInt * 1292913986 - 536607788) + 536607788 := by omega
  have b1 : -3000000000000 ≤ w.toInt * 1292913986 - 536607788 := by omega
  have b2 : w.toInt * 1292913986 - 536607788 ≤ 3000000000000 := by omega
  rw [k1] at eb
  rw [k2] at eg
  generalize w.toInt * 1292913986 - 536607788 = P at *
  have q := own_fl P
  have n2 : (2 : Int) ^ 32 = 4294967296 := by decide
  rw [n2] at ea eb eg
  have eg1 : (f3_0 w - 1).toInt = (f3_0 w).toInt - 1 := by rw [Jvm.Kit.i32_sub (by rw [o1]; omega) (by rw [o1]; omega), o1]
  have ea1 : (f1_0 w + 1).toInt = (f1_0 w).toInt + 1 := by rw [Jvm.Kit.i32_add (by rw [o1]; omega) (by rw [o1]; omega), o1]
  simp only [← Int32.toInt_inj, eg1, ea1, ea, eb, eg]
  exact q
theorem own_law (x : Int32) (y : Int32) : f0_21 y (f2_130 ((-57 : Int32) + ((x &&& (2147483647 : Int32)) % (121 : Int32))) (f1_0 ((-57 : Int32) + ((x &&& (2147483647 : Int32)) % (121 : Int32))))) = 1 := by
  have r1 := own_r x 121 (by decide)
  have r2 := own_r y 2044 (by decide)
  have m1 : (121 : Int32).toInt = 121 := rfl
  have m2 : (2044 : Int32).toInt = 2044 := rfl
  have m3 : (-1073 : Int32).toInt = -1073 := rfl
  have hA : f2_130 ((-57 : Int32) + ((x &&& (2147483647 : Int32)) % (121 : Int32))) (f1_0 ((-57 : Int32) + ((x &&& (2147483647 : Int32)) % (121 : Int32)))) = 1 := by
    rw [own_nat _ r1.1]
    exact own_A _ (by omega)
  rw [hA]
  have hw : ((-1073 : Int32) + ((y &&& (2147483647 : Int32)) % (2044 : Int32))).toInt = -1073 + ((y &&& (2147483647 : Int32)) % (2044 : Int32)).toInt := by rw [Jvm.Kit.i32_add (by rw [m3]; omega) (by rw [m3]; omega), m3]
  simp only [f0_21, f0_76, f0_92, f0_96, f0_97]
  generalize (-1073 : Int32) + ((y &&& (2147483647 : Int32)) % (2044 : Int32)) = w at *
  obtain ⟨q1, q2⟩ := own_wide w (by omega) (by omega)
  rcases q1 with q1 | q1 <;> rcases q2 with q2 | q2 <;> simp [q1, q2]
set_option maxRecDepth 65536 in
set_option maxHeartbeats 40000000 in
theorem comes_1 {Post : Tables → Env → Array Value → State → Outcome → State → Prop} (hpost : ∀ tb e args s v u, (limb_1_1.after args s (.returned v) u = true ∧ limb_1_2.after args s (.returned v) u = true ∧ True) → FrameEnd s (.returned v) u (Jvm.fieldLocs frame_1_writes args s ++ Jvm.arrayLocs frame_1_arrays args s ++ Jvm.staticLocs frame_1_statics s) 16 128 → Post tb e args s (.returned v) u) :
    ArmFor flags0 classFile x code maxLocals ret World_1 tables_1 room_1 Calls_1 rest_1 Pre_1 Post := by
  intro l hfl _ _ p e ha hc hk s m args below hf hA hF happ hP
  obtain ⟨hcalls, hrest, hpre⟩ := hP
  obtain ⟨-, -, -, hnamed, -, -, -, hat⟩ := (Spec.applies_iff hf).mp happ
  obtain ⟨hg, hn⟩ := and_e (Cond.before_iff.mp (show (Jvm.Cond.and given_1 narrow_1).before args s = true from hpre))
  obtain ⟨hcount, hg0⟩ := and_e hg
  obtain ⟨ha0, hg1⟩ := and_e hg0
  have ha1 := hg1
  obtain ⟨w0, w1, rfl⟩ : ∃ w0 w1 : Value, args = #[w0, w1] := by
    have hs : args.size = 2 := by simpa [Cond.value, given_1] using hcount
    obtain ⟨L⟩ := args
    match L, hs with
    | [w0, w1], _ => exact ⟨w0, w1, rfl⟩
  have hw := fun d (hd : d ∈ tables_1) => atoms_spec (ws := Jvm.Cond.code x code maxLocals ret :: tables_1) hat d (List.mem_cons_of_mem _ hd)
  have hfit : Fit s := fun {y c} hc i hi => by
    obtain ⟨ha, rfl⟩ := Array.getElem?_eq_some_iff.mp hc
    have q := List.all_eq_true.mp ((Array.all_eq_true_iff_forall_mem.mp hF) _ (Array.getElem_mem ha)) i (List.mem_range.mpr hi)
    simpa [Array.getElem?_eq_getElem hi] using q
  obtain ⟨i0, ei0⟩ := is_v ha0
  obtain rfl : w0 = (.int i0) := Option.some.inj ei0
  obtain ⟨i1, ei1⟩ := is_v ha1
  obtain rfl : w1 = (.int i1) := Option.some.inj ei1
  obtain ⟨n, o, h1, h2, h3, _, L, rfl, ⟨hv, N, -⟩, hq⟩ := rm0 l s _ hw tables_1 i0 i1  s.heap s.heap.size (Nat.le_refl _)  p e ha hc hk s m _ below hf ((Spec.applies_iff_loose hf).mp happ).1 ⟨rfl, State.Warmed39.refl s, rfl⟩ trivial
  rw [own_law] at hv
  subst hv
  refine ⟨n, _, h1, h2, h3, hpost _ _ _ _ _ _ ⟨Cond.after_iff.mpr rfl, Cond.after_iff.mpr (eq_i res_at (Term.int_eval (1)) rfl), trivial⟩ ⟨hq.1, hq.2.1, (hq.2.2.sift fun y hy => Or.inr (N y hy)).mono (by decide) (by decide)⟩⟩
theorem main_1_1 : Claimed_1_1 := comes_1 fun _ _ _ _ _ _ h hF => ⟨h.1, hF⟩
theorem main_1_2 : Claimed_1_2 := comes_1 fun _ _ _ _ _ _ h hF => ⟨h.2.1, hF⟩
end Jvm.Pilot.@@N@@
namespace Jvm.Pilot.@@N@@
open Jvm Jvm.ClassFile Sem Op Lib Jvm.Free Jvm.Stand Jvm.Pilot.@@N@@.Jvm.D
/-! MADE BY PROGRAM (witnessworld.py) out of the Statement's table words and the real class files: 11 classes; the members and pool entries that the words name. The judged class is class 1, her method 1. -/
namespace start1
open Jvm.ClassFile
def u (s : String) : CpInfo := .utf8 (stringToUtf16 s)
/-- a pool by its gaps: so many unusable entries, then the entry; so many at the end -/
def gap : Nat → List CpInfo → List CpInfo
  | 0, r => r
  | n + 1, r => .unusable :: gap n r
def poolList (es : List (Nat × CpInfo)) (last : Nat) : List CpInfo := es.foldr (fun e r => gap e.1 (e.2 :: r)) (gap last [])
def pool (es : List (Nat × CpInfo)) (last : Nat) : Array CpInfo := ⟨poolList es last⟩
def fileOf (pool : Array CpInfo) (this : Nat) (attrs : Array Attribute := #[]) (ms : Array MethodInfo := #[]) (fl : Nat := 33) (sup : Nat := 0) (ifs : Array Nat := #[]) (fds : Array FieldInfo := #[]) : ClassFile where
  minorVersion := 0
  majorVersion := 65
  constantPool := pool
  accessFlags := fl
  thisClass := this
  superClass := sup
  interfaces := ifs
  fields := fds
  methods := ms
  attributes := attrs
def plain (name : String) (sup : Option ClassId) : Class where
  name := name
  kind := .ordinary
  loader := none
  accessFlags := 33
  super := sup
  interfaces := #[]
  cf := none
  fields := #[]
  methods := #[]
  instanceTypes := #[]
  staticTypes := #[]
  resolved := #[]
  callSites := []
  init := .initialized
  statics := none
  mirror := none

def pool0 : Array CpInfo := pool [(5, u "<init>"), (0, u "()V"), (1, .class_ 10), (1, u "java/lang/Object")] 113

def k0m0 : Method := { name := "<init>", desc := "()V", sig := { parameters := [], returnType := none }, accessFlags := 1, code := none }
/-- java/lang/Object -/
def k0 : Class := { plain "java/lang/Object" none with
  accessFlags := 33
  interfaces := #[]
  cf := some (fileOf pool0 8 #[] #[{ accessFlags := 1, nameIndex := 5, descriptorIndex := 6, attributes := #[] }] 33 0 #[] #[])
  fields := #[]
  methods := #[k0m0]
  instanceTypes := #[]
  staticTypes := #[]
  resolved := Array.replicate 124 none
  statics := none }

def pool1 : Array CpInfo := pool [(2, .class_ 4), (1, u "java/lang/Object"), (0, u "<init>"), (0, u "()V"), (0, .integer 2147483647), (0, .methodref 9 10), (0, .class_ 11), (0, .nameAndType 12 13), (0, u "com/example/hellowire/hellowire/codec/ShortestDecimal"), (0, u "floorLog10ThreeQuartersPow2"), (0, u "(I)I"), (0, .methodref 15 16), (0, .class_ 17), (0, .nameAndType 18 19), (0, u "com/example/hellowire/hellowire/codec/ShortestDecimalFloorLog10ThreeQuartersPow2PinLaw"), (0, u "exactOk"), (0, u "(II)Z"), (0, .methodref 9 21), (0, .nameAndType 22 13), (0, u "floorLog10Pow2"), (0, .long 10), (1, .long 100), (1, .long 1000), (1, .long 10000), (1, .long 100000), (1, .long 1000000), (1, .long 10000000), (1, .long 100000000), (1, .long 1000000000), (1, .long 10000000000), (1, .long 100000000000), (1, .long 1000000000000), (1, .long 10000000000000), (1, .long 100000000000000), (1, .long 1000000000000000), (1, .long 10000000000000000), (1, .long 100000000000000000), (1, .long 1000000000000000000), (1, .long 3), (3, u "law")] 5

def k1m0 : Method := { name := "<init>", desc := "()V", sig := { parameters := [], returnType := none }, accessFlags := 2, code := none }
def k1c1 : Code := { maxStack := 3, maxLocals := 10, code := code, exceptionTable := #[], attributes := #[] }
def k1m1 : Method := { name := "law", desc := "(II)Z", sig := { parameters := [.int, .int], returnType := some .boolean }, accessFlags := 9, code := some k1c1 }
def k1c2 : Code := { maxStack := 6, maxLocals := 9, code := method_3_code, exceptionTable := #[], attributes := #[] }
def k1m2 : Method := { name := "exactOk", desc := "(II)Z", sig := { parameters := [.int, .int], returnType := some .boolean }, accessFlags := 10, code := some k1c2 }
/-- com/example/hellowire/hellowire/codec/ShortestDecimalFloorLog10ThreeQuartersPow2PinLaw -/
def k1 : Class := { plain "com/example/hellowire/hellowire/codec/ShortestDecimalFloorLog10ThreeQuartersPow2PinLaw" (some 0) with
  accessFlags := 49
  interfaces := #[]
  cf := some (fileOf pool1 15 #[] #[{ accessFlags := 2, nameIndex := 5, descriptorIndex := 6, attributes := #[] }, { accessFlags := 9, nameIndex := 63, descriptorIndex := 19, attributes := #[] }, { accessFlags := 10, nameIndex := 18, descriptorIndex := 19, attributes := #[] }] 49 2 #[] #[])
  fields := #[]
  methods := #[k1m0, k1m1, k1m2]
  instanceTypes := #[]
  staticTypes := #[]
  resolved := Array.replicate 69 none
  statics := none }

def pool2 : Array CpInfo := pool [(2, .class_ 4), (1, u "java/lang/Object"), (0, u "<init>"), (0, u "()V"), (23, .class_ 31), (0, u "com/example/hellowire/hellowire/codec/ShortestDecimal"), (28, u "floorLog10ThreeQuartersPow2"), (0, u "(I)I"), (2, u "floorLog10Pow2"), (0, .class_ 66), (0, u "com/example/hellowire/hellowire/codec/ShortestDecimal$Interval"), (18, .long 1292913986), (1, .long 18446744073172943828), (45, u "FIVE"), (0, u "Ljava/math/BigInteger;"), (2, u "POWERS_OF_FIVE"), (0, u "[J"), (0, u "FRACTION_MASK"), (0, u "J"), (1, u "HIDDEN_BIT"), (0, u "MIN_EXPONENT"), (0, u "I"), (1, u "LOG10_2"), (0, u "LOG10_THREE_QUARTERS")] 36

def k2m0 : Method := { name := "<init>", desc := "()V", sig := { parameters := [], returnType := none }, accessFlags := 2, code := none }
def k2c1 : Code := { maxStack := 4, maxLocals := 1, code := prog_43_method_4_code, exceptionTable := #[], attributes := #[] }
def k2m1 : Method := { name := "floorLog10Pow2", desc := "(I)I", sig := { parameters := [.int], returnType := some .int }, accessFlags := 8, code := some k2c1 }
def k2c2 : Code := { maxStack := 4, maxLocals := 1, code := prog_43_method_5_code, exceptionTable := #[], attributes := #[] }
def k2m2 : Method := { name := "floorLog10ThreeQuartersPow2", desc := "(I)I", sig := { parameters := [.int], returnType := some .int }, accessFlags := 8, code := some k2c2 }
/-- com/example/hellowire/hellowire/codec/ShortestDecimal -/
def k2 : Class := { plain "com/example/hellowire/hellowire/codec/ShortestDecimal" (some 0) with
  accessFlags := 48
  interfaces := #[]
  cf := some (fileOf pool2 30 #[.nestMembers #[65]] #[{ accessFlags := 2, nameIndex := 5, descriptorIndex := 6, attributes := #[] }, { accessFlags := 8, nameIndex := 64, descriptorIndex := 61, attributes := #[] }, { accessFlags := 8, nameIndex := 60, descriptorIndex := 61, attributes := #[] }] 48 2 #[] #[{ accessFlags := 26, nameIndex := 139, descriptorIndex := 140, attributes := #[] }, { accessFlags := 26, nameIndex := 142, descriptorIndex := 140, attributes := #[] }, { accessFlags := 26, nameIndex := 143, descriptorIndex := 144, attributes := #[] }, { accessFlags := 26, nameIndex := 146, descriptorIndex := 140, attributes := #[] }, { accessFlags := 26, nameIndex := 147, descriptorIndex := 140, attributes := #[] }, { accessFlags := 26, nameIndex := 133, descriptorIndex := 134, attributes := #[] }, { accessFlags := 26, nameIndex := 137, descriptorIndex := 138, attributes := #[] }])
  fields := #[{ name := "FRACTION_MASK", type := .long, accessFlags := 26, slot := 0, constantValue := 0 }, { name := "HIDDEN_BIT", type := .long, accessFlags := 26, slot := 1, constantValue := 0 }, { name := "MIN_EXPONENT", type := .int, accessFlags := 26, slot := 2, constantValue := 0 }, { name := "LOG10_2", type := .long, accessFlags := 26, slot := 3, constantValue := 0 }, { name := "LOG10_THREE_QUARTERS", type := .long, accessFlags := 26, slot := 4, constantValue := 0 }, { name := "FIVE", type := (.object "java/math/BigInteger"), accessFlags := 26, slot := 5, constantValue := 0 }, { name := "POWERS_OF_FIVE", type := (.array .long), accessFlags := 26, slot := 6, constantValue := 0 }]
  methods := #[k2m0, k2m1, k2m2]
  instanceTypes := #[]
  staticTypes := #[.long, .long, .int, .long, .long, (.object "java/math/BigInteger"), (.array .long)]
  resolved := Array.replicate 184 none
  statics := none }

def pool3 : Array CpInfo := pool [(1, u "java/lang/Cloneable"), (0, .class_ 1), (0, u "java/lang/Object"), (0, .class_ 3)] 3

/-- java/lang/Cloneable -/
def k3 : Class := { plain "java/lang/Cloneable" (some 0) with
  accessFlags := 1537
  interfaces := #[]
  cf := some (fileOf pool3 2 #[] #[] 1537 4 #[] #[])
  fields := #[]
  methods := #[]
  instanceTypes := #[]
  staticTypes := #[]
  resolved := Array.replicate 8 none
  statics := none }

def pool4 : Array CpInfo := pool [(1, u "java/io/Serializable"), (0, .class_ 1), (0, u "java/lang/Object"), (0, .class_ 3)] 3

/-- java/io/Serializable -/
def k4 : Class := { plain "java/io/Serializable" (some 0) with
  accessFlags := 1537
  interfaces := #[]
  cf := some (fileOf pool4 2 #[] #[] 1537 4 #[] #[])
  fields := #[]
  methods := #[]
  instanceTypes := #[]
  staticTypes := #[]
  resolved := Array.replicate 8 none
  statics := none }

/-- the primitive byte -/
def k5 : Class := { plain "byte" none with kind := .primitive 'B', accessFlags := 0x411 }
/-- [B -/
def k6 : Class := { plain "[B" (some 0) with kind := .array 5 .byte, interfaces := #[3, 4], accessFlags := 1041 }

/-- the primitive int -/
def k7 : Class := { plain "int" none with kind := .primitive 'I', accessFlags := 0x411 }
/-- [I -/
def k8 : Class := { plain "[I" (some 0) with kind := .array 7 .int, interfaces := #[3, 4], accessFlags := 1041 }

/-- the primitive long -/
def k9 : Class := { plain "long" none with kind := .primitive 'J', accessFlags := 0x411 }
/-- [J -/
def k10 : Class := { plain "[J" (some 0) with kind := .array 9 .long, interfaces := #[3, 4], accessFlags := 1041 }

def heap : Heap := #[]
def classes : Array Class := #[k0, k1, k2, k3, k4, k5, k6, k7, k8, k9, k10]
def interned : List (Array UInt16 × Addr) := []
def slotsUsed : Nat := 0
def theMethod : MethodId := ⟨1, 1⟩
def args0 : Array Value := #[.int 32, .int 7]
def aboutOver (below : List Frame) : State where
  vm := { classes := classes, interned := interned.toArray }
  heap := heap
  slotsUsed := slotsUsed
  threads := #[{ frames := .invoking theMethod args0 :: below }]
def below0 : List Frame := [.native { method := ⟨0, 0⟩, args := #[] }]
def about1 : State := aboutOver below0
def p0 : Program := .bare "" "" ""
def e0 : Env := launch0.env 0 0 0
theorem w_frames : about1.frames = Frame.invoking theMethod args0 :: below0 := rfl
set_option maxRecDepth 65536 in
theorem w_args : argsFit about1.vm theMethod args0 = true := by decide +kernel
set_option maxRecDepth 65536 in
theorem w_heap : heapFits about1 = true := by decide +kernel
set_option maxRecDepth 65536 in
theorem w_runnable : about1.curStatus? = some .runnable := by decide +kernel
set_option maxRecDepth 65536 in
theorem w_alone : about1.alone = true := by decide +kernel
set_option maxRecDepth 65536 in
theorem w_named : about1.methodNamed? x = some theMethod := by decide +kernel
set_option maxRecDepth 65536 in
theorem w_hears : about1.hears theMethod below0 = true := by decide +kernel
set_option maxRecDepth 65536 in
theorem w_ripe : about1.ripe theMethod args0 below0 = true := by decide +kernel
theorem w_running : about1.status = .running := rfl
set_option maxRecDepth 65536 in
theorem w_room : about1.hasRoom e0.platform room_1 = true :=
  launch0.hasRoom_least _ room_1 (by decide +kernel) (by decide +kernel) (by decide +kernel) (by decide +kernel) (by decide +kernel) (by decide +kernel)
theorem allAtoms_all (ts : List Jvm.Cond) (a : Array Jvm.Value) (st : Jvm.State) : (allAtoms ts).before a st = ts.all (fun c => c.before a st) := by
  induction ts with
  | nil => rfl
  | cons c t ih =>
    show (Jvm.Cond.and c (allAtoms t)).before a st = _
    rw [Jvm.Cond.before_and, ih, List.all_cons]
def words1 : List Jvm.Cond := Jvm.Cond.code x code maxLocals ret :: tables_1
/-- a 'code' word, met by the world's own term for the bytes: nothing is compared byte by byte -/
theorem code_word {y : MethodName} {bytes : ByteArray} {mx : Nat} {rt : Option FieldType} {a : Array Value} {s : State} {m : MethodId} {meth : Method} {c : Code} (h1 : s.methodNamed? y = some m) (h2 : s.vm.method? m = some meth) (h3 : meth.code = some c) (h4 : c.code = bytes)
    (h5 : (c.maxLocals == mx && c.exceptionTable.isEmpty && decide (c.maxStack ≤ mostOperands) && decide (meth.sig.returnType = rt) && !meth.locks && decide (parseMethodDescriptor y.desc = some meth.sig)) = true) : (Jvm.Cond.code y bytes mx rt).before a s = true := by
  simp only [Bool.and_eq_true, beq_iff_eq, Bool.not_eq_true', decide_eq_true_eq] at h5
  obtain ⟨⟨⟨⟨⟨g1, g2⟩, g3⟩, g4⟩, g5⟩, g6⟩ := h5
  simp [Cond.before, Cond.holds, Cond.value, h1, h2, h3, h4, g1, g2, g3, g4, g5, g6]
def isCode : Jvm.Cond → Bool
  | .code _ _ _ _ => true
  | _ => false
theorem all_split {L : List Jvm.Cond} {P : Jvm.Cond → Bool} (h1 : L.all (fun c => isCode c || P c) = true) (h2 : ∀ c ∈ L.filter isCode, P c = true) : L.all P = true := by
  refine List.all_eq_true.mpr fun c hc => ?_
  have h := List.all_eq_true.mp h1 c hc
  rcases Bool.eq_false_or_eq_true (isCode c) with hi | hi
  · exact h2 c (List.mem_filter.mpr ⟨hc, hi⟩)
  · simpa [hi] using h
set_option maxRecDepth 65536 in
theorem w_c0 : (Jvm.Cond.code x code maxLocals ret).before args0 about1 = true := code_word (m := ⟨1, 1⟩) (meth := k1m1) (c := k1c1) (by decide +kernel) rfl rfl rfl (by decide +kernel)
set_option maxRecDepth 65536 in
theorem w_c1 : (Jvm.Cond.code ({ cls := "com/example/hellowire/hellowire/codec/ShortestDecimal", name := "floorLog10ThreeQuartersPow2", desc := "(I)I" } : Jvm.MethodName) prog_43_method_5_code (1 : Nat) (Option.some Jvm.ClassFile.FieldType.int)).before args0 about1 = true := code_word (m := ⟨2, 2⟩) (meth := k2m2) (c := k2c2) (by decide +kernel) rfl rfl rfl (by decide +kernel)
set_option maxRecDepth 65536 in
theorem w_c2 : (Jvm.Cond.code ({ cls := "com/example/hellowire/hellowire/codec/ShortestDecimalFloorLog10ThreeQuartersPow2PinLaw", name := "exactOk", desc := "(II)Z" } : Jvm.MethodName) method_3_code (9 : Nat) (Option.some Jvm.ClassFile.FieldType.boolean)).before args0 about1 = true := code_word (m := ⟨1, 2⟩) (meth := k1m2) (c := k1c2) (by decide +kernel) rfl rfl rfl (by decide +kernel)
set_option maxRecDepth 65536 in
theorem w_c3 : (Jvm.Cond.code ({ cls := "com/example/hellowire/hellowire/codec/ShortestDecimal", name := "floorLog10Pow2", desc := "(I)I" } : Jvm.MethodName) prog_43_method_4_code (1 : Nat) (Option.some Jvm.ClassFile.FieldType.int)).before args0 about1 = true := code_word (m := ⟨2, 1⟩) (meth := k2m1) (c := k2c1) (by decide +kernel) rfl rfl rfl (by decide +kernel)
def codes1 : List Jvm.Cond := [Jvm.Cond.code x code maxLocals ret, Jvm.Cond.code ({ cls := "com/example/hellowire/hellowire/codec/ShortestDecimal", name := "floorLog10ThreeQuartersPow2", desc := "(I)I" } : Jvm.MethodName) prog_43_method_5_code (1 : Nat) (Option.some Jvm.ClassFile.FieldType.int), Jvm.Cond.code ({ cls := "com/example/hellowire/hellowire/codec/ShortestDecimalFloorLog10ThreeQuartersPow2PinLaw", name := "exactOk", desc := "(II)Z" } : Jvm.MethodName) method_3_code (9 : Nat) (Option.some Jvm.ClassFile.FieldType.boolean), Jvm.Cond.code ({ cls := "com/example/hellowire/hellowire/codec/ShortestDecimal", name := "floorLog10Pow2", desc := "(I)I" } : Jvm.MethodName) prog_43_method_4_code (1 : Nat) (Option.some Jvm.ClassFile.FieldType.int)]
set_option maxRecDepth 65536 in
theorem codes_eq : words1.filter isCode = codes1 := rfl
theorem w_codes : ∀ c ∈ words1.filter isCode, c.before args0 about1 = true := by
  rw [codes_eq]
  intro c hc
  simp only [codes1, List.mem_cons, List.not_mem_nil, or_false] at hc
  rcases hc with rfl | rfl | rfl | rfl
  · exact w_c0
  · exact w_c1
  · exact w_c2
  · exact w_c3
set_option maxRecDepth 65536 in
theorem w_t1 : (words1.take 24).all (fun c => isCode c || c.before args0 about1) = true := by decide +kernel
set_option maxRecDepth 65536 in
theorem w_t2 : (words1.drop 24).all (fun c => isCode c || c.before args0 about1) = true := by decide +kernel
theorem w_tables : (allAtoms (Jvm.Cond.code x code maxLocals ret :: tables_1)).before args0 about1 = true := by
  rw [allAtoms_all]
  show words1.all (fun c => c.before args0 about1) = true
  refine all_split ?_ w_codes
  rw [← List.take_append_drop 24 words1, List.all_append, w_t1, w_t2]
  rfl
set_option maxRecDepth 65536 in
theorem w_case : (Jvm.Cond.and given_1 narrow_1).before args0 about1 = true := by decide +kernel
theorem w_applies : (headSpec (Jvm.Cond.code x code maxLocals ret :: tables_1) room_1).applies x e0.platform about1 = true :=
  (Spec.applies_iff w_frames).mpr ⟨w_running, w_runnable, w_alone, w_named, w_hears, w_ripe, w_room, w_tables⟩
theorem atStart : AtStart classFile x code maxLocals ret World_1 tables_1 room_1 Calls_1 rest_1 Pre_1 launch0 p0 e0 about1 theMethod args0 below0 :=
  ⟨lists_1, trivial, launch0.admits_env _ _ _, launch0.least_env, fairChoices_fair.cas, fairChoices_fair.clock, w_frames, w_args, w_heap, w_applies, trivial, trivial, w_case⟩
end start1
theorem witness_1 : WitnessClaimed_1 := ⟨start1.p0, start1.e0, start1.about1, start1.theMethod, start1.args0, start1.below0, start1.atStart⟩
end Jvm.Pilot.@@N@@
