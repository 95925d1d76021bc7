import JvmDerived
import JvmDerived.Pilot.@@N@@Statement
import JvmDerived.Pilot.@@N@@Code
set_option linter.unusedVariables false
set_option linter.unusedSimpArgs false
@@BLOCK:NumsL.lean.txt@@
namespace Jvm.RoadKit
open Sem ClassFile Op Lib Jvm.Stand Jvm.Free Jvm.LawKit
section New
variable {p : Program} {l : Launch} {e : Env} {R : Room} {s : State} {m : MethodId} {args : Array Value} {below : List Frame} {meth : Method} {c : Code} {T : State} {locs : List Loc} {cells slots : Nat}
theorem retI (X : Stand p l e R s m args below meth c T locs cells slots) (hx : p.tables.exec = Jvm.exec) {pc : Nat} {Ls : Array Slot} {z : Int32} {rest : List Value} (hret : meth.sig.returnType = some .int) (hd : decode c.code pc = .ok (.ireturn, 1)) {fs : List Frame}
    (hl : ∀ (f : JFrame) (acts : List Action), f.method = m → f.locked = none → f.entered = [] → (doReturn e (T.setTop f) acts (some (.int z))).1 = T.setFrames fs) : Steps p.tables e below (T.setTop (mkF m pc Ls (.int z :: rest))) (T.setFrames fs) := by
  have hm' : T.vm.method? m = some meth := X.method'
  have hn : narrow .int (.int z) = .int z := rfl
  show Steps p.tables e below (T.setTop { method := m, pc := pc, locals := Ls, stack := _ :: rest, locked := none }) _
  jvm_step X.here [X.here.top, hx, hd, hm', hret, hn]
  first | (intro acts; rw [hl _ acts rfl rfl rfl]) | rw [hl _ _ rfl rfl rfl]
  exact Steps.refl _
/-- from U the run comes to its end, and Q holds there -/
def OwnEnds (p : Program) (e : Env) (below : List Frame) (Q : Outcome → State → Prop) (U : State) : Prop := ∃ s₂ o, Steps p.tables e below U s₂ ∧ s₂.status = .running ∧ Ended s₂ below o ∧ Q o s₂
theorem OwnEnds.pre {Q : Outcome → State → Prop} {U U' : State} (h : ∀ t, Steps p.tables e below U' t → Steps p.tables e below U t) (k : OwnEnds p e below Q U') : OwnEnds p e below Q U := by
  obtain ⟨s₂, o, h1, h2⟩ := k
  exact ⟨s₂, o, h _ h1, h2⟩
def OwnQ (s : State) (Q : Option Value → Heap → List Loc → Prop) (C S : Nat) : Outcome → State → Prop := fun o U' => ∃ v L, o = .returned v ∧ Q v U'.heap L ∧ FrameEnd s o U' L C S
theorem own_endI (X : Stand p l e R s m args below meth c T locs cells slots) (hx : p.tables.exec = Jvm.exec) (hlocks : meth.locks = false) {pc : Nat} {Ls : Array Slot} {z : Int32} {rest : List Value} (hret : meth.sig.returnType = some .int) (hd : decode c.code pc = .ok (.ireturn, 1))
    {Q : Option Value → Heap → List Loc → Prop} {C S : Nat} (hC : cells ≤ C) (hS : slots ≤ S) (hQ : Q (some (.int z)) T.heap locs) : OwnEnds p e below (OwnQ s Q C S) (T.setTop (mkF m pc Ls (.int z :: rest))) := by
  obtain ⟨fs, hr, hrun, hended, hW, hsame⟩ := X.leave (v := some (.int z)) (fun h => by rw [hret] at h; cases h) hlocks
  exact ⟨_, _, retI X hx hret hd hr, hrun, hended, _, _, rfl, hQ, ⟨_, rfl⟩, hW, hsame.mono hC hS⟩
theorem own_endN (X : Stand p l e R s m args below meth c T locs cells slots) (hx : p.tables.exec = Jvm.exec) (hlocks : meth.locks = false) {pc : Nat} {Ls : Array Slot} {z z' : Int32} {t : FieldType} {rest : List Value} (hret : meth.sig.returnType = some t) (ht : t = .boolean ∨ t = .byte ∨ t = .char ∨ t = .short) (hd : decode c.code pc = .ok (.ireturn, 1)) (hz : nar t z = z')
    {Q : Option Value → Heap → List Loc → Prop} {C S : Nat} (hC : cells ≤ C) (hS : slots ≤ S) (hQ : Q (some (.int z')) T.heap locs) : OwnEnds p e below (OwnQ s Q C S) (T.setTop (mkF m pc Ls (.int z :: rest))) := by
  subst hz
  obtain ⟨fs, hr, hrun, hended, hW, hsame⟩ := X.leave (v := some (.int (nar t z))) (fun h => by rw [hret] at h; cases h) hlocks
  exact ⟨_, _, retN X hx hret ht hd hr, hrun, hended, _, _, rfl, hQ, ⟨_, rfl⟩, hW, hsame.mono hC hS⟩
theorem own_endJ (X : Stand p l e R s m args below meth c T locs cells slots) (hx : p.tables.exec = Jvm.exec) (hlocks : meth.locks = false) {pc : Nat} {Ls : Array Slot} {z : Int64} (hret : meth.sig.returnType = some .long) (hd : decode c.code pc = .ok (.lreturn, 1))
    {Q : Option Value → Heap → List Loc → Prop} {C S : Nat} (hC : cells ≤ C) (hS : slots ≤ S) (hQ : Q (some (.long z)) T.heap locs) : OwnEnds p e below (OwnQ s Q C S) (T.setTop (mkF m pc Ls [.long z])) := by
  obtain ⟨fs, hr, hrun, hended, hW, hsame⟩ := X.leave (v := some (.long z)) (fun h => by rw [hret] at h; cases h) hlocks
  exact ⟨_, _, X.lreturnOut hx hret hd hr, hrun, hended, _, _, rfl, hQ, ⟨_, rfl⟩, hW, hsame.mono hC hS⟩
theorem own_endV (X : Stand p l e R s m args below meth c T locs cells slots) (hx : p.tables.exec = Jvm.exec) (hlocks : meth.locks = false) {pc : Nat} {Ls : Array Slot} (hret : meth.sig.returnType = none) (hd : decode c.code pc = .ok (.return_, 1))
    {Q : Option Value → Heap → List Loc → Prop} {C S : Nat} (hC : cells ≤ C) (hS : slots ≤ S) (hQ : Q none T.heap locs) : OwnEnds p e below (OwnQ s Q C S) (T.setTop (mkF m pc Ls [])) := by
  obtain ⟨fs, hr, hrun, hended, hW, hsame⟩ := X.leave (v := none) (fun _ => rfl) hlocks
  exact ⟨_, _, X.returnOut hx hret hd hr, hrun, hended, _, _, rfl, hQ, ⟨_, rfl⟩, hW, hsame.mono hC hS⟩
theorem own_endR (X : Stand p l e R s m args below meth c T locs cells slots) (hx : p.tables.exec = Jvm.exec) (hlocks : meth.locks = false) {pc : Nat} {Ls : Array Slot} {w : Value} {t : FieldType} {rest : List Value} (hret : meth.sig.returnType = some t) (ht : t.isReference = true) (hw : w.isRef = true) (hd : decode c.code pc = .ok (.areturn, 1))
    {Q : Option Value → Heap → List Loc → Prop} {C S : Nat} (hC : cells ≤ C) (hS : slots ≤ S) (hQ : Q (some w) T.heap locs) : OwnEnds p e below (OwnQ s Q C S) (T.setTop (mkF m pc Ls (w :: rest))) := by
  obtain ⟨fs, hr, hrun, hended, hW, hsame⟩ := X.leave (v := some w) (fun h => by rw [hret] at h; cases h) hlocks
  have hn : narrow t w = w := by cases t <;> first | rfl | (cases ht)
  exact ⟨_, _, retOut X hx hret hn (Or.inr (Or.inr (Or.inr (Or.inr ⟨rfl, ht, hw⟩)))) hd hr, hrun, hended, _, _, rfl, hQ, ⟨_, rfl⟩, hW, hsame.mono hC hS⟩
theorem own_getI (l : List Int32) (i : Nat) : (l.map Value.int).getD i (.int 0) = .int (l.getD i 0) := by
  simp only [List.getD_eq_getElem?_getD, List.getElem?_map]
  cases l[i]? <;> rfl
theorem own_getJ (l : List Int64) (i : Nat) : (l.map Value.long).getD i (.long 0) = .long (l.getD i 0) := by
  simp only [List.getD_eq_getElem?_getD, List.getElem?_map]
  cases l[i]? <;> rfl
theorem own_nin0 {a : Addr} : a ∉ ([] : List Addr) := List.not_mem_nil
theorem own_nin1 {a b : Addr} (h : a ≠ b) : a ∉ [b] := by simpa using h
theorem own_nin2 {a b c : Addr} (h : a ≠ b) (h' : a ≠ c) : a ∉ [b, c] := by simpa using ⟨h, h'⟩
theorem own_staK0 {Z : State} {h h' : Heap} {C n d : String} {v : Value} (F : Sta Z h C n d v) (K : Keep h h' []) : Sta Z h' C n d v := by
  obtain ⟨cf, i, k, f, st, cell, h1, h2, h3, h4, h5, h6, h7⟩ := F
  exact ⟨cf, i, k, f, st, cell, h1, h2, h3, h4, K.2.1 st cell h5 own_nin0, h6, h7⟩
theorem own_staK1 {Z : State} {h h' : Heap} {C n d D : String} {v : Value} {x : Addr} (F : Sta Z h C n d v) (K : Keep h h' [x]) (E : Exa Z h x D) : Sta Z h' C n d v := by
  obtain ⟨cf, i, k, f, st, cell, h1, h2, h3, h4, h5, h6, h7⟩ := F
  obtain ⟨cl, kk, e1, e2, e3, e4, e5⟩ := E
  refine ⟨cf, i, k, f, st, cell, h1, h2, h3, h4, K.2.1 st cell h5 (own_nin1 fun q => ?_), h6, h7⟩
  subst q
  cases h5.symm.trans e1
  rw [h6] at e4
  cases e4
theorem own_nsroot {Z : State} {a0 : Array Value} {O K : String} {n : Nat} (w : (Cond.noSuperclass O).before a0 Z = true) (wk : (Cond.instantiable K n).before a0 Z = true) (hn : O ≠ K) : NS Z O K := by
  obtain ⟨c, k, h1, h2, h3, -, -⟩ := Cond.noSuperclass_spec w
  obtain ⟨t, kt, g1, -⟩ := Cond.instantiable_spec wk
  have ne := ids_ne h1 g1 hn
  refine ⟨c, t, h1, g1, fun fuel => ?_⟩
  cases fuel with
  | zero => rfl
  | succ f => simp [Vm.isSubclassAux, ne, h2, h3]
theorem own_nsno {Z : State} {a0 : Array Value} {C S K : String} {n : Nat} (w : (Cond.superclass C S).before a0 Z = true) (wk : (Cond.instantiable K n).before a0 Z = true) (ns : NS Z C K) (hn : C ≠ K) : ∃ c t, Z.vm.findClass C = some c ∧ Z.vm.findClass K = some t ∧ Z.vm.assignable c t = false := by
  obtain ⟨c, t, h0, g0, n3⟩ := ns
  obtain ⟨p, k, kp, h1, h2, h3, h4, h5, -, h7⟩ := Cond.superclass_spec h0 w
  obtain ⟨t', kt, g1, g2, g3, g4, -⟩ := Cond.instantiable_spec wk
  cases g0.symm.trans g1
  have g7 : kt.isInterface = false := by simp only [Bool.or_eq_false_iff] at g4; exact g4.1
  have ne := ids_ne h0 g0 hn
  refine ⟨c, t, h0, g0, ?_⟩
  show Z.vm.assignableAux (255 + 1) c t = false
  simp [Vm.assignableAux, ne, h2, g2, h5, g3, g7, Vm.isSubclass, n3]
end New
end Jvm.RoadKit
namespace Jvm.Pilot.@@N@@
open Jvm Jvm.ClassFile Sem Op Lib Jvm.Free Jvm.Stand Jvm.LawKit Jvm.RoadKit Bundle Jvm.Pilot.@@N@@.Jvm.D
theorem d1_0 : decode jdk_29_method_65_code 0 = .ok (.iload_n 0, 1) := by decide +kernel
theorem d1_1 : decode jdk_29_method_65_code 1 = .ok (.iload_n 1, 1) := by decide +kernel
theorem d1_2 : decode jdk_29_method_65_code 2 = .ok (.if_icmp .lt 7, 3) := by decide +kernel
theorem d1_5 : decode jdk_29_method_65_code 5 = .ok (.iload_n 0, 1) := by decide +kernel
theorem d1_6 : decode jdk_29_method_65_code 6 = .ok (.goto 4, 3) := by decide +kernel
theorem d1_9 : decode jdk_29_method_65_code 9 = .ok (.iload_n 1, 1) := by decide +kernel
theorem d1_10 : decode jdk_29_method_65_code 10 = .ok (.ireturn, 1) := by decide +kernel
theorem ef_1 (m : MethodId) (p0 : Int32) (p1 : Int32) : entryFrame m #[(.int p0), (.int p1)] 2 = mkF m 0 #[.val (.int p0), .val (.int p1)] [] := by first | (simp [entryFrame, mkF, argsToLocals, Value.category]; done) | rfl
def f1_0 (p0 : Int32) (p1 : Int32) : Int32 := (if p0 < p1 then p1 else p0)
def Q1 (Z : State) (p0 : Int32) (p1 : Int32) (h0 : Heap) (n0 : Nat) (v : Option Value) (h : Heap) (L : List Loc) : Prop := v = some (.int (f1_0 p0 p1)) ∧ Fr n0 L ∧ h = h0
set_option maxRecDepth 65536 in
set_option maxHeartbeats 40000000 in
theorem rm1 (l : Launch) (Z : State) (aZ : Array Value) (hw : ∀ d ∈ tables_1, d.before aZ Z = true) (ws : List Jvm.Cond) (p0 : Int32) (p1 : Int32) (h0 : Heap) (n0 : Nat) (Z0 : n0 ≤ h0.size) :
    MetFree l (⟨"java/lang/Math", "max", "(II)I"⟩ : MethodName) (head1 (Jvm.Cond.code (⟨"java/lang/Math", "max", "(II)I"⟩ : MethodName) jdk_29_method_65_code 2 (some .int) :: ws) ({ frames := 0, cells := 0, slots := 0, locals := 0 } : Room)) (fun a U => a = #[(.int p0), (.int p1)] ∧ Z.Warmed39 U.vm ∧ U.heap = h0) (fun _ _ _ _ _ => True) (fun _ U o U' => ∃ v L, o = .returned v ∧ Q1 Z p0 p1 h0 n0 v U'.heap L ∧ FrameEnd U o U' L 0 0) := by
  refine MetFree.of_bodySF (Jvm.Free.JP.mathPlain rfl (by decide +kernel)) hisR ?_
  intro p e s m args below meth c s₁ Bd hml0 hP hK
  obtain ⟨rfl, hZ, hh⟩ := hP
  have hx := Bd.exec
  have hby := Bd.bytes
  have hml : c.maxLocals = 2 := hml0
  have hown : s.vm.findClass "java/lang/Math" = some m.cls := findClass_of_methodNamed Bd.named
  have hnm := (name_of_methodNamed Bd.named Bd.method).1
  have hlk := BodyLoose.notSynchronized Bd
  have X0 : Stand p l e ({ frames := 0, cells := 0, slots := 0, locals := 0 } : Room) s m #[(.int p0), (.int p1)] below meth c s₁ [] 0 0 := Stand.of_body Bd
  have e0 : s₁.heap = h0 := by rw [← hh, Bd.state]; rfl
  have N0 := Fr.nil n0
  have hk0 : 0 ≤ 0 := Nat.zero_le _
  have hn0 : 0 ≤ 0 := Nat.zero_le _
  show OwnEnds p e below (OwnQ s (Q1 Z p0 p1 h0 n0) 0 0) (s₁.setTop (entryFrame m #[(.int p0), (.int p1)] 2))
  refine .pre (fun t k => castTop (ef_1 m p0 p1) k) ?_
  have hF : f1_0 p0 p1 = f1_0 p0 p1 := rfl
  change (if p0 < p1 then p1 else p0) = _ at hF
  show OwnEnds p e below _ (s₁.setTop (mkF m 0 #[.val (.int p0), .val (.int p1)] []))
  refine .pre (fun _ k => XS.iloadN X0.here hx rfl (hb hby d1_0) rfl k) ?_
  show OwnEnds p e below _ (s₁.setTop (mkF m 1 #[.val (.int p0), .val (.int p1)] [(.int p0)]))
  refine .pre (fun _ k => XS.iloadN X0.here hx rfl (hb hby d1_1) rfl k) ?_
  show OwnEnds p e below _ (s₁.setTop (mkF m 2 #[.val (.int p0), .val (.int p1)] [(.int p1), (.int p0)]))
  by_cases hc2 : p0 < p1
  · rw [if_pos hc2] at hF
    refine .pre (fun _ k => XS.icmpYes X0.here hx rfl (pc0 := 2) (pc' := 9) rfl (hb hby d1_2) rfl (tlt hc2).1 (by decide) (by decide) k) ?_
    show OwnEnds p e below _ (s₁.setTop (mkF m 9 #[.val (.int p0), .val (.int p1)] []))
    refine .pre (fun _ k => XS.iloadN X0.here hx rfl (hb hby d1_9) rfl k) ?_
    show OwnEnds p e below _ (s₁.setTop (mkF m 10 #[.val (.int p0), .val (.int p1)] [(.int p1)]))
    exact own_endI X0 hx hlk Bd.returns (hb hby d1_10) hk0 hn0 ⟨congrArg (fun z => some (Value.int z)) hF, N0, e0⟩
  · rw [if_neg hc2] at hF
    refine .pre (fun _ k => XS.icmpNo X0.here hx rfl (hb hby d1_2) rfl (flt hc2).1 k) ?_
    show OwnEnds p e below _ (s₁.setTop (mkF m 5 #[.val (.int p0), .val (.int p1)] []))
    refine .pre (fun _ k => XS.iloadN X0.here hx rfl (hb hby d1_5) rfl k) ?_
    show OwnEnds p e below _ (s₁.setTop (mkF m 6 #[.val (.int p0), .val (.int p1)] [(.int p0)]))
    refine .pre (fun _ k => XS.goto X0.here hx rfl (pc0 := 6) (pc' := 10) rfl (hb hby d1_6) (by decide) (by decide) k) ?_
    show OwnEnds p e below _ (s₁.setTop (mkF m 10 #[.val (.int p0), .val (.int p1)] [(.int p0)]))
    exact own_endI X0 hx hlk Bd.returns (hb hby d1_10) hk0 hn0 ⟨congrArg (fun z => some (Value.int z)) hF, N0, e0⟩
theorem d7_0 : decode jdk_18_method_1_code 0 = .ok (.aload_n 0, 1) := by decide +kernel
theorem d7_1 : decode jdk_18_method_1_code 1 = .ok (.invokespecial 1, 3) := by decide +kernel
theorem d7_4 : decode jdk_18_method_1_code 4 = .ok (.return_, 1) := by decide +kernel
theorem ef_7 (m : MethodId) (a0 : Addr) : entryFrame m #[(.ref a0)] 1 = mkF m 0 #[.val (.ref a0)] [] := by first | (simp [entryFrame, mkF, argsToLocals, Value.category]; done) | rfl
theorem pn_0 : plainName "java/lang/Number" = true := by first | (simp [plainName, overriddenIn]; done) | decide +kernel
def Q7 (Z : State) (a0 : Addr) (h0 : Heap) (n0 : Nat) (v : Option Value) (h : Heap) (L : List Loc) : Prop := v = none ∧ Fr n0 L ∧ h = h0
set_option maxRecDepth 65536 in
set_option maxHeartbeats 40000000 in
theorem rm7 (l : Launch) (Z : State) (aZ : Array Value) (hw : ∀ d ∈ tables_1, d.before aZ Z = true) (ws : List Jvm.Cond) (a0 : Addr) (h0 : Heap) (n0 : Nat) (Z0 : n0 ≤ h0.size) :
    MetFree l (⟨"java/lang/Number", "<init>", "()V"⟩ : MethodName) (head1 (Jvm.Cond.code (⟨"java/lang/Number", "<init>", "()V"⟩ : MethodName) jdk_18_method_1_code 1 none :: ws) ({ frames := 1, cells := 0, slots := 0, locals := 12 } : Room)) (fun a U => a = #[(.ref a0)] ∧ Z.Warmed39 U.vm ∧ U.heap = h0) (fun _ _ _ _ _ => True) (fun _ U o U' => ∃ v L, o = .returned v ∧ Q7 Z a0 h0 n0 v U'.heap L ∧ FrameEnd U o U' L 0 0) := by
  refine MetFree.of_bodySF (plainFor_of_name pn_0) hisR ?_
  intro p e s m args below meth c s₁ Bd hml0 hP hK
  obtain ⟨rfl, hZ, hh⟩ := hP
  have hx := Bd.exec
  have hby := Bd.bytes
  have hml : c.maxLocals = 1 := hml0
  have hown : s.vm.findClass "java/lang/Number" = some m.cls := findClass_of_methodNamed Bd.named
  have hnm := (name_of_methodNamed Bd.named Bd.method).1
  have hlk := BodyLoose.notSynchronized Bd
  have X0 : Stand p l e ({ frames := 1, cells := 0, slots := 0, locals := 12 } : Room) s m #[(.ref a0)] below meth c s₁ [] 0 0 := Stand.of_body Bd
  have e0 : s₁.heap = h0 := by rw [← hh, Bd.state]; rfl
  have N0 := Fr.nil n0
  have hk0 : 0 ≤ 0 := Nat.zero_le _
  have hn0 : 0 ≤ 0 := Nat.zero_le _
  show OwnEnds p e below (OwnQ s (Q7 Z a0 h0 n0) 0 0) (s₁.setTop (entryFrame m #[(.ref a0)] 1))
  refine .pre (fun t k => castTop (ef_7 m a0) k) ?_
  show OwnEnds p e below _ (s₁.setTop (mkF m 0 #[.val (.ref a0)] []))
  refine .pre (fun _ k => XS.aloadN X0.here hx rfl (hb hby d7_0) rfl rfl k) ?_
  show OwnEnds p e below _ (s₁.setTop (mkF m 1 #[.val (.ref a0)] [(.ref a0)]))
  obtain ⟨T1, X1, e1, st1⟩ := initO X0 hx hZ hown (hw _ (List.mem_of_getElem? (i := 47) rfl)) (hw _ (List.mem_of_getElem? (i := 12) rfl)) (hw _ (List.mem_of_getElem? (i := 13) rfl)) e0 (g := (mkF m 1 #[.val (.ref a0)] [(.ref a0)])) rfl (by rw [hml]; rfl) rfl (hb hby d7_1) (by decide) (W := 0) (by show 2 * 0 + _ ≤ _; exact Nat.le_of_eq rfl) (by decide)
  refine .pre (fun _ k => st1 _ k) ?_
  show OwnEnds p e below _ (T1.setTop (mkF m 4 #[.val (.ref a0)] []))
  exact own_endV X1 hx hlk Bd.returns (hb hby d7_4) (by decide) (by decide) ⟨rfl, N0, e1⟩
theorem d2_0 : decode prog_38_method_1_code 0 = .ok (.aload_n 0, 1) := by decide +kernel
theorem d2_1 : decode prog_38_method_1_code 1 = .ok (.invokespecial 1, 3) := by decide +kernel
theorem d2_4 : decode prog_38_method_1_code 4 = .ok (.iload_n 1, 1) := by decide +kernel
theorem d2_5 : decode prog_38_method_1_code 5 = .ok (.iconst 1, 1) := by decide +kernel
theorem d2_6 : decode prog_38_method_1_code 6 = .ok (.if_icmp .lt 8, 3) := by decide +kernel
theorem d2_9 : decode prog_38_method_1_code 9 = .ok (.iload_n 2, 1) := by decide +kernel
theorem d2_10 : decode prog_38_method_1_code 10 = .ok (.iconst 1, 1) := by decide +kernel
theorem d2_11 : decode prog_38_method_1_code 11 = .ok (.if_icmp .ge 18, 3) := by decide +kernel
theorem d2_14 : decode prog_38_method_1_code 14 = .ok (.new 7, 3) := by decide +kernel
theorem d2_17 : decode prog_38_method_1_code 17 = .ok (.dup, 1) := by decide +kernel
theorem d2_18 : decode prog_38_method_1_code 18 = .ok (.iload_n 1, 1) := by decide +kernel
theorem d2_19 : decode prog_38_method_1_code 19 = .ok (.iload_n 2, 1) := by decide +kernel
theorem d2_20 : decode prog_38_method_1_code 20 = .ok (.invokedynamic 9, 5) := by decide +kernel
theorem d2_25 : decode prog_38_method_1_code 25 = .ok (.invokespecial 13, 3) := by decide +kernel
theorem d2_28 : decode prog_38_method_1_code 28 = .ok (.athrow, 1) := by decide +kernel
theorem d2_29 : decode prog_38_method_1_code 29 = .ok (.aload_n 0, 1) := by decide +kernel
theorem d2_30 : decode prog_38_method_1_code 30 = .ok (.iload_n 1, 1) := by decide +kernel
theorem d2_31 : decode prog_38_method_1_code 31 = .ok (.putfield 16, 3) := by decide +kernel
theorem d2_34 : decode prog_38_method_1_code 34 = .ok (.aload_n 0, 1) := by decide +kernel
theorem d2_35 : decode prog_38_method_1_code 35 = .ok (.iload_n 2, 1) := by decide +kernel
theorem d2_36 : decode prog_38_method_1_code 36 = .ok (.putfield 22, 3) := by decide +kernel
theorem d2_39 : decode prog_38_method_1_code 39 = .ok (.return_, 1) := by decide +kernel
theorem ef_2 (m : MethodId) (a0 : Addr) (p1 : Int32) (p2 : Int32) : entryFrame m #[(.ref a0), (.int p1), (.int p2)] 3 = mkF m 0 #[.val (.ref a0), .val (.int p1), .val (.int p2)] [] := by first | (simp [entryFrame, mkF, argsToLocals, Value.category]; done) | rfl
theorem pn_1 : plainName "com/example/unimeth/unimeth/reader/Position" = true := by first | (simp [plainName, overriddenIn]; done) | decide +kernel
def Q2 (Z : State) (a0 : Addr) (p1 : Int32) (p2 : Int32) (u_line : Value) (u_column : Value) (h0 : Heap) (n0 : Nat) (v : Option Value) (h : Heap) (L : List Loc) : Prop := v = none ∧ Fr n0 L ∧ Keep h0 h [a0] ∧ Exa Z h a0 "com/example/unimeth/unimeth/reader/Position" ∧ Fld Z h a0 "com/example/unimeth/unimeth/reader/Position" "line" "I" (.int p1) ∧ Fld Z h a0 "com/example/unimeth/unimeth/reader/Position" "column" "I" (.int p2)
set_option maxRecDepth 65536 in
set_option maxHeartbeats 40000000 in
theorem rm2 (l : Launch) (Z : State) (aZ : Array Value) (hw : ∀ d ∈ tables_1, d.before aZ Z = true) (ws : List Jvm.Cond) (a0 : Addr) (p1 : Int32) (p2 : Int32) (u_line : Value) (u_column : Value) (h0 : Heap) (n0 : Nat) (Z0 : n0 ≤ h0.size) (hq1 : ¬ (p1 < (1 : Int32))) (hq2 : ¬ (p2 < (1 : Int32))) (g_a0 : n0 ≤ a0) (E_a0 : Exa Z h0 a0 "com/example/unimeth/unimeth/reader/Position") (F_u_line : Fld Z h0 a0 "com/example/unimeth/unimeth/reader/Position" "line" "I" u_line) (F_u_column : Fld Z h0 a0 "com/example/unimeth/unimeth/reader/Position" "column" "I" u_column) :
    MetFree l (⟨"com/example/unimeth/unimeth/reader/Position", "<init>", "(II)V"⟩ : MethodName) (head1 (Jvm.Cond.code (⟨"com/example/unimeth/unimeth/reader/Position", "<init>", "(II)V"⟩ : MethodName) prog_38_method_1_code 3 none :: ws) ({ frames := 1, cells := 0, slots := 0, locals := 12 } : Room)) (fun a U => a = #[(.ref a0), (.int p1), (.int p2)] ∧ Z.Warmed39 U.vm ∧ U.heap = h0) (fun _ _ _ _ _ => True) (fun _ U o U' => ∃ v L, o = .returned v ∧ Q2 Z a0 p1 p2 u_line u_column h0 n0 v U'.heap L ∧ FrameEnd U o U' L 0 0) := by
  refine MetFree.of_bodySF (plainFor_of_name pn_1) hisR ?_
  intro p e s m args below meth c s₁ Bd hml0 hP hK
  obtain ⟨rfl, hZ, hh⟩ := hP
  have hx := Bd.exec
  have hby := Bd.bytes
  have hml : c.maxLocals = 3 := hml0
  have hown : s.vm.findClass "com/example/unimeth/unimeth/reader/Position" = some m.cls := findClass_of_methodNamed Bd.named
  have hnm := (name_of_methodNamed Bd.named Bd.method).1
  have hlk := BodyLoose.notSynchronized Bd
  have X0 : Stand p l e ({ frames := 1, cells := 0, slots := 0, locals := 12 } : Room) s m #[(.ref a0), (.int p1), (.int p2)] below meth c s₁ [] 0 0 := Stand.of_body Bd
  have e0 : s₁.heap = h0 := by rw [← hh, Bd.state]; rfl
  have N0 := Fr.nil n0
  have hk0 : 0 ≤ 0 := Nat.zero_le _
  have hn0 : 0 ≤ 0 := Nat.zero_le _
  show OwnEnds p e below (OwnQ s (Q2 Z a0 p1 p2 u_line u_column h0 n0) 0 0) (s₁.setTop (entryFrame m #[(.ref a0), (.int p1), (.int p2)] 3))
  refine .pre (fun t k => castTop (ef_2 m a0 p1 p2) k) ?_
  show OwnEnds p e below _ (s₁.setTop (mkF m 0 #[.val (.ref a0), .val (.int p1), .val (.int p2)] []))
  refine .pre (fun _ k => XS.aloadN X0.here hx rfl (hb hby d2_0) rfl rfl k) ?_
  show OwnEnds p e below _ (s₁.setTop (mkF m 1 #[.val (.ref a0), .val (.int p1), .val (.int p2)] [(.ref a0)]))
  obtain ⟨T1, X1, e1, st1⟩ := initO X0 hx hZ hown (hw _ (List.mem_of_getElem? (i := 11) rfl)) (hw _ (List.mem_of_getElem? (i := 12) rfl)) (hw _ (List.mem_of_getElem? (i := 13) rfl)) e0 (g := (mkF m 1 #[.val (.ref a0), .val (.int p1), .val (.int p2)] [(.ref a0)])) rfl (by rw [hml]; rfl) rfl (hb hby d2_1) (by decide) (W := 0) (by show 2 * 0 + _ ≤ _; exact Nat.le_of_eq rfl) (by decide)
  refine .pre (fun _ k => st1 _ k) ?_
  show OwnEnds p e below _ (T1.setTop (mkF m 4 #[.val (.ref a0), .val (.int p1), .val (.int p2)] []))
  refine .pre (fun _ k => XS.iloadN X1.here hx rfl (hb hby d2_4) rfl k) ?_
  show OwnEnds p e below _ (T1.setTop (mkF m 5 #[.val (.ref a0), .val (.int p1), .val (.int p2)] [(.int p1)]))
  refine .pre (fun _ k => XS.iconst X1.here hx rfl (hb hby d2_5) k) ?_
  show OwnEnds p e below _ (T1.setTop (mkF m 6 #[.val (.ref a0), .val (.int p1), .val (.int p2)] [(.int (1 : Int32)), (.int p1)]))
  have hc6 : ¬ (p1 < (1 : Int32)) := hq1
  refine .pre (fun _ k => XS.icmpNo X1.here hx rfl (hb hby d2_6) rfl (flt hc6).1 k) ?_
  show OwnEnds p e below _ (T1.setTop (mkF m 9 #[.val (.ref a0), .val (.int p1), .val (.int p2)] []))
  refine .pre (fun _ k => XS.iloadN X1.here hx rfl (hb hby d2_9) rfl k) ?_
  show OwnEnds p e below _ (T1.setTop (mkF m 10 #[.val (.ref a0), .val (.int p1), .val (.int p2)] [(.int p2)]))
  refine .pre (fun _ k => XS.iconst X1.here hx rfl (hb hby d2_10) k) ?_
  show OwnEnds p e below _ (T1.setTop (mkF m 11 #[.val (.ref a0), .val (.int p1), .val (.int p2)] [(.int (1 : Int32)), (.int p2)]))
  have hc11 : ¬ (p2 < (1 : Int32)) := hq2
  refine .pre (fun _ k => XS.icmpYes X1.here hx rfl (pc0 := 11) (pc' := 29) rfl (hb hby d2_11) rfl (flt hc11).2.1 (by decide) (by decide) k) ?_
  show OwnEnds p e below _ (T1.setTop (mkF m 29 #[.val (.ref a0), .val (.int p1), .val (.int p2)] []))
  refine .pre (fun _ k => XS.aloadN X1.here hx rfl (hb hby d2_29) rfl rfl k) ?_
  show OwnEnds p e below _ (T1.setTop (mkF m 30 #[.val (.ref a0), .val (.int p1), .val (.int p2)] [(.ref a0)]))
  refine .pre (fun _ k => XS.iloadN X1.here hx rfl (hb hby d2_30) rfl k) ?_
  show OwnEnds p e below _ (T1.setTop (mkF m 31 #[.val (.ref a0), .val (.int p1), .val (.int p2)] [(.int p1), (.ref a0)]))
  obtain ⟨T2, h2, X2, e2, W2, st2⟩ := putF X1 hx hZ hown (host := "") (Or.inl (hw _ (List.mem_of_getElem? (i := 14) rfl))) Via.refl e1 F_u_line E_a0 (Or.inr ⟨(hw _ (List.mem_of_getElem? (i := 15) rfl)), rfl, hnm⟩) (hw _ (List.mem_of_getElem? (i := 6) rfl)) (ty := .int) (by decide) rfl rfl (g := (mkF m 31 #[.val (.ref a0), .val (.int p1), .val (.int p2)] [(.int p1), (.ref a0)])) rfl rfl (hb hby d2_31)
  have Fw2 := F_u_line.same W2
  have N2 := Fr.snoc X2 N0 g_a0
  have Kp2 : Keep h0 h2 [a0] := (Keep.refl h0 [a0]).wr W2 (Or.inl (List.mem_of_getElem? (i := 0) rfl))
  refine .pre (fun _ k => st2 _ k) ?_
  show OwnEnds p e below _ (T2.setTop (mkF m 34 #[.val (.ref a0), .val (.int p1), .val (.int p2)] []))
  refine .pre (fun _ k => XS.aloadN X2.here hx rfl (hb hby d2_34) rfl rfl k) ?_
  show OwnEnds p e below _ (T2.setTop (mkF m 35 #[.val (.ref a0), .val (.int p1), .val (.int p2)] [(.ref a0)]))
  refine .pre (fun _ k => XS.iloadN X2.here hx rfl (hb hby d2_35) rfl k) ?_
  show OwnEnds p e below _ (T2.setTop (mkF m 36 #[.val (.ref a0), .val (.int p1), .val (.int p2)] [(.int p2), (.ref a0)]))
  obtain ⟨T3, h3, X3, e3, W3, st3⟩ := putF X2 hx hZ hown (host := "") (Or.inl (hw _ (List.mem_of_getElem? (i := 16) rfl))) Via.refl e2 (F_u_column.other W2 (Or.inr (slot_ne (Or.inr (hw _ (List.mem_of_getElem? (i := 17) rfl))) (Or.inr (hw _ (List.mem_of_getElem? (i := 15) rfl))) (by decide) (t := .int) (t' := .int) (by decide) (by decide)))) (E_a0.wr W2) (Or.inr ⟨(hw _ (List.mem_of_getElem? (i := 17) rfl)), rfl, hnm⟩) (hw _ (List.mem_of_getElem? (i := 6) rfl)) (ty := .int) (by decide) rfl rfl (g := (mkF m 36 #[.val (.ref a0), .val (.int p1), .val (.int p2)] [(.int p2), (.ref a0)])) rfl rfl (hb hby d2_36)
  have Fw3 := (F_u_column.other W2 (Or.inr (slot_ne (Or.inr (hw _ (List.mem_of_getElem? (i := 17) rfl))) (Or.inr (hw _ (List.mem_of_getElem? (i := 15) rfl))) (by decide) (t := .int) (t' := .int) (by decide) (by decide)))).same W3
  have N3 := Fr.snoc X3 N2 g_a0
  have Kp3 : Keep h0 h3 [a0] := Kp2.wr W3 (Or.inl (List.mem_of_getElem? (i := 0) rfl))
  refine .pre (fun _ k => st3 _ k) ?_
  show OwnEnds p e below _ (T3.setTop (mkF m 39 #[.val (.ref a0), .val (.int p1), .val (.int p2)] []))
  exact own_endV X3 hx hlk Bd.returns (hb hby d2_39) (by decide) (by decide) ⟨rfl, N3, (by rw [e3]; exact Kp3), (by rw [e3]; exact ((E_a0.wr W2).wr W3)), (by rw [e3]; exact (Fw2.other W3 (Or.inr (slot_ne (Or.inr (hw _ (List.mem_of_getElem? (i := 15) rfl))) (Or.inr (hw _ (List.mem_of_getElem? (i := 17) rfl))) (by decide) (t := .int) (t' := .int) (by decide) (by decide))))), (by rw [e3]; exact Fw3)⟩
theorem d6_0 : decode jdk_33_method_23_code 0 = .ok (.aload_n 0, 1) := by decide +kernel
theorem d6_1 : decode jdk_33_method_23_code 1 = .ok (.invokespecial 202, 3) := by decide +kernel
theorem d6_4 : decode jdk_33_method_23_code 4 = .ok (.aload_n 0, 1) := by decide +kernel
theorem d6_5 : decode jdk_33_method_23_code 5 = .ok (.iload_n 1, 1) := by decide +kernel
theorem d6_6 : decode jdk_33_method_23_code 6 = .ok (.putfield 205, 3) := by decide +kernel
theorem d6_9 : decode jdk_33_method_23_code 9 = .ok (.return_, 1) := by decide +kernel
theorem ef_6 (m : MethodId) (a0 : Addr) (p1 : Int32) : entryFrame m #[(.ref a0), (.int p1)] 2 = mkF m 0 #[.val (.ref a0), .val (.int p1)] [] := by first | (simp [entryFrame, mkF, argsToLocals, Value.category]; done) | rfl
theorem pn_2 : plainName "java/lang/Integer" = true := by first | (simp [plainName, overriddenIn]; done) | decide +kernel
theorem pd_3 : parseMethodDescriptor "()V" = some ⟨[], none⟩ := by decide +kernel
def Q6 (Z : State) (a0 : Addr) (p1 : Int32) (u_value : Value) (h0 : Heap) (n0 : Nat) (v : Option Value) (h : Heap) (L : List Loc) : Prop := v = none ∧ Fr n0 L ∧ Keep h0 h [a0] ∧ Exa Z h a0 "java/lang/Integer" ∧ Fld Z h a0 "java/lang/Integer" "value" "I" (.int p1)
set_option maxRecDepth 65536 in
set_option maxHeartbeats 40000000 in
theorem rm6 (l : Launch) (Z : State) (aZ : Array Value) (hw : ∀ d ∈ tables_1, d.before aZ Z = true) (ws : List Jvm.Cond) (a0 : Addr) (p1 : Int32) (u_value : Value) (h0 : Heap) (n0 : Nat) (Z0 : n0 ≤ h0.size) (g_a0 : n0 ≤ a0) (E_a0 : Exa Z h0 a0 "java/lang/Integer") (F_u_value : Fld Z h0 a0 "java/lang/Integer" "value" "I" u_value) :
    MetFree l (⟨"java/lang/Integer", "<init>", "(I)V"⟩ : MethodName) (head1 (Jvm.Cond.code (⟨"java/lang/Integer", "<init>", "(I)V"⟩ : MethodName) jdk_33_method_23_code 2 none :: ws) ({ frames := 2, cells := 0, slots := 0, locals := 24 } : Room)) (fun a U => a = #[(.ref a0), (.int p1)] ∧ Z.Warmed39 U.vm ∧ U.heap = h0) (fun _ _ _ _ _ => True) (fun _ U o U' => ∃ v L, o = .returned v ∧ Q6 Z a0 p1 u_value h0 n0 v U'.heap L ∧ FrameEnd U o U' L 0 0) := by
  refine MetFree.of_bodySF (plainFor_of_name pn_2) hisR ?_
  intro p e s m args below meth c s₁ Bd hml0 hP hK
  obtain ⟨rfl, hZ, hh⟩ := hP
  have hx := Bd.exec
  have hby := Bd.bytes
  have hml : c.maxLocals = 2 := hml0
  have hown : s.vm.findClass "java/lang/Integer" = some m.cls := findClass_of_methodNamed Bd.named
  have hnm := (name_of_methodNamed Bd.named Bd.method).1
  have hlk := BodyLoose.notSynchronized Bd
  have X0 : Stand p l e ({ frames := 2, cells := 0, slots := 0, locals := 24 } : Room) s m #[(.ref a0), (.int p1)] below meth c s₁ [] 0 0 := Stand.of_body Bd
  have e0 : s₁.heap = h0 := by rw [← hh, Bd.state]; rfl
  have N0 := Fr.nil n0
  have hk0 : 0 ≤ 0 := Nat.zero_le _
  have hn0 : 0 ≤ 0 := Nat.zero_le _
  show OwnEnds p e below (OwnQ s (Q6 Z a0 p1 u_value h0 n0) 0 0) (s₁.setTop (entryFrame m #[(.ref a0), (.int p1)] 2))
  refine .pre (fun t k => castTop (ef_6 m a0 p1) k) ?_
  show OwnEnds p e below _ (s₁.setTop (mkF m 0 #[.val (.ref a0), .val (.int p1)] []))
  refine .pre (fun _ k => XS.aloadN X0.here hx rfl (hb hby d6_0) rfl rfl k) ?_
  show OwnEnds p e below _ (s₁.setTop (mkF m 1 #[.val (.ref a0), .val (.int p1)] [(.ref a0)]))
  obtain ⟨_, _, ⟨T1, L1, k1, n1⟩, -, X1, ⟨Lc1, hQ1, l1, y1, z1⟩, st1⟩ := X0.specialBack hx (y := (⟨"java/lang/Number", "<init>", "()V"⟩ : MethodName)) rfl hown (mvT hZ (hw _ (List.mem_of_getElem? (i := 41) rfl))) (mvT hZ (hw _ (List.mem_of_getElem? (i := 42) rfl))) (mvT hZ (hw _ (List.mem_of_getElem? (i := 46) rfl))) (by decide) (backOf (W := 0) (rm7 l Z aZ hw [] a0 h0 n0 Z0) hZ (hw _ (List.mem_of_getElem? (i := 46) rfl)) (hw _ (List.mem_of_getElem? (i := 45) rfl)) (by decide) (by decide)) (g := (mkF m 1 #[.val (.ref a0), .val (.int p1)] [(.ref a0)])) rfl (by rw [hml]; rfl) (Steps.refl _) (a := a0) (argsL := []) (rest := []) (lenOf pd_3 rfl) rfl (by show 2 * 0 + _ ≤ _; exact Nat.le_of_eq rfl) (hb hby d6_1) (fun _ _ => ⟨rfl, e0, (by decide : 0 + 0 ≤ _), (by decide : 0 + 0 ≤ _)⟩)
  dsimp only [Pt.U, Pt.locs, Pt.cells, Pt.slots] at X1 l1 y1 z1 st1 hQ1
  subst l1 y1 z1
  obtain ⟨rfl, N1q, e1⟩ := hQ1
  have N1 := Fr.app N0 N1q
  refine .pre (fun _ k => st1.trans k) ?_
  show OwnEnds p e below _ (T1.setTop (mkF m 4 #[.val (.ref a0), .val (.int p1)] []))
  refine .pre (fun _ k => XS.aloadN X1.here hx rfl (hb hby d6_4) rfl rfl k) ?_
  show OwnEnds p e below _ (T1.setTop (mkF m 5 #[.val (.ref a0), .val (.int p1)] [(.ref a0)]))
  refine .pre (fun _ k => XS.iloadN X1.here hx rfl (hb hby d6_5) rfl k) ?_
  show OwnEnds p e below _ (T1.setTop (mkF m 6 #[.val (.ref a0), .val (.int p1)] [(.int p1), (.ref a0)]))
  obtain ⟨T2, h2, X2, e2, W2, st2⟩ := putF X1 hx hZ hown (host := "") (Or.inl (hw _ (List.mem_of_getElem? (i := 48) rfl))) Via.refl e1 F_u_value E_a0 (Or.inr ⟨(hw _ (List.mem_of_getElem? (i := 49) rfl)), rfl, hnm⟩) (hw _ (List.mem_of_getElem? (i := 36) rfl)) (ty := .int) (by decide) rfl rfl (g := (mkF m 6 #[.val (.ref a0), .val (.int p1)] [(.int p1), (.ref a0)])) rfl rfl (hb hby d6_6)
  have Fw2 := F_u_value.same W2
  have N2 := Fr.snoc X2 N1 g_a0
  have Kp2 : Keep h0 h2 [a0] := (Keep.refl h0 [a0]).wr W2 (Or.inl (List.mem_of_getElem? (i := 0) rfl))
  refine .pre (fun _ k => st2 _ k) ?_
  show OwnEnds p e below _ (T2.setTop (mkF m 9 #[.val (.ref a0), .val (.int p1)] []))
  exact own_endV X2 hx hlk Bd.returns (hb hby d6_9) (by decide) (by decide) ⟨rfl, N2, (by rw [e2]; exact Kp2), (by rw [e2]; exact (E_a0.wr W2)), (by rw [e2]; exact Fw2)⟩
theorem d5_0 : decode jdk_33_method_22_code 0 = .ok (.iload_n 0, 1) := by decide +kernel
theorem d5_1 : decode jdk_33_method_22_code 1 = .ok (.bipush (-128), 2) := by decide +kernel
theorem d5_3 : decode jdk_33_method_22_code 3 = .ok (.if_icmp .lt 20, 3) := by decide +kernel
theorem d5_6 : decode jdk_33_method_22_code 6 = .ok (.iload_n 0, 1) := by decide +kernel
theorem d5_7 : decode jdk_33_method_22_code 7 = .ok (.getstatic 191, 3) := by decide +kernel
theorem d5_10 : decode jdk_33_method_22_code 10 = .ok (.if_icmp .gt 13, 3) := by decide +kernel
theorem d5_13 : decode jdk_33_method_22_code 13 = .ok (.getstatic 195, 3) := by decide +kernel
theorem d5_16 : decode jdk_33_method_22_code 16 = .ok (.iload_n 0, 1) := by decide +kernel
theorem d5_17 : decode jdk_33_method_22_code 17 = .ok (.sipush 128, 3) := by decide +kernel
theorem d5_20 : decode jdk_33_method_22_code 20 = .ok (.iadd, 1) := by decide +kernel
theorem d5_21 : decode jdk_33_method_22_code 21 = .ok (.aaload, 1) := by decide +kernel
theorem d5_22 : decode jdk_33_method_22_code 22 = .ok (.areturn, 1) := by decide +kernel
theorem d5_23 : decode jdk_33_method_22_code 23 = .ok (.new 1, 3) := by decide +kernel
theorem d5_26 : decode jdk_33_method_22_code 26 = .ok (.dup, 1) := by decide +kernel
theorem d5_27 : decode jdk_33_method_22_code 27 = .ok (.iload_n 0, 1) := by decide +kernel
theorem d5_28 : decode jdk_33_method_22_code 28 = .ok (.invokespecial 199, 3) := by decide +kernel
theorem d5_31 : decode jdk_33_method_22_code 31 = .ok (.areturn, 1) := by decide +kernel
theorem ef_5 (m : MethodId) (p0 : Int32) : entryFrame m #[(.int p0)] 1 = mkF m 0 #[.val (.int p0)] [] := by first | (simp [entryFrame, mkF, argsToLocals, Value.category]; done) | rfl
theorem own_idx {x : Int32} (h1 : ¬ (x < (-128 : Int32))) (h2 : ¬ ((127 : Int32) < x)) : ¬ ((x + (128 : Int32)) < 0) ∧ (x + (128 : Int32)) < (256 : Int32) := by
  rw [Int32.lt_iff_toInt_lt] at h1 h2
  have a1 : (-128 : Int32).toInt = -128 := rfl
  have a2 : (127 : Int32).toInt = 127 := rfl
  have a3 : (128 : Int32).toInt = 128 := rfl
  have a4 : (256 : Int32).toInt = 256 := rfl
  have a5 : (0 : Int32).toInt = 0 := rfl
  have e : (x + 128).toInt = x.toInt + 128 := by rw [Jvm.Kit.i32_add (by rw [a3]; omega) (by rw [a3]; omega), a3]
  rw [Int32.lt_iff_toInt_lt, Int32.lt_iff_toInt_lt, e]
  omega
theorem pd_4 : parseMethodDescriptor "(I)V" = some ⟨[.int], none⟩ := by decide +kernel
def Q5 (Z : State) (p0 : Int32) (xc : Addr) (cl : Cell) (h0 : Heap) (n0 : Nat) (v : Option Value) (h : Heap) (L : List Loc) : Prop := ∃ r : Addr, v = some (.ref r) ∧ Fr n0 L ∧ Keep h0 h [] ∧ Exa Z h r "java/lang/Integer"
set_option maxRecDepth 65536 in
set_option maxHeartbeats 40000000 in
theorem rm5 (l : Launch) (Z : State) (aZ : Array Value) (hw : ∀ d ∈ tables_1, d.before aZ Z = true) (ws : List Jvm.Cond) (p0 : Int32) (xc : Addr) (cl : Cell) (h0 : Heap) (n0 : Nat) (Z0 : n0 ≤ h0.size) (SH : Sta Z h0 "java/lang/Integer$IntegerCache" "high" "I" (.int (127 : Int32))) (SC : Sta Z h0 "java/lang/Integer$IntegerCache" "cache" "[Ljava/lang/Integer;" (.ref xc)) (AC : Arr Z h0 xc cl (.object "java/lang/Integer")) (ZC : cl.slots.size = (256 : Int32).toNatClampNeg) (HC : ∀ j : Int32, ¬ (j < 0 ∨ cl.slots.size ≤ j.toNatClampNeg) → ∃ b : Addr, cl.slots[j.toNatClampNeg]? = some (.ref b) ∧ Exa Z h0 b "java/lang/Integer") :
    MetFree l (⟨"java/lang/Integer", "valueOf", "(I)Ljava/lang/Integer;"⟩ : MethodName) (head1 (Jvm.Cond.code (⟨"java/lang/Integer", "valueOf", "(I)Ljava/lang/Integer;"⟩ : MethodName) jdk_33_method_22_code 1 (some (.object "java/lang/Integer")) :: ws) ({ frames := 3, cells := 1, slots := 1, locals := 38 } : Room)) (fun a U => a = #[(.int p0)] ∧ Z.Warmed39 U.vm ∧ U.heap = h0) (fun _ _ _ _ _ => True) (fun _ U o U' => ∃ v L, o = .returned v ∧ Q5 Z p0 xc cl h0 n0 v U'.heap L ∧ FrameEnd U o U' L 1 1) := by
  refine MetFree.of_bodySF (plainFor_of_name pn_2) hisR ?_
  intro p e s m args below meth c s₁ Bd hml0 hP hK
  obtain ⟨rfl, hZ, hh⟩ := hP
  have hx := Bd.exec
  have hby := Bd.bytes
  have hml : c.maxLocals = 1 := hml0
  have hown : s.vm.findClass "java/lang/Integer" = some m.cls := findClass_of_methodNamed Bd.named
  have hnm := (name_of_methodNamed Bd.named Bd.method).1
  have hlk := BodyLoose.notSynchronized Bd
  have X0 : Stand p l e ({ frames := 3, cells := 1, slots := 1, locals := 38 } : Room) s m #[(.int p0)] below meth c s₁ [] 0 0 := Stand.of_body Bd
  have e0 : s₁.heap = h0 := by rw [← hh, Bd.state]; rfl
  have N0 := Fr.nil n0
  have hk0 : 0 ≤ 1 := Nat.zero_le _
  have hn0 : 0 ≤ 1 := Nat.zero_le _
  show OwnEnds p e below (OwnQ s (Q5 Z p0 xc cl h0 n0) 1 1) (s₁.setTop (entryFrame m #[(.int p0)] 1))
  refine .pre (fun t k => castTop (ef_5 m p0) k) ?_
  show OwnEnds p e below _ (s₁.setTop (mkF m 0 #[.val (.int p0)] []))
  refine .pre (fun _ k => XS.iloadN X0.here hx rfl (hb hby d5_0) rfl k) ?_
  show OwnEnds p e below _ (s₁.setTop (mkF m 1 #[.val (.int p0)] [(.int p0)]))
  refine .pre (fun _ k => XS.bipush X0.here hx rfl (hb hby d5_1) k) ?_
  show OwnEnds p e below _ (s₁.setTop (mkF m 3 #[.val (.int p0)] [(.int (-128 : Int32)), (.int p0)]))
  by_cases hc3 : p0 < (-128 : Int32)
  · skip
    refine .pre (fun _ k => XS.icmpYes X0.here hx rfl (pc0 := 3) (pc' := 23) rfl (hb hby d5_3) rfl (tlt hc3).1 (by decide) (by decide) k) ?_
    show OwnEnds p e below _ (s₁.setTop (mkF m 23 #[.val (.int p0)] []))
    obtain ⟨T1, h1, X1, e1, E1, A1, D1, -, st1⟩ := newO X0 hx hZ hown (hw _ (List.mem_of_getElem? (i := 35) rfl)) (hw _ (List.mem_of_getElem? (i := 36) rfl)) (hw _ (List.mem_of_getElem? (i := 25) rfl)) e0 (g := (mkF m 23 #[.val (.int p0)] [])) rfl (hb hby d5_23) (by decide) (by decide)
    obtain ⟨b1, g1⟩ : ∃ z, z = h0.size := ⟨_, rfl⟩
    rw [← g1] at A1 D1 st1
    have g_b1 : n0 ≤ b1 := Nat.le_trans Z0 (Nat.le_of_eq g1.symm)
    have sz_b1 : h0.size ≤ b1 := Nat.le_trans (Keep.refl h0 []).1 (Nat.le_of_eq g1.symm)
    have Kp1 : Keep h0 h1 [] := (Keep.refl h0 []).ext E1
    have F1_value : Fld Z h1 b1 "java/lang/Integer" "value" "I" (.int (0 : Int32)) := D1 (Or.inr (hw _ (List.mem_of_getElem? (i := 49) rfl))) (ty := .int) (by decide)
    refine .pre (fun _ k => st1 _ k) ?_
    show OwnEnds p e below _ (T1.setTop (mkF m 26 #[.val (.int p0)] [(.ref b1)]))
    refine .pre (fun _ k => XS.dup X1.here hx rfl (hb hby d5_26) rfl rfl k) ?_
    show OwnEnds p e below _ (T1.setTop (mkF m 27 #[.val (.int p0)] [(.ref b1), (.ref b1)]))
    refine .pre (fun _ k => XS.iloadN X1.here hx rfl (hb hby d5_27) rfl k) ?_
    show OwnEnds p e below _ (T1.setTop (mkF m 28 #[.val (.int p0)] [(.int p0), (.ref b1), (.ref b1)]))
    obtain ⟨_, _, ⟨T2, L2, k2, n2⟩, -, X2, ⟨Lc2, hQ2, l2, y2, z2⟩, st2⟩ := X1.specialBack hx (y := (⟨"java/lang/Integer", "<init>", "(I)V"⟩ : MethodName)) rfl hown (mvT hZ (hw _ (List.mem_of_getElem? (i := 37) rfl))) (mvT hZ (hw _ (List.mem_of_getElem? (i := 38) rfl))) (mvT hZ (hw _ (List.mem_of_getElem? (i := 40) rfl))) (by decide) (backOf (W := 1) (rm6 l Z aZ hw [] b1 p0 (.int (0 : Int32)) h1 n0 (Nat.le_trans Z0 E1.1) g_b1 A1 F1_value) hZ (hw _ (List.mem_of_getElem? (i := 40) rfl)) (hw _ (List.mem_of_getElem? (i := 25) rfl)) (by decide) (by decide)) (g := (mkF m 28 #[.val (.int p0)] [(.int p0), (.ref b1), (.ref b1)])) rfl (by rw [hml]; rfl) (Steps.refl _) (a := b1) (argsL := [(.int p0)]) (rest := [(.ref b1)]) (lenOf pd_4 rfl) rfl (by show 2 * 0 + _ ≤ _; exact Nat.le_of_eq rfl) (hb hby d5_28) (fun _ _ => ⟨rfl, e1, (by decide : 1 + 0 ≤ _), (by decide : 1 + 0 ≤ _)⟩)
    dsimp only [Pt.U, Pt.locs, Pt.cells, Pt.slots] at X2 l2 y2 z2 st2 hQ2
    subst l2 y2 z2
    obtain ⟨rfl, N2q, K2, Ea2, Fa2_0⟩ := hQ2
    have N2 := Fr.app N0 N2q
    refine .pre (fun _ k => st2.trans k) ?_
    have Kp2 : Keep h0 T2.heap [] := Kp1.trans K2 (allS (Or.inr sz_b1) all0)
    show OwnEnds p e below _ (T2.setTop (mkF m 31 #[.val (.int p0)] [(.ref b1)]))
    exact own_endR X2 hx hlk Bd.returns rfl rfl (hb hby d5_31) (by decide) (by decide) ⟨_, rfl, N2, Kp2, Ea2⟩
  · skip
    refine .pre (fun _ k => XS.icmpNo X0.here hx rfl (hb hby d5_3) rfl (flt hc3).1 k) ?_
    show OwnEnds p e below _ (s₁.setTop (mkF m 6 #[.val (.int p0)] []))
    refine .pre (fun _ k => XS.iloadN X0.here hx rfl (hb hby d5_6) rfl k) ?_
    show OwnEnds p e below _ (s₁.setTop (mkF m 7 #[.val (.int p0)] [(.int p0)]))
    obtain ⟨T3, X3, e3, st3⟩ := getS2 X0 hx hZ hown (host := "") (Or.inl (hw _ (List.mem_of_getElem? (i := 27) rfl))) Via.refl e0 SH (g := (mkF m 7 #[.val (.int p0)] [(.int p0)])) rfl (hb hby d5_7)
    refine .pre (fun _ k => st3 _ k) ?_
    show OwnEnds p e below _ (T3.setTop (mkF m 10 #[.val (.int p0)] [(.int (127 : Int32)), (.int p0)]))
    by_cases hc10 : (127 : Int32) < p0
    · skip
      refine .pre (fun _ k => XS.icmpYes X3.here hx rfl (pc0 := 10) (pc' := 23) rfl (hb hby d5_10) rfl (tlt hc10).2.2.1 (by decide) (by decide) k) ?_
      show OwnEnds p e below _ (T3.setTop (mkF m 23 #[.val (.int p0)] []))
      obtain ⟨T4, h4, X4, e4, E4, A4, D4, -, st4⟩ := newO X3 hx hZ hown (hw _ (List.mem_of_getElem? (i := 35) rfl)) (hw _ (List.mem_of_getElem? (i := 36) rfl)) (hw _ (List.mem_of_getElem? (i := 25) rfl)) e3 (g := (mkF m 23 #[.val (.int p0)] [])) rfl (hb hby d5_23) (by decide) (by decide)
      obtain ⟨b4, g4⟩ : ∃ z, z = h0.size := ⟨_, rfl⟩
      rw [← g4] at A4 D4 st4
      have g_b4 : n0 ≤ b4 := Nat.le_trans Z0 (Nat.le_of_eq g4.symm)
      have sz_b4 : h0.size ≤ b4 := Nat.le_trans (Keep.refl h0 []).1 (Nat.le_of_eq g4.symm)
      have Kp4 : Keep h0 h4 [] := (Keep.refl h0 []).ext E4
      have F4_value : Fld Z h4 b4 "java/lang/Integer" "value" "I" (.int (0 : Int32)) := D4 (Or.inr (hw _ (List.mem_of_getElem? (i := 49) rfl))) (ty := .int) (by decide)
      refine .pre (fun _ k => st4 _ k) ?_
      show OwnEnds p e below _ (T4.setTop (mkF m 26 #[.val (.int p0)] [(.ref b4)]))
      refine .pre (fun _ k => XS.dup X4.here hx rfl (hb hby d5_26) rfl rfl k) ?_
      show OwnEnds p e below _ (T4.setTop (mkF m 27 #[.val (.int p0)] [(.ref b4), (.ref b4)]))
      refine .pre (fun _ k => XS.iloadN X4.here hx rfl (hb hby d5_27) rfl k) ?_
      show OwnEnds p e below _ (T4.setTop (mkF m 28 #[.val (.int p0)] [(.int p0), (.ref b4), (.ref b4)]))
      obtain ⟨_, _, ⟨T5, L5, k5, n5⟩, -, X5, ⟨Lc5, hQ5, l5, y5, z5⟩, st5⟩ := X4.specialBack hx (y := (⟨"java/lang/Integer", "<init>", "(I)V"⟩ : MethodName)) rfl hown (mvT hZ (hw _ (List.mem_of_getElem? (i := 37) rfl))) (mvT hZ (hw _ (List.mem_of_getElem? (i := 38) rfl))) (mvT hZ (hw _ (List.mem_of_getElem? (i := 40) rfl))) (by decide) (backOf (W := 1) (rm6 l Z aZ hw [] b4 p0 (.int (0 : Int32)) h4 n0 (Nat.le_trans Z0 E4.1) g_b4 A4 F4_value) hZ (hw _ (List.mem_of_getElem? (i := 40) rfl)) (hw _ (List.mem_of_getElem? (i := 25) rfl)) (by decide) (by decide)) (g := (mkF m 28 #[.val (.int p0)] [(.int p0), (.ref b4), (.ref b4)])) rfl (by rw [hml]; rfl) (Steps.refl _) (a := b4) (argsL := [(.int p0)]) (rest := [(.ref b4)]) (lenOf pd_4 rfl) rfl (by show 2 * 0 + _ ≤ _; exact Nat.le_of_eq rfl) (hb hby d5_28) (fun _ _ => ⟨rfl, e4, (by decide : 1 + 0 ≤ _), (by decide : 1 + 0 ≤ _)⟩)
      dsimp only [Pt.U, Pt.locs, Pt.cells, Pt.slots] at X5 l5 y5 z5 st5 hQ5
      subst l5 y5 z5
      obtain ⟨rfl, N5q, K5, Ea5, Fa5_0⟩ := hQ5
      have N5 := Fr.app N0 N5q
      refine .pre (fun _ k => st5.trans k) ?_
      have Kp5 : Keep h0 T5.heap [] := Kp4.trans K5 (allS (Or.inr sz_b4) all0)
      show OwnEnds p e below _ (T5.setTop (mkF m 31 #[.val (.int p0)] [(.ref b4)]))
      exact own_endR X5 hx hlk Bd.returns rfl rfl (hb hby d5_31) (by decide) (by decide) ⟨_, rfl, N5, Kp5, Ea5⟩
    · skip
      refine .pre (fun _ k => XS.icmpNo X3.here hx rfl (hb hby d5_10) rfl (flt hc10).2.2.1 k) ?_
      show OwnEnds p e below _ (T3.setTop (mkF m 13 #[.val (.int p0)] []))
      obtain ⟨T6, X6, e6, st6⟩ := getS2 X3 hx hZ hown (host := "") (Or.inl (hw _ (List.mem_of_getElem? (i := 29) rfl))) Via.refl e3 SC (g := (mkF m 13 #[.val (.int p0)] [])) rfl (hb hby d5_13)
      refine .pre (fun _ k => st6 _ k) ?_
      show OwnEnds p e below _ (T6.setTop (mkF m 16 #[.val (.int p0)] [(.ref xc)]))
      refine .pre (fun _ k => XS.iloadN X6.here hx rfl (hb hby d5_16) rfl k) ?_
      show OwnEnds p e below _ (T6.setTop (mkF m 17 #[.val (.int p0)] [(.int p0), (.ref xc)]))
      refine .pre (fun _ k => XS.sipush X6.here hx rfl (hb hby d5_17) k) ?_
      show OwnEnds p e below _ (T6.setTop (mkF m 20 #[.val (.int p0)] [(.int (128 : Int32)), (.int p0), (.ref xc)]))
      refine .pre (fun _ k => XS.iadd X6.here hx rfl (hb hby d5_20) rfl k) ?_
      show OwnEnds p e below _ (T6.setTop (mkF m 21 #[.val (.int p0)] [(.int (p0 + (128 : Int32))), (.ref xc)]))
      have hin : ¬ ((p0 + (128 : Int32)) < 0 ∨ cl.slots.size ≤ ((p0 + (128 : Int32))).toNatClampNeg) := inb_of ZC (own_idx hc3 hc10)
      obtain ⟨rc, hat, Erc⟩ := HC _ hin
      refine .pre (fun _ k => X6.aaload hx (j := (p0 + (128 : Int32))) (v := (.ref rc)) (by rw [e6]; exact AC.1) (State.isArrayOf_alike hZ.alike AC.2.1) rfl AC.2.2 hin hat (g := (mkF m 21 #[.val (.int p0)] [(.int (p0 + (128 : Int32))), (.ref xc)])) rfl rfl (hb hby d5_21) _ k) ?_
      show OwnEnds p e below _ (T6.setTop (mkF m 22 #[.val (.int p0)] [(.ref rc)]))
      exact own_endR X6 hx hlk Bd.returns rfl rfl (hb hby d5_22) (by decide) (by decide) ⟨_, rfl, N0, (by rw [e6]; exact (Keep.refl h0 [])), (by rw [e6]; exact Erc)⟩
theorem d4_0 : decode prog_38_method_4_code 0 = .ok (.aload_n 0, 1) := by decide +kernel
theorem d4_1 : decode prog_38_method_4_code 1 = .ok (.aload_n 1, 1) := by decide +kernel
theorem d4_2 : decode prog_38_method_4_code 2 = .ok (.if_acmp .ne 5, 3) := by decide +kernel
theorem d4_5 : decode prog_38_method_4_code 5 = .ok (.iconst 1, 1) := by decide +kernel
theorem d4_6 : decode prog_38_method_4_code 6 = .ok (.ireturn, 1) := by decide +kernel
theorem d4_7 : decode prog_38_method_4_code 7 = .ok (.aload_n 1, 1) := by decide +kernel
theorem d4_8 : decode prog_38_method_4_code 8 = .ok (.instanceof 17, 3) := by decide +kernel
theorem d4_11 : decode prog_38_method_4_code 11 = .ok (.ifCond .ne 5, 3) := by decide +kernel
theorem d4_14 : decode prog_38_method_4_code 14 = .ok (.iconst 0, 1) := by decide +kernel
theorem d4_15 : decode prog_38_method_4_code 15 = .ok (.ireturn, 1) := by decide +kernel
theorem d4_16 : decode prog_38_method_4_code 16 = .ok (.aload_n 1, 1) := by decide +kernel
theorem d4_17 : decode prog_38_method_4_code 17 = .ok (.checkcast 17, 3) := by decide +kernel
theorem d4_20 : decode prog_38_method_4_code 20 = .ok (.astore_n 2, 1) := by decide +kernel
theorem d4_21 : decode prog_38_method_4_code 21 = .ok (.aload_n 0, 1) := by decide +kernel
theorem d4_22 : decode prog_38_method_4_code 22 = .ok (.getfield 16, 3) := by decide +kernel
theorem d4_25 : decode prog_38_method_4_code 25 = .ok (.aload_n 2, 1) := by decide +kernel
theorem d4_26 : decode prog_38_method_4_code 26 = .ok (.getfield 16, 3) := by decide +kernel
theorem d4_29 : decode prog_38_method_4_code 29 = .ok (.if_icmp .ne 18, 3) := by decide +kernel
theorem d4_32 : decode prog_38_method_4_code 32 = .ok (.aload_n 0, 1) := by decide +kernel
theorem d4_33 : decode prog_38_method_4_code 33 = .ok (.getfield 22, 3) := by decide +kernel
theorem d4_36 : decode prog_38_method_4_code 36 = .ok (.aload_n 2, 1) := by decide +kernel
theorem d4_37 : decode prog_38_method_4_code 37 = .ok (.getfield 22, 3) := by decide +kernel
theorem d4_40 : decode prog_38_method_4_code 40 = .ok (.if_icmp .ne 7, 3) := by decide +kernel
theorem d4_43 : decode prog_38_method_4_code 43 = .ok (.iconst 1, 1) := by decide +kernel
theorem d4_44 : decode prog_38_method_4_code 44 = .ok (.goto 4, 3) := by decide +kernel
theorem d4_47 : decode prog_38_method_4_code 47 = .ok (.iconst 0, 1) := by decide +kernel
theorem d4_48 : decode prog_38_method_4_code 48 = .ok (.ireturn, 1) := by decide +kernel
theorem ef_4A (m : MethodId) (a0 : Addr) (a1 : Addr) : entryFrame m #[(.ref a0), (.ref a1)] 3 = mkF m 0 #[.val (.ref a0), .val (.ref a1), .unset] [] := by first | (simp [entryFrame, mkF, argsToLocals, Value.category]; done) | rfl
def f4A_0  : Int32 := (1 : Int32)
def Q4A (Z : State) (a0 : Addr) (a1 : Addr) (h0 : Heap) (n0 : Nat) (v : Option Value) (h : Heap) (L : List Loc) : Prop := v = some (.int (f4A_0)) ∧ Fr n0 L ∧ h = h0
set_option maxRecDepth 65536 in
set_option maxHeartbeats 40000000 in
theorem rm4A (l : Launch) (Z : State) (aZ : Array Value) (hw : ∀ d ∈ tables_1, d.before aZ Z = true) (ws : List Jvm.Cond) (a0 : Addr) (a1 : Addr) (h0 : Heap) (n0 : Nat) (Z0 : n0 ≤ h0.size) (q01 : a0 = a1) :
    MetFree l (⟨"com/example/unimeth/unimeth/reader/Position", "equals", "(Ljava/lang/Object;)Z"⟩ : MethodName) (head1 (Jvm.Cond.code (⟨"com/example/unimeth/unimeth/reader/Position", "equals", "(Ljava/lang/Object;)Z"⟩ : MethodName) prog_38_method_4_code 3 (some .boolean) :: ws) ({ frames := 0, cells := 0, slots := 0, locals := 0 } : Room)) (fun a U => a = #[(.ref a0), (.ref a1)] ∧ Z.Warmed39 U.vm ∧ U.heap = h0) (fun _ _ _ _ _ => True) (fun _ U o U' => ∃ v L, o = .returned v ∧ Q4A Z a0 a1 h0 n0 v U'.heap L ∧ FrameEnd U o U' L 0 0) := by
  refine MetFree.of_bodySF (plainFor_of_name pn_1) hisR ?_
  intro p e s m args below meth c s₁ Bd hml0 hP hK
  obtain ⟨rfl, hZ, hh⟩ := hP
  have hx := Bd.exec
  have hby := Bd.bytes
  have hml : c.maxLocals = 3 := hml0
  have hown : s.vm.findClass "com/example/unimeth/unimeth/reader/Position" = some m.cls := findClass_of_methodNamed Bd.named
  have hnm := (name_of_methodNamed Bd.named Bd.method).1
  have hlk := BodyLoose.notSynchronized Bd
  have X0 : Stand p l e ({ frames := 0, cells := 0, slots := 0, locals := 0 } : Room) s m #[(.ref a0), (.ref a1)] below meth c s₁ [] 0 0 := Stand.of_body Bd
  have e0 : s₁.heap = h0 := by rw [← hh, Bd.state]; rfl
  have N0 := Fr.nil n0
  have hk0 : 0 ≤ 0 := Nat.zero_le _
  have hn0 : 0 ≤ 0 := Nat.zero_le _
  show OwnEnds p e below (OwnQ s (Q4A Z a0 a1 h0 n0) 0 0) (s₁.setTop (entryFrame m #[(.ref a0), (.ref a1)] 3))
  refine .pre (fun t k => castTop (ef_4A m a0 a1) k) ?_
  have hF : f4A_0 = f4A_0 := rfl
  change (1 : Int32) = _ at hF
  show OwnEnds p e below _ (s₁.setTop (mkF m 0 #[.val (.ref a0), .val (.ref a1), .unset] []))
  refine .pre (fun _ k => XS.aloadN X0.here hx rfl (hb hby d4_0) rfl rfl k) ?_
  show OwnEnds p e below _ (s₁.setTop (mkF m 1 #[.val (.ref a0), .val (.ref a1), .unset] [(.ref a0)]))
  refine .pre (fun _ k => XS.aloadN X0.here hx rfl (hb hby d4_1) rfl rfl k) ?_
  show OwnEnds p e below _ (s₁.setTop (mkF m 2 #[.val (.ref a0), .val (.ref a1), .unset] [(.ref a1), (.ref a0)]))
  refine .pre (fun _ k => Jvm.RoadKit.acmp (g := (mkF m 2 #[.val (.ref a0), .val (.ref a1), .unset] [(.ref a1), (.ref a0)])) X0 hx rfl rfl rfl (pc0 := 2) (pc' := 5) (same := true) rfl (hb hby d4_2) rfl (decide_eq_true (congrArg Value.ref q01)) (by decide) (by decide) k) ?_
  show OwnEnds p e below _ (s₁.setTop (mkF m 5 #[.val (.ref a0), .val (.ref a1), .unset] []))
  refine .pre (fun _ k => XS.iconst X0.here hx rfl (hb hby d4_5) k) ?_
  show OwnEnds p e below _ (s₁.setTop (mkF m 6 #[.val (.ref a0), .val (.ref a1), .unset] [(.int (1 : Int32))]))
  exact own_endN X0 hx hlk (t := .boolean) Bd.returns (by simp) (hb hby d4_6) rfl hk0 hn0 ⟨congrArg (fun z => some (Value.int z)) hF, N0, e0⟩
theorem ef_4B (m : MethodId) (a0 : Addr) (a1 : Addr) : entryFrame m #[(.ref a0), (.ref a1)] 3 = mkF m 0 #[.val (.ref a0), .val (.ref a1), .unset] [] := by first | (simp [entryFrame, mkF, argsToLocals, Value.category]; done) | rfl
def f4B_0 (w0 : Int32) (w1 : Int32) (w2 : Int32) (w3 : Int32) : Int32 := (if w0 = w2 then (if w1 = w3 then (1 : Int32) else (0 : Int32)) else (0 : Int32))
def Q4B (Z : State) (a0 : Addr) (a1 : Addr) (w0 : Int32) (w1 : Int32) (w2 : Int32) (w3 : Int32) (h0 : Heap) (n0 : Nat) (v : Option Value) (h : Heap) (L : List Loc) : Prop := v = some (.int (f4B_0 w0 w1 w2 w3)) ∧ Fr n0 L ∧ h = h0
set_option maxRecDepth 65536 in
set_option maxHeartbeats 40000000 in
theorem rm4B (l : Launch) (Z : State) (aZ : Array Value) (hw : ∀ d ∈ tables_1, d.before aZ Z = true) (ws : List Jvm.Cond) (a0 : Addr) (a1 : Addr) (w0 : Int32) (w1 : Int32) (w2 : Int32) (w3 : Int32) (h0 : Heap) (n0 : Nat) (Z0 : n0 ≤ h0.size) (q01 : ¬ (a0 = a1)) (E1 : Exa Z h0 a1 "com/example/unimeth/unimeth/reader/Position") (F0 : Fld Z h0 a0 "com/example/unimeth/unimeth/reader/Position" "line" "I" (.int w0)) (F1 : Fld Z h0 a0 "com/example/unimeth/unimeth/reader/Position" "column" "I" (.int w1)) (F2 : Fld Z h0 a1 "com/example/unimeth/unimeth/reader/Position" "line" "I" (.int w2)) (F3 : Fld Z h0 a1 "com/example/unimeth/unimeth/reader/Position" "column" "I" (.int w3)) :
    MetFree l (⟨"com/example/unimeth/unimeth/reader/Position", "equals", "(Ljava/lang/Object;)Z"⟩ : MethodName) (head1 (Jvm.Cond.code (⟨"com/example/unimeth/unimeth/reader/Position", "equals", "(Ljava/lang/Object;)Z"⟩ : MethodName) prog_38_method_4_code 3 (some .boolean) :: ws) ({ frames := 0, cells := 0, slots := 0, locals := 0 } : Room)) (fun a U => a = #[(.ref a0), (.ref a1)] ∧ Z.Warmed39 U.vm ∧ U.heap = h0) (fun _ _ _ _ _ => True) (fun _ U o U' => ∃ v L, o = .returned v ∧ Q4B Z a0 a1 w0 w1 w2 w3 h0 n0 v U'.heap L ∧ FrameEnd U o U' L 0 0) := by
  refine MetFree.of_bodySF (plainFor_of_name pn_1) hisR ?_
  intro p e s m args below meth c s₁ Bd hml0 hP hK
  obtain ⟨rfl, hZ, hh⟩ := hP
  have hx := Bd.exec
  have hby := Bd.bytes
  have hml : c.maxLocals = 3 := hml0
  have hown : s.vm.findClass "com/example/unimeth/unimeth/reader/Position" = some m.cls := findClass_of_methodNamed Bd.named
  have hnm := (name_of_methodNamed Bd.named Bd.method).1
  have hlk := BodyLoose.notSynchronized Bd
  have X0 : Stand p l e ({ frames := 0, cells := 0, slots := 0, locals := 0 } : Room) s m #[(.ref a0), (.ref a1)] below meth c s₁ [] 0 0 := Stand.of_body Bd
  have e0 : s₁.heap = h0 := by rw [← hh, Bd.state]; rfl
  have N0 := Fr.nil n0
  have hk0 : 0 ≤ 0 := Nat.zero_le _
  have hn0 : 0 ≤ 0 := Nat.zero_le _
  show OwnEnds p e below (OwnQ s (Q4B Z a0 a1 w0 w1 w2 w3 h0 n0) 0 0) (s₁.setTop (entryFrame m #[(.ref a0), (.ref a1)] 3))
  refine .pre (fun t k => castTop (ef_4B m a0 a1) k) ?_
  have hF : f4B_0 w0 w1 w2 w3 = f4B_0 w0 w1 w2 w3 := rfl
  change (if w0 = w2 then (if w1 = w3 then (1 : Int32) else (0 : Int32)) else (0 : Int32)) = _ at hF
  show OwnEnds p e below _ (s₁.setTop (mkF m 0 #[.val (.ref a0), .val (.ref a1), .unset] []))
  refine .pre (fun _ k => XS.aloadN X0.here hx rfl (hb hby d4_0) rfl rfl k) ?_
  show OwnEnds p e below _ (s₁.setTop (mkF m 1 #[.val (.ref a0), .val (.ref a1), .unset] [(.ref a0)]))
  refine .pre (fun _ k => XS.aloadN X0.here hx rfl (hb hby d4_1) rfl rfl k) ?_
  show OwnEnds p e below _ (s₁.setTop (mkF m 2 #[.val (.ref a0), .val (.ref a1), .unset] [(.ref a1), (.ref a0)]))
  refine .pre (fun _ k => Jvm.RoadKit.acmp (g := (mkF m 2 #[.val (.ref a0), .val (.ref a1), .unset] [(.ref a1), (.ref a0)])) X0 hx rfl rfl rfl (pc0 := 2) (pc' := 7) (same := false) rfl (hb hby d4_2) rfl (decide_eq_false fun q => q01 (Value.ref.inj q)) (by decide) (by decide) k) ?_
  show OwnEnds p e below _ (s₁.setTop (mkF m 7 #[.val (.ref a0), .val (.ref a1), .unset] []))
  refine .pre (fun _ k => XS.aloadN X0.here hx rfl (hb hby d4_7) rfl rfl k) ?_
  show OwnEnds p e below _ (s₁.setTop (mkF m 8 #[.val (.ref a0), .val (.ref a1), .unset] [(.ref a1)]))
  obtain ⟨T7, X7, e7, st7⟩ := instY X0 hx hZ hown (hw _ (List.mem_of_getElem? (i := 30) rfl)) e0 (Ins.self E1) (g := (mkF m 8 #[.val (.ref a0), .val (.ref a1), .unset] [(.ref a1)])) rfl rfl (hb hby d4_8)
  refine .pre (fun _ k => st7 _ k) ?_
  show OwnEnds p e below _ (T7.setTop (mkF m 11 #[.val (.ref a0), .val (.ref a1), .unset] [(.int (1 : Int32))]))
  have hc11 : ¬ ((1 : Int32) = (0 : Int32)) := by decide
  refine .pre (fun _ k => XS.ifYes X7.here hx rfl (pc0 := 11) (pc' := 16) rfl (hb hby d4_11) rfl ((if0 _ _).trans (feq hc11).2) (by decide) (by decide) k) ?_
  show OwnEnds p e below _ (T7.setTop (mkF m 16 #[.val (.ref a0), .val (.ref a1), .unset] []))
  refine .pre (fun _ k => XS.aloadN X7.here hx rfl (hb hby d4_16) rfl rfl k) ?_
  show OwnEnds p e below _ (T7.setTop (mkF m 17 #[.val (.ref a0), .val (.ref a1), .unset] [(.ref a1)]))
  obtain ⟨T8, X8, e8, st8⟩ := castY X7 hx hZ hown (hw _ (List.mem_of_getElem? (i := 30) rfl)) e7 (Ins.self E1) (g := (mkF m 17 #[.val (.ref a0), .val (.ref a1), .unset] [(.ref a1)])) rfl rfl (hb hby d4_17)
  refine .pre (fun _ k => st8 _ k) ?_
  show OwnEnds p e below _ (T8.setTop (mkF m 20 #[.val (.ref a0), .val (.ref a1), .unset] [(.ref a1)]))
  refine .pre (fun _ k => XS.astoreN X8.here hx rfl (hb hby d4_20) rfl rfl (l' := #[.val (.ref a0), .val (.ref a1), .val (.ref a1)]) rfl k) ?_
  show OwnEnds p e below _ (T8.setTop (mkF m 21 #[.val (.ref a0), .val (.ref a1), .val (.ref a1)] []))
  refine .pre (fun _ k => XS.aloadN X8.here hx rfl (hb hby d4_21) rfl rfl k) ?_
  show OwnEnds p e below _ (T8.setTop (mkF m 22 #[.val (.ref a0), .val (.ref a1), .val (.ref a1)] [(.ref a0)]))
  obtain ⟨T9, X9, e9, st9⟩ := getF X8 hx hZ hown (host := "") (Or.inl (hw _ (List.mem_of_getElem? (i := 14) rfl))) Via.refl e8 F0 (g := (mkF m 22 #[.val (.ref a0), .val (.ref a1), .val (.ref a1)] [(.ref a0)])) rfl rfl (hb hby d4_22)
  refine .pre (fun _ k => st9 _ k) ?_
  show OwnEnds p e below _ (T9.setTop (mkF m 25 #[.val (.ref a0), .val (.ref a1), .val (.ref a1)] [(.int w0)]))
  refine .pre (fun _ k => XS.aloadN X9.here hx rfl (hb hby d4_25) rfl rfl k) ?_
  show OwnEnds p e below _ (T9.setTop (mkF m 26 #[.val (.ref a0), .val (.ref a1), .val (.ref a1)] [(.ref a1), (.int w0)]))
  obtain ⟨T10, X10, e10, st10⟩ := getF X9 hx hZ hown (host := "") (Or.inl (hw _ (List.mem_of_getElem? (i := 14) rfl))) Via.refl e9 F2 (g := (mkF m 26 #[.val (.ref a0), .val (.ref a1), .val (.ref a1)] [(.ref a1), (.int w0)])) rfl rfl (hb hby d4_26)
  refine .pre (fun _ k => st10 _ k) ?_
  show OwnEnds p e below _ (T10.setTop (mkF m 29 #[.val (.ref a0), .val (.ref a1), .val (.ref a1)] [(.int w2), (.int w0)]))
  by_cases hc29 : w0 = w2
  · rw [if_pos hc29] at hF
    refine .pre (fun _ k => XS.icmpNo X10.here hx rfl (hb hby d4_29) rfl (teq hc29).2 k) ?_
    show OwnEnds p e below _ (T10.setTop (mkF m 32 #[.val (.ref a0), .val (.ref a1), .val (.ref a1)] []))
    refine .pre (fun _ k => XS.aloadN X10.here hx rfl (hb hby d4_32) rfl rfl k) ?_
    show OwnEnds p e below _ (T10.setTop (mkF m 33 #[.val (.ref a0), .val (.ref a1), .val (.ref a1)] [(.ref a0)]))
    obtain ⟨T11, X11, e11, st11⟩ := getF X10 hx hZ hown (host := "") (Or.inl (hw _ (List.mem_of_getElem? (i := 16) rfl))) Via.refl e10 F1 (g := (mkF m 33 #[.val (.ref a0), .val (.ref a1), .val (.ref a1)] [(.ref a0)])) rfl rfl (hb hby d4_33)
    refine .pre (fun _ k => st11 _ k) ?_
    show OwnEnds p e below _ (T11.setTop (mkF m 36 #[.val (.ref a0), .val (.ref a1), .val (.ref a1)] [(.int w1)]))
    refine .pre (fun _ k => XS.aloadN X11.here hx rfl (hb hby d4_36) rfl rfl k) ?_
    show OwnEnds p e below _ (T11.setTop (mkF m 37 #[.val (.ref a0), .val (.ref a1), .val (.ref a1)] [(.ref a1), (.int w1)]))
    obtain ⟨T12, X12, e12, st12⟩ := getF X11 hx hZ hown (host := "") (Or.inl (hw _ (List.mem_of_getElem? (i := 16) rfl))) Via.refl e11 F3 (g := (mkF m 37 #[.val (.ref a0), .val (.ref a1), .val (.ref a1)] [(.ref a1), (.int w1)])) rfl rfl (hb hby d4_37)
    refine .pre (fun _ k => st12 _ k) ?_
    show OwnEnds p e below _ (T12.setTop (mkF m 40 #[.val (.ref a0), .val (.ref a1), .val (.ref a1)] [(.int w3), (.int w1)]))
    by_cases hc40 : w1 = w3
    · rw [if_pos hc40] at hF
      refine .pre (fun _ k => XS.icmpNo X12.here hx rfl (hb hby d4_40) rfl (teq hc40).2 k) ?_
      show OwnEnds p e below _ (T12.setTop (mkF m 43 #[.val (.ref a0), .val (.ref a1), .val (.ref a1)] []))
      refine .pre (fun _ k => XS.iconst X12.here hx rfl (hb hby d4_43) k) ?_
      show OwnEnds p e below _ (T12.setTop (mkF m 44 #[.val (.ref a0), .val (.ref a1), .val (.ref a1)] [(.int (1 : Int32))]))
      refine .pre (fun _ k => XS.goto X12.here hx rfl (pc0 := 44) (pc' := 48) rfl (hb hby d4_44) (by decide) (by decide) k) ?_
      show OwnEnds p e below _ (T12.setTop (mkF m 48 #[.val (.ref a0), .val (.ref a1), .val (.ref a1)] [(.int (1 : Int32))]))
      exact own_endN X12 hx hlk (t := .boolean) Bd.returns (by simp) (hb hby d4_48) rfl hk0 hn0 ⟨congrArg (fun z => some (Value.int z)) hF, N0, e12⟩
    · rw [if_neg hc40] at hF
      refine .pre (fun _ k => XS.icmpYes X12.here hx rfl (pc0 := 40) (pc' := 47) rfl (hb hby d4_40) rfl (feq hc40).2 (by decide) (by decide) k) ?_
      show OwnEnds p e below _ (T12.setTop (mkF m 47 #[.val (.ref a0), .val (.ref a1), .val (.ref a1)] []))
      refine .pre (fun _ k => XS.iconst X12.here hx rfl (hb hby d4_47) k) ?_
      show OwnEnds p e below _ (T12.setTop (mkF m 48 #[.val (.ref a0), .val (.ref a1), .val (.ref a1)] [(.int (0 : Int32))]))
      exact own_endN X12 hx hlk (t := .boolean) Bd.returns (by simp) (hb hby d4_48) rfl hk0 hn0 ⟨congrArg (fun z => some (Value.int z)) hF, N0, e12⟩
  · rw [if_neg hc29] at hF
    refine .pre (fun _ k => XS.icmpYes X10.here hx rfl (pc0 := 29) (pc' := 47) rfl (hb hby d4_29) rfl (feq hc29).2 (by decide) (by decide) k) ?_
    show OwnEnds p e below _ (T10.setTop (mkF m 47 #[.val (.ref a0), .val (.ref a1), .val (.ref a1)] []))
    refine .pre (fun _ k => XS.iconst X10.here hx rfl (hb hby d4_47) k) ?_
    show OwnEnds p e below _ (T10.setTop (mkF m 48 #[.val (.ref a0), .val (.ref a1), .val (.ref a1)] [(.int (0 : Int32))]))
    exact own_endN X10 hx hlk (t := .boolean) Bd.returns (by simp) (hb hby d4_48) rfl hk0 hn0 ⟨congrArg (fun z => some (Value.int z)) hF, N0, e10⟩
theorem ef_4C (m : MethodId) (a0 : Addr) : entryFrame m #[(.ref a0), .null] 3 = mkF m 0 #[.val (.ref a0), .val .null, .unset] [] := by first | (simp [entryFrame, mkF, argsToLocals, Value.category]; done) | rfl
def f4C_0  : Int32 := (0 : Int32)
def Q4C (Z : State) (a0 : Addr) (h0 : Heap) (n0 : Nat) (v : Option Value) (h : Heap) (L : List Loc) : Prop := v = some (.int (f4C_0)) ∧ Fr n0 L ∧ h = h0
set_option maxRecDepth 65536 in
set_option maxHeartbeats 40000000 in
theorem rm4C (l : Launch) (Z : State) (aZ : Array Value) (hw : ∀ d ∈ tables_1, d.before aZ Z = true) (ws : List Jvm.Cond) (a0 : Addr) (h0 : Heap) (n0 : Nat) (Z0 : n0 ≤ h0.size) :
    MetFree l (⟨"com/example/unimeth/unimeth/reader/Position", "equals", "(Ljava/lang/Object;)Z"⟩ : MethodName) (head1 (Jvm.Cond.code (⟨"com/example/unimeth/unimeth/reader/Position", "equals", "(Ljava/lang/Object;)Z"⟩ : MethodName) prog_38_method_4_code 3 (some .boolean) :: ws) ({ frames := 0, cells := 0, slots := 0, locals := 0 } : Room)) (fun a U => a = #[(.ref a0), .null] ∧ Z.Warmed39 U.vm ∧ U.heap = h0) (fun _ _ _ _ _ => True) (fun _ U o U' => ∃ v L, o = .returned v ∧ Q4C Z a0 h0 n0 v U'.heap L ∧ FrameEnd U o U' L 0 0) := by
  refine MetFree.of_bodySF (plainFor_of_name pn_1) hisR ?_
  intro p e s m args below meth c s₁ Bd hml0 hP hK
  obtain ⟨rfl, hZ, hh⟩ := hP
  have hx := Bd.exec
  have hby := Bd.bytes
  have hml : c.maxLocals = 3 := hml0
  have hown : s.vm.findClass "com/example/unimeth/unimeth/reader/Position" = some m.cls := findClass_of_methodNamed Bd.named
  have hnm := (name_of_methodNamed Bd.named Bd.method).1
  have hlk := BodyLoose.notSynchronized Bd
  have X0 : Stand p l e ({ frames := 0, cells := 0, slots := 0, locals := 0 } : Room) s m #[(.ref a0), .null] below meth c s₁ [] 0 0 := Stand.of_body Bd
  have e0 : s₁.heap = h0 := by rw [← hh, Bd.state]; rfl
  have N0 := Fr.nil n0
  have hk0 : 0 ≤ 0 := Nat.zero_le _
  have hn0 : 0 ≤ 0 := Nat.zero_le _
  show OwnEnds p e below (OwnQ s (Q4C Z a0 h0 n0) 0 0) (s₁.setTop (entryFrame m #[(.ref a0), .null] 3))
  refine .pre (fun t k => castTop (ef_4C m a0) k) ?_
  have hF : f4C_0 = f4C_0 := rfl
  change (0 : Int32) = _ at hF
  show OwnEnds p e below _ (s₁.setTop (mkF m 0 #[.val (.ref a0), .val .null, .unset] []))
  refine .pre (fun _ k => XS.aloadN X0.here hx rfl (hb hby d4_0) rfl rfl k) ?_
  show OwnEnds p e below _ (s₁.setTop (mkF m 1 #[.val (.ref a0), .val .null, .unset] [(.ref a0)]))
  refine .pre (fun _ k => XS.aloadN X0.here hx rfl (hb hby d4_1) rfl rfl k) ?_
  show OwnEnds p e below _ (s₁.setTop (mkF m 2 #[.val (.ref a0), .val .null, .unset] [.null, (.ref a0)]))
  refine .pre (fun _ k => Jvm.RoadKit.acmp (g := (mkF m 2 #[.val (.ref a0), .val .null, .unset] [.null, (.ref a0)])) X0 hx rfl rfl rfl (pc0 := 2) (pc' := 7) (same := false) rfl (hb hby d4_2) rfl (decide_eq_false nofun) (by decide) (by decide) k) ?_
  show OwnEnds p e below _ (s₁.setTop (mkF m 7 #[.val (.ref a0), .val .null, .unset] []))
  refine .pre (fun _ k => XS.aloadN X0.here hx rfl (hb hby d4_7) rfl rfl k) ?_
  show OwnEnds p e below _ (s₁.setTop (mkF m 8 #[.val (.ref a0), .val .null, .unset] [.null]))
  refine .pre (fun _ k => X0.instanceofNull hx (g := (mkF m 8 #[.val (.ref a0), .val .null, .unset] [.null])) rfl rfl (hb hby d4_8) _ k) ?_
  show OwnEnds p e below _ (s₁.setTop (mkF m 11 #[.val (.ref a0), .val .null, .unset] [(.int (0 : Int32))]))
  have hc11 : ((0 : Int32) = (0 : Int32)) := by decide
  refine .pre (fun _ k => XS.ifNo X0.here hx rfl (hb hby d4_11) rfl ((if0 _ _).trans (teq hc11).2) k) ?_
  show OwnEnds p e below _ (s₁.setTop (mkF m 14 #[.val (.ref a0), .val .null, .unset] []))
  refine .pre (fun _ k => XS.iconst X0.here hx rfl (hb hby d4_14) k) ?_
  show OwnEnds p e below _ (s₁.setTop (mkF m 15 #[.val (.ref a0), .val .null, .unset] [(.int (0 : Int32))]))
  exact own_endN X0 hx hlk (t := .boolean) Bd.returns (by simp) (hb hby d4_15) rfl hk0 hn0 ⟨congrArg (fun z => some (Value.int z)) hF, N0, e0⟩
theorem ef_4D (m : MethodId) (a0 : Addr) (a1 : Addr) : entryFrame m #[(.ref a0), (.ref a1)] 3 = mkF m 0 #[.val (.ref a0), .val (.ref a1), .unset] [] := by first | (simp [entryFrame, mkF, argsToLocals, Value.category]; done) | rfl
def f4D_0  : Int32 := (0 : Int32)
def Q4D (Z : State) (a0 : Addr) (a1 : Addr) (h0 : Heap) (n0 : Nat) (v : Option Value) (h : Heap) (L : List Loc) : Prop := v = some (.int (f4D_0)) ∧ Fr n0 L ∧ h = h0
set_option maxRecDepth 65536 in
set_option maxHeartbeats 40000000 in
theorem rm4D (l : Launch) (Z : State) (aZ : Array Value) (hw : ∀ d ∈ tables_1, d.before aZ Z = true) (ws : List Jvm.Cond) (a0 : Addr) (a1 : Addr) (h0 : Heap) (n0 : Nat) (Z0 : n0 ≤ h0.size) (q01 : ¬ (a0 = a1)) (E1 : Exa Z h0 a1 "java/lang/Integer") :
    MetFree l (⟨"com/example/unimeth/unimeth/reader/Position", "equals", "(Ljava/lang/Object;)Z"⟩ : MethodName) (head1 (Jvm.Cond.code (⟨"com/example/unimeth/unimeth/reader/Position", "equals", "(Ljava/lang/Object;)Z"⟩ : MethodName) prog_38_method_4_code 3 (some .boolean) :: ws) ({ frames := 0, cells := 0, slots := 0, locals := 0 } : Room)) (fun a U => a = #[(.ref a0), (.ref a1)] ∧ Z.Warmed39 U.vm ∧ U.heap = h0) (fun _ _ _ _ _ => True) (fun _ U o U' => ∃ v L, o = .returned v ∧ Q4D Z a0 a1 h0 n0 v U'.heap L ∧ FrameEnd U o U' L 0 0) := by
  refine MetFree.of_bodySF (plainFor_of_name pn_1) hisR ?_
  intro p e s m args below meth c s₁ Bd hml0 hP hK
  obtain ⟨rfl, hZ, hh⟩ := hP
  have hx := Bd.exec
  have hby := Bd.bytes
  have hml : c.maxLocals = 3 := hml0
  have hown : s.vm.findClass "com/example/unimeth/unimeth/reader/Position" = some m.cls := findClass_of_methodNamed Bd.named
  have hnm := (name_of_methodNamed Bd.named Bd.method).1
  have hlk := BodyLoose.notSynchronized Bd
  have X0 : Stand p l e ({ frames := 0, cells := 0, slots := 0, locals := 0 } : Room) s m #[(.ref a0), (.ref a1)] below meth c s₁ [] 0 0 := Stand.of_body Bd
  have e0 : s₁.heap = h0 := by rw [← hh, Bd.state]; rfl
  have N0 := Fr.nil n0
  have hk0 : 0 ≤ 0 := Nat.zero_le _
  have hn0 : 0 ≤ 0 := Nat.zero_le _
  show OwnEnds p e below (OwnQ s (Q4D Z a0 a1 h0 n0) 0 0) (s₁.setTop (entryFrame m #[(.ref a0), (.ref a1)] 3))
  refine .pre (fun t k => castTop (ef_4D m a0 a1) k) ?_
  have hF : f4D_0 = f4D_0 := rfl
  change (0 : Int32) = _ at hF
  show OwnEnds p e below _ (s₁.setTop (mkF m 0 #[.val (.ref a0), .val (.ref a1), .unset] []))
  refine .pre (fun _ k => XS.aloadN X0.here hx rfl (hb hby d4_0) rfl rfl k) ?_
  show OwnEnds p e below _ (s₁.setTop (mkF m 1 #[.val (.ref a0), .val (.ref a1), .unset] [(.ref a0)]))
  refine .pre (fun _ k => XS.aloadN X0.here hx rfl (hb hby d4_1) rfl rfl k) ?_
  show OwnEnds p e below _ (s₁.setTop (mkF m 2 #[.val (.ref a0), .val (.ref a1), .unset] [(.ref a1), (.ref a0)]))
  refine .pre (fun _ k => Jvm.RoadKit.acmp (g := (mkF m 2 #[.val (.ref a0), .val (.ref a1), .unset] [(.ref a1), (.ref a0)])) X0 hx rfl rfl rfl (pc0 := 2) (pc' := 7) (same := false) rfl (hb hby d4_2) rfl (decide_eq_false fun q => q01 (Value.ref.inj q)) (by decide) (by decide) k) ?_
  show OwnEnds p e below _ (s₁.setTop (mkF m 7 #[.val (.ref a0), .val (.ref a1), .unset] []))
  refine .pre (fun _ k => XS.aloadN X0.here hx rfl (hb hby d4_7) rfl rfl k) ?_
  show OwnEnds p e below _ (s₁.setTop (mkF m 8 #[.val (.ref a0), .val (.ref a1), .unset] [(.ref a1)]))
  obtain ⟨T2, X2, e2, st2⟩ := instNo X0 hx hZ hown (hw _ (List.mem_of_getElem? (i := 30) rfl)) e0 E1 (own_nsno (hw _ (List.mem_of_getElem? (i := 31) rfl)) (hw _ (List.mem_of_getElem? (i := 6) rfl)) (NS.step (hw _ (List.mem_of_getElem? (i := 31) rfl)) (NS.step (hw _ (List.mem_of_getElem? (i := 32) rfl)) (own_nsroot (hw _ (List.mem_of_getElem? (i := 33) rfl)) (hw _ (List.mem_of_getElem? (i := 6) rfl)) (by decide)) (by decide)) (by decide)) (by decide)) (g := (mkF m 8 #[.val (.ref a0), .val (.ref a1), .unset] [(.ref a1)])) rfl rfl (hb hby d4_8)
  refine .pre (fun _ k => st2 _ k) ?_
  show OwnEnds p e below _ (T2.setTop (mkF m 11 #[.val (.ref a0), .val (.ref a1), .unset] [(.int (0 : Int32))]))
  have hc11 : ((0 : Int32) = (0 : Int32)) := by decide
  refine .pre (fun _ k => XS.ifNo X2.here hx rfl (hb hby d4_11) rfl ((if0 _ _).trans (teq hc11).2) k) ?_
  show OwnEnds p e below _ (T2.setTop (mkF m 14 #[.val (.ref a0), .val (.ref a1), .unset] []))
  refine .pre (fun _ k => XS.iconst X2.here hx rfl (hb hby d4_14) k) ?_
  show OwnEnds p e below _ (T2.setTop (mkF m 15 #[.val (.ref a0), .val (.ref a1), .unset] [(.int (0 : Int32))]))
  exact own_endN X2 hx hlk (t := .boolean) Bd.returns (by simp) (hb hby d4_15) rfl hk0 hn0 ⟨congrArg (fun z => some (Value.int z)) hF, N0, e2⟩
theorem own_max (x : Int32) : ¬ (f1_0 (1 : Int32) x < (1 : Int32)) := by
  unfold f1_0
  split
  · intro h; rw [Int32.lt_iff_toInt_lt] at *; omega
  · decide
theorem ef_0 (m : MethodId) (p0 : Int32) (p1 : Int32) (p2 : Int32) (p3 : Int32) (p4 : Int32) : entryFrame m #[(.int p0), (.int p1), (.int p2), (.int p3), (.int p4)] maxLocals = mkF m 0 #[.val (.int p0), .val (.int p1), .val (.int p2), .val (.int p3), .val (.int p4), .unset, .unset, .unset, .unset, .unset, .unset, .unset, .unset] [] := by first | (simp [entryFrame, mkF, argsToLocals, Value.category, maxLocals]; done) | rfl
theorem pn_5 : plainName "com/example/unimeth/unimeth/reader/PositionEqualsPinLaw" = true := by first | (simp [plainName, overriddenIn]; done) | decide +kernel
theorem pd_6 : parseMethodDescriptor "(II)I" = some ⟨[.int, .int], some .int⟩ := by decide +kernel
theorem pd_7 : parseMethodDescriptor "(II)V" = some ⟨[.int, .int], none⟩ := by decide +kernel
theorem pd_8 : parseMethodDescriptor "(Ljava/lang/Object;)Z" = some ⟨[(.object "java/lang/Object")], some .boolean⟩ := by decide +kernel
theorem pd_9 : parseMethodDescriptor "(I)Ljava/lang/Integer;" = some ⟨[.int], some (.object "java/lang/Integer")⟩ := by decide +kernel
def f0_63 (p0 : Int32) (p1 : Int32) (p2 : Int32) (p3 : Int32) (p4 : Int32) (i7 : Int32) (t0 : Int32) : Int32 := (if (p4 &&& (3 : Int32)) = (0 : Int32) then (1 : Int32) else (if (p4 &&& (3 : Int32)) = (1 : Int32) then (if (f1_0 (1 : Int32) (p0 &&& (2147483647 : Int32))) = i7 then (if (f1_0 (1 : Int32) (p1 &&& (2147483647 : Int32))) = t0 then (if (f4B_0 (f1_0 (1 : Int32) (p0 &&& (2147483647 : Int32))) (f1_0 (1 : Int32) (p1 &&& (2147483647 : Int32))) i7 t0) = (1 : Int32) then (if (f4B_0 i7 t0 (f1_0 (1 : Int32) (p0 &&& (2147483647 : Int32))) (f1_0 (1 : Int32) (p1 &&& (2147483647 : Int32)))) = (1 : Int32) then (1 : Int32) else (0 : Int32)) else (0 : Int32)) else (if (f4B_0 (f1_0 (1 : Int32) (p0 &&& (2147483647 : Int32))) (f1_0 (1 : Int32) (p1 &&& (2147483647 : Int32))) i7 t0) = (0 : Int32) then (if (f4B_0 i7 t0 (f1_0 (1 : Int32) (p0 &&& (2147483647 : Int32))) (f1_0 (1 : Int32) (p1 &&& (2147483647 : Int32)))) = (0 : Int32) then (1 : Int32) else (0 : Int32)) else (0 : Int32))) else (if (f4B_0 (f1_0 (1 : Int32) (p0 &&& (2147483647 : Int32))) (f1_0 (1 : Int32) (p1 &&& (2147483647 : Int32))) i7 t0) = (0 : Int32) then (if (f4B_0 i7 t0 (f1_0 (1 : Int32) (p0 &&& (2147483647 : Int32))) (f1_0 (1 : Int32) (p1 &&& (2147483647 : Int32)))) = (0 : Int32) then (1 : Int32) else (0 : Int32)) else (0 : Int32))) else (if (p4 &&& (3 : Int32)) = (2 : Int32) then (1 : Int32) else (1 : Int32))))
def f0_40 (p0 : Int32) (p1 : Int32) (p2 : Int32) (p3 : Int32) (p4 : Int32) (t0 : Int32) : Int32 := (if (p4 &&& (8 : Int32)) = (0 : Int32) then (f0_63 p0 p1 p2 p3 p4 t0 (f1_0 (1 : Int32) (p3 &&& (2147483647 : Int32)))) else (f0_63 p0 p1 p2 p3 p4 t0 (f1_0 (1 : Int32) (p1 &&& (2147483647 : Int32)))))
def f0_0 (p0 : Int32) (p1 : Int32) (p2 : Int32) (p3 : Int32) (p4 : Int32) : Int32 := (if (p4 &&& (4 : Int32)) = (0 : Int32) then (f0_40 p0 p1 p2 p3 p4 (f1_0 (1 : Int32) (p2 &&& (2147483647 : Int32)))) else (f0_40 p0 p1 p2 p3 p4 (f1_0 (1 : Int32) (p0 &&& (2147483647 : Int32)))))
def Q0 (Z : State) (p0 : Int32) (p1 : Int32) (p2 : Int32) (p3 : Int32) (p4 : Int32) (xc : Addr) (cl : Cell) (h0 : Heap) (n0 : Nat) (v : Option Value) (h : Heap) (L : List Loc) : Prop := v = some (.int (f0_0 p0 p1 p2 p3 p4)) ∧ Fr n0 L ∧ True
set_option maxRecDepth 65536 in
set_option maxHeartbeats 40000000 in
theorem rm0 (l : Launch) (Z : State) (aZ : Array Value) (hw : ∀ d ∈ tables_1, d.before aZ Z = true) (ws : List Jvm.Cond) (p0 : Int32) (p1 : Int32) (p2 : Int32) (p3 : Int32) (p4 : Int32) (xc : Addr) (cl : Cell) (h0 : Heap) (n0 : Nat) (Z0 : n0 ≤ h0.size) (SH : Sta Z h0 "java/lang/Integer$IntegerCache" "high" "I" (.int (127 : Int32))) (SC : Sta Z h0 "java/lang/Integer$IntegerCache" "cache" "[Ljava/lang/Integer;" (.ref xc)) (AC : Arr Z h0 xc cl (.object "java/lang/Integer")) (ZC : cl.slots.size = (256 : Int32).toNatClampNeg) (HC : ∀ j : Int32, ¬ (j < 0 ∨ cl.slots.size ≤ j.toNatClampNeg) → ∃ b : Addr, cl.slots[j.toNatClampNeg]? = some (.ref b) ∧ Exa Z h0 b "java/lang/Integer") :
    MetFree l x (head1 (Jvm.Cond.code x code maxLocals ret :: ws) room_1) (fun a U => a = #[(.int p0), (.int p1), (.int p2), (.int p3), (.int p4)] ∧ Z.Warmed39 U.vm ∧ U.heap = h0) (fun _ _ _ _ _ => True) (fun _ U o U' => ∃ v L, o = .returned v ∧ Q0 Z p0 p1 p2 p3 p4 xc cl h0 n0 v U'.heap L ∧ FrameEnd U o U' L 16 128) := by
  refine MetFree.of_bodySF (plainFor_of_name pn_5) hisR ?_
  intro p e s m args below meth c s₁ Bd hml0 hP hK
  obtain ⟨rfl, hZ, hh⟩ := hP
  have hx := Bd.exec
  have hby := Bd.bytes
  have hml : c.maxLocals = 13 := hml0
  have hown : s.vm.findClass "com/example/unimeth/unimeth/reader/PositionEqualsPinLaw" = some m.cls := findClass_of_methodNamed Bd.named
  have hnm := (name_of_methodNamed Bd.named Bd.method).1
  have hlk := BodyLoose.notSynchronized Bd
  have X0 : Stand p l e room_1 s m #[(.int p0), (.int p1), (.int p2), (.int p3), (.int p4)] below meth c s₁ [] 0 0 := Stand.of_body Bd
  have e0 : s₁.heap = h0 := by rw [← hh, Bd.state]; rfl
  have N0 := Fr.nil n0
  have hk0 : 0 ≤ 16 := Nat.zero_le _
  have hn0 : 0 ≤ 128 := Nat.zero_le _
  show OwnEnds p e below (OwnQ s (Q0 Z p0 p1 p2 p3 p4 xc cl h0 n0) 16 128) (s₁.setTop (entryFrame m #[(.int p0), (.int p1), (.int p2), (.int p3), (.int p4)] maxLocals))
  refine .pre (fun t k => castTop (ef_0 m p0 p1 p2 p3 p4) k) ?_
  have B63 : ∀ (T : State) (L : List Loc) (X : Stand p l e room_1 s m #[(.int p0), (.int p1), (.int p2), (.int p3), (.int p4)] below meth c T L 0 0) (eT : T.heap = h0) (N : Fr n0 L) (i7 : Int32) (t0 : Int32) (hq7 : ¬ (i7 < (1 : Int32))) (ht : ¬ (t0 < (1 : Int32))), f0_63 p0 p1 p2 p3 p4 i7 t0 = f0_0 p0 p1 p2 p3 p4 → OwnEnds p e below (OwnQ s (Q0 Z p0 p1 p2 p3 p4 xc cl h0 n0) 16 128) (T.setTop (mkF m 63 #[.val (.int p0), .val (.int p1), .val (.int p2), .val (.int p3), .val (.int p4), .val (.int (f1_0 (1 : Int32) (p0 &&& (2147483647 : Int32)))), .val (.int (f1_0 (1 : Int32) (p1 &&& (2147483647 : Int32)))), .val (.int i7), .unset, .unset, .unset, .unset, .unset] [(.int t0)])) := by
    intro T L X eT N i7 t0 hq7 ht hF
    change (if (p4 &&& (3 : Int32)) = (0 : Int32) then (1 : Int32) else (if (p4 &&& (3 : Int32)) = (1 : Int32) then (if (f1_0 (1 : Int32) (p0 &&& (2147483647 : Int32))) = i7 then (if (f1_0 (1 : Int32) (p1 &&& (2147483647 : Int32))) = t0 then (if (f4B_0 (f1_0 (1 : Int32) (p0 &&& (2147483647 : Int32))) (f1_0 (1 : Int32) (p1 &&& (2147483647 : Int32))) i7 t0) = (1 : Int32) then (if (f4B_0 i7 t0 (f1_0 (1 : Int32) (p0 &&& (2147483647 : Int32))) (f1_0 (1 : Int32) (p1 &&& (2147483647 : Int32)))) = (1 : Int32) then (1 : Int32) else (0 : Int32)) else (0 : Int32)) else (if (f4B_0 (f1_0 (1 : Int32) (p0 &&& (2147483647 : Int32))) (f1_0 (1 : Int32) (p1 &&& (2147483647 : Int32))) i7 t0) = (0 : Int32) then (if (f4B_0 i7 t0 (f1_0 (1 : Int32) (p0 &&& (2147483647 : Int32))) (f1_0 (1 : Int32) (p1 &&& (2147483647 : Int32)))) = (0 : Int32) then (1 : Int32) else (0 : Int32)) else (0 : Int32))) else (if (f4B_0 (f1_0 (1 : Int32) (p0 &&& (2147483647 : Int32))) (f1_0 (1 : Int32) (p1 &&& (2147483647 : Int32))) i7 t0) = (0 : Int32) then (if (f4B_0 i7 t0 (f1_0 (1 : Int32) (p0 &&& (2147483647 : Int32))) (f1_0 (1 : Int32) (p1 &&& (2147483647 : Int32)))) = (0 : Int32) then (1 : Int32) else (0 : Int32)) else (0 : Int32))) else (if (p4 &&& (3 : Int32)) = (2 : Int32) then (1 : Int32) else (1 : Int32)))) = _ at hF
    show OwnEnds p e below _ (T.setTop (mkF m 63 #[.val (.int p0), .val (.int p1), .val (.int p2), .val (.int p3), .val (.int p4), .val (.int (f1_0 (1 : Int32) (p0 &&& (2147483647 : Int32)))), .val (.int (f1_0 (1 : Int32) (p1 &&& (2147483647 : Int32)))), .val (.int i7), .unset, .unset, .unset, .unset, .unset] [(.int t0)]))
    refine .pre (fun _ k => XS.istore X.here hx rfl (hb hby at_63) rfl (l' := #[.val (.int p0), .val (.int p1), .val (.int p2), .val (.int p3), .val (.int p4), .val (.int (f1_0 (1 : Int32) (p0 &&& (2147483647 : Int32)))), .val (.int (f1_0 (1 : Int32) (p1 &&& (2147483647 : Int32)))), .val (.int i7), .val (.int t0), .unset, .unset, .unset, .unset]) rfl k) ?_
    show OwnEnds p e below _ (T.setTop (mkF m 65 #[.val (.int p0), .val (.int p1), .val (.int p2), .val (.int p3), .val (.int p4), .val (.int (f1_0 (1 : Int32) (p0 &&& (2147483647 : Int32)))), .val (.int (f1_0 (1 : Int32) (p1 &&& (2147483647 : Int32)))), .val (.int i7), .val (.int t0), .unset, .unset, .unset, .unset] []))
    obtain ⟨T19, h19, X19, e19, E19, A19, D19, -, st19⟩ := newO X hx hZ hown (hw _ (List.mem_of_getElem? (i := 5) rfl)) (hw _ (List.mem_of_getElem? (i := 6) rfl)) (hw _ (List.mem_of_getElem? (i := 7) rfl)) eT (g := (mkF m 65 #[.val (.int p0), .val (.int p1), .val (.int p2), .val (.int p3), .val (.int p4), .val (.int (f1_0 (1 : Int32) (p0 &&& (2147483647 : Int32)))), .val (.int (f1_0 (1 : Int32) (p1 &&& (2147483647 : Int32)))), .val (.int i7), .val (.int t0), .unset, .unset, .unset, .unset] [])) rfl (hb hby at_65) (by decide) (by decide)
    obtain ⟨b19, g19⟩ : ∃ z, z = h0.size := ⟨_, rfl⟩
    rw [← g19] at A19 D19 st19
    have g_b19 : n0 ≤ b19 := Nat.le_trans Z0 (Nat.le_of_eq g19.symm)
    have sz_b19 : h0.size ≤ b19 := Nat.le_trans (Keep.refl h0 []).1 (Nat.le_of_eq g19.symm)
    have Kp19 : Keep h0 h19 [] := (Keep.refl h0 []).ext E19
    have F19_line : Fld Z h19 b19 "com/example/unimeth/unimeth/reader/Position" "line" "I" (.int (0 : Int32)) := D19 (Or.inr (hw _ (List.mem_of_getElem? (i := 15) rfl))) (ty := .int) (by decide)
    have F19_column : Fld Z h19 b19 "com/example/unimeth/unimeth/reader/Position" "column" "I" (.int (0 : Int32)) := D19 (Or.inr (hw _ (List.mem_of_getElem? (i := 17) rfl))) (ty := .int) (by decide)
    refine .pre (fun _ k => st19 _ k) ?_
    show OwnEnds p e below _ (T19.setTop (mkF m 68 #[.val (.int p0), .val (.int p1), .val (.int p2), .val (.int p3), .val (.int p4), .val (.int (f1_0 (1 : Int32) (p0 &&& (2147483647 : Int32)))), .val (.int (f1_0 (1 : Int32) (p1 &&& (2147483647 : Int32)))), .val (.int i7), .val (.int t0), .unset, .unset, .unset, .unset] [(.ref b19)]))
    refine .pre (fun _ k => XS.dup X19.here hx rfl (hb hby at_68) rfl rfl k) ?_
    show OwnEnds p e below _ (T19.setTop (mkF m 69 #[.val (.int p0), .val (.int p1), .val (.int p2), .val (.int p3), .val (.int p4), .val (.int (f1_0 (1 : Int32) (p0 &&& (2147483647 : Int32)))), .val (.int (f1_0 (1 : Int32) (p1 &&& (2147483647 : Int32)))), .val (.int i7), .val (.int t0), .unset, .unset, .unset, .unset] [(.ref b19), (.ref b19)]))
    refine .pre (fun _ k => XS.iload X19.here hx rfl (hb hby at_69) rfl k) ?_
    show OwnEnds p e below _ (T19.setTop (mkF m 71 #[.val (.int p0), .val (.int p1), .val (.int p2), .val (.int p3), .val (.int p4), .val (.int (f1_0 (1 : Int32) (p0 &&& (2147483647 : Int32)))), .val (.int (f1_0 (1 : Int32) (p1 &&& (2147483647 : Int32)))), .val (.int i7), .val (.int t0), .unset, .unset, .unset, .unset] [(.int (f1_0 (1 : Int32) (p0 &&& (2147483647 : Int32)))), (.ref b19), (.ref b19)]))
    refine .pre (fun _ k => XS.iload X19.here hx rfl (hb hby at_71) rfl k) ?_
    show OwnEnds p e below _ (T19.setTop (mkF m 73 #[.val (.int p0), .val (.int p1), .val (.int p2), .val (.int p3), .val (.int p4), .val (.int (f1_0 (1 : Int32) (p0 &&& (2147483647 : Int32)))), .val (.int (f1_0 (1 : Int32) (p1 &&& (2147483647 : Int32)))), .val (.int i7), .val (.int t0), .unset, .unset, .unset, .unset] [(.int (f1_0 (1 : Int32) (p1 &&& (2147483647 : Int32)))), (.int (f1_0 (1 : Int32) (p0 &&& (2147483647 : Int32)))), (.ref b19), (.ref b19)]))
    obtain ⟨_, _, ⟨T20, L20, k20, n20⟩, -, X20, ⟨Lc20, hQ20, l20, y20, z20⟩, st20⟩ := X19.specialBack hx (y := (⟨"com/example/unimeth/unimeth/reader/Position", "<init>", "(II)V"⟩ : MethodName)) rfl hown (mvT hZ (hw _ (List.mem_of_getElem? (i := 8) rfl))) (mvT hZ (hw _ (List.mem_of_getElem? (i := 9) rfl))) (mvT hZ (hw _ (List.mem_of_getElem? (i := 10) rfl))) (by decide) (backOf (W := 1) (rm2 l Z aZ hw [] b19 (f1_0 (1 : Int32) (p0 &&& (2147483647 : Int32))) (f1_0 (1 : Int32) (p1 &&& (2147483647 : Int32))) (.int (0 : Int32)) (.int (0 : Int32)) h19 n0 (Nat.le_trans Z0 E19.1) (own_max _) (own_max _) g_b19 A19 F19_line F19_column) hZ (hw _ (List.mem_of_getElem? (i := 10) rfl)) (hw _ (List.mem_of_getElem? (i := 7) rfl)) (by decide) (by decide)) (g := (mkF m 73 #[.val (.int p0), .val (.int p1), .val (.int p2), .val (.int p3), .val (.int p4), .val (.int (f1_0 (1 : Int32) (p0 &&& (2147483647 : Int32)))), .val (.int (f1_0 (1 : Int32) (p1 &&& (2147483647 : Int32)))), .val (.int i7), .val (.int t0), .unset, .unset, .unset, .unset] [(.int (f1_0 (1 : Int32) (p1 &&& (2147483647 : Int32)))), (.int (f1_0 (1 : Int32) (p0 &&& (2147483647 : Int32)))), (.ref b19), (.ref b19)])) rfl (by rw [hml]; rfl) (Steps.refl _) (a := b19) (argsL := [(.int (f1_0 (1 : Int32) (p0 &&& (2147483647 : Int32)))), (.int (f1_0 (1 : Int32) (p1 &&& (2147483647 : Int32))))]) (rest := [(.ref b19)]) (lenOf pd_7 rfl) rfl (by show 2 * 0 + _ ≤ _; exact Nat.le_of_eq rfl) (hb hby at_73) (fun _ _ => ⟨rfl, e19, (by decide : 1 + 0 ≤ _), (by decide : 2 + 0 ≤ _)⟩)
    dsimp only [Pt.U, Pt.locs, Pt.cells, Pt.slots] at X20 l20 y20 z20 st20 hQ20
    subst l20 y20 z20
    obtain ⟨rfl, N20q, K20, Ea20, Fa20_0, Fa20_1⟩ := hQ20
    have N20 := Fr.app N N20q
    refine .pre (fun _ k => st20.trans k) ?_
    have Kp20 : Keep h0 T20.heap [] := Kp19.trans K20 (allS (Or.inr sz_b19) all0)
    show OwnEnds p e below _ (T20.setTop (mkF m 76 #[.val (.int p0), .val (.int p1), .val (.int p2), .val (.int p3), .val (.int p4), .val (.int (f1_0 (1 : Int32) (p0 &&& (2147483647 : Int32)))), .val (.int (f1_0 (1 : Int32) (p1 &&& (2147483647 : Int32)))), .val (.int i7), .val (.int t0), .unset, .unset, .unset, .unset] [(.ref b19)]))
    refine .pre (fun _ k => XS.astore X20.here hx rfl (hb hby at_76) rfl rfl (l' := #[.val (.int p0), .val (.int p1), .val (.int p2), .val (.int p3), .val (.int p4), .val (.int (f1_0 (1 : Int32) (p0 &&& (2147483647 : Int32)))), .val (.int (f1_0 (1 : Int32) (p1 &&& (2147483647 : Int32)))), .val (.int i7), .val (.int t0), .val (.ref b19), .unset, .unset, .unset]) rfl k) ?_
    show OwnEnds p e below _ (T20.setTop (mkF m 78 #[.val (.int p0), .val (.int p1), .val (.int p2), .val (.int p3), .val (.int p4), .val (.int (f1_0 (1 : Int32) (p0 &&& (2147483647 : Int32)))), .val (.int (f1_0 (1 : Int32) (p1 &&& (2147483647 : Int32)))), .val (.int i7), .val (.int t0), .val (.ref b19), .unset, .unset, .unset] []))
    obtain ⟨T21, h21, X21, e21, E21, A21, D21, -, st21⟩ := newO X20 hx hZ hown (hw _ (List.mem_of_getElem? (i := 5) rfl)) (hw _ (List.mem_of_getElem? (i := 6) rfl)) (hw _ (List.mem_of_getElem? (i := 7) rfl)) rfl (g := (mkF m 78 #[.val (.int p0), .val (.int p1), .val (.int p2), .val (.int p3), .val (.int p4), .val (.int (f1_0 (1 : Int32) (p0 &&& (2147483647 : Int32)))), .val (.int (f1_0 (1 : Int32) (p1 &&& (2147483647 : Int32)))), .val (.int i7), .val (.int t0), .val (.ref b19), .unset, .unset, .unset] [])) rfl (hb hby at_78) (by decide) (by decide)
    obtain ⟨b21, g21⟩ : ∃ z, z = T20.heap.size := ⟨_, rfl⟩
    rw [← g21] at A21 D21 st21
    have g_b21 : n0 ≤ b21 := Nat.le_trans (Nat.le_trans (Nat.le_trans Z0 E19.1) K20.1) (Nat.le_of_eq g21.symm)
    have sz_b21 : h0.size ≤ b21 := Nat.le_trans Kp20.1 (Nat.le_of_eq g21.symm)
    have Kp21 : Keep h0 h21 [] := Kp20.ext E21
    have F21_line : Fld Z h21 b21 "com/example/unimeth/unimeth/reader/Position" "line" "I" (.int (0 : Int32)) := D21 (Or.inr (hw _ (List.mem_of_getElem? (i := 15) rfl))) (ty := .int) (by decide)
    have F21_column : Fld Z h21 b21 "com/example/unimeth/unimeth/reader/Position" "column" "I" (.int (0 : Int32)) := D21 (Or.inr (hw _ (List.mem_of_getElem? (i := 17) rfl))) (ty := .int) (by decide)
    refine .pre (fun _ k => st21 _ k) ?_
    show OwnEnds p e below _ (T21.setTop (mkF m 81 #[.val (.int p0), .val (.int p1), .val (.int p2), .val (.int p3), .val (.int p4), .val (.int (f1_0 (1 : Int32) (p0 &&& (2147483647 : Int32)))), .val (.int (f1_0 (1 : Int32) (p1 &&& (2147483647 : Int32)))), .val (.int i7), .val (.int t0), .val (.ref b19), .unset, .unset, .unset] [(.ref b21)]))
    refine .pre (fun _ k => XS.dup X21.here hx rfl (hb hby at_81) rfl rfl k) ?_
    show OwnEnds p e below _ (T21.setTop (mkF m 82 #[.val (.int p0), .val (.int p1), .val (.int p2), .val (.int p3), .val (.int p4), .val (.int (f1_0 (1 : Int32) (p0 &&& (2147483647 : Int32)))), .val (.int (f1_0 (1 : Int32) (p1 &&& (2147483647 : Int32)))), .val (.int i7), .val (.int t0), .val (.ref b19), .unset, .unset, .unset] [(.ref b21), (.ref b21)]))
    refine .pre (fun _ k => XS.iload X21.here hx rfl (hb hby at_82) rfl k) ?_
    show OwnEnds p e below _ (T21.setTop (mkF m 84 #[.val (.int p0), .val (.int p1), .val (.int p2), .val (.int p3), .val (.int p4), .val (.int (f1_0 (1 : Int32) (p0 &&& (2147483647 : Int32)))), .val (.int (f1_0 (1 : Int32) (p1 &&& (2147483647 : Int32)))), .val (.int i7), .val (.int t0), .val (.ref b19), .unset, .unset, .unset] [(.int i7), (.ref b21), (.ref b21)]))
    refine .pre (fun _ k => XS.iload X21.here hx rfl (hb hby at_84) rfl k) ?_
    show OwnEnds p e below _ (T21.setTop (mkF m 86 #[.val (.int p0), .val (.int p1), .val (.int p2), .val (.int p3), .val (.int p4), .val (.int (f1_0 (1 : Int32) (p0 &&& (2147483647 : Int32)))), .val (.int (f1_0 (1 : Int32) (p1 &&& (2147483647 : Int32)))), .val (.int i7), .val (.int t0), .val (.ref b19), .unset, .unset, .unset] [(.int t0), (.int i7), (.ref b21), (.ref b21)]))
    obtain ⟨_, _, ⟨T22, L22, k22, n22⟩, -, X22, ⟨Lc22, hQ22, l22, y22, z22⟩, st22⟩ := X21.specialBack hx (y := (⟨"com/example/unimeth/unimeth/reader/Position", "<init>", "(II)V"⟩ : MethodName)) rfl hown (mvT hZ (hw _ (List.mem_of_getElem? (i := 8) rfl))) (mvT hZ (hw _ (List.mem_of_getElem? (i := 9) rfl))) (mvT hZ (hw _ (List.mem_of_getElem? (i := 10) rfl))) (by decide) (backOf (W := 1) (rm2 l Z aZ hw [] b21 i7 t0 (.int (0 : Int32)) (.int (0 : Int32)) h21 n0 (Nat.le_trans (Nat.le_trans (Nat.le_trans Z0 E19.1) K20.1) E21.1) hq7 ht g_b21 A21 F21_line F21_column) hZ (hw _ (List.mem_of_getElem? (i := 10) rfl)) (hw _ (List.mem_of_getElem? (i := 7) rfl)) (by decide) (by decide)) (g := (mkF m 86 #[.val (.int p0), .val (.int p1), .val (.int p2), .val (.int p3), .val (.int p4), .val (.int (f1_0 (1 : Int32) (p0 &&& (2147483647 : Int32)))), .val (.int (f1_0 (1 : Int32) (p1 &&& (2147483647 : Int32)))), .val (.int i7), .val (.int t0), .val (.ref b19), .unset, .unset, .unset] [(.int t0), (.int i7), (.ref b21), (.ref b21)])) rfl (by rw [hml]; rfl) (Steps.refl _) (a := b21) (argsL := [(.int i7), (.int t0)]) (rest := [(.ref b21)]) (lenOf pd_7 rfl) rfl (by show 2 * 0 + _ ≤ _; exact Nat.le_of_eq rfl) (hb hby at_86) (fun _ _ => ⟨rfl, e21, (by decide : 2 + 0 ≤ _), (by decide : 4 + 0 ≤ _)⟩)
    dsimp only [Pt.U, Pt.locs, Pt.cells, Pt.slots] at X22 l22 y22 z22 st22 hQ22
    subst l22 y22 z22
    obtain ⟨rfl, N22q, K22, Ea22, Fa22_0, Fa22_1⟩ := hQ22
    have N22 := Fr.app N20 N22q
    refine .pre (fun _ k => st22.trans k) ?_
    have Kp22 : Keep h0 T22.heap [] := Kp21.trans K22 (allS (Or.inr sz_b21) all0)
    show OwnEnds p e below _ (T22.setTop (mkF m 89 #[.val (.int p0), .val (.int p1), .val (.int p2), .val (.int p3), .val (.int p4), .val (.int (f1_0 (1 : Int32) (p0 &&& (2147483647 : Int32)))), .val (.int (f1_0 (1 : Int32) (p1 &&& (2147483647 : Int32)))), .val (.int i7), .val (.int t0), .val (.ref b19), .unset, .unset, .unset] [(.ref b21)]))
    refine .pre (fun _ k => XS.astore X22.here hx rfl (hb hby at_89) rfl rfl (l' := #[.val (.int p0), .val (.int p1), .val (.int p2), .val (.int p3), .val (.int p4), .val (.int (f1_0 (1 : Int32) (p0 &&& (2147483647 : Int32)))), .val (.int (f1_0 (1 : Int32) (p1 &&& (2147483647 : Int32)))), .val (.int i7), .val (.int t0), .val (.ref b19), .val (.ref b21), .unset, .unset]) rfl k) ?_
    show OwnEnds p e below _ (T22.setTop (mkF m 91 #[.val (.int p0), .val (.int p1), .val (.int p2), .val (.int p3), .val (.int p4), .val (.int (f1_0 (1 : Int32) (p0 &&& (2147483647 : Int32)))), .val (.int (f1_0 (1 : Int32) (p1 &&& (2147483647 : Int32)))), .val (.int i7), .val (.int t0), .val (.ref b19), .val (.ref b21), .unset, .unset] []))
    refine .pre (fun _ k => XS.iload X22.here hx rfl (hb hby at_91) rfl k) ?_
    show OwnEnds p e below _ (T22.setTop (mkF m 93 #[.val (.int p0), .val (.int p1), .val (.int p2), .val (.int p3), .val (.int p4), .val (.int (f1_0 (1 : Int32) (p0 &&& (2147483647 : Int32)))), .val (.int (f1_0 (1 : Int32) (p1 &&& (2147483647 : Int32)))), .val (.int i7), .val (.int t0), .val (.ref b19), .val (.ref b21), .unset, .unset] [(.int p4)]))
    refine .pre (fun _ k => XS.iconst X22.here hx rfl (hb hby at_93) k) ?_
    show OwnEnds p e below _ (T22.setTop (mkF m 94 #[.val (.int p0), .val (.int p1), .val (.int p2), .val (.int p3), .val (.int p4), .val (.int (f1_0 (1 : Int32) (p0 &&& (2147483647 : Int32)))), .val (.int (f1_0 (1 : Int32) (p1 &&& (2147483647 : Int32)))), .val (.int i7), .val (.int t0), .val (.ref b19), .val (.ref b21), .unset, .unset] [(.int (3 : Int32)), (.int p4)]))
    refine .pre (fun _ k => XS.iand X22.here hx rfl (hb hby at_94) rfl k) ?_
    show OwnEnds p e below _ (T22.setTop (mkF m 95 #[.val (.int p0), .val (.int p1), .val (.int p2), .val (.int p3), .val (.int p4), .val (.int (f1_0 (1 : Int32) (p0 &&& (2147483647 : Int32)))), .val (.int (f1_0 (1 : Int32) (p1 &&& (2147483647 : Int32)))), .val (.int i7), .val (.int t0), .val (.ref b19), .val (.ref b21), .unset, .unset] [(.int (p4 &&& (3 : Int32)))]))
    refine .pre (fun _ k => XS.istore X22.here hx rfl (hb hby at_95) rfl (l' := #[.val (.int p0), .val (.int p1), .val (.int p2), .val (.int p3), .val (.int p4), .val (.int (f1_0 (1 : Int32) (p0 &&& (2147483647 : Int32)))), .val (.int (f1_0 (1 : Int32) (p1 &&& (2147483647 : Int32)))), .val (.int i7), .val (.int t0), .val (.ref b19), .val (.ref b21), .val (.int (p4 &&& (3 : Int32))), .unset]) rfl k) ?_
    show OwnEnds p e below _ (T22.setTop (mkF m 97 #[.val (.int p0), .val (.int p1), .val (.int p2), .val (.int p3), .val (.int p4), .val (.int (f1_0 (1 : Int32) (p0 &&& (2147483647 : Int32)))), .val (.int (f1_0 (1 : Int32) (p1 &&& (2147483647 : Int32)))), .val (.int i7), .val (.int t0), .val (.ref b19), .val (.ref b21), .val (.int (p4 &&& (3 : Int32))), .unset] []))
    refine .pre (fun _ k => XS.iload X22.here hx rfl (hb hby at_97) rfl k) ?_
    show OwnEnds p e below _ (T22.setTop (mkF m 99 #[.val (.int p0), .val (.int p1), .val (.int p2), .val (.int p3), .val (.int p4), .val (.int (f1_0 (1 : Int32) (p0 &&& (2147483647 : Int32)))), .val (.int (f1_0 (1 : Int32) (p1 &&& (2147483647 : Int32)))), .val (.int i7), .val (.int t0), .val (.ref b19), .val (.ref b21), .val (.int (p4 &&& (3 : Int32))), .unset] [(.int (p4 &&& (3 : Int32)))]))
    by_cases hc99 : (p4 &&& (3 : Int32)) = (0 : Int32)
    · rw [if_pos hc99] at hF
      refine .pre (fun _ k => XS.ifNo X22.here hx rfl (hb hby at_99) rfl ((if0 _ _).trans (teq hc99).2) k) ?_
      show OwnEnds p e below _ (T22.setTop (mkF m 102 #[.val (.int p0), .val (.int p1), .val (.int p2), .val (.int p3), .val (.int p4), .val (.int (f1_0 (1 : Int32) (p0 &&& (2147483647 : Int32)))), .val (.int (f1_0 (1 : Int32) (p1 &&& (2147483647 : Int32)))), .val (.int i7), .val (.int t0), .val (.ref b19), .val (.ref b21), .val (.int (p4 &&& (3 : Int32))), .unset] []))
      refine .pre (fun _ k => XS.aload X22.here hx rfl (hb hby at_102) rfl rfl k) ?_
      show OwnEnds p e below _ (T22.setTop (mkF m 104 #[.val (.int p0), .val (.int p1), .val (.int p2), .val (.int p3), .val (.int p4), .val (.int (f1_0 (1 : Int32) (p0 &&& (2147483647 : Int32)))), .val (.int (f1_0 (1 : Int32) (p1 &&& (2147483647 : Int32)))), .val (.int i7), .val (.int t0), .val (.ref b19), .val (.ref b21), .val (.int (p4 &&& (3 : Int32))), .unset] [(.ref b19)]))
      refine .pre (fun _ k => XS.aload X22.here hx rfl (hb hby at_104) rfl rfl k) ?_
      show OwnEnds p e below _ (T22.setTop (mkF m 106 #[.val (.int p0), .val (.int p1), .val (.int p2), .val (.int p3), .val (.int p4), .val (.int (f1_0 (1 : Int32) (p0 &&& (2147483647 : Int32)))), .val (.int (f1_0 (1 : Int32) (p1 &&& (2147483647 : Int32)))), .val (.int i7), .val (.int t0), .val (.ref b19), .val (.ref b21), .val (.int (p4 &&& (3 : Int32))), .unset] [(.ref b19), (.ref b19)]))
      obtain ⟨cq23, kq23, q23a, q23b, q23c⟩ := isOf hZ rfl ((Ea20.ext E21).keep K22)
      obtain ⟨_, _, ⟨T23, L23, k23, n23⟩, -, X23, ⟨Lc23, hQ23, l23, y23, z23⟩, st23⟩ := X22.virtualBack hx (y := (⟨"com/example/unimeth/unimeth/reader/Position", "equals", "(Ljava/lang/Object;)Z"⟩ : MethodName)) (z := (⟨"com/example/unimeth/unimeth/reader/Position", "equals", "(Ljava/lang/Object;)Z"⟩ : MethodName)) hown (mvT hZ (hw _ (List.mem_of_getElem? (i := 18) rfl))) (mvT hZ (hw _ (List.mem_of_getElem? (i := 19) rfl))) (notFace_of_selects (args := #[]) (mvT hZ (hw _ (List.mem_of_getElem? (i := 21) rfl)))) (mvT hZ (hw _ (List.mem_of_getElem? (i := 21) rfl))) (mvT hZ (hw _ (List.mem_of_getElem? (i := 20) rfl))) (by decide) (backOf (W := 0) (rm4A l Z aZ hw [] b19 b19 T22.heap n0 (Nat.le_trans (Nat.le_trans (Nat.le_trans (Nat.le_trans Z0 E19.1) K20.1) E21.1) K22.1) rfl) hZ (hw _ (List.mem_of_getElem? (i := 22) rfl)) (hw _ (List.mem_of_getElem? (i := 7) rfl)) (by decide) (by decide)) q23a q23c (g := (mkF m 106 #[.val (.int p0), .val (.int p1), .val (.int p2), .val (.int p3), .val (.int p4), .val (.int (f1_0 (1 : Int32) (p0 &&& (2147483647 : Int32)))), .val (.int (f1_0 (1 : Int32) (p1 &&& (2147483647 : Int32)))), .val (.int i7), .val (.int t0), .val (.ref b19), .val (.ref b21), .val (.int (p4 &&& (3 : Int32))), .unset] [(.ref b19), (.ref b19)])) rfl (by rw [hml]; rfl) (Steps.refl _) (argsL := [(.ref b19)]) (rest := []) (lenOf pd_8 rfl) rfl (by show 2 * 0 + _ ≤ _; exact Nat.le_of_eq rfl) (hb hby at_106) (fun _ _ => ⟨rfl, rfl, (by decide : 2 + 0 ≤ _), (by decide : 4 + 0 ≤ _)⟩)
      dsimp only [Pt.U, Pt.locs, Pt.cells, Pt.slots] at X23 l23 y23 z23 st23 hQ23
      subst l23 y23 z23
      obtain ⟨rfl, N23q, e23⟩ := hQ23
      have N23 := Fr.app N22 N23q
      refine .pre (fun _ k => st23.trans k) ?_
      show OwnEnds p e below _ (T23.setTop (mkF m 109 #[.val (.int p0), .val (.int p1), .val (.int p2), .val (.int p3), .val (.int p4), .val (.int (f1_0 (1 : Int32) (p0 &&& (2147483647 : Int32)))), .val (.int (f1_0 (1 : Int32) (p1 &&& (2147483647 : Int32)))), .val (.int i7), .val (.int t0), .val (.ref b19), .val (.ref b21), .val (.int (p4 &&& (3 : Int32))), .unset] [(.int (1 : Int32))]))
      exact own_endN X23 hx hlk (t := .boolean) Bd.returns (by simp) (hb hby at_109) rfl (by decide) (by decide) ⟨congrArg (fun z => some (Value.int z)) hF, N23, trivial⟩
    · rw [if_neg hc99] at hF
      refine .pre (fun _ k => XS.ifYes X22.here hx rfl (pc0 := 99) (pc' := 110) rfl (hb hby at_99) rfl ((if0 _ _).trans (feq hc99).2) (by decide) (by decide) k) ?_
      show OwnEnds p e below _ (T22.setTop (mkF m 110 #[.val (.int p0), .val (.int p1), .val (.int p2), .val (.int p3), .val (.int p4), .val (.int (f1_0 (1 : Int32) (p0 &&& (2147483647 : Int32)))), .val (.int (f1_0 (1 : Int32) (p1 &&& (2147483647 : Int32)))), .val (.int i7), .val (.int t0), .val (.ref b19), .val (.ref b21), .val (.int (p4 &&& (3 : Int32))), .unset] []))
      refine .pre (fun _ k => XS.iload X22.here hx rfl (hb hby at_110) rfl k) ?_
      show OwnEnds p e below _ (T22.setTop (mkF m 112 #[.val (.int p0), .val (.int p1), .val (.int p2), .val (.int p3), .val (.int p4), .val (.int (f1_0 (1 : Int32) (p0 &&& (2147483647 : Int32)))), .val (.int (f1_0 (1 : Int32) (p1 &&& (2147483647 : Int32)))), .val (.int i7), .val (.int t0), .val (.ref b19), .val (.ref b21), .val (.int (p4 &&& (3 : Int32))), .unset] [(.int (p4 &&& (3 : Int32)))]))
      refine .pre (fun _ k => XS.iconst X22.here hx rfl (hb hby at_112) k) ?_
      show OwnEnds p e below _ (T22.setTop (mkF m 113 #[.val (.int p0), .val (.int p1), .val (.int p2), .val (.int p3), .val (.int p4), .val (.int (f1_0 (1 : Int32) (p0 &&& (2147483647 : Int32)))), .val (.int (f1_0 (1 : Int32) (p1 &&& (2147483647 : Int32)))), .val (.int i7), .val (.int t0), .val (.ref b19), .val (.ref b21), .val (.int (p4 &&& (3 : Int32))), .unset] [(.int (1 : Int32)), (.int (p4 &&& (3 : Int32)))]))
      by_cases hc113 : (p4 &&& (3 : Int32)) = (1 : Int32)
      · rw [if_pos hc113] at hF
        refine .pre (fun _ k => XS.icmpNo X22.here hx rfl (hb hby at_113) rfl (teq hc113).2 k) ?_
        show OwnEnds p e below _ (T22.setTop (mkF m 116 #[.val (.int p0), .val (.int p1), .val (.int p2), .val (.int p3), .val (.int p4), .val (.int (f1_0 (1 : Int32) (p0 &&& (2147483647 : Int32)))), .val (.int (f1_0 (1 : Int32) (p1 &&& (2147483647 : Int32)))), .val (.int i7), .val (.int t0), .val (.ref b19), .val (.ref b21), .val (.int (p4 &&& (3 : Int32))), .unset] []))
        refine .pre (fun _ k => XS.iload X22.here hx rfl (hb hby at_116) rfl k) ?_
        show OwnEnds p e below _ (T22.setTop (mkF m 118 #[.val (.int p0), .val (.int p1), .val (.int p2), .val (.int p3), .val (.int p4), .val (.int (f1_0 (1 : Int32) (p0 &&& (2147483647 : Int32)))), .val (.int (f1_0 (1 : Int32) (p1 &&& (2147483647 : Int32)))), .val (.int i7), .val (.int t0), .val (.ref b19), .val (.ref b21), .val (.int (p4 &&& (3 : Int32))), .unset] [(.int (f1_0 (1 : Int32) (p0 &&& (2147483647 : Int32))))]))
        refine .pre (fun _ k => XS.iload X22.here hx rfl (hb hby at_118) rfl k) ?_
        show OwnEnds p e below _ (T22.setTop (mkF m 120 #[.val (.int p0), .val (.int p1), .val (.int p2), .val (.int p3), .val (.int p4), .val (.int (f1_0 (1 : Int32) (p0 &&& (2147483647 : Int32)))), .val (.int (f1_0 (1 : Int32) (p1 &&& (2147483647 : Int32)))), .val (.int i7), .val (.int t0), .val (.ref b19), .val (.ref b21), .val (.int (p4 &&& (3 : Int32))), .unset] [(.int i7), (.int (f1_0 (1 : Int32) (p0 &&& (2147483647 : Int32))))]))
        by_cases hc120 : (f1_0 (1 : Int32) (p0 &&& (2147483647 : Int32))) = i7
        · rw [if_pos hc120] at hF
          refine .pre (fun _ k => XS.icmpNo X22.here hx rfl (hb hby at_120) rfl (teq hc120).2 k) ?_
          show OwnEnds p e below _ (T22.setTop (mkF m 123 #[.val (.int p0), .val (.int p1), .val (.int p2), .val (.int p3), .val (.int p4), .val (.int (f1_0 (1 : Int32) (p0 &&& (2147483647 : Int32)))), .val (.int (f1_0 (1 : Int32) (p1 &&& (2147483647 : Int32)))), .val (.int i7), .val (.int t0), .val (.ref b19), .val (.ref b21), .val (.int (p4 &&& (3 : Int32))), .unset] []))
          refine .pre (fun _ k => XS.iload X22.here hx rfl (hb hby at_123) rfl k) ?_
          show OwnEnds p e below _ (T22.setTop (mkF m 125 #[.val (.int p0), .val (.int p1), .val (.int p2), .val (.int p3), .val (.int p4), .val (.int (f1_0 (1 : Int32) (p0 &&& (2147483647 : Int32)))), .val (.int (f1_0 (1 : Int32) (p1 &&& (2147483647 : Int32)))), .val (.int i7), .val (.int t0), .val (.ref b19), .val (.ref b21), .val (.int (p4 &&& (3 : Int32))), .unset] [(.int (f1_0 (1 : Int32) (p1 &&& (2147483647 : Int32))))]))
          refine .pre (fun _ k => XS.iload X22.here hx rfl (hb hby at_125) rfl k) ?_
          show OwnEnds p e below _ (T22.setTop (mkF m 127 #[.val (.int p0), .val (.int p1), .val (.int p2), .val (.int p3), .val (.int p4), .val (.int (f1_0 (1 : Int32) (p0 &&& (2147483647 : Int32)))), .val (.int (f1_0 (1 : Int32) (p1 &&& (2147483647 : Int32)))), .val (.int i7), .val (.int t0), .val (.ref b19), .val (.ref b21), .val (.int (p4 &&& (3 : Int32))), .unset] [(.int t0), (.int (f1_0 (1 : Int32) (p1 &&& (2147483647 : Int32))))]))
          by_cases hc127 : (f1_0 (1 : Int32) (p1 &&& (2147483647 : Int32))) = t0
          · rw [if_pos hc127] at hF
            refine .pre (fun _ k => XS.icmpNo X22.here hx rfl (hb hby at_127) rfl (teq hc127).2 k) ?_
            show OwnEnds p e below _ (T22.setTop (mkF m 130 #[.val (.int p0), .val (.int p1), .val (.int p2), .val (.int p3), .val (.int p4), .val (.int (f1_0 (1 : Int32) (p0 &&& (2147483647 : Int32)))), .val (.int (f1_0 (1 : Int32) (p1 &&& (2147483647 : Int32)))), .val (.int i7), .val (.int t0), .val (.ref b19), .val (.ref b21), .val (.int (p4 &&& (3 : Int32))), .unset] []))
            refine .pre (fun _ k => XS.iconst X22.here hx rfl (hb hby at_130) k) ?_
            show OwnEnds p e below _ (T22.setTop (mkF m 131 #[.val (.int p0), .val (.int p1), .val (.int p2), .val (.int p3), .val (.int p4), .val (.int (f1_0 (1 : Int32) (p0 &&& (2147483647 : Int32)))), .val (.int (f1_0 (1 : Int32) (p1 &&& (2147483647 : Int32)))), .val (.int i7), .val (.int t0), .val (.ref b19), .val (.ref b21), .val (.int (p4 &&& (3 : Int32))), .unset] [(.int (1 : Int32))]))
            refine .pre (fun _ k => XS.goto X22.here hx rfl (pc0 := 131) (pc' := 135) rfl (hb hby at_131) (by decide) (by decide) k) ?_
            show OwnEnds p e below _ (T22.setTop (mkF m 135 #[.val (.int p0), .val (.int p1), .val (.int p2), .val (.int p3), .val (.int p4), .val (.int (f1_0 (1 : Int32) (p0 &&& (2147483647 : Int32)))), .val (.int (f1_0 (1 : Int32) (p1 &&& (2147483647 : Int32)))), .val (.int i7), .val (.int t0), .val (.ref b19), .val (.ref b21), .val (.int (p4 &&& (3 : Int32))), .unset] [(.int (1 : Int32))]))
            refine .pre (fun _ k => XS.istore X22.here hx rfl (hb hby at_135) rfl (l' := #[.val (.int p0), .val (.int p1), .val (.int p2), .val (.int p3), .val (.int p4), .val (.int (f1_0 (1 : Int32) (p0 &&& (2147483647 : Int32)))), .val (.int (f1_0 (1 : Int32) (p1 &&& (2147483647 : Int32)))), .val (.int i7), .val (.int t0), .val (.ref b19), .val (.ref b21), .val (.int (p4 &&& (3 : Int32))), .val (.int (1 : Int32))]) rfl k) ?_
            show OwnEnds p e below _ (T22.setTop (mkF m 137 #[.val (.int p0), .val (.int p1), .val (.int p2), .val (.int p3), .val (.int p4), .val (.int (f1_0 (1 : Int32) (p0 &&& (2147483647 : Int32)))), .val (.int (f1_0 (1 : Int32) (p1 &&& (2147483647 : Int32)))), .val (.int i7), .val (.int t0), .val (.ref b19), .val (.ref b21), .val (.int (p4 &&& (3 : Int32))), .val (.int (1 : Int32))] []))
            refine .pre (fun _ k => XS.aload X22.here hx rfl (hb hby at_137) rfl rfl k) ?_
            show OwnEnds p e below _ (T22.setTop (mkF m 139 #[.val (.int p0), .val (.int p1), .val (.int p2), .val (.int p3), .val (.int p4), .val (.int (f1_0 (1 : Int32) (p0 &&& (2147483647 : Int32)))), .val (.int (f1_0 (1 : Int32) (p1 &&& (2147483647 : Int32)))), .val (.int i7), .val (.int t0), .val (.ref b19), .val (.ref b21), .val (.int (p4 &&& (3 : Int32))), .val (.int (1 : Int32))] [(.ref b19)]))
            refine .pre (fun _ k => XS.aload X22.here hx rfl (hb hby at_139) rfl rfl k) ?_
            show OwnEnds p e below _ (T22.setTop (mkF m 141 #[.val (.int p0), .val (.int p1), .val (.int p2), .val (.int p3), .val (.int p4), .val (.int (f1_0 (1 : Int32) (p0 &&& (2147483647 : Int32)))), .val (.int (f1_0 (1 : Int32) (p1 &&& (2147483647 : Int32)))), .val (.int i7), .val (.int t0), .val (.ref b19), .val (.ref b21), .val (.int (p4 &&& (3 : Int32))), .val (.int (1 : Int32))] [(.ref b21), (.ref b19)]))
            obtain ⟨cq24, kq24, q24a, q24b, q24c⟩ := isOf hZ rfl ((Ea20.ext E21).keep K22)
            obtain ⟨_, _, ⟨T24, L24, k24, n24⟩, -, X24, ⟨Lc24, hQ24, l24, y24, z24⟩, st24⟩ := X22.virtualBack hx (y := (⟨"com/example/unimeth/unimeth/reader/Position", "equals", "(Ljava/lang/Object;)Z"⟩ : MethodName)) (z := (⟨"com/example/unimeth/unimeth/reader/Position", "equals", "(Ljava/lang/Object;)Z"⟩ : MethodName)) hown (mvT hZ (hw _ (List.mem_of_getElem? (i := 18) rfl))) (mvT hZ (hw _ (List.mem_of_getElem? (i := 19) rfl))) (notFace_of_selects (args := #[]) (mvT hZ (hw _ (List.mem_of_getElem? (i := 21) rfl)))) (mvT hZ (hw _ (List.mem_of_getElem? (i := 21) rfl))) (mvT hZ (hw _ (List.mem_of_getElem? (i := 20) rfl))) (by decide) (backOf (W := 0) (rm4B l Z aZ hw [] b19 b21 (f1_0 (1 : Int32) (p0 &&& (2147483647 : Int32))) (f1_0 (1 : Int32) (p1 &&& (2147483647 : Int32))) i7 t0 T22.heap n0 (Nat.le_trans (Nat.le_trans (Nat.le_trans (Nat.le_trans Z0 E19.1) K20.1) E21.1) K22.1) (Nat.ne_of_lt (Nat.lt_of_lt_of_le Ea20.lt (Nat.le_of_eq g21.symm))) Ea22 ((Fa20_0.ext E21).keep K22 (own_nin1 (Nat.ne_of_lt (Nat.lt_of_lt_of_le Ea20.lt (Nat.le_of_eq g21.symm))))) ((Fa20_1.ext E21).keep K22 (own_nin1 (Nat.ne_of_lt (Nat.lt_of_lt_of_le Ea20.lt (Nat.le_of_eq g21.symm))))) Fa22_0 Fa22_1) hZ (hw _ (List.mem_of_getElem? (i := 22) rfl)) (hw _ (List.mem_of_getElem? (i := 7) rfl)) (by decide) (by decide)) q24a q24c (g := (mkF m 141 #[.val (.int p0), .val (.int p1), .val (.int p2), .val (.int p3), .val (.int p4), .val (.int (f1_0 (1 : Int32) (p0 &&& (2147483647 : Int32)))), .val (.int (f1_0 (1 : Int32) (p1 &&& (2147483647 : Int32)))), .val (.int i7), .val (.int t0), .val (.ref b19), .val (.ref b21), .val (.int (p4 &&& (3 : Int32))), .val (.int (1 : Int32))] [(.ref b21), (.ref b19)])) rfl (by rw [hml]; rfl) (Steps.refl _) (argsL := [(.ref b21)]) (rest := []) (lenOf pd_8 rfl) rfl (by show 2 * 0 + _ ≤ _; exact Nat.le_of_eq rfl) (hb hby at_141) (fun _ _ => ⟨rfl, rfl, (by decide : 2 + 0 ≤ _), (by decide : 4 + 0 ≤ _)⟩)
            dsimp only [Pt.U, Pt.locs, Pt.cells, Pt.slots] at X24 l24 y24 z24 st24 hQ24
            subst l24 y24 z24
            obtain ⟨rfl, N24q, e24⟩ := hQ24
            have N24 := Fr.app N22 N24q
            refine .pre (fun _ k => st24.trans k) ?_
            show OwnEnds p e below _ (T24.setTop (mkF m 144 #[.val (.int p0), .val (.int p1), .val (.int p2), .val (.int p3), .val (.int p4), .val (.int (f1_0 (1 : Int32) (p0 &&& (2147483647 : Int32)))), .val (.int (f1_0 (1 : Int32) (p1 &&& (2147483647 : Int32)))), .val (.int i7), .val (.int t0), .val (.ref b19), .val (.ref b21), .val (.int (p4 &&& (3 : Int32))), .val (.int (1 : Int32))] [(.int (f4B_0 (f1_0 (1 : Int32) (p0 &&& (2147483647 : Int32))) (f1_0 (1 : Int32) (p1 &&& (2147483647 : Int32))) i7 t0))]))
            refine .pre (fun _ k => XS.iload X24.here hx rfl (hb hby at_144) rfl k) ?_
            show OwnEnds p e below _ (T24.setTop (mkF m 146 #[.val (.int p0), .val (.int p1), .val (.int p2), .val (.int p3), .val (.int p4), .val (.int (f1_0 (1 : Int32) (p0 &&& (2147483647 : Int32)))), .val (.int (f1_0 (1 : Int32) (p1 &&& (2147483647 : Int32)))), .val (.int i7), .val (.int t0), .val (.ref b19), .val (.ref b21), .val (.int (p4 &&& (3 : Int32))), .val (.int (1 : Int32))] [(.int (1 : Int32)), (.int (f4B_0 (f1_0 (1 : Int32) (p0 &&& (2147483647 : Int32))) (f1_0 (1 : Int32) (p1 &&& (2147483647 : Int32))) i7 t0))]))
            by_cases hc146 : (f4B_0 (f1_0 (1 : Int32) (p0 &&& (2147483647 : Int32))) (f1_0 (1 : Int32) (p1 &&& (2147483647 : Int32))) i7 t0) = (1 : Int32)
            · rw [if_pos hc146] at hF
              refine .pre (fun _ k => XS.icmpNo X24.here hx rfl (hb hby at_146) rfl (teq hc146).2 k) ?_
              show OwnEnds p e below _ (T24.setTop (mkF m 149 #[.val (.int p0), .val (.int p1), .val (.int p2), .val (.int p3), .val (.int p4), .val (.int (f1_0 (1 : Int32) (p0 &&& (2147483647 : Int32)))), .val (.int (f1_0 (1 : Int32) (p1 &&& (2147483647 : Int32)))), .val (.int i7), .val (.int t0), .val (.ref b19), .val (.ref b21), .val (.int (p4 &&& (3 : Int32))), .val (.int (1 : Int32))] []))
              refine .pre (fun _ k => XS.aload X24.here hx rfl (hb hby at_149) rfl rfl k) ?_
              show OwnEnds p e below _ (T24.setTop (mkF m 151 #[.val (.int p0), .val (.int p1), .val (.int p2), .val (.int p3), .val (.int p4), .val (.int (f1_0 (1 : Int32) (p0 &&& (2147483647 : Int32)))), .val (.int (f1_0 (1 : Int32) (p1 &&& (2147483647 : Int32)))), .val (.int i7), .val (.int t0), .val (.ref b19), .val (.ref b21), .val (.int (p4 &&& (3 : Int32))), .val (.int (1 : Int32))] [(.ref b21)]))
              refine .pre (fun _ k => XS.aload X24.here hx rfl (hb hby at_151) rfl rfl k) ?_
              show OwnEnds p e below _ (T24.setTop (mkF m 153 #[.val (.int p0), .val (.int p1), .val (.int p2), .val (.int p3), .val (.int p4), .val (.int (f1_0 (1 : Int32) (p0 &&& (2147483647 : Int32)))), .val (.int (f1_0 (1 : Int32) (p1 &&& (2147483647 : Int32)))), .val (.int i7), .val (.int t0), .val (.ref b19), .val (.ref b21), .val (.int (p4 &&& (3 : Int32))), .val (.int (1 : Int32))] [(.ref b19), (.ref b21)]))
              obtain ⟨cq25, kq25, q25a, q25b, q25c⟩ := isOf hZ e24 Ea22
              obtain ⟨_, _, ⟨T25, L25, k25, n25⟩, -, X25, ⟨Lc25, hQ25, l25, y25, z25⟩, st25⟩ := X24.virtualBack hx (y := (⟨"com/example/unimeth/unimeth/reader/Position", "equals", "(Ljava/lang/Object;)Z"⟩ : MethodName)) (z := (⟨"com/example/unimeth/unimeth/reader/Position", "equals", "(Ljava/lang/Object;)Z"⟩ : MethodName)) hown (mvT hZ (hw _ (List.mem_of_getElem? (i := 18) rfl))) (mvT hZ (hw _ (List.mem_of_getElem? (i := 19) rfl))) (notFace_of_selects (args := #[]) (mvT hZ (hw _ (List.mem_of_getElem? (i := 21) rfl)))) (mvT hZ (hw _ (List.mem_of_getElem? (i := 21) rfl))) (mvT hZ (hw _ (List.mem_of_getElem? (i := 20) rfl))) (by decide) (backOf (W := 0) (rm4B l Z aZ hw [] b21 b19 i7 t0 (f1_0 (1 : Int32) (p0 &&& (2147483647 : Int32))) (f1_0 (1 : Int32) (p1 &&& (2147483647 : Int32))) T22.heap n0 (Nat.le_trans (Nat.le_trans (Nat.le_trans (Nat.le_trans Z0 E19.1) K20.1) E21.1) K22.1) (Ne.symm (Nat.ne_of_lt (Nat.lt_of_lt_of_le Ea20.lt (Nat.le_of_eq g21.symm)))) ((Ea20.ext E21).keep K22) Fa22_0 Fa22_1 ((Fa20_0.ext E21).keep K22 (own_nin1 (Nat.ne_of_lt (Nat.lt_of_lt_of_le Ea20.lt (Nat.le_of_eq g21.symm))))) ((Fa20_1.ext E21).keep K22 (own_nin1 (Nat.ne_of_lt (Nat.lt_of_lt_of_le Ea20.lt (Nat.le_of_eq g21.symm)))))) hZ (hw _ (List.mem_of_getElem? (i := 22) rfl)) (hw _ (List.mem_of_getElem? (i := 7) rfl)) (by decide) (by decide)) q25a q25c (g := (mkF m 153 #[.val (.int p0), .val (.int p1), .val (.int p2), .val (.int p3), .val (.int p4), .val (.int (f1_0 (1 : Int32) (p0 &&& (2147483647 : Int32)))), .val (.int (f1_0 (1 : Int32) (p1 &&& (2147483647 : Int32)))), .val (.int i7), .val (.int t0), .val (.ref b19), .val (.ref b21), .val (.int (p4 &&& (3 : Int32))), .val (.int (1 : Int32))] [(.ref b19), (.ref b21)])) rfl (by rw [hml]; rfl) (Steps.refl _) (argsL := [(.ref b19)]) (rest := []) (lenOf pd_8 rfl) rfl (by show 2 * 0 + _ ≤ _; exact Nat.le_of_eq rfl) (hb hby at_153) (fun _ _ => ⟨rfl, e24, (by decide : 2 + 0 ≤ _), (by decide : 4 + 0 ≤ _)⟩)
              dsimp only [Pt.U, Pt.locs, Pt.cells, Pt.slots] at X25 l25 y25 z25 st25 hQ25
              subst l25 y25 z25
              obtain ⟨rfl, N25q, e25⟩ := hQ25
              have N25 := Fr.app N24 N25q
              refine .pre (fun _ k => st25.trans k) ?_
              show OwnEnds p e below _ (T25.setTop (mkF m 156 #[.val (.int p0), .val (.int p1), .val (.int p2), .val (.int p3), .val (.int p4), .val (.int (f1_0 (1 : Int32) (p0 &&& (2147483647 : Int32)))), .val (.int (f1_0 (1 : Int32) (p1 &&& (2147483647 : Int32)))), .val (.int i7), .val (.int t0), .val (.ref b19), .val (.ref b21), .val (.int (p4 &&& (3 : Int32))), .val (.int (1 : Int32))] [(.int (f4B_0 i7 t0 (f1_0 (1 : Int32) (p0 &&& (2147483647 : Int32))) (f1_0 (1 : Int32) (p1 &&& (2147483647 : Int32)))))]))
              refine .pre (fun _ k => XS.iload X25.here hx rfl (hb hby at_156) rfl k) ?_
              show OwnEnds p e below _ (T25.setTop (mkF m 158 #[.val (.int p0), .val (.int p1), .val (.int p2), .val (.int p3), .val (.int p4), .val (.int (f1_0 (1 : Int32) (p0 &&& (2147483647 : Int32)))), .val (.int (f1_0 (1 : Int32) (p1 &&& (2147483647 : Int32)))), .val (.int i7), .val (.int t0), .val (.ref b19), .val (.ref b21), .val (.int (p4 &&& (3 : Int32))), .val (.int (1 : Int32))] [(.int (1 : Int32)), (.int (f4B_0 i7 t0 (f1_0 (1 : Int32) (p0 &&& (2147483647 : Int32))) (f1_0 (1 : Int32) (p1 &&& (2147483647 : Int32)))))]))
              by_cases hc158 : (f4B_0 i7 t0 (f1_0 (1 : Int32) (p0 &&& (2147483647 : Int32))) (f1_0 (1 : Int32) (p1 &&& (2147483647 : Int32)))) = (1 : Int32)
              · rw [if_pos hc158] at hF
                refine .pre (fun _ k => XS.icmpNo X25.here hx rfl (hb hby at_158) rfl (teq hc158).2 k) ?_
                show OwnEnds p e below _ (T25.setTop (mkF m 161 #[.val (.int p0), .val (.int p1), .val (.int p2), .val (.int p3), .val (.int p4), .val (.int (f1_0 (1 : Int32) (p0 &&& (2147483647 : Int32)))), .val (.int (f1_0 (1 : Int32) (p1 &&& (2147483647 : Int32)))), .val (.int i7), .val (.int t0), .val (.ref b19), .val (.ref b21), .val (.int (p4 &&& (3 : Int32))), .val (.int (1 : Int32))] []))
                refine .pre (fun _ k => XS.iconst X25.here hx rfl (hb hby at_161) k) ?_
                show OwnEnds p e below _ (T25.setTop (mkF m 162 #[.val (.int p0), .val (.int p1), .val (.int p2), .val (.int p3), .val (.int p4), .val (.int (f1_0 (1 : Int32) (p0 &&& (2147483647 : Int32)))), .val (.int (f1_0 (1 : Int32) (p1 &&& (2147483647 : Int32)))), .val (.int i7), .val (.int t0), .val (.ref b19), .val (.ref b21), .val (.int (p4 &&& (3 : Int32))), .val (.int (1 : Int32))] [(.int (1 : Int32))]))
                refine .pre (fun _ k => XS.goto X25.here hx rfl (pc0 := 162) (pc' := 166) rfl (hb hby at_162) (by decide) (by decide) k) ?_
                show OwnEnds p e below _ (T25.setTop (mkF m 166 #[.val (.int p0), .val (.int p1), .val (.int p2), .val (.int p3), .val (.int p4), .val (.int (f1_0 (1 : Int32) (p0 &&& (2147483647 : Int32)))), .val (.int (f1_0 (1 : Int32) (p1 &&& (2147483647 : Int32)))), .val (.int i7), .val (.int t0), .val (.ref b19), .val (.ref b21), .val (.int (p4 &&& (3 : Int32))), .val (.int (1 : Int32))] [(.int (1 : Int32))]))
                exact own_endN X25 hx hlk (t := .boolean) Bd.returns (by simp) (hb hby at_166) rfl (by decide) (by decide) ⟨congrArg (fun z => some (Value.int z)) hF, N25, trivial⟩
              · rw [if_neg hc158] at hF
                refine .pre (fun _ k => XS.icmpYes X25.here hx rfl (pc0 := 158) (pc' := 165) rfl (hb hby at_158) rfl (feq hc158).2 (by decide) (by decide) k) ?_
                show OwnEnds p e below _ (T25.setTop (mkF m 165 #[.val (.int p0), .val (.int p1), .val (.int p2), .val (.int p3), .val (.int p4), .val (.int (f1_0 (1 : Int32) (p0 &&& (2147483647 : Int32)))), .val (.int (f1_0 (1 : Int32) (p1 &&& (2147483647 : Int32)))), .val (.int i7), .val (.int t0), .val (.ref b19), .val (.ref b21), .val (.int (p4 &&& (3 : Int32))), .val (.int (1 : Int32))] []))
                refine .pre (fun _ k => XS.iconst X25.here hx rfl (hb hby at_165) k) ?_
                show OwnEnds p e below _ (T25.setTop (mkF m 166 #[.val (.int p0), .val (.int p1), .val (.int p2), .val (.int p3), .val (.int p4), .val (.int (f1_0 (1 : Int32) (p0 &&& (2147483647 : Int32)))), .val (.int (f1_0 (1 : Int32) (p1 &&& (2147483647 : Int32)))), .val (.int i7), .val (.int t0), .val (.ref b19), .val (.ref b21), .val (.int (p4 &&& (3 : Int32))), .val (.int (1 : Int32))] [(.int (0 : Int32))]))
                exact own_endN X25 hx hlk (t := .boolean) Bd.returns (by simp) (hb hby at_166) rfl (by decide) (by decide) ⟨congrArg (fun z => some (Value.int z)) hF, N25, trivial⟩
            · rw [if_neg hc146] at hF
              refine .pre (fun _ k => XS.icmpYes X24.here hx rfl (pc0 := 146) (pc' := 165) rfl (hb hby at_146) rfl (feq hc146).2 (by decide) (by decide) k) ?_
              show OwnEnds p e below _ (T24.setTop (mkF m 165 #[.val (.int p0), .val (.int p1), .val (.int p2), .val (.int p3), .val (.int p4), .val (.int (f1_0 (1 : Int32) (p0 &&& (2147483647 : Int32)))), .val (.int (f1_0 (1 : Int32) (p1 &&& (2147483647 : Int32)))), .val (.int i7), .val (.int t0), .val (.ref b19), .val (.ref b21), .val (.int (p4 &&& (3 : Int32))), .val (.int (1 : Int32))] []))
              refine .pre (fun _ k => XS.iconst X24.here hx rfl (hb hby at_165) k) ?_
              show OwnEnds p e below _ (T24.setTop (mkF m 166 #[.val (.int p0), .val (.int p1), .val (.int p2), .val (.int p3), .val (.int p4), .val (.int (f1_0 (1 : Int32) (p0 &&& (2147483647 : Int32)))), .val (.int (f1_0 (1 : Int32) (p1 &&& (2147483647 : Int32)))), .val (.int i7), .val (.int t0), .val (.ref b19), .val (.ref b21), .val (.int (p4 &&& (3 : Int32))), .val (.int (1 : Int32))] [(.int (0 : Int32))]))
              exact own_endN X24 hx hlk (t := .boolean) Bd.returns (by simp) (hb hby at_166) rfl (by decide) (by decide) ⟨congrArg (fun z => some (Value.int z)) hF, N24, trivial⟩
          · rw [if_neg hc127] at hF
            refine .pre (fun _ k => XS.icmpYes X22.here hx rfl (pc0 := 127) (pc' := 134) rfl (hb hby at_127) rfl (feq hc127).2 (by decide) (by decide) k) ?_
            show OwnEnds p e below _ (T22.setTop (mkF m 134 #[.val (.int p0), .val (.int p1), .val (.int p2), .val (.int p3), .val (.int p4), .val (.int (f1_0 (1 : Int32) (p0 &&& (2147483647 : Int32)))), .val (.int (f1_0 (1 : Int32) (p1 &&& (2147483647 : Int32)))), .val (.int i7), .val (.int t0), .val (.ref b19), .val (.ref b21), .val (.int (p4 &&& (3 : Int32))), .unset] []))
            refine .pre (fun _ k => XS.iconst X22.here hx rfl (hb hby at_134) k) ?_
            show OwnEnds p e below _ (T22.setTop (mkF m 135 #[.val (.int p0), .val (.int p1), .val (.int p2), .val (.int p3), .val (.int p4), .val (.int (f1_0 (1 : Int32) (p0 &&& (2147483647 : Int32)))), .val (.int (f1_0 (1 : Int32) (p1 &&& (2147483647 : Int32)))), .val (.int i7), .val (.int t0), .val (.ref b19), .val (.ref b21), .val (.int (p4 &&& (3 : Int32))), .unset] [(.int (0 : Int32))]))
            refine .pre (fun _ k => XS.istore X22.here hx rfl (hb hby at_135) rfl (l' := #[.val (.int p0), .val (.int p1), .val (.int p2), .val (.int p3), .val (.int p4), .val (.int (f1_0 (1 : Int32) (p0 &&& (2147483647 : Int32)))), .val (.int (f1_0 (1 : Int32) (p1 &&& (2147483647 : Int32)))), .val (.int i7), .val (.int t0), .val (.ref b19), .val (.ref b21), .val (.int (p4 &&& (3 : Int32))), .val (.int (0 : Int32))]) rfl k) ?_
            show OwnEnds p e below _ (T22.setTop (mkF m 137 #[.val (.int p0), .val (.int p1), .val (.int p2), .val (.int p3), .val (.int p4), .val (.int (f1_0 (1 : Int32) (p0 &&& (2147483647 : Int32)))), .val (.int (f1_0 (1 : Int32) (p1 &&& (2147483647 : Int32)))), .val (.int i7), .val (.int t0), .val (.ref b19), .val (.ref b21), .val (.int (p4 &&& (3 : Int32))), .val (.int (0 : Int32))] []))
            refine .pre (fun _ k => XS.aload X22.here hx rfl (hb hby at_137) rfl rfl k) ?_
            show OwnEnds p e below _ (T22.setTop (mkF m 139 #[.val (.int p0), .val (.int p1), .val (.int p2), .val (.int p3), .val (.int p4), .val (.int (f1_0 (1 : Int32) (p0 &&& (2147483647 : Int32)))), .val (.int (f1_0 (1 : Int32) (p1 &&& (2147483647 : Int32)))), .val (.int i7), .val (.int t0), .val (.ref b19), .val (.ref b21), .val (.int (p4 &&& (3 : Int32))), .val (.int (0 : Int32))] [(.ref b19)]))
            refine .pre (fun _ k => XS.aload X22.here hx rfl (hb hby at_139) rfl rfl k) ?_
            show OwnEnds p e below _ (T22.setTop (mkF m 141 #[.val (.int p0), .val (.int p1), .val (.int p2), .val (.int p3), .val (.int p4), .val (.int (f1_0 (1 : Int32) (p0 &&& (2147483647 : Int32)))), .val (.int (f1_0 (1 : Int32) (p1 &&& (2147483647 : Int32)))), .val (.int i7), .val (.int t0), .val (.ref b19), .val (.ref b21), .val (.int (p4 &&& (3 : Int32))), .val (.int (0 : Int32))] [(.ref b21), (.ref b19)]))
            obtain ⟨cq26, kq26, q26a, q26b, q26c⟩ := isOf hZ rfl ((Ea20.ext E21).keep K22)
            obtain ⟨_, _, ⟨T26, L26, k26, n26⟩, -, X26, ⟨Lc26, hQ26, l26, y26, z26⟩, st26⟩ := X22.virtualBack hx (y := (⟨"com/example/unimeth/unimeth/reader/Position", "equals", "(Ljava/lang/Object;)Z"⟩ : MethodName)) (z := (⟨"com/example/unimeth/unimeth/reader/Position", "equals", "(Ljava/lang/Object;)Z"⟩ : MethodName)) hown (mvT hZ (hw _ (List.mem_of_getElem? (i := 18) rfl))) (mvT hZ (hw _ (List.mem_of_getElem? (i := 19) rfl))) (notFace_of_selects (args := #[]) (mvT hZ (hw _ (List.mem_of_getElem? (i := 21) rfl)))) (mvT hZ (hw _ (List.mem_of_getElem? (i := 21) rfl))) (mvT hZ (hw _ (List.mem_of_getElem? (i := 20) rfl))) (by decide) (backOf (W := 0) (rm4B l Z aZ hw [] b19 b21 (f1_0 (1 : Int32) (p0 &&& (2147483647 : Int32))) (f1_0 (1 : Int32) (p1 &&& (2147483647 : Int32))) i7 t0 T22.heap n0 (Nat.le_trans (Nat.le_trans (Nat.le_trans (Nat.le_trans Z0 E19.1) K20.1) E21.1) K22.1) (Nat.ne_of_lt (Nat.lt_of_lt_of_le Ea20.lt (Nat.le_of_eq g21.symm))) Ea22 ((Fa20_0.ext E21).keep K22 (own_nin1 (Nat.ne_of_lt (Nat.lt_of_lt_of_le Ea20.lt (Nat.le_of_eq g21.symm))))) ((Fa20_1.ext E21).keep K22 (own_nin1 (Nat.ne_of_lt (Nat.lt_of_lt_of_le Ea20.lt (Nat.le_of_eq g21.symm))))) Fa22_0 Fa22_1) hZ (hw _ (List.mem_of_getElem? (i := 22) rfl)) (hw _ (List.mem_of_getElem? (i := 7) rfl)) (by decide) (by decide)) q26a q26c (g := (mkF m 141 #[.val (.int p0), .val (.int p1), .val (.int p2), .val (.int p3), .val (.int p4), .val (.int (f1_0 (1 : Int32) (p0 &&& (2147483647 : Int32)))), .val (.int (f1_0 (1 : Int32) (p1 &&& (2147483647 : Int32)))), .val (.int i7), .val (.int t0), .val (.ref b19), .val (.ref b21), .val (.int (p4 &&& (3 : Int32))), .val (.int (0 : Int32))] [(.ref b21), (.ref b19)])) rfl (by rw [hml]; rfl) (Steps.refl _) (argsL := [(.ref b21)]) (rest := []) (lenOf pd_8 rfl) rfl (by show 2 * 0 + _ ≤ _; exact Nat.le_of_eq rfl) (hb hby at_141) (fun _ _ => ⟨rfl, rfl, (by decide : 2 + 0 ≤ _), (by decide : 4 + 0 ≤ _)⟩)
            dsimp only [Pt.U, Pt.locs, Pt.cells, Pt.slots] at X26 l26 y26 z26 st26 hQ26
            subst l26 y26 z26
            obtain ⟨rfl, N26q, e26⟩ := hQ26
            have N26 := Fr.app N22 N26q
            refine .pre (fun _ k => st26.trans k) ?_
            show OwnEnds p e below _ (T26.setTop (mkF m 144 #[.val (.int p0), .val (.int p1), .val (.int p2), .val (.int p3), .val (.int p4), .val (.int (f1_0 (1 : Int32) (p0 &&& (2147483647 : Int32)))), .val (.int (f1_0 (1 : Int32) (p1 &&& (2147483647 : Int32)))), .val (.int i7), .val (.int t0), .val (.ref b19), .val (.ref b21), .val (.int (p4 &&& (3 : Int32))), .val (.int (0 : Int32))] [(.int (f4B_0 (f1_0 (1 : Int32) (p0 &&& (2147483647 : Int32))) (f1_0 (1 : Int32) (p1 &&& (2147483647 : Int32))) i7 t0))]))
            refine .pre (fun _ k => XS.iload X26.here hx rfl (hb hby at_144) rfl k) ?_
            show OwnEnds p e below _ (T26.setTop (mkF m 146 #[.val (.int p0), .val (.int p1), .val (.int p2), .val (.int p3), .val (.int p4), .val (.int (f1_0 (1 : Int32) (p0 &&& (2147483647 : Int32)))), .val (.int (f1_0 (1 : Int32) (p1 &&& (2147483647 : Int32)))), .val (.int i7), .val (.int t0), .val (.ref b19), .val (.ref b21), .val (.int (p4 &&& (3 : Int32))), .val (.int (0 : Int32))] [(.int (0 : Int32)), (.int (f4B_0 (f1_0 (1 : Int32) (p0 &&& (2147483647 : Int32))) (f1_0 (1 : Int32) (p1 &&& (2147483647 : Int32))) i7 t0))]))
            by_cases hc146 : (f4B_0 (f1_0 (1 : Int32) (p0 &&& (2147483647 : Int32))) (f1_0 (1 : Int32) (p1 &&& (2147483647 : Int32))) i7 t0) = (0 : Int32)
            · rw [if_pos hc146] at hF
              refine .pre (fun _ k => XS.icmpNo X26.here hx rfl (hb hby at_146) rfl (teq hc146).2 k) ?_
              show OwnEnds p e below _ (T26.setTop (mkF m 149 #[.val (.int p0), .val (.int p1), .val (.int p2), .val (.int p3), .val (.int p4), .val (.int (f1_0 (1 : Int32) (p0 &&& (2147483647 : Int32)))), .val (.int (f1_0 (1 : Int32) (p1 &&& (2147483647 : Int32)))), .val (.int i7), .val (.int t0), .val (.ref b19), .val (.ref b21), .val (.int (p4 &&& (3 : Int32))), .val (.int (0 : Int32))] []))
              refine .pre (fun _ k => XS.aload X26.here hx rfl (hb hby at_149) rfl rfl k) ?_
              show OwnEnds p e below _ (T26.setTop (mkF m 151 #[.val (.int p0), .val (.int p1), .val (.int p2), .val (.int p3), .val (.int p4), .val (.int (f1_0 (1 : Int32) (p0 &&& (2147483647 : Int32)))), .val (.int (f1_0 (1 : Int32) (p1 &&& (2147483647 : Int32)))), .val (.int i7), .val (.int t0), .val (.ref b19), .val (.ref b21), .val (.int (p4 &&& (3 : Int32))), .val (.int (0 : Int32))] [(.ref b21)]))
              refine .pre (fun _ k => XS.aload X26.here hx rfl (hb hby at_151) rfl rfl k) ?_
              show OwnEnds p e below _ (T26.setTop (mkF m 153 #[.val (.int p0), .val (.int p1), .val (.int p2), .val (.int p3), .val (.int p4), .val (.int (f1_0 (1 : Int32) (p0 &&& (2147483647 : Int32)))), .val (.int (f1_0 (1 : Int32) (p1 &&& (2147483647 : Int32)))), .val (.int i7), .val (.int t0), .val (.ref b19), .val (.ref b21), .val (.int (p4 &&& (3 : Int32))), .val (.int (0 : Int32))] [(.ref b19), (.ref b21)]))
              obtain ⟨cq27, kq27, q27a, q27b, q27c⟩ := isOf hZ e26 Ea22
              obtain ⟨_, _, ⟨T27, L27, k27, n27⟩, -, X27, ⟨Lc27, hQ27, l27, y27, z27⟩, st27⟩ := X26.virtualBack hx (y := (⟨"com/example/unimeth/unimeth/reader/Position", "equals", "(Ljava/lang/Object;)Z"⟩ : MethodName)) (z := (⟨"com/example/unimeth/unimeth/reader/Position", "equals", "(Ljava/lang/Object;)Z"⟩ : MethodName)) hown (mvT hZ (hw _ (List.mem_of_getElem? (i := 18) rfl))) (mvT hZ (hw _ (List.mem_of_getElem? (i := 19) rfl))) (notFace_of_selects (args := #[]) (mvT hZ (hw _ (List.mem_of_getElem? (i := 21) rfl)))) (mvT hZ (hw _ (List.mem_of_getElem? (i := 21) rfl))) (mvT hZ (hw _ (List.mem_of_getElem? (i := 20) rfl))) (by decide) (backOf (W := 0) (rm4B l Z aZ hw [] b21 b19 i7 t0 (f1_0 (1 : Int32) (p0 &&& (2147483647 : Int32))) (f1_0 (1 : Int32) (p1 &&& (2147483647 : Int32))) T22.heap n0 (Nat.le_trans (Nat.le_trans (Nat.le_trans (Nat.le_trans Z0 E19.1) K20.1) E21.1) K22.1) (Ne.symm (Nat.ne_of_lt (Nat.lt_of_lt_of_le Ea20.lt (Nat.le_of_eq g21.symm)))) ((Ea20.ext E21).keep K22) Fa22_0 Fa22_1 ((Fa20_0.ext E21).keep K22 (own_nin1 (Nat.ne_of_lt (Nat.lt_of_lt_of_le Ea20.lt (Nat.le_of_eq g21.symm))))) ((Fa20_1.ext E21).keep K22 (own_nin1 (Nat.ne_of_lt (Nat.lt_of_lt_of_le Ea20.lt (Nat.le_of_eq g21.symm)))))) hZ (hw _ (List.mem_of_getElem? (i := 22) rfl)) (hw _ (List.mem_of_getElem? (i := 7) rfl)) (by decide) (by decide)) q27a q27c (g := (mkF m 153 #[.val (.int p0), .val (.int p1), .val (.int p2), .val (.int p3), .val (.int p4), .val (.int (f1_0 (1 : Int32) (p0 &&& (2147483647 : Int32)))), .val (.int (f1_0 (1 : Int32) (p1 &&& (2147483647 : Int32)))), .val (.int i7), .val (.int t0), .val (.ref b19), .val (.ref b21), .val (.int (p4 &&& (3 : Int32))), .val (.int (0 : Int32))] [(.ref b19), (.ref b21)])) rfl (by rw [hml]; rfl) (Steps.refl _) (argsL := [(.ref b19)]) (rest := []) (lenOf pd_8 rfl) rfl (by show 2 * 0 + _ ≤ _; exact Nat.le_of_eq rfl) (hb hby at_153) (fun _ _ => ⟨rfl, e26, (by decide : 2 + 0 ≤ _), (by decide : 4 + 0 ≤ _)⟩)
              dsimp only [Pt.U, Pt.locs, Pt.cells, Pt.slots] at X27 l27 y27 z27 st27 hQ27
              subst l27 y27 z27
              obtain ⟨rfl, N27q, e27⟩ := hQ27
              have N27 := Fr.app N26 N27q
              refine .pre (fun _ k => st27.trans k) ?_
              show OwnEnds p e below _ (T27.setTop (mkF m 156 #[.val (.int p0), .val (.int p1), .val (.int p2), .val (.int p3), .val (.int p4), .val (.int (f1_0 (1 : Int32) (p0 &&& (2147483647 : Int32)))), .val (.int (f1_0 (1 : Int32) (p1 &&& (2147483647 : Int32)))), .val (.int i7), .val (.int t0), .val (.ref b19), .val (.ref b21), .val (.int (p4 &&& (3 : Int32))), .val (.int (0 : Int32))] [(.int (f4B_0 i7 t0 (f1_0 (1 : Int32) (p0 &&& (2147483647 : Int32))) (f1_0 (1 : Int32) (p1 &&& (2147483647 : Int32)))))]))
              refine .pre (fun _ k => XS.iload X27.here hx rfl (hb hby at_156) rfl k) ?_
              show OwnEnds p e below _ (T27.setTop (mkF m 158 #[.val (.int p0), .val (.int p1), .val (.int p2), .val (.int p3), .val (.int p4), .val (.int (f1_0 (1 : Int32) (p0 &&& (2147483647 : Int32)))), .val (.int (f1_0 (1 : Int32) (p1 &&& (2147483647 : Int32)))), .val (.int i7), .val (.int t0), .val (.ref b19), .val (.ref b21), .val (.int (p4 &&& (3 : Int32))), .val (.int (0 : Int32))] [(.int (0 : Int32)), (.int (f4B_0 i7 t0 (f1_0 (1 : Int32) (p0 &&& (2147483647 : Int32))) (f1_0 (1 : Int32) (p1 &&& (2147483647 : Int32)))))]))
              by_cases hc158 : (f4B_0 i7 t0 (f1_0 (1 : Int32) (p0 &&& (2147483647 : Int32))) (f1_0 (1 : Int32) (p1 &&& (2147483647 : Int32)))) = (0 : Int32)
              · rw [if_pos hc158] at hF
                refine .pre (fun _ k => XS.icmpNo X27.here hx rfl (hb hby at_158) rfl (teq hc158).2 k) ?_
                show OwnEnds p e below _ (T27.setTop (mkF m 161 #[.val (.int p0), .val (.int p1), .val (.int p2), .val (.int p3), .val (.int p4), .val (.int (f1_0 (1 : Int32) (p0 &&& (2147483647 : Int32)))), .val (.int (f1_0 (1 : Int32) (p1 &&& (2147483647 : Int32)))), .val (.int i7), .val (.int t0), .val (.ref b19), .val (.ref b21), .val (.int (p4 &&& (3 : Int32))), .val (.int (0 : Int32))] []))
                refine .pre (fun _ k => XS.iconst X27.here hx rfl (hb hby at_161) k) ?_
                show OwnEnds p e below _ (T27.setTop (mkF m 162 #[.val (.int p0), .val (.int p1), .val (.int p2), .val (.int p3), .val (.int p4), .val (.int (f1_0 (1 : Int32) (p0 &&& (2147483647 : Int32)))), .val (.int (f1_0 (1 : Int32) (p1 &&& (2147483647 : Int32)))), .val (.int i7), .val (.int t0), .val (.ref b19), .val (.ref b21), .val (.int (p4 &&& (3 : Int32))), .val (.int (0 : Int32))] [(.int (1 : Int32))]))
                refine .pre (fun _ k => XS.goto X27.here hx rfl (pc0 := 162) (pc' := 166) rfl (hb hby at_162) (by decide) (by decide) k) ?_
                show OwnEnds p e below _ (T27.setTop (mkF m 166 #[.val (.int p0), .val (.int p1), .val (.int p2), .val (.int p3), .val (.int p4), .val (.int (f1_0 (1 : Int32) (p0 &&& (2147483647 : Int32)))), .val (.int (f1_0 (1 : Int32) (p1 &&& (2147483647 : Int32)))), .val (.int i7), .val (.int t0), .val (.ref b19), .val (.ref b21), .val (.int (p4 &&& (3 : Int32))), .val (.int (0 : Int32))] [(.int (1 : Int32))]))
                exact own_endN X27 hx hlk (t := .boolean) Bd.returns (by simp) (hb hby at_166) rfl (by decide) (by decide) ⟨congrArg (fun z => some (Value.int z)) hF, N27, trivial⟩
              · rw [if_neg hc158] at hF
                refine .pre (fun _ k => XS.icmpYes X27.here hx rfl (pc0 := 158) (pc' := 165) rfl (hb hby at_158) rfl (feq hc158).2 (by decide) (by decide) k) ?_
                show OwnEnds p e below _ (T27.setTop (mkF m 165 #[.val (.int p0), .val (.int p1), .val (.int p2), .val (.int p3), .val (.int p4), .val (.int (f1_0 (1 : Int32) (p0 &&& (2147483647 : Int32)))), .val (.int (f1_0 (1 : Int32) (p1 &&& (2147483647 : Int32)))), .val (.int i7), .val (.int t0), .val (.ref b19), .val (.ref b21), .val (.int (p4 &&& (3 : Int32))), .val (.int (0 : Int32))] []))
                refine .pre (fun _ k => XS.iconst X27.here hx rfl (hb hby at_165) k) ?_
                show OwnEnds p e below _ (T27.setTop (mkF m 166 #[.val (.int p0), .val (.int p1), .val (.int p2), .val (.int p3), .val (.int p4), .val (.int (f1_0 (1 : Int32) (p0 &&& (2147483647 : Int32)))), .val (.int (f1_0 (1 : Int32) (p1 &&& (2147483647 : Int32)))), .val (.int i7), .val (.int t0), .val (.ref b19), .val (.ref b21), .val (.int (p4 &&& (3 : Int32))), .val (.int (0 : Int32))] [(.int (0 : Int32))]))
                exact own_endN X27 hx hlk (t := .boolean) Bd.returns (by simp) (hb hby at_166) rfl (by decide) (by decide) ⟨congrArg (fun z => some (Value.int z)) hF, N27, trivial⟩
            · rw [if_neg hc146] at hF
              refine .pre (fun _ k => XS.icmpYes X26.here hx rfl (pc0 := 146) (pc' := 165) rfl (hb hby at_146) rfl (feq hc146).2 (by decide) (by decide) k) ?_
              show OwnEnds p e below _ (T26.setTop (mkF m 165 #[.val (.int p0), .val (.int p1), .val (.int p2), .val (.int p3), .val (.int p4), .val (.int (f1_0 (1 : Int32) (p0 &&& (2147483647 : Int32)))), .val (.int (f1_0 (1 : Int32) (p1 &&& (2147483647 : Int32)))), .val (.int i7), .val (.int t0), .val (.ref b19), .val (.ref b21), .val (.int (p4 &&& (3 : Int32))), .val (.int (0 : Int32))] []))
              refine .pre (fun _ k => XS.iconst X26.here hx rfl (hb hby at_165) k) ?_
              show OwnEnds p e below _ (T26.setTop (mkF m 166 #[.val (.int p0), .val (.int p1), .val (.int p2), .val (.int p3), .val (.int p4), .val (.int (f1_0 (1 : Int32) (p0 &&& (2147483647 : Int32)))), .val (.int (f1_0 (1 : Int32) (p1 &&& (2147483647 : Int32)))), .val (.int i7), .val (.int t0), .val (.ref b19), .val (.ref b21), .val (.int (p4 &&& (3 : Int32))), .val (.int (0 : Int32))] [(.int (0 : Int32))]))
              exact own_endN X26 hx hlk (t := .boolean) Bd.returns (by simp) (hb hby at_166) rfl (by decide) (by decide) ⟨congrArg (fun z => some (Value.int z)) hF, N26, trivial⟩
        · rw [if_neg hc120] at hF
          refine .pre (fun _ k => XS.icmpYes X22.here hx rfl (pc0 := 120) (pc' := 134) rfl (hb hby at_120) rfl (feq hc120).2 (by decide) (by decide) k) ?_
          show OwnEnds p e below _ (T22.setTop (mkF m 134 #[.val (.int p0), .val (.int p1), .val (.int p2), .val (.int p3), .val (.int p4), .val (.int (f1_0 (1 : Int32) (p0 &&& (2147483647 : Int32)))), .val (.int (f1_0 (1 : Int32) (p1 &&& (2147483647 : Int32)))), .val (.int i7), .val (.int t0), .val (.ref b19), .val (.ref b21), .val (.int (p4 &&& (3 : Int32))), .unset] []))
          refine .pre (fun _ k => XS.iconst X22.here hx rfl (hb hby at_134) k) ?_
          show OwnEnds p e below _ (T22.setTop (mkF m 135 #[.val (.int p0), .val (.int p1), .val (.int p2), .val (.int p3), .val (.int p4), .val (.int (f1_0 (1 : Int32) (p0 &&& (2147483647 : Int32)))), .val (.int (f1_0 (1 : Int32) (p1 &&& (2147483647 : Int32)))), .val (.int i7), .val (.int t0), .val (.ref b19), .val (.ref b21), .val (.int (p4 &&& (3 : Int32))), .unset] [(.int (0 : Int32))]))
          refine .pre (fun _ k => XS.istore X22.here hx rfl (hb hby at_135) rfl (l' := #[.val (.int p0), .val (.int p1), .val (.int p2), .val (.int p3), .val (.int p4), .val (.int (f1_0 (1 : Int32) (p0 &&& (2147483647 : Int32)))), .val (.int (f1_0 (1 : Int32) (p1 &&& (2147483647 : Int32)))), .val (.int i7), .val (.int t0), .val (.ref b19), .val (.ref b21), .val (.int (p4 &&& (3 : Int32))), .val (.int (0 : Int32))]) rfl k) ?_
          show OwnEnds p e below _ (T22.setTop (mkF m 137 #[.val (.int p0), .val (.int p1), .val (.int p2), .val (.int p3), .val (.int p4), .val (.int (f1_0 (1 : Int32) (p0 &&& (2147483647 : Int32)))), .val (.int (f1_0 (1 : Int32) (p1 &&& (2147483647 : Int32)))), .val (.int i7), .val (.int t0), .val (.ref b19), .val (.ref b21), .val (.int (p4 &&& (3 : Int32))), .val (.int (0 : Int32))] []))
          refine .pre (fun _ k => XS.aload X22.here hx rfl (hb hby at_137) rfl rfl k) ?_
          show OwnEnds p e below _ (T22.setTop (mkF m 139 #[.val (.int p0), .val (.int p1), .val (.int p2), .val (.int p3), .val (.int p4), .val (.int (f1_0 (1 : Int32) (p0 &&& (2147483647 : Int32)))), .val (.int (f1_0 (1 : Int32) (p1 &&& (2147483647 : Int32)))), .val (.int i7), .val (.int t0), .val (.ref b19), .val (.ref b21), .val (.int (p4 &&& (3 : Int32))), .val (.int (0 : Int32))] [(.ref b19)]))
          refine .pre (fun _ k => XS.aload X22.here hx rfl (hb hby at_139) rfl rfl k) ?_
          show OwnEnds p e below _ (T22.setTop (mkF m 141 #[.val (.int p0), .val (.int p1), .val (.int p2), .val (.int p3), .val (.int p4), .val (.int (f1_0 (1 : Int32) (p0 &&& (2147483647 : Int32)))), .val (.int (f1_0 (1 : Int32) (p1 &&& (2147483647 : Int32)))), .val (.int i7), .val (.int t0), .val (.ref b19), .val (.ref b21), .val (.int (p4 &&& (3 : Int32))), .val (.int (0 : Int32))] [(.ref b21), (.ref b19)]))
          obtain ⟨cq28, kq28, q28a, q28b, q28c⟩ := isOf hZ rfl ((Ea20.ext E21).keep K22)
          obtain ⟨_, _, ⟨T28, L28, k28, n28⟩, -, X28, ⟨Lc28, hQ28, l28, y28, z28⟩, st28⟩ := X22.virtualBack hx (y := (⟨"com/example/unimeth/unimeth/reader/Position", "equals", "(Ljava/lang/Object;)Z"⟩ : MethodName)) (z := (⟨"com/example/unimeth/unimeth/reader/Position", "equals", "(Ljava/lang/Object;)Z"⟩ : MethodName)) hown (mvT hZ (hw _ (List.mem_of_getElem? (i := 18) rfl))) (mvT hZ (hw _ (List.mem_of_getElem? (i := 19) rfl))) (notFace_of_selects (args := #[]) (mvT hZ (hw _ (List.mem_of_getElem? (i := 21) rfl)))) (mvT hZ (hw _ (List.mem_of_getElem? (i := 21) rfl))) (mvT hZ (hw _ (List.mem_of_getElem? (i := 20) rfl))) (by decide) (backOf (W := 0) (rm4B l Z aZ hw [] b19 b21 (f1_0 (1 : Int32) (p0 &&& (2147483647 : Int32))) (f1_0 (1 : Int32) (p1 &&& (2147483647 : Int32))) i7 t0 T22.heap n0 (Nat.le_trans (Nat.le_trans (Nat.le_trans (Nat.le_trans Z0 E19.1) K20.1) E21.1) K22.1) (Nat.ne_of_lt (Nat.lt_of_lt_of_le Ea20.lt (Nat.le_of_eq g21.symm))) Ea22 ((Fa20_0.ext E21).keep K22 (own_nin1 (Nat.ne_of_lt (Nat.lt_of_lt_of_le Ea20.lt (Nat.le_of_eq g21.symm))))) ((Fa20_1.ext E21).keep K22 (own_nin1 (Nat.ne_of_lt (Nat.lt_of_lt_of_le Ea20.lt (Nat.le_of_eq g21.symm))))) Fa22_0 Fa22_1) hZ (hw _ (List.mem_of_getElem? (i := 22) rfl)) (hw _ (List.mem_of_getElem? (i := 7) rfl)) (by decide) (by decide)) q28a q28c (g := (mkF m 141 #[.val (.int p0), .val (.int p1), .val (.int p2), .val (.int p3), .val (.int p4), .val (.int (f1_0 (1 : Int32) (p0 &&& (2147483647 : Int32)))), .val (.int (f1_0 (1 : Int32) (p1 &&& (2147483647 : Int32)))), .val (.int i7), .val (.int t0), .val (.ref b19), .val (.ref b21), .val (.int (p4 &&& (3 : Int32))), .val (.int (0 : Int32))] [(.ref b21), (.ref b19)])) rfl (by rw [hml]; rfl) (Steps.refl _) (argsL := [(.ref b21)]) (rest := []) (lenOf pd_8 rfl) rfl (by show 2 * 0 + _ ≤ _; exact Nat.le_of_eq rfl) (hb hby at_141) (fun _ _ => ⟨rfl, rfl, (by decide : 2 + 0 ≤ _), (by decide : 4 + 0 ≤ _)⟩)
          dsimp only [Pt.U, Pt.locs, Pt.cells, Pt.slots] at X28 l28 y28 z28 st28 hQ28
          subst l28 y28 z28
          obtain ⟨rfl, N28q, e28⟩ := hQ28
          have N28 := Fr.app N22 N28q
          refine .pre (fun _ k => st28.trans k) ?_
          show OwnEnds p e below _ (T28.setTop (mkF m 144 #[.val (.int p0), .val (.int p1), .val (.int p2), .val (.int p3), .val (.int p4), .val (.int (f1_0 (1 : Int32) (p0 &&& (2147483647 : Int32)))), .val (.int (f1_0 (1 : Int32) (p1 &&& (2147483647 : Int32)))), .val (.int i7), .val (.int t0), .val (.ref b19), .val (.ref b21), .val (.int (p4 &&& (3 : Int32))), .val (.int (0 : Int32))] [(.int (f4B_0 (f1_0 (1 : Int32) (p0 &&& (2147483647 : Int32))) (f1_0 (1 : Int32) (p1 &&& (2147483647 : Int32))) i7 t0))]))
          refine .pre (fun _ k => XS.iload X28.here hx rfl (hb hby at_144) rfl k) ?_
          show OwnEnds p e below _ (T28.setTop (mkF m 146 #[.val (.int p0), .val (.int p1), .val (.int p2), .val (.int p3), .val (.int p4), .val (.int (f1_0 (1 : Int32) (p0 &&& (2147483647 : Int32)))), .val (.int (f1_0 (1 : Int32) (p1 &&& (2147483647 : Int32)))), .val (.int i7), .val (.int t0), .val (.ref b19), .val (.ref b21), .val (.int (p4 &&& (3 : Int32))), .val (.int (0 : Int32))] [(.int (0 : Int32)), (.int (f4B_0 (f1_0 (1 : Int32) (p0 &&& (2147483647 : Int32))) (f1_0 (1 : Int32) (p1 &&& (2147483647 : Int32))) i7 t0))]))
          by_cases hc146 : (f4B_0 (f1_0 (1 : Int32) (p0 &&& (2147483647 : Int32))) (f1_0 (1 : Int32) (p1 &&& (2147483647 : Int32))) i7 t0) = (0 : Int32)
          · rw [if_pos hc146] at hF
            refine .pre (fun _ k => XS.icmpNo X28.here hx rfl (hb hby at_146) rfl (teq hc146).2 k) ?_
            show OwnEnds p e below _ (T28.setTop (mkF m 149 #[.val (.int p0), .val (.int p1), .val (.int p2), .val (.int p3), .val (.int p4), .val (.int (f1_0 (1 : Int32) (p0 &&& (2147483647 : Int32)))), .val (.int (f1_0 (1 : Int32) (p1 &&& (2147483647 : Int32)))), .val (.int i7), .val (.int t0), .val (.ref b19), .val (.ref b21), .val (.int (p4 &&& (3 : Int32))), .val (.int (0 : Int32))] []))
            refine .pre (fun _ k => XS.aload X28.here hx rfl (hb hby at_149) rfl rfl k) ?_
            show OwnEnds p e below _ (T28.setTop (mkF m 151 #[.val (.int p0), .val (.int p1), .val (.int p2), .val (.int p3), .val (.int p4), .val (.int (f1_0 (1 : Int32) (p0 &&& (2147483647 : Int32)))), .val (.int (f1_0 (1 : Int32) (p1 &&& (2147483647 : Int32)))), .val (.int i7), .val (.int t0), .val (.ref b19), .val (.ref b21), .val (.int (p4 &&& (3 : Int32))), .val (.int (0 : Int32))] [(.ref b21)]))
            refine .pre (fun _ k => XS.aload X28.here hx rfl (hb hby at_151) rfl rfl k) ?_
            show OwnEnds p e below _ (T28.setTop (mkF m 153 #[.val (.int p0), .val (.int p1), .val (.int p2), .val (.int p3), .val (.int p4), .val (.int (f1_0 (1 : Int32) (p0 &&& (2147483647 : Int32)))), .val (.int (f1_0 (1 : Int32) (p1 &&& (2147483647 : Int32)))), .val (.int i7), .val (.int t0), .val (.ref b19), .val (.ref b21), .val (.int (p4 &&& (3 : Int32))), .val (.int (0 : Int32))] [(.ref b19), (.ref b21)]))
            obtain ⟨cq29, kq29, q29a, q29b, q29c⟩ := isOf hZ e28 Ea22
            obtain ⟨_, _, ⟨T29, L29, k29, n29⟩, -, X29, ⟨Lc29, hQ29, l29, y29, z29⟩, st29⟩ := X28.virtualBack hx (y := (⟨"com/example/unimeth/unimeth/reader/Position", "equals", "(Ljava/lang/Object;)Z"⟩ : MethodName)) (z := (⟨"com/example/unimeth/unimeth/reader/Position", "equals", "(Ljava/lang/Object;)Z"⟩ : MethodName)) hown (mvT hZ (hw _ (List.mem_of_getElem? (i := 18) rfl))) (mvT hZ (hw _ (List.mem_of_getElem? (i := 19) rfl))) (notFace_of_selects (args := #[]) (mvT hZ (hw _ (List.mem_of_getElem? (i := 21) rfl)))) (mvT hZ (hw _ (List.mem_of_getElem? (i := 21) rfl))) (mvT hZ (hw _ (List.mem_of_getElem? (i := 20) rfl))) (by decide) (backOf (W := 0) (rm4B l Z aZ hw [] b21 b19 i7 t0 (f1_0 (1 : Int32) (p0 &&& (2147483647 : Int32))) (f1_0 (1 : Int32) (p1 &&& (2147483647 : Int32))) T22.heap n0 (Nat.le_trans (Nat.le_trans (Nat.le_trans (Nat.le_trans Z0 E19.1) K20.1) E21.1) K22.1) (Ne.symm (Nat.ne_of_lt (Nat.lt_of_lt_of_le Ea20.lt (Nat.le_of_eq g21.symm)))) ((Ea20.ext E21).keep K22) Fa22_0 Fa22_1 ((Fa20_0.ext E21).keep K22 (own_nin1 (Nat.ne_of_lt (Nat.lt_of_lt_of_le Ea20.lt (Nat.le_of_eq g21.symm))))) ((Fa20_1.ext E21).keep K22 (own_nin1 (Nat.ne_of_lt (Nat.lt_of_lt_of_le Ea20.lt (Nat.le_of_eq g21.symm)))))) hZ (hw _ (List.mem_of_getElem? (i := 22) rfl)) (hw _ (List.mem_of_getElem? (i := 7) rfl)) (by decide) (by decide)) q29a q29c (g := (mkF m 153 #[.val (.int p0), .val (.int p1), .val (.int p2), .val (.int p3), .val (.int p4), .val (.int (f1_0 (1 : Int32) (p0 &&& (2147483647 : Int32)))), .val (.int (f1_0 (1 : Int32) (p1 &&& (2147483647 : Int32)))), .val (.int i7), .val (.int t0), .val (.ref b19), .val (.ref b21), .val (.int (p4 &&& (3 : Int32))), .val (.int (0 : Int32))] [(.ref b19), (.ref b21)])) rfl (by rw [hml]; rfl) (Steps.refl _) (argsL := [(.ref b19)]) (rest := []) (lenOf pd_8 rfl) rfl (by show 2 * 0 + _ ≤ _; exact Nat.le_of_eq rfl) (hb hby at_153) (fun _ _ => ⟨rfl, e28, (by decide : 2 + 0 ≤ _), (by decide : 4 + 0 ≤ _)⟩)
            dsimp only [Pt.U, Pt.locs, Pt.cells, Pt.slots] at X29 l29 y29 z29 st29 hQ29
            subst l29 y29 z29
            obtain ⟨rfl, N29q, e29⟩ := hQ29
            have N29 := Fr.app N28 N29q
            refine .pre (fun _ k => st29.trans k) ?_
            show OwnEnds p e below _ (T29.setTop (mkF m 156 #[.val (.int p0), .val (.int p1), .val (.int p2), .val (.int p3), .val (.int p4), .val (.int (f1_0 (1 : Int32) (p0 &&& (2147483647 : Int32)))), .val (.int (f1_0 (1 : Int32) (p1 &&& (2147483647 : Int32)))), .val (.int i7), .val (.int t0), .val (.ref b19), .val (.ref b21), .val (.int (p4 &&& (3 : Int32))), .val (.int (0 : Int32))] [(.int (f4B_0 i7 t0 (f1_0 (1 : Int32) (p0 &&& (2147483647 : Int32))) (f1_0 (1 : Int32) (p1 &&& (2147483647 : Int32)))))]))
            refine .pre (fun _ k => XS.iload X29.here hx rfl (hb hby at_156) rfl k) ?_
            show OwnEnds p e below _ (T29.setTop (mkF m 158 #[.val (.int p0), .val (.int p1), .val (.int p2), .val (.int p3), .val (.int p4), .val (.int (f1_0 (1 : Int32) (p0 &&& (2147483647 : Int32)))), .val (.int (f1_0 (1 : Int32) (p1 &&& (2147483647 : Int32)))), .val (.int i7), .val (.int t0), .val (.ref b19), .val (.ref b21), .val (.int (p4 &&& (3 : Int32))), .val (.int (0 : Int32))] [(.int (0 : Int32)), (.int (f4B_0 i7 t0 (f1_0 (1 : Int32) (p0 &&& (2147483647 : Int32))) (f1_0 (1 : Int32) (p1 &&& (2147483647 : Int32)))))]))
            by_cases hc158 : (f4B_0 i7 t0 (f1_0 (1 : Int32) (p0 &&& (2147483647 : Int32))) (f1_0 (1 : Int32) (p1 &&& (2147483647 : Int32)))) = (0 : Int32)
            · rw [if_pos hc158] at hF
              refine .pre (fun _ k => XS.icmpNo X29.here hx rfl (hb hby at_158) rfl (teq hc158).2 k) ?_
              show OwnEnds p e below _ (T29.setTop (mkF m 161 #[.val (.int p0), .val (.int p1), .val (.int p2), .val (.int p3), .val (.int p4), .val (.int (f1_0 (1 : Int32) (p0 &&& (2147483647 : Int32)))), .val (.int (f1_0 (1 : Int32) (p1 &&& (2147483647 : Int32)))), .val (.int i7), .val (.int t0), .val (.ref b19), .val (.ref b21), .val (.int (p4 &&& (3 : Int32))), .val (.int (0 : Int32))] []))
              refine .pre (fun _ k => XS.iconst X29.here hx rfl (hb hby at_161) k) ?_
              show OwnEnds p e below _ (T29.setTop (mkF m 162 #[.val (.int p0), .val (.int p1), .val (.int p2), .val (.int p3), .val (.int p4), .val (.int (f1_0 (1 : Int32) (p0 &&& (2147483647 : Int32)))), .val (.int (f1_0 (1 : Int32) (p1 &&& (2147483647 : Int32)))), .val (.int i7), .val (.int t0), .val (.ref b19), .val (.ref b21), .val (.int (p4 &&& (3 : Int32))), .val (.int (0 : Int32))] [(.int (1 : Int32))]))
              refine .pre (fun _ k => XS.goto X29.here hx rfl (pc0 := 162) (pc' := 166) rfl (hb hby at_162) (by decide) (by decide) k) ?_
              show OwnEnds p e below _ (T29.setTop (mkF m 166 #[.val (.int p0), .val (.int p1), .val (.int p2), .val (.int p3), .val (.int p4), .val (.int (f1_0 (1 : Int32) (p0 &&& (2147483647 : Int32)))), .val (.int (f1_0 (1 : Int32) (p1 &&& (2147483647 : Int32)))), .val (.int i7), .val (.int t0), .val (.ref b19), .val (.ref b21), .val (.int (p4 &&& (3 : Int32))), .val (.int (0 : Int32))] [(.int (1 : Int32))]))
              exact own_endN X29 hx hlk (t := .boolean) Bd.returns (by simp) (hb hby at_166) rfl (by decide) (by decide) ⟨congrArg (fun z => some (Value.int z)) hF, N29, trivial⟩
            · rw [if_neg hc158] at hF
              refine .pre (fun _ k => XS.icmpYes X29.here hx rfl (pc0 := 158) (pc' := 165) rfl (hb hby at_158) rfl (feq hc158).2 (by decide) (by decide) k) ?_
              show OwnEnds p e below _ (T29.setTop (mkF m 165 #[.val (.int p0), .val (.int p1), .val (.int p2), .val (.int p3), .val (.int p4), .val (.int (f1_0 (1 : Int32) (p0 &&& (2147483647 : Int32)))), .val (.int (f1_0 (1 : Int32) (p1 &&& (2147483647 : Int32)))), .val (.int i7), .val (.int t0), .val (.ref b19), .val (.ref b21), .val (.int (p4 &&& (3 : Int32))), .val (.int (0 : Int32))] []))
              refine .pre (fun _ k => XS.iconst X29.here hx rfl (hb hby at_165) k) ?_
              show OwnEnds p e below _ (T29.setTop (mkF m 166 #[.val (.int p0), .val (.int p1), .val (.int p2), .val (.int p3), .val (.int p4), .val (.int (f1_0 (1 : Int32) (p0 &&& (2147483647 : Int32)))), .val (.int (f1_0 (1 : Int32) (p1 &&& (2147483647 : Int32)))), .val (.int i7), .val (.int t0), .val (.ref b19), .val (.ref b21), .val (.int (p4 &&& (3 : Int32))), .val (.int (0 : Int32))] [(.int (0 : Int32))]))
              exact own_endN X29 hx hlk (t := .boolean) Bd.returns (by simp) (hb hby at_166) rfl (by decide) (by decide) ⟨congrArg (fun z => some (Value.int z)) hF, N29, trivial⟩
          · rw [if_neg hc146] at hF
            refine .pre (fun _ k => XS.icmpYes X28.here hx rfl (pc0 := 146) (pc' := 165) rfl (hb hby at_146) rfl (feq hc146).2 (by decide) (by decide) k) ?_
            show OwnEnds p e below _ (T28.setTop (mkF m 165 #[.val (.int p0), .val (.int p1), .val (.int p2), .val (.int p3), .val (.int p4), .val (.int (f1_0 (1 : Int32) (p0 &&& (2147483647 : Int32)))), .val (.int (f1_0 (1 : Int32) (p1 &&& (2147483647 : Int32)))), .val (.int i7), .val (.int t0), .val (.ref b19), .val (.ref b21), .val (.int (p4 &&& (3 : Int32))), .val (.int (0 : Int32))] []))
            refine .pre (fun _ k => XS.iconst X28.here hx rfl (hb hby at_165) k) ?_
            show OwnEnds p e below _ (T28.setTop (mkF m 166 #[.val (.int p0), .val (.int p1), .val (.int p2), .val (.int p3), .val (.int p4), .val (.int (f1_0 (1 : Int32) (p0 &&& (2147483647 : Int32)))), .val (.int (f1_0 (1 : Int32) (p1 &&& (2147483647 : Int32)))), .val (.int i7), .val (.int t0), .val (.ref b19), .val (.ref b21), .val (.int (p4 &&& (3 : Int32))), .val (.int (0 : Int32))] [(.int (0 : Int32))]))
            exact own_endN X28 hx hlk (t := .boolean) Bd.returns (by simp) (hb hby at_166) rfl (by decide) (by decide) ⟨congrArg (fun z => some (Value.int z)) hF, N28, trivial⟩
      · rw [if_neg hc113] at hF
        refine .pre (fun _ k => XS.icmpYes X22.here hx rfl (pc0 := 113) (pc' := 167) rfl (hb hby at_113) rfl (feq hc113).2 (by decide) (by decide) k) ?_
        show OwnEnds p e below _ (T22.setTop (mkF m 167 #[.val (.int p0), .val (.int p1), .val (.int p2), .val (.int p3), .val (.int p4), .val (.int (f1_0 (1 : Int32) (p0 &&& (2147483647 : Int32)))), .val (.int (f1_0 (1 : Int32) (p1 &&& (2147483647 : Int32)))), .val (.int i7), .val (.int t0), .val (.ref b19), .val (.ref b21), .val (.int (p4 &&& (3 : Int32))), .unset] []))
        refine .pre (fun _ k => XS.iload X22.here hx rfl (hb hby at_167) rfl k) ?_
        show OwnEnds p e below _ (T22.setTop (mkF m 169 #[.val (.int p0), .val (.int p1), .val (.int p2), .val (.int p3), .val (.int p4), .val (.int (f1_0 (1 : Int32) (p0 &&& (2147483647 : Int32)))), .val (.int (f1_0 (1 : Int32) (p1 &&& (2147483647 : Int32)))), .val (.int i7), .val (.int t0), .val (.ref b19), .val (.ref b21), .val (.int (p4 &&& (3 : Int32))), .unset] [(.int (p4 &&& (3 : Int32)))]))
        refine .pre (fun _ k => XS.iconst X22.here hx rfl (hb hby at_169) k) ?_
        show OwnEnds p e below _ (T22.setTop (mkF m 170 #[.val (.int p0), .val (.int p1), .val (.int p2), .val (.int p3), .val (.int p4), .val (.int (f1_0 (1 : Int32) (p0 &&& (2147483647 : Int32)))), .val (.int (f1_0 (1 : Int32) (p1 &&& (2147483647 : Int32)))), .val (.int i7), .val (.int t0), .val (.ref b19), .val (.ref b21), .val (.int (p4 &&& (3 : Int32))), .unset] [(.int (2 : Int32)), (.int (p4 &&& (3 : Int32)))]))
        by_cases hc170 : (p4 &&& (3 : Int32)) = (2 : Int32)
        · rw [if_pos hc170] at hF
          refine .pre (fun _ k => XS.icmpNo X22.here hx rfl (hb hby at_170) rfl (teq hc170).2 k) ?_
          show OwnEnds p e below _ (T22.setTop (mkF m 173 #[.val (.int p0), .val (.int p1), .val (.int p2), .val (.int p3), .val (.int p4), .val (.int (f1_0 (1 : Int32) (p0 &&& (2147483647 : Int32)))), .val (.int (f1_0 (1 : Int32) (p1 &&& (2147483647 : Int32)))), .val (.int i7), .val (.int t0), .val (.ref b19), .val (.ref b21), .val (.int (p4 &&& (3 : Int32))), .unset] []))
          refine .pre (fun _ k => XS.aload X22.here hx rfl (hb hby at_173) rfl rfl k) ?_
          show OwnEnds p e below _ (T22.setTop (mkF m 175 #[.val (.int p0), .val (.int p1), .val (.int p2), .val (.int p3), .val (.int p4), .val (.int (f1_0 (1 : Int32) (p0 &&& (2147483647 : Int32)))), .val (.int (f1_0 (1 : Int32) (p1 &&& (2147483647 : Int32)))), .val (.int i7), .val (.int t0), .val (.ref b19), .val (.ref b21), .val (.int (p4 &&& (3 : Int32))), .unset] [(.ref b19)]))
          refine .pre (fun _ k => XS.aconstNull X22.here hx rfl (hb hby at_175) k) ?_
          show OwnEnds p e below _ (T22.setTop (mkF m 176 #[.val (.int p0), .val (.int p1), .val (.int p2), .val (.int p3), .val (.int p4), .val (.int (f1_0 (1 : Int32) (p0 &&& (2147483647 : Int32)))), .val (.int (f1_0 (1 : Int32) (p1 &&& (2147483647 : Int32)))), .val (.int i7), .val (.int t0), .val (.ref b19), .val (.ref b21), .val (.int (p4 &&& (3 : Int32))), .unset] [.null, (.ref b19)]))
          obtain ⟨cq30, kq30, q30a, q30b, q30c⟩ := isOf hZ rfl ((Ea20.ext E21).keep K22)
          obtain ⟨_, _, ⟨T30, L30, k30, n30⟩, -, X30, ⟨Lc30, hQ30, l30, y30, z30⟩, st30⟩ := X22.virtualBack hx (y := (⟨"com/example/unimeth/unimeth/reader/Position", "equals", "(Ljava/lang/Object;)Z"⟩ : MethodName)) (z := (⟨"com/example/unimeth/unimeth/reader/Position", "equals", "(Ljava/lang/Object;)Z"⟩ : MethodName)) hown (mvT hZ (hw _ (List.mem_of_getElem? (i := 18) rfl))) (mvT hZ (hw _ (List.mem_of_getElem? (i := 19) rfl))) (notFace_of_selects (args := #[]) (mvT hZ (hw _ (List.mem_of_getElem? (i := 21) rfl)))) (mvT hZ (hw _ (List.mem_of_getElem? (i := 21) rfl))) (mvT hZ (hw _ (List.mem_of_getElem? (i := 20) rfl))) (by decide) (backOf (W := 0) (rm4C l Z aZ hw [] b19 T22.heap n0 (Nat.le_trans (Nat.le_trans (Nat.le_trans (Nat.le_trans Z0 E19.1) K20.1) E21.1) K22.1)) hZ (hw _ (List.mem_of_getElem? (i := 22) rfl)) (hw _ (List.mem_of_getElem? (i := 7) rfl)) (by decide) (by decide)) q30a q30c (g := (mkF m 176 #[.val (.int p0), .val (.int p1), .val (.int p2), .val (.int p3), .val (.int p4), .val (.int (f1_0 (1 : Int32) (p0 &&& (2147483647 : Int32)))), .val (.int (f1_0 (1 : Int32) (p1 &&& (2147483647 : Int32)))), .val (.int i7), .val (.int t0), .val (.ref b19), .val (.ref b21), .val (.int (p4 &&& (3 : Int32))), .unset] [.null, (.ref b19)])) rfl (by rw [hml]; rfl) (Steps.refl _) (argsL := [.null]) (rest := []) (lenOf pd_8 rfl) rfl (by show 2 * 0 + _ ≤ _; exact Nat.le_of_eq rfl) (hb hby at_176) (fun _ _ => ⟨rfl, rfl, (by decide : 2 + 0 ≤ _), (by decide : 4 + 0 ≤ _)⟩)
          dsimp only [Pt.U, Pt.locs, Pt.cells, Pt.slots] at X30 l30 y30 z30 st30 hQ30
          subst l30 y30 z30
          obtain ⟨rfl, N30q, e30⟩ := hQ30
          have N30 := Fr.app N22 N30q
          refine .pre (fun _ k => st30.trans k) ?_
          show OwnEnds p e below _ (T30.setTop (mkF m 179 #[.val (.int p0), .val (.int p1), .val (.int p2), .val (.int p3), .val (.int p4), .val (.int (f1_0 (1 : Int32) (p0 &&& (2147483647 : Int32)))), .val (.int (f1_0 (1 : Int32) (p1 &&& (2147483647 : Int32)))), .val (.int i7), .val (.int t0), .val (.ref b19), .val (.ref b21), .val (.int (p4 &&& (3 : Int32))), .unset] [(.int (0 : Int32))]))
          have hc179 : ((0 : Int32) = (0 : Int32)) := by decide
          refine .pre (fun _ k => XS.ifNo X30.here hx rfl (hb hby at_179) rfl ((if0 _ _).trans (teq hc179).2) k) ?_
          show OwnEnds p e below _ (T30.setTop (mkF m 182 #[.val (.int p0), .val (.int p1), .val (.int p2), .val (.int p3), .val (.int p4), .val (.int (f1_0 (1 : Int32) (p0 &&& (2147483647 : Int32)))), .val (.int (f1_0 (1 : Int32) (p1 &&& (2147483647 : Int32)))), .val (.int i7), .val (.int t0), .val (.ref b19), .val (.ref b21), .val (.int (p4 &&& (3 : Int32))), .unset] []))
          refine .pre (fun _ k => XS.iconst X30.here hx rfl (hb hby at_182) k) ?_
          show OwnEnds p e below _ (T30.setTop (mkF m 183 #[.val (.int p0), .val (.int p1), .val (.int p2), .val (.int p3), .val (.int p4), .val (.int (f1_0 (1 : Int32) (p0 &&& (2147483647 : Int32)))), .val (.int (f1_0 (1 : Int32) (p1 &&& (2147483647 : Int32)))), .val (.int i7), .val (.int t0), .val (.ref b19), .val (.ref b21), .val (.int (p4 &&& (3 : Int32))), .unset] [(.int (1 : Int32))]))
          refine .pre (fun _ k => XS.goto X30.here hx rfl (pc0 := 183) (pc' := 187) rfl (hb hby at_183) (by decide) (by decide) k) ?_
          show OwnEnds p e below _ (T30.setTop (mkF m 187 #[.val (.int p0), .val (.int p1), .val (.int p2), .val (.int p3), .val (.int p4), .val (.int (f1_0 (1 : Int32) (p0 &&& (2147483647 : Int32)))), .val (.int (f1_0 (1 : Int32) (p1 &&& (2147483647 : Int32)))), .val (.int i7), .val (.int t0), .val (.ref b19), .val (.ref b21), .val (.int (p4 &&& (3 : Int32))), .unset] [(.int (1 : Int32))]))
          exact own_endN X30 hx hlk (t := .boolean) Bd.returns (by simp) (hb hby at_187) rfl (by decide) (by decide) ⟨congrArg (fun z => some (Value.int z)) hF, N30, trivial⟩
        · rw [if_neg hc170] at hF
          refine .pre (fun _ k => XS.icmpYes X22.here hx rfl (pc0 := 170) (pc' := 188) rfl (hb hby at_170) rfl (feq hc170).2 (by decide) (by decide) k) ?_
          show OwnEnds p e below _ (T22.setTop (mkF m 188 #[.val (.int p0), .val (.int p1), .val (.int p2), .val (.int p3), .val (.int p4), .val (.int (f1_0 (1 : Int32) (p0 &&& (2147483647 : Int32)))), .val (.int (f1_0 (1 : Int32) (p1 &&& (2147483647 : Int32)))), .val (.int i7), .val (.int t0), .val (.ref b19), .val (.ref b21), .val (.int (p4 &&& (3 : Int32))), .unset] []))
          refine .pre (fun _ k => XS.iloadN X22.here hx rfl (hb hby at_188) rfl k) ?_
          show OwnEnds p e below _ (T22.setTop (mkF m 189 #[.val (.int p0), .val (.int p1), .val (.int p2), .val (.int p3), .val (.int p4), .val (.int (f1_0 (1 : Int32) (p0 &&& (2147483647 : Int32)))), .val (.int (f1_0 (1 : Int32) (p1 &&& (2147483647 : Int32)))), .val (.int i7), .val (.int t0), .val (.ref b19), .val (.ref b21), .val (.int (p4 &&& (3 : Int32))), .unset] [(.int p0)]))
          obtain ⟨_, _, ⟨T31, L31, k31, n31⟩, -, X31, ⟨Lc31, hQ31, l31, y31, z31⟩, st31⟩ := Jvm.LawKit.callS X22 hx (y := (⟨"java/lang/Integer", "valueOf", "(I)Ljava/lang/Integer;"⟩ : MethodName)) hown (mvT hZ (hw _ (List.mem_of_getElem? (i := 23) rfl))) (mvT hZ (hw _ (List.mem_of_getElem? (i := 24) rfl))) (mvT hZ (hw _ (List.mem_of_getElem? (i := 25) rfl))) (mvT hZ (hw _ (List.mem_of_getElem? (i := 26) rfl))) (by decide) (backOf (W := 0) (rm5 l Z aZ hw [] p0 xc cl T22.heap n0 (Nat.le_trans (Nat.le_trans (Nat.le_trans (Nat.le_trans Z0 E19.1) K20.1) E21.1) K22.1) (own_staK1 (Sta.ext E21 (own_staK1 (Sta.ext E19 SH) K20 A19)) K22 A21) (own_staK1 (Sta.ext E21 (own_staK1 (Sta.ext E19 SC) K20 A19)) K22 A21) ⟨Kp22.2.1 _ _ AC.1 own_nin0, AC.2⟩ ZC (fun j hj => let ⟨bb, q1, q2⟩ := HC j hj; ⟨bb, q1, q2.keep Kp22⟩)) hZ (hw _ (List.mem_of_getElem? (i := 26) rfl)) (hw _ (List.mem_of_getElem? (i := 25) rfl)) (by decide) (by decide)) (g := (mkF m 189 #[.val (.int p0), .val (.int p1), .val (.int p2), .val (.int p3), .val (.int p4), .val (.int (f1_0 (1 : Int32) (p0 &&& (2147483647 : Int32)))), .val (.int (f1_0 (1 : Int32) (p1 &&& (2147483647 : Int32)))), .val (.int i7), .val (.int t0), .val (.ref b19), .val (.ref b21), .val (.int (p4 &&& (3 : Int32))), .unset] [(.int p0)])) rfl (by rw [hml]; rfl) (argsL := [(.int p0)]) (rest := []) (lenOf pd_9 rfl) rfl (by show 2 * 0 + _ ≤ _; exact Nat.le_of_eq rfl) (hb hby at_189) (fun _ _ => ⟨rfl, rfl, (by decide : 2 + 1 ≤ _), (by decide : 4 + 1 ≤ _)⟩)
          dsimp only [Pt.U, Pt.locs, Pt.cells, Pt.slots] at X31 l31 y31 z31 st31 hQ31
          subst l31 y31 z31
          obtain ⟨r31, rfl, N31q, K31, Er31⟩ := hQ31
          have N31 := Fr.app N22 N31q
          refine .pre (fun _ k => st31 _ k) ?_
          have Kp31 : Keep h0 T31.heap [] := Kp22.trans K31 all0
          show OwnEnds p e below _ (T31.setTop (mkF m 192 #[.val (.int p0), .val (.int p1), .val (.int p2), .val (.int p3), .val (.int p4), .val (.int (f1_0 (1 : Int32) (p0 &&& (2147483647 : Int32)))), .val (.int (f1_0 (1 : Int32) (p1 &&& (2147483647 : Int32)))), .val (.int i7), .val (.int t0), .val (.ref b19), .val (.ref b21), .val (.int (p4 &&& (3 : Int32))), .unset] [(.ref r31)]))
          refine .pre (fun _ k => XS.astore X31.here hx rfl (hb hby at_192) rfl rfl (l' := #[.val (.int p0), .val (.int p1), .val (.int p2), .val (.int p3), .val (.int p4), .val (.int (f1_0 (1 : Int32) (p0 &&& (2147483647 : Int32)))), .val (.int (f1_0 (1 : Int32) (p1 &&& (2147483647 : Int32)))), .val (.int i7), .val (.int t0), .val (.ref b19), .val (.ref b21), .val (.int (p4 &&& (3 : Int32))), .val (.ref r31)]) rfl k) ?_
          show OwnEnds p e below _ (T31.setTop (mkF m 194 #[.val (.int p0), .val (.int p1), .val (.int p2), .val (.int p3), .val (.int p4), .val (.int (f1_0 (1 : Int32) (p0 &&& (2147483647 : Int32)))), .val (.int (f1_0 (1 : Int32) (p1 &&& (2147483647 : Int32)))), .val (.int i7), .val (.int t0), .val (.ref b19), .val (.ref b21), .val (.int (p4 &&& (3 : Int32))), .val (.ref r31)] []))
          refine .pre (fun _ k => XS.aload X31.here hx rfl (hb hby at_194) rfl rfl k) ?_
          show OwnEnds p e below _ (T31.setTop (mkF m 196 #[.val (.int p0), .val (.int p1), .val (.int p2), .val (.int p3), .val (.int p4), .val (.int (f1_0 (1 : Int32) (p0 &&& (2147483647 : Int32)))), .val (.int (f1_0 (1 : Int32) (p1 &&& (2147483647 : Int32)))), .val (.int i7), .val (.int t0), .val (.ref b19), .val (.ref b21), .val (.int (p4 &&& (3 : Int32))), .val (.ref r31)] [(.ref b19)]))
          refine .pre (fun _ k => XS.aload X31.here hx rfl (hb hby at_196) rfl rfl k) ?_
          show OwnEnds p e below _ (T31.setTop (mkF m 198 #[.val (.int p0), .val (.int p1), .val (.int p2), .val (.int p3), .val (.int p4), .val (.int (f1_0 (1 : Int32) (p0 &&& (2147483647 : Int32)))), .val (.int (f1_0 (1 : Int32) (p1 &&& (2147483647 : Int32)))), .val (.int i7), .val (.int t0), .val (.ref b19), .val (.ref b21), .val (.int (p4 &&& (3 : Int32))), .val (.ref r31)] [(.ref r31), (.ref b19)]))
          obtain ⟨cq32, kq32, q32a, q32b, q32c⟩ := isOf hZ rfl (((Ea20.ext E21).keep K22).keep K31)
          obtain ⟨_, _, ⟨T32, L32, k32, n32⟩, -, X32, ⟨Lc32, hQ32, l32, y32, z32⟩, st32⟩ := X31.virtualBack hx (y := (⟨"com/example/unimeth/unimeth/reader/Position", "equals", "(Ljava/lang/Object;)Z"⟩ : MethodName)) (z := (⟨"com/example/unimeth/unimeth/reader/Position", "equals", "(Ljava/lang/Object;)Z"⟩ : MethodName)) hown (mvT hZ (hw _ (List.mem_of_getElem? (i := 18) rfl))) (mvT hZ (hw _ (List.mem_of_getElem? (i := 19) rfl))) (notFace_of_selects (args := #[]) (mvT hZ (hw _ (List.mem_of_getElem? (i := 21) rfl)))) (mvT hZ (hw _ (List.mem_of_getElem? (i := 21) rfl))) (mvT hZ (hw _ (List.mem_of_getElem? (i := 20) rfl))) (by decide) (backOf (W := 0) (rm4D l Z aZ hw [] b19 r31 T31.heap n0 (Nat.le_trans (Nat.le_trans (Nat.le_trans (Nat.le_trans (Nat.le_trans Z0 E19.1) K20.1) E21.1) K22.1) K31.1) (ne_exa (((Ea20.ext E21).keep K22).keep K31) Er31 (by decide)) Er31) hZ (hw _ (List.mem_of_getElem? (i := 22) rfl)) (hw _ (List.mem_of_getElem? (i := 7) rfl)) (by decide) (by decide)) q32a q32c (g := (mkF m 198 #[.val (.int p0), .val (.int p1), .val (.int p2), .val (.int p3), .val (.int p4), .val (.int (f1_0 (1 : Int32) (p0 &&& (2147483647 : Int32)))), .val (.int (f1_0 (1 : Int32) (p1 &&& (2147483647 : Int32)))), .val (.int i7), .val (.int t0), .val (.ref b19), .val (.ref b21), .val (.int (p4 &&& (3 : Int32))), .val (.ref r31)] [(.ref r31), (.ref b19)])) rfl (by rw [hml]; rfl) (Steps.refl _) (argsL := [(.ref r31)]) (rest := []) (lenOf pd_8 rfl) rfl (by show 2 * 0 + _ ≤ _; exact Nat.le_of_eq rfl) (hb hby at_198) (fun _ _ => ⟨rfl, rfl, (by decide : 3 + 0 ≤ _), (by decide : 5 + 0 ≤ _)⟩)
          dsimp only [Pt.U, Pt.locs, Pt.cells, Pt.slots] at X32 l32 y32 z32 st32 hQ32
          subst l32 y32 z32
          obtain ⟨rfl, N32q, e32⟩ := hQ32
          have N32 := Fr.app N31 N32q
          refine .pre (fun _ k => st32.trans k) ?_
          show OwnEnds p e below _ (T32.setTop (mkF m 201 #[.val (.int p0), .val (.int p1), .val (.int p2), .val (.int p3), .val (.int p4), .val (.int (f1_0 (1 : Int32) (p0 &&& (2147483647 : Int32)))), .val (.int (f1_0 (1 : Int32) (p1 &&& (2147483647 : Int32)))), .val (.int i7), .val (.int t0), .val (.ref b19), .val (.ref b21), .val (.int (p4 &&& (3 : Int32))), .val (.ref r31)] [(.int (0 : Int32))]))
          have hc201 : ((0 : Int32) = (0 : Int32)) := by decide
          refine .pre (fun _ k => XS.ifNo X32.here hx rfl (hb hby at_201) rfl ((if0 _ _).trans (teq hc201).2) k) ?_
          show OwnEnds p e below _ (T32.setTop (mkF m 204 #[.val (.int p0), .val (.int p1), .val (.int p2), .val (.int p3), .val (.int p4), .val (.int (f1_0 (1 : Int32) (p0 &&& (2147483647 : Int32)))), .val (.int (f1_0 (1 : Int32) (p1 &&& (2147483647 : Int32)))), .val (.int i7), .val (.int t0), .val (.ref b19), .val (.ref b21), .val (.int (p4 &&& (3 : Int32))), .val (.ref r31)] []))
          refine .pre (fun _ k => XS.iconst X32.here hx rfl (hb hby at_204) k) ?_
          show OwnEnds p e below _ (T32.setTop (mkF m 205 #[.val (.int p0), .val (.int p1), .val (.int p2), .val (.int p3), .val (.int p4), .val (.int (f1_0 (1 : Int32) (p0 &&& (2147483647 : Int32)))), .val (.int (f1_0 (1 : Int32) (p1 &&& (2147483647 : Int32)))), .val (.int i7), .val (.int t0), .val (.ref b19), .val (.ref b21), .val (.int (p4 &&& (3 : Int32))), .val (.ref r31)] [(.int (1 : Int32))]))
          refine .pre (fun _ k => XS.goto X32.here hx rfl (pc0 := 205) (pc' := 209) rfl (hb hby at_205) (by decide) (by decide) k) ?_
          show OwnEnds p e below _ (T32.setTop (mkF m 209 #[.val (.int p0), .val (.int p1), .val (.int p2), .val (.int p3), .val (.int p4), .val (.int (f1_0 (1 : Int32) (p0 &&& (2147483647 : Int32)))), .val (.int (f1_0 (1 : Int32) (p1 &&& (2147483647 : Int32)))), .val (.int i7), .val (.int t0), .val (.ref b19), .val (.ref b21), .val (.int (p4 &&& (3 : Int32))), .val (.ref r31)] [(.int (1 : Int32))]))
          exact own_endN X32 hx hlk (t := .boolean) Bd.returns (by simp) (hb hby at_209) rfl (by decide) (by decide) ⟨congrArg (fun z => some (Value.int z)) hF, N32, trivial⟩
  have B40 : ∀ (T : State) (L : List Loc) (X : Stand p l e room_1 s m #[(.int p0), (.int p1), (.int p2), (.int p3), (.int p4)] below meth c T L 0 0) (eT : T.heap = h0) (N : Fr n0 L) (t0 : Int32) (ht : ¬ (t0 < (1 : Int32))), f0_40 p0 p1 p2 p3 p4 t0 = f0_0 p0 p1 p2 p3 p4 → OwnEnds p e below (OwnQ s (Q0 Z p0 p1 p2 p3 p4 xc cl h0 n0) 16 128) (T.setTop (mkF m 40 #[.val (.int p0), .val (.int p1), .val (.int p2), .val (.int p3), .val (.int p4), .val (.int (f1_0 (1 : Int32) (p0 &&& (2147483647 : Int32)))), .val (.int (f1_0 (1 : Int32) (p1 &&& (2147483647 : Int32)))), .unset, .unset, .unset, .unset, .unset, .unset] [(.int t0)])) := by
    intro T L X eT N t0 ht hF
    change (if (p4 &&& (8 : Int32)) = (0 : Int32) then (f0_63 p0 p1 p2 p3 p4 t0 (f1_0 (1 : Int32) (p3 &&& (2147483647 : Int32)))) else (f0_63 p0 p1 p2 p3 p4 t0 (f1_0 (1 : Int32) (p1 &&& (2147483647 : Int32))))) = _ at hF
    show OwnEnds p e below _ (T.setTop (mkF m 40 #[.val (.int p0), .val (.int p1), .val (.int p2), .val (.int p3), .val (.int p4), .val (.int (f1_0 (1 : Int32) (p0 &&& (2147483647 : Int32)))), .val (.int (f1_0 (1 : Int32) (p1 &&& (2147483647 : Int32)))), .unset, .unset, .unset, .unset, .unset, .unset] [(.int t0)]))
    refine .pre (fun _ k => XS.istore X.here hx rfl (hb hby at_40) rfl (l' := #[.val (.int p0), .val (.int p1), .val (.int p2), .val (.int p3), .val (.int p4), .val (.int (f1_0 (1 : Int32) (p0 &&& (2147483647 : Int32)))), .val (.int (f1_0 (1 : Int32) (p1 &&& (2147483647 : Int32)))), .val (.int t0), .unset, .unset, .unset, .unset, .unset]) rfl k) ?_
    show OwnEnds p e below _ (T.setTop (mkF m 42 #[.val (.int p0), .val (.int p1), .val (.int p2), .val (.int p3), .val (.int p4), .val (.int (f1_0 (1 : Int32) (p0 &&& (2147483647 : Int32)))), .val (.int (f1_0 (1 : Int32) (p1 &&& (2147483647 : Int32)))), .val (.int t0), .unset, .unset, .unset, .unset, .unset] []))
    refine .pre (fun _ k => XS.iload X.here hx rfl (hb hby at_42) rfl k) ?_
    show OwnEnds p e below _ (T.setTop (mkF m 44 #[.val (.int p0), .val (.int p1), .val (.int p2), .val (.int p3), .val (.int p4), .val (.int (f1_0 (1 : Int32) (p0 &&& (2147483647 : Int32)))), .val (.int (f1_0 (1 : Int32) (p1 &&& (2147483647 : Int32)))), .val (.int t0), .unset, .unset, .unset, .unset, .unset] [(.int p4)]))
    refine .pre (fun _ k => XS.bipush X.here hx rfl (hb hby at_44) k) ?_
    show OwnEnds p e below _ (T.setTop (mkF m 46 #[.val (.int p0), .val (.int p1), .val (.int p2), .val (.int p3), .val (.int p4), .val (.int (f1_0 (1 : Int32) (p0 &&& (2147483647 : Int32)))), .val (.int (f1_0 (1 : Int32) (p1 &&& (2147483647 : Int32)))), .val (.int t0), .unset, .unset, .unset, .unset, .unset] [(.int (8 : Int32)), (.int p4)]))
    refine .pre (fun _ k => XS.iand X.here hx rfl (hb hby at_46) rfl k) ?_
    show OwnEnds p e below _ (T.setTop (mkF m 47 #[.val (.int p0), .val (.int p1), .val (.int p2), .val (.int p3), .val (.int p4), .val (.int (f1_0 (1 : Int32) (p0 &&& (2147483647 : Int32)))), .val (.int (f1_0 (1 : Int32) (p1 &&& (2147483647 : Int32)))), .val (.int t0), .unset, .unset, .unset, .unset, .unset] [(.int (p4 &&& (8 : Int32)))]))
    by_cases hc47 : (p4 &&& (8 : Int32)) = (0 : Int32)
    · rw [if_pos hc47] at hF
      refine .pre (fun _ k => XS.ifYes X.here hx rfl (pc0 := 47) (pc' := 55) rfl (hb hby at_47) rfl ((if0 _ _).trans (teq hc47).1) (by decide) (by decide) k) ?_
      show OwnEnds p e below _ (T.setTop (mkF m 55 #[.val (.int p0), .val (.int p1), .val (.int p2), .val (.int p3), .val (.int p4), .val (.int (f1_0 (1 : Int32) (p0 &&& (2147483647 : Int32)))), .val (.int (f1_0 (1 : Int32) (p1 &&& (2147483647 : Int32)))), .val (.int t0), .unset, .unset, .unset, .unset, .unset] []))
      refine .pre (fun _ k => XS.iconst X.here hx rfl (hb hby at_55) k) ?_
      show OwnEnds p e below _ (T.setTop (mkF m 56 #[.val (.int p0), .val (.int p1), .val (.int p2), .val (.int p3), .val (.int p4), .val (.int (f1_0 (1 : Int32) (p0 &&& (2147483647 : Int32)))), .val (.int (f1_0 (1 : Int32) (p1 &&& (2147483647 : Int32)))), .val (.int t0), .unset, .unset, .unset, .unset, .unset] [(.int (1 : Int32))]))
      refine .pre (fun _ k => XS.iloadN X.here hx rfl (hb hby at_56) rfl k) ?_
      show OwnEnds p e below _ (T.setTop (mkF m 57 #[.val (.int p0), .val (.int p1), .val (.int p2), .val (.int p3), .val (.int p4), .val (.int (f1_0 (1 : Int32) (p0 &&& (2147483647 : Int32)))), .val (.int (f1_0 (1 : Int32) (p1 &&& (2147483647 : Int32)))), .val (.int t0), .unset, .unset, .unset, .unset, .unset] [(.int p3), (.int (1 : Int32))]))
      refine .pre (fun _ k => X.ldcInt hx hown (mvT hZ (hw _ (List.mem_of_getElem? (i := 0) rfl))) (g := (mkF m 57 #[.val (.int p0), .val (.int p1), .val (.int p2), .val (.int p3), .val (.int p4), .val (.int (f1_0 (1 : Int32) (p0 &&& (2147483647 : Int32)))), .val (.int (f1_0 (1 : Int32) (p1 &&& (2147483647 : Int32)))), .val (.int t0), .unset, .unset, .unset, .unset, .unset] [(.int p3), (.int (1 : Int32))])) rfl (hb hby at_57) _ k) ?_
      show OwnEnds p e below _ (T.setTop (mkF m 59 #[.val (.int p0), .val (.int p1), .val (.int p2), .val (.int p3), .val (.int p4), .val (.int (f1_0 (1 : Int32) (p0 &&& (2147483647 : Int32)))), .val (.int (f1_0 (1 : Int32) (p1 &&& (2147483647 : Int32)))), .val (.int t0), .unset, .unset, .unset, .unset, .unset] [(.int (2147483647 : Int32)), (.int p3), (.int (1 : Int32))]))
      refine .pre (fun _ k => XS.iand X.here hx rfl (hb hby at_59) rfl k) ?_
      show OwnEnds p e below _ (T.setTop (mkF m 60 #[.val (.int p0), .val (.int p1), .val (.int p2), .val (.int p3), .val (.int p4), .val (.int (f1_0 (1 : Int32) (p0 &&& (2147483647 : Int32)))), .val (.int (f1_0 (1 : Int32) (p1 &&& (2147483647 : Int32)))), .val (.int t0), .unset, .unset, .unset, .unset, .unset] [(.int (p3 &&& (2147483647 : Int32))), (.int (1 : Int32))]))
      obtain ⟨_, _, ⟨T33, L33, k33, n33⟩, -, X33, ⟨Lc33, hQ33, l33, y33, z33⟩, st33⟩ := Jvm.LawKit.callS X hx (y := (⟨"java/lang/Math", "max", "(II)I"⟩ : MethodName)) hown (mvT hZ (hw _ (List.mem_of_getElem? (i := 1) rfl))) (mvT hZ (hw _ (List.mem_of_getElem? (i := 2) rfl))) (mvT hZ (hw _ (List.mem_of_getElem? (i := 3) rfl))) (mvT hZ (hw _ (List.mem_of_getElem? (i := 4) rfl))) (by decide) (backOf (W := 0) (rm1 l Z aZ hw [] (1 : Int32) (p3 &&& (2147483647 : Int32)) h0 n0 Z0) hZ (hw _ (List.mem_of_getElem? (i := 4) rfl)) (hw _ (List.mem_of_getElem? (i := 3) rfl)) (by decide) (by decide)) (g := (mkF m 60 #[.val (.int p0), .val (.int p1), .val (.int p2), .val (.int p3), .val (.int p4), .val (.int (f1_0 (1 : Int32) (p0 &&& (2147483647 : Int32)))), .val (.int (f1_0 (1 : Int32) (p1 &&& (2147483647 : Int32)))), .val (.int t0), .unset, .unset, .unset, .unset, .unset] [(.int (p3 &&& (2147483647 : Int32))), (.int (1 : Int32))])) rfl (by rw [hml]; rfl) (argsL := [(.int (1 : Int32)), (.int (p3 &&& (2147483647 : Int32)))]) (rest := []) (lenOf pd_6 rfl) rfl (by show 2 * 0 + _ ≤ _; exact Nat.le_of_eq rfl) (hb hby at_60) (fun _ _ => ⟨rfl, eT, (by decide : 0 + 0 ≤ _), (by decide : 0 + 0 ≤ _)⟩)
      dsimp only [Pt.U, Pt.locs, Pt.cells, Pt.slots] at X33 l33 y33 z33 st33 hQ33
      subst l33 y33 z33
      obtain ⟨rfl, N33q, e33⟩ := hQ33
      have N33 := Fr.app N N33q
      refine .pre (fun _ k => st33 _ k) ?_
      exact B63 T33 _ X33 e33 N33 t0 (f1_0 (1 : Int32) (p3 &&& (2147483647 : Int32))) ht (own_max _) hF
    · rw [if_neg hc47] at hF
      refine .pre (fun _ k => XS.ifNo X.here hx rfl (hb hby at_47) rfl ((if0 _ _).trans (feq hc47).1) k) ?_
      show OwnEnds p e below _ (T.setTop (mkF m 50 #[.val (.int p0), .val (.int p1), .val (.int p2), .val (.int p3), .val (.int p4), .val (.int (f1_0 (1 : Int32) (p0 &&& (2147483647 : Int32)))), .val (.int (f1_0 (1 : Int32) (p1 &&& (2147483647 : Int32)))), .val (.int t0), .unset, .unset, .unset, .unset, .unset] []))
      refine .pre (fun _ k => XS.iload X.here hx rfl (hb hby at_50) rfl k) ?_
      show OwnEnds p e below _ (T.setTop (mkF m 52 #[.val (.int p0), .val (.int p1), .val (.int p2), .val (.int p3), .val (.int p4), .val (.int (f1_0 (1 : Int32) (p0 &&& (2147483647 : Int32)))), .val (.int (f1_0 (1 : Int32) (p1 &&& (2147483647 : Int32)))), .val (.int t0), .unset, .unset, .unset, .unset, .unset] [(.int (f1_0 (1 : Int32) (p1 &&& (2147483647 : Int32))))]))
      refine .pre (fun _ k => XS.goto X.here hx rfl (pc0 := 52) (pc' := 63) rfl (hb hby at_52) (by decide) (by decide) k) ?_
      exact B63 T _ X eT N t0 (f1_0 (1 : Int32) (p1 &&& (2147483647 : Int32))) ht (own_max _) hF
  have B0 : ∀ (T : State) (L : List Loc) (X : Stand p l e room_1 s m #[(.int p0), (.int p1), (.int p2), (.int p3), (.int p4)] below meth c T L 0 0) (eT : T.heap = h0) (N : Fr n0 L), f0_0 p0 p1 p2 p3 p4 = f0_0 p0 p1 p2 p3 p4 → OwnEnds p e below (OwnQ s (Q0 Z p0 p1 p2 p3 p4 xc cl h0 n0) 16 128) (T.setTop (mkF m 0 #[.val (.int p0), .val (.int p1), .val (.int p2), .val (.int p3), .val (.int p4), .unset, .unset, .unset, .unset, .unset, .unset, .unset, .unset] [])) := by
    intro T L X eT N  hF
    change (if (p4 &&& (4 : Int32)) = (0 : Int32) then (f0_40 p0 p1 p2 p3 p4 (f1_0 (1 : Int32) (p2 &&& (2147483647 : Int32)))) else (f0_40 p0 p1 p2 p3 p4 (f1_0 (1 : Int32) (p0 &&& (2147483647 : Int32))))) = _ at hF
    show OwnEnds p e below _ (T.setTop (mkF m 0 #[.val (.int p0), .val (.int p1), .val (.int p2), .val (.int p3), .val (.int p4), .unset, .unset, .unset, .unset, .unset, .unset, .unset, .unset] []))
    refine .pre (fun _ k => XS.iconst X.here hx rfl (hb hby at_0) k) ?_
    show OwnEnds p e below _ (T.setTop (mkF m 1 #[.val (.int p0), .val (.int p1), .val (.int p2), .val (.int p3), .val (.int p4), .unset, .unset, .unset, .unset, .unset, .unset, .unset, .unset] [(.int (1 : Int32))]))
    refine .pre (fun _ k => XS.iloadN X.here hx rfl (hb hby at_1) rfl k) ?_
    show OwnEnds p e below _ (T.setTop (mkF m 2 #[.val (.int p0), .val (.int p1), .val (.int p2), .val (.int p3), .val (.int p4), .unset, .unset, .unset, .unset, .unset, .unset, .unset, .unset] [(.int p0), (.int (1 : Int32))]))
    refine .pre (fun _ k => X.ldcInt hx hown (mvT hZ (hw _ (List.mem_of_getElem? (i := 0) rfl))) (g := (mkF m 2 #[.val (.int p0), .val (.int p1), .val (.int p2), .val (.int p3), .val (.int p4), .unset, .unset, .unset, .unset, .unset, .unset, .unset, .unset] [(.int p0), (.int (1 : Int32))])) rfl (hb hby at_2) _ k) ?_
    show OwnEnds p e below _ (T.setTop (mkF m 4 #[.val (.int p0), .val (.int p1), .val (.int p2), .val (.int p3), .val (.int p4), .unset, .unset, .unset, .unset, .unset, .unset, .unset, .unset] [(.int (2147483647 : Int32)), (.int p0), (.int (1 : Int32))]))
    refine .pre (fun _ k => XS.iand X.here hx rfl (hb hby at_4) rfl k) ?_
    show OwnEnds p e below _ (T.setTop (mkF m 5 #[.val (.int p0), .val (.int p1), .val (.int p2), .val (.int p3), .val (.int p4), .unset, .unset, .unset, .unset, .unset, .unset, .unset, .unset] [(.int (p0 &&& (2147483647 : Int32))), (.int (1 : Int32))]))
    obtain ⟨_, _, ⟨T34, L34, k34, n34⟩, -, X34, ⟨Lc34, hQ34, l34, y34, z34⟩, st34⟩ := Jvm.LawKit.callS X hx (y := (⟨"java/lang/Math", "max", "(II)I"⟩ : MethodName)) hown (mvT hZ (hw _ (List.mem_of_getElem? (i := 1) rfl))) (mvT hZ (hw _ (List.mem_of_getElem? (i := 2) rfl))) (mvT hZ (hw _ (List.mem_of_getElem? (i := 3) rfl))) (mvT hZ (hw _ (List.mem_of_getElem? (i := 4) rfl))) (by decide) (backOf (W := 0) (rm1 l Z aZ hw [] (1 : Int32) (p0 &&& (2147483647 : Int32)) h0 n0 Z0) hZ (hw _ (List.mem_of_getElem? (i := 4) rfl)) (hw _ (List.mem_of_getElem? (i := 3) rfl)) (by decide) (by decide)) (g := (mkF m 5 #[.val (.int p0), .val (.int p1), .val (.int p2), .val (.int p3), .val (.int p4), .unset, .unset, .unset, .unset, .unset, .unset, .unset, .unset] [(.int (p0 &&& (2147483647 : Int32))), (.int (1 : Int32))])) rfl (by rw [hml]; rfl) (argsL := [(.int (1 : Int32)), (.int (p0 &&& (2147483647 : Int32)))]) (rest := []) (lenOf pd_6 rfl) rfl (by show 2 * 0 + _ ≤ _; exact Nat.le_of_eq rfl) (hb hby at_5) (fun _ _ => ⟨rfl, eT, (by decide : 0 + 0 ≤ _), (by decide : 0 + 0 ≤ _)⟩)
    dsimp only [Pt.U, Pt.locs, Pt.cells, Pt.slots] at X34 l34 y34 z34 st34 hQ34
    subst l34 y34 z34
    obtain ⟨rfl, N34q, e34⟩ := hQ34
    have N34 := Fr.app N N34q
    refine .pre (fun _ k => st34 _ k) ?_
    show OwnEnds p e below _ (T34.setTop (mkF m 8 #[.val (.int p0), .val (.int p1), .val (.int p2), .val (.int p3), .val (.int p4), .unset, .unset, .unset, .unset, .unset, .unset, .unset, .unset] [(.int (f1_0 (1 : Int32) (p0 &&& (2147483647 : Int32))))]))
    refine .pre (fun _ k => XS.istore X34.here hx rfl (hb hby at_8) rfl (l' := #[.val (.int p0), .val (.int p1), .val (.int p2), .val (.int p3), .val (.int p4), .val (.int (f1_0 (1 : Int32) (p0 &&& (2147483647 : Int32)))), .unset, .unset, .unset, .unset, .unset, .unset, .unset]) rfl k) ?_
    show OwnEnds p e below _ (T34.setTop (mkF m 10 #[.val (.int p0), .val (.int p1), .val (.int p2), .val (.int p3), .val (.int p4), .val (.int (f1_0 (1 : Int32) (p0 &&& (2147483647 : Int32)))), .unset, .unset, .unset, .unset, .unset, .unset, .unset] []))
    refine .pre (fun _ k => XS.iconst X34.here hx rfl (hb hby at_10) k) ?_
    show OwnEnds p e below _ (T34.setTop (mkF m 11 #[.val (.int p0), .val (.int p1), .val (.int p2), .val (.int p3), .val (.int p4), .val (.int (f1_0 (1 : Int32) (p0 &&& (2147483647 : Int32)))), .unset, .unset, .unset, .unset, .unset, .unset, .unset] [(.int (1 : Int32))]))
    refine .pre (fun _ k => XS.iloadN X34.here hx rfl (hb hby at_11) rfl k) ?_
    show OwnEnds p e below _ (T34.setTop (mkF m 12 #[.val (.int p0), .val (.int p1), .val (.int p2), .val (.int p3), .val (.int p4), .val (.int (f1_0 (1 : Int32) (p0 &&& (2147483647 : Int32)))), .unset, .unset, .unset, .unset, .unset, .unset, .unset] [(.int p1), (.int (1 : Int32))]))
    refine .pre (fun _ k => X34.ldcInt hx hown (mvT hZ (hw _ (List.mem_of_getElem? (i := 0) rfl))) (g := (mkF m 12 #[.val (.int p0), .val (.int p1), .val (.int p2), .val (.int p3), .val (.int p4), .val (.int (f1_0 (1 : Int32) (p0 &&& (2147483647 : Int32)))), .unset, .unset, .unset, .unset, .unset, .unset, .unset] [(.int p1), (.int (1 : Int32))])) rfl (hb hby at_12) _ k) ?_
    show OwnEnds p e below _ (T34.setTop (mkF m 14 #[.val (.int p0), .val (.int p1), .val (.int p2), .val (.int p3), .val (.int p4), .val (.int (f1_0 (1 : Int32) (p0 &&& (2147483647 : Int32)))), .unset, .unset, .unset, .unset, .unset, .unset, .unset] [(.int (2147483647 : Int32)), (.int p1), (.int (1 : Int32))]))
    refine .pre (fun _ k => XS.iand X34.here hx rfl (hb hby at_14) rfl k) ?_
    show OwnEnds p e below _ (T34.setTop (mkF m 15 #[.val (.int p0), .val (.int p1), .val (.int p2), .val (.int p3), .val (.int p4), .val (.int (f1_0 (1 : Int32) (p0 &&& (2147483647 : Int32)))), .unset, .unset, .unset, .unset, .unset, .unset, .unset] [(.int (p1 &&& (2147483647 : Int32))), (.int (1 : Int32))]))
    obtain ⟨_, _, ⟨T35, L35, k35, n35⟩, -, X35, ⟨Lc35, hQ35, l35, y35, z35⟩, st35⟩ := Jvm.LawKit.callS X34 hx (y := (⟨"java/lang/Math", "max", "(II)I"⟩ : MethodName)) hown (mvT hZ (hw _ (List.mem_of_getElem? (i := 1) rfl))) (mvT hZ (hw _ (List.mem_of_getElem? (i := 2) rfl))) (mvT hZ (hw _ (List.mem_of_getElem? (i := 3) rfl))) (mvT hZ (hw _ (List.mem_of_getElem? (i := 4) rfl))) (by decide) (backOf (W := 0) (rm1 l Z aZ hw [] (1 : Int32) (p1 &&& (2147483647 : Int32)) h0 n0 Z0) hZ (hw _ (List.mem_of_getElem? (i := 4) rfl)) (hw _ (List.mem_of_getElem? (i := 3) rfl)) (by decide) (by decide)) (g := (mkF m 15 #[.val (.int p0), .val (.int p1), .val (.int p2), .val (.int p3), .val (.int p4), .val (.int (f1_0 (1 : Int32) (p0 &&& (2147483647 : Int32)))), .unset, .unset, .unset, .unset, .unset, .unset, .unset] [(.int (p1 &&& (2147483647 : Int32))), (.int (1 : Int32))])) rfl (by rw [hml]; rfl) (argsL := [(.int (1 : Int32)), (.int (p1 &&& (2147483647 : Int32)))]) (rest := []) (lenOf pd_6 rfl) rfl (by show 2 * 0 + _ ≤ _; exact Nat.le_of_eq rfl) (hb hby at_15) (fun _ _ => ⟨rfl, e34, (by decide : 0 + 0 ≤ _), (by decide : 0 + 0 ≤ _)⟩)
    dsimp only [Pt.U, Pt.locs, Pt.cells, Pt.slots] at X35 l35 y35 z35 st35 hQ35
    subst l35 y35 z35
    obtain ⟨rfl, N35q, e35⟩ := hQ35
    have N35 := Fr.app N34 N35q
    refine .pre (fun _ k => st35 _ k) ?_
    show OwnEnds p e below _ (T35.setTop (mkF m 18 #[.val (.int p0), .val (.int p1), .val (.int p2), .val (.int p3), .val (.int p4), .val (.int (f1_0 (1 : Int32) (p0 &&& (2147483647 : Int32)))), .unset, .unset, .unset, .unset, .unset, .unset, .unset] [(.int (f1_0 (1 : Int32) (p1 &&& (2147483647 : Int32))))]))
    refine .pre (fun _ k => XS.istore X35.here hx rfl (hb hby at_18) rfl (l' := #[.val (.int p0), .val (.int p1), .val (.int p2), .val (.int p3), .val (.int p4), .val (.int (f1_0 (1 : Int32) (p0 &&& (2147483647 : Int32)))), .val (.int (f1_0 (1 : Int32) (p1 &&& (2147483647 : Int32)))), .unset, .unset, .unset, .unset, .unset, .unset]) rfl k) ?_
    show OwnEnds p e below _ (T35.setTop (mkF m 20 #[.val (.int p0), .val (.int p1), .val (.int p2), .val (.int p3), .val (.int p4), .val (.int (f1_0 (1 : Int32) (p0 &&& (2147483647 : Int32)))), .val (.int (f1_0 (1 : Int32) (p1 &&& (2147483647 : Int32)))), .unset, .unset, .unset, .unset, .unset, .unset] []))
    refine .pre (fun _ k => XS.iload X35.here hx rfl (hb hby at_20) rfl k) ?_
    show OwnEnds p e below _ (T35.setTop (mkF m 22 #[.val (.int p0), .val (.int p1), .val (.int p2), .val (.int p3), .val (.int p4), .val (.int (f1_0 (1 : Int32) (p0 &&& (2147483647 : Int32)))), .val (.int (f1_0 (1 : Int32) (p1 &&& (2147483647 : Int32)))), .unset, .unset, .unset, .unset, .unset, .unset] [(.int p4)]))
    refine .pre (fun _ k => XS.iconst X35.here hx rfl (hb hby at_22) k) ?_
    show OwnEnds p e below _ (T35.setTop (mkF m 23 #[.val (.int p0), .val (.int p1), .val (.int p2), .val (.int p3), .val (.int p4), .val (.int (f1_0 (1 : Int32) (p0 &&& (2147483647 : Int32)))), .val (.int (f1_0 (1 : Int32) (p1 &&& (2147483647 : Int32)))), .unset, .unset, .unset, .unset, .unset, .unset] [(.int (4 : Int32)), (.int p4)]))
    refine .pre (fun _ k => XS.iand X35.here hx rfl (hb hby at_23) rfl k) ?_
    show OwnEnds p e below _ (T35.setTop (mkF m 24 #[.val (.int p0), .val (.int p1), .val (.int p2), .val (.int p3), .val (.int p4), .val (.int (f1_0 (1 : Int32) (p0 &&& (2147483647 : Int32)))), .val (.int (f1_0 (1 : Int32) (p1 &&& (2147483647 : Int32)))), .unset, .unset, .unset, .unset, .unset, .unset] [(.int (p4 &&& (4 : Int32)))]))
    by_cases hc24 : (p4 &&& (4 : Int32)) = (0 : Int32)
    · rw [if_pos hc24] at hF
      refine .pre (fun _ k => XS.ifYes X35.here hx rfl (pc0 := 24) (pc' := 32) rfl (hb hby at_24) rfl ((if0 _ _).trans (teq hc24).1) (by decide) (by decide) k) ?_
      show OwnEnds p e below _ (T35.setTop (mkF m 32 #[.val (.int p0), .val (.int p1), .val (.int p2), .val (.int p3), .val (.int p4), .val (.int (f1_0 (1 : Int32) (p0 &&& (2147483647 : Int32)))), .val (.int (f1_0 (1 : Int32) (p1 &&& (2147483647 : Int32)))), .unset, .unset, .unset, .unset, .unset, .unset] []))
      refine .pre (fun _ k => XS.iconst X35.here hx rfl (hb hby at_32) k) ?_
      show OwnEnds p e below _ (T35.setTop (mkF m 33 #[.val (.int p0), .val (.int p1), .val (.int p2), .val (.int p3), .val (.int p4), .val (.int (f1_0 (1 : Int32) (p0 &&& (2147483647 : Int32)))), .val (.int (f1_0 (1 : Int32) (p1 &&& (2147483647 : Int32)))), .unset, .unset, .unset, .unset, .unset, .unset] [(.int (1 : Int32))]))
      refine .pre (fun _ k => XS.iloadN X35.here hx rfl (hb hby at_33) rfl k) ?_
      show OwnEnds p e below _ (T35.setTop (mkF m 34 #[.val (.int p0), .val (.int p1), .val (.int p2), .val (.int p3), .val (.int p4), .val (.int (f1_0 (1 : Int32) (p0 &&& (2147483647 : Int32)))), .val (.int (f1_0 (1 : Int32) (p1 &&& (2147483647 : Int32)))), .unset, .unset, .unset, .unset, .unset, .unset] [(.int p2), (.int (1 : Int32))]))
      refine .pre (fun _ k => X35.ldcInt hx hown (mvT hZ (hw _ (List.mem_of_getElem? (i := 0) rfl))) (g := (mkF m 34 #[.val (.int p0), .val (.int p1), .val (.int p2), .val (.int p3), .val (.int p4), .val (.int (f1_0 (1 : Int32) (p0 &&& (2147483647 : Int32)))), .val (.int (f1_0 (1 : Int32) (p1 &&& (2147483647 : Int32)))), .unset, .unset, .unset, .unset, .unset, .unset] [(.int p2), (.int (1 : Int32))])) rfl (hb hby at_34) _ k) ?_
      show OwnEnds p e below _ (T35.setTop (mkF m 36 #[.val (.int p0), .val (.int p1), .val (.int p2), .val (.int p3), .val (.int p4), .val (.int (f1_0 (1 : Int32) (p0 &&& (2147483647 : Int32)))), .val (.int (f1_0 (1 : Int32) (p1 &&& (2147483647 : Int32)))), .unset, .unset, .unset, .unset, .unset, .unset] [(.int (2147483647 : Int32)), (.int p2), (.int (1 : Int32))]))
      refine .pre (fun _ k => XS.iand X35.here hx rfl (hb hby at_36) rfl k) ?_
      show OwnEnds p e below _ (T35.setTop (mkF m 37 #[.val (.int p0), .val (.int p1), .val (.int p2), .val (.int p3), .val (.int p4), .val (.int (f1_0 (1 : Int32) (p0 &&& (2147483647 : Int32)))), .val (.int (f1_0 (1 : Int32) (p1 &&& (2147483647 : Int32)))), .unset, .unset, .unset, .unset, .unset, .unset] [(.int (p2 &&& (2147483647 : Int32))), (.int (1 : Int32))]))
      obtain ⟨_, _, ⟨T36, L36, k36, n36⟩, -, X36, ⟨Lc36, hQ36, l36, y36, z36⟩, st36⟩ := Jvm.LawKit.callS X35 hx (y := (⟨"java/lang/Math", "max", "(II)I"⟩ : MethodName)) hown (mvT hZ (hw _ (List.mem_of_getElem? (i := 1) rfl))) (mvT hZ (hw _ (List.mem_of_getElem? (i := 2) rfl))) (mvT hZ (hw _ (List.mem_of_getElem? (i := 3) rfl))) (mvT hZ (hw _ (List.mem_of_getElem? (i := 4) rfl))) (by decide) (backOf (W := 0) (rm1 l Z aZ hw [] (1 : Int32) (p2 &&& (2147483647 : Int32)) h0 n0 Z0) hZ (hw _ (List.mem_of_getElem? (i := 4) rfl)) (hw _ (List.mem_of_getElem? (i := 3) rfl)) (by decide) (by decide)) (g := (mkF m 37 #[.val (.int p0), .val (.int p1), .val (.int p2), .val (.int p3), .val (.int p4), .val (.int (f1_0 (1 : Int32) (p0 &&& (2147483647 : Int32)))), .val (.int (f1_0 (1 : Int32) (p1 &&& (2147483647 : Int32)))), .unset, .unset, .unset, .unset, .unset, .unset] [(.int (p2 &&& (2147483647 : Int32))), (.int (1 : Int32))])) rfl (by rw [hml]; rfl) (argsL := [(.int (1 : Int32)), (.int (p2 &&& (2147483647 : Int32)))]) (rest := []) (lenOf pd_6 rfl) rfl (by show 2 * 0 + _ ≤ _; exact Nat.le_of_eq rfl) (hb hby at_37) (fun _ _ => ⟨rfl, e35, (by decide : 0 + 0 ≤ _), (by decide : 0 + 0 ≤ _)⟩)
      dsimp only [Pt.U, Pt.locs, Pt.cells, Pt.slots] at X36 l36 y36 z36 st36 hQ36
      subst l36 y36 z36
      obtain ⟨rfl, N36q, e36⟩ := hQ36
      have N36 := Fr.app N35 N36q
      refine .pre (fun _ k => st36 _ k) ?_
      exact B40 T36 _ X36 e36 N36 (f1_0 (1 : Int32) (p2 &&& (2147483647 : Int32))) (own_max _) hF
    · rw [if_neg hc24] at hF
      refine .pre (fun _ k => XS.ifNo X35.here hx rfl (hb hby at_24) rfl ((if0 _ _).trans (feq hc24).1) k) ?_
      show OwnEnds p e below _ (T35.setTop (mkF m 27 #[.val (.int p0), .val (.int p1), .val (.int p2), .val (.int p3), .val (.int p4), .val (.int (f1_0 (1 : Int32) (p0 &&& (2147483647 : Int32)))), .val (.int (f1_0 (1 : Int32) (p1 &&& (2147483647 : Int32)))), .unset, .unset, .unset, .unset, .unset, .unset] []))
      refine .pre (fun _ k => XS.iload X35.here hx rfl (hb hby at_27) rfl k) ?_
      show OwnEnds p e below _ (T35.setTop (mkF m 29 #[.val (.int p0), .val (.int p1), .val (.int p2), .val (.int p3), .val (.int p4), .val (.int (f1_0 (1 : Int32) (p0 &&& (2147483647 : Int32)))), .val (.int (f1_0 (1 : Int32) (p1 &&& (2147483647 : Int32)))), .unset, .unset, .unset, .unset, .unset, .unset] [(.int (f1_0 (1 : Int32) (p0 &&& (2147483647 : Int32))))]))
      refine .pre (fun _ k => XS.goto X35.here hx rfl (pc0 := 29) (pc' := 40) rfl (hb hby at_29) (by decide) (by decide) k) ?_
      exact B40 T35 _ X35 e35 N35 (f1_0 (1 : Int32) (p0 &&& (2147483647 : Int32))) (own_max _) hF
  exact B0 s₁ _ X0 e0 N0  rfl
theorem own_eqB (a b c d : Int32) : f4B_0 a b c d = if a = c then (if b = d then 1 else 0) else 0 := rfl
theorem own_law (x : Int32) (y : Int32) (z : Int32) (u : Int32) (v : Int32) : f0_0 x y z u v = 1 := by
  have h : ∀ i t, f0_63 x y z u v i t = 1 := by
    intro i t
    simp only [f0_63, own_eqB]
    generalize f1_0 (1 : Int32) (x &&& (2147483647 : Int32)) = a
    generalize f1_0 (1 : Int32) (y &&& (2147483647 : Int32)) = b
    by_cases q1 : a = i
    · subst q1
      by_cases q2 : b = t
      · subst q2; simp
      · have q3 : ¬ (t = b) := fun q => q2 q.symm
        simp [q2, q3]
    · have q3 : ¬ (i = a) := fun q => q1 q.symm
      simp [q1, q3]
  simp only [f0_0, f0_40, h]
  split <;> (split <;> rfl)
theorem own_len31 {t : Term} {args : Array Value} {s : State} {x : Addr} {cl : Cell} {v : Value} (vc : t.eval args s none [] s = some (.ref x)) (ha : s.arrayAt? x = some cl) (w : (Term.length t).eval args s none [] s = some v) : cl.slots.size < 2 ^ 31 := by
  by_cases q : cl.slots.size < 2 ^ 31
  · exact q
  · exfalso
    simp [Term.eval, vc, ha, q] at w
set_option maxRecDepth 65536 in
set_option maxHeartbeats 40000000 in
theorem comes_1 {Post : Tables → Env → Array Value → State → Outcome → State → Prop} (hpost : ∀ tb e args s v u, (limb_1_1.after args s (.returned v) u = true ∧ limb_1_2.after args s (.returned v) u = true ∧ True) → FrameEnd s (.returned v) u (Jvm.fieldLocs frame_1_writes args s ++ Jvm.arrayLocs frame_1_arrays args s ++ Jvm.staticLocs frame_1_statics s) 16 128 → Post tb e args s (.returned v) u) :
    ArmFor flags0 classFile x code maxLocals ret World_1 tables_1 room_1 Calls_1 rest_1 Pre_1 Post := by
  intro l hfl _ _ p e ha hc hk s m args below hf hA hF happ hP
  obtain ⟨hcalls, hrest, hpre⟩ := hP
  obtain ⟨-, -, -, hnamed, -, -, -, hat⟩ := (Spec.applies_iff hf).mp happ
  obtain ⟨hg, hn⟩ := and_e (Cond.before_iff.mp (show (Jvm.Cond.and given_1 narrow_1).before args s = true from hpre))
  obtain ⟨hcount, hg0⟩ := and_e hg
  obtain ⟨ha0, hg1⟩ := and_e hg0
  obtain ⟨ha1, hg2⟩ := and_e hg1
  obtain ⟨ha2, hg3⟩ := and_e hg2
  obtain ⟨ha3, hg4⟩ := and_e hg3
  have ha4 := hg4
  obtain ⟨w0, w1, w2, w3, w4, rfl⟩ : ∃ w0 w1 w2 w3 w4 : Value, args = #[w0, w1, w2, w3, w4] := by
    have hs : args.size = 5 := by simpa [Cond.value, given_1] using hcount
    obtain ⟨L⟩ := args
    match L, hs with
    | [w0, w1, w2, w3, w4], _ => exact ⟨w0, w1, w2, w3, w4, rfl⟩
  have hw := fun d (hd : d ∈ tables_1) => atoms_spec (ws := Jvm.Cond.code x code maxLocals ret :: tables_1) hat d (List.mem_cons_of_mem _ hd)
  have hfit : Fit s := fun {y c} hc i hi => by
    obtain ⟨ha, rfl⟩ := Array.getElem?_eq_some_iff.mp hc
    have q := List.all_eq_true.mp ((Array.all_eq_true_iff_forall_mem.mp hF) _ (Array.getElem_mem ha)) i (List.mem_range.mpr hi)
    simpa [Array.getElem?_eq_getElem hi] using q
  obtain ⟨hsets, hown0⟩ := atoms_of _ (rest_1_c_eq ▸ (show rest_1_c.before _ s = true from hrest))
  have hr0 := Cond.before_iff.mp hown0
  obtain ⟨i0, ei0⟩ := is_v ha0
  obtain rfl : w0 = (.int i0) := Option.some.inj ei0
  obtain ⟨i1, ei1⟩ := is_v ha1
  obtain rfl : w1 = (.int i1) := Option.some.inj ei1
  obtain ⟨i2, ei2⟩ := is_v ha2
  obtain rfl : w2 = (.int i2) := Option.some.inj ei2
  obtain ⟨i3, ei3⟩ := is_v ha3
  obtain rfl : w3 = (.int i3) := Option.some.inj ei3
  obtain ⟨i4, ei4⟩ := is_v ha4
  obtain rfl : w4 = (.int i4) := Option.some.inj ei4
  have e3 := eqv_i (Term.int_eval _) (Cond.before_iff.mp (hsets _ (List.mem_of_getElem? (i := 3) rfl)))
  have SH := Sta.start e3 (Or.inl (hsets _ (List.mem_of_getElem? (i := 1) rfl)))
  have w4 := Cond.before_iff.mp (hsets _ (List.mem_of_getElem? (i := 4) rfl))
  obtain ⟨xc, vc⟩ := arr_v w4
  have SC := Sta.start vc (Or.inr ⟨(hw _ (List.mem_of_getElem? (i := 28) rfl)), hsets _ (List.mem_of_getElem? (i := 2) rfl)⟩)
  obtain ⟨cl, AC⟩ := Arr.start vc w4
  have w6 := eqv_i (Term.int_eval _) (Cond.before_iff.mp (hsets _ (List.mem_of_getElem? (i := 6) rfl)))
  have q31 := own_len31 vc (AC.fin (Vm.Alike.refl _)) w6
  have e6 : cl.slots.size.toInt32 = 256 := by have := (len_f vc (AC.fin (Vm.Alike.refl _)) q31).symm.trans w6; simpa using this
  have BX := Bxs.start (d := "I") (val := fun j => .int (j - 128)) (fun _ => vc) AC q31 e6 (by decide) (Cond.before_iff.mp (hsets _ (List.mem_of_getElem? (i := 7) rfl))) (fun X j hj h => eqv_i (by simp [Term.eval]; exact (back32 hj).1) h)
  obtain ⟨n, o, h1, h2, h3, _, L, rfl, ⟨hv, N, -⟩, hq⟩ := rm0 l s _ hw tables_1 i0 i1 i2 i3 i4 xc cl s.heap s.heap.size (Nat.le_refl _) SH SC AC BX.2.1 (fun j hj => let ⟨bb, q1, q2, _⟩ := BX.2.2.2 j hj; ⟨bb, q1, q2⟩) p e ha hc hk s m _ below hf ((Spec.applies_iff_loose hf).mp happ).1 ⟨rfl, State.Warmed39.refl s, rfl⟩ trivial
  rw [own_law] at hv
  subst hv
  refine ⟨n, _, h1, h2, h3, hpost _ _ _ _ _ _ ⟨Cond.after_iff.mpr rfl, Cond.after_iff.mpr (eq_i res_at (Term.int_eval (1)) rfl), trivial⟩ ⟨hq.1, hq.2.1, (hq.2.2.sift fun y hy => Or.inr (N y hy)).mono (by decide) (by decide)⟩⟩
theorem main_1_1 : Claimed_1_1 := comes_1 fun _ _ _ _ _ _ h hF => ⟨h.1, hF⟩
theorem main_1_2 : Claimed_1_2 := comes_1 fun _ _ _ _ _ _ h hF => ⟨h.2.1, hF⟩
end Jvm.Pilot.@@N@@
namespace Jvm.Pilot.@@N@@
open Jvm Jvm.ClassFile Sem Op Lib Jvm.Free Jvm.Stand Jvm.Pilot.@@N@@.Jvm.D
/-! MADE BY PROGRAM (witnessworld.py) out of the Statement's table words and the real class files: 17 classes; the members and pool entries that the words name. The judged class is class 1, her method 1. -/
namespace start1
open Jvm.ClassFile
def u (s : String) : CpInfo := .utf8 (stringToUtf16 s)
/-- a pool by its gaps: so many unusable entries, then the entry; so many at the end -/
def gap : Nat → List CpInfo → List CpInfo
  | 0, r => r
  | n + 1, r => .unusable :: gap n r
def poolList (es : List (Nat × CpInfo)) (last : Nat) : List CpInfo := es.foldr (fun e r => gap e.1 (e.2 :: r)) (gap last [])
def pool (es : List (Nat × CpInfo)) (last : Nat) : Array CpInfo := ⟨poolList es last⟩
def fileOf (pool : Array CpInfo) (this : Nat) (attrs : Array Attribute := #[]) (ms : Array MethodInfo := #[]) (fl : Nat := 33) (sup : Nat := 0) (ifs : Array Nat := #[]) (fds : Array FieldInfo := #[]) : ClassFile where
  minorVersion := 0
  majorVersion := 65
  constantPool := pool
  accessFlags := fl
  thisClass := this
  superClass := sup
  interfaces := ifs
  fields := fds
  methods := ms
  attributes := attrs
def plain (name : String) (sup : Option ClassId) : Class where
  name := name
  kind := .ordinary
  loader := none
  accessFlags := 33
  super := sup
  interfaces := #[]
  cf := none
  fields := #[]
  methods := #[]
  instanceTypes := #[]
  staticTypes := #[]
  resolved := #[]
  callSites := []
  init := .initialized
  statics := none
  mirror := none

def pool0 : Array CpInfo := pool [(5, u "<init>"), (0, u "()V"), (1, .class_ 10), (1, u "java/lang/Object")] 113

def k0c0 : Code := { maxStack := 0, maxLocals := 1, code := object_method_1_code, exceptionTable := #[], attributes := #[] }
def k0m0 : Method := { name := "<init>", desc := "()V", sig := { parameters := [], returnType := none }, accessFlags := 1, code := some k0c0 }
/-- java/lang/Object -/
def k0 : Class := { plain "java/lang/Object" none with
  accessFlags := 33
  interfaces := #[]
  cf := some (fileOf pool0 8 #[] #[{ accessFlags := 1, nameIndex := 5, descriptorIndex := 6, attributes := #[] }] 33 0 #[] #[])
  fields := #[]
  methods := #[k0m0]
  instanceTypes := #[]
  staticTypes := #[]
  resolved := Array.replicate 124 none
  statics := none }

def pool1 : Array CpInfo := pool [(2, .class_ 4), (1, u "java/lang/Object"), (0, u "<init>"), (0, u "()V"), (0, .integer 2147483647), (0, .methodref 9 10), (0, .class_ 11), (0, .nameAndType 12 13), (0, u "java/lang/Math"), (0, u "max"), (0, u "(II)I"), (0, .class_ 15), (0, u "com/example/unimeth/unimeth/reader/Position"), (0, .methodref 14 17), (0, .nameAndType 5 18), (0, u "(II)V"), (0, .methodref 14 20), (0, .nameAndType 21 22), (0, u "equals"), (0, u "(Ljava/lang/Object;)Z"), (0, .methodref 24 25), (0, .class_ 26), (0, .nameAndType 27 28), (0, u "java/lang/Integer"), (0, u "valueOf"), (0, u "(I)Ljava/lang/Integer;"), (0, .class_ 30), (0, u "com/example/unimeth/unimeth/reader/PositionEqualsPinLaw"), (2, u "law"), (0, u "(IIIII)Z")] 3

def k1m0 : Method := { name := "<init>", desc := "()V", sig := { parameters := [], returnType := none }, accessFlags := 1, code := none }
def k1c1 : Code := { maxStack := 4, maxLocals := 13, code := code, exceptionTable := #[], attributes := #[] }
def k1m1 : Method := { name := "law", desc := "(IIIII)Z", sig := { parameters := [.int, .int, .int, .int, .int], returnType := some .boolean }, accessFlags := 9, code := some k1c1 }
/-- com/example/unimeth/unimeth/reader/PositionEqualsPinLaw -/
def k1 : Class := { plain "com/example/unimeth/unimeth/reader/PositionEqualsPinLaw" (some 0) with
  accessFlags := 49
  interfaces := #[]
  cf := some (fileOf pool1 29 #[] #[{ accessFlags := 1, nameIndex := 5, descriptorIndex := 6, attributes := #[] }, { accessFlags := 9, nameIndex := 33, descriptorIndex := 34, attributes := #[] }] 49 2 #[] #[])
  fields := #[]
  methods := #[k1m0, k1m1]
  instanceTypes := #[]
  staticTypes := #[]
  resolved := Array.replicate 38 none
  statics := none }

def pool2 : Array CpInfo := pool [(1, .class_ 2), (0, u "java/lang/Math"), (1, .class_ 6), (1, u "java/lang/Object"), (0, u "<init>"), (0, u "()V"), (89, .class_ 100), (1, u "java/lang/Math$RandomNumberGeneratorHolder"), (71, u "negativeZeroFloatBits"), (0, u "J"), (2, u "negativeZeroDoubleBits"), (21, u "max"), (46, u "$assertionsDisabled"), (0, u "Z"), (88, u "(II)I"), (2, u "twoToTheDoubleScaleDown"), (0, u "D"), (4, u "twoToTheDoubleScaleUp"), (9, u "E"), (3, u "PI"), (2, u "TAU"), (2, u "DEGREES_TO_RADIANS"), (0, u "RADIANS_TO_DEGREES")] 94

def k2m0 : Method := { name := "<init>", desc := "()V", sig := { parameters := [], returnType := none }, accessFlags := 2, code := none }
def k2c1 : Code := { maxStack := 2, maxLocals := 2, code := jdk_29_method_65_code, exceptionTable := #[], attributes := #[] }
def k2m1 : Method := { name := "max", desc := "(II)I", sig := { parameters := [.int, .int], returnType := some .int }, accessFlags := 9, code := some k2c1 }
/-- java/lang/Math -/
def k2 : Class := { plain "java/lang/Math" (some 0) with
  accessFlags := 49
  interfaces := #[]
  cf := some (fileOf pool2 1 #[.nestMembers #[98]] #[{ accessFlags := 2, nameIndex := 7, descriptorIndex := 8, attributes := #[] }, { accessFlags := 9, nameIndex := 198, descriptorIndex := 335, attributes := #[] }] 49 4 #[] #[{ accessFlags := 25, nameIndex := 354, descriptorIndex := 339, attributes := #[] }, { accessFlags := 25, nameIndex := 358, descriptorIndex := 339, attributes := #[] }, { accessFlags := 25, nameIndex := 361, descriptorIndex := 339, attributes := #[] }, { accessFlags := 26, nameIndex := 364, descriptorIndex := 339, attributes := #[] }, { accessFlags := 26, nameIndex := 365, descriptorIndex := 339, attributes := #[] }, { accessFlags := 26, nameIndex := 172, descriptorIndex := 173, attributes := #[] }, { accessFlags := 26, nameIndex := 176, descriptorIndex := 173, attributes := #[] }, { accessFlags := 8, nameIndex := 344, descriptorIndex := 339, attributes := #[] }, { accessFlags := 8, nameIndex := 338, descriptorIndex := 339, attributes := #[] }, { accessFlags := 4120, nameIndex := 245, descriptorIndex := 246, attributes := #[] }])
  fields := #[{ name := "E", type := .double, accessFlags := 25, slot := 0, constantValue := 0 }, { name := "PI", type := .double, accessFlags := 25, slot := 1, constantValue := 0 }, { name := "TAU", type := .double, accessFlags := 25, slot := 2, constantValue := 0 }, { name := "DEGREES_TO_RADIANS", type := .double, accessFlags := 26, slot := 3, constantValue := 0 }, { name := "RADIANS_TO_DEGREES", type := .double, accessFlags := 26, slot := 4, constantValue := 0 }, { name := "negativeZeroFloatBits", type := .long, accessFlags := 26, slot := 5, constantValue := 0 }, { name := "negativeZeroDoubleBits", type := .long, accessFlags := 26, slot := 6, constantValue := 0 }, { name := "twoToTheDoubleScaleUp", type := .double, accessFlags := 8, slot := 7, constantValue := 0 }, { name := "twoToTheDoubleScaleDown", type := .double, accessFlags := 8, slot := 8, constantValue := 0 }, { name := "$assertionsDisabled", type := .boolean, accessFlags := 4120, slot := 9, constantValue := 0 }]
  methods := #[k2m0, k2m1]
  instanceTypes := #[]
  staticTypes := #[.double, .double, .double, .double, .double, .long, .long, .double, .double, .boolean]
  resolved := Array.replicate 460 none
  statics := none }

def pool3 : Array CpInfo := pool [(1, .methodref 2 3), (0, .class_ 4), (0, .nameAndType 5 6), (0, u "java/lang/Object"), (0, u "<init>"), (0, u "()V"), (9, .fieldref 17 18), (0, .class_ 19), (0, .nameAndType 20 21), (0, u "com/example/unimeth/unimeth/reader/Position"), (0, u "line"), (0, u "I"), (0, .fieldref 17 23), (0, .nameAndType 24 21), (0, u "column"), (1, u "(II)V"), (4, u "equals"), (0, u "(Ljava/lang/Object;)Z")] 22

def k3c0 : Code := { maxStack := 4, maxLocals := 3, code := prog_38_method_1_code, exceptionTable := #[], attributes := #[] }
def k3m0 : Method := { name := "<init>", desc := "(II)V", sig := { parameters := [.int, .int], returnType := none }, accessFlags := 1, code := some k3c0 }
def k3c1 : Code := { maxStack := 2, maxLocals := 3, code := prog_38_method_4_code, exceptionTable := #[], attributes := #[] }
def k3m1 : Method := { name := "equals", desc := "(Ljava/lang/Object;)Z", sig := { parameters := [(.object "java/lang/Object")], returnType := some .boolean }, accessFlags := 1, code := some k3c1 }
/-- com/example/unimeth/unimeth/reader/Position -/
def k3 : Class := { plain "com/example/unimeth/unimeth/reader/Position" (some 0) with
  accessFlags := 49
  interfaces := #[]
  cf := some (fileOf pool3 17 #[] #[{ accessFlags := 1, nameIndex := 5, descriptorIndex := 26, attributes := #[] }, { accessFlags := 1, nameIndex := 31, descriptorIndex := 32, attributes := #[] }] 49 2 #[] #[{ accessFlags := 18, nameIndex := 20, descriptorIndex := 21, attributes := #[] }, { accessFlags := 18, nameIndex := 24, descriptorIndex := 21, attributes := #[] }])
  fields := #[{ name := "line", type := .int, accessFlags := 18, slot := 0, constantValue := 0 }, { name := "column", type := .int, accessFlags := 18, slot := 1, constantValue := 0 }]
  methods := #[k3m0, k3m1]
  instanceTypes := #[.int, .int]
  staticTypes := #[]
  resolved := Array.replicate 55 none
  statics := none }

def pool4 : Array CpInfo := pool [(1, .class_ 2), (0, u "java/io/Serializable"), (0, .class_ 4), (0, u "java/lang/Object")] 2

/-- java/io/Serializable -/
def k4 : Class := { plain "java/io/Serializable" (some 0) with
  accessFlags := 1537
  interfaces := #[]
  cf := some (fileOf pool4 1 #[] #[] 1537 3 #[] #[])
  fields := #[]
  methods := #[]
  instanceTypes := #[]
  staticTypes := #[]
  resolved := Array.replicate 7 none
  statics := none }

def pool5 : Array CpInfo := pool [(1, .methodref 2 3), (0, .class_ 4), (0, .nameAndType 5 6), (0, u "java/lang/Object"), (0, u "<init>"), (0, u "()V"), (1, .class_ 10), (1, u "java/lang/Number"), (2, .class_ 14), (0, u "java/io/Serializable"), (0, u "serialVersionUID"), (0, u "J")] 20

def k5c0 : Code := { maxStack := 1, maxLocals := 1, code := jdk_18_method_1_code, exceptionTable := #[], attributes := #[] }
def k5m0 : Method := { name := "<init>", desc := "()V", sig := { parameters := [], returnType := none }, accessFlags := 1, code := some k5c0 }
/-- java/lang/Number -/
def k5 : Class := { plain "java/lang/Number" (some 0) with
  accessFlags := 1057
  interfaces := #[4]
  cf := some (fileOf pool5 8 #[] #[{ accessFlags := 1, nameIndex := 5, descriptorIndex := 6, attributes := #[] }] 1057 2 #[13] #[{ accessFlags := 26, nameIndex := 15, descriptorIndex := 16, attributes := #[] }])
  fields := #[{ name := "serialVersionUID", type := .long, accessFlags := 26, slot := 0, constantValue := 0 }]
  methods := #[k5m0]
  instanceTypes := #[]
  staticTypes := #[.long]
  resolved := Array.replicate 37 none
  statics := none }

def pool6 : Array CpInfo := pool [(1, .class_ 2), (0, u "java/lang/Comparable"), (0, .class_ 4), (0, u "java/lang/Object")] 7

/-- java/lang/Comparable -/
def k6 : Class := { plain "java/lang/Comparable" (some 0) with
  accessFlags := 1537
  interfaces := #[]
  cf := some (fileOf pool6 1 #[] #[] 1537 3 #[] #[])
  fields := #[]
  methods := #[]
  instanceTypes := #[]
  staticTypes := #[]
  resolved := Array.replicate 12 none
  statics := none }

def pool7 : Array CpInfo := pool [(1, .class_ 2), (0, u "java/lang/constant/Constable"), (0, .class_ 4), (0, u "java/lang/Object")] 6

/-- java/lang/constant/Constable -/
def k7 : Class := { plain "java/lang/constant/Constable" (some 0) with
  accessFlags := 1537
  interfaces := #[]
  cf := some (fileOf pool7 1 #[] #[] 1537 3 #[] #[])
  fields := #[]
  methods := #[]
  instanceTypes := #[]
  staticTypes := #[]
  resolved := Array.replicate 11 none
  statics := none }

def pool8 : Array CpInfo := pool [(1, .class_ 2), (0, u "java/lang/constant/ConstantDesc"), (0, .class_ 4), (0, u "java/lang/Object")] 32

/-- java/lang/constant/ConstantDesc -/
def k8 : Class := { plain "java/lang/constant/ConstantDesc" (some 0) with
  accessFlags := 1537
  interfaces := #[]
  cf := some (fileOf pool8 1 #[] #[] 1537 3 #[] #[])
  fields := #[]
  methods := #[]
  instanceTypes := #[]
  staticTypes := #[]
  resolved := Array.replicate 37 none
  statics := none }

def pool9 : Array CpInfo := pool [(1, .class_ 2), (0, u "java/lang/Integer"), (16, u "digits"), (0, u "[C"), (46, u "<init>"), (17, u "DigitOnes"), (0, u "[B"), (2, u "DigitTens"), (10, .nameAndType 67 101), (0, u "()V"), (85, u "valueOf"), (0, u "(I)Ljava/lang/Integer;"), (0, .class_ 190), (0, u "java/lang/Integer$IntegerCache"), (0, .fieldref 189 192), (0, .nameAndType 193 194), (0, u "high"), (0, u "I"), (0, .fieldref 189 196), (0, .nameAndType 197 198), (0, u "cache"), (0, u "[Ljava/lang/Integer;"), (0, .methodref 1 200), (0, .nameAndType 67 201), (0, u "(I)V"), (0, .methodref 203 100), (0, .class_ 204), (0, u "java/lang/Number"), (0, .fieldref 1 206), (0, .nameAndType 207 194), (0, u "value"), (94, u "TYPE"), (0, u "Ljava/lang/Class;"), (0, .class_ 305), (0, u "java/lang/Comparable"), (0, .class_ 307), (0, u "java/lang/constant/Constable"), (0, .class_ 309), (0, u "java/lang/constant/ConstantDesc"), (0, u "MIN_VALUE"), (1, u "MAX_VALUE"), (3, u "SIZE"), (1, u "BYTES"), (1, u "serialVersionUID"), (0, u "J")] 131

def k9c0 : Code := { maxStack := 3, maxLocals := 1, code := jdk_33_method_22_code, exceptionTable := #[], attributes := #[] }
def k9m0 : Method := { name := "valueOf", desc := "(I)Ljava/lang/Integer;", sig := { parameters := [.int], returnType := some (.object "java/lang/Integer") }, accessFlags := 9, code := some k9c0 }
def k9c1 : Code := { maxStack := 2, maxLocals := 2, code := jdk_33_method_23_code, exceptionTable := #[], attributes := #[] }
def k9m1 : Method := { name := "<init>", desc := "(I)V", sig := { parameters := [.int], returnType := none }, accessFlags := 1, code := some k9c1 }
/-- java/lang/Integer -/
def k9 : Class := { plain "java/lang/Integer" (some 5) with
  accessFlags := 49
  interfaces := #[6, 7, 8]
  cf := some (fileOf pool9 1 #[.nestMembers #[189]] #[{ accessFlags := 9, nameIndex := 187, descriptorIndex := 188, attributes := #[] }, { accessFlags := 1, nameIndex := 67, descriptorIndex := 201, attributes := #[] }] 49 203 #[304, 306, 308] #[{ accessFlags := 25, nameIndex := 310, descriptorIndex := 194, attributes := #[] }, { accessFlags := 25, nameIndex := 312, descriptorIndex := 194, attributes := #[] }, { accessFlags := 25, nameIndex := 302, descriptorIndex := 303, attributes := #[] }, { accessFlags := 24, nameIndex := 19, descriptorIndex := 20, attributes := #[] }, { accessFlags := 24, nameIndex := 89, descriptorIndex := 86, attributes := #[] }, { accessFlags := 24, nameIndex := 85, descriptorIndex := 86, attributes := #[] }, { accessFlags := 18, nameIndex := 207, descriptorIndex := 194, attributes := #[] }, { accessFlags := 25, nameIndex := 316, descriptorIndex := 194, attributes := #[] }, { accessFlags := 25, nameIndex := 318, descriptorIndex := 194, attributes := #[] }, { accessFlags := 26, nameIndex := 320, descriptorIndex := 321, attributes := #[] }])
  fields := #[{ name := "MIN_VALUE", type := .int, accessFlags := 25, slot := 0, constantValue := 0 }, { name := "MAX_VALUE", type := .int, accessFlags := 25, slot := 1, constantValue := 0 }, { name := "TYPE", type := (.object "java/lang/Class"), accessFlags := 25, slot := 2, constantValue := 0 }, { name := "digits", type := (.array .char), accessFlags := 24, slot := 3, constantValue := 0 }, { name := "DigitTens", type := (.array .byte), accessFlags := 24, slot := 4, constantValue := 0 }, { name := "DigitOnes", type := (.array .byte), accessFlags := 24, slot := 5, constantValue := 0 }, { name := "value", type := .int, accessFlags := 18, slot := 0, constantValue := 0 }, { name := "SIZE", type := .int, accessFlags := 25, slot := 6, constantValue := 0 }, { name := "BYTES", type := .int, accessFlags := 25, slot := 7, constantValue := 0 }, { name := "serialVersionUID", type := .long, accessFlags := 26, slot := 8, constantValue := 0 }]
  methods := #[k9m0, k9m1]
  instanceTypes := #[.int]
  staticTypes := #[.int, .int, (.object "java/lang/Class"), (.array .char), (.array .byte), (.array .byte), .int, .int, .long]
  resolved := Array.replicate 453 none
  statics := none }

def pool10 : Array CpInfo := pool [(2, .class_ 4), (1, u "java/lang/Object"), (0, u "<init>"), (0, u "()V"), (0, .class_ 8), (0, u "java/lang/Integer"), (7, .class_ 18), (1, u "java/lang/Integer$IntegerCache"), (0, u "$assertionsDisabled"), (0, u "Z"), (26, u "high"), (0, u "I"), (8, u "archivedCache"), (0, u "[Ljava/lang/Integer;"), (12, u "cache"), (0, u "low")] 27

def k10m0 : Method := { name := "<init>", desc := "()V", sig := { parameters := [], returnType := none }, accessFlags := 2, code := none }
/-- java/lang/Integer$IntegerCache -/
def k10 : Class := { plain "java/lang/Integer$IntegerCache" (some 0) with
  accessFlags := 48
  interfaces := #[]
  cf := some (fileOf pool10 16 #[.nestHost 7] #[{ accessFlags := 2, nameIndex := 5, descriptorIndex := 6, attributes := #[] }] 48 2 #[] #[{ accessFlags := 24, nameIndex := 72, descriptorIndex := 48, attributes := #[] }, { accessFlags := 24, nameIndex := 47, descriptorIndex := 48, attributes := #[] }, { accessFlags := 24, nameIndex := 71, descriptorIndex := 58, attributes := #[] }, { accessFlags := 8, nameIndex := 57, descriptorIndex := 58, attributes := #[] }, { accessFlags := 4120, nameIndex := 19, descriptorIndex := 20, attributes := #[] }])
  fields := #[{ name := "low", type := .int, accessFlags := 24, slot := 0, constantValue := 0 }, { name := "high", type := .int, accessFlags := 24, slot := 1, constantValue := 0 }, { name := "cache", type := (.array (.object "java/lang/Integer")), accessFlags := 24, slot := 2, constantValue := 0 }, { name := "archivedCache", type := (.array (.object "java/lang/Integer")), accessFlags := 8, slot := 3, constantValue := 0 }, { name := "$assertionsDisabled", type := .boolean, accessFlags := 4120, slot := 4, constantValue := 0 }]
  methods := #[k10m0]
  instanceTypes := #[]
  staticTypes := #[.int, .int, (.array (.object "java/lang/Integer")), (.array (.object "java/lang/Integer")), .boolean]
  resolved := Array.replicate 100 none
  statics := some 0 }

def pool11 : Array CpInfo := pool [(1, u "java/lang/Cloneable"), (0, .class_ 1), (0, u "java/lang/Object"), (0, .class_ 3)] 3

/-- java/lang/Cloneable -/
def k11 : Class := { plain "java/lang/Cloneable" (some 0) with
  accessFlags := 1537
  interfaces := #[]
  cf := some (fileOf pool11 2 #[] #[] 1537 4 #[] #[])
  fields := #[]
  methods := #[]
  instanceTypes := #[]
  staticTypes := #[]
  resolved := Array.replicate 8 none
  statics := none }

/-- the primitive byte -/
def k12 : Class := { plain "byte" none with kind := .primitive 'B', accessFlags := 0x411 }
/-- [B -/
def k13 : Class := { plain "[B" (some 0) with kind := .array 12 .byte, interfaces := #[11, 4], accessFlags := 1041 }

/-- the primitive int -/
def k14 : Class := { plain "int" none with kind := .primitive 'I', accessFlags := 0x411 }
/-- [I -/
def k15 : Class := { plain "[I" (some 0) with kind := .array 14 .int, interfaces := #[11, 4], accessFlags := 1041 }

/-- [Ljava/lang/Integer; -/
def k16 : Class := { plain "[Ljava/lang/Integer;" (some 0) with kind := .array 9 (.object "java/lang/Integer"), interfaces := #[11, 4], accessFlags := 1041 }

def heap : Heap := #[{ cls := 10, slots := #[.int 0, .int 127, .ref 1, .null, .int 0], vm := .statics 10 },
  { cls := 16, slots := #[.ref 2, .ref 3, .ref 4, .ref 5, .ref 6, .ref 7, .ref 8, .ref 9, .ref 10, .ref 11, .ref 12, .ref 13, .ref 14, .ref 15, .ref 16, .ref 17, .ref 18, .ref 19, .ref 20, .ref 21, .ref 22, .ref 23, .ref 24, .ref 25, .ref 26, .ref 27, .ref 28, .ref 29, .ref 30, .ref 31, .ref 32, .ref 33, .ref 34, .ref 35, .ref 36, .ref 37, .ref 38, .ref 39, .ref 40, .ref 41, .ref 42, .ref 43, .ref 44, .ref 45, .ref 46, .ref 47, .ref 48, .ref 49, .ref 50, .ref 51, .ref 52, .ref 53, .ref 54, .ref 55, .ref 56, .ref 57, .ref 58, .ref 59, .ref 60, .ref 61, .ref 62, .ref 63, .ref 64, .ref 65, .ref 66, .ref 67, .ref 68, .ref 69, .ref 70, .ref 71, .ref 72, .ref 73, .ref 74, .ref 75, .ref 76, .ref 77, .ref 78, .ref 79, .ref 80, .ref 81, .ref 82, .ref 83, .ref 84, .ref 85, .ref 86, .ref 87, .ref 88, .ref 89, .ref 90, .ref 91, .ref 92, .ref 93, .ref 94, .ref 95, .ref 96, .ref 97, .ref 98, .ref 99, .ref 100, .ref 101, .ref 102, .ref 103, .ref 104, .ref 105, .ref 106, .ref 107, .ref 108, .ref 109, .ref 110, .ref 111, .ref 112, .ref 113, .ref 114, .ref 115, .ref 116, .ref 117, .ref 118, .ref 119, .ref 120, .ref 121, .ref 122, .ref 123, .ref 124, .ref 125, .ref 126, .ref 127, .ref 128, .ref 129, .ref 130, .ref 131, .ref 132, .ref 133, .ref 134, .ref 135, .ref 136, .ref 137, .ref 138, .ref 139, .ref 140, .ref 141, .ref 142, .ref 143, .ref 144, .ref 145, .ref 146, .ref 147, .ref 148, .ref 149, .ref 150, .ref 151, .ref 152, .ref 153, .ref 154, .ref 155, .ref 156, .ref 157, .ref 158, .ref 159, .ref 160, .ref 161, .ref 162, .ref 163, .ref 164, .ref 165, .ref 166, .ref 167, .ref 168, .ref 169, .ref 170, .ref 171, .ref 172, .ref 173, .ref 174, .ref 175, .ref 176, .ref 177, .ref 178, .ref 179, .ref 180, .ref 181, .ref 182, .ref 183, .ref 184, .ref 185, .ref 186, .ref 187, .ref 188, .ref 189, .ref 190, .ref 191, .ref 192, .ref 193, .ref 194, .ref 195, .ref 196, .ref 197, .ref 198, .ref 199, .ref 200, .ref 201, .ref 202, .ref 203, .ref 204, .ref 205, .ref 206, .ref 207, .ref 208, .ref 209, .ref 210, .ref 211, .ref 212, .ref 213, .ref 214, .ref 215, .ref 216, .ref 217, .ref 218, .ref 219, .ref 220, .ref 221, .ref 222, .ref 223, .ref 224, .ref 225, .ref 226, .ref 227, .ref 228, .ref 229, .ref 230, .ref 231, .ref 232, .ref 233, .ref 234, .ref 235, .ref 236, .ref 237, .ref 238, .ref 239, .ref 240, .ref 241, .ref 242, .ref 243, .ref 244, .ref 245, .ref 246, .ref 247, .ref 248, .ref 249, .ref 250, .ref 251, .ref 252, .ref 253, .ref 254, .ref 255, .ref 256, .ref 257], vm := .none },
  { cls := 9, slots := #[.int (-128)], vm := .none },
  { cls := 9, slots := #[.int (-127)], vm := .none },
  { cls := 9, slots := #[.int (-126)], vm := .none },
  { cls := 9, slots := #[.int (-125)], vm := .none },
  { cls := 9, slots := #[.int (-124)], vm := .none },
  { cls := 9, slots := #[.int (-123)], vm := .none },
  { cls := 9, slots := #[.int (-122)], vm := .none },
  { cls := 9, slots := #[.int (-121)], vm := .none },
  { cls := 9, slots := #[.int (-120)], vm := .none },
  { cls := 9, slots := #[.int (-119)], vm := .none },
  { cls := 9, slots := #[.int (-118)], vm := .none },
  { cls := 9, slots := #[.int (-117)], vm := .none },
  { cls := 9, slots := #[.int (-116)], vm := .none },
  { cls := 9, slots := #[.int (-115)], vm := .none },
  { cls := 9, slots := #[.int (-114)], vm := .none },
  { cls := 9, slots := #[.int (-113)], vm := .none },
  { cls := 9, slots := #[.int (-112)], vm := .none },
  { cls := 9, slots := #[.int (-111)], vm := .none },
  { cls := 9, slots := #[.int (-110)], vm := .none },
  { cls := 9, slots := #[.int (-109)], vm := .none },
  { cls := 9, slots := #[.int (-108)], vm := .none },
  { cls := 9, slots := #[.int (-107)], vm := .none },
  { cls := 9, slots := #[.int (-106)], vm := .none },
  { cls := 9, slots := #[.int (-105)], vm := .none },
  { cls := 9, slots := #[.int (-104)], vm := .none },
  { cls := 9, slots := #[.int (-103)], vm := .none },
  { cls := 9, slots := #[.int (-102)], vm := .none },
  { cls := 9, slots := #[.int (-101)], vm := .none },
  { cls := 9, slots := #[.int (-100)], vm := .none },
  { cls := 9, slots := #[.int (-99)], vm := .none },
  { cls := 9, slots := #[.int (-98)], vm := .none },
  { cls := 9, slots := #[.int (-97)], vm := .none },
  { cls := 9, slots := #[.int (-96)], vm := .none },
  { cls := 9, slots := #[.int (-95)], vm := .none },
  { cls := 9, slots := #[.int (-94)], vm := .none },
  { cls := 9, slots := #[.int (-93)], vm := .none },
  { cls := 9, slots := #[.int (-92)], vm := .none },
  { cls := 9, slots := #[.int (-91)], vm := .none },
  { cls := 9, slots := #[.int (-90)], vm := .none },
  { cls := 9, slots := #[.int (-89)], vm := .none },
  { cls := 9, slots := #[.int (-88)], vm := .none },
  { cls := 9, slots := #[.int (-87)], vm := .none },
  { cls := 9, slots := #[.int (-86)], vm := .none },
  { cls := 9, slots := #[.int (-85)], vm := .none },
  { cls := 9, slots := #[.int (-84)], vm := .none },
  { cls := 9, slots := #[.int (-83)], vm := .none },
  { cls := 9, slots := #[.int (-82)], vm := .none },
  { cls := 9, slots := #[.int (-81)], vm := .none },
  { cls := 9, slots := #[.int (-80)], vm := .none },
  { cls := 9, slots := #[.int (-79)], vm := .none },
  { cls := 9, slots := #[.int (-78)], vm := .none },
  { cls := 9, slots := #[.int (-77)], vm := .none },
  { cls := 9, slots := #[.int (-76)], vm := .none },
  { cls := 9, slots := #[.int (-75)], vm := .none },
  { cls := 9, slots := #[.int (-74)], vm := .none },
  { cls := 9, slots := #[.int (-73)], vm := .none },
  { cls := 9, slots := #[.int (-72)], vm := .none },
  { cls := 9, slots := #[.int (-71)], vm := .none },
  { cls := 9, slots := #[.int (-70)], vm := .none },
  { cls := 9, slots := #[.int (-69)], vm := .none },
  { cls := 9, slots := #[.int (-68)], vm := .none },
  { cls := 9, slots := #[.int (-67)], vm := .none },
  { cls := 9, slots := #[.int (-66)], vm := .none },
  { cls := 9, slots := #[.int (-65)], vm := .none },
  { cls := 9, slots := #[.int (-64)], vm := .none },
  { cls := 9, slots := #[.int (-63)], vm := .none },
  { cls := 9, slots := #[.int (-62)], vm := .none },
  { cls := 9, slots := #[.int (-61)], vm := .none },
  { cls := 9, slots := #[.int (-60)], vm := .none },
  { cls := 9, slots := #[.int (-59)], vm := .none },
  { cls := 9, slots := #[.int (-58)], vm := .none },
  { cls := 9, slots := #[.int (-57)], vm := .none },
  { cls := 9, slots := #[.int (-56)], vm := .none },
  { cls := 9, slots := #[.int (-55)], vm := .none },
  { cls := 9, slots := #[.int (-54)], vm := .none },
  { cls := 9, slots := #[.int (-53)], vm := .none },
  { cls := 9, slots := #[.int (-52)], vm := .none },
  { cls := 9, slots := #[.int (-51)], vm := .none },
  { cls := 9, slots := #[.int (-50)], vm := .none },
  { cls := 9, slots := #[.int (-49)], vm := .none },
  { cls := 9, slots := #[.int (-48)], vm := .none },
  { cls := 9, slots := #[.int (-47)], vm := .none },
  { cls := 9, slots := #[.int (-46)], vm := .none },
  { cls := 9, slots := #[.int (-45)], vm := .none },
  { cls := 9, slots := #[.int (-44)], vm := .none },
  { cls := 9, slots := #[.int (-43)], vm := .none },
  { cls := 9, slots := #[.int (-42)], vm := .none },
  { cls := 9, slots := #[.int (-41)], vm := .none },
  { cls := 9, slots := #[.int (-40)], vm := .none },
  { cls := 9, slots := #[.int (-39)], vm := .none },
  { cls := 9, slots := #[.int (-38)], vm := .none },
  { cls := 9, slots := #[.int (-37)], vm := .none },
  { cls := 9, slots := #[.int (-36)], vm := .none },
  { cls := 9, slots := #[.int (-35)], vm := .none },
  { cls := 9, slots := #[.int (-34)], vm := .none },
  { cls := 9, slots := #[.int (-33)], vm := .none },
  { cls := 9, slots := #[.int (-32)], vm := .none },
  { cls := 9, slots := #[.int (-31)], vm := .none },
  { cls := 9, slots := #[.int (-30)], vm := .none },
  { cls := 9, slots := #[.int (-29)], vm := .none },
  { cls := 9, slots := #[.int (-28)], vm := .none },
  { cls := 9, slots := #[.int (-27)], vm := .none },
  { cls := 9, slots := #[.int (-26)], vm := .none },
  { cls := 9, slots := #[.int (-25)], vm := .none },
  { cls := 9, slots := #[.int (-24)], vm := .none },
  { cls := 9, slots := #[.int (-23)], vm := .none },
  { cls := 9, slots := #[.int (-22)], vm := .none },
  { cls := 9, slots := #[.int (-21)], vm := .none },
  { cls := 9, slots := #[.int (-20)], vm := .none },
  { cls := 9, slots := #[.int (-19)], vm := .none },
  { cls := 9, slots := #[.int (-18)], vm := .none },
  { cls := 9, slots := #[.int (-17)], vm := .none },
  { cls := 9, slots := #[.int (-16)], vm := .none },
  { cls := 9, slots := #[.int (-15)], vm := .none },
  { cls := 9, slots := #[.int (-14)], vm := .none },
  { cls := 9, slots := #[.int (-13)], vm := .none },
  { cls := 9, slots := #[.int (-12)], vm := .none },
  { cls := 9, slots := #[.int (-11)], vm := .none },
  { cls := 9, slots := #[.int (-10)], vm := .none },
  { cls := 9, slots := #[.int (-9)], vm := .none },
  { cls := 9, slots := #[.int (-8)], vm := .none },
  { cls := 9, slots := #[.int (-7)], vm := .none },
  { cls := 9, slots := #[.int (-6)], vm := .none },
  { cls := 9, slots := #[.int (-5)], vm := .none },
  { cls := 9, slots := #[.int (-4)], vm := .none },
  { cls := 9, slots := #[.int (-3)], vm := .none },
  { cls := 9, slots := #[.int (-2)], vm := .none },
  { cls := 9, slots := #[.int (-1)], vm := .none },
  { cls := 9, slots := #[.int 0], vm := .none },
  { cls := 9, slots := #[.int 1], vm := .none },
  { cls := 9, slots := #[.int 2], vm := .none },
  { cls := 9, slots := #[.int 3], vm := .none },
  { cls := 9, slots := #[.int 4], vm := .none },
  { cls := 9, slots := #[.int 5], vm := .none },
  { cls := 9, slots := #[.int 6], vm := .none },
  { cls := 9, slots := #[.int 7], vm := .none },
  { cls := 9, slots := #[.int 8], vm := .none },
  { cls := 9, slots := #[.int 9], vm := .none },
  { cls := 9, slots := #[.int 10], vm := .none },
  { cls := 9, slots := #[.int 11], vm := .none },
  { cls := 9, slots := #[.int 12], vm := .none },
  { cls := 9, slots := #[.int 13], vm := .none },
  { cls := 9, slots := #[.int 14], vm := .none },
  { cls := 9, slots := #[.int 15], vm := .none },
  { cls := 9, slots := #[.int 16], vm := .none },
  { cls := 9, slots := #[.int 17], vm := .none },
  { cls := 9, slots := #[.int 18], vm := .none },
  { cls := 9, slots := #[.int 19], vm := .none },
  { cls := 9, slots := #[.int 20], vm := .none },
  { cls := 9, slots := #[.int 21], vm := .none },
  { cls := 9, slots := #[.int 22], vm := .none },
  { cls := 9, slots := #[.int 23], vm := .none },
  { cls := 9, slots := #[.int 24], vm := .none },
  { cls := 9, slots := #[.int 25], vm := .none },
  { cls := 9, slots := #[.int 26], vm := .none },
  { cls := 9, slots := #[.int 27], vm := .none },
  { cls := 9, slots := #[.int 28], vm := .none },
  { cls := 9, slots := #[.int 29], vm := .none },
  { cls := 9, slots := #[.int 30], vm := .none },
  { cls := 9, slots := #[.int 31], vm := .none },
  { cls := 9, slots := #[.int 32], vm := .none },
  { cls := 9, slots := #[.int 33], vm := .none },
  { cls := 9, slots := #[.int 34], vm := .none },
  { cls := 9, slots := #[.int 35], vm := .none },
  { cls := 9, slots := #[.int 36], vm := .none },
  { cls := 9, slots := #[.int 37], vm := .none },
  { cls := 9, slots := #[.int 38], vm := .none },
  { cls := 9, slots := #[.int 39], vm := .none },
  { cls := 9, slots := #[.int 40], vm := .none },
  { cls := 9, slots := #[.int 41], vm := .none },
  { cls := 9, slots := #[.int 42], vm := .none },
  { cls := 9, slots := #[.int 43], vm := .none },
  { cls := 9, slots := #[.int 44], vm := .none },
  { cls := 9, slots := #[.int 45], vm := .none },
  { cls := 9, slots := #[.int 46], vm := .none },
  { cls := 9, slots := #[.int 47], vm := .none },
  { cls := 9, slots := #[.int 48], vm := .none },
  { cls := 9, slots := #[.int 49], vm := .none },
  { cls := 9, slots := #[.int 50], vm := .none },
  { cls := 9, slots := #[.int 51], vm := .none },
  { cls := 9, slots := #[.int 52], vm := .none },
  { cls := 9, slots := #[.int 53], vm := .none },
  { cls := 9, slots := #[.int 54], vm := .none },
  { cls := 9, slots := #[.int 55], vm := .none },
  { cls := 9, slots := #[.int 56], vm := .none },
  { cls := 9, slots := #[.int 57], vm := .none },
  { cls := 9, slots := #[.int 58], vm := .none },
  { cls := 9, slots := #[.int 59], vm := .none },
  { cls := 9, slots := #[.int 60], vm := .none },
  { cls := 9, slots := #[.int 61], vm := .none },
  { cls := 9, slots := #[.int 62], vm := .none },
  { cls := 9, slots := #[.int 63], vm := .none },
  { cls := 9, slots := #[.int 64], vm := .none },
  { cls := 9, slots := #[.int 65], vm := .none },
  { cls := 9, slots := #[.int 66], vm := .none },
  { cls := 9, slots := #[.int 67], vm := .none },
  { cls := 9, slots := #[.int 68], vm := .none },
  { cls := 9, slots := #[.int 69], vm := .none },
  { cls := 9, slots := #[.int 70], vm := .none },
  { cls := 9, slots := #[.int 71], vm := .none },
  { cls := 9, slots := #[.int 72], vm := .none },
  { cls := 9, slots := #[.int 73], vm := .none },
  { cls := 9, slots := #[.int 74], vm := .none },
  { cls := 9, slots := #[.int 75], vm := .none },
  { cls := 9, slots := #[.int 76], vm := .none },
  { cls := 9, slots := #[.int 77], vm := .none },
  { cls := 9, slots := #[.int 78], vm := .none },
  { cls := 9, slots := #[.int 79], vm := .none },
  { cls := 9, slots := #[.int 80], vm := .none },
  { cls := 9, slots := #[.int 81], vm := .none },
  { cls := 9, slots := #[.int 82], vm := .none },
  { cls := 9, slots := #[.int 83], vm := .none },
  { cls := 9, slots := #[.int 84], vm := .none },
  { cls := 9, slots := #[.int 85], vm := .none },
  { cls := 9, slots := #[.int 86], vm := .none },
  { cls := 9, slots := #[.int 87], vm := .none },
  { cls := 9, slots := #[.int 88], vm := .none },
  { cls := 9, slots := #[.int 89], vm := .none },
  { cls := 9, slots := #[.int 90], vm := .none },
  { cls := 9, slots := #[.int 91], vm := .none },
  { cls := 9, slots := #[.int 92], vm := .none },
  { cls := 9, slots := #[.int 93], vm := .none },
  { cls := 9, slots := #[.int 94], vm := .none },
  { cls := 9, slots := #[.int 95], vm := .none },
  { cls := 9, slots := #[.int 96], vm := .none },
  { cls := 9, slots := #[.int 97], vm := .none },
  { cls := 9, slots := #[.int 98], vm := .none },
  { cls := 9, slots := #[.int 99], vm := .none },
  { cls := 9, slots := #[.int 100], vm := .none },
  { cls := 9, slots := #[.int 101], vm := .none },
  { cls := 9, slots := #[.int 102], vm := .none },
  { cls := 9, slots := #[.int 103], vm := .none },
  { cls := 9, slots := #[.int 104], vm := .none },
  { cls := 9, slots := #[.int 105], vm := .none },
  { cls := 9, slots := #[.int 106], vm := .none },
  { cls := 9, slots := #[.int 107], vm := .none },
  { cls := 9, slots := #[.int 108], vm := .none },
  { cls := 9, slots := #[.int 109], vm := .none },
  { cls := 9, slots := #[.int 110], vm := .none },
  { cls := 9, slots := #[.int 111], vm := .none },
  { cls := 9, slots := #[.int 112], vm := .none },
  { cls := 9, slots := #[.int 113], vm := .none },
  { cls := 9, slots := #[.int 114], vm := .none },
  { cls := 9, slots := #[.int 115], vm := .none },
  { cls := 9, slots := #[.int 116], vm := .none },
  { cls := 9, slots := #[.int 117], vm := .none },
  { cls := 9, slots := #[.int 118], vm := .none },
  { cls := 9, slots := #[.int 119], vm := .none },
  { cls := 9, slots := #[.int 120], vm := .none },
  { cls := 9, slots := #[.int 121], vm := .none },
  { cls := 9, slots := #[.int 122], vm := .none },
  { cls := 9, slots := #[.int 123], vm := .none },
  { cls := 9, slots := #[.int 124], vm := .none },
  { cls := 9, slots := #[.int 125], vm := .none },
  { cls := 9, slots := #[.int 126], vm := .none },
  { cls := 9, slots := #[.int 127], vm := .none }]
def classes : Array Class := #[k0, k1, k2, k3, k4, k5, k6, k7, k8, k9, k10, k11, k12, k13, k14, k15, k16]
def interned : List (Array UInt16 × Addr) := []
def slotsUsed : Nat := 517
def theMethod : MethodId := ⟨1, 1⟩
def args0 : Array Value := #[.int 32, .int 7, .int 1, .int 3, .int 1]
def aboutOver (below : List Frame) : State where
  vm := { classes := classes, interned := interned.toArray }
  heap := heap
  slotsUsed := slotsUsed
  threads := #[{ frames := .invoking theMethod args0 :: below }]
def below0 : List Frame := [.native { method := ⟨0, 0⟩, args := #[] }]
def about1 : State := aboutOver below0
def p0 : Program := .bare "" "" ""
def e0 : Env := launch0.env 0 0 0
theorem w_frames : about1.frames = Frame.invoking theMethod args0 :: below0 := rfl
set_option maxRecDepth 65536 in
theorem w_args : argsFit about1.vm theMethod args0 = true := by decide +kernel
set_option maxRecDepth 65536 in
theorem w_heap : heapFits about1 = true := by decide +kernel
set_option maxRecDepth 65536 in
theorem w_runnable : about1.curStatus? = some .runnable := by decide +kernel
set_option maxRecDepth 65536 in
theorem w_alone : about1.alone = true := by decide +kernel
set_option maxRecDepth 65536 in
theorem w_named : about1.methodNamed? x = some theMethod := by decide +kernel
set_option maxRecDepth 65536 in
theorem w_hears : about1.hears theMethod below0 = true := by decide +kernel
set_option maxRecDepth 65536 in
theorem w_ripe : about1.ripe theMethod args0 below0 = true := by decide +kernel
theorem w_running : about1.status = .running := rfl
set_option maxRecDepth 65536 in
theorem w_room : about1.hasRoom e0.platform room_1 = true :=
  launch0.hasRoom_least _ room_1 (by decide +kernel) (by decide +kernel) (by decide +kernel) (by decide +kernel) (by decide +kernel) (by decide +kernel)
theorem allAtoms_all (ts : List Jvm.Cond) (a : Array Jvm.Value) (st : Jvm.State) : (allAtoms ts).before a st = ts.all (fun c => c.before a st) := by
  induction ts with
  | nil => rfl
  | cons c t ih =>
    show (Jvm.Cond.and c (allAtoms t)).before a st = _
    rw [Jvm.Cond.before_and, ih, List.all_cons]
def words1 : List Jvm.Cond := Jvm.Cond.code x code maxLocals ret :: tables_1
/-- a 'code' word, met by the world's own term for the bytes: nothing is compared byte by byte -/
theorem code_word {y : MethodName} {bytes : ByteArray} {mx : Nat} {rt : Option FieldType} {a : Array Value} {s : State} {m : MethodId} {meth : Method} {c : Code} (h1 : s.methodNamed? y = some m) (h2 : s.vm.method? m = some meth) (h3 : meth.code = some c) (h4 : c.code = bytes)
    (h5 : (c.maxLocals == mx && c.exceptionTable.isEmpty && decide (c.maxStack ≤ mostOperands) && decide (meth.sig.returnType = rt) && !meth.locks && decide (parseMethodDescriptor y.desc = some meth.sig)) = true) : (Jvm.Cond.code y bytes mx rt).before a s = true := by
  simp only [Bool.and_eq_true, beq_iff_eq, Bool.not_eq_true', decide_eq_true_eq] at h5
  obtain ⟨⟨⟨⟨⟨g1, g2⟩, g3⟩, g4⟩, g5⟩, g6⟩ := h5
  simp [Cond.before, Cond.holds, Cond.value, h1, h2, h3, h4, g1, g2, g3, g4, g5, g6]
def isCode : Jvm.Cond → Bool
  | .code _ _ _ _ => true
  | _ => false
theorem all_split {L : List Jvm.Cond} {P : Jvm.Cond → Bool} (h1 : L.all (fun c => isCode c || P c) = true) (h2 : ∀ c ∈ L.filter isCode, P c = true) : L.all P = true := by
  refine List.all_eq_true.mpr fun c hc => ?_
  have h := List.all_eq_true.mp h1 c hc
  rcases Bool.eq_false_or_eq_true (isCode c) with hi | hi
  · exact h2 c (List.mem_filter.mpr ⟨hc, hi⟩)
  · simpa [hi] using h
set_option maxRecDepth 65536 in
theorem w_c0 : (Jvm.Cond.code x code maxLocals ret).before args0 about1 = true := code_word (m := ⟨1, 1⟩) (meth := k1m1) (c := k1c1) (by decide +kernel) rfl rfl rfl (by decide +kernel)
set_option maxRecDepth 65536 in
theorem w_c1 : (Jvm.Cond.code ({ cls := "java/lang/Math", name := "max", desc := "(II)I" } : Jvm.MethodName) jdk_29_method_65_code (2 : Nat) (Option.some Jvm.ClassFile.FieldType.int)).before args0 about1 = true := code_word (m := ⟨2, 1⟩) (meth := k2m1) (c := k2c1) (by decide +kernel) rfl rfl rfl (by decide +kernel)
set_option maxRecDepth 65536 in
theorem w_c2 : (Jvm.Cond.code ({ cls := "com/example/unimeth/unimeth/reader/Position", name := "<init>", desc := "(II)V" } : Jvm.MethodName) prog_38_method_1_code (3 : Nat) (Option.none : Option Jvm.ClassFile.FieldType)).before args0 about1 = true := code_word (m := ⟨3, 0⟩) (meth := k3m0) (c := k3c0) (by decide +kernel) rfl rfl rfl (by decide +kernel)
set_option maxRecDepth 65536 in
theorem w_c3 : (Jvm.Cond.code ({ cls := "java/lang/Object", name := "<init>", desc := "()V" } : Jvm.MethodName) object_method_1_code (1 : Nat) (Option.none : Option Jvm.ClassFile.FieldType)).before args0 about1 = true := code_word (m := ⟨0, 0⟩) (meth := k0m0) (c := k0c0) (by decide +kernel) rfl rfl rfl (by decide +kernel)
set_option maxRecDepth 65536 in
theorem w_c4 : (Jvm.Cond.code ({ cls := "com/example/unimeth/unimeth/reader/Position", name := "equals", desc := "(Ljava/lang/Object;)Z" } : Jvm.MethodName) prog_38_method_4_code (3 : Nat) (Option.some Jvm.ClassFile.FieldType.boolean)).before args0 about1 = true := code_word (m := ⟨3, 1⟩) (meth := k3m1) (c := k3c1) (by decide +kernel) rfl rfl rfl (by decide +kernel)
set_option maxRecDepth 65536 in
theorem w_c5 : (Jvm.Cond.code ({ cls := "java/lang/Integer", name := "valueOf", desc := "(I)Ljava/lang/Integer;" } : Jvm.MethodName) jdk_33_method_22_code (1 : Nat) (Option.some (Jvm.ClassFile.FieldType.object "java/lang/Integer"))).before args0 about1 = true := code_word (m := ⟨9, 0⟩) (meth := k9m0) (c := k9c0) (by decide +kernel) rfl rfl rfl (by decide +kernel)
set_option maxRecDepth 65536 in
theorem w_c6 : (Jvm.Cond.code ({ cls := "java/lang/Integer", name := "<init>", desc := "(I)V" } : Jvm.MethodName) jdk_33_method_23_code (2 : Nat) (Option.none : Option Jvm.ClassFile.FieldType)).before args0 about1 = true := code_word (m := ⟨9, 1⟩) (meth := k9m1) (c := k9c1) (by decide +kernel) rfl rfl rfl (by decide +kernel)
set_option maxRecDepth 65536 in
theorem w_c7 : (Jvm.Cond.code ({ cls := "java/lang/Number", name := "<init>", desc := "()V" } : Jvm.MethodName) jdk_18_method_1_code (1 : Nat) (Option.none : Option Jvm.ClassFile.FieldType)).before args0 about1 = true := code_word (m := ⟨5, 0⟩) (meth := k5m0) (c := k5c0) (by decide +kernel) rfl rfl rfl (by decide +kernel)
def codes1 : List Jvm.Cond := [Jvm.Cond.code x code maxLocals ret, Jvm.Cond.code ({ cls := "java/lang/Math", name := "max", desc := "(II)I" } : Jvm.MethodName) jdk_29_method_65_code (2 : Nat) (Option.some Jvm.ClassFile.FieldType.int), Jvm.Cond.code ({ cls := "com/example/unimeth/unimeth/reader/Position", name := "<init>", desc := "(II)V" } : Jvm.MethodName) prog_38_method_1_code (3 : Nat) (Option.none : Option Jvm.ClassFile.FieldType), Jvm.Cond.code ({ cls := "java/lang/Object", name := "<init>", desc := "()V" } : Jvm.MethodName) object_method_1_code (1 : Nat) (Option.none : Option Jvm.ClassFile.FieldType), Jvm.Cond.code ({ cls := "com/example/unimeth/unimeth/reader/Position", name := "equals", desc := "(Ljava/lang/Object;)Z" } : Jvm.MethodName) prog_38_method_4_code (3 : Nat) (Option.some Jvm.ClassFile.FieldType.boolean), Jvm.Cond.code ({ cls := "java/lang/Integer", name := "valueOf", desc := "(I)Ljava/lang/Integer;" } : Jvm.MethodName) jdk_33_method_22_code (1 : Nat) (Option.some (Jvm.ClassFile.FieldType.object "java/lang/Integer")), Jvm.Cond.code ({ cls := "java/lang/Integer", name := "<init>", desc := "(I)V" } : Jvm.MethodName) jdk_33_method_23_code (2 : Nat) (Option.none : Option Jvm.ClassFile.FieldType), Jvm.Cond.code ({ cls := "java/lang/Number", name := "<init>", desc := "()V" } : Jvm.MethodName) jdk_18_method_1_code (1 : Nat) (Option.none : Option Jvm.ClassFile.FieldType)]
set_option maxRecDepth 65536 in
theorem codes_eq : words1.filter isCode = codes1 := rfl
theorem w_codes : ∀ c ∈ words1.filter isCode, c.before args0 about1 = true := by
  rw [codes_eq]
  intro c hc
  simp only [codes1, List.mem_cons, List.not_mem_nil, or_false] at hc
  rcases hc with rfl | rfl | rfl | rfl | rfl | rfl | rfl | rfl
  · exact w_c0
  · exact w_c1
  · exact w_c2
  · exact w_c3
  · exact w_c4
  · exact w_c5
  · exact w_c6
  · exact w_c7
set_option maxRecDepth 65536 in
theorem w_t1 : (words1.take 24).all (fun c => isCode c || c.before args0 about1) = true := by decide +kernel
set_option maxRecDepth 65536 in
theorem w_t2 : ((words1.drop 24).take 24).all (fun c => isCode c || c.before args0 about1) = true := by decide +kernel
set_option maxRecDepth 65536 in
theorem w_t3 : ((words1.drop 24).drop 24).all (fun c => isCode c || c.before args0 about1) = true := by decide +kernel
theorem w_tables : (allAtoms (Jvm.Cond.code x code maxLocals ret :: tables_1)).before args0 about1 = true := by
  rw [allAtoms_all]
  show words1.all (fun c => c.before args0 about1) = true
  refine all_split ?_ w_codes
  rw [← List.take_append_drop 24 words1, List.all_append, w_t1, ← List.take_append_drop 24 (words1.drop 24), List.all_append, w_t2, w_t3]
  rfl
set_option maxRecDepth 65536 in
theorem w_rest : rest_1_c.before args0 about1 = true := by decide +kernel
set_option maxRecDepth 65536 in
theorem w_case : (Jvm.Cond.and given_1 narrow_1).before args0 about1 = true := by decide +kernel
theorem w_applies : (headSpec (Jvm.Cond.code x code maxLocals ret :: tables_1) room_1).applies x e0.platform about1 = true :=
  (Spec.applies_iff w_frames).mpr ⟨w_running, w_runnable, w_alone, w_named, w_hears, w_ripe, w_room, w_tables⟩
theorem atStart : AtStart classFile x code maxLocals ret World_1 tables_1 room_1 Calls_1 rest_1 Pre_1 launch0 p0 e0 about1 theMethod args0 below0 :=
  ⟨lists_1, trivial, launch0.admits_env _ _ _, launch0.least_env, fairChoices_fair.cas, fairChoices_fair.clock, w_frames, w_args, w_heap, w_applies, trivial, w_rest, w_case⟩
end start1
theorem witness_1 : WitnessClaimed_1 := ⟨start1.p0, start1.e0, start1.about1, start1.theMethod, start1.args0, start1.below0, start1.atStart⟩
end Jvm.Pilot.@@N@@
