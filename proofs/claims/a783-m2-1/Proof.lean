import JvmDerived
import JvmDerived.Pilot.@@N@@Statement
import JvmDerived.Pilot.@@N@@Code
set_option linter.unusedVariables false
set_option linter.unusedSimpArgs false
@@BLOCK:NumsL.lean.txt@@
namespace Jvm.RoadKit
open Sem ClassFile Op Lib Jvm.Stand Jvm.Free Jvm.LawKit
section New
variable {p : Program} {l : Launch} {e : Env} {R : Room} {s : State} {m : MethodId} {args : Array Value} {below : List Frame} {meth : Method} {c : Code} {T : State} {locs : List Loc} {cells slots : Nat}
theorem retI (X : Stand p l e R s m args below meth c T locs cells slots) (hx : p.tables.exec = Jvm.exec) {pc : Nat} {Ls : Array Slot} {z : Int32} {rest : List Value} (hret : meth.sig.returnType = some .int) (hd : decode c.code pc = .ok (.ireturn, 1)) {fs : List Frame}
    (hl : ∀ (f : JFrame) (acts : List Action), f.method = m → f.locked = none → f.entered = [] → (doReturn e (T.setTop f) acts (some (.int z))).1 = T.setFrames fs) : Steps p.tables e below (T.setTop (mkF m pc Ls (.int z :: rest))) (T.setFrames fs) := by
  have hm' : T.vm.method? m = some meth := X.method'
  have hn : narrow .int (.int z) = .int z := rfl
  show Steps p.tables e below (T.setTop { method := m, pc := pc, locals := Ls, stack := _ :: rest, locked := none }) _
  jvm_step X.here [X.here.top, hx, hd, hm', hret, hn]
  first | (intro acts; rw [hl _ acts rfl rfl rfl]) | rw [hl _ _ rfl rfl rfl]
  exact Steps.refl _
/-- from U the run comes to its end, and Q holds there -/
def OwnEnds (p : Program) (e : Env) (below : List Frame) (Q : Outcome → State → Prop) (U : State) : Prop := ∃ s₂ o, Steps p.tables e below U s₂ ∧ s₂.status = .running ∧ Ended s₂ below o ∧ Q o s₂
theorem OwnEnds.pre {Q : Outcome → State → Prop} {U U' : State} (h : ∀ t, Steps p.tables e below U' t → Steps p.tables e below U t) (k : OwnEnds p e below Q U') : OwnEnds p e below Q U := by
  obtain ⟨s₂, o, h1, h2⟩ := k
  exact ⟨s₂, o, h _ h1, h2⟩
def OwnQ (s : State) (Q : Option Value → Heap → List Loc → Prop) (C S : Nat) : Outcome → State → Prop := fun o U' => ∃ v L, o = .returned v ∧ Q v U'.heap L ∧ FrameEnd s o U' L C S
theorem own_endI (X : Stand p l e R s m args below meth c T locs cells slots) (hx : p.tables.exec = Jvm.exec) (hlocks : meth.locks = false) {pc : Nat} {Ls : Array Slot} {z : Int32} {rest : List Value} (hret : meth.sig.returnType = some .int) (hd : decode c.code pc = .ok (.ireturn, 1))
    {Q : Option Value → Heap → List Loc → Prop} {C S : Nat} (hC : cells ≤ C) (hS : slots ≤ S) (hQ : Q (some (.int z)) T.heap locs) : OwnEnds p e below (OwnQ s Q C S) (T.setTop (mkF m pc Ls (.int z :: rest))) := by
  obtain ⟨fs, hr, hrun, hended, hW, hsame⟩ := X.leave (v := some (.int z)) (fun h => by rw [hret] at h; cases h) hlocks
  exact ⟨_, _, retI X hx hret hd hr, hrun, hended, _, _, rfl, hQ, ⟨_, rfl⟩, hW, hsame.mono hC hS⟩
theorem own_endN (X : Stand p l e R s m args below meth c T locs cells slots) (hx : p.tables.exec = Jvm.exec) (hlocks : meth.locks = false) {pc : Nat} {Ls : Array Slot} {z z' : Int32} {t : FieldType} {rest : List Value} (hret : meth.sig.returnType = some t) (ht : t = .boolean ∨ t = .byte ∨ t = .char ∨ t = .short) (hd : decode c.code pc = .ok (.ireturn, 1)) (hz : nar t z = z')
    {Q : Option Value → Heap → List Loc → Prop} {C S : Nat} (hC : cells ≤ C) (hS : slots ≤ S) (hQ : Q (some (.int z')) T.heap locs) : OwnEnds p e below (OwnQ s Q C S) (T.setTop (mkF m pc Ls (.int z :: rest))) := by
  subst hz
  obtain ⟨fs, hr, hrun, hended, hW, hsame⟩ := X.leave (v := some (.int (nar t z))) (fun h => by rw [hret] at h; cases h) hlocks
  exact ⟨_, _, retN X hx hret ht hd hr, hrun, hended, _, _, rfl, hQ, ⟨_, rfl⟩, hW, hsame.mono hC hS⟩
theorem own_endJ (X : Stand p l e R s m args below meth c T locs cells slots) (hx : p.tables.exec = Jvm.exec) (hlocks : meth.locks = false) {pc : Nat} {Ls : Array Slot} {z : Int64} (hret : meth.sig.returnType = some .long) (hd : decode c.code pc = .ok (.lreturn, 1))
    {Q : Option Value → Heap → List Loc → Prop} {C S : Nat} (hC : cells ≤ C) (hS : slots ≤ S) (hQ : Q (some (.long z)) T.heap locs) : OwnEnds p e below (OwnQ s Q C S) (T.setTop (mkF m pc Ls [.long z])) := by
  obtain ⟨fs, hr, hrun, hended, hW, hsame⟩ := X.leave (v := some (.long z)) (fun h => by rw [hret] at h; cases h) hlocks
  exact ⟨_, _, X.lreturnOut hx hret hd hr, hrun, hended, _, _, rfl, hQ, ⟨_, rfl⟩, hW, hsame.mono hC hS⟩
theorem own_endV (X : Stand p l e R s m args below meth c T locs cells slots) (hx : p.tables.exec = Jvm.exec) (hlocks : meth.locks = false) {pc : Nat} {Ls : Array Slot} (hret : meth.sig.returnType = none) (hd : decode c.code pc = .ok (.return_, 1))
    {Q : Option Value → Heap → List Loc → Prop} {C S : Nat} (hC : cells ≤ C) (hS : slots ≤ S) (hQ : Q none T.heap locs) : OwnEnds p e below (OwnQ s Q C S) (T.setTop (mkF m pc Ls [])) := by
  obtain ⟨fs, hr, hrun, hended, hW, hsame⟩ := X.leave (v := none) (fun _ => rfl) hlocks
  exact ⟨_, _, X.returnOut hx hret hd hr, hrun, hended, _, _, rfl, hQ, ⟨_, rfl⟩, hW, hsame.mono hC hS⟩
theorem own_endR (X : Stand p l e R s m args below meth c T locs cells slots) (hx : p.tables.exec = Jvm.exec) (hlocks : meth.locks = false) {pc : Nat} {Ls : Array Slot} {w : Value} {t : FieldType} {rest : List Value} (hret : meth.sig.returnType = some t) (ht : t.isReference = true) (hw : w.isRef = true) (hd : decode c.code pc = .ok (.areturn, 1))
    {Q : Option Value → Heap → List Loc → Prop} {C S : Nat} (hC : cells ≤ C) (hS : slots ≤ S) (hQ : Q (some w) T.heap locs) : OwnEnds p e below (OwnQ s Q C S) (T.setTop (mkF m pc Ls (w :: rest))) := by
  obtain ⟨fs, hr, hrun, hended, hW, hsame⟩ := X.leave (v := some w) (fun h => by rw [hret] at h; cases h) hlocks
  have hn : narrow t w = w := by cases t <;> first | rfl | (cases ht)
  exact ⟨_, _, retOut X hx hret hn (Or.inr (Or.inr (Or.inr (Or.inr ⟨rfl, ht, hw⟩)))) hd hr, hrun, hended, _, _, rfl, hQ, ⟨_, rfl⟩, hW, hsame.mono hC hS⟩
theorem own_getI (l : List Int32) (i : Nat) : (l.map Value.int).getD i (.int 0) = .int (l.getD i 0) := by
  simp only [List.getD_eq_getElem?_getD, List.getElem?_map]
  cases l[i]? <;> rfl
theorem own_getJ (l : List Int64) (i : Nat) : (l.map Value.long).getD i (.long 0) = .long (l.getD i 0) := by
  simp only [List.getD_eq_getElem?_getD, List.getElem?_map]
  cases l[i]? <;> rfl
theorem own_nin0 {a : Addr} : a ∉ ([] : List Addr) := List.not_mem_nil
theorem own_nin1 {a b : Addr} (h : a ≠ b) : a ∉ [b] := by simpa using h
theorem own_nin2 {a b c : Addr} (h : a ≠ b) (h' : a ≠ c) : a ∉ [b, c] := by simpa using ⟨h, h'⟩
theorem own_staK0 {Z : State} {h h' : Heap} {C n d : String} {v : Value} (F : Sta Z h C n d v) (K : Keep h h' []) : Sta Z h' C n d v := by
  obtain ⟨cf, i, k, f, st, cell, h1, h2, h3, h4, h5, h6, h7⟩ := F
  exact ⟨cf, i, k, f, st, cell, h1, h2, h3, h4, K.2.1 st cell h5 own_nin0, h6, h7⟩
theorem own_staK1 {Z : State} {h h' : Heap} {C n d D : String} {v : Value} {x : Addr} (F : Sta Z h C n d v) (K : Keep h h' [x]) (E : Exa Z h x D) : Sta Z h' C n d v := by
  obtain ⟨cf, i, k, f, st, cell, h1, h2, h3, h4, h5, h6, h7⟩ := F
  obtain ⟨cl, kk, e1, e2, e3, e4, e5⟩ := E
  refine ⟨cf, i, k, f, st, cell, h1, h2, h3, h4, K.2.1 st cell h5 (own_nin1 fun q => ?_), h6, h7⟩
  subst q
  cases h5.symm.trans e1
  rw [h6] at e4
  cases e4
theorem own_nsroot {Z : State} {a0 : Array Value} {O K : String} {n : Nat} (w : (Cond.noSuperclass O).before a0 Z = true) (wk : (Cond.instantiable K n).before a0 Z = true) (hn : O ≠ K) : NS Z O K := by
  obtain ⟨c, k, h1, h2, h3, -, -⟩ := Cond.noSuperclass_spec w
  obtain ⟨t, kt, g1, -⟩ := Cond.instantiable_spec wk
  have ne := ids_ne h1 g1 hn
  refine ⟨c, t, h1, g1, fun fuel => ?_⟩
  cases fuel with
  | zero => rfl
  | succ f => simp [Vm.isSubclassAux, ne, h2, h3]
theorem own_nsno {Z : State} {a0 : Array Value} {C S K : String} {n : Nat} (w : (Cond.superclass C S).before a0 Z = true) (wk : (Cond.instantiable K n).before a0 Z = true) (ns : NS Z C K) (hn : C ≠ K) : ∃ c t, Z.vm.findClass C = some c ∧ Z.vm.findClass K = some t ∧ Z.vm.assignable c t = false := by
  obtain ⟨c, t, h0, g0, n3⟩ := ns
  obtain ⟨p, k, kp, h1, h2, h3, h4, h5, -, h7⟩ := Cond.superclass_spec h0 w
  obtain ⟨t', kt, g1, g2, g3, g4, -⟩ := Cond.instantiable_spec wk
  cases g0.symm.trans g1
  have g7 : kt.isInterface = false := by simp only [Bool.or_eq_false_iff] at g4; exact g4.1
  have ne := ids_ne h0 g0 hn
  refine ⟨c, t, h0, g0, ?_⟩
  show Z.vm.assignableAux (255 + 1) c t = false
  simp [Vm.assignableAux, ne, h2, g2, h5, g3, g7, Vm.isSubclass, n3]
end New
end Jvm.RoadKit
namespace Jvm.Pilot.@@N@@
open Jvm Jvm.ClassFile Sem Op Lib Jvm.Free Jvm.Stand Jvm.LawKit Jvm.RoadKit Bundle Jvm.Pilot.@@N@@.Jvm.D
theorem d1_0 : decode prog_47_method_3_code 0 = .ok (.iload_n 0, 1) := by decide +kernel
theorem d1_1 : decode prog_47_method_3_code 1 = .ok (.bipush 32, 2) := by decide +kernel
theorem d1_3 : decode prog_47_method_3_code 3 = .ok (.if_icmp .le 13, 3) := by decide +kernel
theorem d1_6 : decode prog_47_method_3_code 6 = .ok (.iload_n 0, 1) := by decide +kernel
theorem d1_7 : decode prog_47_method_3_code 7 = .ok (.bipush 126, 2) := by decide +kernel
theorem d1_9 : decode prog_47_method_3_code 9 = .ok (.if_icmp .gt 7, 3) := by decide +kernel
theorem d1_12 : decode prog_47_method_3_code 12 = .ok (.iconst 1, 1) := by decide +kernel
theorem d1_13 : decode prog_47_method_3_code 13 = .ok (.goto 4, 3) := by decide +kernel
theorem d1_16 : decode prog_47_method_3_code 16 = .ok (.iconst 0, 1) := by decide +kernel
theorem d1_17 : decode prog_47_method_3_code 17 = .ok (.ireturn, 1) := by decide +kernel
theorem ef_1 (m : MethodId) (p0 : Int32) : entryFrame m #[(.int p0)] 1 = mkF m 0 #[.val (.int p0)] [] := by first | (simp [entryFrame, mkF, argsToLocals, Value.category]; done) | rfl
theorem pn_0 : plainName "com/example/hellowire/hellowire/codec/VerbatimString" = true := by first | (simp [plainName, overriddenIn]; done) | decide +kernel
def f1_0 (p0 : Int32) : Int32 := (if (32 : Int32) < p0 then (if (126 : Int32) < p0 then (0 : Int32) else (1 : Int32)) else (0 : Int32))
def Q1 (Z : State) (p0 : Int32) (h0 : Heap) (n0 : Nat) (v : Option Value) (h : Heap) (L : List Loc) : Prop := v = some (.int (f1_0 p0)) ∧ Fr n0 L ∧ h = h0
set_option maxRecDepth 65536 in
set_option maxHeartbeats 40000000 in
theorem rm1 (l : Launch) (Z : State) (aZ : Array Value) (hw : ∀ d ∈ tables_1, d.before aZ Z = true) (ws : List Jvm.Cond) (p0 : Int32) (h0 : Heap) (n0 : Nat) (Z0 : n0 ≤ h0.size) :
    MetFree l (⟨"com/example/hellowire/hellowire/codec/VerbatimString", "isFormatCharacter", "(I)Z"⟩ : MethodName) (head1 (Jvm.Cond.code (⟨"com/example/hellowire/hellowire/codec/VerbatimString", "isFormatCharacter", "(I)Z"⟩ : MethodName) prog_47_method_3_code 1 (some .boolean) :: ws) ({ frames := 0, cells := 0, slots := 0, locals := 0 } : Room)) (fun a U => a = #[(.int p0)] ∧ Z.Warmed39 U.vm ∧ U.heap = h0) (fun _ _ _ _ _ => True) (fun _ U o U' => ∃ v L, o = .returned v ∧ Q1 Z p0 h0 n0 v U'.heap L ∧ FrameEnd U o U' L 0 0) := by
  refine MetFree.of_bodySF (plainFor_of_name pn_0) hisR ?_
  intro p e s m args below meth c s₁ Bd hml0 hP hK
  obtain ⟨rfl, hZ, hh⟩ := hP
  have hx := Bd.exec
  have hby := Bd.bytes
  have hml : c.maxLocals = 1 := hml0
  have hown : s.vm.findClass "com/example/hellowire/hellowire/codec/VerbatimString" = some m.cls := findClass_of_methodNamed Bd.named
  have hnm := (name_of_methodNamed Bd.named Bd.method).1
  have hlk := BodyLoose.notSynchronized Bd
  have X0 : Stand p l e ({ frames := 0, cells := 0, slots := 0, locals := 0 } : Room) s m #[(.int p0)] below meth c s₁ [] 0 0 := Stand.of_body Bd
  have e0 : s₁.heap = h0 := by rw [← hh, Bd.state]; rfl
  have N0 := Fr.nil n0
  have hk0 : 0 ≤ 0 := Nat.zero_le _
  have hn0 : 0 ≤ 0 := Nat.zero_le _
  show OwnEnds p e below (OwnQ s (Q1 Z p0 h0 n0) 0 0) (s₁.setTop (entryFrame m #[(.int p0)] 1))
  refine .pre (fun t k => castTop (ef_1 m p0) k) ?_
  have hF : f1_0 p0 = f1_0 p0 := rfl
  change (if (32 : Int32) < p0 then (if (126 : Int32) < p0 then (0 : Int32) else (1 : Int32)) else (0 : Int32)) = _ at hF
  show OwnEnds p e below _ (s₁.setTop (mkF m 0 #[.val (.int p0)] []))
  refine .pre (fun _ k => XS.iloadN X0.here hx rfl (hb hby d1_0) rfl k) ?_
  show OwnEnds p e below _ (s₁.setTop (mkF m 1 #[.val (.int p0)] [(.int p0)]))
  refine .pre (fun _ k => XS.bipush X0.here hx rfl (hb hby d1_1) k) ?_
  show OwnEnds p e below _ (s₁.setTop (mkF m 3 #[.val (.int p0)] [(.int (32 : Int32)), (.int p0)]))
  by_cases hc3 : (32 : Int32) < p0
  · rw [if_pos hc3] at hF
    refine .pre (fun _ k => XS.icmpNo X0.here hx rfl (hb hby d1_3) rfl (tlt hc3).2.2.2 k) ?_
    show OwnEnds p e below _ (s₁.setTop (mkF m 6 #[.val (.int p0)] []))
    refine .pre (fun _ k => XS.iloadN X0.here hx rfl (hb hby d1_6) rfl k) ?_
    show OwnEnds p e below _ (s₁.setTop (mkF m 7 #[.val (.int p0)] [(.int p0)]))
    refine .pre (fun _ k => XS.bipush X0.here hx rfl (hb hby d1_7) k) ?_
    show OwnEnds p e below _ (s₁.setTop (mkF m 9 #[.val (.int p0)] [(.int (126 : Int32)), (.int p0)]))
    by_cases hc9 : (126 : Int32) < p0
    · rw [if_pos hc9] at hF
      refine .pre (fun _ k => XS.icmpYes X0.here hx rfl (pc0 := 9) (pc' := 16) rfl (hb hby d1_9) rfl (tlt hc9).2.2.1 (by decide) (by decide) k) ?_
      show OwnEnds p e below _ (s₁.setTop (mkF m 16 #[.val (.int p0)] []))
      refine .pre (fun _ k => XS.iconst X0.here hx rfl (hb hby d1_16) k) ?_
      show OwnEnds p e below _ (s₁.setTop (mkF m 17 #[.val (.int p0)] [(.int (0 : Int32))]))
      exact own_endN X0 hx hlk (t := .boolean) Bd.returns (by simp) (hb hby d1_17) rfl hk0 hn0 ⟨congrArg (fun z => some (Value.int z)) hF, N0, e0⟩
    · rw [if_neg hc9] at hF
      refine .pre (fun _ k => XS.icmpNo X0.here hx rfl (hb hby d1_9) rfl (flt hc9).2.2.1 k) ?_
      show OwnEnds p e below _ (s₁.setTop (mkF m 12 #[.val (.int p0)] []))
      refine .pre (fun _ k => XS.iconst X0.here hx rfl (hb hby d1_12) k) ?_
      show OwnEnds p e below _ (s₁.setTop (mkF m 13 #[.val (.int p0)] [(.int (1 : Int32))]))
      refine .pre (fun _ k => XS.goto X0.here hx rfl (pc0 := 13) (pc' := 17) rfl (hb hby d1_13) (by decide) (by decide) k) ?_
      show OwnEnds p e below _ (s₁.setTop (mkF m 17 #[.val (.int p0)] [(.int (1 : Int32))]))
      exact own_endN X0 hx hlk (t := .boolean) Bd.returns (by simp) (hb hby d1_17) rfl hk0 hn0 ⟨congrArg (fun z => some (Value.int z)) hF, N0, e0⟩
  · rw [if_neg hc3] at hF
    refine .pre (fun _ k => XS.icmpYes X0.here hx rfl (pc0 := 3) (pc' := 16) rfl (hb hby d1_3) rfl (flt hc3).2.2.2 (by decide) (by decide) k) ?_
    show OwnEnds p e below _ (s₁.setTop (mkF m 16 #[.val (.int p0)] []))
    refine .pre (fun _ k => XS.iconst X0.here hx rfl (hb hby d1_16) k) ?_
    show OwnEnds p e below _ (s₁.setTop (mkF m 17 #[.val (.int p0)] [(.int (0 : Int32))]))
    exact own_endN X0 hx hlk (t := .boolean) Bd.returns (by simp) (hb hby d1_17) rfl hk0 hn0 ⟨congrArg (fun z => some (Value.int z)) hF, N0, e0⟩
theorem d2_0 : decode method_3_code 0 = .ok (.iload_n 0, 1) := by decide +kernel
theorem d2_1 : decode method_3_code 1 = .ok (.bipush 32, 2) := by decide +kernel
theorem d2_3 : decode method_3_code 3 = .ok (.if_icmp .lt 13, 3) := by decide +kernel
theorem d2_6 : decode method_3_code 6 = .ok (.iload_n 0, 1) := by decide +kernel
theorem d2_7 : decode method_3_code 7 = .ok (.bipush 126, 2) := by decide +kernel
theorem d2_9 : decode method_3_code 9 = .ok (.if_icmp .gt 7, 3) := by decide +kernel
theorem d2_12 : decode method_3_code 12 = .ok (.iconst 1, 1) := by decide +kernel
theorem d2_13 : decode method_3_code 13 = .ok (.goto 4, 3) := by decide +kernel
theorem d2_16 : decode method_3_code 16 = .ok (.iconst 0, 1) := by decide +kernel
theorem d2_17 : decode method_3_code 17 = .ok (.istore_n 1, 1) := by decide +kernel
theorem d2_18 : decode method_3_code 18 = .ok (.iload_n 1, 1) := by decide +kernel
theorem d2_19 : decode method_3_code 19 = .ok (.ifCond .eq 13, 3) := by decide +kernel
theorem d2_22 : decode method_3_code 22 = .ok (.iload_n 0, 1) := by decide +kernel
theorem d2_23 : decode method_3_code 23 = .ok (.bipush 32, 2) := by decide +kernel
theorem d2_25 : decode method_3_code 25 = .ok (.if_icmp .eq 7, 3) := by decide +kernel
theorem d2_28 : decode method_3_code 28 = .ok (.iconst 1, 1) := by decide +kernel
theorem d2_29 : decode method_3_code 29 = .ok (.goto 4, 3) := by decide +kernel
theorem d2_32 : decode method_3_code 32 = .ok (.iconst 0, 1) := by decide +kernel
theorem d2_33 : decode method_3_code 33 = .ok (.ireturn, 1) := by decide +kernel
theorem ef_2 (m : MethodId) (p0 : Int32) : entryFrame m #[(.int p0)] 2 = mkF m 0 #[.val (.int p0), .unset] [] := by first | (simp [entryFrame, mkF, argsToLocals, Value.category]; done) | rfl
theorem pn_1 : plainName "com/example/hellowire/hellowire/codec/VerbatimStringIsFormatCharacterPinLaw" = true := by first | (simp [plainName, overriddenIn]; done) | decide +kernel
def f2_17 (i0 : Int32) (t0 : Int32) : Int32 := (if t0 = (0 : Int32) then (0 : Int32) else (if i0 = (32 : Int32) then (0 : Int32) else (1 : Int32)))
def f2_16 (i0 : Int32) : Int32 := (f2_17 i0 (0 : Int32))
def f2_0 (p0 : Int32) : Int32 := (if p0 < (32 : Int32) then (f2_16 p0) else (if (126 : Int32) < p0 then (f2_16 p0) else (f2_17 p0 (1 : Int32))))
def Q2 (Z : State) (p0 : Int32) (h0 : Heap) (n0 : Nat) (v : Option Value) (h : Heap) (L : List Loc) : Prop := v = some (.int (f2_0 p0)) ∧ Fr n0 L ∧ h = h0
set_option maxRecDepth 65536 in
set_option maxHeartbeats 40000000 in
theorem rm2 (l : Launch) (Z : State) (aZ : Array Value) (hw : ∀ d ∈ tables_1, d.before aZ Z = true) (ws : List Jvm.Cond) (p0 : Int32) (h0 : Heap) (n0 : Nat) (Z0 : n0 ≤ h0.size) :
    MetFree l (⟨"com/example/hellowire/hellowire/codec/VerbatimStringIsFormatCharacterPinLaw", "expected", "(I)Z"⟩ : MethodName) (head1 (Jvm.Cond.code (⟨"com/example/hellowire/hellowire/codec/VerbatimStringIsFormatCharacterPinLaw", "expected", "(I)Z"⟩ : MethodName) method_3_code 2 (some .boolean) :: ws) ({ frames := 0, cells := 0, slots := 0, locals := 0 } : Room)) (fun a U => a = #[(.int p0)] ∧ Z.Warmed39 U.vm ∧ U.heap = h0) (fun _ _ _ _ _ => True) (fun _ U o U' => ∃ v L, o = .returned v ∧ Q2 Z p0 h0 n0 v U'.heap L ∧ FrameEnd U o U' L 0 0) := by
  refine MetFree.of_bodySF (plainFor_of_name pn_1) hisR ?_
  intro p e s m args below meth c s₁ Bd hml0 hP hK
  obtain ⟨rfl, hZ, hh⟩ := hP
  have hx := Bd.exec
  have hby := Bd.bytes
  have hml : c.maxLocals = 2 := hml0
  have hown : s.vm.findClass "com/example/hellowire/hellowire/codec/VerbatimStringIsFormatCharacterPinLaw" = some m.cls := findClass_of_methodNamed Bd.named
  have hnm := (name_of_methodNamed Bd.named Bd.method).1
  have hlk := BodyLoose.notSynchronized Bd
  have X0 : Stand p l e ({ frames := 0, cells := 0, slots := 0, locals := 0 } : Room) s m #[(.int p0)] below meth c s₁ [] 0 0 := Stand.of_body Bd
  have e0 : s₁.heap = h0 := by rw [← hh, Bd.state]; rfl
  have N0 := Fr.nil n0
  have hk0 : 0 ≤ 0 := Nat.zero_le _
  have hn0 : 0 ≤ 0 := Nat.zero_le _
  show OwnEnds p e below (OwnQ s (Q2 Z p0 h0 n0) 0 0) (s₁.setTop (entryFrame m #[(.int p0)] 2))
  refine .pre (fun t k => castTop (ef_2 m p0) k) ?_
  have B17 : ∀ (T : State) (L : List Loc) (k n : Nat) (X : Stand p l e ({ frames := 0, cells := 0, slots := 0, locals := 0 } : Room) s m #[(.int p0)] below meth c T L k n) (eT : T.heap = h0) (N : Fr n0 L) (hk : k ≤ 0) (hn : n ≤ 0) (i0 : Int32) (t0 : Int32), f2_17 i0 t0 = f2_0 p0 → OwnEnds p e below (OwnQ s (Q2 Z p0 h0 n0) 0 0) (T.setTop (mkF m 17 #[.val (.int i0), .unset] [(.int t0)])) := by
    intro T L k n X eT N hk hn i0 t0 hF
    change (if t0 = (0 : Int32) then (0 : Int32) else (if i0 = (32 : Int32) then (0 : Int32) else (1 : Int32))) = _ at hF
    show OwnEnds p e below _ (T.setTop (mkF m 17 #[.val (.int i0), .unset] [(.int t0)]))
    refine .pre (fun _ k => XS.istoreN X.here hx rfl (hb hby d2_17) rfl (l' := #[.val (.int i0), .val (.int t0)]) rfl k) ?_
    show OwnEnds p e below _ (T.setTop (mkF m 18 #[.val (.int i0), .val (.int t0)] []))
    refine .pre (fun _ k => XS.iloadN X.here hx rfl (hb hby d2_18) rfl k) ?_
    show OwnEnds p e below _ (T.setTop (mkF m 19 #[.val (.int i0), .val (.int t0)] [(.int t0)]))
    by_cases hc19 : t0 = (0 : Int32)
    · rw [if_pos hc19] at hF
      refine .pre (fun _ k => XS.ifYes X.here hx rfl (pc0 := 19) (pc' := 32) rfl (hb hby d2_19) rfl ((if0 _ _).trans (teq hc19).1) (by decide) (by decide) k) ?_
      show OwnEnds p e below _ (T.setTop (mkF m 32 #[.val (.int i0), .val (.int t0)] []))
      refine .pre (fun _ k => XS.iconst X.here hx rfl (hb hby d2_32) k) ?_
      show OwnEnds p e below _ (T.setTop (mkF m 33 #[.val (.int i0), .val (.int t0)] [(.int (0 : Int32))]))
      exact own_endN X hx hlk (t := .boolean) Bd.returns (by simp) (hb hby d2_33) rfl hk hn ⟨congrArg (fun z => some (Value.int z)) hF, N, eT⟩
    · rw [if_neg hc19] at hF
      refine .pre (fun _ k => XS.ifNo X.here hx rfl (hb hby d2_19) rfl ((if0 _ _).trans (feq hc19).1) k) ?_
      show OwnEnds p e below _ (T.setTop (mkF m 22 #[.val (.int i0), .val (.int t0)] []))
      refine .pre (fun _ k => XS.iloadN X.here hx rfl (hb hby d2_22) rfl k) ?_
      show OwnEnds p e below _ (T.setTop (mkF m 23 #[.val (.int i0), .val (.int t0)] [(.int i0)]))
      refine .pre (fun _ k => XS.bipush X.here hx rfl (hb hby d2_23) k) ?_
      show OwnEnds p e below _ (T.setTop (mkF m 25 #[.val (.int i0), .val (.int t0)] [(.int (32 : Int32)), (.int i0)]))
      by_cases hc25 : i0 = (32 : Int32)
      · rw [if_pos hc25] at hF
        refine .pre (fun _ k => XS.icmpYes X.here hx rfl (pc0 := 25) (pc' := 32) rfl (hb hby d2_25) rfl (teq hc25).1 (by decide) (by decide) k) ?_
        show OwnEnds p e below _ (T.setTop (mkF m 32 #[.val (.int i0), .val (.int t0)] []))
        refine .pre (fun _ k => XS.iconst X.here hx rfl (hb hby d2_32) k) ?_
        show OwnEnds p e below _ (T.setTop (mkF m 33 #[.val (.int i0), .val (.int t0)] [(.int (0 : Int32))]))
        exact own_endN X hx hlk (t := .boolean) Bd.returns (by simp) (hb hby d2_33) rfl hk hn ⟨congrArg (fun z => some (Value.int z)) hF, N, eT⟩
      · rw [if_neg hc25] at hF
        refine .pre (fun _ k => XS.icmpNo X.here hx rfl (hb hby d2_25) rfl (feq hc25).1 k) ?_
        show OwnEnds p e below _ (T.setTop (mkF m 28 #[.val (.int i0), .val (.int t0)] []))
        refine .pre (fun _ k => XS.iconst X.here hx rfl (hb hby d2_28) k) ?_
        show OwnEnds p e below _ (T.setTop (mkF m 29 #[.val (.int i0), .val (.int t0)] [(.int (1 : Int32))]))
        refine .pre (fun _ k => XS.goto X.here hx rfl (pc0 := 29) (pc' := 33) rfl (hb hby d2_29) (by decide) (by decide) k) ?_
        show OwnEnds p e below _ (T.setTop (mkF m 33 #[.val (.int i0), .val (.int t0)] [(.int (1 : Int32))]))
        exact own_endN X hx hlk (t := .boolean) Bd.returns (by simp) (hb hby d2_33) rfl hk hn ⟨congrArg (fun z => some (Value.int z)) hF, N, eT⟩
  have B16 : ∀ (T : State) (L : List Loc) (k n : Nat) (X : Stand p l e ({ frames := 0, cells := 0, slots := 0, locals := 0 } : Room) s m #[(.int p0)] below meth c T L k n) (eT : T.heap = h0) (N : Fr n0 L) (hk : k ≤ 0) (hn : n ≤ 0) (i0 : Int32), f2_16 i0 = f2_0 p0 → OwnEnds p e below (OwnQ s (Q2 Z p0 h0 n0) 0 0) (T.setTop (mkF m 16 #[.val (.int i0), .unset] [])) := by
    intro T L k n X eT N hk hn i0 hF
    change (f2_17 i0 (0 : Int32)) = _ at hF
    show OwnEnds p e below _ (T.setTop (mkF m 16 #[.val (.int i0), .unset] []))
    refine .pre (fun _ k => XS.iconst X.here hx rfl (hb hby d2_16) k) ?_
    exact B17 T _ _ _ X eT N hk hn i0 (0 : Int32) hF
  have hF : f2_0 p0 = f2_0 p0 := rfl
  change (if p0 < (32 : Int32) then (f2_16 p0) else (if (126 : Int32) < p0 then (f2_16 p0) else (f2_17 p0 (1 : Int32)))) = _ at hF
  show OwnEnds p e below _ (s₁.setTop (mkF m 0 #[.val (.int p0), .unset] []))
  refine .pre (fun _ k => XS.iloadN X0.here hx rfl (hb hby d2_0) rfl k) ?_
  show OwnEnds p e below _ (s₁.setTop (mkF m 1 #[.val (.int p0), .unset] [(.int p0)]))
  refine .pre (fun _ k => XS.bipush X0.here hx rfl (hb hby d2_1) k) ?_
  show OwnEnds p e below _ (s₁.setTop (mkF m 3 #[.val (.int p0), .unset] [(.int (32 : Int32)), (.int p0)]))
  by_cases hc3 : p0 < (32 : Int32)
  · rw [if_pos hc3] at hF
    refine .pre (fun _ k => XS.icmpYes X0.here hx rfl (pc0 := 3) (pc' := 16) rfl (hb hby d2_3) rfl (tlt hc3).1 (by decide) (by decide) k) ?_
    exact B16 s₁ _ _ _ X0 e0 N0 hk0 hn0 p0 hF
  · rw [if_neg hc3] at hF
    refine .pre (fun _ k => XS.icmpNo X0.here hx rfl (hb hby d2_3) rfl (flt hc3).1 k) ?_
    show OwnEnds p e below _ (s₁.setTop (mkF m 6 #[.val (.int p0), .unset] []))
    refine .pre (fun _ k => XS.iloadN X0.here hx rfl (hb hby d2_6) rfl k) ?_
    show OwnEnds p e below _ (s₁.setTop (mkF m 7 #[.val (.int p0), .unset] [(.int p0)]))
    refine .pre (fun _ k => XS.bipush X0.here hx rfl (hb hby d2_7) k) ?_
    show OwnEnds p e below _ (s₁.setTop (mkF m 9 #[.val (.int p0), .unset] [(.int (126 : Int32)), (.int p0)]))
    by_cases hc9 : (126 : Int32) < p0
    · rw [if_pos hc9] at hF
      refine .pre (fun _ k => XS.icmpYes X0.here hx rfl (pc0 := 9) (pc' := 16) rfl (hb hby d2_9) rfl (tlt hc9).2.2.1 (by decide) (by decide) k) ?_
      exact B16 s₁ _ _ _ X0 e0 N0 hk0 hn0 p0 hF
    · rw [if_neg hc9] at hF
      refine .pre (fun _ k => XS.icmpNo X0.here hx rfl (hb hby d2_9) rfl (flt hc9).2.2.1 k) ?_
      show OwnEnds p e below _ (s₁.setTop (mkF m 12 #[.val (.int p0), .unset] []))
      refine .pre (fun _ k => XS.iconst X0.here hx rfl (hb hby d2_12) k) ?_
      show OwnEnds p e below _ (s₁.setTop (mkF m 13 #[.val (.int p0), .unset] [(.int (1 : Int32))]))
      refine .pre (fun _ k => XS.goto X0.here hx rfl (pc0 := 13) (pc' := 17) rfl (hb hby d2_13) (by decide) (by decide) k) ?_
      exact B17 s₁ _ _ _ X0 e0 N0 hk0 hn0 p0 (1 : Int32) hF
theorem ef_0 (m : MethodId) (p0 : Int32) (p1 : Int32) : entryFrame m #[(.int p0), (.int p1)] maxLocals = mkF m 0 #[.val (.int p0), .val (.int p1), .unset, .unset, .unset, .unset] [] := by first | (simp [entryFrame, mkF, argsToLocals, Value.category, maxLocals]; done) | rfl
def own_edges (j : Int32) : Int32 := ([32, 126, 0, 127] : List Int32).getD j.toNatClampNeg 0
theorem own_and3 (x : Int32) : ¬ ((x &&& (3 : Int32)) < 0) ∧ (x &&& (3 : Int32)) < (4 : Int32) := by
  have e : (x &&& 3).toInt = x.toInt % 2 ^ 2 := Jvm.Kit.i32_mask x 3 (k := 2) (by decide) (by decide)
  have h4 : (4 : Int32).toInt = 4 := rfl
  have h0 : (0 : Int32).toInt = 0 := rfl
  rw [Int32.lt_iff_toInt_lt, Int32.lt_iff_toInt_lt, e, h4, h0]
  omega
theorem pd_2 : parseMethodDescriptor "(I)Z" = some ⟨[.int], some .boolean⟩ := by decide +kernel
def f0_71 (i4 : Int32) (t0 : Int32) : Int32 := (if i4 = (0 : Int32) then (0 : Int32) else (if t0 = (0 : Int32) then (0 : Int32) else (1 : Int32)))
def f0_53 (i3 : Int32) (t0 : Int32) : Int32 := (if (f1_0 i3) = (f2_0 i3) then (f0_71 t0 (1 : Int32)) else (f0_71 t0 (0 : Int32)))
def f0_37 (i0 : Int32) (i3 : Int32) : Int32 := (if (f1_0 i0) = (f2_0 i0) then (f0_53 i3 (1 : Int32)) else (f0_53 i3 (0 : Int32)))
def Q0 (Z : State) (p0 : Int32) (p1 : Int32) (h0 : Heap) (n0 : Nat) (v : Option Value) (h : Heap) (L : List Loc) : Prop := v = some (.int (f0_37 p0 (((own_edges (p1 &&& (3 : Int32))) + ((p1 >>> ((2 : Int32) &&& 31)) &&& (3 : Int32))) - (1 : Int32)))) ∧ Fr n0 L ∧ True
set_option maxRecDepth 65536 in
set_option maxHeartbeats 40000000 in
theorem rm0 (l : Launch) (Z : State) (aZ : Array Value) (hw : ∀ d ∈ tables_1, d.before aZ Z = true) (ws : List Jvm.Cond) (p0 : Int32) (p1 : Int32) (h0 : Heap) (n0 : Nat) (Z0 : n0 ≤ h0.size) :
    MetFree l x (head1 (Jvm.Cond.code x code maxLocals ret :: ws) room_1) (fun a U => a = #[(.int p0), (.int p1)] ∧ Z.Warmed39 U.vm ∧ U.heap = h0) (fun _ _ _ _ _ => True) (fun _ U o U' => ∃ v L, o = .returned v ∧ Q0 Z p0 p1 h0 n0 v U'.heap L ∧ FrameEnd U o U' L 16 128) := by
  refine MetFree.of_bodySF (plainFor_of_name pn_1) hisR ?_
  intro p e s m args below meth c s₁ Bd hml0 hP hK
  obtain ⟨rfl, hZ, hh⟩ := hP
  have hx := Bd.exec
  have hby := Bd.bytes
  have hml : c.maxLocals = 6 := hml0
  have hown : s.vm.findClass "com/example/hellowire/hellowire/codec/VerbatimStringIsFormatCharacterPinLaw" = some m.cls := findClass_of_methodNamed Bd.named
  have hnm := (name_of_methodNamed Bd.named Bd.method).1
  have hlk := BodyLoose.notSynchronized Bd
  have X0 : Stand p l e room_1 s m #[(.int p0), (.int p1)] below meth c s₁ [] 0 0 := Stand.of_body Bd
  have e0 : s₁.heap = h0 := by rw [← hh, Bd.state]; rfl
  have N0 := Fr.nil n0
  have hk0 : 0 ≤ 16 := Nat.zero_le _
  have hn0 : 0 ≤ 128 := Nat.zero_le _
  show OwnEnds p e below (OwnQ s (Q0 Z p0 p1 h0 n0) 16 128) (s₁.setTop (entryFrame m #[(.int p0), (.int p1)] maxLocals))
  refine .pre (fun t k => castTop (ef_0 m p0 p1) k) ?_
  show OwnEnds p e below _ (s₁.setTop (mkF m 0 #[.val (.int p0), .val (.int p1), .unset, .unset, .unset, .unset] []))
  refine .pre (fun _ k => XS.iconst X0.here hx rfl (hb hby at_0) k) ?_
  show OwnEnds p e below _ (s₁.setTop (mkF m 1 #[.val (.int p0), .val (.int p1), .unset, .unset, .unset, .unset] [(.int (4 : Int32))]))
  obtain ⟨T1, h1, kk1, X1, e1, E1, A1, st1⟩ := newP X0 hx hZ (hw _ (List.mem_of_getElem? (i := 0) rfl)) e0 (g := (mkF m 1 #[.val (.int p0), .val (.int p1), .unset, .unset, .unset, .unset] [(.int (4 : Int32))])) rfl (hb hby at_1) rfl (by decide) (cap := 4) (by decide) (by decide) (by decide) (by decide)
  obtain ⟨b1, g1⟩ : ∃ z, z = h0.size := ⟨_, rfl⟩
  rw [← g1] at A1 st1
  have V_b1 : Arv Z h1 b1 kk1 .int (4 : Int32) [(.int (0 : Int32)), (.int (0 : Int32)), (.int (0 : Int32)), (.int (0 : Int32))] (.int (0 : Int32)) := (Arv.new A1 (by decide)).pad (pad_rep [] (.int (0 : Int32)) 4)
  have g_b1 : n0 ≤ b1 := Nat.le_trans Z0 (Nat.le_of_eq g1.symm)
  refine .pre (fun _ k => st1 _ k) ?_
  show OwnEnds p e below _ (T1.setTop (mkF m 3 #[.val (.int p0), .val (.int p1), .unset, .unset, .unset, .unset] [(.ref b1)]))
  refine .pre (fun _ k => XS.dup X1.here hx rfl (hb hby at_3) rfl rfl k) ?_
  show OwnEnds p e below _ (T1.setTop (mkF m 4 #[.val (.int p0), .val (.int p1), .unset, .unset, .unset, .unset] [(.ref b1), (.ref b1)]))
  refine .pre (fun _ k => XS.iconst X1.here hx rfl (hb hby at_4) k) ?_
  show OwnEnds p e below _ (T1.setTop (mkF m 5 #[.val (.int p0), .val (.int p1), .unset, .unset, .unset, .unset] [(.int (0 : Int32)), (.ref b1), (.ref b1)]))
  refine .pre (fun _ k => XS.bipush X1.here hx rfl (hb hby at_5) k) ?_
  show OwnEnds p e below _ (T1.setTop (mkF m 7 #[.val (.int p0), .val (.int p1), .unset, .unset, .unset, .unset] [(.int (32 : Int32)), (.int (0 : Int32)), (.ref b1), (.ref b1)]))
  obtain ⟨cl2, Ar2, qa2, qs2, qn2, qh2, qg2⟩ := id V_b1
  have hin2 : ¬ ((0 : Int32) < 0 ∨ cl2.slots.size ≤ ((0 : Int32)).toNatClampNeg) := inb_of qs2 ⟨by decide, by decide⟩
  obtain ⟨T2, h2, X2, e2, W2, st2⟩ := stI X1 hx hZ e1 Ar2 (j := (0 : Int32)) hin2 (g := (mkF m 7 #[.val (.int p0), .val (.int p1), .unset, .unset, .unset, .unset] [(.int (32 : Int32)), (.int (0 : Int32)), (.ref b1), (.ref b1)])) rfl rfl (hb hby at_7)
  have V2 : Arv Z h2 b1 kk1 .int (4 : Int32) [(.int (32 : Int32)), (.int (0 : Int32)), (.int (0 : Int32)), (.int (0 : Int32))] (.int (0 : Int32)) := Arv.set Ar2 qa2 qs2 qn2 qh2 qg2 rfl W2 0 rfl (Nat.le_of_ble_eq_true rfl)
  have N2 := Fr.snoc X2 N0 g_b1
  refine .pre (fun _ k => st2 _ k) ?_
  show OwnEnds p e below _ (T2.setTop (mkF m 8 #[.val (.int p0), .val (.int p1), .unset, .unset, .unset, .unset] [(.ref b1)]))
  refine .pre (fun _ k => XS.dup X2.here hx rfl (hb hby at_8) rfl rfl k) ?_
  show OwnEnds p e below _ (T2.setTop (mkF m 9 #[.val (.int p0), .val (.int p1), .unset, .unset, .unset, .unset] [(.ref b1), (.ref b1)]))
  refine .pre (fun _ k => XS.iconst X2.here hx rfl (hb hby at_9) k) ?_
  show OwnEnds p e below _ (T2.setTop (mkF m 10 #[.val (.int p0), .val (.int p1), .unset, .unset, .unset, .unset] [(.int (1 : Int32)), (.ref b1), (.ref b1)]))
  refine .pre (fun _ k => XS.bipush X2.here hx rfl (hb hby at_10) k) ?_
  show OwnEnds p e below _ (T2.setTop (mkF m 12 #[.val (.int p0), .val (.int p1), .unset, .unset, .unset, .unset] [(.int (126 : Int32)), (.int (1 : Int32)), (.ref b1), (.ref b1)]))
  obtain ⟨cl3, Ar3, qa3, qs3, qn3, qh3, qg3⟩ := id V2
  have hin3 : ¬ ((1 : Int32) < 0 ∨ cl3.slots.size ≤ ((1 : Int32)).toNatClampNeg) := inb_of qs3 ⟨by decide, by decide⟩
  obtain ⟨T3, h3, X3, e3, W3, st3⟩ := stI X2 hx hZ e2 Ar3 (j := (1 : Int32)) hin3 (g := (mkF m 12 #[.val (.int p0), .val (.int p1), .unset, .unset, .unset, .unset] [(.int (126 : Int32)), (.int (1 : Int32)), (.ref b1), (.ref b1)])) rfl rfl (hb hby at_12)
  have V3 : Arv Z h3 b1 kk1 .int (4 : Int32) [(.int (32 : Int32)), (.int (126 : Int32)), (.int (0 : Int32)), (.int (0 : Int32))] (.int (0 : Int32)) := Arv.set Ar3 qa3 qs3 qn3 qh3 qg3 rfl W3 1 rfl (Nat.le_of_ble_eq_true rfl)
  have N3 := Fr.snoc X3 N2 g_b1
  refine .pre (fun _ k => st3 _ k) ?_
  show OwnEnds p e below _ (T3.setTop (mkF m 13 #[.val (.int p0), .val (.int p1), .unset, .unset, .unset, .unset] [(.ref b1)]))
  refine .pre (fun _ k => XS.dup X3.here hx rfl (hb hby at_13) rfl rfl k) ?_
  show OwnEnds p e below _ (T3.setTop (mkF m 14 #[.val (.int p0), .val (.int p1), .unset, .unset, .unset, .unset] [(.ref b1), (.ref b1)]))
  refine .pre (fun _ k => XS.iconst X3.here hx rfl (hb hby at_14) k) ?_
  show OwnEnds p e below _ (T3.setTop (mkF m 15 #[.val (.int p0), .val (.int p1), .unset, .unset, .unset, .unset] [(.int (2 : Int32)), (.ref b1), (.ref b1)]))
  refine .pre (fun _ k => XS.iconst X3.here hx rfl (hb hby at_15) k) ?_
  show OwnEnds p e below _ (T3.setTop (mkF m 16 #[.val (.int p0), .val (.int p1), .unset, .unset, .unset, .unset] [(.int (0 : Int32)), (.int (2 : Int32)), (.ref b1), (.ref b1)]))
  obtain ⟨cl4, Ar4, qa4, qs4, qn4, qh4, qg4⟩ := id V3
  have hin4 : ¬ ((2 : Int32) < 0 ∨ cl4.slots.size ≤ ((2 : Int32)).toNatClampNeg) := inb_of qs4 ⟨by decide, by decide⟩
  obtain ⟨T4, h4, X4, e4, W4, st4⟩ := stI X3 hx hZ e3 Ar4 (j := (2 : Int32)) hin4 (g := (mkF m 16 #[.val (.int p0), .val (.int p1), .unset, .unset, .unset, .unset] [(.int (0 : Int32)), (.int (2 : Int32)), (.ref b1), (.ref b1)])) rfl rfl (hb hby at_16)
  have V4 : Arv Z h4 b1 kk1 .int (4 : Int32) [(.int (32 : Int32)), (.int (126 : Int32)), (.int (0 : Int32)), (.int (0 : Int32))] (.int (0 : Int32)) := Arv.set Ar4 qa4 qs4 qn4 qh4 qg4 rfl W4 2 rfl (Nat.le_of_ble_eq_true rfl)
  have N4 := Fr.snoc X4 N3 g_b1
  refine .pre (fun _ k => st4 _ k) ?_
  show OwnEnds p e below _ (T4.setTop (mkF m 17 #[.val (.int p0), .val (.int p1), .unset, .unset, .unset, .unset] [(.ref b1)]))
  refine .pre (fun _ k => XS.dup X4.here hx rfl (hb hby at_17) rfl rfl k) ?_
  show OwnEnds p e below _ (T4.setTop (mkF m 18 #[.val (.int p0), .val (.int p1), .unset, .unset, .unset, .unset] [(.ref b1), (.ref b1)]))
  refine .pre (fun _ k => XS.iconst X4.here hx rfl (hb hby at_18) k) ?_
  show OwnEnds p e below _ (T4.setTop (mkF m 19 #[.val (.int p0), .val (.int p1), .unset, .unset, .unset, .unset] [(.int (3 : Int32)), (.ref b1), (.ref b1)]))
  refine .pre (fun _ k => XS.bipush X4.here hx rfl (hb hby at_19) k) ?_
  show OwnEnds p e below _ (T4.setTop (mkF m 21 #[.val (.int p0), .val (.int p1), .unset, .unset, .unset, .unset] [(.int (127 : Int32)), (.int (3 : Int32)), (.ref b1), (.ref b1)]))
  obtain ⟨cl5, Ar5, qa5, qs5, qn5, qh5, qg5⟩ := id V4
  have hin5 : ¬ ((3 : Int32) < 0 ∨ cl5.slots.size ≤ ((3 : Int32)).toNatClampNeg) := inb_of qs5 ⟨by decide, by decide⟩
  obtain ⟨T5, h5, X5, e5, W5, st5⟩ := stI X4 hx hZ e4 Ar5 (j := (3 : Int32)) hin5 (g := (mkF m 21 #[.val (.int p0), .val (.int p1), .unset, .unset, .unset, .unset] [(.int (127 : Int32)), (.int (3 : Int32)), (.ref b1), (.ref b1)])) rfl rfl (hb hby at_21)
  have V5 : Arv Z h5 b1 kk1 .int (4 : Int32) [(.int (32 : Int32)), (.int (126 : Int32)), (.int (0 : Int32)), (.int (127 : Int32))] (.int (0 : Int32)) := Arv.set Ar5 qa5 qs5 qn5 qh5 qg5 rfl W5 3 rfl (Nat.le_of_ble_eq_true rfl)
  have N5 := Fr.snoc X5 N4 g_b1
  refine .pre (fun _ k => st5 _ k) ?_
  show OwnEnds p e below _ (T5.setTop (mkF m 22 #[.val (.int p0), .val (.int p1), .unset, .unset, .unset, .unset] [(.ref b1)]))
  refine .pre (fun _ k => XS.astoreN X5.here hx rfl (hb hby at_22) rfl rfl (l' := #[.val (.int p0), .val (.int p1), .val (.ref b1), .unset, .unset, .unset]) rfl k) ?_
  show OwnEnds p e below _ (T5.setTop (mkF m 23 #[.val (.int p0), .val (.int p1), .val (.ref b1), .unset, .unset, .unset] []))
  refine .pre (fun _ k => XS.aloadN X5.here hx rfl (hb hby at_23) rfl rfl k) ?_
  show OwnEnds p e below _ (T5.setTop (mkF m 24 #[.val (.int p0), .val (.int p1), .val (.ref b1), .unset, .unset, .unset] [(.ref b1)]))
  refine .pre (fun _ k => XS.iloadN X5.here hx rfl (hb hby at_24) rfl k) ?_
  show OwnEnds p e below _ (T5.setTop (mkF m 25 #[.val (.int p0), .val (.int p1), .val (.ref b1), .unset, .unset, .unset] [(.int p1), (.ref b1)]))
  refine .pre (fun _ k => XS.iconst X5.here hx rfl (hb hby at_25) k) ?_
  show OwnEnds p e below _ (T5.setTop (mkF m 26 #[.val (.int p0), .val (.int p1), .val (.ref b1), .unset, .unset, .unset] [(.int (3 : Int32)), (.int p1), (.ref b1)]))
  refine .pre (fun _ k => XS.iand X5.here hx rfl (hb hby at_26) rfl k) ?_
  show OwnEnds p e below _ (T5.setTop (mkF m 27 #[.val (.int p0), .val (.int p1), .val (.ref b1), .unset, .unset, .unset] [(.int (p1 &&& (3 : Int32))), (.ref b1)]))
  obtain ⟨cl6, Ar6, qa6, qs6, qn6, qh6, qg6⟩ := id V5
  have hj6 : ¬ ((p1 &&& (3 : Int32)) < 0) ∧ (p1 &&& (3 : Int32)) < (4 : Int32) := own_and3 _
  have hin6 : ¬ ((p1 &&& (3 : Int32)) < 0 ∨ cl6.slots.size ≤ ((p1 &&& (3 : Int32))).toNatClampNeg) := inb_of qs6 hj6
  have hat6 : cl6.slots[((p1 &&& (3 : Int32))).toNatClampNeg]? = some (.int (own_edges (p1 &&& (3 : Int32)))) := (qh6 _ (Nat.lt_of_not_le fun y => hin6 (Or.inr y))).trans (congrArg some (own_getI [32, 126, 0, 127] _))
  refine .pre (fun _ k => X5.iaload hx (j := (p1 &&& (3 : Int32))) (v := (.int (own_edges (p1 &&& (3 : Int32))))) (by rw [e5]; exact Ar6.1) (State.isArrayOf_alike hZ.alike Ar6.2.1) Ar6.2.2 hin6 hat6 (g := (mkF m 27 #[.val (.int p0), .val (.int p1), .val (.ref b1), .unset, .unset, .unset] [(.int (p1 &&& (3 : Int32))), (.ref b1)])) rfl rfl (hb hby at_27) _ k) ?_
  show OwnEnds p e below _ (T5.setTop (mkF m 28 #[.val (.int p0), .val (.int p1), .val (.ref b1), .unset, .unset, .unset] [(.int (own_edges (p1 &&& (3 : Int32))))]))
  refine .pre (fun _ k => XS.iloadN X5.here hx rfl (hb hby at_28) rfl k) ?_
  show OwnEnds p e below _ (T5.setTop (mkF m 29 #[.val (.int p0), .val (.int p1), .val (.ref b1), .unset, .unset, .unset] [(.int p1), (.int (own_edges (p1 &&& (3 : Int32))))]))
  refine .pre (fun _ k => XS.iconst X5.here hx rfl (hb hby at_29) k) ?_
  show OwnEnds p e below _ (T5.setTop (mkF m 30 #[.val (.int p0), .val (.int p1), .val (.ref b1), .unset, .unset, .unset] [(.int (2 : Int32)), (.int p1), (.int (own_edges (p1 &&& (3 : Int32))))]))
  refine .pre (fun _ k => XS.ishr X5.here hx rfl (hb hby at_30) rfl k) ?_
  show OwnEnds p e below _ (T5.setTop (mkF m 31 #[.val (.int p0), .val (.int p1), .val (.ref b1), .unset, .unset, .unset] [(.int (p1 >>> ((2 : Int32) &&& 31))), (.int (own_edges (p1 &&& (3 : Int32))))]))
  refine .pre (fun _ k => XS.iconst X5.here hx rfl (hb hby at_31) k) ?_
  show OwnEnds p e below _ (T5.setTop (mkF m 32 #[.val (.int p0), .val (.int p1), .val (.ref b1), .unset, .unset, .unset] [(.int (3 : Int32)), (.int (p1 >>> ((2 : Int32) &&& 31))), (.int (own_edges (p1 &&& (3 : Int32))))]))
  refine .pre (fun _ k => XS.iand X5.here hx rfl (hb hby at_32) rfl k) ?_
  show OwnEnds p e below _ (T5.setTop (mkF m 33 #[.val (.int p0), .val (.int p1), .val (.ref b1), .unset, .unset, .unset] [(.int ((p1 >>> ((2 : Int32) &&& 31)) &&& (3 : Int32))), (.int (own_edges (p1 &&& (3 : Int32))))]))
  refine .pre (fun _ k => XS.iadd X5.here hx rfl (hb hby at_33) rfl k) ?_
  show OwnEnds p e below _ (T5.setTop (mkF m 34 #[.val (.int p0), .val (.int p1), .val (.ref b1), .unset, .unset, .unset] [(.int ((own_edges (p1 &&& (3 : Int32))) + ((p1 >>> ((2 : Int32) &&& 31)) &&& (3 : Int32))))]))
  refine .pre (fun _ k => XS.iconst X5.here hx rfl (hb hby at_34) k) ?_
  show OwnEnds p e below _ (T5.setTop (mkF m 35 #[.val (.int p0), .val (.int p1), .val (.ref b1), .unset, .unset, .unset] [(.int (1 : Int32)), (.int ((own_edges (p1 &&& (3 : Int32))) + ((p1 >>> ((2 : Int32) &&& 31)) &&& (3 : Int32))))]))
  refine .pre (fun _ k => XS.isub X5.here hx rfl (hb hby at_35) rfl k) ?_
  show OwnEnds p e below _ (T5.setTop (mkF m 36 #[.val (.int p0), .val (.int p1), .val (.ref b1), .unset, .unset, .unset] [(.int (((own_edges (p1 &&& (3 : Int32))) + ((p1 >>> ((2 : Int32) &&& 31)) &&& (3 : Int32))) - (1 : Int32)))]))
  refine .pre (fun _ k => XS.istoreN X5.here hx rfl (hb hby at_36) rfl (l' := #[.val (.int p0), .val (.int p1), .val (.ref b1), .val (.int (((own_edges (p1 &&& (3 : Int32))) + ((p1 >>> ((2 : Int32) &&& 31)) &&& (3 : Int32))) - (1 : Int32))), .unset, .unset]) rfl k) ?_
  have B71 : ∀ (T : State) (L : List Loc) (k n : Nat) (X : Stand p l e room_1 s m #[(.int p0), (.int p1)] below meth c T L k n) (eT : T.heap = h5) (N : Fr n0 L) (hk : k ≤ 16) (hn : n ≤ 128) (i0 : Int32) (i1 : Int32) (i3 : Int32) (i4 : Int32) (t0 : Int32), f0_71 i4 t0 = f0_37 p0 (((own_edges (p1 &&& (3 : Int32))) + ((p1 >>> ((2 : Int32) &&& 31)) &&& (3 : Int32))) - (1 : Int32)) → OwnEnds p e below (OwnQ s (Q0 Z p0 p1 h0 n0) 16 128) (T.setTop (mkF m 71 #[.val (.int i0), .val (.int i1), .val (.ref b1), .val (.int i3), .val (.int i4), .unset] [(.int t0)])) := by
    intro T L k n X eT N hk hn i0 i1 i3 i4 t0 hF
    change (if i4 = (0 : Int32) then (0 : Int32) else (if t0 = (0 : Int32) then (0 : Int32) else (1 : Int32))) = _ at hF
    show OwnEnds p e below _ (T.setTop (mkF m 71 #[.val (.int i0), .val (.int i1), .val (.ref b1), .val (.int i3), .val (.int i4), .unset] [(.int t0)]))
    refine .pre (fun _ k => XS.istore X.here hx rfl (hb hby at_71) rfl (l' := #[.val (.int i0), .val (.int i1), .val (.ref b1), .val (.int i3), .val (.int i4), .val (.int t0)]) rfl k) ?_
    show OwnEnds p e below _ (T.setTop (mkF m 73 #[.val (.int i0), .val (.int i1), .val (.ref b1), .val (.int i3), .val (.int i4), .val (.int t0)] []))
    refine .pre (fun _ k => XS.iload X.here hx rfl (hb hby at_73) rfl k) ?_
    show OwnEnds p e below _ (T.setTop (mkF m 75 #[.val (.int i0), .val (.int i1), .val (.ref b1), .val (.int i3), .val (.int i4), .val (.int t0)] [(.int i4)]))
    by_cases hc75 : i4 = (0 : Int32)
    · rw [if_pos hc75] at hF
      refine .pre (fun _ k => XS.ifYes X.here hx rfl (pc0 := 75) (pc' := 87) rfl (hb hby at_75) rfl ((if0 _ _).trans (teq hc75).1) (by decide) (by decide) k) ?_
      show OwnEnds p e below _ (T.setTop (mkF m 87 #[.val (.int i0), .val (.int i1), .val (.ref b1), .val (.int i3), .val (.int i4), .val (.int t0)] []))
      refine .pre (fun _ k => XS.iconst X.here hx rfl (hb hby at_87) k) ?_
      show OwnEnds p e below _ (T.setTop (mkF m 88 #[.val (.int i0), .val (.int i1), .val (.ref b1), .val (.int i3), .val (.int i4), .val (.int t0)] [(.int (0 : Int32))]))
      exact own_endN X hx hlk (t := .boolean) Bd.returns (by simp) (hb hby at_88) rfl hk hn ⟨congrArg (fun z => some (Value.int z)) hF, N, trivial⟩
    · rw [if_neg hc75] at hF
      refine .pre (fun _ k => XS.ifNo X.here hx rfl (hb hby at_75) rfl ((if0 _ _).trans (feq hc75).1) k) ?_
      show OwnEnds p e below _ (T.setTop (mkF m 78 #[.val (.int i0), .val (.int i1), .val (.ref b1), .val (.int i3), .val (.int i4), .val (.int t0)] []))
      refine .pre (fun _ k => XS.iload X.here hx rfl (hb hby at_78) rfl k) ?_
      show OwnEnds p e below _ (T.setTop (mkF m 80 #[.val (.int i0), .val (.int i1), .val (.ref b1), .val (.int i3), .val (.int i4), .val (.int t0)] [(.int t0)]))
      by_cases hc80 : t0 = (0 : Int32)
      · rw [if_pos hc80] at hF
        refine .pre (fun _ k => XS.ifYes X.here hx rfl (pc0 := 80) (pc' := 87) rfl (hb hby at_80) rfl ((if0 _ _).trans (teq hc80).1) (by decide) (by decide) k) ?_
        show OwnEnds p e below _ (T.setTop (mkF m 87 #[.val (.int i0), .val (.int i1), .val (.ref b1), .val (.int i3), .val (.int i4), .val (.int t0)] []))
        refine .pre (fun _ k => XS.iconst X.here hx rfl (hb hby at_87) k) ?_
        show OwnEnds p e below _ (T.setTop (mkF m 88 #[.val (.int i0), .val (.int i1), .val (.ref b1), .val (.int i3), .val (.int i4), .val (.int t0)] [(.int (0 : Int32))]))
        exact own_endN X hx hlk (t := .boolean) Bd.returns (by simp) (hb hby at_88) rfl hk hn ⟨congrArg (fun z => some (Value.int z)) hF, N, trivial⟩
      · rw [if_neg hc80] at hF
        refine .pre (fun _ k => XS.ifNo X.here hx rfl (hb hby at_80) rfl ((if0 _ _).trans (feq hc80).1) k) ?_
        show OwnEnds p e below _ (T.setTop (mkF m 83 #[.val (.int i0), .val (.int i1), .val (.ref b1), .val (.int i3), .val (.int i4), .val (.int t0)] []))
        refine .pre (fun _ k => XS.iconst X.here hx rfl (hb hby at_83) k) ?_
        show OwnEnds p e below _ (T.setTop (mkF m 84 #[.val (.int i0), .val (.int i1), .val (.ref b1), .val (.int i3), .val (.int i4), .val (.int t0)] [(.int (1 : Int32))]))
        refine .pre (fun _ k => XS.goto X.here hx rfl (pc0 := 84) (pc' := 88) rfl (hb hby at_84) (by decide) (by decide) k) ?_
        show OwnEnds p e below _ (T.setTop (mkF m 88 #[.val (.int i0), .val (.int i1), .val (.ref b1), .val (.int i3), .val (.int i4), .val (.int t0)] [(.int (1 : Int32))]))
        exact own_endN X hx hlk (t := .boolean) Bd.returns (by simp) (hb hby at_88) rfl hk hn ⟨congrArg (fun z => some (Value.int z)) hF, N, trivial⟩
  have B53 : ∀ (T : State) (L : List Loc) (k n : Nat) (X : Stand p l e room_1 s m #[(.int p0), (.int p1)] below meth c T L k n) (eT : T.heap = h5) (N : Fr n0 L) (hk : k ≤ 16) (hn : n ≤ 128) (i0 : Int32) (i1 : Int32) (i3 : Int32) (t0 : Int32), f0_53 i3 t0 = f0_37 p0 (((own_edges (p1 &&& (3 : Int32))) + ((p1 >>> ((2 : Int32) &&& 31)) &&& (3 : Int32))) - (1 : Int32)) → OwnEnds p e below (OwnQ s (Q0 Z p0 p1 h0 n0) 16 128) (T.setTop (mkF m 53 #[.val (.int i0), .val (.int i1), .val (.ref b1), .val (.int i3), .unset, .unset] [(.int t0)])) := by
    intro T L k n X eT N hk hn i0 i1 i3 t0 hF
    change (if (f1_0 i3) = (f2_0 i3) then (f0_71 t0 (1 : Int32)) else (f0_71 t0 (0 : Int32))) = _ at hF
    show OwnEnds p e below _ (T.setTop (mkF m 53 #[.val (.int i0), .val (.int i1), .val (.ref b1), .val (.int i3), .unset, .unset] [(.int t0)]))
    refine .pre (fun _ k => XS.istore X.here hx rfl (hb hby at_53) rfl (l' := #[.val (.int i0), .val (.int i1), .val (.ref b1), .val (.int i3), .val (.int t0), .unset]) rfl k) ?_
    show OwnEnds p e below _ (T.setTop (mkF m 55 #[.val (.int i0), .val (.int i1), .val (.ref b1), .val (.int i3), .val (.int t0), .unset] []))
    refine .pre (fun _ k => XS.iloadN X.here hx rfl (hb hby at_55) rfl k) ?_
    show OwnEnds p e below _ (T.setTop (mkF m 56 #[.val (.int i0), .val (.int i1), .val (.ref b1), .val (.int i3), .val (.int t0), .unset] [(.int i3)]))
    obtain ⟨_, _, ⟨T11, L11, k11, n11⟩, -, X11, ⟨Lc11, hQ11, l11, y11, z11⟩, st11⟩ := Jvm.LawKit.callS X hx (y := (⟨"com/example/hellowire/hellowire/codec/VerbatimString", "isFormatCharacter", "(I)Z"⟩ : MethodName)) hown (mvT hZ (hw _ (List.mem_of_getElem? (i := 1) rfl))) (mvT hZ (hw _ (List.mem_of_getElem? (i := 2) rfl))) (mvT hZ (hw _ (List.mem_of_getElem? (i := 3) rfl))) (mvT hZ (hw _ (List.mem_of_getElem? (i := 4) rfl))) (by decide) (backOf (W := 0) (rm1 l Z aZ hw [] i3 h5 n0 (Nat.le_trans (Nat.le_trans (Nat.le_trans (Nat.le_trans (Nat.le_trans Z0 E1.1) (Keep.of_wr W2).1) (Keep.of_wr W3).1) (Keep.of_wr W4).1) (Keep.of_wr W5).1)) hZ (hw _ (List.mem_of_getElem? (i := 4) rfl)) (hw _ (List.mem_of_getElem? (i := 3) rfl)) (by decide) (by decide)) (g := (mkF m 56 #[.val (.int i0), .val (.int i1), .val (.ref b1), .val (.int i3), .val (.int t0), .unset] [(.int i3)])) rfl (by rw [hml]; rfl) (argsL := [(.int i3)]) (rest := []) (lenOf pd_2 rfl) rfl (by show 2 * 0 + _ ≤ _; exact Nat.le_of_eq rfl) (hb hby at_56) (fun _ _ => ⟨rfl, eT, Nat.le_trans (Nat.add_le_add_right hk 0) (by decide : 16 + 0 ≤ _), Nat.le_trans (Nat.add_le_add_right hn 0) (by decide : 128 + 0 ≤ _)⟩)
    dsimp only [Pt.U, Pt.locs, Pt.cells, Pt.slots] at X11 l11 y11 z11 st11 hQ11
    subst l11 y11 z11
    obtain ⟨rfl, N11q, e11⟩ := hQ11
    have N11 := Fr.app N N11q
    refine .pre (fun _ k => st11 _ k) ?_
    show OwnEnds p e below _ (T11.setTop (mkF m 59 #[.val (.int i0), .val (.int i1), .val (.ref b1), .val (.int i3), .val (.int t0), .unset] [(.int (f1_0 i3))]))
    refine .pre (fun _ k => XS.iloadN X11.here hx rfl (hb hby at_59) rfl k) ?_
    show OwnEnds p e below _ (T11.setTop (mkF m 60 #[.val (.int i0), .val (.int i1), .val (.ref b1), .val (.int i3), .val (.int t0), .unset] [(.int i3), (.int (f1_0 i3))]))
    obtain ⟨_, _, ⟨T12, L12, k12, n12⟩, -, X12, ⟨Lc12, hQ12, l12, y12, z12⟩, st12⟩ := Jvm.LawKit.callS X11 hx (y := (⟨"com/example/hellowire/hellowire/codec/VerbatimStringIsFormatCharacterPinLaw", "expected", "(I)Z"⟩ : MethodName)) hown (mvT hZ (hw _ (List.mem_of_getElem? (i := 5) rfl))) (mvT hZ (hw _ (List.mem_of_getElem? (i := 6) rfl))) (mvT hZ (hw _ (List.mem_of_getElem? (i := 7) rfl))) (mvT hZ (hw _ (List.mem_of_getElem? (i := 8) rfl))) (by decide) (backOf (W := 1) (rm2 l Z aZ hw [] i3 h5 n0 (Nat.le_trans (Nat.le_trans (Nat.le_trans (Nat.le_trans (Nat.le_trans Z0 E1.1) (Keep.of_wr W2).1) (Keep.of_wr W3).1) (Keep.of_wr W4).1) (Keep.of_wr W5).1)) hZ (hw _ (List.mem_of_getElem? (i := 8) rfl)) (hw _ (List.mem_of_getElem? (i := 7) rfl)) (by decide) (by decide)) (g := (mkF m 60 #[.val (.int i0), .val (.int i1), .val (.ref b1), .val (.int i3), .val (.int t0), .unset] [(.int i3), (.int (f1_0 i3))])) rfl (by rw [hml]; rfl) (argsL := [(.int i3)]) (rest := [(.int (f1_0 i3))]) (lenOf pd_2 rfl) rfl (by show 2 * 0 + _ ≤ _; exact Nat.le_of_eq rfl) (hb hby at_60) (fun _ _ => ⟨rfl, e11, Nat.le_trans (Nat.add_le_add_right hk 0) (by decide : 16 + 0 ≤ _), Nat.le_trans (Nat.add_le_add_right hn 0) (by decide : 128 + 0 ≤ _)⟩)
    dsimp only [Pt.U, Pt.locs, Pt.cells, Pt.slots] at X12 l12 y12 z12 st12 hQ12
    subst l12 y12 z12
    obtain ⟨rfl, N12q, e12⟩ := hQ12
    have N12 := Fr.app N11 N12q
    refine .pre (fun _ k => st12 _ k) ?_
    show OwnEnds p e below _ (T12.setTop (mkF m 63 #[.val (.int i0), .val (.int i1), .val (.ref b1), .val (.int i3), .val (.int t0), .unset] [(.int (f2_0 i3)), (.int (f1_0 i3))]))
    by_cases hc63 : (f1_0 i3) = (f2_0 i3)
    · rw [if_pos hc63] at hF
      refine .pre (fun _ k => XS.icmpNo X12.here hx rfl (hb hby at_63) rfl (teq hc63).2 k) ?_
      show OwnEnds p e below _ (T12.setTop (mkF m 66 #[.val (.int i0), .val (.int i1), .val (.ref b1), .val (.int i3), .val (.int t0), .unset] []))
      refine .pre (fun _ k => XS.iconst X12.here hx rfl (hb hby at_66) k) ?_
      show OwnEnds p e below _ (T12.setTop (mkF m 67 #[.val (.int i0), .val (.int i1), .val (.ref b1), .val (.int i3), .val (.int t0), .unset] [(.int (1 : Int32))]))
      refine .pre (fun _ k => XS.goto X12.here hx rfl (pc0 := 67) (pc' := 71) rfl (hb hby at_67) (by decide) (by decide) k) ?_
      exact B71 T12 _ _ _ X12 e12 N12 hk hn i0 i1 i3 t0 (1 : Int32) hF
    · rw [if_neg hc63] at hF
      refine .pre (fun _ k => XS.icmpYes X12.here hx rfl (pc0 := 63) (pc' := 70) rfl (hb hby at_63) rfl (feq hc63).2 (by decide) (by decide) k) ?_
      show OwnEnds p e below _ (T12.setTop (mkF m 70 #[.val (.int i0), .val (.int i1), .val (.ref b1), .val (.int i3), .val (.int t0), .unset] []))
      refine .pre (fun _ k => XS.iconst X12.here hx rfl (hb hby at_70) k) ?_
      exact B71 T12 _ _ _ X12 e12 N12 hk hn i0 i1 i3 t0 (0 : Int32) hF
  have B37 : ∀ (T : State) (L : List Loc) (k n : Nat) (X : Stand p l e room_1 s m #[(.int p0), (.int p1)] below meth c T L k n) (eT : T.heap = h5) (N : Fr n0 L) (hk : k ≤ 16) (hn : n ≤ 128) (i0 : Int32) (i1 : Int32) (i3 : Int32), f0_37 i0 i3 = f0_37 p0 (((own_edges (p1 &&& (3 : Int32))) + ((p1 >>> ((2 : Int32) &&& 31)) &&& (3 : Int32))) - (1 : Int32)) → OwnEnds p e below (OwnQ s (Q0 Z p0 p1 h0 n0) 16 128) (T.setTop (mkF m 37 #[.val (.int i0), .val (.int i1), .val (.ref b1), .val (.int i3), .unset, .unset] [])) := by
    intro T L k n X eT N hk hn i0 i1 i3 hF
    change (if (f1_0 i0) = (f2_0 i0) then (f0_53 i3 (1 : Int32)) else (f0_53 i3 (0 : Int32))) = _ at hF
    show OwnEnds p e below _ (T.setTop (mkF m 37 #[.val (.int i0), .val (.int i1), .val (.ref b1), .val (.int i3), .unset, .unset] []))
    refine .pre (fun _ k => XS.iloadN X.here hx rfl (hb hby at_37) rfl k) ?_
    show OwnEnds p e below _ (T.setTop (mkF m 38 #[.val (.int i0), .val (.int i1), .val (.ref b1), .val (.int i3), .unset, .unset] [(.int i0)]))
    obtain ⟨_, _, ⟨T13, L13, k13, n13⟩, -, X13, ⟨Lc13, hQ13, l13, y13, z13⟩, st13⟩ := Jvm.LawKit.callS X hx (y := (⟨"com/example/hellowire/hellowire/codec/VerbatimString", "isFormatCharacter", "(I)Z"⟩ : MethodName)) hown (mvT hZ (hw _ (List.mem_of_getElem? (i := 1) rfl))) (mvT hZ (hw _ (List.mem_of_getElem? (i := 2) rfl))) (mvT hZ (hw _ (List.mem_of_getElem? (i := 3) rfl))) (mvT hZ (hw _ (List.mem_of_getElem? (i := 4) rfl))) (by decide) (backOf (W := 0) (rm1 l Z aZ hw [] i0 h5 n0 (Nat.le_trans (Nat.le_trans (Nat.le_trans (Nat.le_trans (Nat.le_trans Z0 E1.1) (Keep.of_wr W2).1) (Keep.of_wr W3).1) (Keep.of_wr W4).1) (Keep.of_wr W5).1)) hZ (hw _ (List.mem_of_getElem? (i := 4) rfl)) (hw _ (List.mem_of_getElem? (i := 3) rfl)) (by decide) (by decide)) (g := (mkF m 38 #[.val (.int i0), .val (.int i1), .val (.ref b1), .val (.int i3), .unset, .unset] [(.int i0)])) rfl (by rw [hml]; rfl) (argsL := [(.int i0)]) (rest := []) (lenOf pd_2 rfl) rfl (by show 2 * 0 + _ ≤ _; exact Nat.le_of_eq rfl) (hb hby at_38) (fun _ _ => ⟨rfl, eT, Nat.le_trans (Nat.add_le_add_right hk 0) (by decide : 16 + 0 ≤ _), Nat.le_trans (Nat.add_le_add_right hn 0) (by decide : 128 + 0 ≤ _)⟩)
    dsimp only [Pt.U, Pt.locs, Pt.cells, Pt.slots] at X13 l13 y13 z13 st13 hQ13
    subst l13 y13 z13
    obtain ⟨rfl, N13q, e13⟩ := hQ13
    have N13 := Fr.app N N13q
    refine .pre (fun _ k => st13 _ k) ?_
    show OwnEnds p e below _ (T13.setTop (mkF m 41 #[.val (.int i0), .val (.int i1), .val (.ref b1), .val (.int i3), .unset, .unset] [(.int (f1_0 i0))]))
    refine .pre (fun _ k => XS.iloadN X13.here hx rfl (hb hby at_41) rfl k) ?_
    show OwnEnds p e below _ (T13.setTop (mkF m 42 #[.val (.int i0), .val (.int i1), .val (.ref b1), .val (.int i3), .unset, .unset] [(.int i0), (.int (f1_0 i0))]))
    obtain ⟨_, _, ⟨T14, L14, k14, n14⟩, -, X14, ⟨Lc14, hQ14, l14, y14, z14⟩, st14⟩ := Jvm.LawKit.callS X13 hx (y := (⟨"com/example/hellowire/hellowire/codec/VerbatimStringIsFormatCharacterPinLaw", "expected", "(I)Z"⟩ : MethodName)) hown (mvT hZ (hw _ (List.mem_of_getElem? (i := 5) rfl))) (mvT hZ (hw _ (List.mem_of_getElem? (i := 6) rfl))) (mvT hZ (hw _ (List.mem_of_getElem? (i := 7) rfl))) (mvT hZ (hw _ (List.mem_of_getElem? (i := 8) rfl))) (by decide) (backOf (W := 1) (rm2 l Z aZ hw [] i0 h5 n0 (Nat.le_trans (Nat.le_trans (Nat.le_trans (Nat.le_trans (Nat.le_trans Z0 E1.1) (Keep.of_wr W2).1) (Keep.of_wr W3).1) (Keep.of_wr W4).1) (Keep.of_wr W5).1)) hZ (hw _ (List.mem_of_getElem? (i := 8) rfl)) (hw _ (List.mem_of_getElem? (i := 7) rfl)) (by decide) (by decide)) (g := (mkF m 42 #[.val (.int i0), .val (.int i1), .val (.ref b1), .val (.int i3), .unset, .unset] [(.int i0), (.int (f1_0 i0))])) rfl (by rw [hml]; rfl) (argsL := [(.int i0)]) (rest := [(.int (f1_0 i0))]) (lenOf pd_2 rfl) rfl (by show 2 * 0 + _ ≤ _; exact Nat.le_of_eq rfl) (hb hby at_42) (fun _ _ => ⟨rfl, e13, Nat.le_trans (Nat.add_le_add_right hk 0) (by decide : 16 + 0 ≤ _), Nat.le_trans (Nat.add_le_add_right hn 0) (by decide : 128 + 0 ≤ _)⟩)
    dsimp only [Pt.U, Pt.locs, Pt.cells, Pt.slots] at X14 l14 y14 z14 st14 hQ14
    subst l14 y14 z14
    obtain ⟨rfl, N14q, e14⟩ := hQ14
    have N14 := Fr.app N13 N14q
    refine .pre (fun _ k => st14 _ k) ?_
    show OwnEnds p e below _ (T14.setTop (mkF m 45 #[.val (.int i0), .val (.int i1), .val (.ref b1), .val (.int i3), .unset, .unset] [(.int (f2_0 i0)), (.int (f1_0 i0))]))
    by_cases hc45 : (f1_0 i0) = (f2_0 i0)
    · rw [if_pos hc45] at hF
      refine .pre (fun _ k => XS.icmpNo X14.here hx rfl (hb hby at_45) rfl (teq hc45).2 k) ?_
      show OwnEnds p e below _ (T14.setTop (mkF m 48 #[.val (.int i0), .val (.int i1), .val (.ref b1), .val (.int i3), .unset, .unset] []))
      refine .pre (fun _ k => XS.iconst X14.here hx rfl (hb hby at_48) k) ?_
      show OwnEnds p e below _ (T14.setTop (mkF m 49 #[.val (.int i0), .val (.int i1), .val (.ref b1), .val (.int i3), .unset, .unset] [(.int (1 : Int32))]))
      refine .pre (fun _ k => XS.goto X14.here hx rfl (pc0 := 49) (pc' := 53) rfl (hb hby at_49) (by decide) (by decide) k) ?_
      exact B53 T14 _ _ _ X14 e14 N14 hk hn i0 i1 i3 (1 : Int32) hF
    · rw [if_neg hc45] at hF
      refine .pre (fun _ k => XS.icmpYes X14.here hx rfl (pc0 := 45) (pc' := 52) rfl (hb hby at_45) rfl (feq hc45).2 (by decide) (by decide) k) ?_
      show OwnEnds p e below _ (T14.setTop (mkF m 52 #[.val (.int i0), .val (.int i1), .val (.ref b1), .val (.int i3), .unset, .unset] []))
      refine .pre (fun _ k => XS.iconst X14.here hx rfl (hb hby at_52) k) ?_
      exact B53 T14 _ _ _ X14 e14 N14 hk hn i0 i1 i3 (0 : Int32) hF
  exact B37 T5 _ _ _ X5 e5 N5 (by decide) (by decide) p0 p1 (((own_edges (p1 &&& (3 : Int32))) + ((p1 >>> ((2 : Int32) &&& 31)) &&& (3 : Int32))) - (1 : Int32)) rfl
theorem own_b1 (v : Int32) : (f1_0 v = 1 ∧ (32 < v.toInt ∧ v.toInt ≤ 126)) ∨ (f1_0 v = 0 ∧ ¬ (32 < v.toInt ∧ v.toInt ≤ 126)) := by
  simp only [f1_0]
  repeat' split
  all_goals first | (refine Or.inl ⟨rfl, ?_⟩; simp only [Int32.lt_iff_toInt_lt, ← Int32.toInt_inj, Int32.reduceToInt] at *; omega) | (refine Or.inr ⟨rfl, ?_⟩; simp only [Int32.lt_iff_toInt_lt, ← Int32.toInt_inj, Int32.reduceToInt] at *; omega)
theorem own_17a (v : Int32) : f2_17 v 1 = if v = 32 then 0 else 1 := by simp [f2_17]
theorem own_17b (v : Int32) : f2_17 v 0 = 0 := by simp [f2_17]
theorem own_b2 (v : Int32) : (f2_0 v = 1 ∧ (32 < v.toInt ∧ v.toInt ≤ 126)) ∨ (f2_0 v = 0 ∧ ¬ (32 < v.toInt ∧ v.toInt ≤ 126)) := by
  simp only [f2_0, f2_16, own_17a, own_17b]
  repeat' split
  all_goals first | (refine Or.inl ⟨rfl, ?_⟩; simp only [Int32.lt_iff_toInt_lt, ← Int32.toInt_inj, Int32.reduceToInt] at *; omega) | (refine Or.inr ⟨rfl, ?_⟩; simp only [Int32.lt_iff_toInt_lt, ← Int32.toInt_inj, Int32.reduceToInt] at *; omega)
theorem own_law (c e : Int32) : f0_37 c e = 1 := by
  have h : ∀ x : Int32, f1_0 x = f2_0 x := by
    intro x
    rcases own_b1 x with ⟨e1, h1⟩ | ⟨e1, h1⟩ <;> rcases own_b2 x with ⟨e2, h2⟩ | ⟨e2, h2⟩ <;> first | (rw [e1, e2]; done) | (exact absurd h1 h2) | (exact absurd h2 h1)
  simp [f0_37, f0_53, f0_71, h]
set_option maxRecDepth 65536 in
set_option maxHeartbeats 40000000 in
theorem comes_1 {Post : Tables → Env → Array Value → State → Outcome → State → Prop} (hpost : ∀ tb e args s v u, (limb_1_1.after args s (.returned v) u = true ∧ limb_1_2.after args s (.returned v) u = true ∧ True) → FrameEnd s (.returned v) u (Jvm.fieldLocs frame_1_writes args s ++ Jvm.arrayLocs frame_1_arrays args s ++ Jvm.staticLocs frame_1_statics s) 16 128 → Post tb e args s (.returned v) u) :
    ArmFor flags0 classFile x code maxLocals ret World_1 tables_1 room_1 Calls_1 rest_1 Pre_1 Post := by
  intro l hfl _ _ p e ha hc hk s m args below hf hA hF happ hP
  obtain ⟨hcalls, hrest, hpre⟩ := hP
  obtain ⟨-, -, -, hnamed, -, -, -, hat⟩ := (Spec.applies_iff hf).mp happ
  obtain ⟨hg, hn⟩ := and_e (Cond.before_iff.mp (show (Jvm.Cond.and given_1 narrow_1).before args s = true from hpre))
  obtain ⟨hcount, hg0⟩ := and_e hg
  obtain ⟨ha0, hg1⟩ := and_e hg0
  have ha1 := hg1
  obtain ⟨w0, w1, rfl⟩ : ∃ w0 w1 : Value, args = #[w0, w1] := by
    have hs : args.size = 2 := by simpa [Cond.value, given_1] using hcount
    obtain ⟨L⟩ := args
    match L, hs with
    | [w0, w1], _ => exact ⟨w0, w1, rfl⟩
  have hw := fun d (hd : d ∈ tables_1) => atoms_spec (ws := Jvm.Cond.code x code maxLocals ret :: tables_1) hat d (List.mem_cons_of_mem _ hd)
  have hfit : Fit s := fun {y c} hc i hi => by
    obtain ⟨ha, rfl⟩ := Array.getElem?_eq_some_iff.mp hc
    have q := List.all_eq_true.mp ((Array.all_eq_true_iff_forall_mem.mp hF) _ (Array.getElem_mem ha)) i (List.mem_range.mpr hi)
    simpa [Array.getElem?_eq_getElem hi] using q
  obtain ⟨i0, ei0⟩ := is_v ha0
  obtain rfl : w0 = (.int i0) := Option.some.inj ei0
  obtain ⟨i1, ei1⟩ := is_v ha1
  obtain rfl : w1 = (.int i1) := Option.some.inj ei1
  obtain ⟨n, o, h1, h2, h3, _, L, rfl, ⟨hv, N, -⟩, hq⟩ := rm0 l s _ hw tables_1 i0 i1  s.heap s.heap.size (Nat.le_refl _)  p e ha hc hk s m _ below hf ((Spec.applies_iff_loose hf).mp happ).1 ⟨rfl, State.Warmed39.refl s, rfl⟩ trivial
  rw [own_law] at hv
  subst hv
  refine ⟨n, _, h1, h2, h3, hpost _ _ _ _ _ _ ⟨Cond.after_iff.mpr rfl, Cond.after_iff.mpr (eq_i res_at (Term.int_eval (1)) rfl), trivial⟩ ⟨hq.1, hq.2.1, (hq.2.2.sift fun y hy => Or.inr (N y hy)).mono (by decide) (by decide)⟩⟩
theorem main_1_1 : Claimed_1_1 := comes_1 fun _ _ _ _ _ _ h hF => ⟨h.1, hF⟩
theorem main_1_2 : Claimed_1_2 := comes_1 fun _ _ _ _ _ _ h hF => ⟨h.2.1, hF⟩
end Jvm.Pilot.@@N@@
namespace Jvm.Pilot.@@N@@
open Jvm Jvm.ClassFile Sem Op Lib Jvm.Free Jvm.Stand Jvm.Pilot.@@N@@.Jvm.D
/-! MADE BY PROGRAM (witnessworld.py) out of the Statement's table words and the real class files: 10 classes; the members and pool entries that the words name. The judged class is class 1, her method 1. -/
namespace start1
open Jvm.ClassFile
def u (s : String) : CpInfo := .utf8 (stringToUtf16 s)
/-- a pool by its gaps: so many unusable entries, then the entry; so many at the end -/
def gap : Nat → List CpInfo → List CpInfo
  | 0, r => r
  | n + 1, r => .unusable :: gap n r
def poolList (es : List (Nat × CpInfo)) (last : Nat) : List CpInfo := es.foldr (fun e r => gap e.1 (e.2 :: r)) (gap last [])
def pool (es : List (Nat × CpInfo)) (last : Nat) : Array CpInfo := ⟨poolList es last⟩
def fileOf (pool : Array CpInfo) (this : Nat) (attrs : Array Attribute := #[]) (ms : Array MethodInfo := #[]) (fl : Nat := 33) (sup : Nat := 0) (ifs : Array Nat := #[]) (fds : Array FieldInfo := #[]) : ClassFile where
  minorVersion := 0
  majorVersion := 65
  constantPool := pool
  accessFlags := fl
  thisClass := this
  superClass := sup
  interfaces := ifs
  fields := fds
  methods := ms
  attributes := attrs
def plain (name : String) (sup : Option ClassId) : Class where
  name := name
  kind := .ordinary
  loader := none
  accessFlags := 33
  super := sup
  interfaces := #[]
  cf := none
  fields := #[]
  methods := #[]
  instanceTypes := #[]
  staticTypes := #[]
  resolved := #[]
  callSites := []
  init := .initialized
  statics := none
  mirror := none

def pool0 : Array CpInfo := pool [(5, u "<init>"), (0, u "()V"), (1, .class_ 10), (1, u "java/lang/Object")] 113

def k0m0 : Method := { name := "<init>", desc := "()V", sig := { parameters := [], returnType := none }, accessFlags := 1, code := none }
/-- java/lang/Object -/
def k0 : Class := { plain "java/lang/Object" none with
  accessFlags := 33
  interfaces := #[]
  cf := some (fileOf pool0 8 #[] #[{ accessFlags := 1, nameIndex := 5, descriptorIndex := 6, attributes := #[] }] 33 0 #[] #[])
  fields := #[]
  methods := #[k0m0]
  instanceTypes := #[]
  staticTypes := #[]
  resolved := Array.replicate 124 none
  statics := none }

def pool1 : Array CpInfo := pool [(2, .class_ 4), (1, u "java/lang/Object"), (0, u "<init>"), (0, u "()V"), (0, .methodref 8 9), (0, .class_ 10), (0, .nameAndType 11 12), (0, u "com/example/hellowire/hellowire/codec/VerbatimString"), (0, u "isFormatCharacter"), (0, u "(I)Z"), (0, .methodref 14 15), (0, .class_ 16), (0, .nameAndType 17 12), (0, u "com/example/hellowire/hellowire/codec/VerbatimStringIsFormatCharacterPinLaw"), (0, u "expected"), (2, u "law"), (0, u "(II)Z")] 5

def k1m0 : Method := { name := "<init>", desc := "()V", sig := { parameters := [], returnType := none }, accessFlags := 1, code := none }
def k1c1 : Code := { maxStack := 4, maxLocals := 6, code := code, exceptionTable := #[], attributes := #[] }
def k1m1 : Method := { name := "law", desc := "(II)Z", sig := { parameters := [.int, .int], returnType := some .boolean }, accessFlags := 9, code := some k1c1 }
def k1c2 : Code := { maxStack := 2, maxLocals := 2, code := method_3_code, exceptionTable := #[], attributes := #[] }
def k1m2 : Method := { name := "expected", desc := "(I)Z", sig := { parameters := [.int], returnType := some .boolean }, accessFlags := 10, code := some k1c2 }
/-- com/example/hellowire/hellowire/codec/VerbatimStringIsFormatCharacterPinLaw -/
def k1 : Class := { plain "com/example/hellowire/hellowire/codec/VerbatimStringIsFormatCharacterPinLaw" (some 0) with
  accessFlags := 49
  interfaces := #[]
  cf := some (fileOf pool1 14 #[] #[{ accessFlags := 1, nameIndex := 5, descriptorIndex := 6, attributes := #[] }, { accessFlags := 9, nameIndex := 20, descriptorIndex := 21, attributes := #[] }, { accessFlags := 10, nameIndex := 17, descriptorIndex := 12, attributes := #[] }] 49 2 #[] #[])
  fields := #[]
  methods := #[k1m0, k1m1, k1m2]
  instanceTypes := #[]
  staticTypes := #[]
  resolved := Array.replicate 27 none
  statics := none }

def pool2 : Array CpInfo := pool [(1, .class_ 2), (0, u "java/lang/Cloneable"), (0, .class_ 4), (0, u "java/lang/Object")] 2

/-- java/lang/Cloneable -/
def k2 : Class := { plain "java/lang/Cloneable" (some 0) with
  accessFlags := 1537
  interfaces := #[]
  cf := some (fileOf pool2 1 #[] #[] 1537 3 #[] #[])
  fields := #[]
  methods := #[]
  instanceTypes := #[]
  staticTypes := #[]
  resolved := Array.replicate 7 none
  statics := none }

def pool3 : Array CpInfo := pool [(2, .class_ 4), (1, u "java/lang/Object"), (0, u "<init>"), (0, u "()V"), (7, .class_ 16), (1, u "com/example/hellowire/hellowire/codec/RespValue"), (0, u "attributes"), (0, u "Ljava/util/List;"), (46, .class_ 66), (0, u "java/lang/Cloneable")] 50

def k3m0 : Method := { name := "<init>", desc := "()V", sig := { parameters := [], returnType := none }, accessFlags := 1, code := none }
/-- com/example/hellowire/hellowire/codec/RespValue -/
def k3 : Class := { plain "com/example/hellowire/hellowire/codec/RespValue" (some 0) with
  accessFlags := 1057
  interfaces := #[2]
  cf := some (fileOf pool3 14 #[] #[{ accessFlags := 1, nameIndex := 5, descriptorIndex := 6, attributes := #[] }] 1057 2 #[65] #[{ accessFlags := 2, nameIndex := 17, descriptorIndex := 18, attributes := #[] }])
  fields := #[{ name := "attributes", type := (.object "java/util/List"), accessFlags := 2, slot := 0, constantValue := 0 }]
  methods := #[k3m0]
  instanceTypes := #[(.object "java/util/List")]
  staticTypes := #[]
  resolved := Array.replicate 117 none
  statics := none }

def pool4 : Array CpInfo := pool [(2, .class_ 4), (1, u "com/example/hellowire/hellowire/codec/VerbatimString"), (7, .class_ 14), (1, u "com/example/hellowire/hellowire/codec/RespValue"), (3, u "format"), (0, u "Ljava/lang/String;"), (8, u "bytes"), (0, u "[B"), (58, u "FORMAT_LENGTH"), (0, u "I"), (5, u "isFormatCharacter"), (0, u "(I)Z")] 35

def k4c0 : Code := { maxStack := 2, maxLocals := 1, code := prog_47_method_3_code, exceptionTable := #[], attributes := #[] }
def k4m0 : Method := { name := "isFormatCharacter", desc := "(I)Z", sig := { parameters := [.int], returnType := some .boolean }, accessFlags := 8, code := some k4c0 }
/-- com/example/hellowire/hellowire/codec/VerbatimString -/
def k4 : Class := { plain "com/example/hellowire/hellowire/codec/VerbatimString" (some 3) with
  accessFlags := 49
  interfaces := #[]
  cf := some (fileOf pool4 2 #[] #[{ accessFlags := 8, nameIndex := 95, descriptorIndex := 96, attributes := #[] }] 49 12 #[] #[{ accessFlags := 24, nameIndex := 88, descriptorIndex := 89, attributes := #[] }, { accessFlags := 18, nameIndex := 18, descriptorIndex := 19, attributes := #[] }, { accessFlags := 18, nameIndex := 28, descriptorIndex := 29, attributes := #[] }])
  fields := #[{ name := "FORMAT_LENGTH", type := .int, accessFlags := 24, slot := 0, constantValue := 0 }, { name := "format", type := (.object "java/lang/String"), accessFlags := 18, slot := 1, constantValue := 0 }, { name := "bytes", type := (.array .byte), accessFlags := 18, slot := 2, constantValue := 0 }]
  methods := #[k4m0]
  instanceTypes := #[(.object "java/util/List"), (.object "java/lang/String"), (.array .byte)]
  staticTypes := #[.int]
  resolved := Array.replicate 132 none
  statics := none }

def pool5 : Array CpInfo := pool [(1, u "java/io/Serializable"), (0, .class_ 1), (0, u "java/lang/Object"), (0, .class_ 3)] 3

/-- java/io/Serializable -/
def k5 : Class := { plain "java/io/Serializable" (some 0) with
  accessFlags := 1537
  interfaces := #[]
  cf := some (fileOf pool5 2 #[] #[] 1537 4 #[] #[])
  fields := #[]
  methods := #[]
  instanceTypes := #[]
  staticTypes := #[]
  resolved := Array.replicate 8 none
  statics := none }

/-- the primitive byte -/
def k6 : Class := { plain "byte" none with kind := .primitive 'B', accessFlags := 0x411 }
/-- [B -/
def k7 : Class := { plain "[B" (some 0) with kind := .array 6 .byte, interfaces := #[2, 5], accessFlags := 1041 }

/-- the primitive int -/
def k8 : Class := { plain "int" none with kind := .primitive 'I', accessFlags := 0x411 }
/-- [I -/
def k9 : Class := { plain "[I" (some 0) with kind := .array 8 .int, interfaces := #[2, 5], accessFlags := 1041 }

def heap : Heap := #[]
def classes : Array Class := #[k0, k1, k2, k3, k4, k5, k6, k7, k8, k9]
def interned : List (Array UInt16 × Addr) := []
def slotsUsed : Nat := 0
def theMethod : MethodId := ⟨1, 1⟩
def args0 : Array Value := #[.int 32, .int 7]
def aboutOver (below : List Frame) : State where
  vm := { classes := classes, interned := interned.toArray }
  heap := heap
  slotsUsed := slotsUsed
  threads := #[{ frames := .invoking theMethod args0 :: below }]
def below0 : List Frame := [.native { method := ⟨0, 0⟩, args := #[] }]
def about1 : State := aboutOver below0
def p0 : Program := .bare "" "" ""
def e0 : Env := launch0.env 0 0 0
theorem w_frames : about1.frames = Frame.invoking theMethod args0 :: below0 := rfl
set_option maxRecDepth 65536 in
theorem w_args : argsFit about1.vm theMethod args0 = true := by decide +kernel
set_option maxRecDepth 65536 in
theorem w_heap : heapFits about1 = true := by decide +kernel
set_option maxRecDepth 65536 in
theorem w_runnable : about1.curStatus? = some .runnable := by decide +kernel
set_option maxRecDepth 65536 in
theorem w_alone : about1.alone = true := by decide +kernel
set_option maxRecDepth 65536 in
theorem w_named : about1.methodNamed? x = some theMethod := by decide +kernel
set_option maxRecDepth 65536 in
theorem w_hears : about1.hears theMethod below0 = true := by decide +kernel
set_option maxRecDepth 65536 in
theorem w_ripe : about1.ripe theMethod args0 below0 = true := by decide +kernel
theorem w_running : about1.status = .running := rfl
set_option maxRecDepth 65536 in
theorem w_room : about1.hasRoom e0.platform room_1 = true :=
  launch0.hasRoom_least _ room_1 (by decide +kernel) (by decide +kernel) (by decide +kernel) (by decide +kernel) (by decide +kernel) (by decide +kernel)
theorem allAtoms_all (ts : List Jvm.Cond) (a : Array Jvm.Value) (st : Jvm.State) : (allAtoms ts).before a st = ts.all (fun c => c.before a st) := by
  induction ts with
  | nil => rfl
  | cons c t ih =>
    show (Jvm.Cond.and c (allAtoms t)).before a st = _
    rw [Jvm.Cond.before_and, ih, List.all_cons]
def words1 : List Jvm.Cond := Jvm.Cond.code x code maxLocals ret :: tables_1
/-- a 'code' word, met by the world's own term for the bytes: nothing is compared byte by byte -/
theorem code_word {y : MethodName} {bytes : ByteArray} {mx : Nat} {rt : Option FieldType} {a : Array Value} {s : State} {m : MethodId} {meth : Method} {c : Code} (h1 : s.methodNamed? y = some m) (h2 : s.vm.method? m = some meth) (h3 : meth.code = some c) (h4 : c.code = bytes)
    (h5 : (c.maxLocals == mx && c.exceptionTable.isEmpty && decide (c.maxStack ≤ mostOperands) && decide (meth.sig.returnType = rt) && !meth.locks && decide (parseMethodDescriptor y.desc = some meth.sig)) = true) : (Jvm.Cond.code y bytes mx rt).before a s = true := by
  simp only [Bool.and_eq_true, beq_iff_eq, Bool.not_eq_true', decide_eq_true_eq] at h5
  obtain ⟨⟨⟨⟨⟨g1, g2⟩, g3⟩, g4⟩, g5⟩, g6⟩ := h5
  simp [Cond.before, Cond.holds, Cond.value, h1, h2, h3, h4, g1, g2, g3, g4, g5, g6]
def isCode : Jvm.Cond → Bool
  | .code _ _ _ _ => true
  | _ => false
theorem all_split {L : List Jvm.Cond} {P : Jvm.Cond → Bool} (h1 : L.all (fun c => isCode c || P c) = true) (h2 : ∀ c ∈ L.filter isCode, P c = true) : L.all P = true := by
  refine List.all_eq_true.mpr fun c hc => ?_
  have h := List.all_eq_true.mp h1 c hc
  rcases Bool.eq_false_or_eq_true (isCode c) with hi | hi
  · exact h2 c (List.mem_filter.mpr ⟨hc, hi⟩)
  · simpa [hi] using h
set_option maxRecDepth 65536 in
theorem w_c0 : (Jvm.Cond.code x code maxLocals ret).before args0 about1 = true := code_word (m := ⟨1, 1⟩) (meth := k1m1) (c := k1c1) (by decide +kernel) rfl rfl rfl (by decide +kernel)
set_option maxRecDepth 65536 in
theorem w_c1 : (Jvm.Cond.code ({ cls := "com/example/hellowire/hellowire/codec/VerbatimString", name := "isFormatCharacter", desc := "(I)Z" } : Jvm.MethodName) prog_47_method_3_code (1 : Nat) (Option.some Jvm.ClassFile.FieldType.boolean)).before args0 about1 = true := code_word (m := ⟨4, 0⟩) (meth := k4m0) (c := k4c0) (by decide +kernel) rfl rfl rfl (by decide +kernel)
set_option maxRecDepth 65536 in
theorem w_c2 : (Jvm.Cond.code ({ cls := "com/example/hellowire/hellowire/codec/VerbatimStringIsFormatCharacterPinLaw", name := "expected", desc := "(I)Z" } : Jvm.MethodName) method_3_code (2 : Nat) (Option.some Jvm.ClassFile.FieldType.boolean)).before args0 about1 = true := code_word (m := ⟨1, 2⟩) (meth := k1m2) (c := k1c2) (by decide +kernel) rfl rfl rfl (by decide +kernel)
def codes1 : List Jvm.Cond := [Jvm.Cond.code x code maxLocals ret, Jvm.Cond.code ({ cls := "com/example/hellowire/hellowire/codec/VerbatimString", name := "isFormatCharacter", desc := "(I)Z" } : Jvm.MethodName) prog_47_method_3_code (1 : Nat) (Option.some Jvm.ClassFile.FieldType.boolean), Jvm.Cond.code ({ cls := "com/example/hellowire/hellowire/codec/VerbatimStringIsFormatCharacterPinLaw", name := "expected", desc := "(I)Z" } : Jvm.MethodName) method_3_code (2 : Nat) (Option.some Jvm.ClassFile.FieldType.boolean)]
set_option maxRecDepth 65536 in
theorem codes_eq : words1.filter isCode = codes1 := rfl
theorem w_codes : ∀ c ∈ words1.filter isCode, c.before args0 about1 = true := by
  rw [codes_eq]
  intro c hc
  simp only [codes1, List.mem_cons, List.not_mem_nil, or_false] at hc
  rcases hc with rfl | rfl | rfl
  · exact w_c0
  · exact w_c1
  · exact w_c2
set_option maxRecDepth 65536 in
theorem w_t1 : words1.all (fun c => isCode c || c.before args0 about1) = true := by decide +kernel
theorem w_tables : (allAtoms (Jvm.Cond.code x code maxLocals ret :: tables_1)).before args0 about1 = true := by
  rw [allAtoms_all]
  show words1.all (fun c => c.before args0 about1) = true
  refine all_split ?_ w_codes
  rw [w_t1]
set_option maxRecDepth 65536 in
theorem w_case : (Jvm.Cond.and given_1 narrow_1).before args0 about1 = true := by decide +kernel
theorem w_applies : (headSpec (Jvm.Cond.code x code maxLocals ret :: tables_1) room_1).applies x e0.platform about1 = true :=
  (Spec.applies_iff w_frames).mpr ⟨w_running, w_runnable, w_alone, w_named, w_hears, w_ripe, w_room, w_tables⟩
theorem atStart : AtStart classFile x code maxLocals ret World_1 tables_1 room_1 Calls_1 rest_1 Pre_1 launch0 p0 e0 about1 theMethod args0 below0 :=
  ⟨lists_1, trivial, launch0.admits_env _ _ _, launch0.least_env, fairChoices_fair.cas, fairChoices_fair.clock, w_frames, w_args, w_heap, w_applies, trivial, trivial, w_case⟩
end start1
theorem witness_1 : WitnessClaimed_1 := ⟨start1.p0, start1.e0, start1.about1, start1.theMethod, start1.args0, start1.below0, start1.atStart⟩
end Jvm.Pilot.@@N@@
