import JvmDerived
import JvmDerived.Pilot.@@N@@Statement
import JvmDerived.Pilot.@@N@@Code
set_option linter.unusedVariables false
set_option linter.unusedSimpArgs false
@@BLOCK:NumsL.lean.txt@@
namespace Jvm.RoadKit
open Sem ClassFile Op Lib Jvm.Stand Jvm.Free Jvm.LawKit
section New
variable {p : Program} {l : Launch} {e : Env} {R : Room} {s : State} {m : MethodId} {args : Array Value} {below : List Frame} {meth : Method} {c : Code} {T : State} {locs : List Loc} {cells slots : Nat}
theorem retI (X : Stand p l e R s m args below meth c T locs cells slots) (hx : p.tables.exec = Jvm.exec) {pc : Nat} {Ls : Array Slot} {z : Int32} {rest : List Value} (hret : meth.sig.returnType = some .int) (hd : decode c.code pc = .ok (.ireturn, 1)) {fs : List Frame}
    (hl : ∀ (f : JFrame) (acts : List Action), f.method = m → f.locked = none → f.entered = [] → (doReturn e (T.setTop f) acts (some (.int z))).1 = T.setFrames fs) : Steps p.tables e below (T.setTop (mkF m pc Ls (.int z :: rest))) (T.setFrames fs) := by
  have hm' : T.vm.method? m = some meth := X.method'
  have hn : narrow .int (.int z) = .int z := rfl
  show Steps p.tables e below (T.setTop { method := m, pc := pc, locals := Ls, stack := _ :: rest, locked := none }) _
  jvm_step X.here [X.here.top, hx, hd, hm', hret, hn]
  first | (intro acts; rw [hl _ acts rfl rfl rfl]) | rw [hl _ _ rfl rfl rfl]
  exact Steps.refl _
/-- from U the run comes to its end, and Q holds there -/
def OwnEnds (p : Program) (e : Env) (below : List Frame) (Q : Outcome → State → Prop) (U : State) : Prop := ∃ s₂ o, Steps p.tables e below U s₂ ∧ s₂.status = .running ∧ Ended s₂ below o ∧ Q o s₂
theorem OwnEnds.pre {Q : Outcome → State → Prop} {U U' : State} (h : ∀ t, Steps p.tables e below U' t → Steps p.tables e below U t) (k : OwnEnds p e below Q U') : OwnEnds p e below Q U := by
  obtain ⟨s₂, o, h1, h2⟩ := k
  exact ⟨s₂, o, h _ h1, h2⟩
def OwnQ (s : State) (Q : Option Value → Heap → List Loc → Prop) (C S : Nat) : Outcome → State → Prop := fun o U' => ∃ v L, o = .returned v ∧ Q v U'.heap L ∧ FrameEnd s o U' L C S
theorem own_endI (X : Stand p l e R s m args below meth c T locs cells slots) (hx : p.tables.exec = Jvm.exec) (hlocks : meth.locks = false) {pc : Nat} {Ls : Array Slot} {z : Int32} {rest : List Value} (hret : meth.sig.returnType = some .int) (hd : decode c.code pc = .ok (.ireturn, 1))
    {Q : Option Value → Heap → List Loc → Prop} {C S : Nat} (hC : cells ≤ C) (hS : slots ≤ S) (hQ : Q (some (.int z)) T.heap locs) : OwnEnds p e below (OwnQ s Q C S) (T.setTop (mkF m pc Ls (.int z :: rest))) := by
  obtain ⟨fs, hr, hrun, hended, hW, hsame⟩ := X.leave (v := some (.int z)) (fun h => by rw [hret] at h; cases h) hlocks
  exact ⟨_, _, retI X hx hret hd hr, hrun, hended, _, _, rfl, hQ, ⟨_, rfl⟩, hW, hsame.mono hC hS⟩
theorem own_endN (X : Stand p l e R s m args below meth c T locs cells slots) (hx : p.tables.exec = Jvm.exec) (hlocks : meth.locks = false) {pc : Nat} {Ls : Array Slot} {z z' : Int32} {t : FieldType} {rest : List Value} (hret : meth.sig.returnType = some t) (ht : t = .boolean ∨ t = .byte ∨ t = .char ∨ t = .short) (hd : decode c.code pc = .ok (.ireturn, 1)) (hz : nar t z = z')
    {Q : Option Value → Heap → List Loc → Prop} {C S : Nat} (hC : cells ≤ C) (hS : slots ≤ S) (hQ : Q (some (.int z')) T.heap locs) : OwnEnds p e below (OwnQ s Q C S) (T.setTop (mkF m pc Ls (.int z :: rest))) := by
  subst hz
  obtain ⟨fs, hr, hrun, hended, hW, hsame⟩ := X.leave (v := some (.int (nar t z))) (fun h => by rw [hret] at h; cases h) hlocks
  exact ⟨_, _, retN X hx hret ht hd hr, hrun, hended, _, _, rfl, hQ, ⟨_, rfl⟩, hW, hsame.mono hC hS⟩
theorem own_endJ (X : Stand p l e R s m args below meth c T locs cells slots) (hx : p.tables.exec = Jvm.exec) (hlocks : meth.locks = false) {pc : Nat} {Ls : Array Slot} {z : Int64} (hret : meth.sig.returnType = some .long) (hd : decode c.code pc = .ok (.lreturn, 1))
    {Q : Option Value → Heap → List Loc → Prop} {C S : Nat} (hC : cells ≤ C) (hS : slots ≤ S) (hQ : Q (some (.long z)) T.heap locs) : OwnEnds p e below (OwnQ s Q C S) (T.setTop (mkF m pc Ls [.long z])) := by
  obtain ⟨fs, hr, hrun, hended, hW, hsame⟩ := X.leave (v := some (.long z)) (fun h => by rw [hret] at h; cases h) hlocks
  exact ⟨_, _, X.lreturnOut hx hret hd hr, hrun, hended, _, _, rfl, hQ, ⟨_, rfl⟩, hW, hsame.mono hC hS⟩
theorem own_endV (X : Stand p l e R s m args below meth c T locs cells slots) (hx : p.tables.exec = Jvm.exec) (hlocks : meth.locks = false) {pc : Nat} {Ls : Array Slot} (hret : meth.sig.returnType = none) (hd : decode c.code pc = .ok (.return_, 1))
    {Q : Option Value → Heap → List Loc → Prop} {C S : Nat} (hC : cells ≤ C) (hS : slots ≤ S) (hQ : Q none T.heap locs) : OwnEnds p e below (OwnQ s Q C S) (T.setTop (mkF m pc Ls [])) := by
  obtain ⟨fs, hr, hrun, hended, hW, hsame⟩ := X.leave (v := none) (fun _ => rfl) hlocks
  exact ⟨_, _, X.returnOut hx hret hd hr, hrun, hended, _, _, rfl, hQ, ⟨_, rfl⟩, hW, hsame.mono hC hS⟩
theorem own_endR (X : Stand p l e R s m args below meth c T locs cells slots) (hx : p.tables.exec = Jvm.exec) (hlocks : meth.locks = false) {pc : Nat} {Ls : Array Slot} {w : Value} {t : FieldType} {rest : List Value} (hret : meth.sig.returnType = some t) (ht : t.isReference = true) (hw : w.isRef = true) (hd : decode c.code pc = .ok (.areturn, 1))
    {Q : Option Value → Heap → List Loc → Prop} {C S : Nat} (hC : cells ≤ C) (hS : slots ≤ S) (hQ : Q (some w) T.heap locs) : OwnEnds p e below (OwnQ s Q C S) (T.setTop (mkF m pc Ls (w :: rest))) := by
  obtain ⟨fs, hr, hrun, hended, hW, hsame⟩ := X.leave (v := some w) (fun h => by rw [hret] at h; cases h) hlocks
  have hn : narrow t w = w := by cases t <;> first | rfl | (cases ht)
  exact ⟨_, _, retOut X hx hret hn (Or.inr (Or.inr (Or.inr (Or.inr ⟨rfl, ht, hw⟩)))) hd hr, hrun, hended, _, _, rfl, hQ, ⟨_, rfl⟩, hW, hsame.mono hC hS⟩
theorem own_getI (l : List Int32) (i : Nat) : (l.map Value.int).getD i (.int 0) = .int (l.getD i 0) := by
  simp only [List.getD_eq_getElem?_getD, List.getElem?_map]
  cases l[i]? <;> rfl
theorem own_getJ (l : List Int64) (i : Nat) : (l.map Value.long).getD i (.long 0) = .long (l.getD i 0) := by
  simp only [List.getD_eq_getElem?_getD, List.getElem?_map]
  cases l[i]? <;> rfl
theorem own_nin0 {a : Addr} : a ∉ ([] : List Addr) := List.not_mem_nil
theorem own_nin1 {a b : Addr} (h : a ≠ b) : a ∉ [b] := by simpa using h
theorem own_nin2 {a b c : Addr} (h : a ≠ b) (h' : a ≠ c) : a ∉ [b, c] := by simpa using ⟨h, h'⟩
theorem own_staK0 {Z : State} {h h' : Heap} {C n d : String} {v : Value} (F : Sta Z h C n d v) (K : Keep h h' []) : Sta Z h' C n d v := by
  obtain ⟨cf, i, k, f, st, cell, h1, h2, h3, h4, h5, h6, h7⟩ := F
  exact ⟨cf, i, k, f, st, cell, h1, h2, h3, h4, K.2.1 st cell h5 own_nin0, h6, h7⟩
theorem own_staK1 {Z : State} {h h' : Heap} {C n d D : String} {v : Value} {x : Addr} (F : Sta Z h C n d v) (K : Keep h h' [x]) (E : Exa Z h x D) : Sta Z h' C n d v := by
  obtain ⟨cf, i, k, f, st, cell, h1, h2, h3, h4, h5, h6, h7⟩ := F
  obtain ⟨cl, kk, e1, e2, e3, e4, e5⟩ := E
  refine ⟨cf, i, k, f, st, cell, h1, h2, h3, h4, K.2.1 st cell h5 (own_nin1 fun q => ?_), h6, h7⟩
  subst q
  cases h5.symm.trans e1
  rw [h6] at e4
  cases e4
theorem own_nsroot {Z : State} {a0 : Array Value} {O K : String} {n : Nat} (w : (Cond.noSuperclass O).before a0 Z = true) (wk : (Cond.instantiable K n).before a0 Z = true) (hn : O ≠ K) : NS Z O K := by
  obtain ⟨c, k, h1, h2, h3, -, -⟩ := Cond.noSuperclass_spec w
  obtain ⟨t, kt, g1, -⟩ := Cond.instantiable_spec wk
  have ne := ids_ne h1 g1 hn
  refine ⟨c, t, h1, g1, fun fuel => ?_⟩
  cases fuel with
  | zero => rfl
  | succ f => simp [Vm.isSubclassAux, ne, h2, h3]
theorem own_nsno {Z : State} {a0 : Array Value} {C S K : String} {n : Nat} (w : (Cond.superclass C S).before a0 Z = true) (wk : (Cond.instantiable K n).before a0 Z = true) (ns : NS Z C K) (hn : C ≠ K) : ∃ c t, Z.vm.findClass C = some c ∧ Z.vm.findClass K = some t ∧ Z.vm.assignable c t = false := by
  obtain ⟨c, t, h0, g0, n3⟩ := ns
  obtain ⟨p, k, kp, h1, h2, h3, h4, h5, -, h7⟩ := Cond.superclass_spec h0 w
  obtain ⟨t', kt, g1, g2, g3, g4, -⟩ := Cond.instantiable_spec wk
  cases g0.symm.trans g1
  have g7 : kt.isInterface = false := by simp only [Bool.or_eq_false_iff] at g4; exact g4.1
  have ne := ids_ne h0 g0 hn
  refine ⟨c, t, h0, g0, ?_⟩
  show Z.vm.assignableAux (255 + 1) c t = false
  simp [Vm.assignableAux, ne, h2, g2, h5, g3, g7, Vm.isSubclass, n3]
end New
end Jvm.RoadKit
namespace Jvm.Pilot.@@N@@
open Jvm Jvm.ClassFile Sem Op Lib Jvm.Free Jvm.Stand Jvm.LawKit Jvm.RoadKit Bundle Jvm.Pilot.@@N@@.Jvm.D
theorem d1_0 : decode method_3_code 0 = .ok (.iload_n 0, 1) := by decide +kernel
theorem d1_1 : decode method_3_code 1 = .ok (.ifCond .ne 5, 3) := by decide +kernel
theorem d1_4 : decode method_3_code 4 = .ok (.iconst 0, 1) := by decide +kernel
theorem d1_5 : decode method_3_code 5 = .ok (.ireturn, 1) := by decide +kernel
theorem d1_6 : decode method_3_code 6 = .ok (.iload_n 0, 1) := by decide +kernel
theorem d1_7 : decode method_3_code 7 = .ok (.iconst 1, 1) := by decide +kernel
theorem d1_8 : decode method_3_code 8 = .ok (.if_icmp .ne 5, 3) := by decide +kernel
theorem d1_11 : decode method_3_code 11 = .ok (.iconst 1, 1) := by decide +kernel
theorem d1_12 : decode method_3_code 12 = .ok (.ireturn, 1) := by decide +kernel
theorem d1_13 : decode method_3_code 13 = .ok (.iload_n 0, 1) := by decide +kernel
theorem d1_14 : decode method_3_code 14 = .ok (.iconst 2, 1) := by decide +kernel
theorem d1_15 : decode method_3_code 15 = .ok (.if_icmp .ne 5, 3) := by decide +kernel
theorem d1_18 : decode method_3_code 18 = .ok (.iconst 2, 1) := by decide +kernel
theorem d1_19 : decode method_3_code 19 = .ok (.ireturn, 1) := by decide +kernel
theorem d1_20 : decode method_3_code 20 = .ok (.iconst 3, 1) := by decide +kernel
theorem d1_21 : decode method_3_code 21 = .ok (.ireturn, 1) := by decide +kernel
theorem ef_1 (m : MethodId) (p0 : Int32) : entryFrame m #[(.int p0)] 1 = mkF m 0 #[.val (.int p0)] [] := by first | (simp [entryFrame, mkF, argsToLocals, Value.category]; done) | rfl
theorem pn_0 : plainName "com/example/hardy_queue/hardyqueue/broker/PermissionAllowsPinLaw" = true := by first | (simp [plainName, overriddenIn]; done) | decide +kernel
def f1_0 (p0 : Int32) : Int32 := (if p0 = (0 : Int32) then (0 : Int32) else (if p0 = (1 : Int32) then (1 : Int32) else (if p0 = (2 : Int32) then (2 : Int32) else (3 : Int32))))
def Q1 (Z : State) (p0 : Int32) (h0 : Heap) (n0 : Nat) (v : Option Value) (h : Heap) (L : List Loc) : Prop := v = some (.int (f1_0 p0)) ∧ Fr n0 L ∧ h = h0
set_option maxRecDepth 65536 in
set_option maxHeartbeats 40000000 in
theorem rm1 (l : Launch) (Z : State) (aZ : Array Value) (hw : ∀ d ∈ tables_1, d.before aZ Z = true) (ws : List Jvm.Cond) (p0 : Int32) (h0 : Heap) (n0 : Nat) (Z0 : n0 ≤ h0.size) :
    MetFree l (⟨"com/example/hardy_queue/hardyqueue/broker/PermissionAllowsPinLaw", "rights", "(I)I"⟩ : MethodName) (head1 (Jvm.Cond.code (⟨"com/example/hardy_queue/hardyqueue/broker/PermissionAllowsPinLaw", "rights", "(I)I"⟩ : MethodName) method_3_code 1 (some .int) :: ws) ({ frames := 0, cells := 0, slots := 0, locals := 0 } : Room)) (fun a U => a = #[(.int p0)] ∧ Z.Warmed39 U.vm ∧ U.heap = h0) (fun _ _ _ _ _ => True) (fun _ U o U' => ∃ v L, o = .returned v ∧ Q1 Z p0 h0 n0 v U'.heap L ∧ FrameEnd U o U' L 0 0) := by
  refine MetFree.of_bodySF (plainFor_of_name pn_0) hisR ?_
  intro p e s m args below meth c s₁ Bd hml0 hP hK
  obtain ⟨rfl, hZ, hh⟩ := hP
  have hx := Bd.exec
  have hby := Bd.bytes
  have hml : c.maxLocals = 1 := hml0
  have hown : s.vm.findClass "com/example/hardy_queue/hardyqueue/broker/PermissionAllowsPinLaw" = some m.cls := findClass_of_methodNamed Bd.named
  have hnm := (name_of_methodNamed Bd.named Bd.method).1
  have hlk := BodyLoose.notSynchronized Bd
  have X0 : Stand p l e ({ frames := 0, cells := 0, slots := 0, locals := 0 } : Room) s m #[(.int p0)] below meth c s₁ [] 0 0 := Stand.of_body Bd
  have e0 : s₁.heap = h0 := by rw [← hh, Bd.state]; rfl
  have N0 := Fr.nil n0
  have hk0 : 0 ≤ 0 := Nat.zero_le _
  have hn0 : 0 ≤ 0 := Nat.zero_le _
  show OwnEnds p e below (OwnQ s (Q1 Z p0 h0 n0) 0 0) (s₁.setTop (entryFrame m #[(.int p0)] 1))
  refine .pre (fun t k => castTop (ef_1 m p0) k) ?_
  have hF : f1_0 p0 = f1_0 p0 := rfl
  change (if p0 = (0 : Int32) then (0 : Int32) else (if p0 = (1 : Int32) then (1 : Int32) else (if p0 = (2 : Int32) then (2 : Int32) else (3 : Int32)))) = _ at hF
  show OwnEnds p e below _ (s₁.setTop (mkF m 0 #[.val (.int p0)] []))
  refine .pre (fun _ k => XS.iloadN X0.here hx rfl (hb hby d1_0) rfl k) ?_
  show OwnEnds p e below _ (s₁.setTop (mkF m 1 #[.val (.int p0)] [(.int p0)]))
  by_cases hc1 : p0 = (0 : Int32)
  · rw [if_pos hc1] at hF
    refine .pre (fun _ k => XS.ifNo X0.here hx rfl (hb hby d1_1) rfl ((if0 _ _).trans (teq hc1).2) k) ?_
    show OwnEnds p e below _ (s₁.setTop (mkF m 4 #[.val (.int p0)] []))
    refine .pre (fun _ k => XS.iconst X0.here hx rfl (hb hby d1_4) k) ?_
    show OwnEnds p e below _ (s₁.setTop (mkF m 5 #[.val (.int p0)] [(.int (0 : Int32))]))
    exact own_endI X0 hx hlk Bd.returns (hb hby d1_5) hk0 hn0 ⟨congrArg (fun z => some (Value.int z)) hF, N0, e0⟩
  · rw [if_neg hc1] at hF
    refine .pre (fun _ k => XS.ifYes X0.here hx rfl (pc0 := 1) (pc' := 6) rfl (hb hby d1_1) rfl ((if0 _ _).trans (feq hc1).2) (by decide) (by decide) k) ?_
    show OwnEnds p e below _ (s₁.setTop (mkF m 6 #[.val (.int p0)] []))
    refine .pre (fun _ k => XS.iloadN X0.here hx rfl (hb hby d1_6) rfl k) ?_
    show OwnEnds p e below _ (s₁.setTop (mkF m 7 #[.val (.int p0)] [(.int p0)]))
    refine .pre (fun _ k => XS.iconst X0.here hx rfl (hb hby d1_7) k) ?_
    show OwnEnds p e below _ (s₁.setTop (mkF m 8 #[.val (.int p0)] [(.int (1 : Int32)), (.int p0)]))
    by_cases hc8 : p0 = (1 : Int32)
    · rw [if_pos hc8] at hF
      refine .pre (fun _ k => XS.icmpNo X0.here hx rfl (hb hby d1_8) rfl (teq hc8).2 k) ?_
      show OwnEnds p e below _ (s₁.setTop (mkF m 11 #[.val (.int p0)] []))
      refine .pre (fun _ k => XS.iconst X0.here hx rfl (hb hby d1_11) k) ?_
      show OwnEnds p e below _ (s₁.setTop (mkF m 12 #[.val (.int p0)] [(.int (1 : Int32))]))
      exact own_endI X0 hx hlk Bd.returns (hb hby d1_12) hk0 hn0 ⟨congrArg (fun z => some (Value.int z)) hF, N0, e0⟩
    · rw [if_neg hc8] at hF
      refine .pre (fun _ k => XS.icmpYes X0.here hx rfl (pc0 := 8) (pc' := 13) rfl (hb hby d1_8) rfl (feq hc8).2 (by decide) (by decide) k) ?_
      show OwnEnds p e below _ (s₁.setTop (mkF m 13 #[.val (.int p0)] []))
      refine .pre (fun _ k => XS.iloadN X0.here hx rfl (hb hby d1_13) rfl k) ?_
      show OwnEnds p e below _ (s₁.setTop (mkF m 14 #[.val (.int p0)] [(.int p0)]))
      refine .pre (fun _ k => XS.iconst X0.here hx rfl (hb hby d1_14) k) ?_
      show OwnEnds p e below _ (s₁.setTop (mkF m 15 #[.val (.int p0)] [(.int (2 : Int32)), (.int p0)]))
      by_cases hc15 : p0 = (2 : Int32)
      · rw [if_pos hc15] at hF
        refine .pre (fun _ k => XS.icmpNo X0.here hx rfl (hb hby d1_15) rfl (teq hc15).2 k) ?_
        show OwnEnds p e below _ (s₁.setTop (mkF m 18 #[.val (.int p0)] []))
        refine .pre (fun _ k => XS.iconst X0.here hx rfl (hb hby d1_18) k) ?_
        show OwnEnds p e below _ (s₁.setTop (mkF m 19 #[.val (.int p0)] [(.int (2 : Int32))]))
        exact own_endI X0 hx hlk Bd.returns (hb hby d1_19) hk0 hn0 ⟨congrArg (fun z => some (Value.int z)) hF, N0, e0⟩
      · rw [if_neg hc15] at hF
        refine .pre (fun _ k => XS.icmpYes X0.here hx rfl (pc0 := 15) (pc' := 20) rfl (hb hby d1_15) rfl (feq hc15).2 (by decide) (by decide) k) ?_
        show OwnEnds p e below _ (s₁.setTop (mkF m 20 #[.val (.int p0)] []))
        refine .pre (fun _ k => XS.iconst X0.here hx rfl (hb hby d1_20) k) ?_
        show OwnEnds p e below _ (s₁.setTop (mkF m 21 #[.val (.int p0)] [(.int (3 : Int32))]))
        exact own_endI X0 hx hlk Bd.returns (hb hby d1_21) hk0 hn0 ⟨congrArg (fun z => some (Value.int z)) hF, N0, e0⟩
theorem d2_0 : decode method_2_code 0 = .ok (.iload_n 0, 1) := by decide +kernel
theorem d2_1 : decode method_2_code 1 = .ok (.ifCond .ne 7, 3) := by decide +kernel
theorem d2_4 : decode method_2_code 4 = .ok (.getstatic 7, 3) := by decide +kernel
theorem d2_7 : decode method_2_code 7 = .ok (.areturn, 1) := by decide +kernel
theorem d2_8 : decode method_2_code 8 = .ok (.iload_n 0, 1) := by decide +kernel
theorem d2_9 : decode method_2_code 9 = .ok (.iconst 1, 1) := by decide +kernel
theorem d2_10 : decode method_2_code 10 = .ok (.if_icmp .ne 7, 3) := by decide +kernel
theorem d2_13 : decode method_2_code 13 = .ok (.getstatic 13, 3) := by decide +kernel
theorem d2_16 : decode method_2_code 16 = .ok (.areturn, 1) := by decide +kernel
theorem d2_17 : decode method_2_code 17 = .ok (.iload_n 0, 1) := by decide +kernel
theorem d2_18 : decode method_2_code 18 = .ok (.iconst 2, 1) := by decide +kernel
theorem d2_19 : decode method_2_code 19 = .ok (.if_icmp .ne 7, 3) := by decide +kernel
theorem d2_22 : decode method_2_code 22 = .ok (.getstatic 16, 3) := by decide +kernel
theorem d2_25 : decode method_2_code 25 = .ok (.areturn, 1) := by decide +kernel
theorem d2_26 : decode method_2_code 26 = .ok (.iload_n 0, 1) := by decide +kernel
theorem d2_27 : decode method_2_code 27 = .ok (.iconst 3, 1) := by decide +kernel
theorem d2_28 : decode method_2_code 28 = .ok (.if_icmp .ne 7, 3) := by decide +kernel
theorem d2_31 : decode method_2_code 31 = .ok (.getstatic 19, 3) := by decide +kernel
theorem d2_34 : decode method_2_code 34 = .ok (.areturn, 1) := by decide +kernel
theorem d2_35 : decode method_2_code 35 = .ok (.getstatic 22, 3) := by decide +kernel
theorem d2_38 : decode method_2_code 38 = .ok (.areturn, 1) := by decide +kernel
theorem ef_2 (m : MethodId) (p0 : Int32) : entryFrame m #[(.int p0)] 1 = mkF m 0 #[.val (.int p0)] [] := by first | (simp [entryFrame, mkF, argsToLocals, Value.category]; done) | rfl
def f2_0 (xDENY : Addr) (xPUB : Addr) (xSUB : Addr) (xPUBSUB : Addr) (xANY : Addr) (p0 : Int32) : Addr := (if p0 = (0 : Int32) then xDENY else (if p0 = (1 : Int32) then xPUB else (if p0 = (2 : Int32) then xSUB else (if p0 = (3 : Int32) then xPUBSUB else xANY))))
def Q2 (Z : State) (p0 : Int32) (xDENY : Addr) (xPUB : Addr) (xSUB : Addr) (xPUBSUB : Addr) (xANY : Addr) (h0 : Heap) (n0 : Nat) (v : Option Value) (h : Heap) (L : List Loc) : Prop := v = some (.ref (f2_0 xDENY xPUB xSUB xPUBSUB xANY p0)) ∧ Fr n0 L ∧ h = h0
set_option maxRecDepth 65536 in
set_option maxHeartbeats 40000000 in
theorem rm2 (l : Launch) (Z : State) (aZ : Array Value) (hw : ∀ d ∈ tables_1, d.before aZ Z = true) (ws : List Jvm.Cond) (p0 : Int32) (xDENY : Addr) (xPUB : Addr) (xSUB : Addr) (xPUBSUB : Addr) (xANY : Addr) (h0 : Heap) (n0 : Nat) (Z0 : n0 ≤ h0.size) (S0 : Sta Z h0 "com/example/hardy_queue/hardyqueue/broker/Permission" "DENY" "Lcom/example/hardy_queue/hardyqueue/broker/Permission;" (.ref xDENY)) (S1 : Sta Z h0 "com/example/hardy_queue/hardyqueue/broker/Permission" "PUB" "Lcom/example/hardy_queue/hardyqueue/broker/Permission;" (.ref xPUB)) (S2 : Sta Z h0 "com/example/hardy_queue/hardyqueue/broker/Permission" "SUB" "Lcom/example/hardy_queue/hardyqueue/broker/Permission;" (.ref xSUB)) (S3 : Sta Z h0 "com/example/hardy_queue/hardyqueue/broker/Permission" "PUB_SUB" "Lcom/example/hardy_queue/hardyqueue/broker/Permission;" (.ref xPUBSUB)) (S4 : Sta Z h0 "com/example/hardy_queue/hardyqueue/broker/Permission" "ANY" "Lcom/example/hardy_queue/hardyqueue/broker/Permission;" (.ref xANY)) :
    MetFree l (⟨"com/example/hardy_queue/hardyqueue/broker/PermissionAllowsPinLaw", "pick", "(I)Lcom/example/hardy_queue/hardyqueue/broker/Permission;"⟩ : MethodName) (head1 (Jvm.Cond.code (⟨"com/example/hardy_queue/hardyqueue/broker/PermissionAllowsPinLaw", "pick", "(I)Lcom/example/hardy_queue/hardyqueue/broker/Permission;"⟩ : MethodName) method_2_code 1 (some (.object "com/example/hardy_queue/hardyqueue/broker/Permission")) :: ws) ({ frames := 0, cells := 0, slots := 0, locals := 0 } : Room)) (fun a U => a = #[(.int p0)] ∧ Z.Warmed39 U.vm ∧ U.heap = h0) (fun _ _ _ _ _ => True) (fun _ U o U' => ∃ v L, o = .returned v ∧ Q2 Z p0 xDENY xPUB xSUB xPUBSUB xANY h0 n0 v U'.heap L ∧ FrameEnd U o U' L 0 0) := by
  refine MetFree.of_bodySF (plainFor_of_name pn_0) hisR ?_
  intro p e s m args below meth c s₁ Bd hml0 hP hK
  obtain ⟨rfl, hZ, hh⟩ := hP
  have hx := Bd.exec
  have hby := Bd.bytes
  have hml : c.maxLocals = 1 := hml0
  have hown : s.vm.findClass "com/example/hardy_queue/hardyqueue/broker/PermissionAllowsPinLaw" = some m.cls := findClass_of_methodNamed Bd.named
  have hnm := (name_of_methodNamed Bd.named Bd.method).1
  have hlk := BodyLoose.notSynchronized Bd
  have X0 : Stand p l e ({ frames := 0, cells := 0, slots := 0, locals := 0 } : Room) s m #[(.int p0)] below meth c s₁ [] 0 0 := Stand.of_body Bd
  have e0 : s₁.heap = h0 := by rw [← hh, Bd.state]; rfl
  have N0 := Fr.nil n0
  have hk0 : 0 ≤ 0 := Nat.zero_le _
  have hn0 : 0 ≤ 0 := Nat.zero_le _
  show OwnEnds p e below (OwnQ s (Q2 Z p0 xDENY xPUB xSUB xPUBSUB xANY h0 n0) 0 0) (s₁.setTop (entryFrame m #[(.int p0)] 1))
  refine .pre (fun t k => castTop (ef_2 m p0) k) ?_
  have hF : f2_0 xDENY xPUB xSUB xPUBSUB xANY p0 = f2_0 xDENY xPUB xSUB xPUBSUB xANY p0 := rfl
  change (if p0 = (0 : Int32) then xDENY else (if p0 = (1 : Int32) then xPUB else (if p0 = (2 : Int32) then xSUB else (if p0 = (3 : Int32) then xPUBSUB else xANY)))) = _ at hF
  show OwnEnds p e below _ (s₁.setTop (mkF m 0 #[.val (.int p0)] []))
  refine .pre (fun _ k => XS.iloadN X0.here hx rfl (hb hby d2_0) rfl k) ?_
  show OwnEnds p e below _ (s₁.setTop (mkF m 1 #[.val (.int p0)] [(.int p0)]))
  by_cases hc1 : p0 = (0 : Int32)
  · rw [if_pos hc1] at hF
    refine .pre (fun _ k => XS.ifNo X0.here hx rfl (hb hby d2_1) rfl ((if0 _ _).trans (teq hc1).2) k) ?_
    show OwnEnds p e below _ (s₁.setTop (mkF m 4 #[.val (.int p0)] []))
    obtain ⟨T6, X6, e6, st6⟩ := getS2 X0 hx hZ hown (host := "") (Or.inl (hw _ (List.mem_of_getElem? (i := 8) rfl))) Via.refl e0 S0 (g := (mkF m 4 #[.val (.int p0)] [])) rfl (hb hby d2_4)
    refine .pre (fun _ k => st6 _ k) ?_
    show OwnEnds p e below _ (T6.setTop (mkF m 7 #[.val (.int p0)] [(.ref xDENY)]))
    exact own_endR X6 hx hlk Bd.returns rfl rfl (hb hby d2_7) hk0 hn0 ⟨congrArg (fun z => some (Value.ref z)) hF, N0, e6⟩
  · rw [if_neg hc1] at hF
    refine .pre (fun _ k => XS.ifYes X0.here hx rfl (pc0 := 1) (pc' := 8) rfl (hb hby d2_1) rfl ((if0 _ _).trans (feq hc1).2) (by decide) (by decide) k) ?_
    show OwnEnds p e below _ (s₁.setTop (mkF m 8 #[.val (.int p0)] []))
    refine .pre (fun _ k => XS.iloadN X0.here hx rfl (hb hby d2_8) rfl k) ?_
    show OwnEnds p e below _ (s₁.setTop (mkF m 9 #[.val (.int p0)] [(.int p0)]))
    refine .pre (fun _ k => XS.iconst X0.here hx rfl (hb hby d2_9) k) ?_
    show OwnEnds p e below _ (s₁.setTop (mkF m 10 #[.val (.int p0)] [(.int (1 : Int32)), (.int p0)]))
    by_cases hc10 : p0 = (1 : Int32)
    · rw [if_pos hc10] at hF
      refine .pre (fun _ k => XS.icmpNo X0.here hx rfl (hb hby d2_10) rfl (teq hc10).2 k) ?_
      show OwnEnds p e below _ (s₁.setTop (mkF m 13 #[.val (.int p0)] []))
      obtain ⟨T7, X7, e7, st7⟩ := getS2 X0 hx hZ hown (host := "") (Or.inl (hw _ (List.mem_of_getElem? (i := 22) rfl))) Via.refl e0 S1 (g := (mkF m 13 #[.val (.int p0)] [])) rfl (hb hby d2_13)
      refine .pre (fun _ k => st7 _ k) ?_
      show OwnEnds p e below _ (T7.setTop (mkF m 16 #[.val (.int p0)] [(.ref xPUB)]))
      exact own_endR X7 hx hlk Bd.returns rfl rfl (hb hby d2_16) hk0 hn0 ⟨congrArg (fun z => some (Value.ref z)) hF, N0, e7⟩
    · rw [if_neg hc10] at hF
      refine .pre (fun _ k => XS.icmpYes X0.here hx rfl (pc0 := 10) (pc' := 17) rfl (hb hby d2_10) rfl (feq hc10).2 (by decide) (by decide) k) ?_
      show OwnEnds p e below _ (s₁.setTop (mkF m 17 #[.val (.int p0)] []))
      refine .pre (fun _ k => XS.iloadN X0.here hx rfl (hb hby d2_17) rfl k) ?_
      show OwnEnds p e below _ (s₁.setTop (mkF m 18 #[.val (.int p0)] [(.int p0)]))
      refine .pre (fun _ k => XS.iconst X0.here hx rfl (hb hby d2_18) k) ?_
      show OwnEnds p e below _ (s₁.setTop (mkF m 19 #[.val (.int p0)] [(.int (2 : Int32)), (.int p0)]))
      by_cases hc19 : p0 = (2 : Int32)
      · rw [if_pos hc19] at hF
        refine .pre (fun _ k => XS.icmpNo X0.here hx rfl (hb hby d2_19) rfl (teq hc19).2 k) ?_
        show OwnEnds p e below _ (s₁.setTop (mkF m 22 #[.val (.int p0)] []))
        obtain ⟨T8, X8, e8, st8⟩ := getS2 X0 hx hZ hown (host := "") (Or.inl (hw _ (List.mem_of_getElem? (i := 26) rfl))) Via.refl e0 S2 (g := (mkF m 22 #[.val (.int p0)] [])) rfl (hb hby d2_22)
        refine .pre (fun _ k => st8 _ k) ?_
        show OwnEnds p e below _ (T8.setTop (mkF m 25 #[.val (.int p0)] [(.ref xSUB)]))
        exact own_endR X8 hx hlk Bd.returns rfl rfl (hb hby d2_25) hk0 hn0 ⟨congrArg (fun z => some (Value.ref z)) hF, N0, e8⟩
      · rw [if_neg hc19] at hF
        refine .pre (fun _ k => XS.icmpYes X0.here hx rfl (pc0 := 19) (pc' := 26) rfl (hb hby d2_19) rfl (feq hc19).2 (by decide) (by decide) k) ?_
        show OwnEnds p e below _ (s₁.setTop (mkF m 26 #[.val (.int p0)] []))
        refine .pre (fun _ k => XS.iloadN X0.here hx rfl (hb hby d2_26) rfl k) ?_
        show OwnEnds p e below _ (s₁.setTop (mkF m 27 #[.val (.int p0)] [(.int p0)]))
        refine .pre (fun _ k => XS.iconst X0.here hx rfl (hb hby d2_27) k) ?_
        show OwnEnds p e below _ (s₁.setTop (mkF m 28 #[.val (.int p0)] [(.int (3 : Int32)), (.int p0)]))
        by_cases hc28 : p0 = (3 : Int32)
        · rw [if_pos hc28] at hF
          refine .pre (fun _ k => XS.icmpNo X0.here hx rfl (hb hby d2_28) rfl (teq hc28).2 k) ?_
          show OwnEnds p e below _ (s₁.setTop (mkF m 31 #[.val (.int p0)] []))
          obtain ⟨T9, X9, e9, st9⟩ := getS2 X0 hx hZ hown (host := "") (Or.inl (hw _ (List.mem_of_getElem? (i := 11) rfl))) Via.refl e0 S3 (g := (mkF m 31 #[.val (.int p0)] [])) rfl (hb hby d2_31)
          refine .pre (fun _ k => st9 _ k) ?_
          show OwnEnds p e below _ (T9.setTop (mkF m 34 #[.val (.int p0)] [(.ref xPUBSUB)]))
          exact own_endR X9 hx hlk Bd.returns rfl rfl (hb hby d2_34) hk0 hn0 ⟨congrArg (fun z => some (Value.ref z)) hF, N0, e9⟩
        · rw [if_neg hc28] at hF
          refine .pre (fun _ k => XS.icmpYes X0.here hx rfl (pc0 := 28) (pc' := 35) rfl (hb hby d2_28) rfl (feq hc28).2 (by decide) (by decide) k) ?_
          show OwnEnds p e below _ (s₁.setTop (mkF m 35 #[.val (.int p0)] []))
          obtain ⟨T10, X10, e10, st10⟩ := getS2 X0 hx hZ hown (host := "") (Or.inl (hw _ (List.mem_of_getElem? (i := 20) rfl))) Via.refl e0 S4 (g := (mkF m 35 #[.val (.int p0)] [])) rfl (hb hby d2_35)
          refine .pre (fun _ k => st10 _ k) ?_
          show OwnEnds p e below _ (T10.setTop (mkF m 38 #[.val (.int p0)] [(.ref xANY)]))
          exact own_endR X10 hx hlk Bd.returns rfl rfl (hb hby d2_38) hk0 hn0 ⟨congrArg (fun z => some (Value.ref z)) hF, N0, e10⟩
theorem d3_0 : decode prog_8_method_5_code 0 = .ok (.aload_n 0, 1) := by decide +kernel
theorem d3_1 : decode prog_8_method_5_code 1 = .ok (.getfield 42, 3) := by decide +kernel
theorem d3_4 : decode prog_8_method_5_code 4 = .ok (.ifCond .ne 10, 3) := by decide +kernel
theorem d3_7 : decode prog_8_method_5_code 7 = .ok (.aload_n 1, 1) := by decide +kernel
theorem d3_8 : decode prog_8_method_5_code 8 = .ok (.getfield 42, 3) := by decide +kernel
theorem d3_11 : decode prog_8_method_5_code 11 = .ok (.ifCond .ne 21, 3) := by decide +kernel
theorem d3_14 : decode prog_8_method_5_code 14 = .ok (.aload_n 0, 1) := by decide +kernel
theorem d3_15 : decode prog_8_method_5_code 15 = .ok (.getfield 46, 3) := by decide +kernel
theorem d3_18 : decode prog_8_method_5_code 18 = .ok (.ifCond .ne 10, 3) := by decide +kernel
theorem d3_21 : decode prog_8_method_5_code 21 = .ok (.aload_n 1, 1) := by decide +kernel
theorem d3_22 : decode prog_8_method_5_code 22 = .ok (.getfield 46, 3) := by decide +kernel
theorem d3_25 : decode prog_8_method_5_code 25 = .ok (.ifCond .ne 7, 3) := by decide +kernel
theorem d3_28 : decode prog_8_method_5_code 28 = .ok (.iconst 1, 1) := by decide +kernel
theorem d3_29 : decode prog_8_method_5_code 29 = .ok (.goto 4, 3) := by decide +kernel
theorem d3_32 : decode prog_8_method_5_code 32 = .ok (.iconst 0, 1) := by decide +kernel
theorem d3_33 : decode prog_8_method_5_code 33 = .ok (.ireturn, 1) := by decide +kernel
theorem ef_3 (m : MethodId) (a0 : Addr) (a1 : Addr) : entryFrame m #[(.ref a0), (.ref a1)] 2 = mkF m 0 #[.val (.ref a0), .val (.ref a1)] [] := by first | (simp [entryFrame, mkF, argsToLocals, Value.category]; done) | rfl
theorem pn_1 : plainName "com/example/hardy_queue/hardyqueue/broker/Permission" = true := by first | (simp [plainName, overriddenIn]; done) | decide +kernel
def f3_14 (w0 : Int32) (w1 : Int32) (w2 : Int32) (w3 : Int32) : Int32 := (if w1 = (0 : Int32) then (if w3 = (0 : Int32) then (1 : Int32) else (0 : Int32)) else (1 : Int32))
def f3_0 (w0 : Int32) (w1 : Int32) (w2 : Int32) (w3 : Int32) : Int32 := (if w0 = (0 : Int32) then (if w2 = (0 : Int32) then (f3_14 w0 w1 w2 w3) else (0 : Int32)) else (f3_14 w0 w1 w2 w3))
def Q3 (Z : State) (a0 : Addr) (a1 : Addr) (w0 : Int32) (w1 : Int32) (w2 : Int32) (w3 : Int32) (h0 : Heap) (n0 : Nat) (v : Option Value) (h : Heap) (L : List Loc) : Prop := v = some (.int (f3_0 w0 w1 w2 w3)) ∧ Fr n0 L ∧ h = h0
set_option maxRecDepth 65536 in
set_option maxHeartbeats 40000000 in
theorem rm3 (l : Launch) (Z : State) (aZ : Array Value) (hw : ∀ d ∈ tables_1, d.before aZ Z = true) (ws : List Jvm.Cond) (a0 : Addr) (a1 : Addr) (w0 : Int32) (w1 : Int32) (w2 : Int32) (w3 : Int32) (h0 : Heap) (n0 : Nat) (Z0 : n0 ≤ h0.size) (F0 : Fld Z h0 a0 "com/example/hardy_queue/hardyqueue/broker/Permission" "publish" "Z" (.int w0)) (F1 : Fld Z h0 a0 "com/example/hardy_queue/hardyqueue/broker/Permission" "subscribe" "Z" (.int w1)) (F2 : Fld Z h0 a1 "com/example/hardy_queue/hardyqueue/broker/Permission" "publish" "Z" (.int w2)) (F3 : Fld Z h0 a1 "com/example/hardy_queue/hardyqueue/broker/Permission" "subscribe" "Z" (.int w3)) :
    MetFree l (⟨"com/example/hardy_queue/hardyqueue/broker/Permission", "allows", "(Lcom/example/hardy_queue/hardyqueue/broker/Permission;)Z"⟩ : MethodName) (head1 (Jvm.Cond.code (⟨"com/example/hardy_queue/hardyqueue/broker/Permission", "allows", "(Lcom/example/hardy_queue/hardyqueue/broker/Permission;)Z"⟩ : MethodName) prog_8_method_5_code 2 (some .boolean) :: ws) ({ frames := 0, cells := 0, slots := 0, locals := 0 } : Room)) (fun a U => a = #[(.ref a0), (.ref a1)] ∧ Z.Warmed39 U.vm ∧ U.heap = h0) (fun _ _ _ _ _ => True) (fun _ U o U' => ∃ v L, o = .returned v ∧ Q3 Z a0 a1 w0 w1 w2 w3 h0 n0 v U'.heap L ∧ FrameEnd U o U' L 0 0) := by
  refine MetFree.of_bodySF (plainFor_of_name pn_1) hisR ?_
  intro p e s m args below meth c s₁ Bd hml0 hP hK
  obtain ⟨rfl, hZ, hh⟩ := hP
  have hx := Bd.exec
  have hby := Bd.bytes
  have hml : c.maxLocals = 2 := hml0
  have hown : s.vm.findClass "com/example/hardy_queue/hardyqueue/broker/Permission" = some m.cls := findClass_of_methodNamed Bd.named
  have hnm := (name_of_methodNamed Bd.named Bd.method).1
  have hlk := BodyLoose.notSynchronized Bd
  have X0 : Stand p l e ({ frames := 0, cells := 0, slots := 0, locals := 0 } : Room) s m #[(.ref a0), (.ref a1)] below meth c s₁ [] 0 0 := Stand.of_body Bd
  have e0 : s₁.heap = h0 := by rw [← hh, Bd.state]; rfl
  have N0 := Fr.nil n0
  have hk0 : 0 ≤ 0 := Nat.zero_le _
  have hn0 : 0 ≤ 0 := Nat.zero_le _
  show OwnEnds p e below (OwnQ s (Q3 Z a0 a1 w0 w1 w2 w3 h0 n0) 0 0) (s₁.setTop (entryFrame m #[(.ref a0), (.ref a1)] 2))
  refine .pre (fun t k => castTop (ef_3 m a0 a1) k) ?_
  have B14 : ∀ (T : State) (L : List Loc) (k n : Nat) (X : Stand p l e ({ frames := 0, cells := 0, slots := 0, locals := 0 } : Room) s m #[(.ref a0), (.ref a1)] below meth c T L k n) (eT : T.heap = h0) (N : Fr n0 L) (hk : k ≤ 0) (hn : n ≤ 0), f3_14 w0 w1 w2 w3 = f3_0 w0 w1 w2 w3 → OwnEnds p e below (OwnQ s (Q3 Z a0 a1 w0 w1 w2 w3 h0 n0) 0 0) (T.setTop (mkF m 14 #[.val (.ref a0), .val (.ref a1)] [])) := by
    intro T L k n X eT N hk hn  hF
    change (if w1 = (0 : Int32) then (if w3 = (0 : Int32) then (1 : Int32) else (0 : Int32)) else (1 : Int32)) = _ at hF
    show OwnEnds p e below _ (T.setTop (mkF m 14 #[.val (.ref a0), .val (.ref a1)] []))
    refine .pre (fun _ k => XS.aloadN X.here hx rfl (hb hby d3_14) rfl rfl k) ?_
    show OwnEnds p e below _ (T.setTop (mkF m 15 #[.val (.ref a0), .val (.ref a1)] [(.ref a0)]))
    obtain ⟨T5, X5, e5, st5⟩ := getF X hx hZ hown (host := "") (Or.inl (hw _ (List.mem_of_getElem? (i := 24) rfl))) Via.refl eT F1 (g := (mkF m 15 #[.val (.ref a0), .val (.ref a1)] [(.ref a0)])) rfl rfl (hb hby d3_15)
    refine .pre (fun _ k => st5 _ k) ?_
    show OwnEnds p e below _ (T5.setTop (mkF m 18 #[.val (.ref a0), .val (.ref a1)] [(.int w1)]))
    by_cases hc18 : w1 = (0 : Int32)
    · rw [if_pos hc18] at hF
      refine .pre (fun _ k => XS.ifNo X5.here hx rfl (hb hby d3_18) rfl ((if0 _ _).trans (teq hc18).2) k) ?_
      show OwnEnds p e below _ (T5.setTop (mkF m 21 #[.val (.ref a0), .val (.ref a1)] []))
      refine .pre (fun _ k => XS.aloadN X5.here hx rfl (hb hby d3_21) rfl rfl k) ?_
      show OwnEnds p e below _ (T5.setTop (mkF m 22 #[.val (.ref a0), .val (.ref a1)] [(.ref a1)]))
      obtain ⟨T6, X6, e6, st6⟩ := getF X5 hx hZ hown (host := "") (Or.inl (hw _ (List.mem_of_getElem? (i := 24) rfl))) Via.refl e5 F3 (g := (mkF m 22 #[.val (.ref a0), .val (.ref a1)] [(.ref a1)])) rfl rfl (hb hby d3_22)
      refine .pre (fun _ k => st6 _ k) ?_
      show OwnEnds p e below _ (T6.setTop (mkF m 25 #[.val (.ref a0), .val (.ref a1)] [(.int w3)]))
      by_cases hc25 : w3 = (0 : Int32)
      · rw [if_pos hc25] at hF
        refine .pre (fun _ k => XS.ifNo X6.here hx rfl (hb hby d3_25) rfl ((if0 _ _).trans (teq hc25).2) k) ?_
        show OwnEnds p e below _ (T6.setTop (mkF m 28 #[.val (.ref a0), .val (.ref a1)] []))
        refine .pre (fun _ k => XS.iconst X6.here hx rfl (hb hby d3_28) k) ?_
        show OwnEnds p e below _ (T6.setTop (mkF m 29 #[.val (.ref a0), .val (.ref a1)] [(.int (1 : Int32))]))
        refine .pre (fun _ k => XS.goto X6.here hx rfl (pc0 := 29) (pc' := 33) rfl (hb hby d3_29) (by decide) (by decide) k) ?_
        show OwnEnds p e below _ (T6.setTop (mkF m 33 #[.val (.ref a0), .val (.ref a1)] [(.int (1 : Int32))]))
        exact own_endN X6 hx hlk (t := .boolean) Bd.returns (by simp) (hb hby d3_33) rfl hk hn ⟨congrArg (fun z => some (Value.int z)) hF, N, e6⟩
      · rw [if_neg hc25] at hF
        refine .pre (fun _ k => XS.ifYes X6.here hx rfl (pc0 := 25) (pc' := 32) rfl (hb hby d3_25) rfl ((if0 _ _).trans (feq hc25).2) (by decide) (by decide) k) ?_
        show OwnEnds p e below _ (T6.setTop (mkF m 32 #[.val (.ref a0), .val (.ref a1)] []))
        refine .pre (fun _ k => XS.iconst X6.here hx rfl (hb hby d3_32) k) ?_
        show OwnEnds p e below _ (T6.setTop (mkF m 33 #[.val (.ref a0), .val (.ref a1)] [(.int (0 : Int32))]))
        exact own_endN X6 hx hlk (t := .boolean) Bd.returns (by simp) (hb hby d3_33) rfl hk hn ⟨congrArg (fun z => some (Value.int z)) hF, N, e6⟩
    · rw [if_neg hc18] at hF
      refine .pre (fun _ k => XS.ifYes X5.here hx rfl (pc0 := 18) (pc' := 28) rfl (hb hby d3_18) rfl ((if0 _ _).trans (feq hc18).2) (by decide) (by decide) k) ?_
      show OwnEnds p e below _ (T5.setTop (mkF m 28 #[.val (.ref a0), .val (.ref a1)] []))
      refine .pre (fun _ k => XS.iconst X5.here hx rfl (hb hby d3_28) k) ?_
      show OwnEnds p e below _ (T5.setTop (mkF m 29 #[.val (.ref a0), .val (.ref a1)] [(.int (1 : Int32))]))
      refine .pre (fun _ k => XS.goto X5.here hx rfl (pc0 := 29) (pc' := 33) rfl (hb hby d3_29) (by decide) (by decide) k) ?_
      show OwnEnds p e below _ (T5.setTop (mkF m 33 #[.val (.ref a0), .val (.ref a1)] [(.int (1 : Int32))]))
      exact own_endN X5 hx hlk (t := .boolean) Bd.returns (by simp) (hb hby d3_33) rfl hk hn ⟨congrArg (fun z => some (Value.int z)) hF, N, e5⟩
  have hF : f3_0 w0 w1 w2 w3 = f3_0 w0 w1 w2 w3 := rfl
  change (if w0 = (0 : Int32) then (if w2 = (0 : Int32) then (f3_14 w0 w1 w2 w3) else (0 : Int32)) else (f3_14 w0 w1 w2 w3)) = _ at hF
  show OwnEnds p e below _ (s₁.setTop (mkF m 0 #[.val (.ref a0), .val (.ref a1)] []))
  refine .pre (fun _ k => XS.aloadN X0.here hx rfl (hb hby d3_0) rfl rfl k) ?_
  show OwnEnds p e below _ (s₁.setTop (mkF m 1 #[.val (.ref a0), .val (.ref a1)] [(.ref a0)]))
  obtain ⟨T7, X7, e7, st7⟩ := getF X0 hx hZ hown (host := "") (Or.inl (hw _ (List.mem_of_getElem? (i := 18) rfl))) Via.refl e0 F0 (g := (mkF m 1 #[.val (.ref a0), .val (.ref a1)] [(.ref a0)])) rfl rfl (hb hby d3_1)
  refine .pre (fun _ k => st7 _ k) ?_
  show OwnEnds p e below _ (T7.setTop (mkF m 4 #[.val (.ref a0), .val (.ref a1)] [(.int w0)]))
  by_cases hc4 : w0 = (0 : Int32)
  · rw [if_pos hc4] at hF
    refine .pre (fun _ k => XS.ifNo X7.here hx rfl (hb hby d3_4) rfl ((if0 _ _).trans (teq hc4).2) k) ?_
    show OwnEnds p e below _ (T7.setTop (mkF m 7 #[.val (.ref a0), .val (.ref a1)] []))
    refine .pre (fun _ k => XS.aloadN X7.here hx rfl (hb hby d3_7) rfl rfl k) ?_
    show OwnEnds p e below _ (T7.setTop (mkF m 8 #[.val (.ref a0), .val (.ref a1)] [(.ref a1)]))
    obtain ⟨T8, X8, e8, st8⟩ := getF X7 hx hZ hown (host := "") (Or.inl (hw _ (List.mem_of_getElem? (i := 18) rfl))) Via.refl e7 F2 (g := (mkF m 8 #[.val (.ref a0), .val (.ref a1)] [(.ref a1)])) rfl rfl (hb hby d3_8)
    refine .pre (fun _ k => st8 _ k) ?_
    show OwnEnds p e below _ (T8.setTop (mkF m 11 #[.val (.ref a0), .val (.ref a1)] [(.int w2)]))
    by_cases hc11 : w2 = (0 : Int32)
    · rw [if_pos hc11] at hF
      refine .pre (fun _ k => XS.ifNo X8.here hx rfl (hb hby d3_11) rfl ((if0 _ _).trans (teq hc11).2) k) ?_
      exact B14 T8 _ _ _ X8 e8 N0 hk0 hn0  hF
    · rw [if_neg hc11] at hF
      refine .pre (fun _ k => XS.ifYes X8.here hx rfl (pc0 := 11) (pc' := 32) rfl (hb hby d3_11) rfl ((if0 _ _).trans (feq hc11).2) (by decide) (by decide) k) ?_
      show OwnEnds p e below _ (T8.setTop (mkF m 32 #[.val (.ref a0), .val (.ref a1)] []))
      refine .pre (fun _ k => XS.iconst X8.here hx rfl (hb hby d3_32) k) ?_
      show OwnEnds p e below _ (T8.setTop (mkF m 33 #[.val (.ref a0), .val (.ref a1)] [(.int (0 : Int32))]))
      exact own_endN X8 hx hlk (t := .boolean) Bd.returns (by simp) (hb hby d3_33) rfl hk0 hn0 ⟨congrArg (fun z => some (Value.int z)) hF, N0, e8⟩
  · rw [if_neg hc4] at hF
    refine .pre (fun _ k => XS.ifYes X7.here hx rfl (pc0 := 4) (pc' := 14) rfl (hb hby d3_4) rfl ((if0 _ _).trans (feq hc4).2) (by decide) (by decide) k) ?_
    exact B14 T7 _ _ _ X7 e7 N0 hk0 hn0  hF
def own_pub (p0 : Int32) : Int32 := (if p0 = (0 : Int32) then 0 else (if p0 = (1 : Int32) then 1 else (if p0 = (2 : Int32) then 0 else (if p0 = (3 : Int32) then 1 else 1))))
def own_sub (p0 : Int32) : Int32 := (if p0 = (0 : Int32) then 0 else (if p0 = (1 : Int32) then 0 else (if p0 = (2 : Int32) then 1 else (if p0 = (3 : Int32) then 1 else 1))))
def OwnP (Z : State) (h : Heap) (xDENY : Addr) (xPUB : Addr) (xSUB : Addr) (xPUBSUB : Addr) (xANY : Addr) : Prop := (Exa Z h xDENY "com/example/hardy_queue/hardyqueue/broker/Permission" ∧ Fld Z h xDENY "com/example/hardy_queue/hardyqueue/broker/Permission" "publish" "Z" (.int 0) ∧ Fld Z h xDENY "com/example/hardy_queue/hardyqueue/broker/Permission" "subscribe" "Z" (.int 0)) ∧ (Exa Z h xPUB "com/example/hardy_queue/hardyqueue/broker/Permission" ∧ Fld Z h xPUB "com/example/hardy_queue/hardyqueue/broker/Permission" "publish" "Z" (.int 1) ∧ Fld Z h xPUB "com/example/hardy_queue/hardyqueue/broker/Permission" "subscribe" "Z" (.int 0)) ∧ (Exa Z h xSUB "com/example/hardy_queue/hardyqueue/broker/Permission" ∧ Fld Z h xSUB "com/example/hardy_queue/hardyqueue/broker/Permission" "publish" "Z" (.int 0) ∧ Fld Z h xSUB "com/example/hardy_queue/hardyqueue/broker/Permission" "subscribe" "Z" (.int 1)) ∧ (Exa Z h xPUBSUB "com/example/hardy_queue/hardyqueue/broker/Permission" ∧ Fld Z h xPUBSUB "com/example/hardy_queue/hardyqueue/broker/Permission" "publish" "Z" (.int 1) ∧ Fld Z h xPUBSUB "com/example/hardy_queue/hardyqueue/broker/Permission" "subscribe" "Z" (.int 1)) ∧ (Exa Z h xANY "com/example/hardy_queue/hardyqueue/broker/Permission" ∧ Fld Z h xANY "com/example/hardy_queue/hardyqueue/broker/Permission" "publish" "Z" (.int 1) ∧ Fld Z h xANY "com/example/hardy_queue/hardyqueue/broker/Permission" "subscribe" "Z" (.int 1))
theorem own_pk {Z : State} {h : Heap} {xDENY xPUB xSUB xPUBSUB xANY : Addr} (H : OwnP Z h xDENY xPUB xSUB xPUBSUB xANY) (i : Int32) : Exa Z h (f2_0 xDENY xPUB xSUB xPUBSUB xANY i) "com/example/hardy_queue/hardyqueue/broker/Permission" ∧ Fld Z h (f2_0 xDENY xPUB xSUB xPUBSUB xANY i) "com/example/hardy_queue/hardyqueue/broker/Permission" "publish" "Z" (.int (own_pub i)) ∧ Fld Z h (f2_0 xDENY xPUB xSUB xPUBSUB xANY i) "com/example/hardy_queue/hardyqueue/broker/Permission" "subscribe" "Z" (.int (own_sub i)) := by
  obtain ⟨H0, H1, H2, H3, H4⟩ := H
  unfold f2_0 own_pub own_sub
  by_cases c0 : i = 0
  · simp only [if_pos c0]; exact H0
  · simp only [if_neg c0]
    by_cases c1 : i = 1
    · simp only [if_pos c1]; exact H1
    · simp only [if_neg c1]
      by_cases c2 : i = 2
      · simp only [if_pos c2]; exact H2
      · simp only [if_neg c2]
        by_cases c3 : i = 3
        · simp only [if_pos c3]; exact H3
        · simp only [if_neg c3]; exact H4
theorem ef_0 (m : MethodId) (p0 : Int32) (p1 : Int32) : entryFrame m #[(.int p0), (.int p1)] maxLocals = mkF m 0 #[.val (.int p0), .val (.int p1), .unset, .unset, .unset] [] := by first | (simp [entryFrame, mkF, argsToLocals, Value.category, maxLocals]; done) | rfl
theorem pd_2 : parseMethodDescriptor "(I)I" = some ⟨[.int], some .int⟩ := by decide +kernel
theorem pd_3 : parseMethodDescriptor "(I)Lcom/example/hardy_queue/hardyqueue/broker/Permission;" = some ⟨[.int], some (.object "com/example/hardy_queue/hardyqueue/broker/Permission")⟩ := by decide +kernel
theorem pd_4 : parseMethodDescriptor "(Lcom/example/hardy_queue/hardyqueue/broker/Permission;)Z" = some ⟨[(.object "com/example/hardy_queue/hardyqueue/broker/Permission")], some .boolean⟩ := by decide +kernel
def f0_33 (xDENY : Addr) (xPUB : Addr) (xSUB : Addr) (xPUBSUB : Addr) (xANY : Addr) (i2 : Int32) (i3 : Int32) (t0 : Int32) : Int32 := (if (f3_0 (own_pub i2) (own_sub i2) (own_pub i3) (own_sub i3)) = t0 then (1 : Int32) else (0 : Int32))
def f0_0 (xDENY : Addr) (xPUB : Addr) (xSUB : Addr) (xPUBSUB : Addr) (xANY : Addr) (p0 : Int32) (p1 : Int32) : Int32 := (if ((f1_0 ((p1 &&& (2147483647 : Int32)) % (5 : Int32))) &&& ((f1_0 ((p0 &&& (2147483647 : Int32)) % (5 : Int32))) ^^^ (-1 : Int32))) = (0 : Int32) then (f0_33 xDENY xPUB xSUB xPUBSUB xANY ((p0 &&& (2147483647 : Int32)) % (5 : Int32)) ((p1 &&& (2147483647 : Int32)) % (5 : Int32)) (1 : Int32)) else (f0_33 xDENY xPUB xSUB xPUBSUB xANY ((p0 &&& (2147483647 : Int32)) % (5 : Int32)) ((p1 &&& (2147483647 : Int32)) % (5 : Int32)) (0 : Int32)))
def Q0 (Z : State) (p0 : Int32) (p1 : Int32) (xDENY : Addr) (xPUB : Addr) (xSUB : Addr) (xPUBSUB : Addr) (xANY : Addr) (h0 : Heap) (n0 : Nat) (v : Option Value) (h : Heap) (L : List Loc) : Prop := v = some (.int (f0_0 xDENY xPUB xSUB xPUBSUB xANY p0 p1)) ∧ Fr n0 L ∧ h = h0
set_option maxRecDepth 65536 in
set_option maxHeartbeats 40000000 in
theorem rm0 (l : Launch) (Z : State) (aZ : Array Value) (hw : ∀ d ∈ tables_1, d.before aZ Z = true) (ws : List Jvm.Cond) (p0 : Int32) (p1 : Int32) (xDENY : Addr) (xPUB : Addr) (xSUB : Addr) (xPUBSUB : Addr) (xANY : Addr) (h0 : Heap) (n0 : Nat) (Z0 : n0 ≤ h0.size) (S0 : Sta Z h0 "com/example/hardy_queue/hardyqueue/broker/Permission" "DENY" "Lcom/example/hardy_queue/hardyqueue/broker/Permission;" (.ref xDENY)) (S1 : Sta Z h0 "com/example/hardy_queue/hardyqueue/broker/Permission" "PUB" "Lcom/example/hardy_queue/hardyqueue/broker/Permission;" (.ref xPUB)) (S2 : Sta Z h0 "com/example/hardy_queue/hardyqueue/broker/Permission" "SUB" "Lcom/example/hardy_queue/hardyqueue/broker/Permission;" (.ref xSUB)) (S3 : Sta Z h0 "com/example/hardy_queue/hardyqueue/broker/Permission" "PUB_SUB" "Lcom/example/hardy_queue/hardyqueue/broker/Permission;" (.ref xPUBSUB)) (S4 : Sta Z h0 "com/example/hardy_queue/hardyqueue/broker/Permission" "ANY" "Lcom/example/hardy_queue/hardyqueue/broker/Permission;" (.ref xANY)) (HP : OwnP Z h0 xDENY xPUB xSUB xPUBSUB xANY) :
    MetFree l x (head1 (Jvm.Cond.code x code maxLocals ret :: ws) room_1) (fun a U => a = #[(.int p0), (.int p1)] ∧ Z.Warmed39 U.vm ∧ U.heap = h0) (fun _ _ _ _ _ => True) (fun _ U o U' => ∃ v L, o = .returned v ∧ Q0 Z p0 p1 xDENY xPUB xSUB xPUBSUB xANY h0 n0 v U'.heap L ∧ FrameEnd U o U' L 0 0) := by
  refine MetFree.of_bodySF (plainFor_of_name pn_0) hisR ?_
  intro p e s m args below meth c s₁ Bd hml0 hP hK
  obtain ⟨rfl, hZ, hh⟩ := hP
  have hx := Bd.exec
  have hby := Bd.bytes
  have hml : c.maxLocals = 5 := hml0
  have hown : s.vm.findClass "com/example/hardy_queue/hardyqueue/broker/PermissionAllowsPinLaw" = some m.cls := findClass_of_methodNamed Bd.named
  have hnm := (name_of_methodNamed Bd.named Bd.method).1
  have hlk := BodyLoose.notSynchronized Bd
  have X0 : Stand p l e room_1 s m #[(.int p0), (.int p1)] below meth c s₁ [] 0 0 := Stand.of_body Bd
  have e0 : s₁.heap = h0 := by rw [← hh, Bd.state]; rfl
  have N0 := Fr.nil n0
  have hk0 : 0 ≤ 0 := Nat.zero_le _
  have hn0 : 0 ≤ 0 := Nat.zero_le _
  show OwnEnds p e below (OwnQ s (Q0 Z p0 p1 xDENY xPUB xSUB xPUBSUB xANY h0 n0) 0 0) (s₁.setTop (entryFrame m #[(.int p0), (.int p1)] maxLocals))
  refine .pre (fun t k => castTop (ef_0 m p0 p1) k) ?_
  have B33 : ∀ (T : State) (L : List Loc) (k n : Nat) (X : Stand p l e room_1 s m #[(.int p0), (.int p1)] below meth c T L k n) (eT : T.heap = h0) (N : Fr n0 L) (hk : k ≤ 0) (hn : n ≤ 0) (i0 : Int32) (i1 : Int32) (i2 : Int32) (i3 : Int32) (t0 : Int32), f0_33 xDENY xPUB xSUB xPUBSUB xANY i2 i3 t0 = f0_0 xDENY xPUB xSUB xPUBSUB xANY p0 p1 → OwnEnds p e below (OwnQ s (Q0 Z p0 p1 xDENY xPUB xSUB xPUBSUB xANY h0 n0) 0 0) (T.setTop (mkF m 33 #[.val (.int i0), .val (.int i1), .val (.int i2), .val (.int i3), .unset] [(.int t0)])) := by
    intro T L k n X eT N hk hn i0 i1 i2 i3 t0 hF
    change (if (f3_0 (own_pub i2) (own_sub i2) (own_pub i3) (own_sub i3)) = t0 then (1 : Int32) else (0 : Int32)) = _ at hF
    show OwnEnds p e below _ (T.setTop (mkF m 33 #[.val (.int i0), .val (.int i1), .val (.int i2), .val (.int i3), .unset] [(.int t0)]))
    refine .pre (fun _ k => XS.istore X.here hx rfl (hb hby at_33) rfl (l' := #[.val (.int i0), .val (.int i1), .val (.int i2), .val (.int i3), .val (.int t0)]) rfl k) ?_
    show OwnEnds p e below _ (T.setTop (mkF m 35 #[.val (.int i0), .val (.int i1), .val (.int i2), .val (.int i3), .val (.int t0)] []))
    refine .pre (fun _ k => XS.iloadN X.here hx rfl (hb hby at_35) rfl k) ?_
    show OwnEnds p e below _ (T.setTop (mkF m 36 #[.val (.int i0), .val (.int i1), .val (.int i2), .val (.int i3), .val (.int t0)] [(.int i2)]))
    obtain ⟨_, _, ⟨T6, L6, k6, n6⟩, -, X6, ⟨Lc6, hQ6, l6, y6, z6⟩, st6⟩ := Jvm.LawKit.callS X hx (y := (⟨"com/example/hardy_queue/hardyqueue/broker/PermissionAllowsPinLaw", "pick", "(I)Lcom/example/hardy_queue/hardyqueue/broker/Permission;"⟩ : MethodName)) hown (mvT hZ (hw _ (List.mem_of_getElem? (i := 5) rfl))) (mvT hZ (hw _ (List.mem_of_getElem? (i := 6) rfl))) (mvT hZ (hw _ (List.mem_of_getElem? (i := 3) rfl))) (mvT hZ (hw _ (List.mem_of_getElem? (i := 7) rfl))) (by decide) (backOf (W := 0) (rm2 l Z aZ hw [] i2 xDENY xPUB xSUB xPUBSUB xANY h0 n0 Z0 S0 S1 S2 S3 S4) hZ (hw _ (List.mem_of_getElem? (i := 7) rfl)) (hw _ (List.mem_of_getElem? (i := 3) rfl)) (by decide) (by decide)) (g := (mkF m 36 #[.val (.int i0), .val (.int i1), .val (.int i2), .val (.int i3), .val (.int t0)] [(.int i2)])) rfl (by rw [hml]; rfl) (argsL := [(.int i2)]) (rest := []) (lenOf pd_3 rfl) rfl (by show 2 * 0 + _ ≤ _; exact Nat.le_of_eq rfl) (hb hby at_36) (fun _ _ => ⟨rfl, eT, Nat.le_trans (Nat.add_le_add_right hk 0) (by decide : 0 + 0 ≤ _), Nat.le_trans (Nat.add_le_add_right hn 0) (by decide : 0 + 0 ≤ _)⟩)
    dsimp only [Pt.U, Pt.locs, Pt.cells, Pt.slots] at X6 l6 y6 z6 st6 hQ6
    subst l6 y6 z6
    obtain ⟨rfl, N6q, e6⟩ := hQ6
    have N6 := Fr.app N N6q
    refine .pre (fun _ k => st6 _ k) ?_
    show OwnEnds p e below _ (T6.setTop (mkF m 39 #[.val (.int i0), .val (.int i1), .val (.int i2), .val (.int i3), .val (.int t0)] [(.ref (f2_0 xDENY xPUB xSUB xPUBSUB xANY i2))]))
    refine .pre (fun _ k => XS.iloadN X6.here hx rfl (hb hby at_39) rfl k) ?_
    show OwnEnds p e below _ (T6.setTop (mkF m 40 #[.val (.int i0), .val (.int i1), .val (.int i2), .val (.int i3), .val (.int t0)] [(.int i3), (.ref (f2_0 xDENY xPUB xSUB xPUBSUB xANY i2))]))
    obtain ⟨_, _, ⟨T7, L7, k7, n7⟩, -, X7, ⟨Lc7, hQ7, l7, y7, z7⟩, st7⟩ := Jvm.LawKit.callS X6 hx (y := (⟨"com/example/hardy_queue/hardyqueue/broker/PermissionAllowsPinLaw", "pick", "(I)Lcom/example/hardy_queue/hardyqueue/broker/Permission;"⟩ : MethodName)) hown (mvT hZ (hw _ (List.mem_of_getElem? (i := 5) rfl))) (mvT hZ (hw _ (List.mem_of_getElem? (i := 6) rfl))) (mvT hZ (hw _ (List.mem_of_getElem? (i := 3) rfl))) (mvT hZ (hw _ (List.mem_of_getElem? (i := 7) rfl))) (by decide) (backOf (W := 1) (rm2 l Z aZ hw [] i3 xDENY xPUB xSUB xPUBSUB xANY h0 n0 Z0 S0 S1 S2 S3 S4) hZ (hw _ (List.mem_of_getElem? (i := 7) rfl)) (hw _ (List.mem_of_getElem? (i := 3) rfl)) (by decide) (by decide)) (g := (mkF m 40 #[.val (.int i0), .val (.int i1), .val (.int i2), .val (.int i3), .val (.int t0)] [(.int i3), (.ref (f2_0 xDENY xPUB xSUB xPUBSUB xANY i2))])) rfl (by rw [hml]; rfl) (argsL := [(.int i3)]) (rest := [(.ref (f2_0 xDENY xPUB xSUB xPUBSUB xANY i2))]) (lenOf pd_3 rfl) rfl (by show 2 * 0 + _ ≤ _; exact Nat.le_of_eq rfl) (hb hby at_40) (fun _ _ => ⟨rfl, e6, Nat.le_trans (Nat.add_le_add_right hk 0) (by decide : 0 + 0 ≤ _), Nat.le_trans (Nat.add_le_add_right hn 0) (by decide : 0 + 0 ≤ _)⟩)
    dsimp only [Pt.U, Pt.locs, Pt.cells, Pt.slots] at X7 l7 y7 z7 st7 hQ7
    subst l7 y7 z7
    obtain ⟨rfl, N7q, e7⟩ := hQ7
    have N7 := Fr.app N6 N7q
    refine .pre (fun _ k => st7 _ k) ?_
    show OwnEnds p e below _ (T7.setTop (mkF m 43 #[.val (.int i0), .val (.int i1), .val (.int i2), .val (.int i3), .val (.int t0)] [(.ref (f2_0 xDENY xPUB xSUB xPUBSUB xANY i3)), (.ref (f2_0 xDENY xPUB xSUB xPUBSUB xANY i2))]))
    obtain ⟨cq8, kq8, q8a, q8b, q8c⟩ := isOf hZ e7 (own_pk HP i2).1
    obtain ⟨_, _, ⟨T8, L8, k8, n8⟩, -, X8, ⟨Lc8, hQ8, l8, y8, z8⟩, st8⟩ := X7.virtualBack hx (y := (⟨"com/example/hardy_queue/hardyqueue/broker/Permission", "allows", "(Lcom/example/hardy_queue/hardyqueue/broker/Permission;)Z"⟩ : MethodName)) (z := (⟨"com/example/hardy_queue/hardyqueue/broker/Permission", "allows", "(Lcom/example/hardy_queue/hardyqueue/broker/Permission;)Z"⟩ : MethodName)) hown (mvT hZ (hw _ (List.mem_of_getElem? (i := 13) rfl))) (mvT hZ (hw _ (List.mem_of_getElem? (i := 14) rfl))) (notFace_of_selects (args := #[]) (mvT hZ (hw _ (List.mem_of_getElem? (i := 16) rfl)))) (mvT hZ (hw _ (List.mem_of_getElem? (i := 16) rfl))) (mvT hZ (hw _ (List.mem_of_getElem? (i := 15) rfl))) (by decide) (backOf (W := 0) (rm3 l Z aZ hw [] (f2_0 xDENY xPUB xSUB xPUBSUB xANY i2) (f2_0 xDENY xPUB xSUB xPUBSUB xANY i3) (own_pub i2) (own_sub i2) (own_pub i3) (own_sub i3) h0 n0 Z0 (own_pk HP _).2.1 (own_pk HP _).2.2 (own_pk HP _).2.1 (own_pk HP _).2.2) hZ (hw _ (List.mem_of_getElem? (i := 17) rfl)) (hw _ (List.mem_of_getElem? (i := 9) rfl)) (by decide) (by decide)) q8a q8c (g := (mkF m 43 #[.val (.int i0), .val (.int i1), .val (.int i2), .val (.int i3), .val (.int t0)] [(.ref (f2_0 xDENY xPUB xSUB xPUBSUB xANY i3)), (.ref (f2_0 xDENY xPUB xSUB xPUBSUB xANY i2))])) rfl (by rw [hml]; rfl) (Steps.refl _) (argsL := [(.ref (f2_0 xDENY xPUB xSUB xPUBSUB xANY i3))]) (rest := []) (lenOf pd_4 rfl) rfl (by show 2 * 0 + _ ≤ _; exact Nat.le_of_eq rfl) (hb hby at_43) (fun _ _ => ⟨rfl, e7, Nat.le_trans (Nat.add_le_add_right hk 0) (by decide : 0 + 0 ≤ _), Nat.le_trans (Nat.add_le_add_right hn 0) (by decide : 0 + 0 ≤ _)⟩)
    dsimp only [Pt.U, Pt.locs, Pt.cells, Pt.slots] at X8 l8 y8 z8 st8 hQ8
    subst l8 y8 z8
    obtain ⟨rfl, N8q, e8⟩ := hQ8
    have N8 := Fr.app N7 N8q
    refine .pre (fun _ k => st8.trans k) ?_
    show OwnEnds p e below _ (T8.setTop (mkF m 46 #[.val (.int i0), .val (.int i1), .val (.int i2), .val (.int i3), .val (.int t0)] [(.int (f3_0 (own_pub i2) (own_sub i2) (own_pub i3) (own_sub i3)))]))
    refine .pre (fun _ k => XS.iload X8.here hx rfl (hb hby at_46) rfl k) ?_
    show OwnEnds p e below _ (T8.setTop (mkF m 48 #[.val (.int i0), .val (.int i1), .val (.int i2), .val (.int i3), .val (.int t0)] [(.int t0), (.int (f3_0 (own_pub i2) (own_sub i2) (own_pub i3) (own_sub i3)))]))
    by_cases hc48 : (f3_0 (own_pub i2) (own_sub i2) (own_pub i3) (own_sub i3)) = t0
    · rw [if_pos hc48] at hF
      refine .pre (fun _ k => XS.icmpNo X8.here hx rfl (hb hby at_48) rfl (teq hc48).2 k) ?_
      show OwnEnds p e below _ (T8.setTop (mkF m 51 #[.val (.int i0), .val (.int i1), .val (.int i2), .val (.int i3), .val (.int t0)] []))
      refine .pre (fun _ k => XS.iconst X8.here hx rfl (hb hby at_51) k) ?_
      show OwnEnds p e below _ (T8.setTop (mkF m 52 #[.val (.int i0), .val (.int i1), .val (.int i2), .val (.int i3), .val (.int t0)] [(.int (1 : Int32))]))
      refine .pre (fun _ k => XS.goto X8.here hx rfl (pc0 := 52) (pc' := 56) rfl (hb hby at_52) (by decide) (by decide) k) ?_
      show OwnEnds p e below _ (T8.setTop (mkF m 56 #[.val (.int i0), .val (.int i1), .val (.int i2), .val (.int i3), .val (.int t0)] [(.int (1 : Int32))]))
      exact own_endN X8 hx hlk (t := .boolean) Bd.returns (by simp) (hb hby at_56) rfl hk hn ⟨congrArg (fun z => some (Value.int z)) hF, N8, e8⟩
    · rw [if_neg hc48] at hF
      refine .pre (fun _ k => XS.icmpYes X8.here hx rfl (pc0 := 48) (pc' := 55) rfl (hb hby at_48) rfl (feq hc48).2 (by decide) (by decide) k) ?_
      show OwnEnds p e below _ (T8.setTop (mkF m 55 #[.val (.int i0), .val (.int i1), .val (.int i2), .val (.int i3), .val (.int t0)] []))
      refine .pre (fun _ k => XS.iconst X8.here hx rfl (hb hby at_55) k) ?_
      show OwnEnds p e below _ (T8.setTop (mkF m 56 #[.val (.int i0), .val (.int i1), .val (.int i2), .val (.int i3), .val (.int t0)] [(.int (0 : Int32))]))
      exact own_endN X8 hx hlk (t := .boolean) Bd.returns (by simp) (hb hby at_56) rfl hk hn ⟨congrArg (fun z => some (Value.int z)) hF, N8, e8⟩
  have hF : f0_0 xDENY xPUB xSUB xPUBSUB xANY p0 p1 = f0_0 xDENY xPUB xSUB xPUBSUB xANY p0 p1 := rfl
  change (if ((f1_0 ((p1 &&& (2147483647 : Int32)) % (5 : Int32))) &&& ((f1_0 ((p0 &&& (2147483647 : Int32)) % (5 : Int32))) ^^^ (-1 : Int32))) = (0 : Int32) then (f0_33 xDENY xPUB xSUB xPUBSUB xANY ((p0 &&& (2147483647 : Int32)) % (5 : Int32)) ((p1 &&& (2147483647 : Int32)) % (5 : Int32)) (1 : Int32)) else (f0_33 xDENY xPUB xSUB xPUBSUB xANY ((p0 &&& (2147483647 : Int32)) % (5 : Int32)) ((p1 &&& (2147483647 : Int32)) % (5 : Int32)) (0 : Int32))) = _ at hF
  show OwnEnds p e below _ (s₁.setTop (mkF m 0 #[.val (.int p0), .val (.int p1), .unset, .unset, .unset] []))
  refine .pre (fun _ k => XS.iloadN X0.here hx rfl (hb hby at_0) rfl k) ?_
  show OwnEnds p e below _ (s₁.setTop (mkF m 1 #[.val (.int p0), .val (.int p1), .unset, .unset, .unset] [(.int p0)]))
  refine .pre (fun _ k => X0.ldcInt hx hown (mvT hZ (hw _ (List.mem_of_getElem? (i := 0) rfl))) (g := (mkF m 1 #[.val (.int p0), .val (.int p1), .unset, .unset, .unset] [(.int p0)])) rfl (hb hby at_1) _ k) ?_
  show OwnEnds p e below _ (s₁.setTop (mkF m 3 #[.val (.int p0), .val (.int p1), .unset, .unset, .unset] [(.int (2147483647 : Int32)), (.int p0)]))
  refine .pre (fun _ k => XS.iand X0.here hx rfl (hb hby at_3) rfl k) ?_
  show OwnEnds p e below _ (s₁.setTop (mkF m 4 #[.val (.int p0), .val (.int p1), .unset, .unset, .unset] [(.int (p0 &&& (2147483647 : Int32)))]))
  refine .pre (fun _ k => XS.iconst X0.here hx rfl (hb hby at_4) k) ?_
  show OwnEnds p e below _ (s₁.setTop (mkF m 5 #[.val (.int p0), .val (.int p1), .unset, .unset, .unset] [(.int (5 : Int32)), (.int (p0 &&& (2147483647 : Int32)))]))
  refine .pre (fun _ k => iremM X0 hx rfl (hb hby at_5) rfl (by decide) k) ?_
  show OwnEnds p e below _ (s₁.setTop (mkF m 6 #[.val (.int p0), .val (.int p1), .unset, .unset, .unset] [(.int ((p0 &&& (2147483647 : Int32)) % (5 : Int32)))]))
  refine .pre (fun _ k => XS.istoreN X0.here hx rfl (hb hby at_6) rfl (l' := #[.val (.int p0), .val (.int p1), .val (.int ((p0 &&& (2147483647 : Int32)) % (5 : Int32))), .unset, .unset]) rfl k) ?_
  show OwnEnds p e below _ (s₁.setTop (mkF m 7 #[.val (.int p0), .val (.int p1), .val (.int ((p0 &&& (2147483647 : Int32)) % (5 : Int32))), .unset, .unset] []))
  refine .pre (fun _ k => XS.iloadN X0.here hx rfl (hb hby at_7) rfl k) ?_
  show OwnEnds p e below _ (s₁.setTop (mkF m 8 #[.val (.int p0), .val (.int p1), .val (.int ((p0 &&& (2147483647 : Int32)) % (5 : Int32))), .unset, .unset] [(.int p1)]))
  refine .pre (fun _ k => X0.ldcInt hx hown (mvT hZ (hw _ (List.mem_of_getElem? (i := 0) rfl))) (g := (mkF m 8 #[.val (.int p0), .val (.int p1), .val (.int ((p0 &&& (2147483647 : Int32)) % (5 : Int32))), .unset, .unset] [(.int p1)])) rfl (hb hby at_8) _ k) ?_
  show OwnEnds p e below _ (s₁.setTop (mkF m 10 #[.val (.int p0), .val (.int p1), .val (.int ((p0 &&& (2147483647 : Int32)) % (5 : Int32))), .unset, .unset] [(.int (2147483647 : Int32)), (.int p1)]))
  refine .pre (fun _ k => XS.iand X0.here hx rfl (hb hby at_10) rfl k) ?_
  show OwnEnds p e below _ (s₁.setTop (mkF m 11 #[.val (.int p0), .val (.int p1), .val (.int ((p0 &&& (2147483647 : Int32)) % (5 : Int32))), .unset, .unset] [(.int (p1 &&& (2147483647 : Int32)))]))
  refine .pre (fun _ k => XS.iconst X0.here hx rfl (hb hby at_11) k) ?_
  show OwnEnds p e below _ (s₁.setTop (mkF m 12 #[.val (.int p0), .val (.int p1), .val (.int ((p0 &&& (2147483647 : Int32)) % (5 : Int32))), .unset, .unset] [(.int (5 : Int32)), (.int (p1 &&& (2147483647 : Int32)))]))
  refine .pre (fun _ k => iremM X0 hx rfl (hb hby at_12) rfl (by decide) k) ?_
  show OwnEnds p e below _ (s₁.setTop (mkF m 13 #[.val (.int p0), .val (.int p1), .val (.int ((p0 &&& (2147483647 : Int32)) % (5 : Int32))), .unset, .unset] [(.int ((p1 &&& (2147483647 : Int32)) % (5 : Int32)))]))
  refine .pre (fun _ k => XS.istoreN X0.here hx rfl (hb hby at_13) rfl (l' := #[.val (.int p0), .val (.int p1), .val (.int ((p0 &&& (2147483647 : Int32)) % (5 : Int32))), .val (.int ((p1 &&& (2147483647 : Int32)) % (5 : Int32))), .unset]) rfl k) ?_
  show OwnEnds p e below _ (s₁.setTop (mkF m 14 #[.val (.int p0), .val (.int p1), .val (.int ((p0 &&& (2147483647 : Int32)) % (5 : Int32))), .val (.int ((p1 &&& (2147483647 : Int32)) % (5 : Int32))), .unset] []))
  refine .pre (fun _ k => XS.iloadN X0.here hx rfl (hb hby at_14) rfl k) ?_
  show OwnEnds p e below _ (s₁.setTop (mkF m 15 #[.val (.int p0), .val (.int p1), .val (.int ((p0 &&& (2147483647 : Int32)) % (5 : Int32))), .val (.int ((p1 &&& (2147483647 : Int32)) % (5 : Int32))), .unset] [(.int ((p1 &&& (2147483647 : Int32)) % (5 : Int32)))]))
  obtain ⟨_, _, ⟨T9, L9, k9, n9⟩, -, X9, ⟨Lc9, hQ9, l9, y9, z9⟩, st9⟩ := Jvm.LawKit.callS X0 hx (y := (⟨"com/example/hardy_queue/hardyqueue/broker/PermissionAllowsPinLaw", "rights", "(I)I"⟩ : MethodName)) hown (mvT hZ (hw _ (List.mem_of_getElem? (i := 1) rfl))) (mvT hZ (hw _ (List.mem_of_getElem? (i := 2) rfl))) (mvT hZ (hw _ (List.mem_of_getElem? (i := 3) rfl))) (mvT hZ (hw _ (List.mem_of_getElem? (i := 4) rfl))) (by decide) (backOf (W := 0) (rm1 l Z aZ hw [] ((p1 &&& (2147483647 : Int32)) % (5 : Int32)) h0 n0 Z0) hZ (hw _ (List.mem_of_getElem? (i := 4) rfl)) (hw _ (List.mem_of_getElem? (i := 3) rfl)) (by decide) (by decide)) (g := (mkF m 15 #[.val (.int p0), .val (.int p1), .val (.int ((p0 &&& (2147483647 : Int32)) % (5 : Int32))), .val (.int ((p1 &&& (2147483647 : Int32)) % (5 : Int32))), .unset] [(.int ((p1 &&& (2147483647 : Int32)) % (5 : Int32)))])) rfl (by rw [hml]; rfl) (argsL := [(.int ((p1 &&& (2147483647 : Int32)) % (5 : Int32)))]) (rest := []) (lenOf pd_2 rfl) rfl (by show 2 * 0 + _ ≤ _; exact Nat.le_of_eq rfl) (hb hby at_15) (fun _ _ => ⟨rfl, e0, (by decide : 0 + 0 ≤ _), (by decide : 0 + 0 ≤ _)⟩)
  dsimp only [Pt.U, Pt.locs, Pt.cells, Pt.slots] at X9 l9 y9 z9 st9 hQ9
  subst l9 y9 z9
  obtain ⟨rfl, N9q, e9⟩ := hQ9
  have N9 := Fr.app N0 N9q
  refine .pre (fun _ k => st9 _ k) ?_
  show OwnEnds p e below _ (T9.setTop (mkF m 18 #[.val (.int p0), .val (.int p1), .val (.int ((p0 &&& (2147483647 : Int32)) % (5 : Int32))), .val (.int ((p1 &&& (2147483647 : Int32)) % (5 : Int32))), .unset] [(.int (f1_0 ((p1 &&& (2147483647 : Int32)) % (5 : Int32))))]))
  refine .pre (fun _ k => XS.iloadN X9.here hx rfl (hb hby at_18) rfl k) ?_
  show OwnEnds p e below _ (T9.setTop (mkF m 19 #[.val (.int p0), .val (.int p1), .val (.int ((p0 &&& (2147483647 : Int32)) % (5 : Int32))), .val (.int ((p1 &&& (2147483647 : Int32)) % (5 : Int32))), .unset] [(.int ((p0 &&& (2147483647 : Int32)) % (5 : Int32))), (.int (f1_0 ((p1 &&& (2147483647 : Int32)) % (5 : Int32))))]))
  obtain ⟨_, _, ⟨T10, L10, k10, n10⟩, -, X10, ⟨Lc10, hQ10, l10, y10, z10⟩, st10⟩ := Jvm.LawKit.callS X9 hx (y := (⟨"com/example/hardy_queue/hardyqueue/broker/PermissionAllowsPinLaw", "rights", "(I)I"⟩ : MethodName)) hown (mvT hZ (hw _ (List.mem_of_getElem? (i := 1) rfl))) (mvT hZ (hw _ (List.mem_of_getElem? (i := 2) rfl))) (mvT hZ (hw _ (List.mem_of_getElem? (i := 3) rfl))) (mvT hZ (hw _ (List.mem_of_getElem? (i := 4) rfl))) (by decide) (backOf (W := 1) (rm1 l Z aZ hw [] ((p0 &&& (2147483647 : Int32)) % (5 : Int32)) h0 n0 Z0) hZ (hw _ (List.mem_of_getElem? (i := 4) rfl)) (hw _ (List.mem_of_getElem? (i := 3) rfl)) (by decide) (by decide)) (g := (mkF m 19 #[.val (.int p0), .val (.int p1), .val (.int ((p0 &&& (2147483647 : Int32)) % (5 : Int32))), .val (.int ((p1 &&& (2147483647 : Int32)) % (5 : Int32))), .unset] [(.int ((p0 &&& (2147483647 : Int32)) % (5 : Int32))), (.int (f1_0 ((p1 &&& (2147483647 : Int32)) % (5 : Int32))))])) rfl (by rw [hml]; rfl) (argsL := [(.int ((p0 &&& (2147483647 : Int32)) % (5 : Int32)))]) (rest := [(.int (f1_0 ((p1 &&& (2147483647 : Int32)) % (5 : Int32))))]) (lenOf pd_2 rfl) rfl (by show 2 * 0 + _ ≤ _; exact Nat.le_of_eq rfl) (hb hby at_19) (fun _ _ => ⟨rfl, e9, (by decide : 0 + 0 ≤ _), (by decide : 0 + 0 ≤ _)⟩)
  dsimp only [Pt.U, Pt.locs, Pt.cells, Pt.slots] at X10 l10 y10 z10 st10 hQ10
  subst l10 y10 z10
  obtain ⟨rfl, N10q, e10⟩ := hQ10
  have N10 := Fr.app N9 N10q
  refine .pre (fun _ k => st10 _ k) ?_
  show OwnEnds p e below _ (T10.setTop (mkF m 22 #[.val (.int p0), .val (.int p1), .val (.int ((p0 &&& (2147483647 : Int32)) % (5 : Int32))), .val (.int ((p1 &&& (2147483647 : Int32)) % (5 : Int32))), .unset] [(.int (f1_0 ((p0 &&& (2147483647 : Int32)) % (5 : Int32)))), (.int (f1_0 ((p1 &&& (2147483647 : Int32)) % (5 : Int32))))]))
  refine .pre (fun _ k => XS.iconst X10.here hx rfl (hb hby at_22) k) ?_
  show OwnEnds p e below _ (T10.setTop (mkF m 23 #[.val (.int p0), .val (.int p1), .val (.int ((p0 &&& (2147483647 : Int32)) % (5 : Int32))), .val (.int ((p1 &&& (2147483647 : Int32)) % (5 : Int32))), .unset] [(.int (-1 : Int32)), (.int (f1_0 ((p0 &&& (2147483647 : Int32)) % (5 : Int32)))), (.int (f1_0 ((p1 &&& (2147483647 : Int32)) % (5 : Int32))))]))
  refine .pre (fun _ k => XS.ixor X10.here hx rfl (hb hby at_23) rfl k) ?_
  show OwnEnds p e below _ (T10.setTop (mkF m 24 #[.val (.int p0), .val (.int p1), .val (.int ((p0 &&& (2147483647 : Int32)) % (5 : Int32))), .val (.int ((p1 &&& (2147483647 : Int32)) % (5 : Int32))), .unset] [(.int ((f1_0 ((p0 &&& (2147483647 : Int32)) % (5 : Int32))) ^^^ (-1 : Int32))), (.int (f1_0 ((p1 &&& (2147483647 : Int32)) % (5 : Int32))))]))
  refine .pre (fun _ k => XS.iand X10.here hx rfl (hb hby at_24) rfl k) ?_
  show OwnEnds p e below _ (T10.setTop (mkF m 25 #[.val (.int p0), .val (.int p1), .val (.int ((p0 &&& (2147483647 : Int32)) % (5 : Int32))), .val (.int ((p1 &&& (2147483647 : Int32)) % (5 : Int32))), .unset] [(.int ((f1_0 ((p1 &&& (2147483647 : Int32)) % (5 : Int32))) &&& ((f1_0 ((p0 &&& (2147483647 : Int32)) % (5 : Int32))) ^^^ (-1 : Int32))))]))
  by_cases hc25 : ((f1_0 ((p1 &&& (2147483647 : Int32)) % (5 : Int32))) &&& ((f1_0 ((p0 &&& (2147483647 : Int32)) % (5 : Int32))) ^^^ (-1 : Int32))) = (0 : Int32)
  · rw [if_pos hc25] at hF
    refine .pre (fun _ k => XS.ifNo X10.here hx rfl (hb hby at_25) rfl ((if0 _ _).trans (teq hc25).2) k) ?_
    show OwnEnds p e below _ (T10.setTop (mkF m 28 #[.val (.int p0), .val (.int p1), .val (.int ((p0 &&& (2147483647 : Int32)) % (5 : Int32))), .val (.int ((p1 &&& (2147483647 : Int32)) % (5 : Int32))), .unset] []))
    refine .pre (fun _ k => XS.iconst X10.here hx rfl (hb hby at_28) k) ?_
    show OwnEnds p e below _ (T10.setTop (mkF m 29 #[.val (.int p0), .val (.int p1), .val (.int ((p0 &&& (2147483647 : Int32)) % (5 : Int32))), .val (.int ((p1 &&& (2147483647 : Int32)) % (5 : Int32))), .unset] [(.int (1 : Int32))]))
    refine .pre (fun _ k => XS.goto X10.here hx rfl (pc0 := 29) (pc' := 33) rfl (hb hby at_29) (by decide) (by decide) k) ?_
    exact B33 T10 _ _ _ X10 e10 N10 hk0 hn0 p0 p1 ((p0 &&& (2147483647 : Int32)) % (5 : Int32)) ((p1 &&& (2147483647 : Int32)) % (5 : Int32)) (1 : Int32) hF
  · rw [if_neg hc25] at hF
    refine .pre (fun _ k => XS.ifYes X10.here hx rfl (pc0 := 25) (pc' := 32) rfl (hb hby at_25) rfl ((if0 _ _).trans (feq hc25).2) (by decide) (by decide) k) ?_
    show OwnEnds p e below _ (T10.setTop (mkF m 32 #[.val (.int p0), .val (.int p1), .val (.int ((p0 &&& (2147483647 : Int32)) % (5 : Int32))), .val (.int ((p1 &&& (2147483647 : Int32)) % (5 : Int32))), .unset] []))
    refine .pre (fun _ k => XS.iconst X10.here hx rfl (hb hby at_32) k) ?_
    exact B33 T10 _ _ _ X10 e10 N10 hk0 hn0 p0 p1 ((p0 &&& (2147483647 : Int32)) % (5 : Int32)) ((p1 &&& (2147483647 : Int32)) % (5 : Int32)) (0 : Int32) hF
theorem own_r5 (x : Int32) : ∃ n : Nat, n < 5 ∧ (x &&& (2147483647 : Int32)) % (5 : Int32) = Int32.ofNat n := by
  have e : (x &&& 2147483647).toInt = x.toInt % 2 ^ 31 := Jvm.Kit.i32_mask x 2147483647 (k := 31) (by decide) (by decide)
  have h0 : 0 ≤ (x &&& 2147483647).toInt := by rw [e]; omega
  have f : (5 : Int32).toInt = 5 := rfl
  have q := Jvm.Kit.i32_rem_nonneg (y := 5) h0
  rw [f] at q
  refine ⟨((x &&& (2147483647 : Int32)) % (5 : Int32)).toInt.toNat, by omega, ?_⟩
  apply Int32.toInt_inj.mp
  rw [Int32.toInt_ofNat_of_lt (by omega)]
  omega
def own_g (i j : Int32) : Int32 := if (f3_0 (own_pub i) (own_sub i) (own_pub j) (own_sub j)) = (if ((f1_0 j) &&& ((f1_0 i) ^^^ (-1 : Int32))) = 0 then 1 else 0) then 1 else 0
theorem own_dec : ∀ n : Nat, n < 5 → ∀ k : Nat, k < 5 → own_g (Int32.ofNat n) (Int32.ofNat k) = 1 := by decide +kernel
theorem own_law (xDENY xPUB xSUB xPUBSUB xANY : Addr) (x y : Int32) : f0_0 xDENY xPUB xSUB xPUBSUB xANY x y = 1 := by
  obtain ⟨n, hn, en⟩ := own_r5 x
  obtain ⟨k, hk, ek⟩ := own_r5 y
  have h := own_dec n hn k hk
  simp only [f0_33, f0_0, en, ek]
  unfold own_g at h
  by_cases c : (f1_0 (Int32.ofNat k) &&& (f1_0 (Int32.ofNat n) ^^^ (-1 : Int32))) = 0
  · rw [if_pos c] at h ⊢; exact h
  · rw [if_neg c] at h ⊢; exact h
set_option maxRecDepth 65536 in
set_option maxHeartbeats 40000000 in
theorem comes_1 {Post : Tables → Env → Array Value → State → Outcome → State → Prop} (hpost : ∀ tb e args s v u, (limb_1_1.after args s (.returned v) u = true ∧ limb_1_2.after args s (.returned v) u = true ∧ True) → FrameEnd s (.returned v) u (Jvm.fieldLocs frame_1_writes args s ++ Jvm.arrayLocs frame_1_arrays args s ++ Jvm.staticLocs frame_1_statics s) 0 0 → Post tb e args s (.returned v) u) :
    ArmFor flags0 classFile x code maxLocals ret World_1 tables_1 room_1 Calls_1 rest_1 Pre_1 Post := by
  intro l hfl _ _ p e ha hc hk s m args below hf hA hF happ hP
  obtain ⟨hcalls, hrest, hpre⟩ := hP
  obtain ⟨-, -, -, hnamed, -, -, -, hat⟩ := (Spec.applies_iff hf).mp happ
  obtain ⟨hg, hn⟩ := and_e (Cond.before_iff.mp (show (Jvm.Cond.and given_1 narrow_1).before args s = true from hpre))
  obtain ⟨hcount, hg0⟩ := and_e hg
  obtain ⟨ha0, hg1⟩ := and_e hg0
  have ha1 := hg1
  obtain ⟨w0, w1, rfl⟩ : ∃ w0 w1 : Value, args = #[w0, w1] := by
    have hs : args.size = 2 := by simpa [Cond.value, given_1] using hcount
    obtain ⟨L⟩ := args
    match L, hs with
    | [w0, w1], _ => exact ⟨w0, w1, rfl⟩
  have hw := fun d (hd : d ∈ tables_1) => atoms_spec (ws := Jvm.Cond.code x code maxLocals ret :: tables_1) hat d (List.mem_cons_of_mem _ hd)
  have hfit : Fit s := fun {y c} hc i hi => by
    obtain ⟨ha, rfl⟩ := Array.getElem?_eq_some_iff.mp hc
    have q := List.all_eq_true.mp ((Array.all_eq_true_iff_forall_mem.mp hF) _ (Array.getElem_mem ha)) i (List.mem_range.mpr hi)
    simpa [Array.getElem?_eq_getElem hi] using q
  obtain ⟨i0, ei0⟩ := is_v ha0
  obtain rfl : w0 = (.int i0) := Option.some.inj ei0
  obtain ⟨i1, ei1⟩ := is_v ha1
  obtain rfl : w1 = (.int i1) := Option.some.inj ei1
  obtain ⟨n0, m0⟩ := and_e hn
  obtain ⟨n1, m1⟩ := and_e m0
  obtain ⟨n2, m2⟩ := and_e m1
  obtain ⟨n3, m3⟩ := and_e m2
  obtain ⟨n4, m4⟩ := and_e m3
  obtain ⟨n5, m5⟩ := and_e m4
  obtain ⟨n6, m6⟩ := and_e m5
  obtain ⟨n7, m7⟩ := and_e m6
  obtain ⟨n8, m8⟩ := and_e m7
  obtain ⟨n9, m9⟩ := and_e m8
  obtain ⟨n10, m10⟩ := and_e m9
  obtain ⟨n11, m11⟩ := and_e m10
  obtain ⟨n12, m12⟩ := and_e m11
  obtain ⟨n13, m13⟩ := and_e m12
  have n14 := m13
  obtain ⟨xDENY, v0⟩ := exa_v n0
  have E0 := Exa.start v0 n0
  have P0 := Fld.start ((fld_at v0).symm.trans (eqv_i (Term.int_eval _) n2))
  have U0 := Fld.start ((fld_at v0).symm.trans (eqv_i (Term.int_eval _) n11))
  have S0 := Sta.start v0 (Or.inr ⟨(hw _ (List.mem_of_getElem? (i := 9) rfl)), (hw _ (List.mem_of_getElem? (i := 10) rfl))⟩)
  obtain ⟨xPUB, v1⟩ := exa_v n5
  have E1 := Exa.start v1 n5
  have P1 := Fld.start ((fld_at v1).symm.trans (eqv_i (Term.int_eval _) n9))
  have U1 := Fld.start ((fld_at v1).symm.trans (eqv_i (Term.int_eval _) n10))
  have S1 := Sta.start v1 (Or.inr ⟨(hw _ (List.mem_of_getElem? (i := 9) rfl)), (hw _ (List.mem_of_getElem? (i := 23) rfl))⟩)
  obtain ⟨xSUB, v2⟩ := exa_v n12
  have E2 := Exa.start v2 n12
  have P2 := Fld.start ((fld_at v2).symm.trans (eqv_i (Term.int_eval _) n13))
  have U2 := Fld.start ((fld_at v2).symm.trans (eqv_i (Term.int_eval _) n14))
  have S2 := Sta.start v2 (Or.inr ⟨(hw _ (List.mem_of_getElem? (i := 9) rfl)), (hw _ (List.mem_of_getElem? (i := 27) rfl))⟩)
  obtain ⟨xPUBSUB, v3⟩ := exa_v n1
  have E3 := Exa.start v3 n1
  have P3 := Fld.start ((fld_at v3).symm.trans (eqv_i (Term.int_eval _) n3))
  have U3 := Fld.start ((fld_at v3).symm.trans (eqv_i (Term.int_eval _) n8))
  have S3 := Sta.start v3 (Or.inr ⟨(hw _ (List.mem_of_getElem? (i := 9) rfl)), (hw _ (List.mem_of_getElem? (i := 12) rfl))⟩)
  obtain ⟨xANY, v4⟩ := exa_v n4
  have E4 := Exa.start v4 n4
  have P4 := Fld.start ((fld_at v4).symm.trans (eqv_i (Term.int_eval _) n6))
  have U4 := Fld.start ((fld_at v4).symm.trans (eqv_i (Term.int_eval _) n7))
  have S4 := Sta.start v4 (Or.inr ⟨(hw _ (List.mem_of_getElem? (i := 9) rfl)), (hw _ (List.mem_of_getElem? (i := 21) rfl))⟩)
  obtain ⟨n, o, h1, h2, h3, _, L, rfl, ⟨hv, N, -⟩, hq⟩ := rm0 l s _ hw tables_1 i0 i1 xDENY xPUB xSUB xPUBSUB xANY s.heap s.heap.size (Nat.le_refl _) S0 S1 S2 S3 S4 ⟨⟨E0, P0, U0⟩, ⟨E1, P1, U1⟩, ⟨E2, P2, U2⟩, ⟨E3, P3, U3⟩, ⟨E4, P4, U4⟩⟩ p e ha hc hk s m _ below hf ((Spec.applies_iff_loose hf).mp happ).1 ⟨rfl, State.Warmed39.refl s, rfl⟩ trivial
  rw [own_law] at hv
  subst hv
  refine ⟨n, _, h1, h2, h3, hpost _ _ _ _ _ _ ⟨Cond.after_iff.mpr rfl, Cond.after_iff.mpr (eq_i res_at (Term.int_eval (1)) rfl), trivial⟩ ⟨hq.1, hq.2.1, (hq.2.2.sift fun y hy => Or.inr (N y hy)).mono (by decide) (by decide)⟩⟩
theorem main_1_1 : Claimed_1_1 := comes_1 fun _ _ _ _ _ _ h hF => ⟨h.1, hF⟩
theorem main_1_2 : Claimed_1_2 := comes_1 fun _ _ _ _ _ _ h hF => ⟨h.2.1, hF⟩
end Jvm.Pilot.@@N@@
namespace Jvm.Pilot.@@N@@
open Jvm Jvm.ClassFile Sem Op Lib Jvm.Free Jvm.Stand Jvm.Pilot.@@N@@.Jvm.D
/-! MADE BY PROGRAM (witnessworld.py) out of the Statement's table words and the real class files: 12 classes; the members and pool entries that the words name. The judged class is class 1, her method 3. -/
namespace start1
open Jvm.ClassFile
def u (s : String) : CpInfo := .utf8 (stringToUtf16 s)
/-- a pool by its gaps: so many unusable entries, then the entry; so many at the end -/
def gap : Nat → List CpInfo → List CpInfo
  | 0, r => r
  | n + 1, r => .unusable :: gap n r
def poolList (es : List (Nat × CpInfo)) (last : Nat) : List CpInfo := es.foldr (fun e r => gap e.1 (e.2 :: r)) (gap last [])
def pool (es : List (Nat × CpInfo)) (last : Nat) : Array CpInfo := ⟨poolList es last⟩
def fileOf (pool : Array CpInfo) (this : Nat) (attrs : Array Attribute := #[]) (ms : Array MethodInfo := #[]) (fl : Nat := 33) (sup : Nat := 0) (ifs : Array Nat := #[]) (fds : Array FieldInfo := #[]) : ClassFile where
  minorVersion := 0
  majorVersion := 65
  constantPool := pool
  accessFlags := fl
  thisClass := this
  superClass := sup
  interfaces := ifs
  fields := fds
  methods := ms
  attributes := attrs
def plain (name : String) (sup : Option ClassId) : Class where
  name := name
  kind := .ordinary
  loader := none
  accessFlags := 33
  super := sup
  interfaces := #[]
  cf := none
  fields := #[]
  methods := #[]
  instanceTypes := #[]
  staticTypes := #[]
  resolved := #[]
  callSites := []
  init := .initialized
  statics := none
  mirror := none

def pool0 : Array CpInfo := pool [(5, u "<init>"), (0, u "()V"), (1, .class_ 10), (1, u "java/lang/Object")] 113

def k0m0 : Method := { name := "<init>", desc := "()V", sig := { parameters := [], returnType := none }, accessFlags := 1, code := none }
/-- java/lang/Object -/
def k0 : Class := { plain "java/lang/Object" none with
  accessFlags := 33
  interfaces := #[]
  cf := some (fileOf pool0 8 #[] #[{ accessFlags := 1, nameIndex := 5, descriptorIndex := 6, attributes := #[] }] 33 0 #[] #[])
  fields := #[]
  methods := #[k0m0]
  instanceTypes := #[]
  staticTypes := #[]
  resolved := Array.replicate 124 none
  statics := none }

def pool1 : Array CpInfo := pool [(2, .class_ 4), (1, u "java/lang/Object"), (0, u "<init>"), (0, u "()V"), (0, .fieldref 8 9), (0, .class_ 10), (0, .nameAndType 11 12), (0, u "com/example/hardy_queue/hardyqueue/broker/Permission"), (0, u "DENY"), (0, u "Lcom/example/hardy_queue/hardyqueue/broker/Permission;"), (0, .fieldref 8 14), (0, .nameAndType 15 12), (0, u "PUB"), (0, .fieldref 8 17), (0, .nameAndType 18 12), (0, u "SUB"), (0, .fieldref 8 20), (0, .nameAndType 21 12), (0, u "PUB_SUB"), (0, .fieldref 8 23), (0, .nameAndType 24 12), (0, u "ANY"), (0, .integer 2147483647), (0, .methodref 27 28), (0, .class_ 29), (0, .nameAndType 30 31), (0, u "com/example/hardy_queue/hardyqueue/broker/PermissionAllowsPinLaw"), (0, u "rights"), (0, u "(I)I"), (0, .methodref 27 33), (0, .nameAndType 34 35), (0, u "pick"), (0, u "(I)Lcom/example/hardy_queue/hardyqueue/broker/Permission;"), (0, .methodref 8 37), (0, .nameAndType 38 39), (0, u "allows"), (0, u "(Lcom/example/hardy_queue/hardyqueue/broker/Permission;)Z"), (3, u "law"), (0, u "(II)Z")] 2

def k1m0 : Method := { name := "<init>", desc := "()V", sig := { parameters := [], returnType := none }, accessFlags := 1, code := none }
def k1c1 : Code := { maxStack := 2, maxLocals := 1, code := method_2_code, exceptionTable := #[], attributes := #[] }
def k1m1 : Method := { name := "pick", desc := "(I)Lcom/example/hardy_queue/hardyqueue/broker/Permission;", sig := { parameters := [.int], returnType := some (.object "com/example/hardy_queue/hardyqueue/broker/Permission") }, accessFlags := 10, code := some k1c1 }
def k1c2 : Code := { maxStack := 2, maxLocals := 1, code := method_3_code, exceptionTable := #[], attributes := #[] }
def k1m2 : Method := { name := "rights", desc := "(I)I", sig := { parameters := [.int], returnType := some .int }, accessFlags := 10, code := some k1c2 }
def k1c3 : Code := { maxStack := 3, maxLocals := 5, code := code, exceptionTable := #[], attributes := #[] }
def k1m3 : Method := { name := "law", desc := "(II)Z", sig := { parameters := [.int, .int], returnType := some .boolean }, accessFlags := 9, code := some k1c3 }
/-- com/example/hardy_queue/hardyqueue/broker/PermissionAllowsPinLaw -/
def k1 : Class := { plain "com/example/hardy_queue/hardyqueue/broker/PermissionAllowsPinLaw" (some 0) with
  accessFlags := 49
  interfaces := #[]
  cf := some (fileOf pool1 27 #[] #[{ accessFlags := 1, nameIndex := 5, descriptorIndex := 6, attributes := #[] }, { accessFlags := 10, nameIndex := 34, descriptorIndex := 35, attributes := #[] }, { accessFlags := 10, nameIndex := 30, descriptorIndex := 31, attributes := #[] }, { accessFlags := 9, nameIndex := 43, descriptorIndex := 44, attributes := #[] }] 49 2 #[] #[])
  fields := #[]
  methods := #[k1m0, k1m1, k1m2, k1m3]
  instanceTypes := #[]
  staticTypes := #[]
  resolved := Array.replicate 47 none
  statics := none }

def pool2 : Array CpInfo := pool [(1, .class_ 2), (0, u "java/lang/constant/Constable"), (0, .class_ 4), (0, u "java/lang/Object")] 6

/-- java/lang/constant/Constable -/
def k2 : Class := { plain "java/lang/constant/Constable" (some 0) with
  accessFlags := 1537
  interfaces := #[]
  cf := some (fileOf pool2 1 #[] #[] 1537 3 #[] #[])
  fields := #[]
  methods := #[]
  instanceTypes := #[]
  staticTypes := #[]
  resolved := Array.replicate 11 none
  statics := none }

def pool3 : Array CpInfo := pool [(1, .class_ 2), (0, u "java/lang/Comparable"), (0, .class_ 4), (0, u "java/lang/Object")] 7

/-- java/lang/Comparable -/
def k3 : Class := { plain "java/lang/Comparable" (some 0) with
  accessFlags := 1537
  interfaces := #[]
  cf := some (fileOf pool3 1 #[] #[] 1537 3 #[] #[])
  fields := #[]
  methods := #[]
  instanceTypes := #[]
  staticTypes := #[]
  resolved := Array.replicate 12 none
  statics := none }

def pool4 : Array CpInfo := pool [(1, .class_ 2), (0, u "java/io/Serializable"), (0, .class_ 4), (0, u "java/lang/Object")] 2

/-- java/io/Serializable -/
def k4 : Class := { plain "java/io/Serializable" (some 0) with
  accessFlags := 1537
  interfaces := #[]
  cf := some (fileOf pool4 1 #[] #[] 1537 3 #[] #[])
  fields := #[]
  methods := #[]
  instanceTypes := #[]
  staticTypes := #[]
  resolved := Array.replicate 7 none
  statics := none }

def pool5 : Array CpInfo := pool [(2, .class_ 4), (1, u "java/lang/Enum"), (0, u "name"), (0, u "Ljava/lang/String;"), (2, u "ordinal"), (0, u "I"), (1, .class_ 14), (1, u "java/lang/Object"), (4, u "hash"), (86, .class_ 108), (1, u "java/lang/Enum$EnumDesc"), (2, .class_ 112), (0, u "java/lang/constant/Constable"), (0, .class_ 114), (0, u "java/lang/Comparable"), (0, .class_ 116), (0, u "java/io/Serializable")] 87

/-- java/lang/Enum -/
def k5 : Class := { plain "java/lang/Enum" (some 0) with
  accessFlags := 1057
  interfaces := #[2, 3, 4]
  cf := some (fileOf pool5 2 #[.nestMembers #[106]] #[] 1057 12 #[111, 113, 115] #[{ accessFlags := 18, nameIndex := 5, descriptorIndex := 6, attributes := #[] }, { accessFlags := 18, nameIndex := 9, descriptorIndex := 10, attributes := #[] }, { accessFlags := 2, nameIndex := 19, descriptorIndex := 10, attributes := #[] }])
  fields := #[{ name := "name", type := (.object "java/lang/String"), accessFlags := 18, slot := 0, constantValue := 0 }, { name := "ordinal", type := .int, accessFlags := 18, slot := 1, constantValue := 0 }, { name := "hash", type := .int, accessFlags := 2, slot := 2, constantValue := 0 }]
  methods := #[]
  instanceTypes := #[(.object "java/lang/String"), .int, .int]
  staticTypes := #[]
  resolved := Array.replicate 204 none
  statics := none }

def pool6 : Array CpInfo := pool [(1, .class_ 2), (0, u "com/example/hardy_queue/hardyqueue/broker/Permission"), (2, u "DENY"), (0, u "Lcom/example/hardy_queue/hardyqueue/broker/Permission;"), (2, u "PUB"), (2, u "SUB"), (2, u "PUB_SUB"), (2, u "ANY"), (2, u "$VALUES"), (0, u "[Lcom/example/hardy_queue/hardyqueue/broker/Permission;"), (6, .class_ 31), (1, u "java/lang/Enum"), (8, u "fileName"), (0, u "Ljava/lang/String;"), (0, .fieldref 1 43), (0, .nameAndType 44 45), (0, u "publish"), (0, u "Z"), (0, .fieldref 1 47), (0, .nameAndType 48 45), (0, u "subscribe"), (43, u "allows"), (0, u "(Lcom/example/hardy_queue/hardyqueue/broker/Permission;)Z")] 7

def k6c0 : Code := { maxStack := 1, maxLocals := 2, code := prog_8_method_5_code, exceptionTable := #[], attributes := #[] }
def k6m0 : Method := { name := "allows", desc := "(Lcom/example/hardy_queue/hardyqueue/broker/Permission;)Z", sig := { parameters := [(.object "com/example/hardy_queue/hardyqueue/broker/Permission")], returnType := some .boolean }, accessFlags := 0, code := some k6c0 }
/-- com/example/hardy_queue/hardyqueue/broker/Permission -/
def k6 : Class := { plain "com/example/hardy_queue/hardyqueue/broker/Permission" (some 5) with
  accessFlags := 16432
  interfaces := #[]
  cf := some (fileOf pool6 1 #[] #[{ accessFlags := 0, nameIndex := 92, descriptorIndex := 93, attributes := #[] }] 16432 29 #[] #[{ accessFlags := 16409, nameIndex := 5, descriptorIndex := 6, attributes := #[] }, { accessFlags := 16409, nameIndex := 9, descriptorIndex := 6, attributes := #[] }, { accessFlags := 16409, nameIndex := 12, descriptorIndex := 6, attributes := #[] }, { accessFlags := 16409, nameIndex := 15, descriptorIndex := 6, attributes := #[] }, { accessFlags := 16409, nameIndex := 18, descriptorIndex := 6, attributes := #[] }, { accessFlags := 18, nameIndex := 40, descriptorIndex := 41, attributes := #[] }, { accessFlags := 18, nameIndex := 44, descriptorIndex := 45, attributes := #[] }, { accessFlags := 18, nameIndex := 48, descriptorIndex := 45, attributes := #[] }, { accessFlags := 4122, nameIndex := 21, descriptorIndex := 22, attributes := #[] }])
  fields := #[{ name := "DENY", type := (.object "com/example/hardy_queue/hardyqueue/broker/Permission"), accessFlags := 16409, slot := 0, constantValue := 0 }, { name := "PUB", type := (.object "com/example/hardy_queue/hardyqueue/broker/Permission"), accessFlags := 16409, slot := 1, constantValue := 0 }, { name := "SUB", type := (.object "com/example/hardy_queue/hardyqueue/broker/Permission"), accessFlags := 16409, slot := 2, constantValue := 0 }, { name := "PUB_SUB", type := (.object "com/example/hardy_queue/hardyqueue/broker/Permission"), accessFlags := 16409, slot := 3, constantValue := 0 }, { name := "ANY", type := (.object "com/example/hardy_queue/hardyqueue/broker/Permission"), accessFlags := 16409, slot := 4, constantValue := 0 }, { name := "fileName", type := (.object "java/lang/String"), accessFlags := 18, slot := 3, constantValue := 0 }, { name := "publish", type := .boolean, accessFlags := 18, slot := 4, constantValue := 0 }, { name := "subscribe", type := .boolean, accessFlags := 18, slot := 5, constantValue := 0 }, { name := "$VALUES", type := (.array (.object "com/example/hardy_queue/hardyqueue/broker/Permission")), accessFlags := 4122, slot := 5, constantValue := 0 }]
  methods := #[k6m0]
  instanceTypes := #[(.object "java/lang/String"), .int, .int, (.object "java/lang/String"), .boolean, .boolean]
  staticTypes := #[(.object "com/example/hardy_queue/hardyqueue/broker/Permission"), (.object "com/example/hardy_queue/hardyqueue/broker/Permission"), (.object "com/example/hardy_queue/hardyqueue/broker/Permission"), (.object "com/example/hardy_queue/hardyqueue/broker/Permission"), (.object "com/example/hardy_queue/hardyqueue/broker/Permission"), (.array (.object "com/example/hardy_queue/hardyqueue/broker/Permission"))]
  resolved := Array.replicate 101 none
  statics := some 0 }

def pool7 : Array CpInfo := pool [(1, u "java/lang/Cloneable"), (0, .class_ 1), (0, u "java/lang/Object"), (0, .class_ 3)] 3

/-- java/lang/Cloneable -/
def k7 : Class := { plain "java/lang/Cloneable" (some 0) with
  accessFlags := 1537
  interfaces := #[]
  cf := some (fileOf pool7 2 #[] #[] 1537 4 #[] #[])
  fields := #[]
  methods := #[]
  instanceTypes := #[]
  staticTypes := #[]
  resolved := Array.replicate 8 none
  statics := none }

/-- the primitive byte -/
def k8 : Class := { plain "byte" none with kind := .primitive 'B', accessFlags := 0x411 }
/-- [B -/
def k9 : Class := { plain "[B" (some 0) with kind := .array 8 .byte, interfaces := #[7, 4], accessFlags := 1041 }

/-- the primitive int -/
def k10 : Class := { plain "int" none with kind := .primitive 'I', accessFlags := 0x411 }
/-- [I -/
def k11 : Class := { plain "[I" (some 0) with kind := .array 10 .int, interfaces := #[7, 4], accessFlags := 1041 }

def heap : Heap := #[{ cls := 6, slots := #[.ref 1, .ref 2, .ref 3, .ref 4, .ref 5, .null], vm := .statics 6 },
  { cls := 6, slots := #[.null, .int 0, .int 0, .null, .int 0, .int 0], vm := .none },
  { cls := 6, slots := #[.null, .int 0, .int 1, .null, .int 1, .int 0], vm := .none },
  { cls := 6, slots := #[.null, .int 0, .int 2, .null, .int 0, .int 1], vm := .none },
  { cls := 6, slots := #[.null, .int 0, .int 3, .null, .int 1, .int 1], vm := .none },
  { cls := 6, slots := #[.null, .int 0, .int 4, .null, .int 1, .int 1], vm := .none }]
def classes : Array Class := #[k0, k1, k2, k3, k4, k5, k6, k7, k8, k9, k10, k11]
def interned : List (Array UInt16 × Addr) := []
def slotsUsed : Nat := 36
def theMethod : MethodId := ⟨1, 3⟩
def args0 : Array Value := #[.int 32, .int 7]
def aboutOver (below : List Frame) : State where
  vm := { classes := classes, interned := interned.toArray }
  heap := heap
  slotsUsed := slotsUsed
  threads := #[{ frames := .invoking theMethod args0 :: below }]
def below0 : List Frame := [.native { method := ⟨0, 0⟩, args := #[] }]
def about1 : State := aboutOver below0
def p0 : Program := .bare "" "" ""
def e0 : Env := launch0.env 0 0 0
theorem w_frames : about1.frames = Frame.invoking theMethod args0 :: below0 := rfl
set_option maxRecDepth 65536 in
theorem w_args : argsFit about1.vm theMethod args0 = true := by decide +kernel
set_option maxRecDepth 65536 in
theorem w_heap : heapFits about1 = true := by decide +kernel
set_option maxRecDepth 65536 in
theorem w_runnable : about1.curStatus? = some .runnable := by decide +kernel
set_option maxRecDepth 65536 in
theorem w_alone : about1.alone = true := by decide +kernel
set_option maxRecDepth 65536 in
theorem w_named : about1.methodNamed? x = some theMethod := by decide +kernel
set_option maxRecDepth 65536 in
theorem w_hears : about1.hears theMethod below0 = true := by decide +kernel
set_option maxRecDepth 65536 in
theorem w_ripe : about1.ripe theMethod args0 below0 = true := by decide +kernel
theorem w_running : about1.status = .running := rfl
set_option maxRecDepth 65536 in
theorem w_room : about1.hasRoom e0.platform room_1 = true :=
  launch0.hasRoom_least _ room_1 (by decide +kernel) (by decide +kernel) (by decide +kernel) (by decide +kernel) (by decide +kernel) (by decide +kernel)
theorem allAtoms_all (ts : List Jvm.Cond) (a : Array Jvm.Value) (st : Jvm.State) : (allAtoms ts).before a st = ts.all (fun c => c.before a st) := by
  induction ts with
  | nil => rfl
  | cons c t ih =>
    show (Jvm.Cond.and c (allAtoms t)).before a st = _
    rw [Jvm.Cond.before_and, ih, List.all_cons]
def words1 : List Jvm.Cond := Jvm.Cond.code x code maxLocals ret :: tables_1
/-- a 'code' word, met by the world's own term for the bytes: nothing is compared byte by byte -/
theorem code_word {y : MethodName} {bytes : ByteArray} {mx : Nat} {rt : Option FieldType} {a : Array Value} {s : State} {m : MethodId} {meth : Method} {c : Code} (h1 : s.methodNamed? y = some m) (h2 : s.vm.method? m = some meth) (h3 : meth.code = some c) (h4 : c.code = bytes)
    (h5 : (c.maxLocals == mx && c.exceptionTable.isEmpty && decide (c.maxStack ≤ mostOperands) && decide (meth.sig.returnType = rt) && !meth.locks && decide (parseMethodDescriptor y.desc = some meth.sig)) = true) : (Jvm.Cond.code y bytes mx rt).before a s = true := by
  simp only [Bool.and_eq_true, beq_iff_eq, Bool.not_eq_true', decide_eq_true_eq] at h5
  obtain ⟨⟨⟨⟨⟨g1, g2⟩, g3⟩, g4⟩, g5⟩, g6⟩ := h5
  simp [Cond.before, Cond.holds, Cond.value, h1, h2, h3, h4, g1, g2, g3, g4, g5, g6]
def isCode : Jvm.Cond → Bool
  | .code _ _ _ _ => true
  | _ => false
theorem all_split {L : List Jvm.Cond} {P : Jvm.Cond → Bool} (h1 : L.all (fun c => isCode c || P c) = true) (h2 : ∀ c ∈ L.filter isCode, P c = true) : L.all P = true := by
  refine List.all_eq_true.mpr fun c hc => ?_
  have h := List.all_eq_true.mp h1 c hc
  rcases Bool.eq_false_or_eq_true (isCode c) with hi | hi
  · exact h2 c (List.mem_filter.mpr ⟨hc, hi⟩)
  · simpa [hi] using h
set_option maxRecDepth 65536 in
theorem w_c0 : (Jvm.Cond.code x code maxLocals ret).before args0 about1 = true := code_word (m := ⟨1, 3⟩) (meth := k1m3) (c := k1c3) (by decide +kernel) rfl rfl rfl (by decide +kernel)
set_option maxRecDepth 65536 in
theorem w_c1 : (Jvm.Cond.code ({ cls := "com/example/hardy_queue/hardyqueue/broker/PermissionAllowsPinLaw", name := "rights", desc := "(I)I" } : Jvm.MethodName) method_3_code (1 : Nat) (Option.some Jvm.ClassFile.FieldType.int)).before args0 about1 = true := code_word (m := ⟨1, 2⟩) (meth := k1m2) (c := k1c2) (by decide +kernel) rfl rfl rfl (by decide +kernel)
set_option maxRecDepth 65536 in
theorem w_c2 : (Jvm.Cond.code ({ cls := "com/example/hardy_queue/hardyqueue/broker/PermissionAllowsPinLaw", name := "pick", desc := "(I)Lcom/example/hardy_queue/hardyqueue/broker/Permission;" } : Jvm.MethodName) method_2_code (1 : Nat) (Option.some (Jvm.ClassFile.FieldType.object "com/example/hardy_queue/hardyqueue/broker/Permission"))).before args0 about1 = true := code_word (m := ⟨1, 1⟩) (meth := k1m1) (c := k1c1) (by decide +kernel) rfl rfl rfl (by decide +kernel)
set_option maxRecDepth 65536 in
theorem w_c3 : (Jvm.Cond.code ({ cls := "com/example/hardy_queue/hardyqueue/broker/Permission", name := "allows", desc := "(Lcom/example/hardy_queue/hardyqueue/broker/Permission;)Z" } : Jvm.MethodName) prog_8_method_5_code (2 : Nat) (Option.some Jvm.ClassFile.FieldType.boolean)).before args0 about1 = true := code_word (m := ⟨6, 0⟩) (meth := k6m0) (c := k6c0) (by decide +kernel) rfl rfl rfl (by decide +kernel)
def codes1 : List Jvm.Cond := [Jvm.Cond.code x code maxLocals ret, Jvm.Cond.code ({ cls := "com/example/hardy_queue/hardyqueue/broker/PermissionAllowsPinLaw", name := "rights", desc := "(I)I" } : Jvm.MethodName) method_3_code (1 : Nat) (Option.some Jvm.ClassFile.FieldType.int), Jvm.Cond.code ({ cls := "com/example/hardy_queue/hardyqueue/broker/PermissionAllowsPinLaw", name := "pick", desc := "(I)Lcom/example/hardy_queue/hardyqueue/broker/Permission;" } : Jvm.MethodName) method_2_code (1 : Nat) (Option.some (Jvm.ClassFile.FieldType.object "com/example/hardy_queue/hardyqueue/broker/Permission")), Jvm.Cond.code ({ cls := "com/example/hardy_queue/hardyqueue/broker/Permission", name := "allows", desc := "(Lcom/example/hardy_queue/hardyqueue/broker/Permission;)Z" } : Jvm.MethodName) prog_8_method_5_code (2 : Nat) (Option.some Jvm.ClassFile.FieldType.boolean)]
set_option maxRecDepth 65536 in
theorem codes_eq : words1.filter isCode = codes1 := rfl
theorem w_codes : ∀ c ∈ words1.filter isCode, c.before args0 about1 = true := by
  rw [codes_eq]
  intro c hc
  simp only [codes1, List.mem_cons, List.not_mem_nil, or_false] at hc
  rcases hc with rfl | rfl | rfl | rfl
  · exact w_c0
  · exact w_c1
  · exact w_c2
  · exact w_c3
set_option maxRecDepth 65536 in
theorem w_t1 : (words1.take 24).all (fun c => isCode c || c.before args0 about1) = true := by decide +kernel
set_option maxRecDepth 65536 in
theorem w_t2 : (words1.drop 24).all (fun c => isCode c || c.before args0 about1) = true := by decide +kernel
theorem w_tables : (allAtoms (Jvm.Cond.code x code maxLocals ret :: tables_1)).before args0 about1 = true := by
  rw [allAtoms_all]
  show words1.all (fun c => c.before args0 about1) = true
  refine all_split ?_ w_codes
  rw [← List.take_append_drop 24 words1, List.all_append, w_t1, w_t2]
  rfl
set_option maxRecDepth 65536 in
theorem w_case : (Jvm.Cond.and given_1 narrow_1).before args0 about1 = true := by decide +kernel
theorem w_applies : (headSpec (Jvm.Cond.code x code maxLocals ret :: tables_1) room_1).applies x e0.platform about1 = true :=
  (Spec.applies_iff w_frames).mpr ⟨w_running, w_runnable, w_alone, w_named, w_hears, w_ripe, w_room, w_tables⟩
theorem atStart : AtStart classFile x code maxLocals ret World_1 tables_1 room_1 Calls_1 rest_1 Pre_1 launch0 p0 e0 about1 theMethod args0 below0 :=
  ⟨lists_1, trivial, launch0.admits_env _ _ _, launch0.least_env, fairChoices_fair.cas, fairChoices_fair.clock, w_frames, w_args, w_heap, w_applies, trivial, trivial, w_case⟩
end start1
theorem witness_1 : WitnessClaimed_1 := ⟨start1.p0, start1.e0, start1.about1, start1.theMethod, start1.args0, start1.below0, start1.atStart⟩
end Jvm.Pilot.@@N@@
