import JvmDerived
import JvmDerived.Pilot.@@N@@Statement
import JvmDerived.Pilot.@@N@@Code
set_option linter.unusedVariables false
set_option linter.unusedSimpArgs false
@@BLOCK:NumsL.lean.txt@@
namespace Jvm.RoadKit
open Sem ClassFile Op Lib Jvm.Stand Jvm.Free Jvm.LawKit
section New
variable {p : Program} {l : Launch} {e : Env} {R : Room} {s : State} {m : MethodId} {args : Array Value} {below : List Frame} {meth : Method} {c : Code} {T : State} {locs : List Loc} {cells slots : Nat}
theorem retI (X : Stand p l e R s m args below meth c T locs cells slots) (hx : p.tables.exec = Jvm.exec) {pc : Nat} {Ls : Array Slot} {z : Int32} {rest : List Value} (hret : meth.sig.returnType = some .int) (hd : decode c.code pc = .ok (.ireturn, 1)) {fs : List Frame}
    (hl : ∀ (f : JFrame) (acts : List Action), f.method = m → f.locked = none → f.entered = [] → (doReturn e (T.setTop f) acts (some (.int z))).1 = T.setFrames fs) : Steps p.tables e below (T.setTop (mkF m pc Ls (.int z :: rest))) (T.setFrames fs) := by
  have hm' : T.vm.method? m = some meth := X.method'
  have hn : narrow .int (.int z) = .int z := rfl
  show Steps p.tables e below (T.setTop { method := m, pc := pc, locals := Ls, stack := _ :: rest, locked := none }) _
  jvm_step X.here [X.here.top, hx, hd, hm', hret, hn]
  first | (intro acts; rw [hl _ acts rfl rfl rfl]) | rw [hl _ _ rfl rfl rfl]
  exact Steps.refl _
/-- from U the run comes to its end, and Q holds there -/
def OwnEnds (p : Program) (e : Env) (below : List Frame) (Q : Outcome → State → Prop) (U : State) : Prop := ∃ s₂ o, Steps p.tables e below U s₂ ∧ s₂.status = .running ∧ Ended s₂ below o ∧ Q o s₂
theorem OwnEnds.pre {Q : Outcome → State → Prop} {U U' : State} (h : ∀ t, Steps p.tables e below U' t → Steps p.tables e below U t) (k : OwnEnds p e below Q U') : OwnEnds p e below Q U := by
  obtain ⟨s₂, o, h1, h2⟩ := k
  exact ⟨s₂, o, h _ h1, h2⟩
def OwnQ (s : State) (Q : Option Value → Heap → List Loc → Prop) (C S : Nat) : Outcome → State → Prop := fun o U' => ∃ v L, o = .returned v ∧ Q v U'.heap L ∧ FrameEnd s o U' L C S
theorem own_endI (X : Stand p l e R s m args below meth c T locs cells slots) (hx : p.tables.exec = Jvm.exec) (hlocks : meth.locks = false) {pc : Nat} {Ls : Array Slot} {z : Int32} {rest : List Value} (hret : meth.sig.returnType = some .int) (hd : decode c.code pc = .ok (.ireturn, 1))
    {Q : Option Value → Heap → List Loc → Prop} {C S : Nat} (hC : cells ≤ C) (hS : slots ≤ S) (hQ : Q (some (.int z)) T.heap locs) : OwnEnds p e below (OwnQ s Q C S) (T.setTop (mkF m pc Ls (.int z :: rest))) := by
  obtain ⟨fs, hr, hrun, hended, hW, hsame⟩ := X.leave (v := some (.int z)) (fun h => by rw [hret] at h; cases h) hlocks
  exact ⟨_, _, retI X hx hret hd hr, hrun, hended, _, _, rfl, hQ, ⟨_, rfl⟩, hW, hsame.mono hC hS⟩
theorem own_endN (X : Stand p l e R s m args below meth c T locs cells slots) (hx : p.tables.exec = Jvm.exec) (hlocks : meth.locks = false) {pc : Nat} {Ls : Array Slot} {z z' : Int32} {t : FieldType} {rest : List Value} (hret : meth.sig.returnType = some t) (ht : t = .boolean ∨ t = .byte ∨ t = .char ∨ t = .short) (hd : decode c.code pc = .ok (.ireturn, 1)) (hz : nar t z = z')
    {Q : Option Value → Heap → List Loc → Prop} {C S : Nat} (hC : cells ≤ C) (hS : slots ≤ S) (hQ : Q (some (.int z')) T.heap locs) : OwnEnds p e below (OwnQ s Q C S) (T.setTop (mkF m pc Ls (.int z :: rest))) := by
  subst hz
  obtain ⟨fs, hr, hrun, hended, hW, hsame⟩ := X.leave (v := some (.int (nar t z))) (fun h => by rw [hret] at h; cases h) hlocks
  exact ⟨_, _, retN X hx hret ht hd hr, hrun, hended, _, _, rfl, hQ, ⟨_, rfl⟩, hW, hsame.mono hC hS⟩
theorem own_endJ (X : Stand p l e R s m args below meth c T locs cells slots) (hx : p.tables.exec = Jvm.exec) (hlocks : meth.locks = false) {pc : Nat} {Ls : Array Slot} {z : Int64} (hret : meth.sig.returnType = some .long) (hd : decode c.code pc = .ok (.lreturn, 1))
    {Q : Option Value → Heap → List Loc → Prop} {C S : Nat} (hC : cells ≤ C) (hS : slots ≤ S) (hQ : Q (some (.long z)) T.heap locs) : OwnEnds p e below (OwnQ s Q C S) (T.setTop (mkF m pc Ls [.long z])) := by
  obtain ⟨fs, hr, hrun, hended, hW, hsame⟩ := X.leave (v := some (.long z)) (fun h => by rw [hret] at h; cases h) hlocks
  exact ⟨_, _, X.lreturnOut hx hret hd hr, hrun, hended, _, _, rfl, hQ, ⟨_, rfl⟩, hW, hsame.mono hC hS⟩
theorem own_endV (X : Stand p l e R s m args below meth c T locs cells slots) (hx : p.tables.exec = Jvm.exec) (hlocks : meth.locks = false) {pc : Nat} {Ls : Array Slot} (hret : meth.sig.returnType = none) (hd : decode c.code pc = .ok (.return_, 1))
    {Q : Option Value → Heap → List Loc → Prop} {C S : Nat} (hC : cells ≤ C) (hS : slots ≤ S) (hQ : Q none T.heap locs) : OwnEnds p e below (OwnQ s Q C S) (T.setTop (mkF m pc Ls [])) := by
  obtain ⟨fs, hr, hrun, hended, hW, hsame⟩ := X.leave (v := none) (fun _ => rfl) hlocks
  exact ⟨_, _, X.returnOut hx hret hd hr, hrun, hended, _, _, rfl, hQ, ⟨_, rfl⟩, hW, hsame.mono hC hS⟩
theorem own_endR (X : Stand p l e R s m args below meth c T locs cells slots) (hx : p.tables.exec = Jvm.exec) (hlocks : meth.locks = false) {pc : Nat} {Ls : Array Slot} {w : Value} {t : FieldType} {rest : List Value} (hret : meth.sig.returnType = some t) (ht : t.isReference = true) (hw : w.isRef = true) (hd : decode c.code pc = .ok (.areturn, 1))
    {Q : Option Value → Heap → List Loc → Prop} {C S : Nat} (hC : cells ≤ C) (hS : slots ≤ S) (hQ : Q (some w) T.heap locs) : OwnEnds p e below (OwnQ s Q C S) (T.setTop (mkF m pc Ls (w :: rest))) := by
  obtain ⟨fs, hr, hrun, hended, hW, hsame⟩ := X.leave (v := some w) (fun h => by rw [hret] at h; cases h) hlocks
  have hn : narrow t w = w := by cases t <;> first | rfl | (cases ht)
  exact ⟨_, _, retOut X hx hret hn (Or.inr (Or.inr (Or.inr (Or.inr ⟨rfl, ht, hw⟩)))) hd hr, hrun, hended, _, _, rfl, hQ, ⟨_, rfl⟩, hW, hsame.mono hC hS⟩
theorem own_getI (l : List Int32) (i : Nat) : (l.map Value.int).getD i (.int 0) = .int (l.getD i 0) := by
  simp only [List.getD_eq_getElem?_getD, List.getElem?_map]
  cases l[i]? <;> rfl
theorem own_getJ (l : List Int64) (i : Nat) : (l.map Value.long).getD i (.long 0) = .long (l.getD i 0) := by
  simp only [List.getD_eq_getElem?_getD, List.getElem?_map]
  cases l[i]? <;> rfl
theorem own_nin0 {a : Addr} : a ∉ ([] : List Addr) := List.not_mem_nil
theorem own_nin1 {a b : Addr} (h : a ≠ b) : a ∉ [b] := by simpa using h
theorem own_nin2 {a b c : Addr} (h : a ≠ b) (h' : a ≠ c) : a ∉ [b, c] := by simpa using ⟨h, h'⟩
theorem own_staK0 {Z : State} {h h' : Heap} {C n d : String} {v : Value} (F : Sta Z h C n d v) (K : Keep h h' []) : Sta Z h' C n d v := by
  obtain ⟨cf, i, k, f, st, cell, h1, h2, h3, h4, h5, h6, h7⟩ := F
  exact ⟨cf, i, k, f, st, cell, h1, h2, h3, h4, K.2.1 st cell h5 own_nin0, h6, h7⟩
theorem own_staK1 {Z : State} {h h' : Heap} {C n d D : String} {v : Value} {x : Addr} (F : Sta Z h C n d v) (K : Keep h h' [x]) (E : Exa Z h x D) : Sta Z h' C n d v := by
  obtain ⟨cf, i, k, f, st, cell, h1, h2, h3, h4, h5, h6, h7⟩ := F
  obtain ⟨cl, kk, e1, e2, e3, e4, e5⟩ := E
  refine ⟨cf, i, k, f, st, cell, h1, h2, h3, h4, K.2.1 st cell h5 (own_nin1 fun q => ?_), h6, h7⟩
  subst q
  cases h5.symm.trans e1
  rw [h6] at e4
  cases e4
theorem own_nsroot {Z : State} {a0 : Array Value} {O K : String} {n : Nat} (w : (Cond.noSuperclass O).before a0 Z = true) (wk : (Cond.instantiable K n).before a0 Z = true) (hn : O ≠ K) : NS Z O K := by
  obtain ⟨c, k, h1, h2, h3, -, -⟩ := Cond.noSuperclass_spec w
  obtain ⟨t, kt, g1, -⟩ := Cond.instantiable_spec wk
  have ne := ids_ne h1 g1 hn
  refine ⟨c, t, h1, g1, fun fuel => ?_⟩
  cases fuel with
  | zero => rfl
  | succ f => simp [Vm.isSubclassAux, ne, h2, h3]
theorem own_nsno {Z : State} {a0 : Array Value} {C S K : String} {n : Nat} (w : (Cond.superclass C S).before a0 Z = true) (wk : (Cond.instantiable K n).before a0 Z = true) (ns : NS Z C K) (hn : C ≠ K) : ∃ c t, Z.vm.findClass C = some c ∧ Z.vm.findClass K = some t ∧ Z.vm.assignable c t = false := by
  obtain ⟨c, t, h0, g0, n3⟩ := ns
  obtain ⟨p, k, kp, h1, h2, h3, h4, h5, -, h7⟩ := Cond.superclass_spec h0 w
  obtain ⟨t', kt, g1, g2, g3, g4, -⟩ := Cond.instantiable_spec wk
  cases g0.symm.trans g1
  have g7 : kt.isInterface = false := by simp only [Bool.or_eq_false_iff] at g4; exact g4.1
  have ne := ids_ne h0 g0 hn
  refine ⟨c, t, h0, g0, ?_⟩
  show Z.vm.assignableAux (255 + 1) c t = false
  simp [Vm.assignableAux, ne, h2, g2, h5, g3, g7, Vm.isSubclass, n3]
end New
end Jvm.RoadKit
namespace Jvm.Pilot.@@N@@
open Jvm Jvm.ClassFile Sem Op Lib Jvm.Free Jvm.Stand Jvm.LawKit Jvm.RoadKit Bundle Jvm.Pilot.@@N@@.Jvm.D
theorem d1_0 : decode method_3_code 0 = .ok (.iload_n 1, 1) := by decide +kernel
theorem d1_1 : decode method_3_code 1 = .ok (.iload_n 0, 1) := by decide +kernel
theorem d1_2 : decode method_3_code 2 = .ok (.if_icmp .gt 12, 3) := by decide +kernel
theorem d1_5 : decode method_3_code 5 = .ok (.iload_n 0, 1) := by decide +kernel
theorem d1_6 : decode method_3_code 6 = .ok (.iload_n 2, 1) := by decide +kernel
theorem d1_7 : decode method_3_code 7 = .ok (.if_icmp .ge 7, 3) := by decide +kernel
theorem d1_10 : decode method_3_code 10 = .ok (.iconst 1, 1) := by decide +kernel
theorem d1_11 : decode method_3_code 11 = .ok (.goto 4, 3) := by decide +kernel
theorem d1_14 : decode method_3_code 14 = .ok (.iconst 0, 1) := by decide +kernel
theorem d1_15 : decode method_3_code 15 = .ok (.ireturn, 1) := by decide +kernel
theorem ef_1 (m : MethodId) (p0 : Int32) (p1 : Int32) (p2 : Int32) : entryFrame m #[(.int p0), (.int p1), (.int p2)] 3 = mkF m 0 #[.val (.int p0), .val (.int p1), .val (.int p2)] [] := by first | (simp [entryFrame, mkF, argsToLocals, Value.category]; done) | rfl
theorem pn_0 : plainName "com/example/lather/lather/encoding/ArrayShapeProductPinLaw" = true := by first | (simp [plainName, overriddenIn]; done) | decide +kernel
def f1_0 (p0 : Int32) (p1 : Int32) (p2 : Int32) : Int32 := (if p0 < p1 then (0 : Int32) else (if p0 < p2 then (1 : Int32) else (0 : Int32)))
def Q1 (Z : State) (p0 : Int32) (p1 : Int32) (p2 : Int32) (h0 : Heap) (n0 : Nat) (v : Option Value) (h : Heap) (L : List Loc) : Prop := v = some (.int (f1_0 p0 p1 p2)) ∧ Fr n0 L ∧ h = h0
set_option maxRecDepth 65536 in
set_option maxHeartbeats 40000000 in
theorem rm1 (l : Launch) (Z : State) (aZ : Array Value) (hw : ∀ d ∈ tables_1, d.before aZ Z = true) (ws : List Jvm.Cond) (p0 : Int32) (p1 : Int32) (p2 : Int32) (h0 : Heap) (n0 : Nat) (Z0 : n0 ≤ h0.size) :
    MetFree l (⟨"com/example/lather/lather/encoding/ArrayShapeProductPinLaw", "in", "(III)Z"⟩ : MethodName) (head1 (Jvm.Cond.code (⟨"com/example/lather/lather/encoding/ArrayShapeProductPinLaw", "in", "(III)Z"⟩ : MethodName) method_3_code 3 (some .boolean) :: ws) ({ frames := 0, cells := 0, slots := 0, locals := 0 } : Room)) (fun a U => a = #[(.int p0), (.int p1), (.int p2)] ∧ Z.Warmed39 U.vm ∧ U.heap = h0) (fun _ _ _ _ _ => True) (fun _ U o U' => ∃ v L, o = .returned v ∧ Q1 Z p0 p1 p2 h0 n0 v U'.heap L ∧ FrameEnd U o U' L 0 0) := by
  refine MetFree.of_bodySF (plainFor_of_name pn_0) hisR ?_
  intro p e s m args below meth c s₁ Bd hml0 hP hK
  obtain ⟨rfl, hZ, hh⟩ := hP
  have hx := Bd.exec
  have hby := Bd.bytes
  have hml : c.maxLocals = 3 := hml0
  have hown : s.vm.findClass "com/example/lather/lather/encoding/ArrayShapeProductPinLaw" = some m.cls := findClass_of_methodNamed Bd.named
  have hnm := (name_of_methodNamed Bd.named Bd.method).1
  have hlk := BodyLoose.notSynchronized Bd
  have X0 : Stand p l e ({ frames := 0, cells := 0, slots := 0, locals := 0 } : Room) s m #[(.int p0), (.int p1), (.int p2)] below meth c s₁ [] 0 0 := Stand.of_body Bd
  have e0 : s₁.heap = h0 := by rw [← hh, Bd.state]; rfl
  have N0 := Fr.nil n0
  have hk0 : 0 ≤ 0 := Nat.zero_le _
  have hn0 : 0 ≤ 0 := Nat.zero_le _
  show OwnEnds p e below (OwnQ s (Q1 Z p0 p1 p2 h0 n0) 0 0) (s₁.setTop (entryFrame m #[(.int p0), (.int p1), (.int p2)] 3))
  refine .pre (fun t k => castTop (ef_1 m p0 p1 p2) k) ?_
  have hF : f1_0 p0 p1 p2 = f1_0 p0 p1 p2 := rfl
  change (if p0 < p1 then (0 : Int32) else (if p0 < p2 then (1 : Int32) else (0 : Int32))) = _ at hF
  show OwnEnds p e below _ (s₁.setTop (mkF m 0 #[.val (.int p0), .val (.int p1), .val (.int p2)] []))
  refine .pre (fun _ k => XS.iloadN X0.here hx rfl (hb hby d1_0) rfl k) ?_
  show OwnEnds p e below _ (s₁.setTop (mkF m 1 #[.val (.int p0), .val (.int p1), .val (.int p2)] [(.int p1)]))
  refine .pre (fun _ k => XS.iloadN X0.here hx rfl (hb hby d1_1) rfl k) ?_
  show OwnEnds p e below _ (s₁.setTop (mkF m 2 #[.val (.int p0), .val (.int p1), .val (.int p2)] [(.int p0), (.int p1)]))
  by_cases hc2 : p0 < p1
  · rw [if_pos hc2] at hF
    refine .pre (fun _ k => XS.icmpYes X0.here hx rfl (pc0 := 2) (pc' := 14) rfl (hb hby d1_2) rfl (tlt hc2).2.2.1 (by decide) (by decide) k) ?_
    show OwnEnds p e below _ (s₁.setTop (mkF m 14 #[.val (.int p0), .val (.int p1), .val (.int p2)] []))
    refine .pre (fun _ k => XS.iconst X0.here hx rfl (hb hby d1_14) k) ?_
    show OwnEnds p e below _ (s₁.setTop (mkF m 15 #[.val (.int p0), .val (.int p1), .val (.int p2)] [(.int (0 : Int32))]))
    exact own_endN X0 hx hlk (t := .boolean) Bd.returns (by simp) (hb hby d1_15) rfl hk0 hn0 ⟨congrArg (fun z => some (Value.int z)) hF, N0, e0⟩
  · rw [if_neg hc2] at hF
    refine .pre (fun _ k => XS.icmpNo X0.here hx rfl (hb hby d1_2) rfl (flt hc2).2.2.1 k) ?_
    show OwnEnds p e below _ (s₁.setTop (mkF m 5 #[.val (.int p0), .val (.int p1), .val (.int p2)] []))
    refine .pre (fun _ k => XS.iloadN X0.here hx rfl (hb hby d1_5) rfl k) ?_
    show OwnEnds p e below _ (s₁.setTop (mkF m 6 #[.val (.int p0), .val (.int p1), .val (.int p2)] [(.int p0)]))
    refine .pre (fun _ k => XS.iloadN X0.here hx rfl (hb hby d1_6) rfl k) ?_
    show OwnEnds p e below _ (s₁.setTop (mkF m 7 #[.val (.int p0), .val (.int p1), .val (.int p2)] [(.int p2), (.int p0)]))
    by_cases hc7 : p0 < p2
    · rw [if_pos hc7] at hF
      refine .pre (fun _ k => XS.icmpNo X0.here hx rfl (hb hby d1_7) rfl (tlt hc7).2.1 k) ?_
      show OwnEnds p e below _ (s₁.setTop (mkF m 10 #[.val (.int p0), .val (.int p1), .val (.int p2)] []))
      refine .pre (fun _ k => XS.iconst X0.here hx rfl (hb hby d1_10) k) ?_
      show OwnEnds p e below _ (s₁.setTop (mkF m 11 #[.val (.int p0), .val (.int p1), .val (.int p2)] [(.int (1 : Int32))]))
      refine .pre (fun _ k => XS.goto X0.here hx rfl (pc0 := 11) (pc' := 15) rfl (hb hby d1_11) (by decide) (by decide) k) ?_
      show OwnEnds p e below _ (s₁.setTop (mkF m 15 #[.val (.int p0), .val (.int p1), .val (.int p2)] [(.int (1 : Int32))]))
      exact own_endN X0 hx hlk (t := .boolean) Bd.returns (by simp) (hb hby d1_15) rfl hk0 hn0 ⟨congrArg (fun z => some (Value.int z)) hF, N0, e0⟩
    · rw [if_neg hc7] at hF
      refine .pre (fun _ k => XS.icmpYes X0.here hx rfl (pc0 := 7) (pc' := 14) rfl (hb hby d1_7) rfl (flt hc7).2.1 (by decide) (by decide) k) ?_
      show OwnEnds p e below _ (s₁.setTop (mkF m 14 #[.val (.int p0), .val (.int p1), .val (.int p2)] []))
      refine .pre (fun _ k => XS.iconst X0.here hx rfl (hb hby d1_14) k) ?_
      show OwnEnds p e below _ (s₁.setTop (mkF m 15 #[.val (.int p0), .val (.int p1), .val (.int p2)] [(.int (0 : Int32))]))
      exact own_endN X0 hx hlk (t := .boolean) Bd.returns (by simp) (hb hby d1_15) rfl hk0 hn0 ⟨congrArg (fun z => some (Value.int z)) hF, N0, e0⟩
theorem d2_0 : decode prog_19_method_13_code 0 = .ok (.iconst 1, 1) := by decide +kernel
theorem d2_1 : decode prog_19_method_13_code 1 = .ok (.istore_n 3, 1) := by decide +kernel
theorem d2_2 : decode prog_19_method_13_code 2 = .ok (.iload_n 1, 1) := by decide +kernel
theorem d2_3 : decode prog_19_method_13_code 3 = .ok (.istore 4, 2) := by decide +kernel
theorem d2_5 : decode prog_19_method_13_code 5 = .ok (.iload 4, 2) := by decide +kernel
theorem d2_7 : decode prog_19_method_13_code 7 = .ok (.iload_n 2, 1) := by decide +kernel
theorem d2_8 : decode prog_19_method_13_code 8 = .ok (.if_icmp .ge 16, 3) := by decide +kernel
theorem d2_11 : decode prog_19_method_13_code 11 = .ok (.iload_n 3, 1) := by decide +kernel
theorem d2_12 : decode prog_19_method_13_code 12 = .ok (.aload_n 0, 1) := by decide +kernel
theorem d2_13 : decode prog_19_method_13_code 13 = .ok (.iload 4, 2) := by decide +kernel
theorem d2_15 : decode prog_19_method_13_code 15 = .ok (.iaload, 1) := by decide +kernel
theorem d2_16 : decode prog_19_method_13_code 16 = .ok (.imul, 1) := by decide +kernel
theorem d2_17 : decode prog_19_method_13_code 17 = .ok (.istore_n 3, 1) := by decide +kernel
theorem d2_18 : decode prog_19_method_13_code 18 = .ok (.iinc 4 1, 3) := by decide +kernel
theorem d2_21 : decode prog_19_method_13_code 21 = .ok (.goto (-16), 3) := by decide +kernel
theorem d2_24 : decode prog_19_method_13_code 24 = .ok (.iload_n 3, 1) := by decide +kernel
theorem d2_25 : decode prog_19_method_13_code 25 = .ok (.ireturn, 1) := by decide +kernel
theorem ef_2 (m : MethodId) (a0 : Addr) (p1 : Int32) (p2 : Int32) : entryFrame m #[(.ref a0), (.int p1), (.int p2)] 5 = mkF m 0 #[.val (.ref a0), .val (.int p1), .val (.int p2), .unset, .unset] [] := by first | (simp [entryFrame, mkF, argsToLocals, Value.category]; done) | rfl
theorem pn_1 : plainName "com/example/lather/lather/encoding/ArrayShape" = true := by first | (simp [plainName, overriddenIn]; done) | decide +kernel
def own_prod (l : List Int32) : Nat → Nat → Int32 → Int32
  | 0, _, acc => acc
  | k + 1, i, acc => own_prod l k (i + 1) (acc * l.getD i 0)
theorem own_step (i : Int32) (h0 : 0 ≤ i.toInt) (h4 : i.toInt ≤ 4) : (i + 1).toInt = i.toInt + 1 := by
  have o1 : (1 : Int32).toInt = 1 := rfl
  rw [Jvm.Kit.i32_add (by rw [o1]; omega) (by rw [o1]; omega), o1]
theorem own_inb {i : Int32} (h0 : 0 ≤ i.toInt) (h4 : i.toInt < 4) : ¬ (i < 0) ∧ i < (4 : Int32) := by
  rw [Int32.lt_iff_toInt_lt, Int32.lt_iff_toInt_lt]
  have z : (0 : Int32).toInt = 0 := rfl
  have f : (4 : Int32).toInt = 4 := rfl
  omega
def Q2 (Z : State) (a0 : Addr) (p1 : Int32) (p2 : Int32) (kk : ClassId) (w0 : Int32) (w1 : Int32) (w2 : Int32) (w3 : Int32) (h0 : Heap) (n0 : Nat) (v : Option Value) (h : Heap) (L : List Loc) : Prop := v = some (.int (own_prod ([w0, w1, w2, w3] : List Int32) (p2.toInt - p1.toInt).toNat p1.toNatClampNeg 1)) ∧ Fr n0 L ∧ h = h0
set_option maxRecDepth 65536 in
set_option maxHeartbeats 40000000 in
theorem rm2 (l : Launch) (Z : State) (aZ : Array Value) (hw : ∀ d ∈ tables_1, d.before aZ Z = true) (ws : List Jvm.Cond) (a0 : Addr) (p1 : Int32) (p2 : Int32) (kk : ClassId) (w0 : Int32) (w1 : Int32) (w2 : Int32) (w3 : Int32) (h0 : Heap) (n0 : Nat) (Z0 : n0 ≤ h0.size) (V0 : Arv Z h0 a0 kk .int (4 : Int32) [(.int w0), (.int w1), (.int w2), (.int w3)] (.int (0 : Int32))) (hp1 : 0 ≤ p1.toInt ∧ p1.toInt ≤ 4) (hp2 : 0 ≤ p2.toInt ∧ p2.toInt ≤ 4) :
    MetFree l (⟨"com/example/lather/lather/encoding/ArrayShape", "product", "([III)I"⟩ : MethodName) (head1 (Jvm.Cond.code (⟨"com/example/lather/lather/encoding/ArrayShape", "product", "([III)I"⟩ : MethodName) prog_19_method_13_code 5 (some .int) :: ws) ({ frames := 0, cells := 0, slots := 0, locals := 0 } : Room)) (fun a U => a = #[(.ref a0), (.int p1), (.int p2)] ∧ Z.Warmed39 U.vm ∧ U.heap = h0) (fun _ _ _ _ _ => True) (fun _ U o U' => ∃ v L, o = .returned v ∧ Q2 Z a0 p1 p2 kk w0 w1 w2 w3 h0 n0 v U'.heap L ∧ FrameEnd U o U' L 0 0) := by
  refine MetFree.of_bodySF (plainFor_of_name pn_1) hisR ?_
  intro p e s m args below meth c s₁ Bd hml0 hP hK
  obtain ⟨rfl, hZ, hh⟩ := hP
  have hx := Bd.exec
  have hby := Bd.bytes
  have hml : c.maxLocals = 5 := hml0
  have hown : s.vm.findClass "com/example/lather/lather/encoding/ArrayShape" = some m.cls := findClass_of_methodNamed Bd.named
  have hnm := (name_of_methodNamed Bd.named Bd.method).1
  have hlk := BodyLoose.notSynchronized Bd
  have X0 : Stand p l e ({ frames := 0, cells := 0, slots := 0, locals := 0 } : Room) s m #[(.ref a0), (.int p1), (.int p2)] below meth c s₁ [] 0 0 := Stand.of_body Bd
  have e0 : s₁.heap = h0 := by rw [← hh, Bd.state]; rfl
  have N0 := Fr.nil n0
  have hk0 : 0 ≤ 0 := Nat.zero_le _
  have hn0 : 0 ≤ 0 := Nat.zero_le _
  show OwnEnds p e below (OwnQ s (Q2 Z a0 p1 p2 kk w0 w1 w2 w3 h0 n0) 0 0) (s₁.setTop (entryFrame m #[(.ref a0), (.int p1), (.int p2)] 5))
  refine .pre (fun t k => castTop (ef_2 m a0 p1 p2) k) ?_
  have B5 : ∀ (fuel : Nat) (T : State) (L : List Loc) (k n : Nat) (X : Stand p l e ({ frames := 0, cells := 0, slots := 0, locals := 0 } : Room) s m #[(.ref a0), (.int p1), (.int p2)] below meth c T L k n) (eT : T.heap = h0) (N : Fr n0 L) (hk : k ≤ 0) (hn : n ≤ 0) (i3 i4 : Int32), 0 ≤ i4.toInt → i4.toInt ≤ 4 → (p2.toInt - i4.toInt).toNat = fuel → own_prod ([w0, w1, w2, w3] : List Int32) fuel i4.toNatClampNeg i3 = own_prod ([w0, w1, w2, w3] : List Int32) (p2.toInt - p1.toInt).toNat p1.toNatClampNeg 1 → OwnEnds p e below (OwnQ s (Q2 Z a0 p1 p2 kk w0 w1 w2 w3 h0 n0) 0 0) (T.setTop (mkF m 5 #[.val (.ref a0), .val (.int p1), .val (.int p2), .val (.int i3), .val (.int i4)] [])) := by
    intro fuel
    induction fuel with
    | zero =>
      intro T L k n X eT N hk hn i3 i4 hi0 hi4 hf hF
      change i3 = _ at hF
      have hlt : ¬ (i4 < p2) := by rw [Int32.lt_iff_toInt_lt]; omega
      show OwnEnds p e below _ (T.setTop (mkF m 5 #[.val (.ref a0), .val (.int p1), .val (.int p2), .val (.int i3), .val (.int i4)] []))
      refine .pre (fun _ k => XS.iload X.here hx rfl (hb hby d2_5) rfl k) ?_
      show OwnEnds p e below _ (T.setTop (mkF m 7 #[.val (.ref a0), .val (.int p1), .val (.int p2), .val (.int i3), .val (.int i4)] [(.int i4)]))
      refine .pre (fun _ k => XS.iloadN X.here hx rfl (hb hby d2_7) rfl k) ?_
      show OwnEnds p e below _ (T.setTop (mkF m 8 #[.val (.ref a0), .val (.int p1), .val (.int p2), .val (.int i3), .val (.int i4)] [(.int p2), (.int i4)]))
      have hc8 : ¬ (i4 < p2) := hlt
      refine .pre (fun _ k => XS.icmpYes X.here hx rfl (pc0 := 8) (pc' := 24) rfl (hb hby d2_8) rfl (flt hc8).2.1 (by decide) (by decide) k) ?_
      show OwnEnds p e below _ (T.setTop (mkF m 24 #[.val (.ref a0), .val (.int p1), .val (.int p2), .val (.int i3), .val (.int i4)] []))
      refine .pre (fun _ k => XS.iloadN X.here hx rfl (hb hby d2_24) rfl k) ?_
      show OwnEnds p e below _ (T.setTop (mkF m 25 #[.val (.ref a0), .val (.int p1), .val (.int p2), .val (.int i3), .val (.int i4)] [(.int i3)]))
      exact own_endI X hx hlk Bd.returns (hb hby d2_25) hk hn ⟨congrArg (fun z => some (Value.int z)) hF, N, eT⟩
    | succ fuel ih =>
      intro T L k n X eT N hk hn i3 i4 hi0 hi4 hf hF
      have hlt : i4 < p2 := by rw [Int32.lt_iff_toInt_lt]; omega
      have hs := own_step i4 hi0 hi4
      have hs' : (i4 + (1 : Int32)).toNatClampNeg = i4.toNatClampNeg + 1 := by show (i4 + 1).toInt.toNat = i4.toInt.toNat + 1; rw [hs]; omega
      show OwnEnds p e below _ (T.setTop (mkF m 5 #[.val (.ref a0), .val (.int p1), .val (.int p2), .val (.int i3), .val (.int i4)] []))
      refine .pre (fun _ k => XS.iload X.here hx rfl (hb hby d2_5) rfl k) ?_
      show OwnEnds p e below _ (T.setTop (mkF m 7 #[.val (.ref a0), .val (.int p1), .val (.int p2), .val (.int i3), .val (.int i4)] [(.int i4)]))
      refine .pre (fun _ k => XS.iloadN X.here hx rfl (hb hby d2_7) rfl k) ?_
      show OwnEnds p e below _ (T.setTop (mkF m 8 #[.val (.ref a0), .val (.int p1), .val (.int p2), .val (.int i3), .val (.int i4)] [(.int p2), (.int i4)]))
      have hc8 : i4 < p2 := hlt
      refine .pre (fun _ k => XS.icmpNo X.here hx rfl (hb hby d2_8) rfl (tlt hc8).2.1 k) ?_
      show OwnEnds p e below _ (T.setTop (mkF m 11 #[.val (.ref a0), .val (.int p1), .val (.int p2), .val (.int i3), .val (.int i4)] []))
      refine .pre (fun _ k => XS.iloadN X.here hx rfl (hb hby d2_11) rfl k) ?_
      show OwnEnds p e below _ (T.setTop (mkF m 12 #[.val (.ref a0), .val (.int p1), .val (.int p2), .val (.int i3), .val (.int i4)] [(.int i3)]))
      refine .pre (fun _ k => XS.aloadN X.here hx rfl (hb hby d2_12) rfl rfl k) ?_
      show OwnEnds p e below _ (T.setTop (mkF m 13 #[.val (.ref a0), .val (.int p1), .val (.int p2), .val (.int i3), .val (.int i4)] [(.ref a0), (.int i3)]))
      refine .pre (fun _ k => XS.iload X.here hx rfl (hb hby d2_13) rfl k) ?_
      show OwnEnds p e below _ (T.setTop (mkF m 15 #[.val (.ref a0), .val (.int p1), .val (.int p2), .val (.int i3), .val (.int i4)] [(.int i4), (.ref a0), (.int i3)]))
      obtain ⟨cl1, Ar1, qa1, qs1, qn1, qh1, qg1⟩ := id V0
      have hj1 : ¬ (i4 < 0) ∧ i4 < (4 : Int32) := own_inb hi0 (by omega)
      have hin1 : ¬ (i4 < 0 ∨ cl1.slots.size ≤ (i4).toNatClampNeg) := inb_of qs1 hj1
      have hat1 : cl1.slots[(i4).toNatClampNeg]? = some (.int (([w0, w1, w2, w3] : List Int32).getD i4.toNatClampNeg 0)) := (qh1 _ (Nat.lt_of_not_le fun y => hin1 (Or.inr y))).trans (congrArg some (own_getI ([w0, w1, w2, w3] : List Int32) _))
      refine .pre (fun _ k => X.iaload hx (j := i4) (v := (.int (([w0, w1, w2, w3] : List Int32).getD i4.toNatClampNeg 0))) (by rw [eT]; exact Ar1.1) (State.isArrayOf_alike hZ.alike Ar1.2.1) Ar1.2.2 hin1 hat1 (g := (mkF m 15 #[.val (.ref a0), .val (.int p1), .val (.int p2), .val (.int i3), .val (.int i4)] [(.int i4), (.ref a0), (.int i3)])) rfl rfl (hb hby d2_15) _ k) ?_
      show OwnEnds p e below _ (T.setTop (mkF m 16 #[.val (.ref a0), .val (.int p1), .val (.int p2), .val (.int i3), .val (.int i4)] [(.int (([w0, w1, w2, w3] : List Int32).getD i4.toNatClampNeg 0)), (.int i3)]))
      refine .pre (fun _ k => XS.imul X.here hx rfl (hb hby d2_16) rfl k) ?_
      show OwnEnds p e below _ (T.setTop (mkF m 17 #[.val (.ref a0), .val (.int p1), .val (.int p2), .val (.int i3), .val (.int i4)] [(.int (i3 * (([w0, w1, w2, w3] : List Int32).getD i4.toNatClampNeg 0)))]))
      refine .pre (fun _ k => XS.istoreN X.here hx rfl (hb hby d2_17) rfl (l' := #[.val (.ref a0), .val (.int p1), .val (.int p2), .val (.int (i3 * (([w0, w1, w2, w3] : List Int32).getD i4.toNatClampNeg 0))), .val (.int i4)]) rfl k) ?_
      show OwnEnds p e below _ (T.setTop (mkF m 18 #[.val (.ref a0), .val (.int p1), .val (.int p2), .val (.int (i3 * (([w0, w1, w2, w3] : List Int32).getD i4.toNatClampNeg 0))), .val (.int i4)] []))
      refine .pre (fun _ k => XS.iinc X.here hx rfl (hb hby d2_18) rfl (l' := #[.val (.ref a0), .val (.int p1), .val (.int p2), .val (.int (i3 * (([w0, w1, w2, w3] : List Int32).getD i4.toNatClampNeg 0))), .val (.int (i4 + (1 : Int32)))]) rfl k) ?_
      show OwnEnds p e below _ (T.setTop (mkF m 21 #[.val (.ref a0), .val (.int p1), .val (.int p2), .val (.int (i3 * (([w0, w1, w2, w3] : List Int32).getD i4.toNatClampNeg 0))), .val (.int (i4 + (1 : Int32)))] []))
      refine .pre (fun _ k => XS.goto X.here hx rfl (pc0 := 21) (pc' := 5) rfl (hb hby d2_21) (by decide) (by decide) k) ?_
      exact ih T _ _ _ X eT N hk hn _ _ (by rw [hs]; omega) (by rw [hs]; omega) (by rw [hs]; omega) (by rw [hs']; exact hF)
  show OwnEnds p e below _ (s₁.setTop (mkF m 0 #[.val (.ref a0), .val (.int p1), .val (.int p2), .unset, .unset] []))
  refine .pre (fun _ k => XS.iconst X0.here hx rfl (hb hby d2_0) k) ?_
  show OwnEnds p e below _ (s₁.setTop (mkF m 1 #[.val (.ref a0), .val (.int p1), .val (.int p2), .unset, .unset] [(.int (1 : Int32))]))
  refine .pre (fun _ k => XS.istoreN X0.here hx rfl (hb hby d2_1) rfl (l' := #[.val (.ref a0), .val (.int p1), .val (.int p2), .val (.int (1 : Int32)), .unset]) rfl k) ?_
  show OwnEnds p e below _ (s₁.setTop (mkF m 2 #[.val (.ref a0), .val (.int p1), .val (.int p2), .val (.int (1 : Int32)), .unset] []))
  refine .pre (fun _ k => XS.iloadN X0.here hx rfl (hb hby d2_2) rfl k) ?_
  show OwnEnds p e below _ (s₁.setTop (mkF m 3 #[.val (.ref a0), .val (.int p1), .val (.int p2), .val (.int (1 : Int32)), .unset] [(.int p1)]))
  refine .pre (fun _ k => XS.istore X0.here hx rfl (hb hby d2_3) rfl (l' := #[.val (.ref a0), .val (.int p1), .val (.int p2), .val (.int (1 : Int32)), .val (.int p1)]) rfl k) ?_
  exact B5 _ s₁ _ _ _ X0 e0 N0 (by decide) (by decide) _ _ hp1.1 hp1.2 rfl rfl
theorem own_r5 (x : Int32) : 0 ≤ ((x &&& (255 : Int32)) % (5 : Int32)).toInt ∧ ((x &&& (255 : Int32)) % (5 : Int32)).toInt ≤ 4 := by
  have e : (x &&& 255).toInt = x.toInt % 2 ^ 8 := Jvm.Kit.i32_mask x 255 (k := 8) (by decide) (by decide)
  have h0 : 0 ≤ (x &&& 255).toInt := by rw [e]; omega
  have f : (5 : Int32).toInt = 5 := rfl
  rw [Jvm.Kit.i32_rem_nonneg h0, f, e]
  omega
theorem ef_0 (m : MethodId) (p0 : Int32) (p1 : Int32) (p2 : Int32) (p3 : Int32) (p4 : Int32) : entryFrame m #[(.int p0), (.int p1), (.int p2), (.int p3), (.int p4)] maxLocals = mkF m 0 #[.val (.int p0), .val (.int p1), .val (.int p2), .val (.int p3), .val (.int p4), .unset, .unset, .unset, .unset, .unset, .unset] [] := by first | (simp [entryFrame, mkF, argsToLocals, Value.category, maxLocals]; done) | rfl
theorem pd_2 : parseMethodDescriptor "(III)Z" = some ⟨[.int, .int, .int], some .boolean⟩ := by decide +kernel
theorem pd_3 : parseMethodDescriptor "([III)I" = some ⟨[(.array .int), .int, .int], some .int⟩ := by decide +kernel
def f0_163 (p0 : Int32) (p1 : Int32) (p2 : Int32) (p3 : Int32) (p4 : Int32) (i8 : Int32) (i9 : Int32) (t0 : Int32) : Int32 := (if i9 = i8 then (if t0 = (0 : Int32) then (0 : Int32) else (1 : Int32)) else (0 : Int32))
def f0_162 (p0 : Int32) (p1 : Int32) (p2 : Int32) (p3 : Int32) (p4 : Int32) (i8 : Int32) (i9 : Int32) : Int32 := (f0_163 p0 p1 p2 p3 p4 i8 i9 (0 : Int32))
def f0_115 (p0 : Int32) (p1 : Int32) (p2 : Int32) (p3 : Int32) (p4 : Int32) (i8 : Int32) : Int32 := (if p0 = p0 then (if p1 = p1 then (if p2 = p2 then (if p3 = p3 then (f0_163 p0 p1 p2 p3 p4 i8 (own_prod ([p0, p1, p2, p3] : List Int32) (((((p4.toUInt32 >>> ((8 : Int32) &&& 31).toUInt32).toInt32) &&& (255 : Int32)) % (5 : Int32)).toInt - ((p4 &&& (255 : Int32)) % (5 : Int32)).toInt).toNat ((p4 &&& (255 : Int32)) % (5 : Int32)).toNatClampNeg 1) (1 : Int32)) else (f0_162 p0 p1 p2 p3 p4 i8 (own_prod ([p0, p1, p2, p3] : List Int32) (((((p4.toUInt32 >>> ((8 : Int32) &&& 31).toUInt32).toInt32) &&& (255 : Int32)) % (5 : Int32)).toInt - ((p4 &&& (255 : Int32)) % (5 : Int32)).toInt).toNat ((p4 &&& (255 : Int32)) % (5 : Int32)).toNatClampNeg 1))) else (f0_162 p0 p1 p2 p3 p4 i8 (own_prod ([p0, p1, p2, p3] : List Int32) (((((p4.toUInt32 >>> ((8 : Int32) &&& 31).toUInt32).toInt32) &&& (255 : Int32)) % (5 : Int32)).toInt - ((p4 &&& (255 : Int32)) % (5 : Int32)).toInt).toNat ((p4 &&& (255 : Int32)) % (5 : Int32)).toNatClampNeg 1))) else (f0_162 p0 p1 p2 p3 p4 i8 (own_prod ([p0, p1, p2, p3] : List Int32) (((((p4.toUInt32 >>> ((8 : Int32) &&& 31).toUInt32).toInt32) &&& (255 : Int32)) % (5 : Int32)).toInt - ((p4 &&& (255 : Int32)) % (5 : Int32)).toInt).toNat ((p4 &&& (255 : Int32)) % (5 : Int32)).toNatClampNeg 1))) else (f0_162 p0 p1 p2 p3 p4 i8 (own_prod ([p0, p1, p2, p3] : List Int32) (((((p4.toUInt32 >>> ((8 : Int32) &&& 31).toUInt32).toInt32) &&& (255 : Int32)) % (5 : Int32)).toInt - ((p4 &&& (255 : Int32)) % (5 : Int32)).toInt).toNat ((p4 &&& (255 : Int32)) % (5 : Int32)).toNatClampNeg 1)))
def f0_98 (p0 : Int32) (p1 : Int32) (p2 : Int32) (p3 : Int32) (p4 : Int32) (i8 : Int32) : Int32 := (if (f1_0 (3 : Int32) ((p4 &&& (255 : Int32)) % (5 : Int32)) ((((p4.toUInt32 >>> ((8 : Int32) &&& 31).toUInt32).toInt32) &&& (255 : Int32)) % (5 : Int32))) = (0 : Int32) then (f0_115 p0 p1 p2 p3 p4 i8) else (f0_115 p0 p1 p2 p3 p4 (i8 * p3)))
def f0_81 (p0 : Int32) (p1 : Int32) (p2 : Int32) (p3 : Int32) (p4 : Int32) (i8 : Int32) : Int32 := (if (f1_0 (2 : Int32) ((p4 &&& (255 : Int32)) % (5 : Int32)) ((((p4.toUInt32 >>> ((8 : Int32) &&& 31).toUInt32).toInt32) &&& (255 : Int32)) % (5 : Int32))) = (0 : Int32) then (f0_98 p0 p1 p2 p3 p4 i8) else (f0_98 p0 p1 p2 p3 p4 (i8 * p2)))
def f0_64 (p0 : Int32) (p1 : Int32) (p2 : Int32) (p3 : Int32) (p4 : Int32) (i8 : Int32) : Int32 := (if (f1_0 (1 : Int32) ((p4 &&& (255 : Int32)) % (5 : Int32)) ((((p4.toUInt32 >>> ((8 : Int32) &&& 31).toUInt32).toInt32) &&& (255 : Int32)) % (5 : Int32))) = (0 : Int32) then (f0_81 p0 p1 p2 p3 p4 i8) else (f0_81 p0 p1 p2 p3 p4 (i8 * p1)))
def f0_44 (p0 : Int32) (p1 : Int32) (p2 : Int32) (p3 : Int32) (p4 : Int32) : Int32 := (if (f1_0 (0 : Int32) ((p4 &&& (255 : Int32)) % (5 : Int32)) ((((p4.toUInt32 >>> ((8 : Int32) &&& 31).toUInt32).toInt32) &&& (255 : Int32)) % (5 : Int32))) = (0 : Int32) then (f0_64 p0 p1 p2 p3 p4 (1 : Int32)) else (f0_64 p0 p1 p2 p3 p4 ((1 : Int32) * p0)))
def Q0 (Z : State) (p0 : Int32) (p1 : Int32) (p2 : Int32) (p3 : Int32) (p4 : Int32) (h0 : Heap) (n0 : Nat) (v : Option Value) (h : Heap) (L : List Loc) : Prop := v = some (.int (f0_44 p0 p1 p2 p3 p4)) ∧ Fr n0 L ∧ True
set_option maxRecDepth 65536 in
set_option maxHeartbeats 40000000 in
theorem rm0 (l : Launch) (Z : State) (aZ : Array Value) (hw : ∀ d ∈ tables_1, d.before aZ Z = true) (ws : List Jvm.Cond) (p0 : Int32) (p1 : Int32) (p2 : Int32) (p3 : Int32) (p4 : Int32) (h0 : Heap) (n0 : Nat) (Z0 : n0 ≤ h0.size) :
    MetFree l x (head1 (Jvm.Cond.code x code maxLocals ret :: ws) room_1) (fun a U => a = #[(.int p0), (.int p1), (.int p2), (.int p3), (.int p4)] ∧ Z.Warmed39 U.vm ∧ U.heap = h0) (fun _ _ _ _ _ => True) (fun _ U o U' => ∃ v L, o = .returned v ∧ Q0 Z p0 p1 p2 p3 p4 h0 n0 v U'.heap L ∧ FrameEnd U o U' L 16 128) := by
  refine MetFree.of_bodySF (plainFor_of_name pn_0) hisR ?_
  intro p e s m args below meth c s₁ Bd hml0 hP hK
  obtain ⟨rfl, hZ, hh⟩ := hP
  have hx := Bd.exec
  have hby := Bd.bytes
  have hml : c.maxLocals = 11 := hml0
  have hown : s.vm.findClass "com/example/lather/lather/encoding/ArrayShapeProductPinLaw" = some m.cls := findClass_of_methodNamed Bd.named
  have hnm := (name_of_methodNamed Bd.named Bd.method).1
  have hlk := BodyLoose.notSynchronized Bd
  have X0 : Stand p l e room_1 s m #[(.int p0), (.int p1), (.int p2), (.int p3), (.int p4)] below meth c s₁ [] 0 0 := Stand.of_body Bd
  have e0 : s₁.heap = h0 := by rw [← hh, Bd.state]; rfl
  have N0 := Fr.nil n0
  have hk0 : 0 ≤ 16 := Nat.zero_le _
  have hn0 : 0 ≤ 128 := Nat.zero_le _
  show OwnEnds p e below (OwnQ s (Q0 Z p0 p1 p2 p3 p4 h0 n0) 16 128) (s₁.setTop (entryFrame m #[(.int p0), (.int p1), (.int p2), (.int p3), (.int p4)] maxLocals))
  refine .pre (fun t k => castTop (ef_0 m p0 p1 p2 p3 p4) k) ?_
  show OwnEnds p e below _ (s₁.setTop (mkF m 0 #[.val (.int p0), .val (.int p1), .val (.int p2), .val (.int p3), .val (.int p4), .unset, .unset, .unset, .unset, .unset, .unset] []))
  refine .pre (fun _ k => XS.iconst X0.here hx rfl (hb hby at_0) k) ?_
  show OwnEnds p e below _ (s₁.setTop (mkF m 1 #[.val (.int p0), .val (.int p1), .val (.int p2), .val (.int p3), .val (.int p4), .unset, .unset, .unset, .unset, .unset, .unset] [(.int (4 : Int32))]))
  obtain ⟨T1, h1, kk1, X1, e1, E1, A1, st1⟩ := newP X0 hx hZ (hw _ (List.mem_of_getElem? (i := 0) rfl)) e0 (g := (mkF m 1 #[.val (.int p0), .val (.int p1), .val (.int p2), .val (.int p3), .val (.int p4), .unset, .unset, .unset, .unset, .unset, .unset] [(.int (4 : Int32))])) rfl (hb hby at_1) rfl (by decide) (cap := 4) (by decide) (by decide) (by decide) (by decide)
  obtain ⟨b1, g1⟩ : ∃ z, z = h0.size := ⟨_, rfl⟩
  rw [← g1] at A1 st1
  have V_b1 : Arv Z h1 b1 kk1 .int (4 : Int32) [(.int (0 : Int32)), (.int (0 : Int32)), (.int (0 : Int32)), (.int (0 : Int32))] (.int (0 : Int32)) := (Arv.new A1 (by decide)).pad (pad_rep [] (.int (0 : Int32)) 4)
  have g_b1 : n0 ≤ b1 := Nat.le_trans Z0 (Nat.le_of_eq g1.symm)
  refine .pre (fun _ k => st1 _ k) ?_
  show OwnEnds p e below _ (T1.setTop (mkF m 3 #[.val (.int p0), .val (.int p1), .val (.int p2), .val (.int p3), .val (.int p4), .unset, .unset, .unset, .unset, .unset, .unset] [(.ref b1)]))
  refine .pre (fun _ k => XS.dup X1.here hx rfl (hb hby at_3) rfl rfl k) ?_
  show OwnEnds p e below _ (T1.setTop (mkF m 4 #[.val (.int p0), .val (.int p1), .val (.int p2), .val (.int p3), .val (.int p4), .unset, .unset, .unset, .unset, .unset, .unset] [(.ref b1), (.ref b1)]))
  refine .pre (fun _ k => XS.iconst X1.here hx rfl (hb hby at_4) k) ?_
  show OwnEnds p e below _ (T1.setTop (mkF m 5 #[.val (.int p0), .val (.int p1), .val (.int p2), .val (.int p3), .val (.int p4), .unset, .unset, .unset, .unset, .unset, .unset] [(.int (0 : Int32)), (.ref b1), (.ref b1)]))
  refine .pre (fun _ k => XS.iloadN X1.here hx rfl (hb hby at_5) rfl k) ?_
  show OwnEnds p e below _ (T1.setTop (mkF m 6 #[.val (.int p0), .val (.int p1), .val (.int p2), .val (.int p3), .val (.int p4), .unset, .unset, .unset, .unset, .unset, .unset] [(.int p0), (.int (0 : Int32)), (.ref b1), (.ref b1)]))
  obtain ⟨cl2, Ar2, qa2, qs2, qn2, qh2, qg2⟩ := id V_b1
  have hin2 : ¬ ((0 : Int32) < 0 ∨ cl2.slots.size ≤ ((0 : Int32)).toNatClampNeg) := inb_of qs2 ⟨by decide, by decide⟩
  obtain ⟨T2, h2, X2, e2, W2, st2⟩ := stI X1 hx hZ e1 Ar2 (j := (0 : Int32)) hin2 (g := (mkF m 6 #[.val (.int p0), .val (.int p1), .val (.int p2), .val (.int p3), .val (.int p4), .unset, .unset, .unset, .unset, .unset, .unset] [(.int p0), (.int (0 : Int32)), (.ref b1), (.ref b1)])) rfl rfl (hb hby at_6)
  have V2 : Arv Z h2 b1 kk1 .int (4 : Int32) [(.int p0), (.int (0 : Int32)), (.int (0 : Int32)), (.int (0 : Int32))] (.int (0 : Int32)) := Arv.set Ar2 qa2 qs2 qn2 qh2 qg2 rfl W2 0 rfl (Nat.le_of_ble_eq_true rfl)
  have N2 := Fr.snoc X2 N0 g_b1
  refine .pre (fun _ k => st2 _ k) ?_
  show OwnEnds p e below _ (T2.setTop (mkF m 7 #[.val (.int p0), .val (.int p1), .val (.int p2), .val (.int p3), .val (.int p4), .unset, .unset, .unset, .unset, .unset, .unset] [(.ref b1)]))
  refine .pre (fun _ k => XS.dup X2.here hx rfl (hb hby at_7) rfl rfl k) ?_
  show OwnEnds p e below _ (T2.setTop (mkF m 8 #[.val (.int p0), .val (.int p1), .val (.int p2), .val (.int p3), .val (.int p4), .unset, .unset, .unset, .unset, .unset, .unset] [(.ref b1), (.ref b1)]))
  refine .pre (fun _ k => XS.iconst X2.here hx rfl (hb hby at_8) k) ?_
  show OwnEnds p e below _ (T2.setTop (mkF m 9 #[.val (.int p0), .val (.int p1), .val (.int p2), .val (.int p3), .val (.int p4), .unset, .unset, .unset, .unset, .unset, .unset] [(.int (1 : Int32)), (.ref b1), (.ref b1)]))
  refine .pre (fun _ k => XS.iloadN X2.here hx rfl (hb hby at_9) rfl k) ?_
  show OwnEnds p e below _ (T2.setTop (mkF m 10 #[.val (.int p0), .val (.int p1), .val (.int p2), .val (.int p3), .val (.int p4), .unset, .unset, .unset, .unset, .unset, .unset] [(.int p1), (.int (1 : Int32)), (.ref b1), (.ref b1)]))
  obtain ⟨cl3, Ar3, qa3, qs3, qn3, qh3, qg3⟩ := id V2
  have hin3 : ¬ ((1 : Int32) < 0 ∨ cl3.slots.size ≤ ((1 : Int32)).toNatClampNeg) := inb_of qs3 ⟨by decide, by decide⟩
  obtain ⟨T3, h3, X3, e3, W3, st3⟩ := stI X2 hx hZ e2 Ar3 (j := (1 : Int32)) hin3 (g := (mkF m 10 #[.val (.int p0), .val (.int p1), .val (.int p2), .val (.int p3), .val (.int p4), .unset, .unset, .unset, .unset, .unset, .unset] [(.int p1), (.int (1 : Int32)), (.ref b1), (.ref b1)])) rfl rfl (hb hby at_10)
  have V3 : Arv Z h3 b1 kk1 .int (4 : Int32) [(.int p0), (.int p1), (.int (0 : Int32)), (.int (0 : Int32))] (.int (0 : Int32)) := Arv.set Ar3 qa3 qs3 qn3 qh3 qg3 rfl W3 1 rfl (Nat.le_of_ble_eq_true rfl)
  have N3 := Fr.snoc X3 N2 g_b1
  refine .pre (fun _ k => st3 _ k) ?_
  show OwnEnds p e below _ (T3.setTop (mkF m 11 #[.val (.int p0), .val (.int p1), .val (.int p2), .val (.int p3), .val (.int p4), .unset, .unset, .unset, .unset, .unset, .unset] [(.ref b1)]))
  refine .pre (fun _ k => XS.dup X3.here hx rfl (hb hby at_11) rfl rfl k) ?_
  show OwnEnds p e below _ (T3.setTop (mkF m 12 #[.val (.int p0), .val (.int p1), .val (.int p2), .val (.int p3), .val (.int p4), .unset, .unset, .unset, .unset, .unset, .unset] [(.ref b1), (.ref b1)]))
  refine .pre (fun _ k => XS.iconst X3.here hx rfl (hb hby at_12) k) ?_
  show OwnEnds p e below _ (T3.setTop (mkF m 13 #[.val (.int p0), .val (.int p1), .val (.int p2), .val (.int p3), .val (.int p4), .unset, .unset, .unset, .unset, .unset, .unset] [(.int (2 : Int32)), (.ref b1), (.ref b1)]))
  refine .pre (fun _ k => XS.iloadN X3.here hx rfl (hb hby at_13) rfl k) ?_
  show OwnEnds p e below _ (T3.setTop (mkF m 14 #[.val (.int p0), .val (.int p1), .val (.int p2), .val (.int p3), .val (.int p4), .unset, .unset, .unset, .unset, .unset, .unset] [(.int p2), (.int (2 : Int32)), (.ref b1), (.ref b1)]))
  obtain ⟨cl4, Ar4, qa4, qs4, qn4, qh4, qg4⟩ := id V3
  have hin4 : ¬ ((2 : Int32) < 0 ∨ cl4.slots.size ≤ ((2 : Int32)).toNatClampNeg) := inb_of qs4 ⟨by decide, by decide⟩
  obtain ⟨T4, h4, X4, e4, W4, st4⟩ := stI X3 hx hZ e3 Ar4 (j := (2 : Int32)) hin4 (g := (mkF m 14 #[.val (.int p0), .val (.int p1), .val (.int p2), .val (.int p3), .val (.int p4), .unset, .unset, .unset, .unset, .unset, .unset] [(.int p2), (.int (2 : Int32)), (.ref b1), (.ref b1)])) rfl rfl (hb hby at_14)
  have V4 : Arv Z h4 b1 kk1 .int (4 : Int32) [(.int p0), (.int p1), (.int p2), (.int (0 : Int32))] (.int (0 : Int32)) := Arv.set Ar4 qa4 qs4 qn4 qh4 qg4 rfl W4 2 rfl (Nat.le_of_ble_eq_true rfl)
  have N4 := Fr.snoc X4 N3 g_b1
  refine .pre (fun _ k => st4 _ k) ?_
  show OwnEnds p e below _ (T4.setTop (mkF m 15 #[.val (.int p0), .val (.int p1), .val (.int p2), .val (.int p3), .val (.int p4), .unset, .unset, .unset, .unset, .unset, .unset] [(.ref b1)]))
  refine .pre (fun _ k => XS.dup X4.here hx rfl (hb hby at_15) rfl rfl k) ?_
  show OwnEnds p e below _ (T4.setTop (mkF m 16 #[.val (.int p0), .val (.int p1), .val (.int p2), .val (.int p3), .val (.int p4), .unset, .unset, .unset, .unset, .unset, .unset] [(.ref b1), (.ref b1)]))
  refine .pre (fun _ k => XS.iconst X4.here hx rfl (hb hby at_16) k) ?_
  show OwnEnds p e below _ (T4.setTop (mkF m 17 #[.val (.int p0), .val (.int p1), .val (.int p2), .val (.int p3), .val (.int p4), .unset, .unset, .unset, .unset, .unset, .unset] [(.int (3 : Int32)), (.ref b1), (.ref b1)]))
  refine .pre (fun _ k => XS.iloadN X4.here hx rfl (hb hby at_17) rfl k) ?_
  show OwnEnds p e below _ (T4.setTop (mkF m 18 #[.val (.int p0), .val (.int p1), .val (.int p2), .val (.int p3), .val (.int p4), .unset, .unset, .unset, .unset, .unset, .unset] [(.int p3), (.int (3 : Int32)), (.ref b1), (.ref b1)]))
  obtain ⟨cl5, Ar5, qa5, qs5, qn5, qh5, qg5⟩ := id V4
  have hin5 : ¬ ((3 : Int32) < 0 ∨ cl5.slots.size ≤ ((3 : Int32)).toNatClampNeg) := inb_of qs5 ⟨by decide, by decide⟩
  obtain ⟨T5, h5, X5, e5, W5, st5⟩ := stI X4 hx hZ e4 Ar5 (j := (3 : Int32)) hin5 (g := (mkF m 18 #[.val (.int p0), .val (.int p1), .val (.int p2), .val (.int p3), .val (.int p4), .unset, .unset, .unset, .unset, .unset, .unset] [(.int p3), (.int (3 : Int32)), (.ref b1), (.ref b1)])) rfl rfl (hb hby at_18)
  have V5 : Arv Z h5 b1 kk1 .int (4 : Int32) [(.int p0), (.int p1), (.int p2), (.int p3)] (.int (0 : Int32)) := Arv.set Ar5 qa5 qs5 qn5 qh5 qg5 rfl W5 3 rfl (Nat.le_of_ble_eq_true rfl)
  have N5 := Fr.snoc X5 N4 g_b1
  refine .pre (fun _ k => st5 _ k) ?_
  show OwnEnds p e below _ (T5.setTop (mkF m 19 #[.val (.int p0), .val (.int p1), .val (.int p2), .val (.int p3), .val (.int p4), .unset, .unset, .unset, .unset, .unset, .unset] [(.ref b1)]))
  refine .pre (fun _ k => XS.astore X5.here hx rfl (hb hby at_19) rfl rfl (l' := #[.val (.int p0), .val (.int p1), .val (.int p2), .val (.int p3), .val (.int p4), .val (.ref b1), .unset, .unset, .unset, .unset, .unset]) rfl k) ?_
  show OwnEnds p e below _ (T5.setTop (mkF m 21 #[.val (.int p0), .val (.int p1), .val (.int p2), .val (.int p3), .val (.int p4), .val (.ref b1), .unset, .unset, .unset, .unset, .unset] []))
  refine .pre (fun _ k => XS.iload X5.here hx rfl (hb hby at_21) rfl k) ?_
  show OwnEnds p e below _ (T5.setTop (mkF m 23 #[.val (.int p0), .val (.int p1), .val (.int p2), .val (.int p3), .val (.int p4), .val (.ref b1), .unset, .unset, .unset, .unset, .unset] [(.int p4)]))
  refine .pre (fun _ k => XS.sipush X5.here hx rfl (hb hby at_23) k) ?_
  show OwnEnds p e below _ (T5.setTop (mkF m 26 #[.val (.int p0), .val (.int p1), .val (.int p2), .val (.int p3), .val (.int p4), .val (.ref b1), .unset, .unset, .unset, .unset, .unset] [(.int (255 : Int32)), (.int p4)]))
  refine .pre (fun _ k => XS.iand X5.here hx rfl (hb hby at_26) rfl k) ?_
  show OwnEnds p e below _ (T5.setTop (mkF m 27 #[.val (.int p0), .val (.int p1), .val (.int p2), .val (.int p3), .val (.int p4), .val (.ref b1), .unset, .unset, .unset, .unset, .unset] [(.int (p4 &&& (255 : Int32)))]))
  refine .pre (fun _ k => XS.iconst X5.here hx rfl (hb hby at_27) k) ?_
  show OwnEnds p e below _ (T5.setTop (mkF m 28 #[.val (.int p0), .val (.int p1), .val (.int p2), .val (.int p3), .val (.int p4), .val (.ref b1), .unset, .unset, .unset, .unset, .unset] [(.int (5 : Int32)), (.int (p4 &&& (255 : Int32)))]))
  refine .pre (fun _ k => iremM X5 hx rfl (hb hby at_28) rfl (by decide) k) ?_
  show OwnEnds p e below _ (T5.setTop (mkF m 29 #[.val (.int p0), .val (.int p1), .val (.int p2), .val (.int p3), .val (.int p4), .val (.ref b1), .unset, .unset, .unset, .unset, .unset] [(.int ((p4 &&& (255 : Int32)) % (5 : Int32)))]))
  refine .pre (fun _ k => XS.istore X5.here hx rfl (hb hby at_29) rfl (l' := #[.val (.int p0), .val (.int p1), .val (.int p2), .val (.int p3), .val (.int p4), .val (.ref b1), .val (.int ((p4 &&& (255 : Int32)) % (5 : Int32))), .unset, .unset, .unset, .unset]) rfl k) ?_
  show OwnEnds p e below _ (T5.setTop (mkF m 31 #[.val (.int p0), .val (.int p1), .val (.int p2), .val (.int p3), .val (.int p4), .val (.ref b1), .val (.int ((p4 &&& (255 : Int32)) % (5 : Int32))), .unset, .unset, .unset, .unset] []))
  refine .pre (fun _ k => XS.iload X5.here hx rfl (hb hby at_31) rfl k) ?_
  show OwnEnds p e below _ (T5.setTop (mkF m 33 #[.val (.int p0), .val (.int p1), .val (.int p2), .val (.int p3), .val (.int p4), .val (.ref b1), .val (.int ((p4 &&& (255 : Int32)) % (5 : Int32))), .unset, .unset, .unset, .unset] [(.int p4)]))
  refine .pre (fun _ k => XS.bipush X5.here hx rfl (hb hby at_33) k) ?_
  show OwnEnds p e below _ (T5.setTop (mkF m 35 #[.val (.int p0), .val (.int p1), .val (.int p2), .val (.int p3), .val (.int p4), .val (.ref b1), .val (.int ((p4 &&& (255 : Int32)) % (5 : Int32))), .unset, .unset, .unset, .unset] [(.int (8 : Int32)), (.int p4)]))
  refine .pre (fun _ k => XS.iushr X5.here hx rfl (hb hby at_35) rfl k) ?_
  show OwnEnds p e below _ (T5.setTop (mkF m 36 #[.val (.int p0), .val (.int p1), .val (.int p2), .val (.int p3), .val (.int p4), .val (.ref b1), .val (.int ((p4 &&& (255 : Int32)) % (5 : Int32))), .unset, .unset, .unset, .unset] [(.int ((p4.toUInt32 >>> ((8 : Int32) &&& 31).toUInt32).toInt32))]))
  refine .pre (fun _ k => XS.sipush X5.here hx rfl (hb hby at_36) k) ?_
  show OwnEnds p e below _ (T5.setTop (mkF m 39 #[.val (.int p0), .val (.int p1), .val (.int p2), .val (.int p3), .val (.int p4), .val (.ref b1), .val (.int ((p4 &&& (255 : Int32)) % (5 : Int32))), .unset, .unset, .unset, .unset] [(.int (255 : Int32)), (.int ((p4.toUInt32 >>> ((8 : Int32) &&& 31).toUInt32).toInt32))]))
  refine .pre (fun _ k => XS.iand X5.here hx rfl (hb hby at_39) rfl k) ?_
  show OwnEnds p e below _ (T5.setTop (mkF m 40 #[.val (.int p0), .val (.int p1), .val (.int p2), .val (.int p3), .val (.int p4), .val (.ref b1), .val (.int ((p4 &&& (255 : Int32)) % (5 : Int32))), .unset, .unset, .unset, .unset] [(.int (((p4.toUInt32 >>> ((8 : Int32) &&& 31).toUInt32).toInt32) &&& (255 : Int32)))]))
  refine .pre (fun _ k => XS.iconst X5.here hx rfl (hb hby at_40) k) ?_
  show OwnEnds p e below _ (T5.setTop (mkF m 41 #[.val (.int p0), .val (.int p1), .val (.int p2), .val (.int p3), .val (.int p4), .val (.ref b1), .val (.int ((p4 &&& (255 : Int32)) % (5 : Int32))), .unset, .unset, .unset, .unset] [(.int (5 : Int32)), (.int (((p4.toUInt32 >>> ((8 : Int32) &&& 31).toUInt32).toInt32) &&& (255 : Int32)))]))
  refine .pre (fun _ k => iremM X5 hx rfl (hb hby at_41) rfl (by decide) k) ?_
  show OwnEnds p e below _ (T5.setTop (mkF m 42 #[.val (.int p0), .val (.int p1), .val (.int p2), .val (.int p3), .val (.int p4), .val (.ref b1), .val (.int ((p4 &&& (255 : Int32)) % (5 : Int32))), .unset, .unset, .unset, .unset] [(.int ((((p4.toUInt32 >>> ((8 : Int32) &&& 31).toUInt32).toInt32) &&& (255 : Int32)) % (5 : Int32)))]))
  refine .pre (fun _ k => XS.istore X5.here hx rfl (hb hby at_42) rfl (l' := #[.val (.int p0), .val (.int p1), .val (.int p2), .val (.int p3), .val (.int p4), .val (.ref b1), .val (.int ((p4 &&& (255 : Int32)) % (5 : Int32))), .val (.int ((((p4.toUInt32 >>> ((8 : Int32) &&& 31).toUInt32).toInt32) &&& (255 : Int32)) % (5 : Int32))), .unset, .unset, .unset]) rfl k) ?_
  have B163 : ∀ (T : State) (L : List Loc) (k n : Nat) (X : Stand p l e room_1 s m #[(.int p0), (.int p1), (.int p2), (.int p3), (.int p4)] below meth c T L k n) (eT : T.heap = h5) (N : Fr n0 L) (hk : k ≤ 16) (hn : n ≤ 128) (i8 : Int32) (i9 : Int32) (t0 : Int32), f0_163 p0 p1 p2 p3 p4 i8 i9 t0 = f0_44 p0 p1 p2 p3 p4 → OwnEnds p e below (OwnQ s (Q0 Z p0 p1 p2 p3 p4 h0 n0) 16 128) (T.setTop (mkF m 163 #[.val (.int p0), .val (.int p1), .val (.int p2), .val (.int p3), .val (.int p4), .val (.ref b1), .val (.int ((p4 &&& (255 : Int32)) % (5 : Int32))), .val (.int ((((p4.toUInt32 >>> ((8 : Int32) &&& 31).toUInt32).toInt32) &&& (255 : Int32)) % (5 : Int32))), .val (.int i8), .val (.int i9), .unset] [(.int t0)])) := by
    intro T L k n X eT N hk hn i8 i9 t0 hF
    change (if i9 = i8 then (if t0 = (0 : Int32) then (0 : Int32) else (1 : Int32)) else (0 : Int32)) = _ at hF
    show OwnEnds p e below _ (T.setTop (mkF m 163 #[.val (.int p0), .val (.int p1), .val (.int p2), .val (.int p3), .val (.int p4), .val (.ref b1), .val (.int ((p4 &&& (255 : Int32)) % (5 : Int32))), .val (.int ((((p4.toUInt32 >>> ((8 : Int32) &&& 31).toUInt32).toInt32) &&& (255 : Int32)) % (5 : Int32))), .val (.int i8), .val (.int i9), .unset] [(.int t0)]))
    refine .pre (fun _ k => XS.istore X.here hx rfl (hb hby at_163) rfl (l' := #[.val (.int p0), .val (.int p1), .val (.int p2), .val (.int p3), .val (.int p4), .val (.ref b1), .val (.int ((p4 &&& (255 : Int32)) % (5 : Int32))), .val (.int ((((p4.toUInt32 >>> ((8 : Int32) &&& 31).toUInt32).toInt32) &&& (255 : Int32)) % (5 : Int32))), .val (.int i8), .val (.int i9), .val (.int t0)]) rfl k) ?_
    show OwnEnds p e below _ (T.setTop (mkF m 165 #[.val (.int p0), .val (.int p1), .val (.int p2), .val (.int p3), .val (.int p4), .val (.ref b1), .val (.int ((p4 &&& (255 : Int32)) % (5 : Int32))), .val (.int ((((p4.toUInt32 >>> ((8 : Int32) &&& 31).toUInt32).toInt32) &&& (255 : Int32)) % (5 : Int32))), .val (.int i8), .val (.int i9), .val (.int t0)] []))
    refine .pre (fun _ k => XS.iload X.here hx rfl (hb hby at_165) rfl k) ?_
    show OwnEnds p e below _ (T.setTop (mkF m 167 #[.val (.int p0), .val (.int p1), .val (.int p2), .val (.int p3), .val (.int p4), .val (.ref b1), .val (.int ((p4 &&& (255 : Int32)) % (5 : Int32))), .val (.int ((((p4.toUInt32 >>> ((8 : Int32) &&& 31).toUInt32).toInt32) &&& (255 : Int32)) % (5 : Int32))), .val (.int i8), .val (.int i9), .val (.int t0)] [(.int i9)]))
    refine .pre (fun _ k => XS.iload X.here hx rfl (hb hby at_167) rfl k) ?_
    show OwnEnds p e below _ (T.setTop (mkF m 169 #[.val (.int p0), .val (.int p1), .val (.int p2), .val (.int p3), .val (.int p4), .val (.ref b1), .val (.int ((p4 &&& (255 : Int32)) % (5 : Int32))), .val (.int ((((p4.toUInt32 >>> ((8 : Int32) &&& 31).toUInt32).toInt32) &&& (255 : Int32)) % (5 : Int32))), .val (.int i8), .val (.int i9), .val (.int t0)] [(.int i8), (.int i9)]))
    by_cases hc169 : i9 = i8
    · rw [if_pos hc169] at hF
      refine .pre (fun _ k => XS.icmpNo X.here hx rfl (hb hby at_169) rfl (teq hc169).2 k) ?_
      show OwnEnds p e below _ (T.setTop (mkF m 172 #[.val (.int p0), .val (.int p1), .val (.int p2), .val (.int p3), .val (.int p4), .val (.ref b1), .val (.int ((p4 &&& (255 : Int32)) % (5 : Int32))), .val (.int ((((p4.toUInt32 >>> ((8 : Int32) &&& 31).toUInt32).toInt32) &&& (255 : Int32)) % (5 : Int32))), .val (.int i8), .val (.int i9), .val (.int t0)] []))
      refine .pre (fun _ k => XS.iload X.here hx rfl (hb hby at_172) rfl k) ?_
      show OwnEnds p e below _ (T.setTop (mkF m 174 #[.val (.int p0), .val (.int p1), .val (.int p2), .val (.int p3), .val (.int p4), .val (.ref b1), .val (.int ((p4 &&& (255 : Int32)) % (5 : Int32))), .val (.int ((((p4.toUInt32 >>> ((8 : Int32) &&& 31).toUInt32).toInt32) &&& (255 : Int32)) % (5 : Int32))), .val (.int i8), .val (.int i9), .val (.int t0)] [(.int t0)]))
      by_cases hc174 : t0 = (0 : Int32)
      · rw [if_pos hc174] at hF
        refine .pre (fun _ k => XS.ifYes X.here hx rfl (pc0 := 174) (pc' := 181) rfl (hb hby at_174) rfl ((if0 _ _).trans (teq hc174).1) (by decide) (by decide) k) ?_
        show OwnEnds p e below _ (T.setTop (mkF m 181 #[.val (.int p0), .val (.int p1), .val (.int p2), .val (.int p3), .val (.int p4), .val (.ref b1), .val (.int ((p4 &&& (255 : Int32)) % (5 : Int32))), .val (.int ((((p4.toUInt32 >>> ((8 : Int32) &&& 31).toUInt32).toInt32) &&& (255 : Int32)) % (5 : Int32))), .val (.int i8), .val (.int i9), .val (.int t0)] []))
        refine .pre (fun _ k => XS.iconst X.here hx rfl (hb hby at_181) k) ?_
        show OwnEnds p e below _ (T.setTop (mkF m 182 #[.val (.int p0), .val (.int p1), .val (.int p2), .val (.int p3), .val (.int p4), .val (.ref b1), .val (.int ((p4 &&& (255 : Int32)) % (5 : Int32))), .val (.int ((((p4.toUInt32 >>> ((8 : Int32) &&& 31).toUInt32).toInt32) &&& (255 : Int32)) % (5 : Int32))), .val (.int i8), .val (.int i9), .val (.int t0)] [(.int (0 : Int32))]))
        exact own_endN X hx hlk (t := .boolean) Bd.returns (by simp) (hb hby at_182) rfl hk hn ⟨congrArg (fun z => some (Value.int z)) hF, N, trivial⟩
      · rw [if_neg hc174] at hF
        refine .pre (fun _ k => XS.ifNo X.here hx rfl (hb hby at_174) rfl ((if0 _ _).trans (feq hc174).1) k) ?_
        show OwnEnds p e below _ (T.setTop (mkF m 177 #[.val (.int p0), .val (.int p1), .val (.int p2), .val (.int p3), .val (.int p4), .val (.ref b1), .val (.int ((p4 &&& (255 : Int32)) % (5 : Int32))), .val (.int ((((p4.toUInt32 >>> ((8 : Int32) &&& 31).toUInt32).toInt32) &&& (255 : Int32)) % (5 : Int32))), .val (.int i8), .val (.int i9), .val (.int t0)] []))
        refine .pre (fun _ k => XS.iconst X.here hx rfl (hb hby at_177) k) ?_
        show OwnEnds p e below _ (T.setTop (mkF m 178 #[.val (.int p0), .val (.int p1), .val (.int p2), .val (.int p3), .val (.int p4), .val (.ref b1), .val (.int ((p4 &&& (255 : Int32)) % (5 : Int32))), .val (.int ((((p4.toUInt32 >>> ((8 : Int32) &&& 31).toUInt32).toInt32) &&& (255 : Int32)) % (5 : Int32))), .val (.int i8), .val (.int i9), .val (.int t0)] [(.int (1 : Int32))]))
        refine .pre (fun _ k => XS.goto X.here hx rfl (pc0 := 178) (pc' := 182) rfl (hb hby at_178) (by decide) (by decide) k) ?_
        show OwnEnds p e below _ (T.setTop (mkF m 182 #[.val (.int p0), .val (.int p1), .val (.int p2), .val (.int p3), .val (.int p4), .val (.ref b1), .val (.int ((p4 &&& (255 : Int32)) % (5 : Int32))), .val (.int ((((p4.toUInt32 >>> ((8 : Int32) &&& 31).toUInt32).toInt32) &&& (255 : Int32)) % (5 : Int32))), .val (.int i8), .val (.int i9), .val (.int t0)] [(.int (1 : Int32))]))
        exact own_endN X hx hlk (t := .boolean) Bd.returns (by simp) (hb hby at_182) rfl hk hn ⟨congrArg (fun z => some (Value.int z)) hF, N, trivial⟩
    · rw [if_neg hc169] at hF
      refine .pre (fun _ k => XS.icmpYes X.here hx rfl (pc0 := 169) (pc' := 181) rfl (hb hby at_169) rfl (feq hc169).2 (by decide) (by decide) k) ?_
      show OwnEnds p e below _ (T.setTop (mkF m 181 #[.val (.int p0), .val (.int p1), .val (.int p2), .val (.int p3), .val (.int p4), .val (.ref b1), .val (.int ((p4 &&& (255 : Int32)) % (5 : Int32))), .val (.int ((((p4.toUInt32 >>> ((8 : Int32) &&& 31).toUInt32).toInt32) &&& (255 : Int32)) % (5 : Int32))), .val (.int i8), .val (.int i9), .val (.int t0)] []))
      refine .pre (fun _ k => XS.iconst X.here hx rfl (hb hby at_181) k) ?_
      show OwnEnds p e below _ (T.setTop (mkF m 182 #[.val (.int p0), .val (.int p1), .val (.int p2), .val (.int p3), .val (.int p4), .val (.ref b1), .val (.int ((p4 &&& (255 : Int32)) % (5 : Int32))), .val (.int ((((p4.toUInt32 >>> ((8 : Int32) &&& 31).toUInt32).toInt32) &&& (255 : Int32)) % (5 : Int32))), .val (.int i8), .val (.int i9), .val (.int t0)] [(.int (0 : Int32))]))
      exact own_endN X hx hlk (t := .boolean) Bd.returns (by simp) (hb hby at_182) rfl hk hn ⟨congrArg (fun z => some (Value.int z)) hF, N, trivial⟩
  have B162 : ∀ (T : State) (L : List Loc) (k n : Nat) (X : Stand p l e room_1 s m #[(.int p0), (.int p1), (.int p2), (.int p3), (.int p4)] below meth c T L k n) (eT : T.heap = h5) (N : Fr n0 L) (hk : k ≤ 16) (hn : n ≤ 128) (i8 : Int32) (i9 : Int32), f0_162 p0 p1 p2 p3 p4 i8 i9 = f0_44 p0 p1 p2 p3 p4 → OwnEnds p e below (OwnQ s (Q0 Z p0 p1 p2 p3 p4 h0 n0) 16 128) (T.setTop (mkF m 162 #[.val (.int p0), .val (.int p1), .val (.int p2), .val (.int p3), .val (.int p4), .val (.ref b1), .val (.int ((p4 &&& (255 : Int32)) % (5 : Int32))), .val (.int ((((p4.toUInt32 >>> ((8 : Int32) &&& 31).toUInt32).toInt32) &&& (255 : Int32)) % (5 : Int32))), .val (.int i8), .val (.int i9), .unset] [])) := by
    intro T L k n X eT N hk hn i8 i9 hF
    change (f0_163 p0 p1 p2 p3 p4 i8 i9 (0 : Int32)) = _ at hF
    show OwnEnds p e below _ (T.setTop (mkF m 162 #[.val (.int p0), .val (.int p1), .val (.int p2), .val (.int p3), .val (.int p4), .val (.ref b1), .val (.int ((p4 &&& (255 : Int32)) % (5 : Int32))), .val (.int ((((p4.toUInt32 >>> ((8 : Int32) &&& 31).toUInt32).toInt32) &&& (255 : Int32)) % (5 : Int32))), .val (.int i8), .val (.int i9), .unset] []))
    refine .pre (fun _ k => XS.iconst X.here hx rfl (hb hby at_162) k) ?_
    exact B163 T _ _ _ X eT N hk hn i8 i9 (0 : Int32) hF
  have B115 : ∀ (T : State) (L : List Loc) (k n : Nat) (X : Stand p l e room_1 s m #[(.int p0), (.int p1), (.int p2), (.int p3), (.int p4)] below meth c T L k n) (eT : T.heap = h5) (N : Fr n0 L) (hk : k ≤ 16) (hn : n ≤ 128) (i8 : Int32), f0_115 p0 p1 p2 p3 p4 i8 = f0_44 p0 p1 p2 p3 p4 → OwnEnds p e below (OwnQ s (Q0 Z p0 p1 p2 p3 p4 h0 n0) 16 128) (T.setTop (mkF m 115 #[.val (.int p0), .val (.int p1), .val (.int p2), .val (.int p3), .val (.int p4), .val (.ref b1), .val (.int ((p4 &&& (255 : Int32)) % (5 : Int32))), .val (.int ((((p4.toUInt32 >>> ((8 : Int32) &&& 31).toUInt32).toInt32) &&& (255 : Int32)) % (5 : Int32))), .val (.int i8), .unset, .unset] [])) := by
    intro T L k n X eT N hk hn i8 hF
    change (if p0 = p0 then (if p1 = p1 then (if p2 = p2 then (if p3 = p3 then (f0_163 p0 p1 p2 p3 p4 i8 (own_prod ([p0, p1, p2, p3] : List Int32) (((((p4.toUInt32 >>> ((8 : Int32) &&& 31).toUInt32).toInt32) &&& (255 : Int32)) % (5 : Int32)).toInt - ((p4 &&& (255 : Int32)) % (5 : Int32)).toInt).toNat ((p4 &&& (255 : Int32)) % (5 : Int32)).toNatClampNeg 1) (1 : Int32)) else (f0_162 p0 p1 p2 p3 p4 i8 (own_prod ([p0, p1, p2, p3] : List Int32) (((((p4.toUInt32 >>> ((8 : Int32) &&& 31).toUInt32).toInt32) &&& (255 : Int32)) % (5 : Int32)).toInt - ((p4 &&& (255 : Int32)) % (5 : Int32)).toInt).toNat ((p4 &&& (255 : Int32)) % (5 : Int32)).toNatClampNeg 1))) else (f0_162 p0 p1 p2 p3 p4 i8 (own_prod ([p0, p1, p2, p3] : List Int32) (((((p4.toUInt32 >>> ((8 : Int32) &&& 31).toUInt32).toInt32) &&& (255 : Int32)) % (5 : Int32)).toInt - ((p4 &&& (255 : Int32)) % (5 : Int32)).toInt).toNat ((p4 &&& (255 : Int32)) % (5 : Int32)).toNatClampNeg 1))) else (f0_162 p0 p1 p2 p3 p4 i8 (own_prod ([p0, p1, p2, p3] : List Int32) (((((p4.toUInt32 >>> ((8 : Int32) &&& 31).toUInt32).toInt32) &&& (255 : Int32)) % (5 : Int32)).toInt - ((p4 &&& (255 : Int32)) % (5 : Int32)).toInt).toNat ((p4 &&& (255 : Int32)) % (5 : Int32)).toNatClampNeg 1))) else (f0_162 p0 p1 p2 p3 p4 i8 (own_prod ([p0, p1, p2, p3] : List Int32) (((((p4.toUInt32 >>> ((8 : Int32) &&& 31).toUInt32).toInt32) &&& (255 : Int32)) % (5 : Int32)).toInt - ((p4 &&& (255 : Int32)) % (5 : Int32)).toInt).toNat ((p4 &&& (255 : Int32)) % (5 : Int32)).toNatClampNeg 1))) = _ at hF
    show OwnEnds p e below _ (T.setTop (mkF m 115 #[.val (.int p0), .val (.int p1), .val (.int p2), .val (.int p3), .val (.int p4), .val (.ref b1), .val (.int ((p4 &&& (255 : Int32)) % (5 : Int32))), .val (.int ((((p4.toUInt32 >>> ((8 : Int32) &&& 31).toUInt32).toInt32) &&& (255 : Int32)) % (5 : Int32))), .val (.int i8), .unset, .unset] []))
    refine .pre (fun _ k => XS.aload X.here hx rfl (hb hby at_115) rfl rfl k) ?_
    show OwnEnds p e below _ (T.setTop (mkF m 117 #[.val (.int p0), .val (.int p1), .val (.int p2), .val (.int p3), .val (.int p4), .val (.ref b1), .val (.int ((p4 &&& (255 : Int32)) % (5 : Int32))), .val (.int ((((p4.toUInt32 >>> ((8 : Int32) &&& 31).toUInt32).toInt32) &&& (255 : Int32)) % (5 : Int32))), .val (.int i8), .unset, .unset] [(.ref b1)]))
    refine .pre (fun _ k => XS.iload X.here hx rfl (hb hby at_117) rfl k) ?_
    show OwnEnds p e below _ (T.setTop (mkF m 119 #[.val (.int p0), .val (.int p1), .val (.int p2), .val (.int p3), .val (.int p4), .val (.ref b1), .val (.int ((p4 &&& (255 : Int32)) % (5 : Int32))), .val (.int ((((p4.toUInt32 >>> ((8 : Int32) &&& 31).toUInt32).toInt32) &&& (255 : Int32)) % (5 : Int32))), .val (.int i8), .unset, .unset] [(.int ((p4 &&& (255 : Int32)) % (5 : Int32))), (.ref b1)]))
    refine .pre (fun _ k => XS.iload X.here hx rfl (hb hby at_119) rfl k) ?_
    show OwnEnds p e below _ (T.setTop (mkF m 121 #[.val (.int p0), .val (.int p1), .val (.int p2), .val (.int p3), .val (.int p4), .val (.ref b1), .val (.int ((p4 &&& (255 : Int32)) % (5 : Int32))), .val (.int ((((p4.toUInt32 >>> ((8 : Int32) &&& 31).toUInt32).toInt32) &&& (255 : Int32)) % (5 : Int32))), .val (.int i8), .unset, .unset] [(.int ((((p4.toUInt32 >>> ((8 : Int32) &&& 31).toUInt32).toInt32) &&& (255 : Int32)) % (5 : Int32))), (.int ((p4 &&& (255 : Int32)) % (5 : Int32))), (.ref b1)]))
    obtain ⟨_, _, ⟨T15, L15, k15, n15⟩, -, X15, ⟨Lc15, hQ15, l15, y15, z15⟩, st15⟩ := Jvm.LawKit.callS X hx (y := (⟨"com/example/lather/lather/encoding/ArrayShape", "product", "([III)I"⟩ : MethodName)) hown (mvT hZ (hw _ (List.mem_of_getElem? (i := 5) rfl))) (mvT hZ (hw _ (List.mem_of_getElem? (i := 6) rfl))) (mvT hZ (hw _ (List.mem_of_getElem? (i := 7) rfl))) (mvT hZ (hw _ (List.mem_of_getElem? (i := 8) rfl))) (by decide) (backOf (W := 0) (rm2 l Z aZ hw [] b1 ((p4 &&& (255 : Int32)) % (5 : Int32)) ((((p4.toUInt32 >>> ((8 : Int32) &&& 31).toUInt32).toInt32) &&& (255 : Int32)) % (5 : Int32)) kk1 p0 p1 p2 p3 h5 n0 (Nat.le_trans (Nat.le_trans (Nat.le_trans (Nat.le_trans (Nat.le_trans Z0 E1.1) (Keep.of_wr W2).1) (Keep.of_wr W3).1) (Keep.of_wr W4).1) (Keep.of_wr W5).1) V5 (own_r5 _) (own_r5 _)) hZ (hw _ (List.mem_of_getElem? (i := 8) rfl)) (hw _ (List.mem_of_getElem? (i := 7) rfl)) (by decide) (by decide)) (g := (mkF m 121 #[.val (.int p0), .val (.int p1), .val (.int p2), .val (.int p3), .val (.int p4), .val (.ref b1), .val (.int ((p4 &&& (255 : Int32)) % (5 : Int32))), .val (.int ((((p4.toUInt32 >>> ((8 : Int32) &&& 31).toUInt32).toInt32) &&& (255 : Int32)) % (5 : Int32))), .val (.int i8), .unset, .unset] [(.int ((((p4.toUInt32 >>> ((8 : Int32) &&& 31).toUInt32).toInt32) &&& (255 : Int32)) % (5 : Int32))), (.int ((p4 &&& (255 : Int32)) % (5 : Int32))), (.ref b1)])) rfl (by rw [hml]; rfl) (argsL := [(.ref b1), (.int ((p4 &&& (255 : Int32)) % (5 : Int32))), (.int ((((p4.toUInt32 >>> ((8 : Int32) &&& 31).toUInt32).toInt32) &&& (255 : Int32)) % (5 : Int32)))]) (rest := []) (lenOf pd_3 rfl) rfl (by show 2 * 0 + _ ≤ _; exact Nat.le_of_eq rfl) (hb hby at_121) (fun _ _ => ⟨rfl, eT, Nat.le_trans (Nat.add_le_add_right hk 0) (by decide : 16 + 0 ≤ _), Nat.le_trans (Nat.add_le_add_right hn 0) (by decide : 128 + 0 ≤ _)⟩)
    dsimp only [Pt.U, Pt.locs, Pt.cells, Pt.slots] at X15 l15 y15 z15 st15 hQ15
    subst l15 y15 z15
    obtain ⟨rfl, N15q, e15⟩ := hQ15
    have N15 := Fr.app N N15q
    refine .pre (fun _ k => st15 _ k) ?_
    show OwnEnds p e below _ (T15.setTop (mkF m 124 #[.val (.int p0), .val (.int p1), .val (.int p2), .val (.int p3), .val (.int p4), .val (.ref b1), .val (.int ((p4 &&& (255 : Int32)) % (5 : Int32))), .val (.int ((((p4.toUInt32 >>> ((8 : Int32) &&& 31).toUInt32).toInt32) &&& (255 : Int32)) % (5 : Int32))), .val (.int i8), .unset, .unset] [(.int (own_prod ([p0, p1, p2, p3] : List Int32) (((((p4.toUInt32 >>> ((8 : Int32) &&& 31).toUInt32).toInt32) &&& (255 : Int32)) % (5 : Int32)).toInt - ((p4 &&& (255 : Int32)) % (5 : Int32)).toInt).toNat ((p4 &&& (255 : Int32)) % (5 : Int32)).toNatClampNeg 1))]))
    refine .pre (fun _ k => XS.istore X15.here hx rfl (hb hby at_124) rfl (l' := #[.val (.int p0), .val (.int p1), .val (.int p2), .val (.int p3), .val (.int p4), .val (.ref b1), .val (.int ((p4 &&& (255 : Int32)) % (5 : Int32))), .val (.int ((((p4.toUInt32 >>> ((8 : Int32) &&& 31).toUInt32).toInt32) &&& (255 : Int32)) % (5 : Int32))), .val (.int i8), .val (.int (own_prod ([p0, p1, p2, p3] : List Int32) (((((p4.toUInt32 >>> ((8 : Int32) &&& 31).toUInt32).toInt32) &&& (255 : Int32)) % (5 : Int32)).toInt - ((p4 &&& (255 : Int32)) % (5 : Int32)).toInt).toNat ((p4 &&& (255 : Int32)) % (5 : Int32)).toNatClampNeg 1)), .unset]) rfl k) ?_
    show OwnEnds p e below _ (T15.setTop (mkF m 126 #[.val (.int p0), .val (.int p1), .val (.int p2), .val (.int p3), .val (.int p4), .val (.ref b1), .val (.int ((p4 &&& (255 : Int32)) % (5 : Int32))), .val (.int ((((p4.toUInt32 >>> ((8 : Int32) &&& 31).toUInt32).toInt32) &&& (255 : Int32)) % (5 : Int32))), .val (.int i8), .val (.int (own_prod ([p0, p1, p2, p3] : List Int32) (((((p4.toUInt32 >>> ((8 : Int32) &&& 31).toUInt32).toInt32) &&& (255 : Int32)) % (5 : Int32)).toInt - ((p4 &&& (255 : Int32)) % (5 : Int32)).toInt).toNat ((p4 &&& (255 : Int32)) % (5 : Int32)).toNatClampNeg 1)), .unset] []))
    refine .pre (fun _ k => XS.aload X15.here hx rfl (hb hby at_126) rfl rfl k) ?_
    show OwnEnds p e below _ (T15.setTop (mkF m 128 #[.val (.int p0), .val (.int p1), .val (.int p2), .val (.int p3), .val (.int p4), .val (.ref b1), .val (.int ((p4 &&& (255 : Int32)) % (5 : Int32))), .val (.int ((((p4.toUInt32 >>> ((8 : Int32) &&& 31).toUInt32).toInt32) &&& (255 : Int32)) % (5 : Int32))), .val (.int i8), .val (.int (own_prod ([p0, p1, p2, p3] : List Int32) (((((p4.toUInt32 >>> ((8 : Int32) &&& 31).toUInt32).toInt32) &&& (255 : Int32)) % (5 : Int32)).toInt - ((p4 &&& (255 : Int32)) % (5 : Int32)).toInt).toNat ((p4 &&& (255 : Int32)) % (5 : Int32)).toNatClampNeg 1)), .unset] [(.ref b1)]))
    refine .pre (fun _ k => XS.iconst X15.here hx rfl (hb hby at_128) k) ?_
    show OwnEnds p e below _ (T15.setTop (mkF m 129 #[.val (.int p0), .val (.int p1), .val (.int p2), .val (.int p3), .val (.int p4), .val (.ref b1), .val (.int ((p4 &&& (255 : Int32)) % (5 : Int32))), .val (.int ((((p4.toUInt32 >>> ((8 : Int32) &&& 31).toUInt32).toInt32) &&& (255 : Int32)) % (5 : Int32))), .val (.int i8), .val (.int (own_prod ([p0, p1, p2, p3] : List Int32) (((((p4.toUInt32 >>> ((8 : Int32) &&& 31).toUInt32).toInt32) &&& (255 : Int32)) % (5 : Int32)).toInt - ((p4 &&& (255 : Int32)) % (5 : Int32)).toInt).toNat ((p4 &&& (255 : Int32)) % (5 : Int32)).toNatClampNeg 1)), .unset] [(.int (0 : Int32)), (.ref b1)]))
    obtain ⟨cl16, Ar16, qa16, qs16, qn16, qh16, qg16⟩ := id V5
    have hj16 : ¬ ((0 : Int32) < 0) ∧ (0 : Int32) < (4 : Int32) := ⟨by decide, by decide⟩
    have hin16 : ¬ ((0 : Int32) < 0 ∨ cl16.slots.size ≤ ((0 : Int32)).toNatClampNeg) := inb_of qs16 hj16
    have hat16 : cl16.slots[((0 : Int32)).toNatClampNeg]? = some (.int p0) := (qh16 _ (Nat.lt_of_not_le fun y => hin16 (Or.inr y))).trans (congrArg some (rfl))
    refine .pre (fun _ k => X15.iaload hx (j := (0 : Int32)) (v := (.int p0)) (by rw [e15]; exact Ar16.1) (State.isArrayOf_alike hZ.alike Ar16.2.1) Ar16.2.2 hin16 hat16 (g := (mkF m 129 #[.val (.int p0), .val (.int p1), .val (.int p2), .val (.int p3), .val (.int p4), .val (.ref b1), .val (.int ((p4 &&& (255 : Int32)) % (5 : Int32))), .val (.int ((((p4.toUInt32 >>> ((8 : Int32) &&& 31).toUInt32).toInt32) &&& (255 : Int32)) % (5 : Int32))), .val (.int i8), .val (.int (own_prod ([p0, p1, p2, p3] : List Int32) (((((p4.toUInt32 >>> ((8 : Int32) &&& 31).toUInt32).toInt32) &&& (255 : Int32)) % (5 : Int32)).toInt - ((p4 &&& (255 : Int32)) % (5 : Int32)).toInt).toNat ((p4 &&& (255 : Int32)) % (5 : Int32)).toNatClampNeg 1)), .unset] [(.int (0 : Int32)), (.ref b1)])) rfl rfl (hb hby at_129) _ k) ?_
    show OwnEnds p e below _ (T15.setTop (mkF m 130 #[.val (.int p0), .val (.int p1), .val (.int p2), .val (.int p3), .val (.int p4), .val (.ref b1), .val (.int ((p4 &&& (255 : Int32)) % (5 : Int32))), .val (.int ((((p4.toUInt32 >>> ((8 : Int32) &&& 31).toUInt32).toInt32) &&& (255 : Int32)) % (5 : Int32))), .val (.int i8), .val (.int (own_prod ([p0, p1, p2, p3] : List Int32) (((((p4.toUInt32 >>> ((8 : Int32) &&& 31).toUInt32).toInt32) &&& (255 : Int32)) % (5 : Int32)).toInt - ((p4 &&& (255 : Int32)) % (5 : Int32)).toInt).toNat ((p4 &&& (255 : Int32)) % (5 : Int32)).toNatClampNeg 1)), .unset] [(.int p0)]))
    refine .pre (fun _ k => XS.iloadN X15.here hx rfl (hb hby at_130) rfl k) ?_
    show OwnEnds p e below _ (T15.setTop (mkF m 131 #[.val (.int p0), .val (.int p1), .val (.int p2), .val (.int p3), .val (.int p4), .val (.ref b1), .val (.int ((p4 &&& (255 : Int32)) % (5 : Int32))), .val (.int ((((p4.toUInt32 >>> ((8 : Int32) &&& 31).toUInt32).toInt32) &&& (255 : Int32)) % (5 : Int32))), .val (.int i8), .val (.int (own_prod ([p0, p1, p2, p3] : List Int32) (((((p4.toUInt32 >>> ((8 : Int32) &&& 31).toUInt32).toInt32) &&& (255 : Int32)) % (5 : Int32)).toInt - ((p4 &&& (255 : Int32)) % (5 : Int32)).toInt).toNat ((p4 &&& (255 : Int32)) % (5 : Int32)).toNatClampNeg 1)), .unset] [(.int p0), (.int p0)]))
    by_cases hc131 : p0 = p0
    · rw [if_pos hc131] at hF
      refine .pre (fun _ k => XS.icmpNo X15.here hx rfl (hb hby at_131) rfl (teq hc131).2 k) ?_
      show OwnEnds p e below _ (T15.setTop (mkF m 134 #[.val (.int p0), .val (.int p1), .val (.int p2), .val (.int p3), .val (.int p4), .val (.ref b1), .val (.int ((p4 &&& (255 : Int32)) % (5 : Int32))), .val (.int ((((p4.toUInt32 >>> ((8 : Int32) &&& 31).toUInt32).toInt32) &&& (255 : Int32)) % (5 : Int32))), .val (.int i8), .val (.int (own_prod ([p0, p1, p2, p3] : List Int32) (((((p4.toUInt32 >>> ((8 : Int32) &&& 31).toUInt32).toInt32) &&& (255 : Int32)) % (5 : Int32)).toInt - ((p4 &&& (255 : Int32)) % (5 : Int32)).toInt).toNat ((p4 &&& (255 : Int32)) % (5 : Int32)).toNatClampNeg 1)), .unset] []))
      refine .pre (fun _ k => XS.aload X15.here hx rfl (hb hby at_134) rfl rfl k) ?_
      show OwnEnds p e below _ (T15.setTop (mkF m 136 #[.val (.int p0), .val (.int p1), .val (.int p2), .val (.int p3), .val (.int p4), .val (.ref b1), .val (.int ((p4 &&& (255 : Int32)) % (5 : Int32))), .val (.int ((((p4.toUInt32 >>> ((8 : Int32) &&& 31).toUInt32).toInt32) &&& (255 : Int32)) % (5 : Int32))), .val (.int i8), .val (.int (own_prod ([p0, p1, p2, p3] : List Int32) (((((p4.toUInt32 >>> ((8 : Int32) &&& 31).toUInt32).toInt32) &&& (255 : Int32)) % (5 : Int32)).toInt - ((p4 &&& (255 : Int32)) % (5 : Int32)).toInt).toNat ((p4 &&& (255 : Int32)) % (5 : Int32)).toNatClampNeg 1)), .unset] [(.ref b1)]))
      refine .pre (fun _ k => XS.iconst X15.here hx rfl (hb hby at_136) k) ?_
      show OwnEnds p e below _ (T15.setTop (mkF m 137 #[.val (.int p0), .val (.int p1), .val (.int p2), .val (.int p3), .val (.int p4), .val (.ref b1), .val (.int ((p4 &&& (255 : Int32)) % (5 : Int32))), .val (.int ((((p4.toUInt32 >>> ((8 : Int32) &&& 31).toUInt32).toInt32) &&& (255 : Int32)) % (5 : Int32))), .val (.int i8), .val (.int (own_prod ([p0, p1, p2, p3] : List Int32) (((((p4.toUInt32 >>> ((8 : Int32) &&& 31).toUInt32).toInt32) &&& (255 : Int32)) % (5 : Int32)).toInt - ((p4 &&& (255 : Int32)) % (5 : Int32)).toInt).toNat ((p4 &&& (255 : Int32)) % (5 : Int32)).toNatClampNeg 1)), .unset] [(.int (1 : Int32)), (.ref b1)]))
      obtain ⟨cl17, Ar17, qa17, qs17, qn17, qh17, qg17⟩ := id V5
      have hj17 : ¬ ((1 : Int32) < 0) ∧ (1 : Int32) < (4 : Int32) := ⟨by decide, by decide⟩
      have hin17 : ¬ ((1 : Int32) < 0 ∨ cl17.slots.size ≤ ((1 : Int32)).toNatClampNeg) := inb_of qs17 hj17
      have hat17 : cl17.slots[((1 : Int32)).toNatClampNeg]? = some (.int p1) := (qh17 _ (Nat.lt_of_not_le fun y => hin17 (Or.inr y))).trans (congrArg some (rfl))
      refine .pre (fun _ k => X15.iaload hx (j := (1 : Int32)) (v := (.int p1)) (by rw [e15]; exact Ar17.1) (State.isArrayOf_alike hZ.alike Ar17.2.1) Ar17.2.2 hin17 hat17 (g := (mkF m 137 #[.val (.int p0), .val (.int p1), .val (.int p2), .val (.int p3), .val (.int p4), .val (.ref b1), .val (.int ((p4 &&& (255 : Int32)) % (5 : Int32))), .val (.int ((((p4.toUInt32 >>> ((8 : Int32) &&& 31).toUInt32).toInt32) &&& (255 : Int32)) % (5 : Int32))), .val (.int i8), .val (.int (own_prod ([p0, p1, p2, p3] : List Int32) (((((p4.toUInt32 >>> ((8 : Int32) &&& 31).toUInt32).toInt32) &&& (255 : Int32)) % (5 : Int32)).toInt - ((p4 &&& (255 : Int32)) % (5 : Int32)).toInt).toNat ((p4 &&& (255 : Int32)) % (5 : Int32)).toNatClampNeg 1)), .unset] [(.int (1 : Int32)), (.ref b1)])) rfl rfl (hb hby at_137) _ k) ?_
      show OwnEnds p e below _ (T15.setTop (mkF m 138 #[.val (.int p0), .val (.int p1), .val (.int p2), .val (.int p3), .val (.int p4), .val (.ref b1), .val (.int ((p4 &&& (255 : Int32)) % (5 : Int32))), .val (.int ((((p4.toUInt32 >>> ((8 : Int32) &&& 31).toUInt32).toInt32) &&& (255 : Int32)) % (5 : Int32))), .val (.int i8), .val (.int (own_prod ([p0, p1, p2, p3] : List Int32) (((((p4.toUInt32 >>> ((8 : Int32) &&& 31).toUInt32).toInt32) &&& (255 : Int32)) % (5 : Int32)).toInt - ((p4 &&& (255 : Int32)) % (5 : Int32)).toInt).toNat ((p4 &&& (255 : Int32)) % (5 : Int32)).toNatClampNeg 1)), .unset] [(.int p1)]))
      refine .pre (fun _ k => XS.iloadN X15.here hx rfl (hb hby at_138) rfl k) ?_
      show OwnEnds p e below _ (T15.setTop (mkF m 139 #[.val (.int p0), .val (.int p1), .val (.int p2), .val (.int p3), .val (.int p4), .val (.ref b1), .val (.int ((p4 &&& (255 : Int32)) % (5 : Int32))), .val (.int ((((p4.toUInt32 >>> ((8 : Int32) &&& 31).toUInt32).toInt32) &&& (255 : Int32)) % (5 : Int32))), .val (.int i8), .val (.int (own_prod ([p0, p1, p2, p3] : List Int32) (((((p4.toUInt32 >>> ((8 : Int32) &&& 31).toUInt32).toInt32) &&& (255 : Int32)) % (5 : Int32)).toInt - ((p4 &&& (255 : Int32)) % (5 : Int32)).toInt).toNat ((p4 &&& (255 : Int32)) % (5 : Int32)).toNatClampNeg 1)), .unset] [(.int p1), (.int p1)]))
      by_cases hc139 : p1 = p1
      · rw [if_pos hc139] at hF
        refine .pre (fun _ k => XS.icmpNo X15.here hx rfl (hb hby at_139) rfl (teq hc139).2 k) ?_
        show OwnEnds p e below _ (T15.setTop (mkF m 142 #[.val (.int p0), .val (.int p1), .val (.int p2), .val (.int p3), .val (.int p4), .val (.ref b1), .val (.int ((p4 &&& (255 : Int32)) % (5 : Int32))), .val (.int ((((p4.toUInt32 >>> ((8 : Int32) &&& 31).toUInt32).toInt32) &&& (255 : Int32)) % (5 : Int32))), .val (.int i8), .val (.int (own_prod ([p0, p1, p2, p3] : List Int32) (((((p4.toUInt32 >>> ((8 : Int32) &&& 31).toUInt32).toInt32) &&& (255 : Int32)) % (5 : Int32)).toInt - ((p4 &&& (255 : Int32)) % (5 : Int32)).toInt).toNat ((p4 &&& (255 : Int32)) % (5 : Int32)).toNatClampNeg 1)), .unset] []))
        refine .pre (fun _ k => XS.aload X15.here hx rfl (hb hby at_142) rfl rfl k) ?_
        show OwnEnds p e below _ (T15.setTop (mkF m 144 #[.val (.int p0), .val (.int p1), .val (.int p2), .val (.int p3), .val (.int p4), .val (.ref b1), .val (.int ((p4 &&& (255 : Int32)) % (5 : Int32))), .val (.int ((((p4.toUInt32 >>> ((8 : Int32) &&& 31).toUInt32).toInt32) &&& (255 : Int32)) % (5 : Int32))), .val (.int i8), .val (.int (own_prod ([p0, p1, p2, p3] : List Int32) (((((p4.toUInt32 >>> ((8 : Int32) &&& 31).toUInt32).toInt32) &&& (255 : Int32)) % (5 : Int32)).toInt - ((p4 &&& (255 : Int32)) % (5 : Int32)).toInt).toNat ((p4 &&& (255 : Int32)) % (5 : Int32)).toNatClampNeg 1)), .unset] [(.ref b1)]))
        refine .pre (fun _ k => XS.iconst X15.here hx rfl (hb hby at_144) k) ?_
        show OwnEnds p e below _ (T15.setTop (mkF m 145 #[.val (.int p0), .val (.int p1), .val (.int p2), .val (.int p3), .val (.int p4), .val (.ref b1), .val (.int ((p4 &&& (255 : Int32)) % (5 : Int32))), .val (.int ((((p4.toUInt32 >>> ((8 : Int32) &&& 31).toUInt32).toInt32) &&& (255 : Int32)) % (5 : Int32))), .val (.int i8), .val (.int (own_prod ([p0, p1, p2, p3] : List Int32) (((((p4.toUInt32 >>> ((8 : Int32) &&& 31).toUInt32).toInt32) &&& (255 : Int32)) % (5 : Int32)).toInt - ((p4 &&& (255 : Int32)) % (5 : Int32)).toInt).toNat ((p4 &&& (255 : Int32)) % (5 : Int32)).toNatClampNeg 1)), .unset] [(.int (2 : Int32)), (.ref b1)]))
        obtain ⟨cl18, Ar18, qa18, qs18, qn18, qh18, qg18⟩ := id V5
        have hj18 : ¬ ((2 : Int32) < 0) ∧ (2 : Int32) < (4 : Int32) := ⟨by decide, by decide⟩
        have hin18 : ¬ ((2 : Int32) < 0 ∨ cl18.slots.size ≤ ((2 : Int32)).toNatClampNeg) := inb_of qs18 hj18
        have hat18 : cl18.slots[((2 : Int32)).toNatClampNeg]? = some (.int p2) := (qh18 _ (Nat.lt_of_not_le fun y => hin18 (Or.inr y))).trans (congrArg some (rfl))
        refine .pre (fun _ k => X15.iaload hx (j := (2 : Int32)) (v := (.int p2)) (by rw [e15]; exact Ar18.1) (State.isArrayOf_alike hZ.alike Ar18.2.1) Ar18.2.2 hin18 hat18 (g := (mkF m 145 #[.val (.int p0), .val (.int p1), .val (.int p2), .val (.int p3), .val (.int p4), .val (.ref b1), .val (.int ((p4 &&& (255 : Int32)) % (5 : Int32))), .val (.int ((((p4.toUInt32 >>> ((8 : Int32) &&& 31).toUInt32).toInt32) &&& (255 : Int32)) % (5 : Int32))), .val (.int i8), .val (.int (own_prod ([p0, p1, p2, p3] : List Int32) (((((p4.toUInt32 >>> ((8 : Int32) &&& 31).toUInt32).toInt32) &&& (255 : Int32)) % (5 : Int32)).toInt - ((p4 &&& (255 : Int32)) % (5 : Int32)).toInt).toNat ((p4 &&& (255 : Int32)) % (5 : Int32)).toNatClampNeg 1)), .unset] [(.int (2 : Int32)), (.ref b1)])) rfl rfl (hb hby at_145) _ k) ?_
        show OwnEnds p e below _ (T15.setTop (mkF m 146 #[.val (.int p0), .val (.int p1), .val (.int p2), .val (.int p3), .val (.int p4), .val (.ref b1), .val (.int ((p4 &&& (255 : Int32)) % (5 : Int32))), .val (.int ((((p4.toUInt32 >>> ((8 : Int32) &&& 31).toUInt32).toInt32) &&& (255 : Int32)) % (5 : Int32))), .val (.int i8), .val (.int (own_prod ([p0, p1, p2, p3] : List Int32) (((((p4.toUInt32 >>> ((8 : Int32) &&& 31).toUInt32).toInt32) &&& (255 : Int32)) % (5 : Int32)).toInt - ((p4 &&& (255 : Int32)) % (5 : Int32)).toInt).toNat ((p4 &&& (255 : Int32)) % (5 : Int32)).toNatClampNeg 1)), .unset] [(.int p2)]))
        refine .pre (fun _ k => XS.iloadN X15.here hx rfl (hb hby at_146) rfl k) ?_
        show OwnEnds p e below _ (T15.setTop (mkF m 147 #[.val (.int p0), .val (.int p1), .val (.int p2), .val (.int p3), .val (.int p4), .val (.ref b1), .val (.int ((p4 &&& (255 : Int32)) % (5 : Int32))), .val (.int ((((p4.toUInt32 >>> ((8 : Int32) &&& 31).toUInt32).toInt32) &&& (255 : Int32)) % (5 : Int32))), .val (.int i8), .val (.int (own_prod ([p0, p1, p2, p3] : List Int32) (((((p4.toUInt32 >>> ((8 : Int32) &&& 31).toUInt32).toInt32) &&& (255 : Int32)) % (5 : Int32)).toInt - ((p4 &&& (255 : Int32)) % (5 : Int32)).toInt).toNat ((p4 &&& (255 : Int32)) % (5 : Int32)).toNatClampNeg 1)), .unset] [(.int p2), (.int p2)]))
        by_cases hc147 : p2 = p2
        · rw [if_pos hc147] at hF
          refine .pre (fun _ k => XS.icmpNo X15.here hx rfl (hb hby at_147) rfl (teq hc147).2 k) ?_
          show OwnEnds p e below _ (T15.setTop (mkF m 150 #[.val (.int p0), .val (.int p1), .val (.int p2), .val (.int p3), .val (.int p4), .val (.ref b1), .val (.int ((p4 &&& (255 : Int32)) % (5 : Int32))), .val (.int ((((p4.toUInt32 >>> ((8 : Int32) &&& 31).toUInt32).toInt32) &&& (255 : Int32)) % (5 : Int32))), .val (.int i8), .val (.int (own_prod ([p0, p1, p2, p3] : List Int32) (((((p4.toUInt32 >>> ((8 : Int32) &&& 31).toUInt32).toInt32) &&& (255 : Int32)) % (5 : Int32)).toInt - ((p4 &&& (255 : Int32)) % (5 : Int32)).toInt).toNat ((p4 &&& (255 : Int32)) % (5 : Int32)).toNatClampNeg 1)), .unset] []))
          refine .pre (fun _ k => XS.aload X15.here hx rfl (hb hby at_150) rfl rfl k) ?_
          show OwnEnds p e below _ (T15.setTop (mkF m 152 #[.val (.int p0), .val (.int p1), .val (.int p2), .val (.int p3), .val (.int p4), .val (.ref b1), .val (.int ((p4 &&& (255 : Int32)) % (5 : Int32))), .val (.int ((((p4.toUInt32 >>> ((8 : Int32) &&& 31).toUInt32).toInt32) &&& (255 : Int32)) % (5 : Int32))), .val (.int i8), .val (.int (own_prod ([p0, p1, p2, p3] : List Int32) (((((p4.toUInt32 >>> ((8 : Int32) &&& 31).toUInt32).toInt32) &&& (255 : Int32)) % (5 : Int32)).toInt - ((p4 &&& (255 : Int32)) % (5 : Int32)).toInt).toNat ((p4 &&& (255 : Int32)) % (5 : Int32)).toNatClampNeg 1)), .unset] [(.ref b1)]))
          refine .pre (fun _ k => XS.iconst X15.here hx rfl (hb hby at_152) k) ?_
          show OwnEnds p e below _ (T15.setTop (mkF m 153 #[.val (.int p0), .val (.int p1), .val (.int p2), .val (.int p3), .val (.int p4), .val (.ref b1), .val (.int ((p4 &&& (255 : Int32)) % (5 : Int32))), .val (.int ((((p4.toUInt32 >>> ((8 : Int32) &&& 31).toUInt32).toInt32) &&& (255 : Int32)) % (5 : Int32))), .val (.int i8), .val (.int (own_prod ([p0, p1, p2, p3] : List Int32) (((((p4.toUInt32 >>> ((8 : Int32) &&& 31).toUInt32).toInt32) &&& (255 : Int32)) % (5 : Int32)).toInt - ((p4 &&& (255 : Int32)) % (5 : Int32)).toInt).toNat ((p4 &&& (255 : Int32)) % (5 : Int32)).toNatClampNeg 1)), .unset] [(.int (3 : Int32)), (.ref b1)]))
          obtain ⟨cl19, Ar19, qa19, qs19, qn19, qh19, qg19⟩ := id V5
          have hj19 : ¬ ((3 : Int32) < 0) ∧ (3 : Int32) < (4 : Int32) := ⟨by decide, by decide⟩
          have hin19 : ¬ ((3 : Int32) < 0 ∨ cl19.slots.size ≤ ((3 : Int32)).toNatClampNeg) := inb_of qs19 hj19
          have hat19 : cl19.slots[((3 : Int32)).toNatClampNeg]? = some (.int p3) := (qh19 _ (Nat.lt_of_not_le fun y => hin19 (Or.inr y))).trans (congrArg some (rfl))
          refine .pre (fun _ k => X15.iaload hx (j := (3 : Int32)) (v := (.int p3)) (by rw [e15]; exact Ar19.1) (State.isArrayOf_alike hZ.alike Ar19.2.1) Ar19.2.2 hin19 hat19 (g := (mkF m 153 #[.val (.int p0), .val (.int p1), .val (.int p2), .val (.int p3), .val (.int p4), .val (.ref b1), .val (.int ((p4 &&& (255 : Int32)) % (5 : Int32))), .val (.int ((((p4.toUInt32 >>> ((8 : Int32) &&& 31).toUInt32).toInt32) &&& (255 : Int32)) % (5 : Int32))), .val (.int i8), .val (.int (own_prod ([p0, p1, p2, p3] : List Int32) (((((p4.toUInt32 >>> ((8 : Int32) &&& 31).toUInt32).toInt32) &&& (255 : Int32)) % (5 : Int32)).toInt - ((p4 &&& (255 : Int32)) % (5 : Int32)).toInt).toNat ((p4 &&& (255 : Int32)) % (5 : Int32)).toNatClampNeg 1)), .unset] [(.int (3 : Int32)), (.ref b1)])) rfl rfl (hb hby at_153) _ k) ?_
          show OwnEnds p e below _ (T15.setTop (mkF m 154 #[.val (.int p0), .val (.int p1), .val (.int p2), .val (.int p3), .val (.int p4), .val (.ref b1), .val (.int ((p4 &&& (255 : Int32)) % (5 : Int32))), .val (.int ((((p4.toUInt32 >>> ((8 : Int32) &&& 31).toUInt32).toInt32) &&& (255 : Int32)) % (5 : Int32))), .val (.int i8), .val (.int (own_prod ([p0, p1, p2, p3] : List Int32) (((((p4.toUInt32 >>> ((8 : Int32) &&& 31).toUInt32).toInt32) &&& (255 : Int32)) % (5 : Int32)).toInt - ((p4 &&& (255 : Int32)) % (5 : Int32)).toInt).toNat ((p4 &&& (255 : Int32)) % (5 : Int32)).toNatClampNeg 1)), .unset] [(.int p3)]))
          refine .pre (fun _ k => XS.iloadN X15.here hx rfl (hb hby at_154) rfl k) ?_
          show OwnEnds p e below _ (T15.setTop (mkF m 155 #[.val (.int p0), .val (.int p1), .val (.int p2), .val (.int p3), .val (.int p4), .val (.ref b1), .val (.int ((p4 &&& (255 : Int32)) % (5 : Int32))), .val (.int ((((p4.toUInt32 >>> ((8 : Int32) &&& 31).toUInt32).toInt32) &&& (255 : Int32)) % (5 : Int32))), .val (.int i8), .val (.int (own_prod ([p0, p1, p2, p3] : List Int32) (((((p4.toUInt32 >>> ((8 : Int32) &&& 31).toUInt32).toInt32) &&& (255 : Int32)) % (5 : Int32)).toInt - ((p4 &&& (255 : Int32)) % (5 : Int32)).toInt).toNat ((p4 &&& (255 : Int32)) % (5 : Int32)).toNatClampNeg 1)), .unset] [(.int p3), (.int p3)]))
          by_cases hc155 : p3 = p3
          · rw [if_pos hc155] at hF
            refine .pre (fun _ k => XS.icmpNo X15.here hx rfl (hb hby at_155) rfl (teq hc155).2 k) ?_
            show OwnEnds p e below _ (T15.setTop (mkF m 158 #[.val (.int p0), .val (.int p1), .val (.int p2), .val (.int p3), .val (.int p4), .val (.ref b1), .val (.int ((p4 &&& (255 : Int32)) % (5 : Int32))), .val (.int ((((p4.toUInt32 >>> ((8 : Int32) &&& 31).toUInt32).toInt32) &&& (255 : Int32)) % (5 : Int32))), .val (.int i8), .val (.int (own_prod ([p0, p1, p2, p3] : List Int32) (((((p4.toUInt32 >>> ((8 : Int32) &&& 31).toUInt32).toInt32) &&& (255 : Int32)) % (5 : Int32)).toInt - ((p4 &&& (255 : Int32)) % (5 : Int32)).toInt).toNat ((p4 &&& (255 : Int32)) % (5 : Int32)).toNatClampNeg 1)), .unset] []))
            refine .pre (fun _ k => XS.iconst X15.here hx rfl (hb hby at_158) k) ?_
            show OwnEnds p e below _ (T15.setTop (mkF m 159 #[.val (.int p0), .val (.int p1), .val (.int p2), .val (.int p3), .val (.int p4), .val (.ref b1), .val (.int ((p4 &&& (255 : Int32)) % (5 : Int32))), .val (.int ((((p4.toUInt32 >>> ((8 : Int32) &&& 31).toUInt32).toInt32) &&& (255 : Int32)) % (5 : Int32))), .val (.int i8), .val (.int (own_prod ([p0, p1, p2, p3] : List Int32) (((((p4.toUInt32 >>> ((8 : Int32) &&& 31).toUInt32).toInt32) &&& (255 : Int32)) % (5 : Int32)).toInt - ((p4 &&& (255 : Int32)) % (5 : Int32)).toInt).toNat ((p4 &&& (255 : Int32)) % (5 : Int32)).toNatClampNeg 1)), .unset] [(.int (1 : Int32))]))
            refine .pre (fun _ k => XS.goto X15.here hx rfl (pc0 := 159) (pc' := 163) rfl (hb hby at_159) (by decide) (by decide) k) ?_
            exact B163 T15 _ _ _ X15 e15 N15 hk hn i8 (own_prod ([p0, p1, p2, p3] : List Int32) (((((p4.toUInt32 >>> ((8 : Int32) &&& 31).toUInt32).toInt32) &&& (255 : Int32)) % (5 : Int32)).toInt - ((p4 &&& (255 : Int32)) % (5 : Int32)).toInt).toNat ((p4 &&& (255 : Int32)) % (5 : Int32)).toNatClampNeg 1) (1 : Int32) hF
          · rw [if_neg hc155] at hF
            refine .pre (fun _ k => XS.icmpYes X15.here hx rfl (pc0 := 155) (pc' := 162) rfl (hb hby at_155) rfl (feq hc155).2 (by decide) (by decide) k) ?_
            exact B162 T15 _ _ _ X15 e15 N15 hk hn i8 (own_prod ([p0, p1, p2, p3] : List Int32) (((((p4.toUInt32 >>> ((8 : Int32) &&& 31).toUInt32).toInt32) &&& (255 : Int32)) % (5 : Int32)).toInt - ((p4 &&& (255 : Int32)) % (5 : Int32)).toInt).toNat ((p4 &&& (255 : Int32)) % (5 : Int32)).toNatClampNeg 1) hF
        · rw [if_neg hc147] at hF
          refine .pre (fun _ k => XS.icmpYes X15.here hx rfl (pc0 := 147) (pc' := 162) rfl (hb hby at_147) rfl (feq hc147).2 (by decide) (by decide) k) ?_
          exact B162 T15 _ _ _ X15 e15 N15 hk hn i8 (own_prod ([p0, p1, p2, p3] : List Int32) (((((p4.toUInt32 >>> ((8 : Int32) &&& 31).toUInt32).toInt32) &&& (255 : Int32)) % (5 : Int32)).toInt - ((p4 &&& (255 : Int32)) % (5 : Int32)).toInt).toNat ((p4 &&& (255 : Int32)) % (5 : Int32)).toNatClampNeg 1) hF
      · rw [if_neg hc139] at hF
        refine .pre (fun _ k => XS.icmpYes X15.here hx rfl (pc0 := 139) (pc' := 162) rfl (hb hby at_139) rfl (feq hc139).2 (by decide) (by decide) k) ?_
        exact B162 T15 _ _ _ X15 e15 N15 hk hn i8 (own_prod ([p0, p1, p2, p3] : List Int32) (((((p4.toUInt32 >>> ((8 : Int32) &&& 31).toUInt32).toInt32) &&& (255 : Int32)) % (5 : Int32)).toInt - ((p4 &&& (255 : Int32)) % (5 : Int32)).toInt).toNat ((p4 &&& (255 : Int32)) % (5 : Int32)).toNatClampNeg 1) hF
    · rw [if_neg hc131] at hF
      refine .pre (fun _ k => XS.icmpYes X15.here hx rfl (pc0 := 131) (pc' := 162) rfl (hb hby at_131) rfl (feq hc131).2 (by decide) (by decide) k) ?_
      exact B162 T15 _ _ _ X15 e15 N15 hk hn i8 (own_prod ([p0, p1, p2, p3] : List Int32) (((((p4.toUInt32 >>> ((8 : Int32) &&& 31).toUInt32).toInt32) &&& (255 : Int32)) % (5 : Int32)).toInt - ((p4 &&& (255 : Int32)) % (5 : Int32)).toInt).toNat ((p4 &&& (255 : Int32)) % (5 : Int32)).toNatClampNeg 1) hF
  have B98 : ∀ (T : State) (L : List Loc) (k n : Nat) (X : Stand p l e room_1 s m #[(.int p0), (.int p1), (.int p2), (.int p3), (.int p4)] below meth c T L k n) (eT : T.heap = h5) (N : Fr n0 L) (hk : k ≤ 16) (hn : n ≤ 128) (i8 : Int32), f0_98 p0 p1 p2 p3 p4 i8 = f0_44 p0 p1 p2 p3 p4 → OwnEnds p e below (OwnQ s (Q0 Z p0 p1 p2 p3 p4 h0 n0) 16 128) (T.setTop (mkF m 98 #[.val (.int p0), .val (.int p1), .val (.int p2), .val (.int p3), .val (.int p4), .val (.ref b1), .val (.int ((p4 &&& (255 : Int32)) % (5 : Int32))), .val (.int ((((p4.toUInt32 >>> ((8 : Int32) &&& 31).toUInt32).toInt32) &&& (255 : Int32)) % (5 : Int32))), .val (.int i8), .unset, .unset] [])) := by
    intro T L k n X eT N hk hn i8 hF
    change (if (f1_0 (3 : Int32) ((p4 &&& (255 : Int32)) % (5 : Int32)) ((((p4.toUInt32 >>> ((8 : Int32) &&& 31).toUInt32).toInt32) &&& (255 : Int32)) % (5 : Int32))) = (0 : Int32) then (f0_115 p0 p1 p2 p3 p4 i8) else (f0_115 p0 p1 p2 p3 p4 (i8 * p3))) = _ at hF
    show OwnEnds p e below _ (T.setTop (mkF m 98 #[.val (.int p0), .val (.int p1), .val (.int p2), .val (.int p3), .val (.int p4), .val (.ref b1), .val (.int ((p4 &&& (255 : Int32)) % (5 : Int32))), .val (.int ((((p4.toUInt32 >>> ((8 : Int32) &&& 31).toUInt32).toInt32) &&& (255 : Int32)) % (5 : Int32))), .val (.int i8), .unset, .unset] []))
    refine .pre (fun _ k => XS.iconst X.here hx rfl (hb hby at_98) k) ?_
    show OwnEnds p e below _ (T.setTop (mkF m 99 #[.val (.int p0), .val (.int p1), .val (.int p2), .val (.int p3), .val (.int p4), .val (.ref b1), .val (.int ((p4 &&& (255 : Int32)) % (5 : Int32))), .val (.int ((((p4.toUInt32 >>> ((8 : Int32) &&& 31).toUInt32).toInt32) &&& (255 : Int32)) % (5 : Int32))), .val (.int i8), .unset, .unset] [(.int (3 : Int32))]))
    refine .pre (fun _ k => XS.iload X.here hx rfl (hb hby at_99) rfl k) ?_
    show OwnEnds p e below _ (T.setTop (mkF m 101 #[.val (.int p0), .val (.int p1), .val (.int p2), .val (.int p3), .val (.int p4), .val (.ref b1), .val (.int ((p4 &&& (255 : Int32)) % (5 : Int32))), .val (.int ((((p4.toUInt32 >>> ((8 : Int32) &&& 31).toUInt32).toInt32) &&& (255 : Int32)) % (5 : Int32))), .val (.int i8), .unset, .unset] [(.int ((p4 &&& (255 : Int32)) % (5 : Int32))), (.int (3 : Int32))]))
    refine .pre (fun _ k => XS.iload X.here hx rfl (hb hby at_101) rfl k) ?_
    show OwnEnds p e below _ (T.setTop (mkF m 103 #[.val (.int p0), .val (.int p1), .val (.int p2), .val (.int p3), .val (.int p4), .val (.ref b1), .val (.int ((p4 &&& (255 : Int32)) % (5 : Int32))), .val (.int ((((p4.toUInt32 >>> ((8 : Int32) &&& 31).toUInt32).toInt32) &&& (255 : Int32)) % (5 : Int32))), .val (.int i8), .unset, .unset] [(.int ((((p4.toUInt32 >>> ((8 : Int32) &&& 31).toUInt32).toInt32) &&& (255 : Int32)) % (5 : Int32))), (.int ((p4 &&& (255 : Int32)) % (5 : Int32))), (.int (3 : Int32))]))
    obtain ⟨_, _, ⟨T20, L20, k20, n20⟩, -, X20, ⟨Lc20, hQ20, l20, y20, z20⟩, st20⟩ := Jvm.LawKit.callS X hx (y := (⟨"com/example/lather/lather/encoding/ArrayShapeProductPinLaw", "in", "(III)Z"⟩ : MethodName)) hown (mvT hZ (hw _ (List.mem_of_getElem? (i := 1) rfl))) (mvT hZ (hw _ (List.mem_of_getElem? (i := 2) rfl))) (mvT hZ (hw _ (List.mem_of_getElem? (i := 3) rfl))) (mvT hZ (hw _ (List.mem_of_getElem? (i := 4) rfl))) (by decide) (backOf (W := 0) (rm1 l Z aZ hw [] (3 : Int32) ((p4 &&& (255 : Int32)) % (5 : Int32)) ((((p4.toUInt32 >>> ((8 : Int32) &&& 31).toUInt32).toInt32) &&& (255 : Int32)) % (5 : Int32)) h5 n0 (Nat.le_trans (Nat.le_trans (Nat.le_trans (Nat.le_trans (Nat.le_trans Z0 E1.1) (Keep.of_wr W2).1) (Keep.of_wr W3).1) (Keep.of_wr W4).1) (Keep.of_wr W5).1)) hZ (hw _ (List.mem_of_getElem? (i := 4) rfl)) (hw _ (List.mem_of_getElem? (i := 3) rfl)) (by decide) (by decide)) (g := (mkF m 103 #[.val (.int p0), .val (.int p1), .val (.int p2), .val (.int p3), .val (.int p4), .val (.ref b1), .val (.int ((p4 &&& (255 : Int32)) % (5 : Int32))), .val (.int ((((p4.toUInt32 >>> ((8 : Int32) &&& 31).toUInt32).toInt32) &&& (255 : Int32)) % (5 : Int32))), .val (.int i8), .unset, .unset] [(.int ((((p4.toUInt32 >>> ((8 : Int32) &&& 31).toUInt32).toInt32) &&& (255 : Int32)) % (5 : Int32))), (.int ((p4 &&& (255 : Int32)) % (5 : Int32))), (.int (3 : Int32))])) rfl (by rw [hml]; rfl) (argsL := [(.int (3 : Int32)), (.int ((p4 &&& (255 : Int32)) % (5 : Int32))), (.int ((((p4.toUInt32 >>> ((8 : Int32) &&& 31).toUInt32).toInt32) &&& (255 : Int32)) % (5 : Int32)))]) (rest := []) (lenOf pd_2 rfl) rfl (by show 2 * 0 + _ ≤ _; exact Nat.le_of_eq rfl) (hb hby at_103) (fun _ _ => ⟨rfl, eT, Nat.le_trans (Nat.add_le_add_right hk 0) (by decide : 16 + 0 ≤ _), Nat.le_trans (Nat.add_le_add_right hn 0) (by decide : 128 + 0 ≤ _)⟩)
    dsimp only [Pt.U, Pt.locs, Pt.cells, Pt.slots] at X20 l20 y20 z20 st20 hQ20
    subst l20 y20 z20
    obtain ⟨rfl, N20q, e20⟩ := hQ20
    have N20 := Fr.app N N20q
    refine .pre (fun _ k => st20 _ k) ?_
    show OwnEnds p e below _ (T20.setTop (mkF m 106 #[.val (.int p0), .val (.int p1), .val (.int p2), .val (.int p3), .val (.int p4), .val (.ref b1), .val (.int ((p4 &&& (255 : Int32)) % (5 : Int32))), .val (.int ((((p4.toUInt32 >>> ((8 : Int32) &&& 31).toUInt32).toInt32) &&& (255 : Int32)) % (5 : Int32))), .val (.int i8), .unset, .unset] [(.int (f1_0 (3 : Int32) ((p4 &&& (255 : Int32)) % (5 : Int32)) ((((p4.toUInt32 >>> ((8 : Int32) &&& 31).toUInt32).toInt32) &&& (255 : Int32)) % (5 : Int32))))]))
    by_cases hc106 : (f1_0 (3 : Int32) ((p4 &&& (255 : Int32)) % (5 : Int32)) ((((p4.toUInt32 >>> ((8 : Int32) &&& 31).toUInt32).toInt32) &&& (255 : Int32)) % (5 : Int32))) = (0 : Int32)
    · rw [if_pos hc106] at hF
      refine .pre (fun _ k => XS.ifYes X20.here hx rfl (pc0 := 106) (pc' := 115) rfl (hb hby at_106) rfl ((if0 _ _).trans (teq hc106).1) (by decide) (by decide) k) ?_
      exact B115 T20 _ _ _ X20 e20 N20 hk hn i8 hF
    · rw [if_neg hc106] at hF
      refine .pre (fun _ k => XS.ifNo X20.here hx rfl (hb hby at_106) rfl ((if0 _ _).trans (feq hc106).1) k) ?_
      show OwnEnds p e below _ (T20.setTop (mkF m 109 #[.val (.int p0), .val (.int p1), .val (.int p2), .val (.int p3), .val (.int p4), .val (.ref b1), .val (.int ((p4 &&& (255 : Int32)) % (5 : Int32))), .val (.int ((((p4.toUInt32 >>> ((8 : Int32) &&& 31).toUInt32).toInt32) &&& (255 : Int32)) % (5 : Int32))), .val (.int i8), .unset, .unset] []))
      refine .pre (fun _ k => XS.iload X20.here hx rfl (hb hby at_109) rfl k) ?_
      show OwnEnds p e below _ (T20.setTop (mkF m 111 #[.val (.int p0), .val (.int p1), .val (.int p2), .val (.int p3), .val (.int p4), .val (.ref b1), .val (.int ((p4 &&& (255 : Int32)) % (5 : Int32))), .val (.int ((((p4.toUInt32 >>> ((8 : Int32) &&& 31).toUInt32).toInt32) &&& (255 : Int32)) % (5 : Int32))), .val (.int i8), .unset, .unset] [(.int i8)]))
      refine .pre (fun _ k => XS.iloadN X20.here hx rfl (hb hby at_111) rfl k) ?_
      show OwnEnds p e below _ (T20.setTop (mkF m 112 #[.val (.int p0), .val (.int p1), .val (.int p2), .val (.int p3), .val (.int p4), .val (.ref b1), .val (.int ((p4 &&& (255 : Int32)) % (5 : Int32))), .val (.int ((((p4.toUInt32 >>> ((8 : Int32) &&& 31).toUInt32).toInt32) &&& (255 : Int32)) % (5 : Int32))), .val (.int i8), .unset, .unset] [(.int p3), (.int i8)]))
      refine .pre (fun _ k => XS.imul X20.here hx rfl (hb hby at_112) rfl k) ?_
      show OwnEnds p e below _ (T20.setTop (mkF m 113 #[.val (.int p0), .val (.int p1), .val (.int p2), .val (.int p3), .val (.int p4), .val (.ref b1), .val (.int ((p4 &&& (255 : Int32)) % (5 : Int32))), .val (.int ((((p4.toUInt32 >>> ((8 : Int32) &&& 31).toUInt32).toInt32) &&& (255 : Int32)) % (5 : Int32))), .val (.int i8), .unset, .unset] [(.int (i8 * p3))]))
      refine .pre (fun _ k => XS.istore X20.here hx rfl (hb hby at_113) rfl (l' := #[.val (.int p0), .val (.int p1), .val (.int p2), .val (.int p3), .val (.int p4), .val (.ref b1), .val (.int ((p4 &&& (255 : Int32)) % (5 : Int32))), .val (.int ((((p4.toUInt32 >>> ((8 : Int32) &&& 31).toUInt32).toInt32) &&& (255 : Int32)) % (5 : Int32))), .val (.int (i8 * p3)), .unset, .unset]) rfl k) ?_
      exact B115 T20 _ _ _ X20 e20 N20 hk hn (i8 * p3) hF
  have B81 : ∀ (T : State) (L : List Loc) (k n : Nat) (X : Stand p l e room_1 s m #[(.int p0), (.int p1), (.int p2), (.int p3), (.int p4)] below meth c T L k n) (eT : T.heap = h5) (N : Fr n0 L) (hk : k ≤ 16) (hn : n ≤ 128) (i8 : Int32), f0_81 p0 p1 p2 p3 p4 i8 = f0_44 p0 p1 p2 p3 p4 → OwnEnds p e below (OwnQ s (Q0 Z p0 p1 p2 p3 p4 h0 n0) 16 128) (T.setTop (mkF m 81 #[.val (.int p0), .val (.int p1), .val (.int p2), .val (.int p3), .val (.int p4), .val (.ref b1), .val (.int ((p4 &&& (255 : Int32)) % (5 : Int32))), .val (.int ((((p4.toUInt32 >>> ((8 : Int32) &&& 31).toUInt32).toInt32) &&& (255 : Int32)) % (5 : Int32))), .val (.int i8), .unset, .unset] [])) := by
    intro T L k n X eT N hk hn i8 hF
    change (if (f1_0 (2 : Int32) ((p4 &&& (255 : Int32)) % (5 : Int32)) ((((p4.toUInt32 >>> ((8 : Int32) &&& 31).toUInt32).toInt32) &&& (255 : Int32)) % (5 : Int32))) = (0 : Int32) then (f0_98 p0 p1 p2 p3 p4 i8) else (f0_98 p0 p1 p2 p3 p4 (i8 * p2))) = _ at hF
    show OwnEnds p e below _ (T.setTop (mkF m 81 #[.val (.int p0), .val (.int p1), .val (.int p2), .val (.int p3), .val (.int p4), .val (.ref b1), .val (.int ((p4 &&& (255 : Int32)) % (5 : Int32))), .val (.int ((((p4.toUInt32 >>> ((8 : Int32) &&& 31).toUInt32).toInt32) &&& (255 : Int32)) % (5 : Int32))), .val (.int i8), .unset, .unset] []))
    refine .pre (fun _ k => XS.iconst X.here hx rfl (hb hby at_81) k) ?_
    show OwnEnds p e below _ (T.setTop (mkF m 82 #[.val (.int p0), .val (.int p1), .val (.int p2), .val (.int p3), .val (.int p4), .val (.ref b1), .val (.int ((p4 &&& (255 : Int32)) % (5 : Int32))), .val (.int ((((p4.toUInt32 >>> ((8 : Int32) &&& 31).toUInt32).toInt32) &&& (255 : Int32)) % (5 : Int32))), .val (.int i8), .unset, .unset] [(.int (2 : Int32))]))
    refine .pre (fun _ k => XS.iload X.here hx rfl (hb hby at_82) rfl k) ?_
    show OwnEnds p e below _ (T.setTop (mkF m 84 #[.val (.int p0), .val (.int p1), .val (.int p2), .val (.int p3), .val (.int p4), .val (.ref b1), .val (.int ((p4 &&& (255 : Int32)) % (5 : Int32))), .val (.int ((((p4.toUInt32 >>> ((8 : Int32) &&& 31).toUInt32).toInt32) &&& (255 : Int32)) % (5 : Int32))), .val (.int i8), .unset, .unset] [(.int ((p4 &&& (255 : Int32)) % (5 : Int32))), (.int (2 : Int32))]))
    refine .pre (fun _ k => XS.iload X.here hx rfl (hb hby at_84) rfl k) ?_
    show OwnEnds p e below _ (T.setTop (mkF m 86 #[.val (.int p0), .val (.int p1), .val (.int p2), .val (.int p3), .val (.int p4), .val (.ref b1), .val (.int ((p4 &&& (255 : Int32)) % (5 : Int32))), .val (.int ((((p4.toUInt32 >>> ((8 : Int32) &&& 31).toUInt32).toInt32) &&& (255 : Int32)) % (5 : Int32))), .val (.int i8), .unset, .unset] [(.int ((((p4.toUInt32 >>> ((8 : Int32) &&& 31).toUInt32).toInt32) &&& (255 : Int32)) % (5 : Int32))), (.int ((p4 &&& (255 : Int32)) % (5 : Int32))), (.int (2 : Int32))]))
    obtain ⟨_, _, ⟨T21, L21, k21, n21⟩, -, X21, ⟨Lc21, hQ21, l21, y21, z21⟩, st21⟩ := Jvm.LawKit.callS X hx (y := (⟨"com/example/lather/lather/encoding/ArrayShapeProductPinLaw", "in", "(III)Z"⟩ : MethodName)) hown (mvT hZ (hw _ (List.mem_of_getElem? (i := 1) rfl))) (mvT hZ (hw _ (List.mem_of_getElem? (i := 2) rfl))) (mvT hZ (hw _ (List.mem_of_getElem? (i := 3) rfl))) (mvT hZ (hw _ (List.mem_of_getElem? (i := 4) rfl))) (by decide) (backOf (W := 0) (rm1 l Z aZ hw [] (2 : Int32) ((p4 &&& (255 : Int32)) % (5 : Int32)) ((((p4.toUInt32 >>> ((8 : Int32) &&& 31).toUInt32).toInt32) &&& (255 : Int32)) % (5 : Int32)) h5 n0 (Nat.le_trans (Nat.le_trans (Nat.le_trans (Nat.le_trans (Nat.le_trans Z0 E1.1) (Keep.of_wr W2).1) (Keep.of_wr W3).1) (Keep.of_wr W4).1) (Keep.of_wr W5).1)) hZ (hw _ (List.mem_of_getElem? (i := 4) rfl)) (hw _ (List.mem_of_getElem? (i := 3) rfl)) (by decide) (by decide)) (g := (mkF m 86 #[.val (.int p0), .val (.int p1), .val (.int p2), .val (.int p3), .val (.int p4), .val (.ref b1), .val (.int ((p4 &&& (255 : Int32)) % (5 : Int32))), .val (.int ((((p4.toUInt32 >>> ((8 : Int32) &&& 31).toUInt32).toInt32) &&& (255 : Int32)) % (5 : Int32))), .val (.int i8), .unset, .unset] [(.int ((((p4.toUInt32 >>> ((8 : Int32) &&& 31).toUInt32).toInt32) &&& (255 : Int32)) % (5 : Int32))), (.int ((p4 &&& (255 : Int32)) % (5 : Int32))), (.int (2 : Int32))])) rfl (by rw [hml]; rfl) (argsL := [(.int (2 : Int32)), (.int ((p4 &&& (255 : Int32)) % (5 : Int32))), (.int ((((p4.toUInt32 >>> ((8 : Int32) &&& 31).toUInt32).toInt32) &&& (255 : Int32)) % (5 : Int32)))]) (rest := []) (lenOf pd_2 rfl) rfl (by show 2 * 0 + _ ≤ _; exact Nat.le_of_eq rfl) (hb hby at_86) (fun _ _ => ⟨rfl, eT, Nat.le_trans (Nat.add_le_add_right hk 0) (by decide : 16 + 0 ≤ _), Nat.le_trans (Nat.add_le_add_right hn 0) (by decide : 128 + 0 ≤ _)⟩)
    dsimp only [Pt.U, Pt.locs, Pt.cells, Pt.slots] at X21 l21 y21 z21 st21 hQ21
    subst l21 y21 z21
    obtain ⟨rfl, N21q, e21⟩ := hQ21
    have N21 := Fr.app N N21q
    refine .pre (fun _ k => st21 _ k) ?_
    show OwnEnds p e below _ (T21.setTop (mkF m 89 #[.val (.int p0), .val (.int p1), .val (.int p2), .val (.int p3), .val (.int p4), .val (.ref b1), .val (.int ((p4 &&& (255 : Int32)) % (5 : Int32))), .val (.int ((((p4.toUInt32 >>> ((8 : Int32) &&& 31).toUInt32).toInt32) &&& (255 : Int32)) % (5 : Int32))), .val (.int i8), .unset, .unset] [(.int (f1_0 (2 : Int32) ((p4 &&& (255 : Int32)) % (5 : Int32)) ((((p4.toUInt32 >>> ((8 : Int32) &&& 31).toUInt32).toInt32) &&& (255 : Int32)) % (5 : Int32))))]))
    by_cases hc89 : (f1_0 (2 : Int32) ((p4 &&& (255 : Int32)) % (5 : Int32)) ((((p4.toUInt32 >>> ((8 : Int32) &&& 31).toUInt32).toInt32) &&& (255 : Int32)) % (5 : Int32))) = (0 : Int32)
    · rw [if_pos hc89] at hF
      refine .pre (fun _ k => XS.ifYes X21.here hx rfl (pc0 := 89) (pc' := 98) rfl (hb hby at_89) rfl ((if0 _ _).trans (teq hc89).1) (by decide) (by decide) k) ?_
      exact B98 T21 _ _ _ X21 e21 N21 hk hn i8 hF
    · rw [if_neg hc89] at hF
      refine .pre (fun _ k => XS.ifNo X21.here hx rfl (hb hby at_89) rfl ((if0 _ _).trans (feq hc89).1) k) ?_
      show OwnEnds p e below _ (T21.setTop (mkF m 92 #[.val (.int p0), .val (.int p1), .val (.int p2), .val (.int p3), .val (.int p4), .val (.ref b1), .val (.int ((p4 &&& (255 : Int32)) % (5 : Int32))), .val (.int ((((p4.toUInt32 >>> ((8 : Int32) &&& 31).toUInt32).toInt32) &&& (255 : Int32)) % (5 : Int32))), .val (.int i8), .unset, .unset] []))
      refine .pre (fun _ k => XS.iload X21.here hx rfl (hb hby at_92) rfl k) ?_
      show OwnEnds p e below _ (T21.setTop (mkF m 94 #[.val (.int p0), .val (.int p1), .val (.int p2), .val (.int p3), .val (.int p4), .val (.ref b1), .val (.int ((p4 &&& (255 : Int32)) % (5 : Int32))), .val (.int ((((p4.toUInt32 >>> ((8 : Int32) &&& 31).toUInt32).toInt32) &&& (255 : Int32)) % (5 : Int32))), .val (.int i8), .unset, .unset] [(.int i8)]))
      refine .pre (fun _ k => XS.iloadN X21.here hx rfl (hb hby at_94) rfl k) ?_
      show OwnEnds p e below _ (T21.setTop (mkF m 95 #[.val (.int p0), .val (.int p1), .val (.int p2), .val (.int p3), .val (.int p4), .val (.ref b1), .val (.int ((p4 &&& (255 : Int32)) % (5 : Int32))), .val (.int ((((p4.toUInt32 >>> ((8 : Int32) &&& 31).toUInt32).toInt32) &&& (255 : Int32)) % (5 : Int32))), .val (.int i8), .unset, .unset] [(.int p2), (.int i8)]))
      refine .pre (fun _ k => XS.imul X21.here hx rfl (hb hby at_95) rfl k) ?_
      show OwnEnds p e below _ (T21.setTop (mkF m 96 #[.val (.int p0), .val (.int p1), .val (.int p2), .val (.int p3), .val (.int p4), .val (.ref b1), .val (.int ((p4 &&& (255 : Int32)) % (5 : Int32))), .val (.int ((((p4.toUInt32 >>> ((8 : Int32) &&& 31).toUInt32).toInt32) &&& (255 : Int32)) % (5 : Int32))), .val (.int i8), .unset, .unset] [(.int (i8 * p2))]))
      refine .pre (fun _ k => XS.istore X21.here hx rfl (hb hby at_96) rfl (l' := #[.val (.int p0), .val (.int p1), .val (.int p2), .val (.int p3), .val (.int p4), .val (.ref b1), .val (.int ((p4 &&& (255 : Int32)) % (5 : Int32))), .val (.int ((((p4.toUInt32 >>> ((8 : Int32) &&& 31).toUInt32).toInt32) &&& (255 : Int32)) % (5 : Int32))), .val (.int (i8 * p2)), .unset, .unset]) rfl k) ?_
      exact B98 T21 _ _ _ X21 e21 N21 hk hn (i8 * p2) hF
  have B64 : ∀ (T : State) (L : List Loc) (k n : Nat) (X : Stand p l e room_1 s m #[(.int p0), (.int p1), (.int p2), (.int p3), (.int p4)] below meth c T L k n) (eT : T.heap = h5) (N : Fr n0 L) (hk : k ≤ 16) (hn : n ≤ 128) (i8 : Int32), f0_64 p0 p1 p2 p3 p4 i8 = f0_44 p0 p1 p2 p3 p4 → OwnEnds p e below (OwnQ s (Q0 Z p0 p1 p2 p3 p4 h0 n0) 16 128) (T.setTop (mkF m 64 #[.val (.int p0), .val (.int p1), .val (.int p2), .val (.int p3), .val (.int p4), .val (.ref b1), .val (.int ((p4 &&& (255 : Int32)) % (5 : Int32))), .val (.int ((((p4.toUInt32 >>> ((8 : Int32) &&& 31).toUInt32).toInt32) &&& (255 : Int32)) % (5 : Int32))), .val (.int i8), .unset, .unset] [])) := by
    intro T L k n X eT N hk hn i8 hF
    change (if (f1_0 (1 : Int32) ((p4 &&& (255 : Int32)) % (5 : Int32)) ((((p4.toUInt32 >>> ((8 : Int32) &&& 31).toUInt32).toInt32) &&& (255 : Int32)) % (5 : Int32))) = (0 : Int32) then (f0_81 p0 p1 p2 p3 p4 i8) else (f0_81 p0 p1 p2 p3 p4 (i8 * p1))) = _ at hF
    show OwnEnds p e below _ (T.setTop (mkF m 64 #[.val (.int p0), .val (.int p1), .val (.int p2), .val (.int p3), .val (.int p4), .val (.ref b1), .val (.int ((p4 &&& (255 : Int32)) % (5 : Int32))), .val (.int ((((p4.toUInt32 >>> ((8 : Int32) &&& 31).toUInt32).toInt32) &&& (255 : Int32)) % (5 : Int32))), .val (.int i8), .unset, .unset] []))
    refine .pre (fun _ k => XS.iconst X.here hx rfl (hb hby at_64) k) ?_
    show OwnEnds p e below _ (T.setTop (mkF m 65 #[.val (.int p0), .val (.int p1), .val (.int p2), .val (.int p3), .val (.int p4), .val (.ref b1), .val (.int ((p4 &&& (255 : Int32)) % (5 : Int32))), .val (.int ((((p4.toUInt32 >>> ((8 : Int32) &&& 31).toUInt32).toInt32) &&& (255 : Int32)) % (5 : Int32))), .val (.int i8), .unset, .unset] [(.int (1 : Int32))]))
    refine .pre (fun _ k => XS.iload X.here hx rfl (hb hby at_65) rfl k) ?_
    show OwnEnds p e below _ (T.setTop (mkF m 67 #[.val (.int p0), .val (.int p1), .val (.int p2), .val (.int p3), .val (.int p4), .val (.ref b1), .val (.int ((p4 &&& (255 : Int32)) % (5 : Int32))), .val (.int ((((p4.toUInt32 >>> ((8 : Int32) &&& 31).toUInt32).toInt32) &&& (255 : Int32)) % (5 : Int32))), .val (.int i8), .unset, .unset] [(.int ((p4 &&& (255 : Int32)) % (5 : Int32))), (.int (1 : Int32))]))
    refine .pre (fun _ k => XS.iload X.here hx rfl (hb hby at_67) rfl k) ?_
    show OwnEnds p e below _ (T.setTop (mkF m 69 #[.val (.int p0), .val (.int p1), .val (.int p2), .val (.int p3), .val (.int p4), .val (.ref b1), .val (.int ((p4 &&& (255 : Int32)) % (5 : Int32))), .val (.int ((((p4.toUInt32 >>> ((8 : Int32) &&& 31).toUInt32).toInt32) &&& (255 : Int32)) % (5 : Int32))), .val (.int i8), .unset, .unset] [(.int ((((p4.toUInt32 >>> ((8 : Int32) &&& 31).toUInt32).toInt32) &&& (255 : Int32)) % (5 : Int32))), (.int ((p4 &&& (255 : Int32)) % (5 : Int32))), (.int (1 : Int32))]))
    obtain ⟨_, _, ⟨T22, L22, k22, n22⟩, -, X22, ⟨Lc22, hQ22, l22, y22, z22⟩, st22⟩ := Jvm.LawKit.callS X hx (y := (⟨"com/example/lather/lather/encoding/ArrayShapeProductPinLaw", "in", "(III)Z"⟩ : MethodName)) hown (mvT hZ (hw _ (List.mem_of_getElem? (i := 1) rfl))) (mvT hZ (hw _ (List.mem_of_getElem? (i := 2) rfl))) (mvT hZ (hw _ (List.mem_of_getElem? (i := 3) rfl))) (mvT hZ (hw _ (List.mem_of_getElem? (i := 4) rfl))) (by decide) (backOf (W := 0) (rm1 l Z aZ hw [] (1 : Int32) ((p4 &&& (255 : Int32)) % (5 : Int32)) ((((p4.toUInt32 >>> ((8 : Int32) &&& 31).toUInt32).toInt32) &&& (255 : Int32)) % (5 : Int32)) h5 n0 (Nat.le_trans (Nat.le_trans (Nat.le_trans (Nat.le_trans (Nat.le_trans Z0 E1.1) (Keep.of_wr W2).1) (Keep.of_wr W3).1) (Keep.of_wr W4).1) (Keep.of_wr W5).1)) hZ (hw _ (List.mem_of_getElem? (i := 4) rfl)) (hw _ (List.mem_of_getElem? (i := 3) rfl)) (by decide) (by decide)) (g := (mkF m 69 #[.val (.int p0), .val (.int p1), .val (.int p2), .val (.int p3), .val (.int p4), .val (.ref b1), .val (.int ((p4 &&& (255 : Int32)) % (5 : Int32))), .val (.int ((((p4.toUInt32 >>> ((8 : Int32) &&& 31).toUInt32).toInt32) &&& (255 : Int32)) % (5 : Int32))), .val (.int i8), .unset, .unset] [(.int ((((p4.toUInt32 >>> ((8 : Int32) &&& 31).toUInt32).toInt32) &&& (255 : Int32)) % (5 : Int32))), (.int ((p4 &&& (255 : Int32)) % (5 : Int32))), (.int (1 : Int32))])) rfl (by rw [hml]; rfl) (argsL := [(.int (1 : Int32)), (.int ((p4 &&& (255 : Int32)) % (5 : Int32))), (.int ((((p4.toUInt32 >>> ((8 : Int32) &&& 31).toUInt32).toInt32) &&& (255 : Int32)) % (5 : Int32)))]) (rest := []) (lenOf pd_2 rfl) rfl (by show 2 * 0 + _ ≤ _; exact Nat.le_of_eq rfl) (hb hby at_69) (fun _ _ => ⟨rfl, eT, Nat.le_trans (Nat.add_le_add_right hk 0) (by decide : 16 + 0 ≤ _), Nat.le_trans (Nat.add_le_add_right hn 0) (by decide : 128 + 0 ≤ _)⟩)
    dsimp only [Pt.U, Pt.locs, Pt.cells, Pt.slots] at X22 l22 y22 z22 st22 hQ22
    subst l22 y22 z22
    obtain ⟨rfl, N22q, e22⟩ := hQ22
    have N22 := Fr.app N N22q
    refine .pre (fun _ k => st22 _ k) ?_
    show OwnEnds p e below _ (T22.setTop (mkF m 72 #[.val (.int p0), .val (.int p1), .val (.int p2), .val (.int p3), .val (.int p4), .val (.ref b1), .val (.int ((p4 &&& (255 : Int32)) % (5 : Int32))), .val (.int ((((p4.toUInt32 >>> ((8 : Int32) &&& 31).toUInt32).toInt32) &&& (255 : Int32)) % (5 : Int32))), .val (.int i8), .unset, .unset] [(.int (f1_0 (1 : Int32) ((p4 &&& (255 : Int32)) % (5 : Int32)) ((((p4.toUInt32 >>> ((8 : Int32) &&& 31).toUInt32).toInt32) &&& (255 : Int32)) % (5 : Int32))))]))
    by_cases hc72 : (f1_0 (1 : Int32) ((p4 &&& (255 : Int32)) % (5 : Int32)) ((((p4.toUInt32 >>> ((8 : Int32) &&& 31).toUInt32).toInt32) &&& (255 : Int32)) % (5 : Int32))) = (0 : Int32)
    · rw [if_pos hc72] at hF
      refine .pre (fun _ k => XS.ifYes X22.here hx rfl (pc0 := 72) (pc' := 81) rfl (hb hby at_72) rfl ((if0 _ _).trans (teq hc72).1) (by decide) (by decide) k) ?_
      exact B81 T22 _ _ _ X22 e22 N22 hk hn i8 hF
    · rw [if_neg hc72] at hF
      refine .pre (fun _ k => XS.ifNo X22.here hx rfl (hb hby at_72) rfl ((if0 _ _).trans (feq hc72).1) k) ?_
      show OwnEnds p e below _ (T22.setTop (mkF m 75 #[.val (.int p0), .val (.int p1), .val (.int p2), .val (.int p3), .val (.int p4), .val (.ref b1), .val (.int ((p4 &&& (255 : Int32)) % (5 : Int32))), .val (.int ((((p4.toUInt32 >>> ((8 : Int32) &&& 31).toUInt32).toInt32) &&& (255 : Int32)) % (5 : Int32))), .val (.int i8), .unset, .unset] []))
      refine .pre (fun _ k => XS.iload X22.here hx rfl (hb hby at_75) rfl k) ?_
      show OwnEnds p e below _ (T22.setTop (mkF m 77 #[.val (.int p0), .val (.int p1), .val (.int p2), .val (.int p3), .val (.int p4), .val (.ref b1), .val (.int ((p4 &&& (255 : Int32)) % (5 : Int32))), .val (.int ((((p4.toUInt32 >>> ((8 : Int32) &&& 31).toUInt32).toInt32) &&& (255 : Int32)) % (5 : Int32))), .val (.int i8), .unset, .unset] [(.int i8)]))
      refine .pre (fun _ k => XS.iloadN X22.here hx rfl (hb hby at_77) rfl k) ?_
      show OwnEnds p e below _ (T22.setTop (mkF m 78 #[.val (.int p0), .val (.int p1), .val (.int p2), .val (.int p3), .val (.int p4), .val (.ref b1), .val (.int ((p4 &&& (255 : Int32)) % (5 : Int32))), .val (.int ((((p4.toUInt32 >>> ((8 : Int32) &&& 31).toUInt32).toInt32) &&& (255 : Int32)) % (5 : Int32))), .val (.int i8), .unset, .unset] [(.int p1), (.int i8)]))
      refine .pre (fun _ k => XS.imul X22.here hx rfl (hb hby at_78) rfl k) ?_
      show OwnEnds p e below _ (T22.setTop (mkF m 79 #[.val (.int p0), .val (.int p1), .val (.int p2), .val (.int p3), .val (.int p4), .val (.ref b1), .val (.int ((p4 &&& (255 : Int32)) % (5 : Int32))), .val (.int ((((p4.toUInt32 >>> ((8 : Int32) &&& 31).toUInt32).toInt32) &&& (255 : Int32)) % (5 : Int32))), .val (.int i8), .unset, .unset] [(.int (i8 * p1))]))
      refine .pre (fun _ k => XS.istore X22.here hx rfl (hb hby at_79) rfl (l' := #[.val (.int p0), .val (.int p1), .val (.int p2), .val (.int p3), .val (.int p4), .val (.ref b1), .val (.int ((p4 &&& (255 : Int32)) % (5 : Int32))), .val (.int ((((p4.toUInt32 >>> ((8 : Int32) &&& 31).toUInt32).toInt32) &&& (255 : Int32)) % (5 : Int32))), .val (.int (i8 * p1)), .unset, .unset]) rfl k) ?_
      exact B81 T22 _ _ _ X22 e22 N22 hk hn (i8 * p1) hF
  have B44 : ∀ (T : State) (L : List Loc) (k n : Nat) (X : Stand p l e room_1 s m #[(.int p0), (.int p1), (.int p2), (.int p3), (.int p4)] below meth c T L k n) (eT : T.heap = h5) (N : Fr n0 L) (hk : k ≤ 16) (hn : n ≤ 128), f0_44 p0 p1 p2 p3 p4 = f0_44 p0 p1 p2 p3 p4 → OwnEnds p e below (OwnQ s (Q0 Z p0 p1 p2 p3 p4 h0 n0) 16 128) (T.setTop (mkF m 44 #[.val (.int p0), .val (.int p1), .val (.int p2), .val (.int p3), .val (.int p4), .val (.ref b1), .val (.int ((p4 &&& (255 : Int32)) % (5 : Int32))), .val (.int ((((p4.toUInt32 >>> ((8 : Int32) &&& 31).toUInt32).toInt32) &&& (255 : Int32)) % (5 : Int32))), .unset, .unset, .unset] [])) := by
    intro T L k n X eT N hk hn  hF
    change (if (f1_0 (0 : Int32) ((p4 &&& (255 : Int32)) % (5 : Int32)) ((((p4.toUInt32 >>> ((8 : Int32) &&& 31).toUInt32).toInt32) &&& (255 : Int32)) % (5 : Int32))) = (0 : Int32) then (f0_64 p0 p1 p2 p3 p4 (1 : Int32)) else (f0_64 p0 p1 p2 p3 p4 ((1 : Int32) * p0))) = _ at hF
    show OwnEnds p e below _ (T.setTop (mkF m 44 #[.val (.int p0), .val (.int p1), .val (.int p2), .val (.int p3), .val (.int p4), .val (.ref b1), .val (.int ((p4 &&& (255 : Int32)) % (5 : Int32))), .val (.int ((((p4.toUInt32 >>> ((8 : Int32) &&& 31).toUInt32).toInt32) &&& (255 : Int32)) % (5 : Int32))), .unset, .unset, .unset] []))
    refine .pre (fun _ k => XS.iconst X.here hx rfl (hb hby at_44) k) ?_
    show OwnEnds p e below _ (T.setTop (mkF m 45 #[.val (.int p0), .val (.int p1), .val (.int p2), .val (.int p3), .val (.int p4), .val (.ref b1), .val (.int ((p4 &&& (255 : Int32)) % (5 : Int32))), .val (.int ((((p4.toUInt32 >>> ((8 : Int32) &&& 31).toUInt32).toInt32) &&& (255 : Int32)) % (5 : Int32))), .unset, .unset, .unset] [(.int (1 : Int32))]))
    refine .pre (fun _ k => XS.istore X.here hx rfl (hb hby at_45) rfl (l' := #[.val (.int p0), .val (.int p1), .val (.int p2), .val (.int p3), .val (.int p4), .val (.ref b1), .val (.int ((p4 &&& (255 : Int32)) % (5 : Int32))), .val (.int ((((p4.toUInt32 >>> ((8 : Int32) &&& 31).toUInt32).toInt32) &&& (255 : Int32)) % (5 : Int32))), .val (.int (1 : Int32)), .unset, .unset]) rfl k) ?_
    show OwnEnds p e below _ (T.setTop (mkF m 47 #[.val (.int p0), .val (.int p1), .val (.int p2), .val (.int p3), .val (.int p4), .val (.ref b1), .val (.int ((p4 &&& (255 : Int32)) % (5 : Int32))), .val (.int ((((p4.toUInt32 >>> ((8 : Int32) &&& 31).toUInt32).toInt32) &&& (255 : Int32)) % (5 : Int32))), .val (.int (1 : Int32)), .unset, .unset] []))
    refine .pre (fun _ k => XS.iconst X.here hx rfl (hb hby at_47) k) ?_
    show OwnEnds p e below _ (T.setTop (mkF m 48 #[.val (.int p0), .val (.int p1), .val (.int p2), .val (.int p3), .val (.int p4), .val (.ref b1), .val (.int ((p4 &&& (255 : Int32)) % (5 : Int32))), .val (.int ((((p4.toUInt32 >>> ((8 : Int32) &&& 31).toUInt32).toInt32) &&& (255 : Int32)) % (5 : Int32))), .val (.int (1 : Int32)), .unset, .unset] [(.int (0 : Int32))]))
    refine .pre (fun _ k => XS.iload X.here hx rfl (hb hby at_48) rfl k) ?_
    show OwnEnds p e below _ (T.setTop (mkF m 50 #[.val (.int p0), .val (.int p1), .val (.int p2), .val (.int p3), .val (.int p4), .val (.ref b1), .val (.int ((p4 &&& (255 : Int32)) % (5 : Int32))), .val (.int ((((p4.toUInt32 >>> ((8 : Int32) &&& 31).toUInt32).toInt32) &&& (255 : Int32)) % (5 : Int32))), .val (.int (1 : Int32)), .unset, .unset] [(.int ((p4 &&& (255 : Int32)) % (5 : Int32))), (.int (0 : Int32))]))
    refine .pre (fun _ k => XS.iload X.here hx rfl (hb hby at_50) rfl k) ?_
    show OwnEnds p e below _ (T.setTop (mkF m 52 #[.val (.int p0), .val (.int p1), .val (.int p2), .val (.int p3), .val (.int p4), .val (.ref b1), .val (.int ((p4 &&& (255 : Int32)) % (5 : Int32))), .val (.int ((((p4.toUInt32 >>> ((8 : Int32) &&& 31).toUInt32).toInt32) &&& (255 : Int32)) % (5 : Int32))), .val (.int (1 : Int32)), .unset, .unset] [(.int ((((p4.toUInt32 >>> ((8 : Int32) &&& 31).toUInt32).toInt32) &&& (255 : Int32)) % (5 : Int32))), (.int ((p4 &&& (255 : Int32)) % (5 : Int32))), (.int (0 : Int32))]))
    obtain ⟨_, _, ⟨T23, L23, k23, n23⟩, -, X23, ⟨Lc23, hQ23, l23, y23, z23⟩, st23⟩ := Jvm.LawKit.callS X hx (y := (⟨"com/example/lather/lather/encoding/ArrayShapeProductPinLaw", "in", "(III)Z"⟩ : MethodName)) hown (mvT hZ (hw _ (List.mem_of_getElem? (i := 1) rfl))) (mvT hZ (hw _ (List.mem_of_getElem? (i := 2) rfl))) (mvT hZ (hw _ (List.mem_of_getElem? (i := 3) rfl))) (mvT hZ (hw _ (List.mem_of_getElem? (i := 4) rfl))) (by decide) (backOf (W := 0) (rm1 l Z aZ hw [] (0 : Int32) ((p4 &&& (255 : Int32)) % (5 : Int32)) ((((p4.toUInt32 >>> ((8 : Int32) &&& 31).toUInt32).toInt32) &&& (255 : Int32)) % (5 : Int32)) h5 n0 (Nat.le_trans (Nat.le_trans (Nat.le_trans (Nat.le_trans (Nat.le_trans Z0 E1.1) (Keep.of_wr W2).1) (Keep.of_wr W3).1) (Keep.of_wr W4).1) (Keep.of_wr W5).1)) hZ (hw _ (List.mem_of_getElem? (i := 4) rfl)) (hw _ (List.mem_of_getElem? (i := 3) rfl)) (by decide) (by decide)) (g := (mkF m 52 #[.val (.int p0), .val (.int p1), .val (.int p2), .val (.int p3), .val (.int p4), .val (.ref b1), .val (.int ((p4 &&& (255 : Int32)) % (5 : Int32))), .val (.int ((((p4.toUInt32 >>> ((8 : Int32) &&& 31).toUInt32).toInt32) &&& (255 : Int32)) % (5 : Int32))), .val (.int (1 : Int32)), .unset, .unset] [(.int ((((p4.toUInt32 >>> ((8 : Int32) &&& 31).toUInt32).toInt32) &&& (255 : Int32)) % (5 : Int32))), (.int ((p4 &&& (255 : Int32)) % (5 : Int32))), (.int (0 : Int32))])) rfl (by rw [hml]; rfl) (argsL := [(.int (0 : Int32)), (.int ((p4 &&& (255 : Int32)) % (5 : Int32))), (.int ((((p4.toUInt32 >>> ((8 : Int32) &&& 31).toUInt32).toInt32) &&& (255 : Int32)) % (5 : Int32)))]) (rest := []) (lenOf pd_2 rfl) rfl (by show 2 * 0 + _ ≤ _; exact Nat.le_of_eq rfl) (hb hby at_52) (fun _ _ => ⟨rfl, eT, Nat.le_trans (Nat.add_le_add_right hk 0) (by decide : 16 + 0 ≤ _), Nat.le_trans (Nat.add_le_add_right hn 0) (by decide : 128 + 0 ≤ _)⟩)
    dsimp only [Pt.U, Pt.locs, Pt.cells, Pt.slots] at X23 l23 y23 z23 st23 hQ23
    subst l23 y23 z23
    obtain ⟨rfl, N23q, e23⟩ := hQ23
    have N23 := Fr.app N N23q
    refine .pre (fun _ k => st23 _ k) ?_
    show OwnEnds p e below _ (T23.setTop (mkF m 55 #[.val (.int p0), .val (.int p1), .val (.int p2), .val (.int p3), .val (.int p4), .val (.ref b1), .val (.int ((p4 &&& (255 : Int32)) % (5 : Int32))), .val (.int ((((p4.toUInt32 >>> ((8 : Int32) &&& 31).toUInt32).toInt32) &&& (255 : Int32)) % (5 : Int32))), .val (.int (1 : Int32)), .unset, .unset] [(.int (f1_0 (0 : Int32) ((p4 &&& (255 : Int32)) % (5 : Int32)) ((((p4.toUInt32 >>> ((8 : Int32) &&& 31).toUInt32).toInt32) &&& (255 : Int32)) % (5 : Int32))))]))
    by_cases hc55 : (f1_0 (0 : Int32) ((p4 &&& (255 : Int32)) % (5 : Int32)) ((((p4.toUInt32 >>> ((8 : Int32) &&& 31).toUInt32).toInt32) &&& (255 : Int32)) % (5 : Int32))) = (0 : Int32)
    · rw [if_pos hc55] at hF
      refine .pre (fun _ k => XS.ifYes X23.here hx rfl (pc0 := 55) (pc' := 64) rfl (hb hby at_55) rfl ((if0 _ _).trans (teq hc55).1) (by decide) (by decide) k) ?_
      exact B64 T23 _ _ _ X23 e23 N23 hk hn (1 : Int32) hF
    · rw [if_neg hc55] at hF
      refine .pre (fun _ k => XS.ifNo X23.here hx rfl (hb hby at_55) rfl ((if0 _ _).trans (feq hc55).1) k) ?_
      show OwnEnds p e below _ (T23.setTop (mkF m 58 #[.val (.int p0), .val (.int p1), .val (.int p2), .val (.int p3), .val (.int p4), .val (.ref b1), .val (.int ((p4 &&& (255 : Int32)) % (5 : Int32))), .val (.int ((((p4.toUInt32 >>> ((8 : Int32) &&& 31).toUInt32).toInt32) &&& (255 : Int32)) % (5 : Int32))), .val (.int (1 : Int32)), .unset, .unset] []))
      refine .pre (fun _ k => XS.iload X23.here hx rfl (hb hby at_58) rfl k) ?_
      show OwnEnds p e below _ (T23.setTop (mkF m 60 #[.val (.int p0), .val (.int p1), .val (.int p2), .val (.int p3), .val (.int p4), .val (.ref b1), .val (.int ((p4 &&& (255 : Int32)) % (5 : Int32))), .val (.int ((((p4.toUInt32 >>> ((8 : Int32) &&& 31).toUInt32).toInt32) &&& (255 : Int32)) % (5 : Int32))), .val (.int (1 : Int32)), .unset, .unset] [(.int (1 : Int32))]))
      refine .pre (fun _ k => XS.iloadN X23.here hx rfl (hb hby at_60) rfl k) ?_
      show OwnEnds p e below _ (T23.setTop (mkF m 61 #[.val (.int p0), .val (.int p1), .val (.int p2), .val (.int p3), .val (.int p4), .val (.ref b1), .val (.int ((p4 &&& (255 : Int32)) % (5 : Int32))), .val (.int ((((p4.toUInt32 >>> ((8 : Int32) &&& 31).toUInt32).toInt32) &&& (255 : Int32)) % (5 : Int32))), .val (.int (1 : Int32)), .unset, .unset] [(.int p0), (.int (1 : Int32))]))
      refine .pre (fun _ k => XS.imul X23.here hx rfl (hb hby at_61) rfl k) ?_
      show OwnEnds p e below _ (T23.setTop (mkF m 62 #[.val (.int p0), .val (.int p1), .val (.int p2), .val (.int p3), .val (.int p4), .val (.ref b1), .val (.int ((p4 &&& (255 : Int32)) % (5 : Int32))), .val (.int ((((p4.toUInt32 >>> ((8 : Int32) &&& 31).toUInt32).toInt32) &&& (255 : Int32)) % (5 : Int32))), .val (.int (1 : Int32)), .unset, .unset] [(.int ((1 : Int32) * p0))]))
      refine .pre (fun _ k => XS.istore X23.here hx rfl (hb hby at_62) rfl (l' := #[.val (.int p0), .val (.int p1), .val (.int p2), .val (.int p3), .val (.int p4), .val (.ref b1), .val (.int ((p4 &&& (255 : Int32)) % (5 : Int32))), .val (.int ((((p4.toUInt32 >>> ((8 : Int32) &&& 31).toUInt32).toInt32) &&& (255 : Int32)) % (5 : Int32))), .val (.int ((1 : Int32) * p0)), .unset, .unset]) rfl k) ?_
      exact B64 T23 _ _ _ X23 e23 N23 hk hn ((1 : Int32) * p0) hF
  exact B44 T5 _ _ _ X5 e5 N5 (by decide) (by decide)  rfl
theorem own_five (x : Int32) (h : 0 ≤ x.toInt ∧ x.toInt ≤ 4) : x = 0 ∨ x = 1 ∨ x = 2 ∨ x = 3 ∨ x = 4 := by
  simp only [← Int32.toInt_inj, Int32.reduceToInt]
  omega
theorem own_law (x : Int32) (y : Int32) (z : Int32) (u : Int32) (v : Int32) : f0_44 x y z u v = 1 := by
  have hf := own_five _ (own_r5 v)
  have ht := own_five _ (own_r5 (v.toUInt32 >>> ((8 : Int32) &&& 31).toUInt32).toInt32)
  simp only [f1_0, f0_163, f0_162, f0_115, f0_98, f0_81, f0_64, f0_44]
  generalize ((v &&& (255 : Int32)) % (5 : Int32)) = fr at *
  generalize (((v.toUInt32 >>> ((8 : Int32) &&& 31).toUInt32).toInt32 &&& (255 : Int32)) % (5 : Int32)) = tt at *
  rcases hf with rfl | rfl | rfl | rfl | rfl <;> rcases ht with rfl | rfl | rfl | rfl | rfl <;> simp [own_prod]
set_option maxRecDepth 65536 in
set_option maxHeartbeats 40000000 in
theorem comes_1 {Post : Tables → Env → Array Value → State → Outcome → State → Prop} (hpost : ∀ tb e args s v u, (limb_1_1.after args s (.returned v) u = true ∧ limb_1_2.after args s (.returned v) u = true ∧ True) → FrameEnd s (.returned v) u (Jvm.fieldLocs frame_1_writes args s ++ Jvm.arrayLocs frame_1_arrays args s ++ Jvm.staticLocs frame_1_statics s) 16 128 → Post tb e args s (.returned v) u) :
    ArmFor flags0 classFile x code maxLocals ret World_1 tables_1 room_1 Calls_1 rest_1 Pre_1 Post := by
  intro l hfl _ _ p e ha hc hk s m args below hf hA hF happ hP
  obtain ⟨hcalls, hrest, hpre⟩ := hP
  obtain ⟨-, -, -, hnamed, -, -, -, hat⟩ := (Spec.applies_iff hf).mp happ
  obtain ⟨hg, hn⟩ := and_e (Cond.before_iff.mp (show (Jvm.Cond.and given_1 narrow_1).before args s = true from hpre))
  obtain ⟨hcount, hg0⟩ := and_e hg
  obtain ⟨ha0, hg1⟩ := and_e hg0
  obtain ⟨ha1, hg2⟩ := and_e hg1
  obtain ⟨ha2, hg3⟩ := and_e hg2
  obtain ⟨ha3, hg4⟩ := and_e hg3
  have ha4 := hg4
  obtain ⟨w0, w1, w2, w3, w4, rfl⟩ : ∃ w0 w1 w2 w3 w4 : Value, args = #[w0, w1, w2, w3, w4] := by
    have hs : args.size = 5 := by simpa [Cond.value, given_1] using hcount
    obtain ⟨L⟩ := args
    match L, hs with
    | [w0, w1, w2, w3, w4], _ => exact ⟨w0, w1, w2, w3, w4, rfl⟩
  have hw := fun d (hd : d ∈ tables_1) => atoms_spec (ws := Jvm.Cond.code x code maxLocals ret :: tables_1) hat d (List.mem_cons_of_mem _ hd)
  have hfit : Fit s := fun {y c} hc i hi => by
    obtain ⟨ha, rfl⟩ := Array.getElem?_eq_some_iff.mp hc
    have q := List.all_eq_true.mp ((Array.all_eq_true_iff_forall_mem.mp hF) _ (Array.getElem_mem ha)) i (List.mem_range.mpr hi)
    simpa [Array.getElem?_eq_getElem hi] using q
  obtain ⟨i0, ei0⟩ := is_v ha0
  obtain rfl : w0 = (.int i0) := Option.some.inj ei0
  obtain ⟨i1, ei1⟩ := is_v ha1
  obtain rfl : w1 = (.int i1) := Option.some.inj ei1
  obtain ⟨i2, ei2⟩ := is_v ha2
  obtain rfl : w2 = (.int i2) := Option.some.inj ei2
  obtain ⟨i3, ei3⟩ := is_v ha3
  obtain rfl : w3 = (.int i3) := Option.some.inj ei3
  obtain ⟨i4, ei4⟩ := is_v ha4
  obtain rfl : w4 = (.int i4) := Option.some.inj ei4
  obtain ⟨n, o, h1, h2, h3, _, L, rfl, ⟨hv, N, -⟩, hq⟩ := rm0 l s _ hw tables_1 i0 i1 i2 i3 i4  s.heap s.heap.size (Nat.le_refl _)  p e ha hc hk s m _ below hf ((Spec.applies_iff_loose hf).mp happ).1 ⟨rfl, State.Warmed39.refl s, rfl⟩ trivial
  rw [own_law] at hv
  subst hv
  refine ⟨n, _, h1, h2, h3, hpost _ _ _ _ _ _ ⟨Cond.after_iff.mpr rfl, Cond.after_iff.mpr (eq_i res_at (Term.int_eval (1)) rfl), trivial⟩ ⟨hq.1, hq.2.1, (hq.2.2.sift fun y hy => Or.inr (N y hy)).mono (by decide) (by decide)⟩⟩
theorem main_1_1 : Claimed_1_1 := comes_1 fun _ _ _ _ _ _ h hF => ⟨h.1, hF⟩
theorem main_1_2 : Claimed_1_2 := comes_1 fun _ _ _ _ _ _ h hF => ⟨h.2.1, hF⟩
end Jvm.Pilot.@@N@@
namespace Jvm.Pilot.@@N@@
open Jvm Jvm.ClassFile Sem Op Lib Jvm.Free Jvm.Stand Jvm.Pilot.@@N@@.Jvm.D
/-! MADE BY PROGRAM (witnessworld.py) out of the Statement's table words and the real class files: 9 classes; the members and pool entries that the words name. The judged class is class 1, her method 1. -/
namespace start1
open Jvm.ClassFile
def u (s : String) : CpInfo := .utf8 (stringToUtf16 s)
/-- a pool by its gaps: so many unusable entries, then the entry; so many at the end -/
def gap : Nat → List CpInfo → List CpInfo
  | 0, r => r
  | n + 1, r => .unusable :: gap n r
def poolList (es : List (Nat × CpInfo)) (last : Nat) : List CpInfo := es.foldr (fun e r => gap e.1 (e.2 :: r)) (gap last [])
def pool (es : List (Nat × CpInfo)) (last : Nat) : Array CpInfo := ⟨poolList es last⟩
def fileOf (pool : Array CpInfo) (this : Nat) (attrs : Array Attribute := #[]) (ms : Array MethodInfo := #[]) (fl : Nat := 33) (sup : Nat := 0) (ifs : Array Nat := #[]) (fds : Array FieldInfo := #[]) : ClassFile where
  minorVersion := 0
  majorVersion := 65
  constantPool := pool
  accessFlags := fl
  thisClass := this
  superClass := sup
  interfaces := ifs
  fields := fds
  methods := ms
  attributes := attrs
def plain (name : String) (sup : Option ClassId) : Class where
  name := name
  kind := .ordinary
  loader := none
  accessFlags := 33
  super := sup
  interfaces := #[]
  cf := none
  fields := #[]
  methods := #[]
  instanceTypes := #[]
  staticTypes := #[]
  resolved := #[]
  callSites := []
  init := .initialized
  statics := none
  mirror := none

def pool0 : Array CpInfo := pool [(5, u "<init>"), (0, u "()V"), (1, .class_ 10), (1, u "java/lang/Object")] 113

def k0m0 : Method := { name := "<init>", desc := "()V", sig := { parameters := [], returnType := none }, accessFlags := 1, code := none }
/-- java/lang/Object -/
def k0 : Class := { plain "java/lang/Object" none with
  accessFlags := 33
  interfaces := #[]
  cf := some (fileOf pool0 8 #[] #[{ accessFlags := 1, nameIndex := 5, descriptorIndex := 6, attributes := #[] }] 33 0 #[] #[])
  fields := #[]
  methods := #[k0m0]
  instanceTypes := #[]
  staticTypes := #[]
  resolved := Array.replicate 124 none
  statics := none }

def pool1 : Array CpInfo := pool [(2, .class_ 4), (1, u "java/lang/Object"), (0, u "<init>"), (0, u "()V"), (0, .methodref 8 9), (0, .class_ 10), (0, .nameAndType 11 12), (0, u "com/example/lather/lather/encoding/ArrayShapeProductPinLaw"), (0, u "in"), (0, u "(III)Z"), (0, .methodref 14 15), (0, .class_ 16), (0, .nameAndType 17 18), (0, u "com/example/lather/lather/encoding/ArrayShape"), (0, u "product"), (0, u "([III)I"), (2, u "law"), (0, u "(IIIII)Z")] 5

def k1m0 : Method := { name := "<init>", desc := "()V", sig := { parameters := [], returnType := none }, accessFlags := 1, code := none }
def k1c1 : Code := { maxStack := 4, maxLocals := 11, code := code, exceptionTable := #[], attributes := #[] }
def k1m1 : Method := { name := "law", desc := "(IIIII)Z", sig := { parameters := [.int, .int, .int, .int, .int], returnType := some .boolean }, accessFlags := 9, code := some k1c1 }
def k1c2 : Code := { maxStack := 2, maxLocals := 3, code := method_3_code, exceptionTable := #[], attributes := #[] }
def k1m2 : Method := { name := "in", desc := "(III)Z", sig := { parameters := [.int, .int, .int], returnType := some .boolean }, accessFlags := 10, code := some k1c2 }
/-- com/example/lather/lather/encoding/ArrayShapeProductPinLaw -/
def k1 : Class := { plain "com/example/lather/lather/encoding/ArrayShapeProductPinLaw" (some 0) with
  accessFlags := 49
  interfaces := #[]
  cf := some (fileOf pool1 8 #[] #[{ accessFlags := 1, nameIndex := 5, descriptorIndex := 6, attributes := #[] }, { accessFlags := 9, nameIndex := 21, descriptorIndex := 22, attributes := #[] }, { accessFlags := 10, nameIndex := 11, descriptorIndex := 12, attributes := #[] }] 49 2 #[] #[])
  fields := #[]
  methods := #[k1m0, k1m1, k1m2]
  instanceTypes := #[]
  staticTypes := #[]
  resolved := Array.replicate 28 none
  statics := none }

def pool2 : Array CpInfo := pool [(1, .class_ 2), (0, u "com/example/lather/lather/encoding/ArrayShape"), (1, .class_ 6), (1, u "java/lang/Object"), (4, u "itemType"), (0, u "Ljava/lang/String;"), (2, u "itemRanks"), (0, u "Ljava/util/List;"), (2, u "dimensions"), (0, u "[I"), (65, u "WHITE_SPACE"), (0, u "Ljava/util/regex/Pattern;"), (19, u "product"), (0, u "([III)I"), (105, u "DIGITS"), (28, u "MAX_ITEMS"), (0, u "I"), (1, u "MAX_ITEMS_READ"), (2, u "MAX_ITEM_RANKS"), (1, u "OPEN")] 62

def k2c0 : Code := { maxStack := 3, maxLocals := 5, code := prog_19_method_13_code, exceptionTable := #[], attributes := #[] }
def k2m0 : Method := { name := "product", desc := "([III)I", sig := { parameters := [(.array .int), .int, .int], returnType := some .int }, accessFlags := 8, code := some k2c0 }
/-- com/example/lather/lather/encoding/ArrayShape -/
def k2 : Class := { plain "com/example/lather/lather/encoding/ArrayShape" (some 0) with
  accessFlags := 48
  interfaces := #[]
  cf := some (fileOf pool2 1 #[] #[{ accessFlags := 8, nameIndex := 107, descriptorIndex := 108, attributes := #[] }] 48 4 #[] #[{ accessFlags := 24, nameIndex := 243, descriptorIndex := 244, attributes := #[] }, { accessFlags := 24, nameIndex := 246, descriptorIndex := 12, attributes := #[] }, { accessFlags := 24, nameIndex := 249, descriptorIndex := 244, attributes := #[] }, { accessFlags := 24, nameIndex := 251, descriptorIndex := 244, attributes := #[] }, { accessFlags := 26, nameIndex := 214, descriptorIndex := 87, attributes := #[] }, { accessFlags := 26, nameIndex := 86, descriptorIndex := 87, attributes := #[] }, { accessFlags := 18, nameIndex := 11, descriptorIndex := 12, attributes := #[] }, { accessFlags := 18, nameIndex := 15, descriptorIndex := 16, attributes := #[] }, { accessFlags := 18, nameIndex := 19, descriptorIndex := 20, attributes := #[] }])
  fields := #[{ name := "MAX_ITEMS", type := .int, accessFlags := 24, slot := 0, constantValue := 0 }, { name := "MAX_ITEMS_READ", type := (.object "java/lang/String"), accessFlags := 24, slot := 1, constantValue := 0 }, { name := "MAX_ITEM_RANKS", type := .int, accessFlags := 24, slot := 2, constantValue := 0 }, { name := "OPEN", type := .int, accessFlags := 24, slot := 3, constantValue := 0 }, { name := "DIGITS", type := (.object "java/util/regex/Pattern"), accessFlags := 26, slot := 4, constantValue := 0 }, { name := "WHITE_SPACE", type := (.object "java/util/regex/Pattern"), accessFlags := 26, slot := 5, constantValue := 0 }, { name := "itemType", type := (.object "java/lang/String"), accessFlags := 18, slot := 0, constantValue := 0 }, { name := "itemRanks", type := (.object "java/util/List"), accessFlags := 18, slot := 1, constantValue := 0 }, { name := "dimensions", type := (.array .int), accessFlags := 18, slot := 2, constantValue := 0 }]
  methods := #[k2m0]
  instanceTypes := #[(.object "java/lang/String"), (.object "java/util/List"), (.array .int)]
  staticTypes := #[.int, (.object "java/lang/String"), .int, .int, (.object "java/util/regex/Pattern"), (.object "java/util/regex/Pattern")]
  resolved := Array.replicate 314 none
  statics := none }

def pool3 : Array CpInfo := pool [(1, u "java/lang/Cloneable"), (0, .class_ 1), (0, u "java/lang/Object"), (0, .class_ 3)] 3

/-- java/lang/Cloneable -/
def k3 : Class := { plain "java/lang/Cloneable" (some 0) with
  accessFlags := 1537
  interfaces := #[]
  cf := some (fileOf pool3 2 #[] #[] 1537 4 #[] #[])
  fields := #[]
  methods := #[]
  instanceTypes := #[]
  staticTypes := #[]
  resolved := Array.replicate 8 none
  statics := none }

def pool4 : Array CpInfo := pool [(1, u "java/io/Serializable"), (0, .class_ 1), (0, u "java/lang/Object"), (0, .class_ 3)] 3

/-- java/io/Serializable -/
def k4 : Class := { plain "java/io/Serializable" (some 0) with
  accessFlags := 1537
  interfaces := #[]
  cf := some (fileOf pool4 2 #[] #[] 1537 4 #[] #[])
  fields := #[]
  methods := #[]
  instanceTypes := #[]
  staticTypes := #[]
  resolved := Array.replicate 8 none
  statics := none }

/-- the primitive byte -/
def k5 : Class := { plain "byte" none with kind := .primitive 'B', accessFlags := 0x411 }
/-- [B -/
def k6 : Class := { plain "[B" (some 0) with kind := .array 5 .byte, interfaces := #[3, 4], accessFlags := 1041 }

/-- the primitive int -/
def k7 : Class := { plain "int" none with kind := .primitive 'I', accessFlags := 0x411 }
/-- [I -/
def k8 : Class := { plain "[I" (some 0) with kind := .array 7 .int, interfaces := #[3, 4], accessFlags := 1041 }

def heap : Heap := #[]
def classes : Array Class := #[k0, k1, k2, k3, k4, k5, k6, k7, k8]
def interned : List (Array UInt16 × Addr) := []
def slotsUsed : Nat := 0
def theMethod : MethodId := ⟨1, 1⟩
def args0 : Array Value := #[.int 32, .int 7, .int 1, .int 3, .int 1]
def aboutOver (below : List Frame) : State where
  vm := { classes := classes, interned := interned.toArray }
  heap := heap
  slotsUsed := slotsUsed
  threads := #[{ frames := .invoking theMethod args0 :: below }]
def below0 : List Frame := [.native { method := ⟨0, 0⟩, args := #[] }]
def about1 : State := aboutOver below0
def p0 : Program := .bare "" "" ""
def e0 : Env := launch0.env 0 0 0
theorem w_frames : about1.frames = Frame.invoking theMethod args0 :: below0 := rfl
set_option maxRecDepth 65536 in
theorem w_args : argsFit about1.vm theMethod args0 = true := by decide +kernel
set_option maxRecDepth 65536 in
theorem w_heap : heapFits about1 = true := by decide +kernel
set_option maxRecDepth 65536 in
theorem w_runnable : about1.curStatus? = some .runnable := by decide +kernel
set_option maxRecDepth 65536 in
theorem w_alone : about1.alone = true := by decide +kernel
set_option maxRecDepth 65536 in
theorem w_named : about1.methodNamed? x = some theMethod := by decide +kernel
set_option maxRecDepth 65536 in
theorem w_hears : about1.hears theMethod below0 = true := by decide +kernel
set_option maxRecDepth 65536 in
theorem w_ripe : about1.ripe theMethod args0 below0 = true := by decide +kernel
theorem w_running : about1.status = .running := rfl
set_option maxRecDepth 65536 in
theorem w_room : about1.hasRoom e0.platform room_1 = true :=
  launch0.hasRoom_least _ room_1 (by decide +kernel) (by decide +kernel) (by decide +kernel) (by decide +kernel) (by decide +kernel) (by decide +kernel)
theorem allAtoms_all (ts : List Jvm.Cond) (a : Array Jvm.Value) (st : Jvm.State) : (allAtoms ts).before a st = ts.all (fun c => c.before a st) := by
  induction ts with
  | nil => rfl
  | cons c t ih =>
    show (Jvm.Cond.and c (allAtoms t)).before a st = _
    rw [Jvm.Cond.before_and, ih, List.all_cons]
def words1 : List Jvm.Cond := Jvm.Cond.code x code maxLocals ret :: tables_1
/-- a 'code' word, met by the world's own term for the bytes: nothing is compared byte by byte -/
theorem code_word {y : MethodName} {bytes : ByteArray} {mx : Nat} {rt : Option FieldType} {a : Array Value} {s : State} {m : MethodId} {meth : Method} {c : Code} (h1 : s.methodNamed? y = some m) (h2 : s.vm.method? m = some meth) (h3 : meth.code = some c) (h4 : c.code = bytes)
    (h5 : (c.maxLocals == mx && c.exceptionTable.isEmpty && decide (c.maxStack ≤ mostOperands) && decide (meth.sig.returnType = rt) && !meth.locks && decide (parseMethodDescriptor y.desc = some meth.sig)) = true) : (Jvm.Cond.code y bytes mx rt).before a s = true := by
  simp only [Bool.and_eq_true, beq_iff_eq, Bool.not_eq_true', decide_eq_true_eq] at h5
  obtain ⟨⟨⟨⟨⟨g1, g2⟩, g3⟩, g4⟩, g5⟩, g6⟩ := h5
  simp [Cond.before, Cond.holds, Cond.value, h1, h2, h3, h4, g1, g2, g3, g4, g5, g6]
def isCode : Jvm.Cond → Bool
  | .code _ _ _ _ => true
  | _ => false
theorem all_split {L : List Jvm.Cond} {P : Jvm.Cond → Bool} (h1 : L.all (fun c => isCode c || P c) = true) (h2 : ∀ c ∈ L.filter isCode, P c = true) : L.all P = true := by
  refine List.all_eq_true.mpr fun c hc => ?_
  have h := List.all_eq_true.mp h1 c hc
  rcases Bool.eq_false_or_eq_true (isCode c) with hi | hi
  · exact h2 c (List.mem_filter.mpr ⟨hc, hi⟩)
  · simpa [hi] using h
set_option maxRecDepth 65536 in
theorem w_c0 : (Jvm.Cond.code x code maxLocals ret).before args0 about1 = true := code_word (m := ⟨1, 1⟩) (meth := k1m1) (c := k1c1) (by decide +kernel) rfl rfl rfl (by decide +kernel)
set_option maxRecDepth 65536 in
theorem w_c1 : (Jvm.Cond.code ({ cls := "com/example/lather/lather/encoding/ArrayShapeProductPinLaw", name := "in", desc := "(III)Z" } : Jvm.MethodName) method_3_code (3 : Nat) (Option.some Jvm.ClassFile.FieldType.boolean)).before args0 about1 = true := code_word (m := ⟨1, 2⟩) (meth := k1m2) (c := k1c2) (by decide +kernel) rfl rfl rfl (by decide +kernel)
set_option maxRecDepth 65536 in
theorem w_c2 : (Jvm.Cond.code ({ cls := "com/example/lather/lather/encoding/ArrayShape", name := "product", desc := "([III)I" } : Jvm.MethodName) prog_19_method_13_code (5 : Nat) (Option.some Jvm.ClassFile.FieldType.int)).before args0 about1 = true := code_word (m := ⟨2, 0⟩) (meth := k2m0) (c := k2c0) (by decide +kernel) rfl rfl rfl (by decide +kernel)
def codes1 : List Jvm.Cond := [Jvm.Cond.code x code maxLocals ret, Jvm.Cond.code ({ cls := "com/example/lather/lather/encoding/ArrayShapeProductPinLaw", name := "in", desc := "(III)Z" } : Jvm.MethodName) method_3_code (3 : Nat) (Option.some Jvm.ClassFile.FieldType.boolean), Jvm.Cond.code ({ cls := "com/example/lather/lather/encoding/ArrayShape", name := "product", desc := "([III)I" } : Jvm.MethodName) prog_19_method_13_code (5 : Nat) (Option.some Jvm.ClassFile.FieldType.int)]
set_option maxRecDepth 65536 in
theorem codes_eq : words1.filter isCode = codes1 := rfl
theorem w_codes : ∀ c ∈ words1.filter isCode, c.before args0 about1 = true := by
  rw [codes_eq]
  intro c hc
  simp only [codes1, List.mem_cons, List.not_mem_nil, or_false] at hc
  rcases hc with rfl | rfl | rfl
  · exact w_c0
  · exact w_c1
  · exact w_c2
set_option maxRecDepth 65536 in
theorem w_t1 : words1.all (fun c => isCode c || c.before args0 about1) = true := by decide +kernel
theorem w_tables : (allAtoms (Jvm.Cond.code x code maxLocals ret :: tables_1)).before args0 about1 = true := by
  rw [allAtoms_all]
  show words1.all (fun c => c.before args0 about1) = true
  refine all_split ?_ w_codes
  rw [w_t1]
set_option maxRecDepth 65536 in
theorem w_case : (Jvm.Cond.and given_1 narrow_1).before args0 about1 = true := by decide +kernel
theorem w_applies : (headSpec (Jvm.Cond.code x code maxLocals ret :: tables_1) room_1).applies x e0.platform about1 = true :=
  (Spec.applies_iff w_frames).mpr ⟨w_running, w_runnable, w_alone, w_named, w_hears, w_ripe, w_room, w_tables⟩
theorem atStart : AtStart classFile x code maxLocals ret World_1 tables_1 room_1 Calls_1 rest_1 Pre_1 launch0 p0 e0 about1 theMethod args0 below0 :=
  ⟨lists_1, trivial, launch0.admits_env _ _ _, launch0.least_env, fairChoices_fair.cas, fairChoices_fair.clock, w_frames, w_args, w_heap, w_applies, trivial, trivial, w_case⟩
end start1
theorem witness_1 : WitnessClaimed_1 := ⟨start1.p0, start1.e0, start1.about1, start1.theMethod, start1.args0, start1.below0, start1.atStart⟩
end Jvm.Pilot.@@N@@
