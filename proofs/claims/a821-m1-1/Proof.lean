import JvmDerived
import JvmDerived.Pilot.@@N@@Statement
import JvmDerived.Pilot.@@N@@Code
set_option linter.unusedVariables false
set_option linter.unusedSimpArgs false
@@BLOCK:NumsL.lean.txt@@
namespace Jvm.RoadKit
open Sem ClassFile Op Lib Jvm.Stand Jvm.Free Jvm.LawKit
section New
variable {p : Program} {l : Launch} {e : Env} {R : Room} {s : State} {m : MethodId} {args : Array Value} {below : List Frame} {meth : Method} {c : Code} {T : State} {locs : List Loc} {cells slots : Nat}
theorem retI (X : Stand p l e R s m args below meth c T locs cells slots) (hx : p.tables.exec = Jvm.exec) {pc : Nat} {Ls : Array Slot} {z : Int32} {rest : List Value} (hret : meth.sig.returnType = some .int) (hd : decode c.code pc = .ok (.ireturn, 1)) {fs : List Frame}
    (hl : ∀ (f : JFrame) (acts : List Action), f.method = m → f.locked = none → f.entered = [] → (doReturn e (T.setTop f) acts (some (.int z))).1 = T.setFrames fs) : Steps p.tables e below (T.setTop (mkF m pc Ls (.int z :: rest))) (T.setFrames fs) := by
  have hm' : T.vm.method? m = some meth := X.method'
  have hn : narrow .int (.int z) = .int z := rfl
  show Steps p.tables e below (T.setTop { method := m, pc := pc, locals := Ls, stack := _ :: rest, locked := none }) _
  jvm_step X.here [X.here.top, hx, hd, hm', hret, hn]
  first | (intro acts; rw [hl _ acts rfl rfl rfl]) | rw [hl _ _ rfl rfl rfl]
  exact Steps.refl _
/-- from U the run comes to its end, and Q holds there -/
def OwnEnds (p : Program) (e : Env) (below : List Frame) (Q : Outcome → State → Prop) (U : State) : Prop := ∃ s₂ o, Steps p.tables e below U s₂ ∧ s₂.status = .running ∧ Ended s₂ below o ∧ Q o s₂
theorem OwnEnds.pre {Q : Outcome → State → Prop} {U U' : State} (h : ∀ t, Steps p.tables e below U' t → Steps p.tables e below U t) (k : OwnEnds p e below Q U') : OwnEnds p e below Q U := by
  obtain ⟨s₂, o, h1, h2⟩ := k
  exact ⟨s₂, o, h _ h1, h2⟩
def OwnQ (s : State) (Q : Option Value → Heap → List Loc → Prop) (C S : Nat) : Outcome → State → Prop := fun o U' => ∃ v L, o = .returned v ∧ Q v U'.heap L ∧ FrameEnd s o U' L C S
theorem own_endI (X : Stand p l e R s m args below meth c T locs cells slots) (hx : p.tables.exec = Jvm.exec) (hlocks : meth.locks = false) {pc : Nat} {Ls : Array Slot} {z : Int32} {rest : List Value} (hret : meth.sig.returnType = some .int) (hd : decode c.code pc = .ok (.ireturn, 1))
    {Q : Option Value → Heap → List Loc → Prop} {C S : Nat} (hC : cells ≤ C) (hS : slots ≤ S) (hQ : Q (some (.int z)) T.heap locs) : OwnEnds p e below (OwnQ s Q C S) (T.setTop (mkF m pc Ls (.int z :: rest))) := by
  obtain ⟨fs, hr, hrun, hended, hW, hsame⟩ := X.leave (v := some (.int z)) (fun h => by rw [hret] at h; cases h) hlocks
  exact ⟨_, _, retI X hx hret hd hr, hrun, hended, _, _, rfl, hQ, ⟨_, rfl⟩, hW, hsame.mono hC hS⟩
theorem own_endN (X : Stand p l e R s m args below meth c T locs cells slots) (hx : p.tables.exec = Jvm.exec) (hlocks : meth.locks = false) {pc : Nat} {Ls : Array Slot} {z z' : Int32} {t : FieldType} {rest : List Value} (hret : meth.sig.returnType = some t) (ht : t = .boolean ∨ t = .byte ∨ t = .char ∨ t = .short) (hd : decode c.code pc = .ok (.ireturn, 1)) (hz : nar t z = z')
    {Q : Option Value → Heap → List Loc → Prop} {C S : Nat} (hC : cells ≤ C) (hS : slots ≤ S) (hQ : Q (some (.int z')) T.heap locs) : OwnEnds p e below (OwnQ s Q C S) (T.setTop (mkF m pc Ls (.int z :: rest))) := by
  subst hz
  obtain ⟨fs, hr, hrun, hended, hW, hsame⟩ := X.leave (v := some (.int (nar t z))) (fun h => by rw [hret] at h; cases h) hlocks
  exact ⟨_, _, retN X hx hret ht hd hr, hrun, hended, _, _, rfl, hQ, ⟨_, rfl⟩, hW, hsame.mono hC hS⟩
theorem own_endJ (X : Stand p l e R s m args below meth c T locs cells slots) (hx : p.tables.exec = Jvm.exec) (hlocks : meth.locks = false) {pc : Nat} {Ls : Array Slot} {z : Int64} (hret : meth.sig.returnType = some .long) (hd : decode c.code pc = .ok (.lreturn, 1))
    {Q : Option Value → Heap → List Loc → Prop} {C S : Nat} (hC : cells ≤ C) (hS : slots ≤ S) (hQ : Q (some (.long z)) T.heap locs) : OwnEnds p e below (OwnQ s Q C S) (T.setTop (mkF m pc Ls [.long z])) := by
  obtain ⟨fs, hr, hrun, hended, hW, hsame⟩ := X.leave (v := some (.long z)) (fun h => by rw [hret] at h; cases h) hlocks
  exact ⟨_, _, X.lreturnOut hx hret hd hr, hrun, hended, _, _, rfl, hQ, ⟨_, rfl⟩, hW, hsame.mono hC hS⟩
theorem own_endV (X : Stand p l e R s m args below meth c T locs cells slots) (hx : p.tables.exec = Jvm.exec) (hlocks : meth.locks = false) {pc : Nat} {Ls : Array Slot} (hret : meth.sig.returnType = none) (hd : decode c.code pc = .ok (.return_, 1))
    {Q : Option Value → Heap → List Loc → Prop} {C S : Nat} (hC : cells ≤ C) (hS : slots ≤ S) (hQ : Q none T.heap locs) : OwnEnds p e below (OwnQ s Q C S) (T.setTop (mkF m pc Ls [])) := by
  obtain ⟨fs, hr, hrun, hended, hW, hsame⟩ := X.leave (v := none) (fun _ => rfl) hlocks
  exact ⟨_, _, X.returnOut hx hret hd hr, hrun, hended, _, _, rfl, hQ, ⟨_, rfl⟩, hW, hsame.mono hC hS⟩
theorem own_endR (X : Stand p l e R s m args below meth c T locs cells slots) (hx : p.tables.exec = Jvm.exec) (hlocks : meth.locks = false) {pc : Nat} {Ls : Array Slot} {w : Value} {t : FieldType} {rest : List Value} (hret : meth.sig.returnType = some t) (ht : t.isReference = true) (hw : w.isRef = true) (hd : decode c.code pc = .ok (.areturn, 1))
    {Q : Option Value → Heap → List Loc → Prop} {C S : Nat} (hC : cells ≤ C) (hS : slots ≤ S) (hQ : Q (some w) T.heap locs) : OwnEnds p e below (OwnQ s Q C S) (T.setTop (mkF m pc Ls (w :: rest))) := by
  obtain ⟨fs, hr, hrun, hended, hW, hsame⟩ := X.leave (v := some w) (fun h => by rw [hret] at h; cases h) hlocks
  have hn : narrow t w = w := by cases t <;> first | rfl | (cases ht)
  exact ⟨_, _, retOut X hx hret hn (Or.inr (Or.inr (Or.inr (Or.inr ⟨rfl, ht, hw⟩)))) hd hr, hrun, hended, _, _, rfl, hQ, ⟨_, rfl⟩, hW, hsame.mono hC hS⟩
theorem own_getI (l : List Int32) (i : Nat) : (l.map Value.int).getD i (.int 0) = .int (l.getD i 0) := by
  simp only [List.getD_eq_getElem?_getD, List.getElem?_map]
  cases l[i]? <;> rfl
theorem own_getJ (l : List Int64) (i : Nat) : (l.map Value.long).getD i (.long 0) = .long (l.getD i 0) := by
  simp only [List.getD_eq_getElem?_getD, List.getElem?_map]
  cases l[i]? <;> rfl
theorem own_nin0 {a : Addr} : a ∉ ([] : List Addr) := List.not_mem_nil
theorem own_nin1 {a b : Addr} (h : a ≠ b) : a ∉ [b] := by simpa using h
theorem own_nin2 {a b c : Addr} (h : a ≠ b) (h' : a ≠ c) : a ∉ [b, c] := by simpa using ⟨h, h'⟩
theorem own_staK0 {Z : State} {h h' : Heap} {C n d : String} {v : Value} (F : Sta Z h C n d v) (K : Keep h h' []) : Sta Z h' C n d v := by
  obtain ⟨cf, i, k, f, st, cell, h1, h2, h3, h4, h5, h6, h7⟩ := F
  exact ⟨cf, i, k, f, st, cell, h1, h2, h3, h4, K.2.1 st cell h5 own_nin0, h6, h7⟩
theorem own_staK1 {Z : State} {h h' : Heap} {C n d D : String} {v : Value} {x : Addr} (F : Sta Z h C n d v) (K : Keep h h' [x]) (E : Exa Z h x D) : Sta Z h' C n d v := by
  obtain ⟨cf, i, k, f, st, cell, h1, h2, h3, h4, h5, h6, h7⟩ := F
  obtain ⟨cl, kk, e1, e2, e3, e4, e5⟩ := E
  refine ⟨cf, i, k, f, st, cell, h1, h2, h3, h4, K.2.1 st cell h5 (own_nin1 fun q => ?_), h6, h7⟩
  subst q
  cases h5.symm.trans e1
  rw [h6] at e4
  cases e4
theorem own_nsroot {Z : State} {a0 : Array Value} {O K : String} {n : Nat} (w : (Cond.noSuperclass O).before a0 Z = true) (wk : (Cond.instantiable K n).before a0 Z = true) (hn : O ≠ K) : NS Z O K := by
  obtain ⟨c, k, h1, h2, h3, -, -⟩ := Cond.noSuperclass_spec w
  obtain ⟨t, kt, g1, -⟩ := Cond.instantiable_spec wk
  have ne := ids_ne h1 g1 hn
  refine ⟨c, t, h1, g1, fun fuel => ?_⟩
  cases fuel with
  | zero => rfl
  | succ f => simp [Vm.isSubclassAux, ne, h2, h3]
theorem own_nsno {Z : State} {a0 : Array Value} {C S K : String} {n : Nat} (w : (Cond.superclass C S).before a0 Z = true) (wk : (Cond.instantiable K n).before a0 Z = true) (ns : NS Z C K) (hn : C ≠ K) : ∃ c t, Z.vm.findClass C = some c ∧ Z.vm.findClass K = some t ∧ Z.vm.assignable c t = false := by
  obtain ⟨c, t, h0, g0, n3⟩ := ns
  obtain ⟨p, k, kp, h1, h2, h3, h4, h5, -, h7⟩ := Cond.superclass_spec h0 w
  obtain ⟨t', kt, g1, g2, g3, g4, -⟩ := Cond.instantiable_spec wk
  cases g0.symm.trans g1
  have g7 : kt.isInterface = false := by simp only [Bool.or_eq_false_iff] at g4; exact g4.1
  have ne := ids_ne h0 g0 hn
  refine ⟨c, t, h0, g0, ?_⟩
  show Z.vm.assignableAux (255 + 1) c t = false
  simp [Vm.assignableAux, ne, h2, g2, h5, g3, g7, Vm.isSubclass, n3]
end New
end Jvm.RoadKit
namespace Jvm.Pilot.@@N@@
open Jvm Jvm.ClassFile Sem Op Lib Jvm.Free Jvm.Stand Jvm.LawKit Jvm.RoadKit Bundle Jvm.Pilot.@@N@@.Jvm.D
theorem d1_0 : decode prog_161_method_2_code 0 = .ok (.iload_n 0, 1) := by decide +kernel
theorem d1_1 : decode prog_161_method_2_code 1 = .ok (.bipush 65, 2) := by decide +kernel
theorem d1_3 : decode prog_161_method_2_code 3 = .ok (.if_icmp .lt 9, 3) := by decide +kernel
theorem d1_6 : decode prog_161_method_2_code 6 = .ok (.iload_n 0, 1) := by decide +kernel
theorem d1_7 : decode prog_161_method_2_code 7 = .ok (.bipush 90, 2) := by decide +kernel
theorem d1_9 : decode prog_161_method_2_code 9 = .ok (.if_icmp .le 182, 3) := by decide +kernel
theorem d1_12 : decode prog_161_method_2_code 12 = .ok (.iload_n 0, 1) := by decide +kernel
theorem d1_13 : decode prog_161_method_2_code 13 = .ok (.bipush 95, 2) := by decide +kernel
theorem d1_15 : decode prog_161_method_2_code 15 = .ok (.if_icmp .eq 176, 3) := by decide +kernel
theorem d1_18 : decode prog_161_method_2_code 18 = .ok (.iload_n 0, 1) := by decide +kernel
theorem d1_19 : decode prog_161_method_2_code 19 = .ok (.bipush 97, 2) := by decide +kernel
theorem d1_21 : decode prog_161_method_2_code 21 = .ok (.if_icmp .lt 9, 3) := by decide +kernel
theorem d1_24 : decode prog_161_method_2_code 24 = .ok (.iload_n 0, 1) := by decide +kernel
theorem d1_25 : decode prog_161_method_2_code 25 = .ok (.bipush 122, 2) := by decide +kernel
theorem d1_27 : decode prog_161_method_2_code 27 = .ok (.if_icmp .le 164, 3) := by decide +kernel
theorem d1_30 : decode prog_161_method_2_code 30 = .ok (.iload_n 0, 1) := by decide +kernel
theorem d1_31 : decode prog_161_method_2_code 31 = .ok (.sipush 192, 3) := by decide +kernel
theorem d1_34 : decode prog_161_method_2_code 34 = .ok (.if_icmp .lt 10, 3) := by decide +kernel
theorem d1_37 : decode prog_161_method_2_code 37 = .ok (.iload_n 0, 1) := by decide +kernel
theorem d1_38 : decode prog_161_method_2_code 38 = .ok (.sipush 214, 3) := by decide +kernel
theorem d1_41 : decode prog_161_method_2_code 41 = .ok (.if_icmp .le 150, 3) := by decide +kernel
theorem d1_44 : decode prog_161_method_2_code 44 = .ok (.iload_n 0, 1) := by decide +kernel
theorem d1_45 : decode prog_161_method_2_code 45 = .ok (.sipush 216, 3) := by decide +kernel
theorem d1_48 : decode prog_161_method_2_code 48 = .ok (.if_icmp .lt 10, 3) := by decide +kernel
theorem d1_51 : decode prog_161_method_2_code 51 = .ok (.iload_n 0, 1) := by decide +kernel
theorem d1_52 : decode prog_161_method_2_code 52 = .ok (.sipush 246, 3) := by decide +kernel
theorem d1_55 : decode prog_161_method_2_code 55 = .ok (.if_icmp .le 136, 3) := by decide +kernel
theorem d1_58 : decode prog_161_method_2_code 58 = .ok (.iload_n 0, 1) := by decide +kernel
theorem d1_59 : decode prog_161_method_2_code 59 = .ok (.sipush 248, 3) := by decide +kernel
theorem d1_62 : decode prog_161_method_2_code 62 = .ok (.if_icmp .lt 10, 3) := by decide +kernel
theorem d1_65 : decode prog_161_method_2_code 65 = .ok (.iload_n 0, 1) := by decide +kernel
theorem d1_66 : decode prog_161_method_2_code 66 = .ok (.sipush 767, 3) := by decide +kernel
theorem d1_69 : decode prog_161_method_2_code 69 = .ok (.if_icmp .le 122, 3) := by decide +kernel
theorem d1_72 : decode prog_161_method_2_code 72 = .ok (.iload_n 0, 1) := by decide +kernel
theorem d1_73 : decode prog_161_method_2_code 73 = .ok (.sipush 880, 3) := by decide +kernel
theorem d1_76 : decode prog_161_method_2_code 76 = .ok (.if_icmp .lt 10, 3) := by decide +kernel
theorem d1_79 : decode prog_161_method_2_code 79 = .ok (.iload_n 0, 1) := by decide +kernel
theorem d1_80 : decode prog_161_method_2_code 80 = .ok (.sipush 893, 3) := by decide +kernel
theorem d1_83 : decode prog_161_method_2_code 83 = .ok (.if_icmp .le 108, 3) := by decide +kernel
theorem d1_86 : decode prog_161_method_2_code 86 = .ok (.iload_n 0, 1) := by decide +kernel
theorem d1_87 : decode prog_161_method_2_code 87 = .ok (.sipush 895, 3) := by decide +kernel
theorem d1_90 : decode prog_161_method_2_code 90 = .ok (.if_icmp .lt 10, 3) := by decide +kernel
theorem d1_93 : decode prog_161_method_2_code 93 = .ok (.iload_n 0, 1) := by decide +kernel
theorem d1_94 : decode prog_161_method_2_code 94 = .ok (.sipush 8191, 3) := by decide +kernel
theorem d1_97 : decode prog_161_method_2_code 97 = .ok (.if_icmp .le 94, 3) := by decide +kernel
theorem d1_100 : decode prog_161_method_2_code 100 = .ok (.iload_n 0, 1) := by decide +kernel
theorem d1_101 : decode prog_161_method_2_code 101 = .ok (.sipush 8204, 3) := by decide +kernel
theorem d1_104 : decode prog_161_method_2_code 104 = .ok (.if_icmp .lt 10, 3) := by decide +kernel
theorem d1_107 : decode prog_161_method_2_code 107 = .ok (.iload_n 0, 1) := by decide +kernel
theorem d1_108 : decode prog_161_method_2_code 108 = .ok (.sipush 8205, 3) := by decide +kernel
theorem d1_111 : decode prog_161_method_2_code 111 = .ok (.if_icmp .le 80, 3) := by decide +kernel
theorem d1_114 : decode prog_161_method_2_code 114 = .ok (.iload_n 0, 1) := by decide +kernel
theorem d1_115 : decode prog_161_method_2_code 115 = .ok (.sipush 8304, 3) := by decide +kernel
theorem d1_118 : decode prog_161_method_2_code 118 = .ok (.if_icmp .lt 10, 3) := by decide +kernel
theorem d1_121 : decode prog_161_method_2_code 121 = .ok (.iload_n 0, 1) := by decide +kernel
theorem d1_122 : decode prog_161_method_2_code 122 = .ok (.sipush 8591, 3) := by decide +kernel
theorem d1_125 : decode prog_161_method_2_code 125 = .ok (.if_icmp .le 66, 3) := by decide +kernel
theorem d1_128 : decode prog_161_method_2_code 128 = .ok (.iload_n 0, 1) := by decide +kernel
theorem d1_129 : decode prog_161_method_2_code 129 = .ok (.sipush 11264, 3) := by decide +kernel
theorem d1_132 : decode prog_161_method_2_code 132 = .ok (.if_icmp .lt 10, 3) := by decide +kernel
theorem d1_135 : decode prog_161_method_2_code 135 = .ok (.iload_n 0, 1) := by decide +kernel
theorem d1_136 : decode prog_161_method_2_code 136 = .ok (.sipush 12271, 3) := by decide +kernel
theorem d1_139 : decode prog_161_method_2_code 139 = .ok (.if_icmp .le 52, 3) := by decide +kernel
theorem d1_142 : decode prog_161_method_2_code 142 = .ok (.iload_n 0, 1) := by decide +kernel
theorem d1_143 : decode prog_161_method_2_code 143 = .ok (.sipush 12289, 3) := by decide +kernel
theorem d1_146 : decode prog_161_method_2_code 146 = .ok (.if_icmp .lt 9, 3) := by decide +kernel
theorem d1_149 : decode prog_161_method_2_code 149 = .ok (.iload_n 0, 1) := by decide +kernel
theorem d1_150 : decode prog_161_method_2_code 150 = .ok (.ldc 7, 2) := by decide +kernel
theorem d1_152 : decode prog_161_method_2_code 152 = .ok (.if_icmp .le 39, 3) := by decide +kernel
theorem d1_155 : decode prog_161_method_2_code 155 = .ok (.iload_n 0, 1) := by decide +kernel
theorem d1_156 : decode prog_161_method_2_code 156 = .ok (.ldc 8, 2) := by decide +kernel
theorem d1_158 : decode prog_161_method_2_code 158 = .ok (.if_icmp .lt 9, 3) := by decide +kernel
theorem d1_161 : decode prog_161_method_2_code 161 = .ok (.iload_n 0, 1) := by decide +kernel
theorem d1_162 : decode prog_161_method_2_code 162 = .ok (.ldc 9, 2) := by decide +kernel
theorem d1_164 : decode prog_161_method_2_code 164 = .ok (.if_icmp .le 27, 3) := by decide +kernel
theorem d1_167 : decode prog_161_method_2_code 167 = .ok (.iload_n 0, 1) := by decide +kernel
theorem d1_168 : decode prog_161_method_2_code 168 = .ok (.ldc 10, 2) := by decide +kernel
theorem d1_170 : decode prog_161_method_2_code 170 = .ok (.if_icmp .lt 9, 3) := by decide +kernel
theorem d1_173 : decode prog_161_method_2_code 173 = .ok (.iload_n 0, 1) := by decide +kernel
theorem d1_174 : decode prog_161_method_2_code 174 = .ok (.ldc 11, 2) := by decide +kernel
theorem d1_176 : decode prog_161_method_2_code 176 = .ok (.if_icmp .le 15, 3) := by decide +kernel
theorem d1_179 : decode prog_161_method_2_code 179 = .ok (.iload_n 0, 1) := by decide +kernel
theorem d1_180 : decode prog_161_method_2_code 180 = .ok (.ldc 12, 2) := by decide +kernel
theorem d1_182 : decode prog_161_method_2_code 182 = .ok (.if_icmp .lt 13, 3) := by decide +kernel
theorem d1_185 : decode prog_161_method_2_code 185 = .ok (.iload_n 0, 1) := by decide +kernel
theorem d1_186 : decode prog_161_method_2_code 186 = .ok (.ldc 13, 2) := by decide +kernel
theorem d1_188 : decode prog_161_method_2_code 188 = .ok (.if_icmp .gt 7, 3) := by decide +kernel
theorem d1_191 : decode prog_161_method_2_code 191 = .ok (.iconst 1, 1) := by decide +kernel
theorem d1_192 : decode prog_161_method_2_code 192 = .ok (.goto 4, 3) := by decide +kernel
theorem d1_195 : decode prog_161_method_2_code 195 = .ok (.iconst 0, 1) := by decide +kernel
theorem d1_196 : decode prog_161_method_2_code 196 = .ok (.ireturn, 1) := by decide +kernel
theorem ef_1 (m : MethodId) (p0 : Int32) : entryFrame m #[(.int p0)] 1 = mkF m 0 #[.val (.int p0)] [] := by first | (simp [entryFrame, mkF, argsToLocals, Value.category]; done) | rfl
theorem pn_0 : plainName "com/example/lather/lather/xml/XmlNames" = true := by first | (simp [plainName, overriddenIn]; done) | decide +kernel
def f1_179 (i0 : Int32) : Int32 := (if i0 < (65536 : Int32) then (0 : Int32) else (if (983039 : Int32) < i0 then (0 : Int32) else (1 : Int32)))
def f1_167 (i0 : Int32) : Int32 := (if i0 < (65008 : Int32) then (f1_179 i0) else (if (65533 : Int32) < i0 then (f1_179 i0) else (1 : Int32)))
def f1_155 (i0 : Int32) : Int32 := (if i0 < (63744 : Int32) then (f1_167 i0) else (if (64975 : Int32) < i0 then (f1_167 i0) else (1 : Int32)))
def f1_142 (i0 : Int32) : Int32 := (if i0 < (12289 : Int32) then (f1_155 i0) else (if (55295 : Int32) < i0 then (f1_155 i0) else (1 : Int32)))
def f1_128 (i0 : Int32) : Int32 := (if i0 < (11264 : Int32) then (f1_142 i0) else (if (12271 : Int32) < i0 then (f1_142 i0) else (1 : Int32)))
def f1_114 (i0 : Int32) : Int32 := (if i0 < (8304 : Int32) then (f1_128 i0) else (if (8591 : Int32) < i0 then (f1_128 i0) else (1 : Int32)))
def f1_100 (i0 : Int32) : Int32 := (if i0 < (8204 : Int32) then (f1_114 i0) else (if (8205 : Int32) < i0 then (f1_114 i0) else (1 : Int32)))
def f1_86 (i0 : Int32) : Int32 := (if i0 < (895 : Int32) then (f1_100 i0) else (if (8191 : Int32) < i0 then (f1_100 i0) else (1 : Int32)))
def f1_72 (i0 : Int32) : Int32 := (if i0 < (880 : Int32) then (f1_86 i0) else (if (893 : Int32) < i0 then (f1_86 i0) else (1 : Int32)))
def f1_58 (i0 : Int32) : Int32 := (if i0 < (248 : Int32) then (f1_72 i0) else (if (767 : Int32) < i0 then (f1_72 i0) else (1 : Int32)))
def f1_44 (i0 : Int32) : Int32 := (if i0 < (216 : Int32) then (f1_58 i0) else (if (246 : Int32) < i0 then (f1_58 i0) else (1 : Int32)))
def f1_30 (i0 : Int32) : Int32 := (if i0 < (192 : Int32) then (f1_44 i0) else (if (214 : Int32) < i0 then (f1_44 i0) else (1 : Int32)))
def f1_12 (i0 : Int32) : Int32 := (if i0 = (95 : Int32) then (1 : Int32) else (if i0 < (97 : Int32) then (f1_30 i0) else (if (122 : Int32) < i0 then (f1_30 i0) else (1 : Int32))))
def f1_0 (p0 : Int32) : Int32 := (if p0 < (65 : Int32) then (f1_12 p0) else (if (90 : Int32) < p0 then (f1_12 p0) else (1 : Int32)))
def Q1 (Z : State) (p0 : Int32) (h0 : Heap) (n0 : Nat) (v : Option Value) (h : Heap) (L : List Loc) : Prop := v = some (.int (f1_0 p0)) ∧ Fr n0 L ∧ h = h0
set_option maxRecDepth 65536 in
set_option maxHeartbeats 40000000 in
theorem rm1 (l : Launch) (Z : State) (aZ : Array Value) (hw : ∀ d ∈ tables_1, d.before aZ Z = true) (ws : List Jvm.Cond) (p0 : Int32) (h0 : Heap) (n0 : Nat) (Z0 : n0 ≤ h0.size) :
    MetFree l (⟨"com/example/lather/lather/xml/XmlNames", "isNameStartChar", "(I)Z"⟩ : MethodName) (head1 (Jvm.Cond.code (⟨"com/example/lather/lather/xml/XmlNames", "isNameStartChar", "(I)Z"⟩ : MethodName) prog_161_method_2_code 1 (some .boolean) :: ws) ({ frames := 0, cells := 0, slots := 0, locals := 0 } : Room)) (fun a U => a = #[(.int p0)] ∧ Z.Warmed39 U.vm ∧ U.heap = h0) (fun _ _ _ _ _ => True) (fun _ U o U' => ∃ v L, o = .returned v ∧ Q1 Z p0 h0 n0 v U'.heap L ∧ FrameEnd U o U' L 0 0) := by
  refine MetFree.of_bodySF (plainFor_of_name pn_0) hisR ?_
  intro p e s m args below meth c s₁ Bd hml0 hP hK
  obtain ⟨rfl, hZ, hh⟩ := hP
  have hx := Bd.exec
  have hby := Bd.bytes
  have hml : c.maxLocals = 1 := hml0
  have hown : s.vm.findClass "com/example/lather/lather/xml/XmlNames" = some m.cls := findClass_of_methodNamed Bd.named
  have hnm := (name_of_methodNamed Bd.named Bd.method).1
  have hlk := BodyLoose.notSynchronized Bd
  have X0 : Stand p l e ({ frames := 0, cells := 0, slots := 0, locals := 0 } : Room) s m #[(.int p0)] below meth c s₁ [] 0 0 := Stand.of_body Bd
  have e0 : s₁.heap = h0 := by rw [← hh, Bd.state]; rfl
  have N0 := Fr.nil n0
  have hk0 : 0 ≤ 0 := Nat.zero_le _
  have hn0 : 0 ≤ 0 := Nat.zero_le _
  show OwnEnds p e below (OwnQ s (Q1 Z p0 h0 n0) 0 0) (s₁.setTop (entryFrame m #[(.int p0)] 1))
  refine .pre (fun t k => castTop (ef_1 m p0) k) ?_
  have B179 : ∀ (T : State) (L : List Loc) (k n : Nat) (X : Stand p l e ({ frames := 0, cells := 0, slots := 0, locals := 0 } : Room) s m #[(.int p0)] below meth c T L k n) (eT : T.heap = h0) (N : Fr n0 L) (hk : k ≤ 0) (hn : n ≤ 0) (i0 : Int32), f1_179 i0 = f1_0 p0 → OwnEnds p e below (OwnQ s (Q1 Z p0 h0 n0) 0 0) (T.setTop (mkF m 179 #[.val (.int i0)] [])) := by
    intro T L k n X eT N hk hn i0 hF
    change (if i0 < (65536 : Int32) then (0 : Int32) else (if (983039 : Int32) < i0 then (0 : Int32) else (1 : Int32))) = _ at hF
    show OwnEnds p e below _ (T.setTop (mkF m 179 #[.val (.int i0)] []))
    refine .pre (fun _ k => XS.iloadN X.here hx rfl (hb hby d1_179) rfl k) ?_
    show OwnEnds p e below _ (T.setTop (mkF m 180 #[.val (.int i0)] [(.int i0)]))
    refine .pre (fun _ k => X.ldcInt hx hown (mvT hZ (hw _ (List.mem_of_getElem? (i := 16) rfl))) (g := (mkF m 180 #[.val (.int i0)] [(.int i0)])) rfl (hb hby d1_180) _ k) ?_
    show OwnEnds p e below _ (T.setTop (mkF m 182 #[.val (.int i0)] [(.int (65536 : Int32)), (.int i0)]))
    by_cases hc182 : i0 < (65536 : Int32)
    · rw [if_pos hc182] at hF
      refine .pre (fun _ k => XS.icmpYes X.here hx rfl (pc0 := 182) (pc' := 195) rfl (hb hby d1_182) rfl (tlt hc182).1 (by decide) (by decide) k) ?_
      show OwnEnds p e below _ (T.setTop (mkF m 195 #[.val (.int i0)] []))
      refine .pre (fun _ k => XS.iconst X.here hx rfl (hb hby d1_195) k) ?_
      show OwnEnds p e below _ (T.setTop (mkF m 196 #[.val (.int i0)] [(.int (0 : Int32))]))
      exact own_endN X hx hlk (t := .boolean) Bd.returns (by simp) (hb hby d1_196) rfl hk hn ⟨congrArg (fun z => some (Value.int z)) hF, N, eT⟩
    · rw [if_neg hc182] at hF
      refine .pre (fun _ k => XS.icmpNo X.here hx rfl (hb hby d1_182) rfl (flt hc182).1 k) ?_
      show OwnEnds p e below _ (T.setTop (mkF m 185 #[.val (.int i0)] []))
      refine .pre (fun _ k => XS.iloadN X.here hx rfl (hb hby d1_185) rfl k) ?_
      show OwnEnds p e below _ (T.setTop (mkF m 186 #[.val (.int i0)] [(.int i0)]))
      refine .pre (fun _ k => X.ldcInt hx hown (mvT hZ (hw _ (List.mem_of_getElem? (i := 24) rfl))) (g := (mkF m 186 #[.val (.int i0)] [(.int i0)])) rfl (hb hby d1_186) _ k) ?_
      show OwnEnds p e below _ (T.setTop (mkF m 188 #[.val (.int i0)] [(.int (983039 : Int32)), (.int i0)]))
      by_cases hc188 : (983039 : Int32) < i0
      · rw [if_pos hc188] at hF
        refine .pre (fun _ k => XS.icmpYes X.here hx rfl (pc0 := 188) (pc' := 195) rfl (hb hby d1_188) rfl (tlt hc188).2.2.1 (by decide) (by decide) k) ?_
        show OwnEnds p e below _ (T.setTop (mkF m 195 #[.val (.int i0)] []))
        refine .pre (fun _ k => XS.iconst X.here hx rfl (hb hby d1_195) k) ?_
        show OwnEnds p e below _ (T.setTop (mkF m 196 #[.val (.int i0)] [(.int (0 : Int32))]))
        exact own_endN X hx hlk (t := .boolean) Bd.returns (by simp) (hb hby d1_196) rfl hk hn ⟨congrArg (fun z => some (Value.int z)) hF, N, eT⟩
      · rw [if_neg hc188] at hF
        refine .pre (fun _ k => XS.icmpNo X.here hx rfl (hb hby d1_188) rfl (flt hc188).2.2.1 k) ?_
        show OwnEnds p e below _ (T.setTop (mkF m 191 #[.val (.int i0)] []))
        refine .pre (fun _ k => XS.iconst X.here hx rfl (hb hby d1_191) k) ?_
        show OwnEnds p e below _ (T.setTop (mkF m 192 #[.val (.int i0)] [(.int (1 : Int32))]))
        refine .pre (fun _ k => XS.goto X.here hx rfl (pc0 := 192) (pc' := 196) rfl (hb hby d1_192) (by decide) (by decide) k) ?_
        show OwnEnds p e below _ (T.setTop (mkF m 196 #[.val (.int i0)] [(.int (1 : Int32))]))
        exact own_endN X hx hlk (t := .boolean) Bd.returns (by simp) (hb hby d1_196) rfl hk hn ⟨congrArg (fun z => some (Value.int z)) hF, N, eT⟩
  have B167 : ∀ (T : State) (L : List Loc) (k n : Nat) (X : Stand p l e ({ frames := 0, cells := 0, slots := 0, locals := 0 } : Room) s m #[(.int p0)] below meth c T L k n) (eT : T.heap = h0) (N : Fr n0 L) (hk : k ≤ 0) (hn : n ≤ 0) (i0 : Int32), f1_167 i0 = f1_0 p0 → OwnEnds p e below (OwnQ s (Q1 Z p0 h0 n0) 0 0) (T.setTop (mkF m 167 #[.val (.int i0)] [])) := by
    intro T L k n X eT N hk hn i0 hF
    change (if i0 < (65008 : Int32) then (f1_179 i0) else (if (65533 : Int32) < i0 then (f1_179 i0) else (1 : Int32))) = _ at hF
    show OwnEnds p e below _ (T.setTop (mkF m 167 #[.val (.int i0)] []))
    refine .pre (fun _ k => XS.iloadN X.here hx rfl (hb hby d1_167) rfl k) ?_
    show OwnEnds p e below _ (T.setTop (mkF m 168 #[.val (.int i0)] [(.int i0)]))
    refine .pre (fun _ k => X.ldcInt hx hown (mvT hZ (hw _ (List.mem_of_getElem? (i := 15) rfl))) (g := (mkF m 168 #[.val (.int i0)] [(.int i0)])) rfl (hb hby d1_168) _ k) ?_
    show OwnEnds p e below _ (T.setTop (mkF m 170 #[.val (.int i0)] [(.int (65008 : Int32)), (.int i0)]))
    by_cases hc170 : i0 < (65008 : Int32)
    · rw [if_pos hc170] at hF
      refine .pre (fun _ k => XS.icmpYes X.here hx rfl (pc0 := 170) (pc' := 179) rfl (hb hby d1_170) rfl (tlt hc170).1 (by decide) (by decide) k) ?_
      exact B179 T _ _ _ X eT N hk hn i0 hF
    · rw [if_neg hc170] at hF
      refine .pre (fun _ k => XS.icmpNo X.here hx rfl (hb hby d1_170) rfl (flt hc170).1 k) ?_
      show OwnEnds p e below _ (T.setTop (mkF m 173 #[.val (.int i0)] []))
      refine .pre (fun _ k => XS.iloadN X.here hx rfl (hb hby d1_173) rfl k) ?_
      show OwnEnds p e below _ (T.setTop (mkF m 174 #[.val (.int i0)] [(.int i0)]))
      refine .pre (fun _ k => X.ldcInt hx hown (mvT hZ (hw _ (List.mem_of_getElem? (i := 23) rfl))) (g := (mkF m 174 #[.val (.int i0)] [(.int i0)])) rfl (hb hby d1_174) _ k) ?_
      show OwnEnds p e below _ (T.setTop (mkF m 176 #[.val (.int i0)] [(.int (65533 : Int32)), (.int i0)]))
      by_cases hc176 : (65533 : Int32) < i0
      · rw [if_pos hc176] at hF
        refine .pre (fun _ k => XS.icmpNo X.here hx rfl (hb hby d1_176) rfl (tlt hc176).2.2.2 k) ?_
        exact B179 T _ _ _ X eT N hk hn i0 hF
      · rw [if_neg hc176] at hF
        refine .pre (fun _ k => XS.icmpYes X.here hx rfl (pc0 := 176) (pc' := 191) rfl (hb hby d1_176) rfl (flt hc176).2.2.2 (by decide) (by decide) k) ?_
        show OwnEnds p e below _ (T.setTop (mkF m 191 #[.val (.int i0)] []))
        refine .pre (fun _ k => XS.iconst X.here hx rfl (hb hby d1_191) k) ?_
        show OwnEnds p e below _ (T.setTop (mkF m 192 #[.val (.int i0)] [(.int (1 : Int32))]))
        refine .pre (fun _ k => XS.goto X.here hx rfl (pc0 := 192) (pc' := 196) rfl (hb hby d1_192) (by decide) (by decide) k) ?_
        show OwnEnds p e below _ (T.setTop (mkF m 196 #[.val (.int i0)] [(.int (1 : Int32))]))
        exact own_endN X hx hlk (t := .boolean) Bd.returns (by simp) (hb hby d1_196) rfl hk hn ⟨congrArg (fun z => some (Value.int z)) hF, N, eT⟩
  have B155 : ∀ (T : State) (L : List Loc) (k n : Nat) (X : Stand p l e ({ frames := 0, cells := 0, slots := 0, locals := 0 } : Room) s m #[(.int p0)] below meth c T L k n) (eT : T.heap = h0) (N : Fr n0 L) (hk : k ≤ 0) (hn : n ≤ 0) (i0 : Int32), f1_155 i0 = f1_0 p0 → OwnEnds p e below (OwnQ s (Q1 Z p0 h0 n0) 0 0) (T.setTop (mkF m 155 #[.val (.int i0)] [])) := by
    intro T L k n X eT N hk hn i0 hF
    change (if i0 < (63744 : Int32) then (f1_167 i0) else (if (64975 : Int32) < i0 then (f1_167 i0) else (1 : Int32))) = _ at hF
    show OwnEnds p e below _ (T.setTop (mkF m 155 #[.val (.int i0)] []))
    refine .pre (fun _ k => XS.iloadN X.here hx rfl (hb hby d1_155) rfl k) ?_
    show OwnEnds p e below _ (T.setTop (mkF m 156 #[.val (.int i0)] [(.int i0)]))
    refine .pre (fun _ k => X.ldcInt hx hown (mvT hZ (hw _ (List.mem_of_getElem? (i := 14) rfl))) (g := (mkF m 156 #[.val (.int i0)] [(.int i0)])) rfl (hb hby d1_156) _ k) ?_
    show OwnEnds p e below _ (T.setTop (mkF m 158 #[.val (.int i0)] [(.int (63744 : Int32)), (.int i0)]))
    by_cases hc158 : i0 < (63744 : Int32)
    · rw [if_pos hc158] at hF
      refine .pre (fun _ k => XS.icmpYes X.here hx rfl (pc0 := 158) (pc' := 167) rfl (hb hby d1_158) rfl (tlt hc158).1 (by decide) (by decide) k) ?_
      exact B167 T _ _ _ X eT N hk hn i0 hF
    · rw [if_neg hc158] at hF
      refine .pre (fun _ k => XS.icmpNo X.here hx rfl (hb hby d1_158) rfl (flt hc158).1 k) ?_
      show OwnEnds p e below _ (T.setTop (mkF m 161 #[.val (.int i0)] []))
      refine .pre (fun _ k => XS.iloadN X.here hx rfl (hb hby d1_161) rfl k) ?_
      show OwnEnds p e below _ (T.setTop (mkF m 162 #[.val (.int i0)] [(.int i0)]))
      refine .pre (fun _ k => X.ldcInt hx hown (mvT hZ (hw _ (List.mem_of_getElem? (i := 22) rfl))) (g := (mkF m 162 #[.val (.int i0)] [(.int i0)])) rfl (hb hby d1_162) _ k) ?_
      show OwnEnds p e below _ (T.setTop (mkF m 164 #[.val (.int i0)] [(.int (64975 : Int32)), (.int i0)]))
      by_cases hc164 : (64975 : Int32) < i0
      · rw [if_pos hc164] at hF
        refine .pre (fun _ k => XS.icmpNo X.here hx rfl (hb hby d1_164) rfl (tlt hc164).2.2.2 k) ?_
        exact B167 T _ _ _ X eT N hk hn i0 hF
      · rw [if_neg hc164] at hF
        refine .pre (fun _ k => XS.icmpYes X.here hx rfl (pc0 := 164) (pc' := 191) rfl (hb hby d1_164) rfl (flt hc164).2.2.2 (by decide) (by decide) k) ?_
        show OwnEnds p e below _ (T.setTop (mkF m 191 #[.val (.int i0)] []))
        refine .pre (fun _ k => XS.iconst X.here hx rfl (hb hby d1_191) k) ?_
        show OwnEnds p e below _ (T.setTop (mkF m 192 #[.val (.int i0)] [(.int (1 : Int32))]))
        refine .pre (fun _ k => XS.goto X.here hx rfl (pc0 := 192) (pc' := 196) rfl (hb hby d1_192) (by decide) (by decide) k) ?_
        show OwnEnds p e below _ (T.setTop (mkF m 196 #[.val (.int i0)] [(.int (1 : Int32))]))
        exact own_endN X hx hlk (t := .boolean) Bd.returns (by simp) (hb hby d1_196) rfl hk hn ⟨congrArg (fun z => some (Value.int z)) hF, N, eT⟩
  have B142 : ∀ (T : State) (L : List Loc) (k n : Nat) (X : Stand p l e ({ frames := 0, cells := 0, slots := 0, locals := 0 } : Room) s m #[(.int p0)] below meth c T L k n) (eT : T.heap = h0) (N : Fr n0 L) (hk : k ≤ 0) (hn : n ≤ 0) (i0 : Int32), f1_142 i0 = f1_0 p0 → OwnEnds p e below (OwnQ s (Q1 Z p0 h0 n0) 0 0) (T.setTop (mkF m 142 #[.val (.int i0)] [])) := by
    intro T L k n X eT N hk hn i0 hF
    change (if i0 < (12289 : Int32) then (f1_155 i0) else (if (55295 : Int32) < i0 then (f1_155 i0) else (1 : Int32))) = _ at hF
    show OwnEnds p e below _ (T.setTop (mkF m 142 #[.val (.int i0)] []))
    refine .pre (fun _ k => XS.iloadN X.here hx rfl (hb hby d1_142) rfl k) ?_
    show OwnEnds p e below _ (T.setTop (mkF m 143 #[.val (.int i0)] [(.int i0)]))
    refine .pre (fun _ k => XS.sipush X.here hx rfl (hb hby d1_143) k) ?_
    show OwnEnds p e below _ (T.setTop (mkF m 146 #[.val (.int i0)] [(.int (12289 : Int32)), (.int i0)]))
    by_cases hc146 : i0 < (12289 : Int32)
    · rw [if_pos hc146] at hF
      refine .pre (fun _ k => XS.icmpYes X.here hx rfl (pc0 := 146) (pc' := 155) rfl (hb hby d1_146) rfl (tlt hc146).1 (by decide) (by decide) k) ?_
      exact B155 T _ _ _ X eT N hk hn i0 hF
    · rw [if_neg hc146] at hF
      refine .pre (fun _ k => XS.icmpNo X.here hx rfl (hb hby d1_146) rfl (flt hc146).1 k) ?_
      show OwnEnds p e below _ (T.setTop (mkF m 149 #[.val (.int i0)] []))
      refine .pre (fun _ k => XS.iloadN X.here hx rfl (hb hby d1_149) rfl k) ?_
      show OwnEnds p e below _ (T.setTop (mkF m 150 #[.val (.int i0)] [(.int i0)]))
      refine .pre (fun _ k => X.ldcInt hx hown (mvT hZ (hw _ (List.mem_of_getElem? (i := 21) rfl))) (g := (mkF m 150 #[.val (.int i0)] [(.int i0)])) rfl (hb hby d1_150) _ k) ?_
      show OwnEnds p e below _ (T.setTop (mkF m 152 #[.val (.int i0)] [(.int (55295 : Int32)), (.int i0)]))
      by_cases hc152 : (55295 : Int32) < i0
      · rw [if_pos hc152] at hF
        refine .pre (fun _ k => XS.icmpNo X.here hx rfl (hb hby d1_152) rfl (tlt hc152).2.2.2 k) ?_
        exact B155 T _ _ _ X eT N hk hn i0 hF
      · rw [if_neg hc152] at hF
        refine .pre (fun _ k => XS.icmpYes X.here hx rfl (pc0 := 152) (pc' := 191) rfl (hb hby d1_152) rfl (flt hc152).2.2.2 (by decide) (by decide) k) ?_
        show OwnEnds p e below _ (T.setTop (mkF m 191 #[.val (.int i0)] []))
        refine .pre (fun _ k => XS.iconst X.here hx rfl (hb hby d1_191) k) ?_
        show OwnEnds p e below _ (T.setTop (mkF m 192 #[.val (.int i0)] [(.int (1 : Int32))]))
        refine .pre (fun _ k => XS.goto X.here hx rfl (pc0 := 192) (pc' := 196) rfl (hb hby d1_192) (by decide) (by decide) k) ?_
        show OwnEnds p e below _ (T.setTop (mkF m 196 #[.val (.int i0)] [(.int (1 : Int32))]))
        exact own_endN X hx hlk (t := .boolean) Bd.returns (by simp) (hb hby d1_196) rfl hk hn ⟨congrArg (fun z => some (Value.int z)) hF, N, eT⟩
  have B128 : ∀ (T : State) (L : List Loc) (k n : Nat) (X : Stand p l e ({ frames := 0, cells := 0, slots := 0, locals := 0 } : Room) s m #[(.int p0)] below meth c T L k n) (eT : T.heap = h0) (N : Fr n0 L) (hk : k ≤ 0) (hn : n ≤ 0) (i0 : Int32), f1_128 i0 = f1_0 p0 → OwnEnds p e below (OwnQ s (Q1 Z p0 h0 n0) 0 0) (T.setTop (mkF m 128 #[.val (.int i0)] [])) := by
    intro T L k n X eT N hk hn i0 hF
    change (if i0 < (11264 : Int32) then (f1_142 i0) else (if (12271 : Int32) < i0 then (f1_142 i0) else (1 : Int32))) = _ at hF
    show OwnEnds p e below _ (T.setTop (mkF m 128 #[.val (.int i0)] []))
    refine .pre (fun _ k => XS.iloadN X.here hx rfl (hb hby d1_128) rfl k) ?_
    show OwnEnds p e below _ (T.setTop (mkF m 129 #[.val (.int i0)] [(.int i0)]))
    refine .pre (fun _ k => XS.sipush X.here hx rfl (hb hby d1_129) k) ?_
    show OwnEnds p e below _ (T.setTop (mkF m 132 #[.val (.int i0)] [(.int (11264 : Int32)), (.int i0)]))
    by_cases hc132 : i0 < (11264 : Int32)
    · rw [if_pos hc132] at hF
      refine .pre (fun _ k => XS.icmpYes X.here hx rfl (pc0 := 132) (pc' := 142) rfl (hb hby d1_132) rfl (tlt hc132).1 (by decide) (by decide) k) ?_
      exact B142 T _ _ _ X eT N hk hn i0 hF
    · rw [if_neg hc132] at hF
      refine .pre (fun _ k => XS.icmpNo X.here hx rfl (hb hby d1_132) rfl (flt hc132).1 k) ?_
      show OwnEnds p e below _ (T.setTop (mkF m 135 #[.val (.int i0)] []))
      refine .pre (fun _ k => XS.iloadN X.here hx rfl (hb hby d1_135) rfl k) ?_
      show OwnEnds p e below _ (T.setTop (mkF m 136 #[.val (.int i0)] [(.int i0)]))
      refine .pre (fun _ k => XS.sipush X.here hx rfl (hb hby d1_136) k) ?_
      show OwnEnds p e below _ (T.setTop (mkF m 139 #[.val (.int i0)] [(.int (12271 : Int32)), (.int i0)]))
      by_cases hc139 : (12271 : Int32) < i0
      · rw [if_pos hc139] at hF
        refine .pre (fun _ k => XS.icmpNo X.here hx rfl (hb hby d1_139) rfl (tlt hc139).2.2.2 k) ?_
        exact B142 T _ _ _ X eT N hk hn i0 hF
      · rw [if_neg hc139] at hF
        refine .pre (fun _ k => XS.icmpYes X.here hx rfl (pc0 := 139) (pc' := 191) rfl (hb hby d1_139) rfl (flt hc139).2.2.2 (by decide) (by decide) k) ?_
        show OwnEnds p e below _ (T.setTop (mkF m 191 #[.val (.int i0)] []))
        refine .pre (fun _ k => XS.iconst X.here hx rfl (hb hby d1_191) k) ?_
        show OwnEnds p e below _ (T.setTop (mkF m 192 #[.val (.int i0)] [(.int (1 : Int32))]))
        refine .pre (fun _ k => XS.goto X.here hx rfl (pc0 := 192) (pc' := 196) rfl (hb hby d1_192) (by decide) (by decide) k) ?_
        show OwnEnds p e below _ (T.setTop (mkF m 196 #[.val (.int i0)] [(.int (1 : Int32))]))
        exact own_endN X hx hlk (t := .boolean) Bd.returns (by simp) (hb hby d1_196) rfl hk hn ⟨congrArg (fun z => some (Value.int z)) hF, N, eT⟩
  have B114 : ∀ (T : State) (L : List Loc) (k n : Nat) (X : Stand p l e ({ frames := 0, cells := 0, slots := 0, locals := 0 } : Room) s m #[(.int p0)] below meth c T L k n) (eT : T.heap = h0) (N : Fr n0 L) (hk : k ≤ 0) (hn : n ≤ 0) (i0 : Int32), f1_114 i0 = f1_0 p0 → OwnEnds p e below (OwnQ s (Q1 Z p0 h0 n0) 0 0) (T.setTop (mkF m 114 #[.val (.int i0)] [])) := by
    intro T L k n X eT N hk hn i0 hF
    change (if i0 < (8304 : Int32) then (f1_128 i0) else (if (8591 : Int32) < i0 then (f1_128 i0) else (1 : Int32))) = _ at hF
    show OwnEnds p e below _ (T.setTop (mkF m 114 #[.val (.int i0)] []))
    refine .pre (fun _ k => XS.iloadN X.here hx rfl (hb hby d1_114) rfl k) ?_
    show OwnEnds p e below _ (T.setTop (mkF m 115 #[.val (.int i0)] [(.int i0)]))
    refine .pre (fun _ k => XS.sipush X.here hx rfl (hb hby d1_115) k) ?_
    show OwnEnds p e below _ (T.setTop (mkF m 118 #[.val (.int i0)] [(.int (8304 : Int32)), (.int i0)]))
    by_cases hc118 : i0 < (8304 : Int32)
    · rw [if_pos hc118] at hF
      refine .pre (fun _ k => XS.icmpYes X.here hx rfl (pc0 := 118) (pc' := 128) rfl (hb hby d1_118) rfl (tlt hc118).1 (by decide) (by decide) k) ?_
      exact B128 T _ _ _ X eT N hk hn i0 hF
    · rw [if_neg hc118] at hF
      refine .pre (fun _ k => XS.icmpNo X.here hx rfl (hb hby d1_118) rfl (flt hc118).1 k) ?_
      show OwnEnds p e below _ (T.setTop (mkF m 121 #[.val (.int i0)] []))
      refine .pre (fun _ k => XS.iloadN X.here hx rfl (hb hby d1_121) rfl k) ?_
      show OwnEnds p e below _ (T.setTop (mkF m 122 #[.val (.int i0)] [(.int i0)]))
      refine .pre (fun _ k => XS.sipush X.here hx rfl (hb hby d1_122) k) ?_
      show OwnEnds p e below _ (T.setTop (mkF m 125 #[.val (.int i0)] [(.int (8591 : Int32)), (.int i0)]))
      by_cases hc125 : (8591 : Int32) < i0
      · rw [if_pos hc125] at hF
        refine .pre (fun _ k => XS.icmpNo X.here hx rfl (hb hby d1_125) rfl (tlt hc125).2.2.2 k) ?_
        exact B128 T _ _ _ X eT N hk hn i0 hF
      · rw [if_neg hc125] at hF
        refine .pre (fun _ k => XS.icmpYes X.here hx rfl (pc0 := 125) (pc' := 191) rfl (hb hby d1_125) rfl (flt hc125).2.2.2 (by decide) (by decide) k) ?_
        show OwnEnds p e below _ (T.setTop (mkF m 191 #[.val (.int i0)] []))
        refine .pre (fun _ k => XS.iconst X.here hx rfl (hb hby d1_191) k) ?_
        show OwnEnds p e below _ (T.setTop (mkF m 192 #[.val (.int i0)] [(.int (1 : Int32))]))
        refine .pre (fun _ k => XS.goto X.here hx rfl (pc0 := 192) (pc' := 196) rfl (hb hby d1_192) (by decide) (by decide) k) ?_
        show OwnEnds p e below _ (T.setTop (mkF m 196 #[.val (.int i0)] [(.int (1 : Int32))]))
        exact own_endN X hx hlk (t := .boolean) Bd.returns (by simp) (hb hby d1_196) rfl hk hn ⟨congrArg (fun z => some (Value.int z)) hF, N, eT⟩
  have B100 : ∀ (T : State) (L : List Loc) (k n : Nat) (X : Stand p l e ({ frames := 0, cells := 0, slots := 0, locals := 0 } : Room) s m #[(.int p0)] below meth c T L k n) (eT : T.heap = h0) (N : Fr n0 L) (hk : k ≤ 0) (hn : n ≤ 0) (i0 : Int32), f1_100 i0 = f1_0 p0 → OwnEnds p e below (OwnQ s (Q1 Z p0 h0 n0) 0 0) (T.setTop (mkF m 100 #[.val (.int i0)] [])) := by
    intro T L k n X eT N hk hn i0 hF
    change (if i0 < (8204 : Int32) then (f1_114 i0) else (if (8205 : Int32) < i0 then (f1_114 i0) else (1 : Int32))) = _ at hF
    show OwnEnds p e below _ (T.setTop (mkF m 100 #[.val (.int i0)] []))
    refine .pre (fun _ k => XS.iloadN X.here hx rfl (hb hby d1_100) rfl k) ?_
    show OwnEnds p e below _ (T.setTop (mkF m 101 #[.val (.int i0)] [(.int i0)]))
    refine .pre (fun _ k => XS.sipush X.here hx rfl (hb hby d1_101) k) ?_
    show OwnEnds p e below _ (T.setTop (mkF m 104 #[.val (.int i0)] [(.int (8204 : Int32)), (.int i0)]))
    by_cases hc104 : i0 < (8204 : Int32)
    · rw [if_pos hc104] at hF
      refine .pre (fun _ k => XS.icmpYes X.here hx rfl (pc0 := 104) (pc' := 114) rfl (hb hby d1_104) rfl (tlt hc104).1 (by decide) (by decide) k) ?_
      exact B114 T _ _ _ X eT N hk hn i0 hF
    · rw [if_neg hc104] at hF
      refine .pre (fun _ k => XS.icmpNo X.here hx rfl (hb hby d1_104) rfl (flt hc104).1 k) ?_
      show OwnEnds p e below _ (T.setTop (mkF m 107 #[.val (.int i0)] []))
      refine .pre (fun _ k => XS.iloadN X.here hx rfl (hb hby d1_107) rfl k) ?_
      show OwnEnds p e below _ (T.setTop (mkF m 108 #[.val (.int i0)] [(.int i0)]))
      refine .pre (fun _ k => XS.sipush X.here hx rfl (hb hby d1_108) k) ?_
      show OwnEnds p e below _ (T.setTop (mkF m 111 #[.val (.int i0)] [(.int (8205 : Int32)), (.int i0)]))
      by_cases hc111 : (8205 : Int32) < i0
      · rw [if_pos hc111] at hF
        refine .pre (fun _ k => XS.icmpNo X.here hx rfl (hb hby d1_111) rfl (tlt hc111).2.2.2 k) ?_
        exact B114 T _ _ _ X eT N hk hn i0 hF
      · rw [if_neg hc111] at hF
        refine .pre (fun _ k => XS.icmpYes X.here hx rfl (pc0 := 111) (pc' := 191) rfl (hb hby d1_111) rfl (flt hc111).2.2.2 (by decide) (by decide) k) ?_
        show OwnEnds p e below _ (T.setTop (mkF m 191 #[.val (.int i0)] []))
        refine .pre (fun _ k => XS.iconst X.here hx rfl (hb hby d1_191) k) ?_
        show OwnEnds p e below _ (T.setTop (mkF m 192 #[.val (.int i0)] [(.int (1 : Int32))]))
        refine .pre (fun _ k => XS.goto X.here hx rfl (pc0 := 192) (pc' := 196) rfl (hb hby d1_192) (by decide) (by decide) k) ?_
        show OwnEnds p e below _ (T.setTop (mkF m 196 #[.val (.int i0)] [(.int (1 : Int32))]))
        exact own_endN X hx hlk (t := .boolean) Bd.returns (by simp) (hb hby d1_196) rfl hk hn ⟨congrArg (fun z => some (Value.int z)) hF, N, eT⟩
  have B86 : ∀ (T : State) (L : List Loc) (k n : Nat) (X : Stand p l e ({ frames := 0, cells := 0, slots := 0, locals := 0 } : Room) s m #[(.int p0)] below meth c T L k n) (eT : T.heap = h0) (N : Fr n0 L) (hk : k ≤ 0) (hn : n ≤ 0) (i0 : Int32), f1_86 i0 = f1_0 p0 → OwnEnds p e below (OwnQ s (Q1 Z p0 h0 n0) 0 0) (T.setTop (mkF m 86 #[.val (.int i0)] [])) := by
    intro T L k n X eT N hk hn i0 hF
    change (if i0 < (895 : Int32) then (f1_100 i0) else (if (8191 : Int32) < i0 then (f1_100 i0) else (1 : Int32))) = _ at hF
    show OwnEnds p e below _ (T.setTop (mkF m 86 #[.val (.int i0)] []))
    refine .pre (fun _ k => XS.iloadN X.here hx rfl (hb hby d1_86) rfl k) ?_
    show OwnEnds p e below _ (T.setTop (mkF m 87 #[.val (.int i0)] [(.int i0)]))
    refine .pre (fun _ k => XS.sipush X.here hx rfl (hb hby d1_87) k) ?_
    show OwnEnds p e below _ (T.setTop (mkF m 90 #[.val (.int i0)] [(.int (895 : Int32)), (.int i0)]))
    by_cases hc90 : i0 < (895 : Int32)
    · rw [if_pos hc90] at hF
      refine .pre (fun _ k => XS.icmpYes X.here hx rfl (pc0 := 90) (pc' := 100) rfl (hb hby d1_90) rfl (tlt hc90).1 (by decide) (by decide) k) ?_
      exact B100 T _ _ _ X eT N hk hn i0 hF
    · rw [if_neg hc90] at hF
      refine .pre (fun _ k => XS.icmpNo X.here hx rfl (hb hby d1_90) rfl (flt hc90).1 k) ?_
      show OwnEnds p e below _ (T.setTop (mkF m 93 #[.val (.int i0)] []))
      refine .pre (fun _ k => XS.iloadN X.here hx rfl (hb hby d1_93) rfl k) ?_
      show OwnEnds p e below _ (T.setTop (mkF m 94 #[.val (.int i0)] [(.int i0)]))
      refine .pre (fun _ k => XS.sipush X.here hx rfl (hb hby d1_94) k) ?_
      show OwnEnds p e below _ (T.setTop (mkF m 97 #[.val (.int i0)] [(.int (8191 : Int32)), (.int i0)]))
      by_cases hc97 : (8191 : Int32) < i0
      · rw [if_pos hc97] at hF
        refine .pre (fun _ k => XS.icmpNo X.here hx rfl (hb hby d1_97) rfl (tlt hc97).2.2.2 k) ?_
        exact B100 T _ _ _ X eT N hk hn i0 hF
      · rw [if_neg hc97] at hF
        refine .pre (fun _ k => XS.icmpYes X.here hx rfl (pc0 := 97) (pc' := 191) rfl (hb hby d1_97) rfl (flt hc97).2.2.2 (by decide) (by decide) k) ?_
        show OwnEnds p e below _ (T.setTop (mkF m 191 #[.val (.int i0)] []))
        refine .pre (fun _ k => XS.iconst X.here hx rfl (hb hby d1_191) k) ?_
        show OwnEnds p e below _ (T.setTop (mkF m 192 #[.val (.int i0)] [(.int (1 : Int32))]))
        refine .pre (fun _ k => XS.goto X.here hx rfl (pc0 := 192) (pc' := 196) rfl (hb hby d1_192) (by decide) (by decide) k) ?_
        show OwnEnds p e below _ (T.setTop (mkF m 196 #[.val (.int i0)] [(.int (1 : Int32))]))
        exact own_endN X hx hlk (t := .boolean) Bd.returns (by simp) (hb hby d1_196) rfl hk hn ⟨congrArg (fun z => some (Value.int z)) hF, N, eT⟩
  have B72 : ∀ (T : State) (L : List Loc) (k n : Nat) (X : Stand p l e ({ frames := 0, cells := 0, slots := 0, locals := 0 } : Room) s m #[(.int p0)] below meth c T L k n) (eT : T.heap = h0) (N : Fr n0 L) (hk : k ≤ 0) (hn : n ≤ 0) (i0 : Int32), f1_72 i0 = f1_0 p0 → OwnEnds p e below (OwnQ s (Q1 Z p0 h0 n0) 0 0) (T.setTop (mkF m 72 #[.val (.int i0)] [])) := by
    intro T L k n X eT N hk hn i0 hF
    change (if i0 < (880 : Int32) then (f1_86 i0) else (if (893 : Int32) < i0 then (f1_86 i0) else (1 : Int32))) = _ at hF
    show OwnEnds p e below _ (T.setTop (mkF m 72 #[.val (.int i0)] []))
    refine .pre (fun _ k => XS.iloadN X.here hx rfl (hb hby d1_72) rfl k) ?_
    show OwnEnds p e below _ (T.setTop (mkF m 73 #[.val (.int i0)] [(.int i0)]))
    refine .pre (fun _ k => XS.sipush X.here hx rfl (hb hby d1_73) k) ?_
    show OwnEnds p e below _ (T.setTop (mkF m 76 #[.val (.int i0)] [(.int (880 : Int32)), (.int i0)]))
    by_cases hc76 : i0 < (880 : Int32)
    · rw [if_pos hc76] at hF
      refine .pre (fun _ k => XS.icmpYes X.here hx rfl (pc0 := 76) (pc' := 86) rfl (hb hby d1_76) rfl (tlt hc76).1 (by decide) (by decide) k) ?_
      exact B86 T _ _ _ X eT N hk hn i0 hF
    · rw [if_neg hc76] at hF
      refine .pre (fun _ k => XS.icmpNo X.here hx rfl (hb hby d1_76) rfl (flt hc76).1 k) ?_
      show OwnEnds p e below _ (T.setTop (mkF m 79 #[.val (.int i0)] []))
      refine .pre (fun _ k => XS.iloadN X.here hx rfl (hb hby d1_79) rfl k) ?_
      show OwnEnds p e below _ (T.setTop (mkF m 80 #[.val (.int i0)] [(.int i0)]))
      refine .pre (fun _ k => XS.sipush X.here hx rfl (hb hby d1_80) k) ?_
      show OwnEnds p e below _ (T.setTop (mkF m 83 #[.val (.int i0)] [(.int (893 : Int32)), (.int i0)]))
      by_cases hc83 : (893 : Int32) < i0
      · rw [if_pos hc83] at hF
        refine .pre (fun _ k => XS.icmpNo X.here hx rfl (hb hby d1_83) rfl (tlt hc83).2.2.2 k) ?_
        exact B86 T _ _ _ X eT N hk hn i0 hF
      · rw [if_neg hc83] at hF
        refine .pre (fun _ k => XS.icmpYes X.here hx rfl (pc0 := 83) (pc' := 191) rfl (hb hby d1_83) rfl (flt hc83).2.2.2 (by decide) (by decide) k) ?_
        show OwnEnds p e below _ (T.setTop (mkF m 191 #[.val (.int i0)] []))
        refine .pre (fun _ k => XS.iconst X.here hx rfl (hb hby d1_191) k) ?_
        show OwnEnds p e below _ (T.setTop (mkF m 192 #[.val (.int i0)] [(.int (1 : Int32))]))
        refine .pre (fun _ k => XS.goto X.here hx rfl (pc0 := 192) (pc' := 196) rfl (hb hby d1_192) (by decide) (by decide) k) ?_
        show OwnEnds p e below _ (T.setTop (mkF m 196 #[.val (.int i0)] [(.int (1 : Int32))]))
        exact own_endN X hx hlk (t := .boolean) Bd.returns (by simp) (hb hby d1_196) rfl hk hn ⟨congrArg (fun z => some (Value.int z)) hF, N, eT⟩
  have B58 : ∀ (T : State) (L : List Loc) (k n : Nat) (X : Stand p l e ({ frames := 0, cells := 0, slots := 0, locals := 0 } : Room) s m #[(.int p0)] below meth c T L k n) (eT : T.heap = h0) (N : Fr n0 L) (hk : k ≤ 0) (hn : n ≤ 0) (i0 : Int32), f1_58 i0 = f1_0 p0 → OwnEnds p e below (OwnQ s (Q1 Z p0 h0 n0) 0 0) (T.setTop (mkF m 58 #[.val (.int i0)] [])) := by
    intro T L k n X eT N hk hn i0 hF
    change (if i0 < (248 : Int32) then (f1_72 i0) else (if (767 : Int32) < i0 then (f1_72 i0) else (1 : Int32))) = _ at hF
    show OwnEnds p e below _ (T.setTop (mkF m 58 #[.val (.int i0)] []))
    refine .pre (fun _ k => XS.iloadN X.here hx rfl (hb hby d1_58) rfl k) ?_
    show OwnEnds p e below _ (T.setTop (mkF m 59 #[.val (.int i0)] [(.int i0)]))
    refine .pre (fun _ k => XS.sipush X.here hx rfl (hb hby d1_59) k) ?_
    show OwnEnds p e below _ (T.setTop (mkF m 62 #[.val (.int i0)] [(.int (248 : Int32)), (.int i0)]))
    by_cases hc62 : i0 < (248 : Int32)
    · rw [if_pos hc62] at hF
      refine .pre (fun _ k => XS.icmpYes X.here hx rfl (pc0 := 62) (pc' := 72) rfl (hb hby d1_62) rfl (tlt hc62).1 (by decide) (by decide) k) ?_
      exact B72 T _ _ _ X eT N hk hn i0 hF
    · rw [if_neg hc62] at hF
      refine .pre (fun _ k => XS.icmpNo X.here hx rfl (hb hby d1_62) rfl (flt hc62).1 k) ?_
      show OwnEnds p e below _ (T.setTop (mkF m 65 #[.val (.int i0)] []))
      refine .pre (fun _ k => XS.iloadN X.here hx rfl (hb hby d1_65) rfl k) ?_
      show OwnEnds p e below _ (T.setTop (mkF m 66 #[.val (.int i0)] [(.int i0)]))
      refine .pre (fun _ k => XS.sipush X.here hx rfl (hb hby d1_66) k) ?_
      show OwnEnds p e below _ (T.setTop (mkF m 69 #[.val (.int i0)] [(.int (767 : Int32)), (.int i0)]))
      by_cases hc69 : (767 : Int32) < i0
      · rw [if_pos hc69] at hF
        refine .pre (fun _ k => XS.icmpNo X.here hx rfl (hb hby d1_69) rfl (tlt hc69).2.2.2 k) ?_
        exact B72 T _ _ _ X eT N hk hn i0 hF
      · rw [if_neg hc69] at hF
        refine .pre (fun _ k => XS.icmpYes X.here hx rfl (pc0 := 69) (pc' := 191) rfl (hb hby d1_69) rfl (flt hc69).2.2.2 (by decide) (by decide) k) ?_
        show OwnEnds p e below _ (T.setTop (mkF m 191 #[.val (.int i0)] []))
        refine .pre (fun _ k => XS.iconst X.here hx rfl (hb hby d1_191) k) ?_
        show OwnEnds p e below _ (T.setTop (mkF m 192 #[.val (.int i0)] [(.int (1 : Int32))]))
        refine .pre (fun _ k => XS.goto X.here hx rfl (pc0 := 192) (pc' := 196) rfl (hb hby d1_192) (by decide) (by decide) k) ?_
        show OwnEnds p e below _ (T.setTop (mkF m 196 #[.val (.int i0)] [(.int (1 : Int32))]))
        exact own_endN X hx hlk (t := .boolean) Bd.returns (by simp) (hb hby d1_196) rfl hk hn ⟨congrArg (fun z => some (Value.int z)) hF, N, eT⟩
  have B44 : ∀ (T : State) (L : List Loc) (k n : Nat) (X : Stand p l e ({ frames := 0, cells := 0, slots := 0, locals := 0 } : Room) s m #[(.int p0)] below meth c T L k n) (eT : T.heap = h0) (N : Fr n0 L) (hk : k ≤ 0) (hn : n ≤ 0) (i0 : Int32), f1_44 i0 = f1_0 p0 → OwnEnds p e below (OwnQ s (Q1 Z p0 h0 n0) 0 0) (T.setTop (mkF m 44 #[.val (.int i0)] [])) := by
    intro T L k n X eT N hk hn i0 hF
    change (if i0 < (216 : Int32) then (f1_58 i0) else (if (246 : Int32) < i0 then (f1_58 i0) else (1 : Int32))) = _ at hF
    show OwnEnds p e below _ (T.setTop (mkF m 44 #[.val (.int i0)] []))
    refine .pre (fun _ k => XS.iloadN X.here hx rfl (hb hby d1_44) rfl k) ?_
    show OwnEnds p e below _ (T.setTop (mkF m 45 #[.val (.int i0)] [(.int i0)]))
    refine .pre (fun _ k => XS.sipush X.here hx rfl (hb hby d1_45) k) ?_
    show OwnEnds p e below _ (T.setTop (mkF m 48 #[.val (.int i0)] [(.int (216 : Int32)), (.int i0)]))
    by_cases hc48 : i0 < (216 : Int32)
    · rw [if_pos hc48] at hF
      refine .pre (fun _ k => XS.icmpYes X.here hx rfl (pc0 := 48) (pc' := 58) rfl (hb hby d1_48) rfl (tlt hc48).1 (by decide) (by decide) k) ?_
      exact B58 T _ _ _ X eT N hk hn i0 hF
    · rw [if_neg hc48] at hF
      refine .pre (fun _ k => XS.icmpNo X.here hx rfl (hb hby d1_48) rfl (flt hc48).1 k) ?_
      show OwnEnds p e below _ (T.setTop (mkF m 51 #[.val (.int i0)] []))
      refine .pre (fun _ k => XS.iloadN X.here hx rfl (hb hby d1_51) rfl k) ?_
      show OwnEnds p e below _ (T.setTop (mkF m 52 #[.val (.int i0)] [(.int i0)]))
      refine .pre (fun _ k => XS.sipush X.here hx rfl (hb hby d1_52) k) ?_
      show OwnEnds p e below _ (T.setTop (mkF m 55 #[.val (.int i0)] [(.int (246 : Int32)), (.int i0)]))
      by_cases hc55 : (246 : Int32) < i0
      · rw [if_pos hc55] at hF
        refine .pre (fun _ k => XS.icmpNo X.here hx rfl (hb hby d1_55) rfl (tlt hc55).2.2.2 k) ?_
        exact B58 T _ _ _ X eT N hk hn i0 hF
      · rw [if_neg hc55] at hF
        refine .pre (fun _ k => XS.icmpYes X.here hx rfl (pc0 := 55) (pc' := 191) rfl (hb hby d1_55) rfl (flt hc55).2.2.2 (by decide) (by decide) k) ?_
        show OwnEnds p e below _ (T.setTop (mkF m 191 #[.val (.int i0)] []))
        refine .pre (fun _ k => XS.iconst X.here hx rfl (hb hby d1_191) k) ?_
        show OwnEnds p e below _ (T.setTop (mkF m 192 #[.val (.int i0)] [(.int (1 : Int32))]))
        refine .pre (fun _ k => XS.goto X.here hx rfl (pc0 := 192) (pc' := 196) rfl (hb hby d1_192) (by decide) (by decide) k) ?_
        show OwnEnds p e below _ (T.setTop (mkF m 196 #[.val (.int i0)] [(.int (1 : Int32))]))
        exact own_endN X hx hlk (t := .boolean) Bd.returns (by simp) (hb hby d1_196) rfl hk hn ⟨congrArg (fun z => some (Value.int z)) hF, N, eT⟩
  have B30 : ∀ (T : State) (L : List Loc) (k n : Nat) (X : Stand p l e ({ frames := 0, cells := 0, slots := 0, locals := 0 } : Room) s m #[(.int p0)] below meth c T L k n) (eT : T.heap = h0) (N : Fr n0 L) (hk : k ≤ 0) (hn : n ≤ 0) (i0 : Int32), f1_30 i0 = f1_0 p0 → OwnEnds p e below (OwnQ s (Q1 Z p0 h0 n0) 0 0) (T.setTop (mkF m 30 #[.val (.int i0)] [])) := by
    intro T L k n X eT N hk hn i0 hF
    change (if i0 < (192 : Int32) then (f1_44 i0) else (if (214 : Int32) < i0 then (f1_44 i0) else (1 : Int32))) = _ at hF
    show OwnEnds p e below _ (T.setTop (mkF m 30 #[.val (.int i0)] []))
    refine .pre (fun _ k => XS.iloadN X.here hx rfl (hb hby d1_30) rfl k) ?_
    show OwnEnds p e below _ (T.setTop (mkF m 31 #[.val (.int i0)] [(.int i0)]))
    refine .pre (fun _ k => XS.sipush X.here hx rfl (hb hby d1_31) k) ?_
    show OwnEnds p e below _ (T.setTop (mkF m 34 #[.val (.int i0)] [(.int (192 : Int32)), (.int i0)]))
    by_cases hc34 : i0 < (192 : Int32)
    · rw [if_pos hc34] at hF
      refine .pre (fun _ k => XS.icmpYes X.here hx rfl (pc0 := 34) (pc' := 44) rfl (hb hby d1_34) rfl (tlt hc34).1 (by decide) (by decide) k) ?_
      exact B44 T _ _ _ X eT N hk hn i0 hF
    · rw [if_neg hc34] at hF
      refine .pre (fun _ k => XS.icmpNo X.here hx rfl (hb hby d1_34) rfl (flt hc34).1 k) ?_
      show OwnEnds p e below _ (T.setTop (mkF m 37 #[.val (.int i0)] []))
      refine .pre (fun _ k => XS.iloadN X.here hx rfl (hb hby d1_37) rfl k) ?_
      show OwnEnds p e below _ (T.setTop (mkF m 38 #[.val (.int i0)] [(.int i0)]))
      refine .pre (fun _ k => XS.sipush X.here hx rfl (hb hby d1_38) k) ?_
      show OwnEnds p e below _ (T.setTop (mkF m 41 #[.val (.int i0)] [(.int (214 : Int32)), (.int i0)]))
      by_cases hc41 : (214 : Int32) < i0
      · rw [if_pos hc41] at hF
        refine .pre (fun _ k => XS.icmpNo X.here hx rfl (hb hby d1_41) rfl (tlt hc41).2.2.2 k) ?_
        exact B44 T _ _ _ X eT N hk hn i0 hF
      · rw [if_neg hc41] at hF
        refine .pre (fun _ k => XS.icmpYes X.here hx rfl (pc0 := 41) (pc' := 191) rfl (hb hby d1_41) rfl (flt hc41).2.2.2 (by decide) (by decide) k) ?_
        show OwnEnds p e below _ (T.setTop (mkF m 191 #[.val (.int i0)] []))
        refine .pre (fun _ k => XS.iconst X.here hx rfl (hb hby d1_191) k) ?_
        show OwnEnds p e below _ (T.setTop (mkF m 192 #[.val (.int i0)] [(.int (1 : Int32))]))
        refine .pre (fun _ k => XS.goto X.here hx rfl (pc0 := 192) (pc' := 196) rfl (hb hby d1_192) (by decide) (by decide) k) ?_
        show OwnEnds p e below _ (T.setTop (mkF m 196 #[.val (.int i0)] [(.int (1 : Int32))]))
        exact own_endN X hx hlk (t := .boolean) Bd.returns (by simp) (hb hby d1_196) rfl hk hn ⟨congrArg (fun z => some (Value.int z)) hF, N, eT⟩
  have B12 : ∀ (T : State) (L : List Loc) (k n : Nat) (X : Stand p l e ({ frames := 0, cells := 0, slots := 0, locals := 0 } : Room) s m #[(.int p0)] below meth c T L k n) (eT : T.heap = h0) (N : Fr n0 L) (hk : k ≤ 0) (hn : n ≤ 0) (i0 : Int32), f1_12 i0 = f1_0 p0 → OwnEnds p e below (OwnQ s (Q1 Z p0 h0 n0) 0 0) (T.setTop (mkF m 12 #[.val (.int i0)] [])) := by
    intro T L k n X eT N hk hn i0 hF
    change (if i0 = (95 : Int32) then (1 : Int32) else (if i0 < (97 : Int32) then (f1_30 i0) else (if (122 : Int32) < i0 then (f1_30 i0) else (1 : Int32)))) = _ at hF
    show OwnEnds p e below _ (T.setTop (mkF m 12 #[.val (.int i0)] []))
    refine .pre (fun _ k => XS.iloadN X.here hx rfl (hb hby d1_12) rfl k) ?_
    show OwnEnds p e below _ (T.setTop (mkF m 13 #[.val (.int i0)] [(.int i0)]))
    refine .pre (fun _ k => XS.bipush X.here hx rfl (hb hby d1_13) k) ?_
    show OwnEnds p e below _ (T.setTop (mkF m 15 #[.val (.int i0)] [(.int (95 : Int32)), (.int i0)]))
    by_cases hc15 : i0 = (95 : Int32)
    · rw [if_pos hc15] at hF
      refine .pre (fun _ k => XS.icmpYes X.here hx rfl (pc0 := 15) (pc' := 191) rfl (hb hby d1_15) rfl (teq hc15).1 (by decide) (by decide) k) ?_
      show OwnEnds p e below _ (T.setTop (mkF m 191 #[.val (.int i0)] []))
      refine .pre (fun _ k => XS.iconst X.here hx rfl (hb hby d1_191) k) ?_
      show OwnEnds p e below _ (T.setTop (mkF m 192 #[.val (.int i0)] [(.int (1 : Int32))]))
      refine .pre (fun _ k => XS.goto X.here hx rfl (pc0 := 192) (pc' := 196) rfl (hb hby d1_192) (by decide) (by decide) k) ?_
      show OwnEnds p e below _ (T.setTop (mkF m 196 #[.val (.int i0)] [(.int (1 : Int32))]))
      exact own_endN X hx hlk (t := .boolean) Bd.returns (by simp) (hb hby d1_196) rfl hk hn ⟨congrArg (fun z => some (Value.int z)) hF, N, eT⟩
    · rw [if_neg hc15] at hF
      refine .pre (fun _ k => XS.icmpNo X.here hx rfl (hb hby d1_15) rfl (feq hc15).1 k) ?_
      show OwnEnds p e below _ (T.setTop (mkF m 18 #[.val (.int i0)] []))
      refine .pre (fun _ k => XS.iloadN X.here hx rfl (hb hby d1_18) rfl k) ?_
      show OwnEnds p e below _ (T.setTop (mkF m 19 #[.val (.int i0)] [(.int i0)]))
      refine .pre (fun _ k => XS.bipush X.here hx rfl (hb hby d1_19) k) ?_
      show OwnEnds p e below _ (T.setTop (mkF m 21 #[.val (.int i0)] [(.int (97 : Int32)), (.int i0)]))
      by_cases hc21 : i0 < (97 : Int32)
      · rw [if_pos hc21] at hF
        refine .pre (fun _ k => XS.icmpYes X.here hx rfl (pc0 := 21) (pc' := 30) rfl (hb hby d1_21) rfl (tlt hc21).1 (by decide) (by decide) k) ?_
        exact B30 T _ _ _ X eT N hk hn i0 hF
      · rw [if_neg hc21] at hF
        refine .pre (fun _ k => XS.icmpNo X.here hx rfl (hb hby d1_21) rfl (flt hc21).1 k) ?_
        show OwnEnds p e below _ (T.setTop (mkF m 24 #[.val (.int i0)] []))
        refine .pre (fun _ k => XS.iloadN X.here hx rfl (hb hby d1_24) rfl k) ?_
        show OwnEnds p e below _ (T.setTop (mkF m 25 #[.val (.int i0)] [(.int i0)]))
        refine .pre (fun _ k => XS.bipush X.here hx rfl (hb hby d1_25) k) ?_
        show OwnEnds p e below _ (T.setTop (mkF m 27 #[.val (.int i0)] [(.int (122 : Int32)), (.int i0)]))
        by_cases hc27 : (122 : Int32) < i0
        · rw [if_pos hc27] at hF
          refine .pre (fun _ k => XS.icmpNo X.here hx rfl (hb hby d1_27) rfl (tlt hc27).2.2.2 k) ?_
          exact B30 T _ _ _ X eT N hk hn i0 hF
        · rw [if_neg hc27] at hF
          refine .pre (fun _ k => XS.icmpYes X.here hx rfl (pc0 := 27) (pc' := 191) rfl (hb hby d1_27) rfl (flt hc27).2.2.2 (by decide) (by decide) k) ?_
          show OwnEnds p e below _ (T.setTop (mkF m 191 #[.val (.int i0)] []))
          refine .pre (fun _ k => XS.iconst X.here hx rfl (hb hby d1_191) k) ?_
          show OwnEnds p e below _ (T.setTop (mkF m 192 #[.val (.int i0)] [(.int (1 : Int32))]))
          refine .pre (fun _ k => XS.goto X.here hx rfl (pc0 := 192) (pc' := 196) rfl (hb hby d1_192) (by decide) (by decide) k) ?_
          show OwnEnds p e below _ (T.setTop (mkF m 196 #[.val (.int i0)] [(.int (1 : Int32))]))
          exact own_endN X hx hlk (t := .boolean) Bd.returns (by simp) (hb hby d1_196) rfl hk hn ⟨congrArg (fun z => some (Value.int z)) hF, N, eT⟩
  have hF : f1_0 p0 = f1_0 p0 := rfl
  change (if p0 < (65 : Int32) then (f1_12 p0) else (if (90 : Int32) < p0 then (f1_12 p0) else (1 : Int32))) = _ at hF
  show OwnEnds p e below _ (s₁.setTop (mkF m 0 #[.val (.int p0)] []))
  refine .pre (fun _ k => XS.iloadN X0.here hx rfl (hb hby d1_0) rfl k) ?_
  show OwnEnds p e below _ (s₁.setTop (mkF m 1 #[.val (.int p0)] [(.int p0)]))
  refine .pre (fun _ k => XS.bipush X0.here hx rfl (hb hby d1_1) k) ?_
  show OwnEnds p e below _ (s₁.setTop (mkF m 3 #[.val (.int p0)] [(.int (65 : Int32)), (.int p0)]))
  by_cases hc3 : p0 < (65 : Int32)
  · rw [if_pos hc3] at hF
    refine .pre (fun _ k => XS.icmpYes X0.here hx rfl (pc0 := 3) (pc' := 12) rfl (hb hby d1_3) rfl (tlt hc3).1 (by decide) (by decide) k) ?_
    exact B12 s₁ _ _ _ X0 e0 N0 hk0 hn0 p0 hF
  · rw [if_neg hc3] at hF
    refine .pre (fun _ k => XS.icmpNo X0.here hx rfl (hb hby d1_3) rfl (flt hc3).1 k) ?_
    show OwnEnds p e below _ (s₁.setTop (mkF m 6 #[.val (.int p0)] []))
    refine .pre (fun _ k => XS.iloadN X0.here hx rfl (hb hby d1_6) rfl k) ?_
    show OwnEnds p e below _ (s₁.setTop (mkF m 7 #[.val (.int p0)] [(.int p0)]))
    refine .pre (fun _ k => XS.bipush X0.here hx rfl (hb hby d1_7) k) ?_
    show OwnEnds p e below _ (s₁.setTop (mkF m 9 #[.val (.int p0)] [(.int (90 : Int32)), (.int p0)]))
    by_cases hc9 : (90 : Int32) < p0
    · rw [if_pos hc9] at hF
      refine .pre (fun _ k => XS.icmpNo X0.here hx rfl (hb hby d1_9) rfl (tlt hc9).2.2.2 k) ?_
      exact B12 s₁ _ _ _ X0 e0 N0 hk0 hn0 p0 hF
    · rw [if_neg hc9] at hF
      refine .pre (fun _ k => XS.icmpYes X0.here hx rfl (pc0 := 9) (pc' := 191) rfl (hb hby d1_9) rfl (flt hc9).2.2.2 (by decide) (by decide) k) ?_
      show OwnEnds p e below _ (s₁.setTop (mkF m 191 #[.val (.int p0)] []))
      refine .pre (fun _ k => XS.iconst X0.here hx rfl (hb hby d1_191) k) ?_
      show OwnEnds p e below _ (s₁.setTop (mkF m 192 #[.val (.int p0)] [(.int (1 : Int32))]))
      refine .pre (fun _ k => XS.goto X0.here hx rfl (pc0 := 192) (pc' := 196) rfl (hb hby d1_192) (by decide) (by decide) k) ?_
      show OwnEnds p e below _ (s₁.setTop (mkF m 196 #[.val (.int p0)] [(.int (1 : Int32))]))
      exact own_endN X0 hx hlk (t := .boolean) Bd.returns (by simp) (hb hby d1_196) rfl hk0 hn0 ⟨congrArg (fun z => some (Value.int z)) hF, N0, e0⟩
theorem d2_0 : decode method_2_code 0 = .ok (.iload_n 0, 1) := by decide +kernel
theorem d2_1 : decode method_2_code 1 = .ok (.bipush 65, 2) := by decide +kernel
theorem d2_3 : decode method_2_code 3 = .ok (.if_icmp .ge 5, 3) := by decide +kernel
theorem d2_6 : decode method_2_code 6 = .ok (.iconst 0, 1) := by decide +kernel
theorem d2_7 : decode method_2_code 7 = .ok (.ireturn, 1) := by decide +kernel
theorem d2_8 : decode method_2_code 8 = .ok (.iload_n 0, 1) := by decide +kernel
theorem d2_9 : decode method_2_code 9 = .ok (.bipush 90, 2) := by decide +kernel
theorem d2_11 : decode method_2_code 11 = .ok (.if_icmp .gt 5, 3) := by decide +kernel
theorem d2_14 : decode method_2_code 14 = .ok (.iconst 1, 1) := by decide +kernel
theorem d2_15 : decode method_2_code 15 = .ok (.ireturn, 1) := by decide +kernel
theorem d2_16 : decode method_2_code 16 = .ok (.iload_n 0, 1) := by decide +kernel
theorem d2_17 : decode method_2_code 17 = .ok (.bipush 97, 2) := by decide +kernel
theorem d2_19 : decode method_2_code 19 = .ok (.if_icmp .ge 15, 3) := by decide +kernel
theorem d2_22 : decode method_2_code 22 = .ok (.iload_n 0, 1) := by decide +kernel
theorem d2_23 : decode method_2_code 23 = .ok (.bipush 95, 2) := by decide +kernel
theorem d2_25 : decode method_2_code 25 = .ok (.if_icmp .ne 7, 3) := by decide +kernel
theorem d2_28 : decode method_2_code 28 = .ok (.iconst 1, 1) := by decide +kernel
theorem d2_29 : decode method_2_code 29 = .ok (.goto 4, 3) := by decide +kernel
theorem d2_32 : decode method_2_code 32 = .ok (.iconst 0, 1) := by decide +kernel
theorem d2_33 : decode method_2_code 33 = .ok (.ireturn, 1) := by decide +kernel
theorem d2_34 : decode method_2_code 34 = .ok (.iload_n 0, 1) := by decide +kernel
theorem d2_35 : decode method_2_code 35 = .ok (.bipush 122, 2) := by decide +kernel
theorem d2_37 : decode method_2_code 37 = .ok (.if_icmp .gt 5, 3) := by decide +kernel
theorem d2_40 : decode method_2_code 40 = .ok (.iconst 1, 1) := by decide +kernel
theorem d2_41 : decode method_2_code 41 = .ok (.ireturn, 1) := by decide +kernel
theorem d2_42 : decode method_2_code 42 = .ok (.iload_n 0, 1) := by decide +kernel
theorem d2_43 : decode method_2_code 43 = .ok (.sipush 192, 3) := by decide +kernel
theorem d2_46 : decode method_2_code 46 = .ok (.if_icmp .ge 5, 3) := by decide +kernel
theorem d2_49 : decode method_2_code 49 = .ok (.iconst 0, 1) := by decide +kernel
theorem d2_50 : decode method_2_code 50 = .ok (.ireturn, 1) := by decide +kernel
theorem d2_51 : decode method_2_code 51 = .ok (.iload_n 0, 1) := by decide +kernel
theorem d2_52 : decode method_2_code 52 = .ok (.sipush 767, 3) := by decide +kernel
theorem d2_55 : decode method_2_code 55 = .ok (.if_icmp .gt 23, 3) := by decide +kernel
theorem d2_58 : decode method_2_code 58 = .ok (.iload_n 0, 1) := by decide +kernel
theorem d2_59 : decode method_2_code 59 = .ok (.sipush 215, 3) := by decide +kernel
theorem d2_62 : decode method_2_code 62 = .ok (.if_icmp .eq 14, 3) := by decide +kernel
theorem d2_65 : decode method_2_code 65 = .ok (.iload_n 0, 1) := by decide +kernel
theorem d2_66 : decode method_2_code 66 = .ok (.sipush 247, 3) := by decide +kernel
theorem d2_69 : decode method_2_code 69 = .ok (.if_icmp .eq 7, 3) := by decide +kernel
theorem d2_72 : decode method_2_code 72 = .ok (.iconst 1, 1) := by decide +kernel
theorem d2_73 : decode method_2_code 73 = .ok (.goto 4, 3) := by decide +kernel
theorem d2_76 : decode method_2_code 76 = .ok (.iconst 0, 1) := by decide +kernel
theorem d2_77 : decode method_2_code 77 = .ok (.ireturn, 1) := by decide +kernel
theorem d2_78 : decode method_2_code 78 = .ok (.iload_n 0, 1) := by decide +kernel
theorem d2_79 : decode method_2_code 79 = .ok (.sipush 880, 3) := by decide +kernel
theorem d2_82 : decode method_2_code 82 = .ok (.if_icmp .ge 5, 3) := by decide +kernel
theorem d2_85 : decode method_2_code 85 = .ok (.iconst 0, 1) := by decide +kernel
theorem d2_86 : decode method_2_code 86 = .ok (.ireturn, 1) := by decide +kernel
theorem d2_87 : decode method_2_code 87 = .ok (.iload_n 0, 1) := by decide +kernel
theorem d2_88 : decode method_2_code 88 = .ok (.sipush 8191, 3) := by decide +kernel
theorem d2_91 : decode method_2_code 91 = .ok (.if_icmp .gt 16, 3) := by decide +kernel
theorem d2_94 : decode method_2_code 94 = .ok (.iload_n 0, 1) := by decide +kernel
theorem d2_95 : decode method_2_code 95 = .ok (.sipush 894, 3) := by decide +kernel
theorem d2_98 : decode method_2_code 98 = .ok (.if_icmp .eq 7, 3) := by decide +kernel
theorem d2_101 : decode method_2_code 101 = .ok (.iconst 1, 1) := by decide +kernel
theorem d2_102 : decode method_2_code 102 = .ok (.goto 4, 3) := by decide +kernel
theorem d2_105 : decode method_2_code 105 = .ok (.iconst 0, 1) := by decide +kernel
theorem d2_106 : decode method_2_code 106 = .ok (.ireturn, 1) := by decide +kernel
theorem d2_107 : decode method_2_code 107 = .ok (.iload_n 0, 1) := by decide +kernel
theorem d2_108 : decode method_2_code 108 = .ok (.sipush 8304, 3) := by decide +kernel
theorem d2_111 : decode method_2_code 111 = .ok (.if_icmp .ge 23, 3) := by decide +kernel
theorem d2_114 : decode method_2_code 114 = .ok (.iload_n 0, 1) := by decide +kernel
theorem d2_115 : decode method_2_code 115 = .ok (.sipush 8204, 3) := by decide +kernel
theorem d2_118 : decode method_2_code 118 = .ok (.if_icmp .eq 10, 3) := by decide +kernel
theorem d2_121 : decode method_2_code 121 = .ok (.iload_n 0, 1) := by decide +kernel
theorem d2_122 : decode method_2_code 122 = .ok (.sipush 8205, 3) := by decide +kernel
theorem d2_125 : decode method_2_code 125 = .ok (.if_icmp .ne 7, 3) := by decide +kernel
theorem d2_128 : decode method_2_code 128 = .ok (.iconst 1, 1) := by decide +kernel
theorem d2_129 : decode method_2_code 129 = .ok (.goto 4, 3) := by decide +kernel
theorem d2_132 : decode method_2_code 132 = .ok (.iconst 0, 1) := by decide +kernel
theorem d2_133 : decode method_2_code 133 = .ok (.ireturn, 1) := by decide +kernel
theorem d2_134 : decode method_2_code 134 = .ok (.iload_n 0, 1) := by decide +kernel
theorem d2_135 : decode method_2_code 135 = .ok (.sipush 8591, 3) := by decide +kernel
theorem d2_138 : decode method_2_code 138 = .ok (.if_icmp .gt 5, 3) := by decide +kernel
theorem d2_141 : decode method_2_code 141 = .ok (.iconst 1, 1) := by decide +kernel
theorem d2_142 : decode method_2_code 142 = .ok (.ireturn, 1) := by decide +kernel
theorem d2_143 : decode method_2_code 143 = .ok (.iload_n 0, 1) := by decide +kernel
theorem d2_144 : decode method_2_code 144 = .ok (.sipush 11264, 3) := by decide +kernel
theorem d2_147 : decode method_2_code 147 = .ok (.if_icmp .ge 5, 3) := by decide +kernel
theorem d2_150 : decode method_2_code 150 = .ok (.iconst 0, 1) := by decide +kernel
theorem d2_151 : decode method_2_code 151 = .ok (.ireturn, 1) := by decide +kernel
theorem d2_152 : decode method_2_code 152 = .ok (.iload_n 0, 1) := by decide +kernel
theorem d2_153 : decode method_2_code 153 = .ok (.sipush 12271, 3) := by decide +kernel
theorem d2_156 : decode method_2_code 156 = .ok (.if_icmp .gt 5, 3) := by decide +kernel
theorem d2_159 : decode method_2_code 159 = .ok (.iconst 1, 1) := by decide +kernel
theorem d2_160 : decode method_2_code 160 = .ok (.ireturn, 1) := by decide +kernel
theorem d2_161 : decode method_2_code 161 = .ok (.iload_n 0, 1) := by decide +kernel
theorem d2_162 : decode method_2_code 162 = .ok (.sipush 12288, 3) := by decide +kernel
theorem d2_165 : decode method_2_code 165 = .ok (.if_icmp .gt 5, 3) := by decide +kernel
theorem d2_168 : decode method_2_code 168 = .ok (.iconst 0, 1) := by decide +kernel
theorem d2_169 : decode method_2_code 169 = .ok (.ireturn, 1) := by decide +kernel
theorem d2_170 : decode method_2_code 170 = .ok (.iload_n 0, 1) := by decide +kernel
theorem d2_171 : decode method_2_code 171 = .ok (.ldc 7, 2) := by decide +kernel
theorem d2_173 : decode method_2_code 173 = .ok (.if_icmp .gt 5, 3) := by decide +kernel
theorem d2_176 : decode method_2_code 176 = .ok (.iconst 1, 1) := by decide +kernel
theorem d2_177 : decode method_2_code 177 = .ok (.ireturn, 1) := by decide +kernel
theorem d2_178 : decode method_2_code 178 = .ok (.iload_n 0, 1) := by decide +kernel
theorem d2_179 : decode method_2_code 179 = .ok (.ldc 8, 2) := by decide +kernel
theorem d2_181 : decode method_2_code 181 = .ok (.if_icmp .ge 5, 3) := by decide +kernel
theorem d2_184 : decode method_2_code 184 = .ok (.iconst 0, 1) := by decide +kernel
theorem d2_185 : decode method_2_code 185 = .ok (.ireturn, 1) := by decide +kernel
theorem d2_186 : decode method_2_code 186 = .ok (.iload_n 0, 1) := by decide +kernel
theorem d2_187 : decode method_2_code 187 = .ok (.ldc 9, 2) := by decide +kernel
theorem d2_189 : decode method_2_code 189 = .ok (.if_icmp .gt 21, 3) := by decide +kernel
theorem d2_192 : decode method_2_code 192 = .ok (.iload_n 0, 1) := by decide +kernel
theorem d2_193 : decode method_2_code 193 = .ok (.ldc 10, 2) := by decide +kernel
theorem d2_195 : decode method_2_code 195 = .ok (.if_icmp .lt 9, 3) := by decide +kernel
theorem d2_198 : decode method_2_code 198 = .ok (.iload_n 0, 1) := by decide +kernel
theorem d2_199 : decode method_2_code 199 = .ok (.ldc 11, 2) := by decide +kernel
theorem d2_201 : decode method_2_code 201 = .ok (.if_icmp .le 7, 3) := by decide +kernel
theorem d2_204 : decode method_2_code 204 = .ok (.iconst 1, 1) := by decide +kernel
theorem d2_205 : decode method_2_code 205 = .ok (.goto 4, 3) := by decide +kernel
theorem d2_208 : decode method_2_code 208 = .ok (.iconst 0, 1) := by decide +kernel
theorem d2_209 : decode method_2_code 209 = .ok (.ireturn, 1) := by decide +kernel
theorem d2_210 : decode method_2_code 210 = .ok (.iload_n 0, 1) := by decide +kernel
theorem d2_211 : decode method_2_code 211 = .ok (.ldc 12, 2) := by decide +kernel
theorem d2_213 : decode method_2_code 213 = .ok (.if_icmp .ge 5, 3) := by decide +kernel
theorem d2_216 : decode method_2_code 216 = .ok (.iconst 0, 1) := by decide +kernel
theorem d2_217 : decode method_2_code 217 = .ok (.ireturn, 1) := by decide +kernel
theorem d2_218 : decode method_2_code 218 = .ok (.iload_n 0, 1) := by decide +kernel
theorem d2_219 : decode method_2_code 219 = .ok (.ldc 13, 2) := by decide +kernel
theorem d2_221 : decode method_2_code 221 = .ok (.if_icmp .gt 7, 3) := by decide +kernel
theorem d2_224 : decode method_2_code 224 = .ok (.iconst 1, 1) := by decide +kernel
theorem d2_225 : decode method_2_code 225 = .ok (.goto 4, 3) := by decide +kernel
theorem d2_228 : decode method_2_code 228 = .ok (.iconst 0, 1) := by decide +kernel
theorem d2_229 : decode method_2_code 229 = .ok (.ireturn, 1) := by decide +kernel
theorem ef_2 (m : MethodId) (p0 : Int32) : entryFrame m #[(.int p0)] 1 = mkF m 0 #[.val (.int p0)] [] := by first | (simp [entryFrame, mkF, argsToLocals, Value.category]; done) | rfl
theorem pn_1 : plainName "com/example/lather/lather/xml/XmlNamesIsNameStartCharPinLaw" = true := by first | (simp [plainName, overriddenIn]; done) | decide +kernel
def f2_0 (p0 : Int32) : Int32 := (if p0 < (65 : Int32) then (0 : Int32) else (if (90 : Int32) < p0 then (if p0 < (97 : Int32) then (if p0 = (95 : Int32) then (1 : Int32) else (0 : Int32)) else (if (122 : Int32) < p0 then (if p0 < (192 : Int32) then (0 : Int32) else (if (767 : Int32) < p0 then (if p0 < (880 : Int32) then (0 : Int32) else (if (8191 : Int32) < p0 then (if p0 < (8304 : Int32) then (if p0 = (8204 : Int32) then (1 : Int32) else (if p0 = (8205 : Int32) then (1 : Int32) else (0 : Int32))) else (if (8591 : Int32) < p0 then (if p0 < (11264 : Int32) then (0 : Int32) else (if (12271 : Int32) < p0 then (if (12288 : Int32) < p0 then (if (55295 : Int32) < p0 then (if p0 < (63744 : Int32) then (0 : Int32) else (if (65533 : Int32) < p0 then (if p0 < (65536 : Int32) then (0 : Int32) else (if (983039 : Int32) < p0 then (0 : Int32) else (1 : Int32))) else (if p0 < (64976 : Int32) then (1 : Int32) else (if (65007 : Int32) < p0 then (1 : Int32) else (0 : Int32))))) else (1 : Int32)) else (0 : Int32)) else (1 : Int32))) else (1 : Int32))) else (if p0 = (894 : Int32) then (0 : Int32) else (1 : Int32)))) else (if p0 = (215 : Int32) then (0 : Int32) else (if p0 = (247 : Int32) then (0 : Int32) else (1 : Int32))))) else (1 : Int32))) else (1 : Int32)))
def Q2 (Z : State) (p0 : Int32) (h0 : Heap) (n0 : Nat) (v : Option Value) (h : Heap) (L : List Loc) : Prop := v = some (.int (f2_0 p0)) ∧ Fr n0 L ∧ h = h0
set_option maxRecDepth 65536 in
set_option maxHeartbeats 40000000 in
theorem rm2 (l : Launch) (Z : State) (aZ : Array Value) (hw : ∀ d ∈ tables_1, d.before aZ Z = true) (ws : List Jvm.Cond) (p0 : Int32) (h0 : Heap) (n0 : Nat) (Z0 : n0 ≤ h0.size) :
    MetFree l (⟨"com/example/lather/lather/xml/XmlNamesIsNameStartCharPinLaw", "ref", "(I)Z"⟩ : MethodName) (head1 (Jvm.Cond.code (⟨"com/example/lather/lather/xml/XmlNamesIsNameStartCharPinLaw", "ref", "(I)Z"⟩ : MethodName) method_2_code 1 (some .boolean) :: ws) ({ frames := 0, cells := 0, slots := 0, locals := 0 } : Room)) (fun a U => a = #[(.int p0)] ∧ Z.Warmed39 U.vm ∧ U.heap = h0) (fun _ _ _ _ _ => True) (fun _ U o U' => ∃ v L, o = .returned v ∧ Q2 Z p0 h0 n0 v U'.heap L ∧ FrameEnd U o U' L 0 0) := by
  refine MetFree.of_bodySF (plainFor_of_name pn_1) hisR ?_
  intro p e s m args below meth c s₁ Bd hml0 hP hK
  obtain ⟨rfl, hZ, hh⟩ := hP
  have hx := Bd.exec
  have hby := Bd.bytes
  have hml : c.maxLocals = 1 := hml0
  have hown : s.vm.findClass "com/example/lather/lather/xml/XmlNamesIsNameStartCharPinLaw" = some m.cls := findClass_of_methodNamed Bd.named
  have hnm := (name_of_methodNamed Bd.named Bd.method).1
  have hlk := BodyLoose.notSynchronized Bd
  have X0 : Stand p l e ({ frames := 0, cells := 0, slots := 0, locals := 0 } : Room) s m #[(.int p0)] below meth c s₁ [] 0 0 := Stand.of_body Bd
  have e0 : s₁.heap = h0 := by rw [← hh, Bd.state]; rfl
  have N0 := Fr.nil n0
  have hk0 : 0 ≤ 0 := Nat.zero_le _
  have hn0 : 0 ≤ 0 := Nat.zero_le _
  show OwnEnds p e below (OwnQ s (Q2 Z p0 h0 n0) 0 0) (s₁.setTop (entryFrame m #[(.int p0)] 1))
  refine .pre (fun t k => castTop (ef_2 m p0) k) ?_
  have hF : f2_0 p0 = f2_0 p0 := rfl
  change (if p0 < (65 : Int32) then (0 : Int32) else (if (90 : Int32) < p0 then (if p0 < (97 : Int32) then (if p0 = (95 : Int32) then (1 : Int32) else (0 : Int32)) else (if (122 : Int32) < p0 then (if p0 < (192 : Int32) then (0 : Int32) else (if (767 : Int32) < p0 then (if p0 < (880 : Int32) then (0 : Int32) else (if (8191 : Int32) < p0 then (if p0 < (8304 : Int32) then (if p0 = (8204 : Int32) then (1 : Int32) else (if p0 = (8205 : Int32) then (1 : Int32) else (0 : Int32))) else (if (8591 : Int32) < p0 then (if p0 < (11264 : Int32) then (0 : Int32) else (if (12271 : Int32) < p0 then (if (12288 : Int32) < p0 then (if (55295 : Int32) < p0 then (if p0 < (63744 : Int32) then (0 : Int32) else (if (65533 : Int32) < p0 then (if p0 < (65536 : Int32) then (0 : Int32) else (if (983039 : Int32) < p0 then (0 : Int32) else (1 : Int32))) else (if p0 < (64976 : Int32) then (1 : Int32) else (if (65007 : Int32) < p0 then (1 : Int32) else (0 : Int32))))) else (1 : Int32)) else (0 : Int32)) else (1 : Int32))) else (1 : Int32))) else (if p0 = (894 : Int32) then (0 : Int32) else (1 : Int32)))) else (if p0 = (215 : Int32) then (0 : Int32) else (if p0 = (247 : Int32) then (0 : Int32) else (1 : Int32))))) else (1 : Int32))) else (1 : Int32))) = _ at hF
  show OwnEnds p e below _ (s₁.setTop (mkF m 0 #[.val (.int p0)] []))
  refine .pre (fun _ k => XS.iloadN X0.here hx rfl (hb hby d2_0) rfl k) ?_
  show OwnEnds p e below _ (s₁.setTop (mkF m 1 #[.val (.int p0)] [(.int p0)]))
  refine .pre (fun _ k => XS.bipush X0.here hx rfl (hb hby d2_1) k) ?_
  show OwnEnds p e below _ (s₁.setTop (mkF m 3 #[.val (.int p0)] [(.int (65 : Int32)), (.int p0)]))
  by_cases hc3 : p0 < (65 : Int32)
  · rw [if_pos hc3] at hF
    refine .pre (fun _ k => XS.icmpNo X0.here hx rfl (hb hby d2_3) rfl (tlt hc3).2.1 k) ?_
    show OwnEnds p e below _ (s₁.setTop (mkF m 6 #[.val (.int p0)] []))
    refine .pre (fun _ k => XS.iconst X0.here hx rfl (hb hby d2_6) k) ?_
    show OwnEnds p e below _ (s₁.setTop (mkF m 7 #[.val (.int p0)] [(.int (0 : Int32))]))
    exact own_endN X0 hx hlk (t := .boolean) Bd.returns (by simp) (hb hby d2_7) rfl hk0 hn0 ⟨congrArg (fun z => some (Value.int z)) hF, N0, e0⟩
  · rw [if_neg hc3] at hF
    refine .pre (fun _ k => XS.icmpYes X0.here hx rfl (pc0 := 3) (pc' := 8) rfl (hb hby d2_3) rfl (flt hc3).2.1 (by decide) (by decide) k) ?_
    show OwnEnds p e below _ (s₁.setTop (mkF m 8 #[.val (.int p0)] []))
    refine .pre (fun _ k => XS.iloadN X0.here hx rfl (hb hby d2_8) rfl k) ?_
    show OwnEnds p e below _ (s₁.setTop (mkF m 9 #[.val (.int p0)] [(.int p0)]))
    refine .pre (fun _ k => XS.bipush X0.here hx rfl (hb hby d2_9) k) ?_
    show OwnEnds p e below _ (s₁.setTop (mkF m 11 #[.val (.int p0)] [(.int (90 : Int32)), (.int p0)]))
    by_cases hc11 : (90 : Int32) < p0
    · rw [if_pos hc11] at hF
      refine .pre (fun _ k => XS.icmpYes X0.here hx rfl (pc0 := 11) (pc' := 16) rfl (hb hby d2_11) rfl (tlt hc11).2.2.1 (by decide) (by decide) k) ?_
      show OwnEnds p e below _ (s₁.setTop (mkF m 16 #[.val (.int p0)] []))
      refine .pre (fun _ k => XS.iloadN X0.here hx rfl (hb hby d2_16) rfl k) ?_
      show OwnEnds p e below _ (s₁.setTop (mkF m 17 #[.val (.int p0)] [(.int p0)]))
      refine .pre (fun _ k => XS.bipush X0.here hx rfl (hb hby d2_17) k) ?_
      show OwnEnds p e below _ (s₁.setTop (mkF m 19 #[.val (.int p0)] [(.int (97 : Int32)), (.int p0)]))
      by_cases hc19 : p0 < (97 : Int32)
      · rw [if_pos hc19] at hF
        refine .pre (fun _ k => XS.icmpNo X0.here hx rfl (hb hby d2_19) rfl (tlt hc19).2.1 k) ?_
        show OwnEnds p e below _ (s₁.setTop (mkF m 22 #[.val (.int p0)] []))
        refine .pre (fun _ k => XS.iloadN X0.here hx rfl (hb hby d2_22) rfl k) ?_
        show OwnEnds p e below _ (s₁.setTop (mkF m 23 #[.val (.int p0)] [(.int p0)]))
        refine .pre (fun _ k => XS.bipush X0.here hx rfl (hb hby d2_23) k) ?_
        show OwnEnds p e below _ (s₁.setTop (mkF m 25 #[.val (.int p0)] [(.int (95 : Int32)), (.int p0)]))
        by_cases hc25 : p0 = (95 : Int32)
        · rw [if_pos hc25] at hF
          refine .pre (fun _ k => XS.icmpNo X0.here hx rfl (hb hby d2_25) rfl (teq hc25).2 k) ?_
          show OwnEnds p e below _ (s₁.setTop (mkF m 28 #[.val (.int p0)] []))
          refine .pre (fun _ k => XS.iconst X0.here hx rfl (hb hby d2_28) k) ?_
          show OwnEnds p e below _ (s₁.setTop (mkF m 29 #[.val (.int p0)] [(.int (1 : Int32))]))
          refine .pre (fun _ k => XS.goto X0.here hx rfl (pc0 := 29) (pc' := 33) rfl (hb hby d2_29) (by decide) (by decide) k) ?_
          show OwnEnds p e below _ (s₁.setTop (mkF m 33 #[.val (.int p0)] [(.int (1 : Int32))]))
          exact own_endN X0 hx hlk (t := .boolean) Bd.returns (by simp) (hb hby d2_33) rfl hk0 hn0 ⟨congrArg (fun z => some (Value.int z)) hF, N0, e0⟩
        · rw [if_neg hc25] at hF
          refine .pre (fun _ k => XS.icmpYes X0.here hx rfl (pc0 := 25) (pc' := 32) rfl (hb hby d2_25) rfl (feq hc25).2 (by decide) (by decide) k) ?_
          show OwnEnds p e below _ (s₁.setTop (mkF m 32 #[.val (.int p0)] []))
          refine .pre (fun _ k => XS.iconst X0.here hx rfl (hb hby d2_32) k) ?_
          show OwnEnds p e below _ (s₁.setTop (mkF m 33 #[.val (.int p0)] [(.int (0 : Int32))]))
          exact own_endN X0 hx hlk (t := .boolean) Bd.returns (by simp) (hb hby d2_33) rfl hk0 hn0 ⟨congrArg (fun z => some (Value.int z)) hF, N0, e0⟩
      · rw [if_neg hc19] at hF
        refine .pre (fun _ k => XS.icmpYes X0.here hx rfl (pc0 := 19) (pc' := 34) rfl (hb hby d2_19) rfl (flt hc19).2.1 (by decide) (by decide) k) ?_
        show OwnEnds p e below _ (s₁.setTop (mkF m 34 #[.val (.int p0)] []))
        refine .pre (fun _ k => XS.iloadN X0.here hx rfl (hb hby d2_34) rfl k) ?_
        show OwnEnds p e below _ (s₁.setTop (mkF m 35 #[.val (.int p0)] [(.int p0)]))
        refine .pre (fun _ k => XS.bipush X0.here hx rfl (hb hby d2_35) k) ?_
        show OwnEnds p e below _ (s₁.setTop (mkF m 37 #[.val (.int p0)] [(.int (122 : Int32)), (.int p0)]))
        by_cases hc37 : (122 : Int32) < p0
        · rw [if_pos hc37] at hF
          refine .pre (fun _ k => XS.icmpYes X0.here hx rfl (pc0 := 37) (pc' := 42) rfl (hb hby d2_37) rfl (tlt hc37).2.2.1 (by decide) (by decide) k) ?_
          show OwnEnds p e below _ (s₁.setTop (mkF m 42 #[.val (.int p0)] []))
          refine .pre (fun _ k => XS.iloadN X0.here hx rfl (hb hby d2_42) rfl k) ?_
          show OwnEnds p e below _ (s₁.setTop (mkF m 43 #[.val (.int p0)] [(.int p0)]))
          refine .pre (fun _ k => XS.sipush X0.here hx rfl (hb hby d2_43) k) ?_
          show OwnEnds p e below _ (s₁.setTop (mkF m 46 #[.val (.int p0)] [(.int (192 : Int32)), (.int p0)]))
          by_cases hc46 : p0 < (192 : Int32)
          · rw [if_pos hc46] at hF
            refine .pre (fun _ k => XS.icmpNo X0.here hx rfl (hb hby d2_46) rfl (tlt hc46).2.1 k) ?_
            show OwnEnds p e below _ (s₁.setTop (mkF m 49 #[.val (.int p0)] []))
            refine .pre (fun _ k => XS.iconst X0.here hx rfl (hb hby d2_49) k) ?_
            show OwnEnds p e below _ (s₁.setTop (mkF m 50 #[.val (.int p0)] [(.int (0 : Int32))]))
            exact own_endN X0 hx hlk (t := .boolean) Bd.returns (by simp) (hb hby d2_50) rfl hk0 hn0 ⟨congrArg (fun z => some (Value.int z)) hF, N0, e0⟩
          · rw [if_neg hc46] at hF
            refine .pre (fun _ k => XS.icmpYes X0.here hx rfl (pc0 := 46) (pc' := 51) rfl (hb hby d2_46) rfl (flt hc46).2.1 (by decide) (by decide) k) ?_
            show OwnEnds p e below _ (s₁.setTop (mkF m 51 #[.val (.int p0)] []))
            refine .pre (fun _ k => XS.iloadN X0.here hx rfl (hb hby d2_51) rfl k) ?_
            show OwnEnds p e below _ (s₁.setTop (mkF m 52 #[.val (.int p0)] [(.int p0)]))
            refine .pre (fun _ k => XS.sipush X0.here hx rfl (hb hby d2_52) k) ?_
            show OwnEnds p e below _ (s₁.setTop (mkF m 55 #[.val (.int p0)] [(.int (767 : Int32)), (.int p0)]))
            by_cases hc55 : (767 : Int32) < p0
            · rw [if_pos hc55] at hF
              refine .pre (fun _ k => XS.icmpYes X0.here hx rfl (pc0 := 55) (pc' := 78) rfl (hb hby d2_55) rfl (tlt hc55).2.2.1 (by decide) (by decide) k) ?_
              show OwnEnds p e below _ (s₁.setTop (mkF m 78 #[.val (.int p0)] []))
              refine .pre (fun _ k => XS.iloadN X0.here hx rfl (hb hby d2_78) rfl k) ?_
              show OwnEnds p e below _ (s₁.setTop (mkF m 79 #[.val (.int p0)] [(.int p0)]))
              refine .pre (fun _ k => XS.sipush X0.here hx rfl (hb hby d2_79) k) ?_
              show OwnEnds p e below _ (s₁.setTop (mkF m 82 #[.val (.int p0)] [(.int (880 : Int32)), (.int p0)]))
              by_cases hc82 : p0 < (880 : Int32)
              · rw [if_pos hc82] at hF
                refine .pre (fun _ k => XS.icmpNo X0.here hx rfl (hb hby d2_82) rfl (tlt hc82).2.1 k) ?_
                show OwnEnds p e below _ (s₁.setTop (mkF m 85 #[.val (.int p0)] []))
                refine .pre (fun _ k => XS.iconst X0.here hx rfl (hb hby d2_85) k) ?_
                show OwnEnds p e below _ (s₁.setTop (mkF m 86 #[.val (.int p0)] [(.int (0 : Int32))]))
                exact own_endN X0 hx hlk (t := .boolean) Bd.returns (by simp) (hb hby d2_86) rfl hk0 hn0 ⟨congrArg (fun z => some (Value.int z)) hF, N0, e0⟩
              · rw [if_neg hc82] at hF
                refine .pre (fun _ k => XS.icmpYes X0.here hx rfl (pc0 := 82) (pc' := 87) rfl (hb hby d2_82) rfl (flt hc82).2.1 (by decide) (by decide) k) ?_
                show OwnEnds p e below _ (s₁.setTop (mkF m 87 #[.val (.int p0)] []))
                refine .pre (fun _ k => XS.iloadN X0.here hx rfl (hb hby d2_87) rfl k) ?_
                show OwnEnds p e below _ (s₁.setTop (mkF m 88 #[.val (.int p0)] [(.int p0)]))
                refine .pre (fun _ k => XS.sipush X0.here hx rfl (hb hby d2_88) k) ?_
                show OwnEnds p e below _ (s₁.setTop (mkF m 91 #[.val (.int p0)] [(.int (8191 : Int32)), (.int p0)]))
                by_cases hc91 : (8191 : Int32) < p0
                · rw [if_pos hc91] at hF
                  refine .pre (fun _ k => XS.icmpYes X0.here hx rfl (pc0 := 91) (pc' := 107) rfl (hb hby d2_91) rfl (tlt hc91).2.2.1 (by decide) (by decide) k) ?_
                  show OwnEnds p e below _ (s₁.setTop (mkF m 107 #[.val (.int p0)] []))
                  refine .pre (fun _ k => XS.iloadN X0.here hx rfl (hb hby d2_107) rfl k) ?_
                  show OwnEnds p e below _ (s₁.setTop (mkF m 108 #[.val (.int p0)] [(.int p0)]))
                  refine .pre (fun _ k => XS.sipush X0.here hx rfl (hb hby d2_108) k) ?_
                  show OwnEnds p e below _ (s₁.setTop (mkF m 111 #[.val (.int p0)] [(.int (8304 : Int32)), (.int p0)]))
                  by_cases hc111 : p0 < (8304 : Int32)
                  · rw [if_pos hc111] at hF
                    refine .pre (fun _ k => XS.icmpNo X0.here hx rfl (hb hby d2_111) rfl (tlt hc111).2.1 k) ?_
                    show OwnEnds p e below _ (s₁.setTop (mkF m 114 #[.val (.int p0)] []))
                    refine .pre (fun _ k => XS.iloadN X0.here hx rfl (hb hby d2_114) rfl k) ?_
                    show OwnEnds p e below _ (s₁.setTop (mkF m 115 #[.val (.int p0)] [(.int p0)]))
                    refine .pre (fun _ k => XS.sipush X0.here hx rfl (hb hby d2_115) k) ?_
                    show OwnEnds p e below _ (s₁.setTop (mkF m 118 #[.val (.int p0)] [(.int (8204 : Int32)), (.int p0)]))
                    by_cases hc118 : p0 = (8204 : Int32)
                    · rw [if_pos hc118] at hF
                      refine .pre (fun _ k => XS.icmpYes X0.here hx rfl (pc0 := 118) (pc' := 128) rfl (hb hby d2_118) rfl (teq hc118).1 (by decide) (by decide) k) ?_
                      show OwnEnds p e below _ (s₁.setTop (mkF m 128 #[.val (.int p0)] []))
                      refine .pre (fun _ k => XS.iconst X0.here hx rfl (hb hby d2_128) k) ?_
                      show OwnEnds p e below _ (s₁.setTop (mkF m 129 #[.val (.int p0)] [(.int (1 : Int32))]))
                      refine .pre (fun _ k => XS.goto X0.here hx rfl (pc0 := 129) (pc' := 133) rfl (hb hby d2_129) (by decide) (by decide) k) ?_
                      show OwnEnds p e below _ (s₁.setTop (mkF m 133 #[.val (.int p0)] [(.int (1 : Int32))]))
                      exact own_endN X0 hx hlk (t := .boolean) Bd.returns (by simp) (hb hby d2_133) rfl hk0 hn0 ⟨congrArg (fun z => some (Value.int z)) hF, N0, e0⟩
                    · rw [if_neg hc118] at hF
                      refine .pre (fun _ k => XS.icmpNo X0.here hx rfl (hb hby d2_118) rfl (feq hc118).1 k) ?_
                      show OwnEnds p e below _ (s₁.setTop (mkF m 121 #[.val (.int p0)] []))
                      refine .pre (fun _ k => XS.iloadN X0.here hx rfl (hb hby d2_121) rfl k) ?_
                      show OwnEnds p e below _ (s₁.setTop (mkF m 122 #[.val (.int p0)] [(.int p0)]))
                      refine .pre (fun _ k => XS.sipush X0.here hx rfl (hb hby d2_122) k) ?_
                      show OwnEnds p e below _ (s₁.setTop (mkF m 125 #[.val (.int p0)] [(.int (8205 : Int32)), (.int p0)]))
                      by_cases hc125 : p0 = (8205 : Int32)
                      · rw [if_pos hc125] at hF
                        refine .pre (fun _ k => XS.icmpNo X0.here hx rfl (hb hby d2_125) rfl (teq hc125).2 k) ?_
                        show OwnEnds p e below _ (s₁.setTop (mkF m 128 #[.val (.int p0)] []))
                        refine .pre (fun _ k => XS.iconst X0.here hx rfl (hb hby d2_128) k) ?_
                        show OwnEnds p e below _ (s₁.setTop (mkF m 129 #[.val (.int p0)] [(.int (1 : Int32))]))
                        refine .pre (fun _ k => XS.goto X0.here hx rfl (pc0 := 129) (pc' := 133) rfl (hb hby d2_129) (by decide) (by decide) k) ?_
                        show OwnEnds p e below _ (s₁.setTop (mkF m 133 #[.val (.int p0)] [(.int (1 : Int32))]))
                        exact own_endN X0 hx hlk (t := .boolean) Bd.returns (by simp) (hb hby d2_133) rfl hk0 hn0 ⟨congrArg (fun z => some (Value.int z)) hF, N0, e0⟩
                      · rw [if_neg hc125] at hF
                        refine .pre (fun _ k => XS.icmpYes X0.here hx rfl (pc0 := 125) (pc' := 132) rfl (hb hby d2_125) rfl (feq hc125).2 (by decide) (by decide) k) ?_
                        show OwnEnds p e below _ (s₁.setTop (mkF m 132 #[.val (.int p0)] []))
                        refine .pre (fun _ k => XS.iconst X0.here hx rfl (hb hby d2_132) k) ?_
                        show OwnEnds p e below _ (s₁.setTop (mkF m 133 #[.val (.int p0)] [(.int (0 : Int32))]))
                        exact own_endN X0 hx hlk (t := .boolean) Bd.returns (by simp) (hb hby d2_133) rfl hk0 hn0 ⟨congrArg (fun z => some (Value.int z)) hF, N0, e0⟩
                  · rw [if_neg hc111] at hF
                    refine .pre (fun _ k => XS.icmpYes X0.here hx rfl (pc0 := 111) (pc' := 134) rfl (hb hby d2_111) rfl (flt hc111).2.1 (by decide) (by decide) k) ?_
                    show OwnEnds p e below _ (s₁.setTop (mkF m 134 #[.val (.int p0)] []))
                    refine .pre (fun _ k => XS.iloadN X0.here hx rfl (hb hby d2_134) rfl k) ?_
                    show OwnEnds p e below _ (s₁.setTop (mkF m 135 #[.val (.int p0)] [(.int p0)]))
                    refine .pre (fun _ k => XS.sipush X0.here hx rfl (hb hby d2_135) k) ?_
                    show OwnEnds p e below _ (s₁.setTop (mkF m 138 #[.val (.int p0)] [(.int (8591 : Int32)), (.int p0)]))
                    by_cases hc138 : (8591 : Int32) < p0
                    · rw [if_pos hc138] at hF
                      refine .pre (fun _ k => XS.icmpYes X0.here hx rfl (pc0 := 138) (pc' := 143) rfl (hb hby d2_138) rfl (tlt hc138).2.2.1 (by decide) (by decide) k) ?_
                      show OwnEnds p e below _ (s₁.setTop (mkF m 143 #[.val (.int p0)] []))
                      refine .pre (fun _ k => XS.iloadN X0.here hx rfl (hb hby d2_143) rfl k) ?_
                      show OwnEnds p e below _ (s₁.setTop (mkF m 144 #[.val (.int p0)] [(.int p0)]))
                      refine .pre (fun _ k => XS.sipush X0.here hx rfl (hb hby d2_144) k) ?_
                      show OwnEnds p e below _ (s₁.setTop (mkF m 147 #[.val (.int p0)] [(.int (11264 : Int32)), (.int p0)]))
                      by_cases hc147 : p0 < (11264 : Int32)
                      · rw [if_pos hc147] at hF
                        refine .pre (fun _ k => XS.icmpNo X0.here hx rfl (hb hby d2_147) rfl (tlt hc147).2.1 k) ?_
                        show OwnEnds p e below _ (s₁.setTop (mkF m 150 #[.val (.int p0)] []))
                        refine .pre (fun _ k => XS.iconst X0.here hx rfl (hb hby d2_150) k) ?_
                        show OwnEnds p e below _ (s₁.setTop (mkF m 151 #[.val (.int p0)] [(.int (0 : Int32))]))
                        exact own_endN X0 hx hlk (t := .boolean) Bd.returns (by simp) (hb hby d2_151) rfl hk0 hn0 ⟨congrArg (fun z => some (Value.int z)) hF, N0, e0⟩
                      · rw [if_neg hc147] at hF
                        refine .pre (fun _ k => XS.icmpYes X0.here hx rfl (pc0 := 147) (pc' := 152) rfl (hb hby d2_147) rfl (flt hc147).2.1 (by decide) (by decide) k) ?_
                        show OwnEnds p e below _ (s₁.setTop (mkF m 152 #[.val (.int p0)] []))
                        refine .pre (fun _ k => XS.iloadN X0.here hx rfl (hb hby d2_152) rfl k) ?_
                        show OwnEnds p e below _ (s₁.setTop (mkF m 153 #[.val (.int p0)] [(.int p0)]))
                        refine .pre (fun _ k => XS.sipush X0.here hx rfl (hb hby d2_153) k) ?_
                        show OwnEnds p e below _ (s₁.setTop (mkF m 156 #[.val (.int p0)] [(.int (12271 : Int32)), (.int p0)]))
                        by_cases hc156 : (12271 : Int32) < p0
                        · rw [if_pos hc156] at hF
                          refine .pre (fun _ k => XS.icmpYes X0.here hx rfl (pc0 := 156) (pc' := 161) rfl (hb hby d2_156) rfl (tlt hc156).2.2.1 (by decide) (by decide) k) ?_
                          show OwnEnds p e below _ (s₁.setTop (mkF m 161 #[.val (.int p0)] []))
                          refine .pre (fun _ k => XS.iloadN X0.here hx rfl (hb hby d2_161) rfl k) ?_
                          show OwnEnds p e below _ (s₁.setTop (mkF m 162 #[.val (.int p0)] [(.int p0)]))
                          refine .pre (fun _ k => XS.sipush X0.here hx rfl (hb hby d2_162) k) ?_
                          show OwnEnds p e below _ (s₁.setTop (mkF m 165 #[.val (.int p0)] [(.int (12288 : Int32)), (.int p0)]))
                          by_cases hc165 : (12288 : Int32) < p0
                          · rw [if_pos hc165] at hF
                            refine .pre (fun _ k => XS.icmpYes X0.here hx rfl (pc0 := 165) (pc' := 170) rfl (hb hby d2_165) rfl (tlt hc165).2.2.1 (by decide) (by decide) k) ?_
                            show OwnEnds p e below _ (s₁.setTop (mkF m 170 #[.val (.int p0)] []))
                            refine .pre (fun _ k => XS.iloadN X0.here hx rfl (hb hby d2_170) rfl k) ?_
                            show OwnEnds p e below _ (s₁.setTop (mkF m 171 #[.val (.int p0)] [(.int p0)]))
                            refine .pre (fun _ k => X0.ldcInt hx hown (mvT hZ (hw _ (List.mem_of_getElem? (i := 1) rfl))) (g := (mkF m 171 #[.val (.int p0)] [(.int p0)])) rfl (hb hby d2_171) _ k) ?_
                            show OwnEnds p e below _ (s₁.setTop (mkF m 173 #[.val (.int p0)] [(.int (55295 : Int32)), (.int p0)]))
                            by_cases hc173 : (55295 : Int32) < p0
                            · rw [if_pos hc173] at hF
                              refine .pre (fun _ k => XS.icmpYes X0.here hx rfl (pc0 := 173) (pc' := 178) rfl (hb hby d2_173) rfl (tlt hc173).2.2.1 (by decide) (by decide) k) ?_
                              show OwnEnds p e below _ (s₁.setTop (mkF m 178 #[.val (.int p0)] []))
                              refine .pre (fun _ k => XS.iloadN X0.here hx rfl (hb hby d2_178) rfl k) ?_
                              show OwnEnds p e below _ (s₁.setTop (mkF m 179 #[.val (.int p0)] [(.int p0)]))
                              refine .pre (fun _ k => X0.ldcInt hx hown (mvT hZ (hw _ (List.mem_of_getElem? (i := 2) rfl))) (g := (mkF m 179 #[.val (.int p0)] [(.int p0)])) rfl (hb hby d2_179) _ k) ?_
                              show OwnEnds p e below _ (s₁.setTop (mkF m 181 #[.val (.int p0)] [(.int (63744 : Int32)), (.int p0)]))
                              by_cases hc181 : p0 < (63744 : Int32)
                              · rw [if_pos hc181] at hF
                                refine .pre (fun _ k => XS.icmpNo X0.here hx rfl (hb hby d2_181) rfl (tlt hc181).2.1 k) ?_
                                show OwnEnds p e below _ (s₁.setTop (mkF m 184 #[.val (.int p0)] []))
                                refine .pre (fun _ k => XS.iconst X0.here hx rfl (hb hby d2_184) k) ?_
                                show OwnEnds p e below _ (s₁.setTop (mkF m 185 #[.val (.int p0)] [(.int (0 : Int32))]))
                                exact own_endN X0 hx hlk (t := .boolean) Bd.returns (by simp) (hb hby d2_185) rfl hk0 hn0 ⟨congrArg (fun z => some (Value.int z)) hF, N0, e0⟩
                              · rw [if_neg hc181] at hF
                                refine .pre (fun _ k => XS.icmpYes X0.here hx rfl (pc0 := 181) (pc' := 186) rfl (hb hby d2_181) rfl (flt hc181).2.1 (by decide) (by decide) k) ?_
                                show OwnEnds p e below _ (s₁.setTop (mkF m 186 #[.val (.int p0)] []))
                                refine .pre (fun _ k => XS.iloadN X0.here hx rfl (hb hby d2_186) rfl k) ?_
                                show OwnEnds p e below _ (s₁.setTop (mkF m 187 #[.val (.int p0)] [(.int p0)]))
                                refine .pre (fun _ k => X0.ldcInt hx hown (mvT hZ (hw _ (List.mem_of_getElem? (i := 5) rfl))) (g := (mkF m 187 #[.val (.int p0)] [(.int p0)])) rfl (hb hby d2_187) _ k) ?_
                                show OwnEnds p e below _ (s₁.setTop (mkF m 189 #[.val (.int p0)] [(.int (65533 : Int32)), (.int p0)]))
                                by_cases hc189 : (65533 : Int32) < p0
                                · rw [if_pos hc189] at hF
                                  refine .pre (fun _ k => XS.icmpYes X0.here hx rfl (pc0 := 189) (pc' := 210) rfl (hb hby d2_189) rfl (tlt hc189).2.2.1 (by decide) (by decide) k) ?_
                                  show OwnEnds p e below _ (s₁.setTop (mkF m 210 #[.val (.int p0)] []))
                                  refine .pre (fun _ k => XS.iloadN X0.here hx rfl (hb hby d2_210) rfl k) ?_
                                  show OwnEnds p e below _ (s₁.setTop (mkF m 211 #[.val (.int p0)] [(.int p0)]))
                                  refine .pre (fun _ k => X0.ldcInt hx hown (mvT hZ (hw _ (List.mem_of_getElem? (i := 6) rfl))) (g := (mkF m 211 #[.val (.int p0)] [(.int p0)])) rfl (hb hby d2_211) _ k) ?_
                                  show OwnEnds p e below _ (s₁.setTop (mkF m 213 #[.val (.int p0)] [(.int (65536 : Int32)), (.int p0)]))
                                  by_cases hc213 : p0 < (65536 : Int32)
                                  · rw [if_pos hc213] at hF
                                    refine .pre (fun _ k => XS.icmpNo X0.here hx rfl (hb hby d2_213) rfl (tlt hc213).2.1 k) ?_
                                    show OwnEnds p e below _ (s₁.setTop (mkF m 216 #[.val (.int p0)] []))
                                    refine .pre (fun _ k => XS.iconst X0.here hx rfl (hb hby d2_216) k) ?_
                                    show OwnEnds p e below _ (s₁.setTop (mkF m 217 #[.val (.int p0)] [(.int (0 : Int32))]))
                                    exact own_endN X0 hx hlk (t := .boolean) Bd.returns (by simp) (hb hby d2_217) rfl hk0 hn0 ⟨congrArg (fun z => some (Value.int z)) hF, N0, e0⟩
                                  · rw [if_neg hc213] at hF
                                    refine .pre (fun _ k => XS.icmpYes X0.here hx rfl (pc0 := 213) (pc' := 218) rfl (hb hby d2_213) rfl (flt hc213).2.1 (by decide) (by decide) k) ?_
                                    show OwnEnds p e below _ (s₁.setTop (mkF m 218 #[.val (.int p0)] []))
                                    refine .pre (fun _ k => XS.iloadN X0.here hx rfl (hb hby d2_218) rfl k) ?_
                                    show OwnEnds p e below _ (s₁.setTop (mkF m 219 #[.val (.int p0)] [(.int p0)]))
                                    refine .pre (fun _ k => X0.ldcInt hx hown (mvT hZ (hw _ (List.mem_of_getElem? (i := 7) rfl))) (g := (mkF m 219 #[.val (.int p0)] [(.int p0)])) rfl (hb hby d2_219) _ k) ?_
                                    show OwnEnds p e below _ (s₁.setTop (mkF m 221 #[.val (.int p0)] [(.int (983039 : Int32)), (.int p0)]))
                                    by_cases hc221 : (983039 : Int32) < p0
                                    · rw [if_pos hc221] at hF
                                      refine .pre (fun _ k => XS.icmpYes X0.here hx rfl (pc0 := 221) (pc' := 228) rfl (hb hby d2_221) rfl (tlt hc221).2.2.1 (by decide) (by decide) k) ?_
                                      show OwnEnds p e below _ (s₁.setTop (mkF m 228 #[.val (.int p0)] []))
                                      refine .pre (fun _ k => XS.iconst X0.here hx rfl (hb hby d2_228) k) ?_
                                      show OwnEnds p e below _ (s₁.setTop (mkF m 229 #[.val (.int p0)] [(.int (0 : Int32))]))
                                      exact own_endN X0 hx hlk (t := .boolean) Bd.returns (by simp) (hb hby d2_229) rfl hk0 hn0 ⟨congrArg (fun z => some (Value.int z)) hF, N0, e0⟩
                                    · rw [if_neg hc221] at hF
                                      refine .pre (fun _ k => XS.icmpNo X0.here hx rfl (hb hby d2_221) rfl (flt hc221).2.2.1 k) ?_
                                      show OwnEnds p e below _ (s₁.setTop (mkF m 224 #[.val (.int p0)] []))
                                      refine .pre (fun _ k => XS.iconst X0.here hx rfl (hb hby d2_224) k) ?_
                                      show OwnEnds p e below _ (s₁.setTop (mkF m 225 #[.val (.int p0)] [(.int (1 : Int32))]))
                                      refine .pre (fun _ k => XS.goto X0.here hx rfl (pc0 := 225) (pc' := 229) rfl (hb hby d2_225) (by decide) (by decide) k) ?_
                                      show OwnEnds p e below _ (s₁.setTop (mkF m 229 #[.val (.int p0)] [(.int (1 : Int32))]))
                                      exact own_endN X0 hx hlk (t := .boolean) Bd.returns (by simp) (hb hby d2_229) rfl hk0 hn0 ⟨congrArg (fun z => some (Value.int z)) hF, N0, e0⟩
                                · rw [if_neg hc189] at hF
                                  refine .pre (fun _ k => XS.icmpNo X0.here hx rfl (hb hby d2_189) rfl (flt hc189).2.2.1 k) ?_
                                  show OwnEnds p e below _ (s₁.setTop (mkF m 192 #[.val (.int p0)] []))
                                  refine .pre (fun _ k => XS.iloadN X0.here hx rfl (hb hby d2_192) rfl k) ?_
                                  show OwnEnds p e below _ (s₁.setTop (mkF m 193 #[.val (.int p0)] [(.int p0)]))
                                  refine .pre (fun _ k => X0.ldcInt hx hown (mvT hZ (hw _ (List.mem_of_getElem? (i := 25) rfl))) (g := (mkF m 193 #[.val (.int p0)] [(.int p0)])) rfl (hb hby d2_193) _ k) ?_
                                  show OwnEnds p e below _ (s₁.setTop (mkF m 195 #[.val (.int p0)] [(.int (64976 : Int32)), (.int p0)]))
                                  by_cases hc195 : p0 < (64976 : Int32)
                                  · rw [if_pos hc195] at hF
                                    refine .pre (fun _ k => XS.icmpYes X0.here hx rfl (pc0 := 195) (pc' := 204) rfl (hb hby d2_195) rfl (tlt hc195).1 (by decide) (by decide) k) ?_
                                    show OwnEnds p e below _ (s₁.setTop (mkF m 204 #[.val (.int p0)] []))
                                    refine .pre (fun _ k => XS.iconst X0.here hx rfl (hb hby d2_204) k) ?_
                                    show OwnEnds p e below _ (s₁.setTop (mkF m 205 #[.val (.int p0)] [(.int (1 : Int32))]))
                                    refine .pre (fun _ k => XS.goto X0.here hx rfl (pc0 := 205) (pc' := 209) rfl (hb hby d2_205) (by decide) (by decide) k) ?_
                                    show OwnEnds p e below _ (s₁.setTop (mkF m 209 #[.val (.int p0)] [(.int (1 : Int32))]))
                                    exact own_endN X0 hx hlk (t := .boolean) Bd.returns (by simp) (hb hby d2_209) rfl hk0 hn0 ⟨congrArg (fun z => some (Value.int z)) hF, N0, e0⟩
                                  · rw [if_neg hc195] at hF
                                    refine .pre (fun _ k => XS.icmpNo X0.here hx rfl (hb hby d2_195) rfl (flt hc195).1 k) ?_
                                    show OwnEnds p e below _ (s₁.setTop (mkF m 198 #[.val (.int p0)] []))
                                    refine .pre (fun _ k => XS.iloadN X0.here hx rfl (hb hby d2_198) rfl k) ?_
                                    show OwnEnds p e below _ (s₁.setTop (mkF m 199 #[.val (.int p0)] [(.int p0)]))
                                    refine .pre (fun _ k => X0.ldcInt hx hown (mvT hZ (hw _ (List.mem_of_getElem? (i := 26) rfl))) (g := (mkF m 199 #[.val (.int p0)] [(.int p0)])) rfl (hb hby d2_199) _ k) ?_
                                    show OwnEnds p e below _ (s₁.setTop (mkF m 201 #[.val (.int p0)] [(.int (65007 : Int32)), (.int p0)]))
                                    by_cases hc201 : (65007 : Int32) < p0
                                    · rw [if_pos hc201] at hF
                                      refine .pre (fun _ k => XS.icmpNo X0.here hx rfl (hb hby d2_201) rfl (tlt hc201).2.2.2 k) ?_
                                      show OwnEnds p e below _ (s₁.setTop (mkF m 204 #[.val (.int p0)] []))
                                      refine .pre (fun _ k => XS.iconst X0.here hx rfl (hb hby d2_204) k) ?_
                                      show OwnEnds p e below _ (s₁.setTop (mkF m 205 #[.val (.int p0)] [(.int (1 : Int32))]))
                                      refine .pre (fun _ k => XS.goto X0.here hx rfl (pc0 := 205) (pc' := 209) rfl (hb hby d2_205) (by decide) (by decide) k) ?_
                                      show OwnEnds p e below _ (s₁.setTop (mkF m 209 #[.val (.int p0)] [(.int (1 : Int32))]))
                                      exact own_endN X0 hx hlk (t := .boolean) Bd.returns (by simp) (hb hby d2_209) rfl hk0 hn0 ⟨congrArg (fun z => some (Value.int z)) hF, N0, e0⟩
                                    · rw [if_neg hc201] at hF
                                      refine .pre (fun _ k => XS.icmpYes X0.here hx rfl (pc0 := 201) (pc' := 208) rfl (hb hby d2_201) rfl (flt hc201).2.2.2 (by decide) (by decide) k) ?_
                                      show OwnEnds p e below _ (s₁.setTop (mkF m 208 #[.val (.int p0)] []))
                                      refine .pre (fun _ k => XS.iconst X0.here hx rfl (hb hby d2_208) k) ?_
                                      show OwnEnds p e below _ (s₁.setTop (mkF m 209 #[.val (.int p0)] [(.int (0 : Int32))]))
                                      exact own_endN X0 hx hlk (t := .boolean) Bd.returns (by simp) (hb hby d2_209) rfl hk0 hn0 ⟨congrArg (fun z => some (Value.int z)) hF, N0, e0⟩
                            · rw [if_neg hc173] at hF
                              refine .pre (fun _ k => XS.icmpNo X0.here hx rfl (hb hby d2_173) rfl (flt hc173).2.2.1 k) ?_
                              show OwnEnds p e below _ (s₁.setTop (mkF m 176 #[.val (.int p0)] []))
                              refine .pre (fun _ k => XS.iconst X0.here hx rfl (hb hby d2_176) k) ?_
                              show OwnEnds p e below _ (s₁.setTop (mkF m 177 #[.val (.int p0)] [(.int (1 : Int32))]))
                              exact own_endN X0 hx hlk (t := .boolean) Bd.returns (by simp) (hb hby d2_177) rfl hk0 hn0 ⟨congrArg (fun z => some (Value.int z)) hF, N0, e0⟩
                          · rw [if_neg hc165] at hF
                            refine .pre (fun _ k => XS.icmpNo X0.here hx rfl (hb hby d2_165) rfl (flt hc165).2.2.1 k) ?_
                            show OwnEnds p e below _ (s₁.setTop (mkF m 168 #[.val (.int p0)] []))
                            refine .pre (fun _ k => XS.iconst X0.here hx rfl (hb hby d2_168) k) ?_
                            show OwnEnds p e below _ (s₁.setTop (mkF m 169 #[.val (.int p0)] [(.int (0 : Int32))]))
                            exact own_endN X0 hx hlk (t := .boolean) Bd.returns (by simp) (hb hby d2_169) rfl hk0 hn0 ⟨congrArg (fun z => some (Value.int z)) hF, N0, e0⟩
                        · rw [if_neg hc156] at hF
                          refine .pre (fun _ k => XS.icmpNo X0.here hx rfl (hb hby d2_156) rfl (flt hc156).2.2.1 k) ?_
                          show OwnEnds p e below _ (s₁.setTop (mkF m 159 #[.val (.int p0)] []))
                          refine .pre (fun _ k => XS.iconst X0.here hx rfl (hb hby d2_159) k) ?_
                          show OwnEnds p e below _ (s₁.setTop (mkF m 160 #[.val (.int p0)] [(.int (1 : Int32))]))
                          exact own_endN X0 hx hlk (t := .boolean) Bd.returns (by simp) (hb hby d2_160) rfl hk0 hn0 ⟨congrArg (fun z => some (Value.int z)) hF, N0, e0⟩
                    · rw [if_neg hc138] at hF
                      refine .pre (fun _ k => XS.icmpNo X0.here hx rfl (hb hby d2_138) rfl (flt hc138).2.2.1 k) ?_
                      show OwnEnds p e below _ (s₁.setTop (mkF m 141 #[.val (.int p0)] []))
                      refine .pre (fun _ k => XS.iconst X0.here hx rfl (hb hby d2_141) k) ?_
                      show OwnEnds p e below _ (s₁.setTop (mkF m 142 #[.val (.int p0)] [(.int (1 : Int32))]))
                      exact own_endN X0 hx hlk (t := .boolean) Bd.returns (by simp) (hb hby d2_142) rfl hk0 hn0 ⟨congrArg (fun z => some (Value.int z)) hF, N0, e0⟩
                · rw [if_neg hc91] at hF
                  refine .pre (fun _ k => XS.icmpNo X0.here hx rfl (hb hby d2_91) rfl (flt hc91).2.2.1 k) ?_
                  show OwnEnds p e below _ (s₁.setTop (mkF m 94 #[.val (.int p0)] []))
                  refine .pre (fun _ k => XS.iloadN X0.here hx rfl (hb hby d2_94) rfl k) ?_
                  show OwnEnds p e below _ (s₁.setTop (mkF m 95 #[.val (.int p0)] [(.int p0)]))
                  refine .pre (fun _ k => XS.sipush X0.here hx rfl (hb hby d2_95) k) ?_
                  show OwnEnds p e below _ (s₁.setTop (mkF m 98 #[.val (.int p0)] [(.int (894 : Int32)), (.int p0)]))
                  by_cases hc98 : p0 = (894 : Int32)
                  · rw [if_pos hc98] at hF
                    refine .pre (fun _ k => XS.icmpYes X0.here hx rfl (pc0 := 98) (pc' := 105) rfl (hb hby d2_98) rfl (teq hc98).1 (by decide) (by decide) k) ?_
                    show OwnEnds p e below _ (s₁.setTop (mkF m 105 #[.val (.int p0)] []))
                    refine .pre (fun _ k => XS.iconst X0.here hx rfl (hb hby d2_105) k) ?_
                    show OwnEnds p e below _ (s₁.setTop (mkF m 106 #[.val (.int p0)] [(.int (0 : Int32))]))
                    exact own_endN X0 hx hlk (t := .boolean) Bd.returns (by simp) (hb hby d2_106) rfl hk0 hn0 ⟨congrArg (fun z => some (Value.int z)) hF, N0, e0⟩
                  · rw [if_neg hc98] at hF
                    refine .pre (fun _ k => XS.icmpNo X0.here hx rfl (hb hby d2_98) rfl (feq hc98).1 k) ?_
                    show OwnEnds p e below _ (s₁.setTop (mkF m 101 #[.val (.int p0)] []))
                    refine .pre (fun _ k => XS.iconst X0.here hx rfl (hb hby d2_101) k) ?_
                    show OwnEnds p e below _ (s₁.setTop (mkF m 102 #[.val (.int p0)] [(.int (1 : Int32))]))
                    refine .pre (fun _ k => XS.goto X0.here hx rfl (pc0 := 102) (pc' := 106) rfl (hb hby d2_102) (by decide) (by decide) k) ?_
                    show OwnEnds p e below _ (s₁.setTop (mkF m 106 #[.val (.int p0)] [(.int (1 : Int32))]))
                    exact own_endN X0 hx hlk (t := .boolean) Bd.returns (by simp) (hb hby d2_106) rfl hk0 hn0 ⟨congrArg (fun z => some (Value.int z)) hF, N0, e0⟩
            · rw [if_neg hc55] at hF
              refine .pre (fun _ k => XS.icmpNo X0.here hx rfl (hb hby d2_55) rfl (flt hc55).2.2.1 k) ?_
              show OwnEnds p e below _ (s₁.setTop (mkF m 58 #[.val (.int p0)] []))
              refine .pre (fun _ k => XS.iloadN X0.here hx rfl (hb hby d2_58) rfl k) ?_
              show OwnEnds p e below _ (s₁.setTop (mkF m 59 #[.val (.int p0)] [(.int p0)]))
              refine .pre (fun _ k => XS.sipush X0.here hx rfl (hb hby d2_59) k) ?_
              show OwnEnds p e below _ (s₁.setTop (mkF m 62 #[.val (.int p0)] [(.int (215 : Int32)), (.int p0)]))
              by_cases hc62 : p0 = (215 : Int32)
              · rw [if_pos hc62] at hF
                refine .pre (fun _ k => XS.icmpYes X0.here hx rfl (pc0 := 62) (pc' := 76) rfl (hb hby d2_62) rfl (teq hc62).1 (by decide) (by decide) k) ?_
                show OwnEnds p e below _ (s₁.setTop (mkF m 76 #[.val (.int p0)] []))
                refine .pre (fun _ k => XS.iconst X0.here hx rfl (hb hby d2_76) k) ?_
                show OwnEnds p e below _ (s₁.setTop (mkF m 77 #[.val (.int p0)] [(.int (0 : Int32))]))
                exact own_endN X0 hx hlk (t := .boolean) Bd.returns (by simp) (hb hby d2_77) rfl hk0 hn0 ⟨congrArg (fun z => some (Value.int z)) hF, N0, e0⟩
              · rw [if_neg hc62] at hF
                refine .pre (fun _ k => XS.icmpNo X0.here hx rfl (hb hby d2_62) rfl (feq hc62).1 k) ?_
                show OwnEnds p e below _ (s₁.setTop (mkF m 65 #[.val (.int p0)] []))
                refine .pre (fun _ k => XS.iloadN X0.here hx rfl (hb hby d2_65) rfl k) ?_
                show OwnEnds p e below _ (s₁.setTop (mkF m 66 #[.val (.int p0)] [(.int p0)]))
                refine .pre (fun _ k => XS.sipush X0.here hx rfl (hb hby d2_66) k) ?_
                show OwnEnds p e below _ (s₁.setTop (mkF m 69 #[.val (.int p0)] [(.int (247 : Int32)), (.int p0)]))
                by_cases hc69 : p0 = (247 : Int32)
                · rw [if_pos hc69] at hF
                  refine .pre (fun _ k => XS.icmpYes X0.here hx rfl (pc0 := 69) (pc' := 76) rfl (hb hby d2_69) rfl (teq hc69).1 (by decide) (by decide) k) ?_
                  show OwnEnds p e below _ (s₁.setTop (mkF m 76 #[.val (.int p0)] []))
                  refine .pre (fun _ k => XS.iconst X0.here hx rfl (hb hby d2_76) k) ?_
                  show OwnEnds p e below _ (s₁.setTop (mkF m 77 #[.val (.int p0)] [(.int (0 : Int32))]))
                  exact own_endN X0 hx hlk (t := .boolean) Bd.returns (by simp) (hb hby d2_77) rfl hk0 hn0 ⟨congrArg (fun z => some (Value.int z)) hF, N0, e0⟩
                · rw [if_neg hc69] at hF
                  refine .pre (fun _ k => XS.icmpNo X0.here hx rfl (hb hby d2_69) rfl (feq hc69).1 k) ?_
                  show OwnEnds p e below _ (s₁.setTop (mkF m 72 #[.val (.int p0)] []))
                  refine .pre (fun _ k => XS.iconst X0.here hx rfl (hb hby d2_72) k) ?_
                  show OwnEnds p e below _ (s₁.setTop (mkF m 73 #[.val (.int p0)] [(.int (1 : Int32))]))
                  refine .pre (fun _ k => XS.goto X0.here hx rfl (pc0 := 73) (pc' := 77) rfl (hb hby d2_73) (by decide) (by decide) k) ?_
                  show OwnEnds p e below _ (s₁.setTop (mkF m 77 #[.val (.int p0)] [(.int (1 : Int32))]))
                  exact own_endN X0 hx hlk (t := .boolean) Bd.returns (by simp) (hb hby d2_77) rfl hk0 hn0 ⟨congrArg (fun z => some (Value.int z)) hF, N0, e0⟩
        · rw [if_neg hc37] at hF
          refine .pre (fun _ k => XS.icmpNo X0.here hx rfl (hb hby d2_37) rfl (flt hc37).2.2.1 k) ?_
          show OwnEnds p e below _ (s₁.setTop (mkF m 40 #[.val (.int p0)] []))
          refine .pre (fun _ k => XS.iconst X0.here hx rfl (hb hby d2_40) k) ?_
          show OwnEnds p e below _ (s₁.setTop (mkF m 41 #[.val (.int p0)] [(.int (1 : Int32))]))
          exact own_endN X0 hx hlk (t := .boolean) Bd.returns (by simp) (hb hby d2_41) rfl hk0 hn0 ⟨congrArg (fun z => some (Value.int z)) hF, N0, e0⟩
    · rw [if_neg hc11] at hF
      refine .pre (fun _ k => XS.icmpNo X0.here hx rfl (hb hby d2_11) rfl (flt hc11).2.2.1 k) ?_
      show OwnEnds p e below _ (s₁.setTop (mkF m 14 #[.val (.int p0)] []))
      refine .pre (fun _ k => XS.iconst X0.here hx rfl (hb hby d2_14) k) ?_
      show OwnEnds p e below _ (s₁.setTop (mkF m 15 #[.val (.int p0)] [(.int (1 : Int32))]))
      exact own_endN X0 hx hlk (t := .boolean) Bd.returns (by simp) (hb hby d2_15) rfl hk0 hn0 ⟨congrArg (fun z => some (Value.int z)) hF, N0, e0⟩
theorem ef_0 (m : MethodId) (p0 : Int32) (p1 : Int32) (p2 : Int32) (p3 : Int32) : entryFrame m #[(.int p0), (.int p1), (.int p2), (.int p3)] maxLocals = mkF m 0 #[.val (.int p0), .val (.int p1), .val (.int p2), .val (.int p3), .unset, .unset, .unset] [] := by first | (simp [entryFrame, mkF, argsToLocals, Value.category, maxLocals]; done) | rfl
def own_tab (j : Int32) : Int32 := ([58, 65, 90, 95, 97, 122, 192, 214, 216, 246, 248, 767, 880, 893, 895, 8191, 8204, 8205, 8304, 8591, 11264, 12271, 12289, 55295, 63744, 64975, 65008, 65533, 65536, 983039] : List Int32).getD j.toNatClampNeg 0
theorem own_idx (x : Int32) : ¬ (((x &&& (2147483647 : Int32)) % (30 : Int32)) < 0) ∧ ((x &&& (2147483647 : Int32)) % (30 : Int32)) < (30 : Int32) := by
  have e : (x &&& 2147483647).toInt = x.toInt % 2 ^ 31 := Jvm.Kit.i32_mask x 2147483647 (k := 31) (by decide) (by decide)
  have h3 : (30 : Int32).toInt = 30 := rfl
  have h0 : (0 : Int32).toInt = 0 := rfl
  rw [Int32.lt_iff_toInt_lt, Int32.lt_iff_toInt_lt, Int32.toInt_mod, e, h3, h0, Int.tmod_eq_emod_of_nonneg (by omega)]
  omega
theorem pd_2 : parseMethodDescriptor "(I)Z" = some ⟨[.int], some .boolean⟩ := by decide +kernel
def f0_225 (i0 : Int32) (i5 : Int32) (i6 : Int32) : Int32 := (if (f1_0 i0) = (f2_0 i0) then (if (f1_0 i6) = (f2_0 i6) then (if (f1_0 i5) = (f2_0 i5) then (1 : Int32) else (0 : Int32)) else (0 : Int32)) else (0 : Int32))
def Q0 (Z : State) (p0 : Int32) (p1 : Int32) (p2 : Int32) (p3 : Int32) (h0 : Heap) (n0 : Nat) (v : Option Value) (h : Heap) (L : List Loc) : Prop := v = some (.int (f0_225 p0 (((own_tab ((p2 &&& (2147483647 : Int32)) % (30 : Int32))) + ((p3 &&& (2147483647 : Int32)) % (3 : Int32))) - (1 : Int32)) (p1 &&& (2097151 : Int32)))) ∧ Fr n0 L ∧ True
set_option maxRecDepth 65536 in
set_option maxHeartbeats 40000000 in
theorem rm0 (l : Launch) (Z : State) (aZ : Array Value) (hw : ∀ d ∈ tables_1, d.before aZ Z = true) (ws : List Jvm.Cond) (p0 : Int32) (p1 : Int32) (p2 : Int32) (p3 : Int32) (h0 : Heap) (n0 : Nat) (Z0 : n0 ≤ h0.size) :
    MetFree l x (head1 (Jvm.Cond.code x code maxLocals ret :: ws) room_1) (fun a U => a = #[(.int p0), (.int p1), (.int p2), (.int p3)] ∧ Z.Warmed39 U.vm ∧ U.heap = h0) (fun _ _ _ _ _ => True) (fun _ U o U' => ∃ v L, o = .returned v ∧ Q0 Z p0 p1 p2 p3 h0 n0 v U'.heap L ∧ FrameEnd U o U' L 16 128) := by
  refine MetFree.of_bodySF (plainFor_of_name pn_1) hisR ?_
  intro p e s m args below meth c s₁ Bd hml0 hP hK
  obtain ⟨rfl, hZ, hh⟩ := hP
  have hx := Bd.exec
  have hby := Bd.bytes
  have hml : c.maxLocals = 7 := hml0
  have hown : s.vm.findClass "com/example/lather/lather/xml/XmlNamesIsNameStartCharPinLaw" = some m.cls := findClass_of_methodNamed Bd.named
  have hnm := (name_of_methodNamed Bd.named Bd.method).1
  have hlk := BodyLoose.notSynchronized Bd
  have X0 : Stand p l e room_1 s m #[(.int p0), (.int p1), (.int p2), (.int p3)] below meth c s₁ [] 0 0 := Stand.of_body Bd
  have e0 : s₁.heap = h0 := by rw [← hh, Bd.state]; rfl
  have N0 := Fr.nil n0
  have hk0 : 0 ≤ 16 := Nat.zero_le _
  have hn0 : 0 ≤ 128 := Nat.zero_le _
  show OwnEnds p e below (OwnQ s (Q0 Z p0 p1 p2 p3 h0 n0) 16 128) (s₁.setTop (entryFrame m #[(.int p0), (.int p1), (.int p2), (.int p3)] maxLocals))
  refine .pre (fun t k => castTop (ef_0 m p0 p1 p2 p3) k) ?_
  show OwnEnds p e below _ (s₁.setTop (mkF m 0 #[.val (.int p0), .val (.int p1), .val (.int p2), .val (.int p3), .unset, .unset, .unset] []))
  refine .pre (fun _ k => XS.bipush X0.here hx rfl (hb hby at_0) k) ?_
  show OwnEnds p e below _ (s₁.setTop (mkF m 2 #[.val (.int p0), .val (.int p1), .val (.int p2), .val (.int p3), .unset, .unset, .unset] [(.int (30 : Int32))]))
  obtain ⟨T1, h1, kk1, X1, e1, E1, A1, st1⟩ := newP X0 hx hZ (hw _ (List.mem_of_getElem? (i := 0) rfl)) e0 (g := (mkF m 2 #[.val (.int p0), .val (.int p1), .val (.int p2), .val (.int p3), .unset, .unset, .unset] [(.int (30 : Int32))])) rfl (hb hby at_2) rfl (by decide) (cap := 30) (by decide) (by decide) (by decide) (by decide)
  obtain ⟨b1, g1⟩ : ∃ z, z = h0.size := ⟨_, rfl⟩
  rw [← g1] at A1 st1
  have V_b1 : Arv Z h1 b1 kk1 .int (30 : Int32) [(.int (0 : Int32)), (.int (0 : Int32)), (.int (0 : Int32)), (.int (0 : Int32)), (.int (0 : Int32)), (.int (0 : Int32)), (.int (0 : Int32)), (.int (0 : Int32)), (.int (0 : Int32)), (.int (0 : Int32)), (.int (0 : Int32)), (.int (0 : Int32)), (.int (0 : Int32)), (.int (0 : Int32)), (.int (0 : Int32)), (.int (0 : Int32)), (.int (0 : Int32)), (.int (0 : Int32)), (.int (0 : Int32)), (.int (0 : Int32)), (.int (0 : Int32)), (.int (0 : Int32)), (.int (0 : Int32)), (.int (0 : Int32)), (.int (0 : Int32)), (.int (0 : Int32)), (.int (0 : Int32)), (.int (0 : Int32)), (.int (0 : Int32)), (.int (0 : Int32))] (.int (0 : Int32)) := (Arv.new A1 (by decide)).pad (pad_rep [] (.int (0 : Int32)) 30)
  have g_b1 : n0 ≤ b1 := Nat.le_trans Z0 (Nat.le_of_eq g1.symm)
  refine .pre (fun _ k => st1 _ k) ?_
  show OwnEnds p e below _ (T1.setTop (mkF m 4 #[.val (.int p0), .val (.int p1), .val (.int p2), .val (.int p3), .unset, .unset, .unset] [(.ref b1)]))
  refine .pre (fun _ k => XS.dup X1.here hx rfl (hb hby at_4) rfl rfl k) ?_
  show OwnEnds p e below _ (T1.setTop (mkF m 5 #[.val (.int p0), .val (.int p1), .val (.int p2), .val (.int p3), .unset, .unset, .unset] [(.ref b1), (.ref b1)]))
  refine .pre (fun _ k => XS.iconst X1.here hx rfl (hb hby at_5) k) ?_
  show OwnEnds p e below _ (T1.setTop (mkF m 6 #[.val (.int p0), .val (.int p1), .val (.int p2), .val (.int p3), .unset, .unset, .unset] [(.int (0 : Int32)), (.ref b1), (.ref b1)]))
  refine .pre (fun _ k => XS.bipush X1.here hx rfl (hb hby at_6) k) ?_
  show OwnEnds p e below _ (T1.setTop (mkF m 8 #[.val (.int p0), .val (.int p1), .val (.int p2), .val (.int p3), .unset, .unset, .unset] [(.int (58 : Int32)), (.int (0 : Int32)), (.ref b1), (.ref b1)]))
  obtain ⟨cl2, Ar2, qa2, qs2, qn2, qh2, qg2⟩ := id V_b1
  have hin2 : ¬ ((0 : Int32) < 0 ∨ cl2.slots.size ≤ ((0 : Int32)).toNatClampNeg) := inb_of qs2 ⟨by decide, by decide⟩
  obtain ⟨T2, h2, X2, e2, W2, st2⟩ := stI X1 hx hZ e1 Ar2 (j := (0 : Int32)) hin2 (g := (mkF m 8 #[.val (.int p0), .val (.int p1), .val (.int p2), .val (.int p3), .unset, .unset, .unset] [(.int (58 : Int32)), (.int (0 : Int32)), (.ref b1), (.ref b1)])) rfl rfl (hb hby at_8)
  have V2 : Arv Z h2 b1 kk1 .int (30 : Int32) [(.int (58 : Int32)), (.int (0 : Int32)), (.int (0 : Int32)), (.int (0 : Int32)), (.int (0 : Int32)), (.int (0 : Int32)), (.int (0 : Int32)), (.int (0 : Int32)), (.int (0 : Int32)), (.int (0 : Int32)), (.int (0 : Int32)), (.int (0 : Int32)), (.int (0 : Int32)), (.int (0 : Int32)), (.int (0 : Int32)), (.int (0 : Int32)), (.int (0 : Int32)), (.int (0 : Int32)), (.int (0 : Int32)), (.int (0 : Int32)), (.int (0 : Int32)), (.int (0 : Int32)), (.int (0 : Int32)), (.int (0 : Int32)), (.int (0 : Int32)), (.int (0 : Int32)), (.int (0 : Int32)), (.int (0 : Int32)), (.int (0 : Int32)), (.int (0 : Int32))] (.int (0 : Int32)) := Arv.set Ar2 qa2 qs2 qn2 qh2 qg2 rfl W2 0 rfl (Nat.le_of_ble_eq_true rfl)
  have N2 := Fr.snoc X2 N0 g_b1
  refine .pre (fun _ k => st2 _ k) ?_
  show OwnEnds p e below _ (T2.setTop (mkF m 9 #[.val (.int p0), .val (.int p1), .val (.int p2), .val (.int p3), .unset, .unset, .unset] [(.ref b1)]))
  refine .pre (fun _ k => XS.dup X2.here hx rfl (hb hby at_9) rfl rfl k) ?_
  show OwnEnds p e below _ (T2.setTop (mkF m 10 #[.val (.int p0), .val (.int p1), .val (.int p2), .val (.int p3), .unset, .unset, .unset] [(.ref b1), (.ref b1)]))
  refine .pre (fun _ k => XS.iconst X2.here hx rfl (hb hby at_10) k) ?_
  show OwnEnds p e below _ (T2.setTop (mkF m 11 #[.val (.int p0), .val (.int p1), .val (.int p2), .val (.int p3), .unset, .unset, .unset] [(.int (1 : Int32)), (.ref b1), (.ref b1)]))
  refine .pre (fun _ k => XS.bipush X2.here hx rfl (hb hby at_11) k) ?_
  show OwnEnds p e below _ (T2.setTop (mkF m 13 #[.val (.int p0), .val (.int p1), .val (.int p2), .val (.int p3), .unset, .unset, .unset] [(.int (65 : Int32)), (.int (1 : Int32)), (.ref b1), (.ref b1)]))
  obtain ⟨cl3, Ar3, qa3, qs3, qn3, qh3, qg3⟩ := id V2
  have hin3 : ¬ ((1 : Int32) < 0 ∨ cl3.slots.size ≤ ((1 : Int32)).toNatClampNeg) := inb_of qs3 ⟨by decide, by decide⟩
  obtain ⟨T3, h3, X3, e3, W3, st3⟩ := stI X2 hx hZ e2 Ar3 (j := (1 : Int32)) hin3 (g := (mkF m 13 #[.val (.int p0), .val (.int p1), .val (.int p2), .val (.int p3), .unset, .unset, .unset] [(.int (65 : Int32)), (.int (1 : Int32)), (.ref b1), (.ref b1)])) rfl rfl (hb hby at_13)
  have V3 : Arv Z h3 b1 kk1 .int (30 : Int32) [(.int (58 : Int32)), (.int (65 : Int32)), (.int (0 : Int32)), (.int (0 : Int32)), (.int (0 : Int32)), (.int (0 : Int32)), (.int (0 : Int32)), (.int (0 : Int32)), (.int (0 : Int32)), (.int (0 : Int32)), (.int (0 : Int32)), (.int (0 : Int32)), (.int (0 : Int32)), (.int (0 : Int32)), (.int (0 : Int32)), (.int (0 : Int32)), (.int (0 : Int32)), (.int (0 : Int32)), (.int (0 : Int32)), (.int (0 : Int32)), (.int (0 : Int32)), (.int (0 : Int32)), (.int (0 : Int32)), (.int (0 : Int32)), (.int (0 : Int32)), (.int (0 : Int32)), (.int (0 : Int32)), (.int (0 : Int32)), (.int (0 : Int32)), (.int (0 : Int32))] (.int (0 : Int32)) := Arv.set Ar3 qa3 qs3 qn3 qh3 qg3 rfl W3 1 rfl (Nat.le_of_ble_eq_true rfl)
  have N3 := Fr.snoc X3 N2 g_b1
  refine .pre (fun _ k => st3 _ k) ?_
  show OwnEnds p e below _ (T3.setTop (mkF m 14 #[.val (.int p0), .val (.int p1), .val (.int p2), .val (.int p3), .unset, .unset, .unset] [(.ref b1)]))
  refine .pre (fun _ k => XS.dup X3.here hx rfl (hb hby at_14) rfl rfl k) ?_
  show OwnEnds p e below _ (T3.setTop (mkF m 15 #[.val (.int p0), .val (.int p1), .val (.int p2), .val (.int p3), .unset, .unset, .unset] [(.ref b1), (.ref b1)]))
  refine .pre (fun _ k => XS.iconst X3.here hx rfl (hb hby at_15) k) ?_
  show OwnEnds p e below _ (T3.setTop (mkF m 16 #[.val (.int p0), .val (.int p1), .val (.int p2), .val (.int p3), .unset, .unset, .unset] [(.int (2 : Int32)), (.ref b1), (.ref b1)]))
  refine .pre (fun _ k => XS.bipush X3.here hx rfl (hb hby at_16) k) ?_
  show OwnEnds p e below _ (T3.setTop (mkF m 18 #[.val (.int p0), .val (.int p1), .val (.int p2), .val (.int p3), .unset, .unset, .unset] [(.int (90 : Int32)), (.int (2 : Int32)), (.ref b1), (.ref b1)]))
  obtain ⟨cl4, Ar4, qa4, qs4, qn4, qh4, qg4⟩ := id V3
  have hin4 : ¬ ((2 : Int32) < 0 ∨ cl4.slots.size ≤ ((2 : Int32)).toNatClampNeg) := inb_of qs4 ⟨by decide, by decide⟩
  obtain ⟨T4, h4, X4, e4, W4, st4⟩ := stI X3 hx hZ e3 Ar4 (j := (2 : Int32)) hin4 (g := (mkF m 18 #[.val (.int p0), .val (.int p1), .val (.int p2), .val (.int p3), .unset, .unset, .unset] [(.int (90 : Int32)), (.int (2 : Int32)), (.ref b1), (.ref b1)])) rfl rfl (hb hby at_18)
  have V4 : Arv Z h4 b1 kk1 .int (30 : Int32) [(.int (58 : Int32)), (.int (65 : Int32)), (.int (90 : Int32)), (.int (0 : Int32)), (.int (0 : Int32)), (.int (0 : Int32)), (.int (0 : Int32)), (.int (0 : Int32)), (.int (0 : Int32)), (.int (0 : Int32)), (.int (0 : Int32)), (.int (0 : Int32)), (.int (0 : Int32)), (.int (0 : Int32)), (.int (0 : Int32)), (.int (0 : Int32)), (.int (0 : Int32)), (.int (0 : Int32)), (.int (0 : Int32)), (.int (0 : Int32)), (.int (0 : Int32)), (.int (0 : Int32)), (.int (0 : Int32)), (.int (0 : Int32)), (.int (0 : Int32)), (.int (0 : Int32)), (.int (0 : Int32)), (.int (0 : Int32)), (.int (0 : Int32)), (.int (0 : Int32))] (.int (0 : Int32)) := Arv.set Ar4 qa4 qs4 qn4 qh4 qg4 rfl W4 2 rfl (Nat.le_of_ble_eq_true rfl)
  have N4 := Fr.snoc X4 N3 g_b1
  refine .pre (fun _ k => st4 _ k) ?_
  show OwnEnds p e below _ (T4.setTop (mkF m 19 #[.val (.int p0), .val (.int p1), .val (.int p2), .val (.int p3), .unset, .unset, .unset] [(.ref b1)]))
  refine .pre (fun _ k => XS.dup X4.here hx rfl (hb hby at_19) rfl rfl k) ?_
  show OwnEnds p e below _ (T4.setTop (mkF m 20 #[.val (.int p0), .val (.int p1), .val (.int p2), .val (.int p3), .unset, .unset, .unset] [(.ref b1), (.ref b1)]))
  refine .pre (fun _ k => XS.iconst X4.here hx rfl (hb hby at_20) k) ?_
  show OwnEnds p e below _ (T4.setTop (mkF m 21 #[.val (.int p0), .val (.int p1), .val (.int p2), .val (.int p3), .unset, .unset, .unset] [(.int (3 : Int32)), (.ref b1), (.ref b1)]))
  refine .pre (fun _ k => XS.bipush X4.here hx rfl (hb hby at_21) k) ?_
  show OwnEnds p e below _ (T4.setTop (mkF m 23 #[.val (.int p0), .val (.int p1), .val (.int p2), .val (.int p3), .unset, .unset, .unset] [(.int (95 : Int32)), (.int (3 : Int32)), (.ref b1), (.ref b1)]))
  obtain ⟨cl5, Ar5, qa5, qs5, qn5, qh5, qg5⟩ := id V4
  have hin5 : ¬ ((3 : Int32) < 0 ∨ cl5.slots.size ≤ ((3 : Int32)).toNatClampNeg) := inb_of qs5 ⟨by decide, by decide⟩
  obtain ⟨T5, h5, X5, e5, W5, st5⟩ := stI X4 hx hZ e4 Ar5 (j := (3 : Int32)) hin5 (g := (mkF m 23 #[.val (.int p0), .val (.int p1), .val (.int p2), .val (.int p3), .unset, .unset, .unset] [(.int (95 : Int32)), (.int (3 : Int32)), (.ref b1), (.ref b1)])) rfl rfl (hb hby at_23)
  have V5 : Arv Z h5 b1 kk1 .int (30 : Int32) [(.int (58 : Int32)), (.int (65 : Int32)), (.int (90 : Int32)), (.int (95 : Int32)), (.int (0 : Int32)), (.int (0 : Int32)), (.int (0 : Int32)), (.int (0 : Int32)), (.int (0 : Int32)), (.int (0 : Int32)), (.int (0 : Int32)), (.int (0 : Int32)), (.int (0 : Int32)), (.int (0 : Int32)), (.int (0 : Int32)), (.int (0 : Int32)), (.int (0 : Int32)), (.int (0 : Int32)), (.int (0 : Int32)), (.int (0 : Int32)), (.int (0 : Int32)), (.int (0 : Int32)), (.int (0 : Int32)), (.int (0 : Int32)), (.int (0 : Int32)), (.int (0 : Int32)), (.int (0 : Int32)), (.int (0 : Int32)), (.int (0 : Int32)), (.int (0 : Int32))] (.int (0 : Int32)) := Arv.set Ar5 qa5 qs5 qn5 qh5 qg5 rfl W5 3 rfl (Nat.le_of_ble_eq_true rfl)
  have N5 := Fr.snoc X5 N4 g_b1
  refine .pre (fun _ k => st5 _ k) ?_
  show OwnEnds p e below _ (T5.setTop (mkF m 24 #[.val (.int p0), .val (.int p1), .val (.int p2), .val (.int p3), .unset, .unset, .unset] [(.ref b1)]))
  refine .pre (fun _ k => XS.dup X5.here hx rfl (hb hby at_24) rfl rfl k) ?_
  show OwnEnds p e below _ (T5.setTop (mkF m 25 #[.val (.int p0), .val (.int p1), .val (.int p2), .val (.int p3), .unset, .unset, .unset] [(.ref b1), (.ref b1)]))
  refine .pre (fun _ k => XS.iconst X5.here hx rfl (hb hby at_25) k) ?_
  show OwnEnds p e below _ (T5.setTop (mkF m 26 #[.val (.int p0), .val (.int p1), .val (.int p2), .val (.int p3), .unset, .unset, .unset] [(.int (4 : Int32)), (.ref b1), (.ref b1)]))
  refine .pre (fun _ k => XS.bipush X5.here hx rfl (hb hby at_26) k) ?_
  show OwnEnds p e below _ (T5.setTop (mkF m 28 #[.val (.int p0), .val (.int p1), .val (.int p2), .val (.int p3), .unset, .unset, .unset] [(.int (97 : Int32)), (.int (4 : Int32)), (.ref b1), (.ref b1)]))
  obtain ⟨cl6, Ar6, qa6, qs6, qn6, qh6, qg6⟩ := id V5
  have hin6 : ¬ ((4 : Int32) < 0 ∨ cl6.slots.size ≤ ((4 : Int32)).toNatClampNeg) := inb_of qs6 ⟨by decide, by decide⟩
  obtain ⟨T6, h6, X6, e6, W6, st6⟩ := stI X5 hx hZ e5 Ar6 (j := (4 : Int32)) hin6 (g := (mkF m 28 #[.val (.int p0), .val (.int p1), .val (.int p2), .val (.int p3), .unset, .unset, .unset] [(.int (97 : Int32)), (.int (4 : Int32)), (.ref b1), (.ref b1)])) rfl rfl (hb hby at_28)
  have V6 : Arv Z h6 b1 kk1 .int (30 : Int32) [(.int (58 : Int32)), (.int (65 : Int32)), (.int (90 : Int32)), (.int (95 : Int32)), (.int (97 : Int32)), (.int (0 : Int32)), (.int (0 : Int32)), (.int (0 : Int32)), (.int (0 : Int32)), (.int (0 : Int32)), (.int (0 : Int32)), (.int (0 : Int32)), (.int (0 : Int32)), (.int (0 : Int32)), (.int (0 : Int32)), (.int (0 : Int32)), (.int (0 : Int32)), (.int (0 : Int32)), (.int (0 : Int32)), (.int (0 : Int32)), (.int (0 : Int32)), (.int (0 : Int32)), (.int (0 : Int32)), (.int (0 : Int32)), (.int (0 : Int32)), (.int (0 : Int32)), (.int (0 : Int32)), (.int (0 : Int32)), (.int (0 : Int32)), (.int (0 : Int32))] (.int (0 : Int32)) := Arv.set Ar6 qa6 qs6 qn6 qh6 qg6 rfl W6 4 rfl (Nat.le_of_ble_eq_true rfl)
  have N6 := Fr.snoc X6 N5 g_b1
  refine .pre (fun _ k => st6 _ k) ?_
  show OwnEnds p e below _ (T6.setTop (mkF m 29 #[.val (.int p0), .val (.int p1), .val (.int p2), .val (.int p3), .unset, .unset, .unset] [(.ref b1)]))
  refine .pre (fun _ k => XS.dup X6.here hx rfl (hb hby at_29) rfl rfl k) ?_
  show OwnEnds p e below _ (T6.setTop (mkF m 30 #[.val (.int p0), .val (.int p1), .val (.int p2), .val (.int p3), .unset, .unset, .unset] [(.ref b1), (.ref b1)]))
  refine .pre (fun _ k => XS.iconst X6.here hx rfl (hb hby at_30) k) ?_
  show OwnEnds p e below _ (T6.setTop (mkF m 31 #[.val (.int p0), .val (.int p1), .val (.int p2), .val (.int p3), .unset, .unset, .unset] [(.int (5 : Int32)), (.ref b1), (.ref b1)]))
  refine .pre (fun _ k => XS.bipush X6.here hx rfl (hb hby at_31) k) ?_
  show OwnEnds p e below _ (T6.setTop (mkF m 33 #[.val (.int p0), .val (.int p1), .val (.int p2), .val (.int p3), .unset, .unset, .unset] [(.int (122 : Int32)), (.int (5 : Int32)), (.ref b1), (.ref b1)]))
  obtain ⟨cl7, Ar7, qa7, qs7, qn7, qh7, qg7⟩ := id V6
  have hin7 : ¬ ((5 : Int32) < 0 ∨ cl7.slots.size ≤ ((5 : Int32)).toNatClampNeg) := inb_of qs7 ⟨by decide, by decide⟩
  obtain ⟨T7, h7, X7, e7, W7, st7⟩ := stI X6 hx hZ e6 Ar7 (j := (5 : Int32)) hin7 (g := (mkF m 33 #[.val (.int p0), .val (.int p1), .val (.int p2), .val (.int p3), .unset, .unset, .unset] [(.int (122 : Int32)), (.int (5 : Int32)), (.ref b1), (.ref b1)])) rfl rfl (hb hby at_33)
  have V7 : Arv Z h7 b1 kk1 .int (30 : Int32) [(.int (58 : Int32)), (.int (65 : Int32)), (.int (90 : Int32)), (.int (95 : Int32)), (.int (97 : Int32)), (.int (122 : Int32)), (.int (0 : Int32)), (.int (0 : Int32)), (.int (0 : Int32)), (.int (0 : Int32)), (.int (0 : Int32)), (.int (0 : Int32)), (.int (0 : Int32)), (.int (0 : Int32)), (.int (0 : Int32)), (.int (0 : Int32)), (.int (0 : Int32)), (.int (0 : Int32)), (.int (0 : Int32)), (.int (0 : Int32)), (.int (0 : Int32)), (.int (0 : Int32)), (.int (0 : Int32)), (.int (0 : Int32)), (.int (0 : Int32)), (.int (0 : Int32)), (.int (0 : Int32)), (.int (0 : Int32)), (.int (0 : Int32)), (.int (0 : Int32))] (.int (0 : Int32)) := Arv.set Ar7 qa7 qs7 qn7 qh7 qg7 rfl W7 5 rfl (Nat.le_of_ble_eq_true rfl)
  have N7 := Fr.snoc X7 N6 g_b1
  refine .pre (fun _ k => st7 _ k) ?_
  show OwnEnds p e below _ (T7.setTop (mkF m 34 #[.val (.int p0), .val (.int p1), .val (.int p2), .val (.int p3), .unset, .unset, .unset] [(.ref b1)]))
  refine .pre (fun _ k => XS.dup X7.here hx rfl (hb hby at_34) rfl rfl k) ?_
  show OwnEnds p e below _ (T7.setTop (mkF m 35 #[.val (.int p0), .val (.int p1), .val (.int p2), .val (.int p3), .unset, .unset, .unset] [(.ref b1), (.ref b1)]))
  refine .pre (fun _ k => XS.bipush X7.here hx rfl (hb hby at_35) k) ?_
  show OwnEnds p e below _ (T7.setTop (mkF m 37 #[.val (.int p0), .val (.int p1), .val (.int p2), .val (.int p3), .unset, .unset, .unset] [(.int (6 : Int32)), (.ref b1), (.ref b1)]))
  refine .pre (fun _ k => XS.sipush X7.here hx rfl (hb hby at_37) k) ?_
  show OwnEnds p e below _ (T7.setTop (mkF m 40 #[.val (.int p0), .val (.int p1), .val (.int p2), .val (.int p3), .unset, .unset, .unset] [(.int (192 : Int32)), (.int (6 : Int32)), (.ref b1), (.ref b1)]))
  obtain ⟨cl8, Ar8, qa8, qs8, qn8, qh8, qg8⟩ := id V7
  have hin8 : ¬ ((6 : Int32) < 0 ∨ cl8.slots.size ≤ ((6 : Int32)).toNatClampNeg) := inb_of qs8 ⟨by decide, by decide⟩
  obtain ⟨T8, h8, X8, e8, W8, st8⟩ := stI X7 hx hZ e7 Ar8 (j := (6 : Int32)) hin8 (g := (mkF m 40 #[.val (.int p0), .val (.int p1), .val (.int p2), .val (.int p3), .unset, .unset, .unset] [(.int (192 : Int32)), (.int (6 : Int32)), (.ref b1), (.ref b1)])) rfl rfl (hb hby at_40)
  have V8 : Arv Z h8 b1 kk1 .int (30 : Int32) [(.int (58 : Int32)), (.int (65 : Int32)), (.int (90 : Int32)), (.int (95 : Int32)), (.int (97 : Int32)), (.int (122 : Int32)), (.int (192 : Int32)), (.int (0 : Int32)), (.int (0 : Int32)), (.int (0 : Int32)), (.int (0 : Int32)), (.int (0 : Int32)), (.int (0 : Int32)), (.int (0 : Int32)), (.int (0 : Int32)), (.int (0 : Int32)), (.int (0 : Int32)), (.int (0 : Int32)), (.int (0 : Int32)), (.int (0 : Int32)), (.int (0 : Int32)), (.int (0 : Int32)), (.int (0 : Int32)), (.int (0 : Int32)), (.int (0 : Int32)), (.int (0 : Int32)), (.int (0 : Int32)), (.int (0 : Int32)), (.int (0 : Int32)), (.int (0 : Int32))] (.int (0 : Int32)) := Arv.set Ar8 qa8 qs8 qn8 qh8 qg8 rfl W8 6 rfl (Nat.le_of_ble_eq_true rfl)
  have N8 := Fr.snoc X8 N7 g_b1
  refine .pre (fun _ k => st8 _ k) ?_
  show OwnEnds p e below _ (T8.setTop (mkF m 41 #[.val (.int p0), .val (.int p1), .val (.int p2), .val (.int p3), .unset, .unset, .unset] [(.ref b1)]))
  refine .pre (fun _ k => XS.dup X8.here hx rfl (hb hby at_41) rfl rfl k) ?_
  show OwnEnds p e below _ (T8.setTop (mkF m 42 #[.val (.int p0), .val (.int p1), .val (.int p2), .val (.int p3), .unset, .unset, .unset] [(.ref b1), (.ref b1)]))
  refine .pre (fun _ k => XS.bipush X8.here hx rfl (hb hby at_42) k) ?_
  show OwnEnds p e below _ (T8.setTop (mkF m 44 #[.val (.int p0), .val (.int p1), .val (.int p2), .val (.int p3), .unset, .unset, .unset] [(.int (7 : Int32)), (.ref b1), (.ref b1)]))
  refine .pre (fun _ k => XS.sipush X8.here hx rfl (hb hby at_44) k) ?_
  show OwnEnds p e below _ (T8.setTop (mkF m 47 #[.val (.int p0), .val (.int p1), .val (.int p2), .val (.int p3), .unset, .unset, .unset] [(.int (214 : Int32)), (.int (7 : Int32)), (.ref b1), (.ref b1)]))
  obtain ⟨cl9, Ar9, qa9, qs9, qn9, qh9, qg9⟩ := id V8
  have hin9 : ¬ ((7 : Int32) < 0 ∨ cl9.slots.size ≤ ((7 : Int32)).toNatClampNeg) := inb_of qs9 ⟨by decide, by decide⟩
  obtain ⟨T9, h9, X9, e9, W9, st9⟩ := stI X8 hx hZ e8 Ar9 (j := (7 : Int32)) hin9 (g := (mkF m 47 #[.val (.int p0), .val (.int p1), .val (.int p2), .val (.int p3), .unset, .unset, .unset] [(.int (214 : Int32)), (.int (7 : Int32)), (.ref b1), (.ref b1)])) rfl rfl (hb hby at_47)
  have V9 : Arv Z h9 b1 kk1 .int (30 : Int32) [(.int (58 : Int32)), (.int (65 : Int32)), (.int (90 : Int32)), (.int (95 : Int32)), (.int (97 : Int32)), (.int (122 : Int32)), (.int (192 : Int32)), (.int (214 : Int32)), (.int (0 : Int32)), (.int (0 : Int32)), (.int (0 : Int32)), (.int (0 : Int32)), (.int (0 : Int32)), (.int (0 : Int32)), (.int (0 : Int32)), (.int (0 : Int32)), (.int (0 : Int32)), (.int (0 : Int32)), (.int (0 : Int32)), (.int (0 : Int32)), (.int (0 : Int32)), (.int (0 : Int32)), (.int (0 : Int32)), (.int (0 : Int32)), (.int (0 : Int32)), (.int (0 : Int32)), (.int (0 : Int32)), (.int (0 : Int32)), (.int (0 : Int32)), (.int (0 : Int32))] (.int (0 : Int32)) := Arv.set Ar9 qa9 qs9 qn9 qh9 qg9 rfl W9 7 rfl (Nat.le_of_ble_eq_true rfl)
  have N9 := Fr.snoc X9 N8 g_b1
  refine .pre (fun _ k => st9 _ k) ?_
  show OwnEnds p e below _ (T9.setTop (mkF m 48 #[.val (.int p0), .val (.int p1), .val (.int p2), .val (.int p3), .unset, .unset, .unset] [(.ref b1)]))
  refine .pre (fun _ k => XS.dup X9.here hx rfl (hb hby at_48) rfl rfl k) ?_
  show OwnEnds p e below _ (T9.setTop (mkF m 49 #[.val (.int p0), .val (.int p1), .val (.int p2), .val (.int p3), .unset, .unset, .unset] [(.ref b1), (.ref b1)]))
  refine .pre (fun _ k => XS.bipush X9.here hx rfl (hb hby at_49) k) ?_
  show OwnEnds p e below _ (T9.setTop (mkF m 51 #[.val (.int p0), .val (.int p1), .val (.int p2), .val (.int p3), .unset, .unset, .unset] [(.int (8 : Int32)), (.ref b1), (.ref b1)]))
  refine .pre (fun _ k => XS.sipush X9.here hx rfl (hb hby at_51) k) ?_
  show OwnEnds p e below _ (T9.setTop (mkF m 54 #[.val (.int p0), .val (.int p1), .val (.int p2), .val (.int p3), .unset, .unset, .unset] [(.int (216 : Int32)), (.int (8 : Int32)), (.ref b1), (.ref b1)]))
  obtain ⟨cl10, Ar10, qa10, qs10, qn10, qh10, qg10⟩ := id V9
  have hin10 : ¬ ((8 : Int32) < 0 ∨ cl10.slots.size ≤ ((8 : Int32)).toNatClampNeg) := inb_of qs10 ⟨by decide, by decide⟩
  obtain ⟨T10, h10, X10, e10, W10, st10⟩ := stI X9 hx hZ e9 Ar10 (j := (8 : Int32)) hin10 (g := (mkF m 54 #[.val (.int p0), .val (.int p1), .val (.int p2), .val (.int p3), .unset, .unset, .unset] [(.int (216 : Int32)), (.int (8 : Int32)), (.ref b1), (.ref b1)])) rfl rfl (hb hby at_54)
  have V10 : Arv Z h10 b1 kk1 .int (30 : Int32) [(.int (58 : Int32)), (.int (65 : Int32)), (.int (90 : Int32)), (.int (95 : Int32)), (.int (97 : Int32)), (.int (122 : Int32)), (.int (192 : Int32)), (.int (214 : Int32)), (.int (216 : Int32)), (.int (0 : Int32)), (.int (0 : Int32)), (.int (0 : Int32)), (.int (0 : Int32)), (.int (0 : Int32)), (.int (0 : Int32)), (.int (0 : Int32)), (.int (0 : Int32)), (.int (0 : Int32)), (.int (0 : Int32)), (.int (0 : Int32)), (.int (0 : Int32)), (.int (0 : Int32)), (.int (0 : Int32)), (.int (0 : Int32)), (.int (0 : Int32)), (.int (0 : Int32)), (.int (0 : Int32)), (.int (0 : Int32)), (.int (0 : Int32)), (.int (0 : Int32))] (.int (0 : Int32)) := Arv.set Ar10 qa10 qs10 qn10 qh10 qg10 rfl W10 8 rfl (Nat.le_of_ble_eq_true rfl)
  have N10 := Fr.snoc X10 N9 g_b1
  refine .pre (fun _ k => st10 _ k) ?_
  show OwnEnds p e below _ (T10.setTop (mkF m 55 #[.val (.int p0), .val (.int p1), .val (.int p2), .val (.int p3), .unset, .unset, .unset] [(.ref b1)]))
  refine .pre (fun _ k => XS.dup X10.here hx rfl (hb hby at_55) rfl rfl k) ?_
  show OwnEnds p e below _ (T10.setTop (mkF m 56 #[.val (.int p0), .val (.int p1), .val (.int p2), .val (.int p3), .unset, .unset, .unset] [(.ref b1), (.ref b1)]))
  refine .pre (fun _ k => XS.bipush X10.here hx rfl (hb hby at_56) k) ?_
  show OwnEnds p e below _ (T10.setTop (mkF m 58 #[.val (.int p0), .val (.int p1), .val (.int p2), .val (.int p3), .unset, .unset, .unset] [(.int (9 : Int32)), (.ref b1), (.ref b1)]))
  refine .pre (fun _ k => XS.sipush X10.here hx rfl (hb hby at_58) k) ?_
  show OwnEnds p e below _ (T10.setTop (mkF m 61 #[.val (.int p0), .val (.int p1), .val (.int p2), .val (.int p3), .unset, .unset, .unset] [(.int (246 : Int32)), (.int (9 : Int32)), (.ref b1), (.ref b1)]))
  obtain ⟨cl11, Ar11, qa11, qs11, qn11, qh11, qg11⟩ := id V10
  have hin11 : ¬ ((9 : Int32) < 0 ∨ cl11.slots.size ≤ ((9 : Int32)).toNatClampNeg) := inb_of qs11 ⟨by decide, by decide⟩
  obtain ⟨T11, h11, X11, e11, W11, st11⟩ := stI X10 hx hZ e10 Ar11 (j := (9 : Int32)) hin11 (g := (mkF m 61 #[.val (.int p0), .val (.int p1), .val (.int p2), .val (.int p3), .unset, .unset, .unset] [(.int (246 : Int32)), (.int (9 : Int32)), (.ref b1), (.ref b1)])) rfl rfl (hb hby at_61)
  have V11 : Arv Z h11 b1 kk1 .int (30 : Int32) [(.int (58 : Int32)), (.int (65 : Int32)), (.int (90 : Int32)), (.int (95 : Int32)), (.int (97 : Int32)), (.int (122 : Int32)), (.int (192 : Int32)), (.int (214 : Int32)), (.int (216 : Int32)), (.int (246 : Int32)), (.int (0 : Int32)), (.int (0 : Int32)), (.int (0 : Int32)), (.int (0 : Int32)), (.int (0 : Int32)), (.int (0 : Int32)), (.int (0 : Int32)), (.int (0 : Int32)), (.int (0 : Int32)), (.int (0 : Int32)), (.int (0 : Int32)), (.int (0 : Int32)), (.int (0 : Int32)), (.int (0 : Int32)), (.int (0 : Int32)), (.int (0 : Int32)), (.int (0 : Int32)), (.int (0 : Int32)), (.int (0 : Int32)), (.int (0 : Int32))] (.int (0 : Int32)) := Arv.set Ar11 qa11 qs11 qn11 qh11 qg11 rfl W11 9 rfl (Nat.le_of_ble_eq_true rfl)
  have N11 := Fr.snoc X11 N10 g_b1
  refine .pre (fun _ k => st11 _ k) ?_
  show OwnEnds p e below _ (T11.setTop (mkF m 62 #[.val (.int p0), .val (.int p1), .val (.int p2), .val (.int p3), .unset, .unset, .unset] [(.ref b1)]))
  refine .pre (fun _ k => XS.dup X11.here hx rfl (hb hby at_62) rfl rfl k) ?_
  show OwnEnds p e below _ (T11.setTop (mkF m 63 #[.val (.int p0), .val (.int p1), .val (.int p2), .val (.int p3), .unset, .unset, .unset] [(.ref b1), (.ref b1)]))
  refine .pre (fun _ k => XS.bipush X11.here hx rfl (hb hby at_63) k) ?_
  show OwnEnds p e below _ (T11.setTop (mkF m 65 #[.val (.int p0), .val (.int p1), .val (.int p2), .val (.int p3), .unset, .unset, .unset] [(.int (10 : Int32)), (.ref b1), (.ref b1)]))
  refine .pre (fun _ k => XS.sipush X11.here hx rfl (hb hby at_65) k) ?_
  show OwnEnds p e below _ (T11.setTop (mkF m 68 #[.val (.int p0), .val (.int p1), .val (.int p2), .val (.int p3), .unset, .unset, .unset] [(.int (248 : Int32)), (.int (10 : Int32)), (.ref b1), (.ref b1)]))
  obtain ⟨cl12, Ar12, qa12, qs12, qn12, qh12, qg12⟩ := id V11
  have hin12 : ¬ ((10 : Int32) < 0 ∨ cl12.slots.size ≤ ((10 : Int32)).toNatClampNeg) := inb_of qs12 ⟨by decide, by decide⟩
  obtain ⟨T12, h12, X12, e12, W12, st12⟩ := stI X11 hx hZ e11 Ar12 (j := (10 : Int32)) hin12 (g := (mkF m 68 #[.val (.int p0), .val (.int p1), .val (.int p2), .val (.int p3), .unset, .unset, .unset] [(.int (248 : Int32)), (.int (10 : Int32)), (.ref b1), (.ref b1)])) rfl rfl (hb hby at_68)
  have V12 : Arv Z h12 b1 kk1 .int (30 : Int32) [(.int (58 : Int32)), (.int (65 : Int32)), (.int (90 : Int32)), (.int (95 : Int32)), (.int (97 : Int32)), (.int (122 : Int32)), (.int (192 : Int32)), (.int (214 : Int32)), (.int (216 : Int32)), (.int (246 : Int32)), (.int (248 : Int32)), (.int (0 : Int32)), (.int (0 : Int32)), (.int (0 : Int32)), (.int (0 : Int32)), (.int (0 : Int32)), (.int (0 : Int32)), (.int (0 : Int32)), (.int (0 : Int32)), (.int (0 : Int32)), (.int (0 : Int32)), (.int (0 : Int32)), (.int (0 : Int32)), (.int (0 : Int32)), (.int (0 : Int32)), (.int (0 : Int32)), (.int (0 : Int32)), (.int (0 : Int32)), (.int (0 : Int32)), (.int (0 : Int32))] (.int (0 : Int32)) := Arv.set Ar12 qa12 qs12 qn12 qh12 qg12 rfl W12 10 rfl (Nat.le_of_ble_eq_true rfl)
  have N12 := Fr.snoc X12 N11 g_b1
  refine .pre (fun _ k => st12 _ k) ?_
  show OwnEnds p e below _ (T12.setTop (mkF m 69 #[.val (.int p0), .val (.int p1), .val (.int p2), .val (.int p3), .unset, .unset, .unset] [(.ref b1)]))
  refine .pre (fun _ k => XS.dup X12.here hx rfl (hb hby at_69) rfl rfl k) ?_
  show OwnEnds p e below _ (T12.setTop (mkF m 70 #[.val (.int p0), .val (.int p1), .val (.int p2), .val (.int p3), .unset, .unset, .unset] [(.ref b1), (.ref b1)]))
  refine .pre (fun _ k => XS.bipush X12.here hx rfl (hb hby at_70) k) ?_
  show OwnEnds p e below _ (T12.setTop (mkF m 72 #[.val (.int p0), .val (.int p1), .val (.int p2), .val (.int p3), .unset, .unset, .unset] [(.int (11 : Int32)), (.ref b1), (.ref b1)]))
  refine .pre (fun _ k => XS.sipush X12.here hx rfl (hb hby at_72) k) ?_
  show OwnEnds p e below _ (T12.setTop (mkF m 75 #[.val (.int p0), .val (.int p1), .val (.int p2), .val (.int p3), .unset, .unset, .unset] [(.int (767 : Int32)), (.int (11 : Int32)), (.ref b1), (.ref b1)]))
  obtain ⟨cl13, Ar13, qa13, qs13, qn13, qh13, qg13⟩ := id V12
  have hin13 : ¬ ((11 : Int32) < 0 ∨ cl13.slots.size ≤ ((11 : Int32)).toNatClampNeg) := inb_of qs13 ⟨by decide, by decide⟩
  obtain ⟨T13, h13, X13, e13, W13, st13⟩ := stI X12 hx hZ e12 Ar13 (j := (11 : Int32)) hin13 (g := (mkF m 75 #[.val (.int p0), .val (.int p1), .val (.int p2), .val (.int p3), .unset, .unset, .unset] [(.int (767 : Int32)), (.int (11 : Int32)), (.ref b1), (.ref b1)])) rfl rfl (hb hby at_75)
  have V13 : Arv Z h13 b1 kk1 .int (30 : Int32) [(.int (58 : Int32)), (.int (65 : Int32)), (.int (90 : Int32)), (.int (95 : Int32)), (.int (97 : Int32)), (.int (122 : Int32)), (.int (192 : Int32)), (.int (214 : Int32)), (.int (216 : Int32)), (.int (246 : Int32)), (.int (248 : Int32)), (.int (767 : Int32)), (.int (0 : Int32)), (.int (0 : Int32)), (.int (0 : Int32)), (.int (0 : Int32)), (.int (0 : Int32)), (.int (0 : Int32)), (.int (0 : Int32)), (.int (0 : Int32)), (.int (0 : Int32)), (.int (0 : Int32)), (.int (0 : Int32)), (.int (0 : Int32)), (.int (0 : Int32)), (.int (0 : Int32)), (.int (0 : Int32)), (.int (0 : Int32)), (.int (0 : Int32)), (.int (0 : Int32))] (.int (0 : Int32)) := Arv.set Ar13 qa13 qs13 qn13 qh13 qg13 rfl W13 11 rfl (Nat.le_of_ble_eq_true rfl)
  have N13 := Fr.snoc X13 N12 g_b1
  refine .pre (fun _ k => st13 _ k) ?_
  show OwnEnds p e below _ (T13.setTop (mkF m 76 #[.val (.int p0), .val (.int p1), .val (.int p2), .val (.int p3), .unset, .unset, .unset] [(.ref b1)]))
  refine .pre (fun _ k => XS.dup X13.here hx rfl (hb hby at_76) rfl rfl k) ?_
  show OwnEnds p e below _ (T13.setTop (mkF m 77 #[.val (.int p0), .val (.int p1), .val (.int p2), .val (.int p3), .unset, .unset, .unset] [(.ref b1), (.ref b1)]))
  refine .pre (fun _ k => XS.bipush X13.here hx rfl (hb hby at_77) k) ?_
  show OwnEnds p e below _ (T13.setTop (mkF m 79 #[.val (.int p0), .val (.int p1), .val (.int p2), .val (.int p3), .unset, .unset, .unset] [(.int (12 : Int32)), (.ref b1), (.ref b1)]))
  refine .pre (fun _ k => XS.sipush X13.here hx rfl (hb hby at_79) k) ?_
  show OwnEnds p e below _ (T13.setTop (mkF m 82 #[.val (.int p0), .val (.int p1), .val (.int p2), .val (.int p3), .unset, .unset, .unset] [(.int (880 : Int32)), (.int (12 : Int32)), (.ref b1), (.ref b1)]))
  obtain ⟨cl14, Ar14, qa14, qs14, qn14, qh14, qg14⟩ := id V13
  have hin14 : ¬ ((12 : Int32) < 0 ∨ cl14.slots.size ≤ ((12 : Int32)).toNatClampNeg) := inb_of qs14 ⟨by decide, by decide⟩
  obtain ⟨T14, h14, X14, e14, W14, st14⟩ := stI X13 hx hZ e13 Ar14 (j := (12 : Int32)) hin14 (g := (mkF m 82 #[.val (.int p0), .val (.int p1), .val (.int p2), .val (.int p3), .unset, .unset, .unset] [(.int (880 : Int32)), (.int (12 : Int32)), (.ref b1), (.ref b1)])) rfl rfl (hb hby at_82)
  have V14 : Arv Z h14 b1 kk1 .int (30 : Int32) [(.int (58 : Int32)), (.int (65 : Int32)), (.int (90 : Int32)), (.int (95 : Int32)), (.int (97 : Int32)), (.int (122 : Int32)), (.int (192 : Int32)), (.int (214 : Int32)), (.int (216 : Int32)), (.int (246 : Int32)), (.int (248 : Int32)), (.int (767 : Int32)), (.int (880 : Int32)), (.int (0 : Int32)), (.int (0 : Int32)), (.int (0 : Int32)), (.int (0 : Int32)), (.int (0 : Int32)), (.int (0 : Int32)), (.int (0 : Int32)), (.int (0 : Int32)), (.int (0 : Int32)), (.int (0 : Int32)), (.int (0 : Int32)), (.int (0 : Int32)), (.int (0 : Int32)), (.int (0 : Int32)), (.int (0 : Int32)), (.int (0 : Int32)), (.int (0 : Int32))] (.int (0 : Int32)) := Arv.set Ar14 qa14 qs14 qn14 qh14 qg14 rfl W14 12 rfl (Nat.le_of_ble_eq_true rfl)
  have N14 := Fr.snoc X14 N13 g_b1
  refine .pre (fun _ k => st14 _ k) ?_
  show OwnEnds p e below _ (T14.setTop (mkF m 83 #[.val (.int p0), .val (.int p1), .val (.int p2), .val (.int p3), .unset, .unset, .unset] [(.ref b1)]))
  refine .pre (fun _ k => XS.dup X14.here hx rfl (hb hby at_83) rfl rfl k) ?_
  show OwnEnds p e below _ (T14.setTop (mkF m 84 #[.val (.int p0), .val (.int p1), .val (.int p2), .val (.int p3), .unset, .unset, .unset] [(.ref b1), (.ref b1)]))
  refine .pre (fun _ k => XS.bipush X14.here hx rfl (hb hby at_84) k) ?_
  show OwnEnds p e below _ (T14.setTop (mkF m 86 #[.val (.int p0), .val (.int p1), .val (.int p2), .val (.int p3), .unset, .unset, .unset] [(.int (13 : Int32)), (.ref b1), (.ref b1)]))
  refine .pre (fun _ k => XS.sipush X14.here hx rfl (hb hby at_86) k) ?_
  show OwnEnds p e below _ (T14.setTop (mkF m 89 #[.val (.int p0), .val (.int p1), .val (.int p2), .val (.int p3), .unset, .unset, .unset] [(.int (893 : Int32)), (.int (13 : Int32)), (.ref b1), (.ref b1)]))
  obtain ⟨cl15, Ar15, qa15, qs15, qn15, qh15, qg15⟩ := id V14
  have hin15 : ¬ ((13 : Int32) < 0 ∨ cl15.slots.size ≤ ((13 : Int32)).toNatClampNeg) := inb_of qs15 ⟨by decide, by decide⟩
  obtain ⟨T15, h15, X15, e15, W15, st15⟩ := stI X14 hx hZ e14 Ar15 (j := (13 : Int32)) hin15 (g := (mkF m 89 #[.val (.int p0), .val (.int p1), .val (.int p2), .val (.int p3), .unset, .unset, .unset] [(.int (893 : Int32)), (.int (13 : Int32)), (.ref b1), (.ref b1)])) rfl rfl (hb hby at_89)
  have V15 : Arv Z h15 b1 kk1 .int (30 : Int32) [(.int (58 : Int32)), (.int (65 : Int32)), (.int (90 : Int32)), (.int (95 : Int32)), (.int (97 : Int32)), (.int (122 : Int32)), (.int (192 : Int32)), (.int (214 : Int32)), (.int (216 : Int32)), (.int (246 : Int32)), (.int (248 : Int32)), (.int (767 : Int32)), (.int (880 : Int32)), (.int (893 : Int32)), (.int (0 : Int32)), (.int (0 : Int32)), (.int (0 : Int32)), (.int (0 : Int32)), (.int (0 : Int32)), (.int (0 : Int32)), (.int (0 : Int32)), (.int (0 : Int32)), (.int (0 : Int32)), (.int (0 : Int32)), (.int (0 : Int32)), (.int (0 : Int32)), (.int (0 : Int32)), (.int (0 : Int32)), (.int (0 : Int32)), (.int (0 : Int32))] (.int (0 : Int32)) := Arv.set Ar15 qa15 qs15 qn15 qh15 qg15 rfl W15 13 rfl (Nat.le_of_ble_eq_true rfl)
  have N15 := Fr.snoc X15 N14 g_b1
  refine .pre (fun _ k => st15 _ k) ?_
  show OwnEnds p e below _ (T15.setTop (mkF m 90 #[.val (.int p0), .val (.int p1), .val (.int p2), .val (.int p3), .unset, .unset, .unset] [(.ref b1)]))
  refine .pre (fun _ k => XS.dup X15.here hx rfl (hb hby at_90) rfl rfl k) ?_
  show OwnEnds p e below _ (T15.setTop (mkF m 91 #[.val (.int p0), .val (.int p1), .val (.int p2), .val (.int p3), .unset, .unset, .unset] [(.ref b1), (.ref b1)]))
  refine .pre (fun _ k => XS.bipush X15.here hx rfl (hb hby at_91) k) ?_
  show OwnEnds p e below _ (T15.setTop (mkF m 93 #[.val (.int p0), .val (.int p1), .val (.int p2), .val (.int p3), .unset, .unset, .unset] [(.int (14 : Int32)), (.ref b1), (.ref b1)]))
  refine .pre (fun _ k => XS.sipush X15.here hx rfl (hb hby at_93) k) ?_
  show OwnEnds p e below _ (T15.setTop (mkF m 96 #[.val (.int p0), .val (.int p1), .val (.int p2), .val (.int p3), .unset, .unset, .unset] [(.int (895 : Int32)), (.int (14 : Int32)), (.ref b1), (.ref b1)]))
  obtain ⟨cl16, Ar16, qa16, qs16, qn16, qh16, qg16⟩ := id V15
  have hin16 : ¬ ((14 : Int32) < 0 ∨ cl16.slots.size ≤ ((14 : Int32)).toNatClampNeg) := inb_of qs16 ⟨by decide, by decide⟩
  obtain ⟨T16, h16, X16, e16, W16, st16⟩ := stI X15 hx hZ e15 Ar16 (j := (14 : Int32)) hin16 (g := (mkF m 96 #[.val (.int p0), .val (.int p1), .val (.int p2), .val (.int p3), .unset, .unset, .unset] [(.int (895 : Int32)), (.int (14 : Int32)), (.ref b1), (.ref b1)])) rfl rfl (hb hby at_96)
  have V16 : Arv Z h16 b1 kk1 .int (30 : Int32) [(.int (58 : Int32)), (.int (65 : Int32)), (.int (90 : Int32)), (.int (95 : Int32)), (.int (97 : Int32)), (.int (122 : Int32)), (.int (192 : Int32)), (.int (214 : Int32)), (.int (216 : Int32)), (.int (246 : Int32)), (.int (248 : Int32)), (.int (767 : Int32)), (.int (880 : Int32)), (.int (893 : Int32)), (.int (895 : Int32)), (.int (0 : Int32)), (.int (0 : Int32)), (.int (0 : Int32)), (.int (0 : Int32)), (.int (0 : Int32)), (.int (0 : Int32)), (.int (0 : Int32)), (.int (0 : Int32)), (.int (0 : Int32)), (.int (0 : Int32)), (.int (0 : Int32)), (.int (0 : Int32)), (.int (0 : Int32)), (.int (0 : Int32)), (.int (0 : Int32))] (.int (0 : Int32)) := Arv.set Ar16 qa16 qs16 qn16 qh16 qg16 rfl W16 14 rfl (Nat.le_of_ble_eq_true rfl)
  have N16 := Fr.snoc X16 N15 g_b1
  refine .pre (fun _ k => st16 _ k) ?_
  show OwnEnds p e below _ (T16.setTop (mkF m 97 #[.val (.int p0), .val (.int p1), .val (.int p2), .val (.int p3), .unset, .unset, .unset] [(.ref b1)]))
  refine .pre (fun _ k => XS.dup X16.here hx rfl (hb hby at_97) rfl rfl k) ?_
  show OwnEnds p e below _ (T16.setTop (mkF m 98 #[.val (.int p0), .val (.int p1), .val (.int p2), .val (.int p3), .unset, .unset, .unset] [(.ref b1), (.ref b1)]))
  refine .pre (fun _ k => XS.bipush X16.here hx rfl (hb hby at_98) k) ?_
  show OwnEnds p e below _ (T16.setTop (mkF m 100 #[.val (.int p0), .val (.int p1), .val (.int p2), .val (.int p3), .unset, .unset, .unset] [(.int (15 : Int32)), (.ref b1), (.ref b1)]))
  refine .pre (fun _ k => XS.sipush X16.here hx rfl (hb hby at_100) k) ?_
  show OwnEnds p e below _ (T16.setTop (mkF m 103 #[.val (.int p0), .val (.int p1), .val (.int p2), .val (.int p3), .unset, .unset, .unset] [(.int (8191 : Int32)), (.int (15 : Int32)), (.ref b1), (.ref b1)]))
  obtain ⟨cl17, Ar17, qa17, qs17, qn17, qh17, qg17⟩ := id V16
  have hin17 : ¬ ((15 : Int32) < 0 ∨ cl17.slots.size ≤ ((15 : Int32)).toNatClampNeg) := inb_of qs17 ⟨by decide, by decide⟩
  obtain ⟨T17, h17, X17, e17, W17, st17⟩ := stI X16 hx hZ e16 Ar17 (j := (15 : Int32)) hin17 (g := (mkF m 103 #[.val (.int p0), .val (.int p1), .val (.int p2), .val (.int p3), .unset, .unset, .unset] [(.int (8191 : Int32)), (.int (15 : Int32)), (.ref b1), (.ref b1)])) rfl rfl (hb hby at_103)
  have V17 : Arv Z h17 b1 kk1 .int (30 : Int32) [(.int (58 : Int32)), (.int (65 : Int32)), (.int (90 : Int32)), (.int (95 : Int32)), (.int (97 : Int32)), (.int (122 : Int32)), (.int (192 : Int32)), (.int (214 : Int32)), (.int (216 : Int32)), (.int (246 : Int32)), (.int (248 : Int32)), (.int (767 : Int32)), (.int (880 : Int32)), (.int (893 : Int32)), (.int (895 : Int32)), (.int (8191 : Int32)), (.int (0 : Int32)), (.int (0 : Int32)), (.int (0 : Int32)), (.int (0 : Int32)), (.int (0 : Int32)), (.int (0 : Int32)), (.int (0 : Int32)), (.int (0 : Int32)), (.int (0 : Int32)), (.int (0 : Int32)), (.int (0 : Int32)), (.int (0 : Int32)), (.int (0 : Int32)), (.int (0 : Int32))] (.int (0 : Int32)) := Arv.set Ar17 qa17 qs17 qn17 qh17 qg17 rfl W17 15 rfl (Nat.le_of_ble_eq_true rfl)
  have N17 := Fr.snoc X17 N16 g_b1
  refine .pre (fun _ k => st17 _ k) ?_
  show OwnEnds p e below _ (T17.setTop (mkF m 104 #[.val (.int p0), .val (.int p1), .val (.int p2), .val (.int p3), .unset, .unset, .unset] [(.ref b1)]))
  refine .pre (fun _ k => XS.dup X17.here hx rfl (hb hby at_104) rfl rfl k) ?_
  show OwnEnds p e below _ (T17.setTop (mkF m 105 #[.val (.int p0), .val (.int p1), .val (.int p2), .val (.int p3), .unset, .unset, .unset] [(.ref b1), (.ref b1)]))
  refine .pre (fun _ k => XS.bipush X17.here hx rfl (hb hby at_105) k) ?_
  show OwnEnds p e below _ (T17.setTop (mkF m 107 #[.val (.int p0), .val (.int p1), .val (.int p2), .val (.int p3), .unset, .unset, .unset] [(.int (16 : Int32)), (.ref b1), (.ref b1)]))
  refine .pre (fun _ k => XS.sipush X17.here hx rfl (hb hby at_107) k) ?_
  show OwnEnds p e below _ (T17.setTop (mkF m 110 #[.val (.int p0), .val (.int p1), .val (.int p2), .val (.int p3), .unset, .unset, .unset] [(.int (8204 : Int32)), (.int (16 : Int32)), (.ref b1), (.ref b1)]))
  obtain ⟨cl18, Ar18, qa18, qs18, qn18, qh18, qg18⟩ := id V17
  have hin18 : ¬ ((16 : Int32) < 0 ∨ cl18.slots.size ≤ ((16 : Int32)).toNatClampNeg) := inb_of qs18 ⟨by decide, by decide⟩
  obtain ⟨T18, h18, X18, e18, W18, st18⟩ := stI X17 hx hZ e17 Ar18 (j := (16 : Int32)) hin18 (g := (mkF m 110 #[.val (.int p0), .val (.int p1), .val (.int p2), .val (.int p3), .unset, .unset, .unset] [(.int (8204 : Int32)), (.int (16 : Int32)), (.ref b1), (.ref b1)])) rfl rfl (hb hby at_110)
  have V18 : Arv Z h18 b1 kk1 .int (30 : Int32) [(.int (58 : Int32)), (.int (65 : Int32)), (.int (90 : Int32)), (.int (95 : Int32)), (.int (97 : Int32)), (.int (122 : Int32)), (.int (192 : Int32)), (.int (214 : Int32)), (.int (216 : Int32)), (.int (246 : Int32)), (.int (248 : Int32)), (.int (767 : Int32)), (.int (880 : Int32)), (.int (893 : Int32)), (.int (895 : Int32)), (.int (8191 : Int32)), (.int (8204 : Int32)), (.int (0 : Int32)), (.int (0 : Int32)), (.int (0 : Int32)), (.int (0 : Int32)), (.int (0 : Int32)), (.int (0 : Int32)), (.int (0 : Int32)), (.int (0 : Int32)), (.int (0 : Int32)), (.int (0 : Int32)), (.int (0 : Int32)), (.int (0 : Int32)), (.int (0 : Int32))] (.int (0 : Int32)) := Arv.set Ar18 qa18 qs18 qn18 qh18 qg18 rfl W18 16 rfl (Nat.le_of_ble_eq_true rfl)
  have N18 := Fr.snoc X18 N17 g_b1
  refine .pre (fun _ k => st18 _ k) ?_
  show OwnEnds p e below _ (T18.setTop (mkF m 111 #[.val (.int p0), .val (.int p1), .val (.int p2), .val (.int p3), .unset, .unset, .unset] [(.ref b1)]))
  refine .pre (fun _ k => XS.dup X18.here hx rfl (hb hby at_111) rfl rfl k) ?_
  show OwnEnds p e below _ (T18.setTop (mkF m 112 #[.val (.int p0), .val (.int p1), .val (.int p2), .val (.int p3), .unset, .unset, .unset] [(.ref b1), (.ref b1)]))
  refine .pre (fun _ k => XS.bipush X18.here hx rfl (hb hby at_112) k) ?_
  show OwnEnds p e below _ (T18.setTop (mkF m 114 #[.val (.int p0), .val (.int p1), .val (.int p2), .val (.int p3), .unset, .unset, .unset] [(.int (17 : Int32)), (.ref b1), (.ref b1)]))
  refine .pre (fun _ k => XS.sipush X18.here hx rfl (hb hby at_114) k) ?_
  show OwnEnds p e below _ (T18.setTop (mkF m 117 #[.val (.int p0), .val (.int p1), .val (.int p2), .val (.int p3), .unset, .unset, .unset] [(.int (8205 : Int32)), (.int (17 : Int32)), (.ref b1), (.ref b1)]))
  obtain ⟨cl19, Ar19, qa19, qs19, qn19, qh19, qg19⟩ := id V18
  have hin19 : ¬ ((17 : Int32) < 0 ∨ cl19.slots.size ≤ ((17 : Int32)).toNatClampNeg) := inb_of qs19 ⟨by decide, by decide⟩
  obtain ⟨T19, h19, X19, e19, W19, st19⟩ := stI X18 hx hZ e18 Ar19 (j := (17 : Int32)) hin19 (g := (mkF m 117 #[.val (.int p0), .val (.int p1), .val (.int p2), .val (.int p3), .unset, .unset, .unset] [(.int (8205 : Int32)), (.int (17 : Int32)), (.ref b1), (.ref b1)])) rfl rfl (hb hby at_117)
  have V19 : Arv Z h19 b1 kk1 .int (30 : Int32) [(.int (58 : Int32)), (.int (65 : Int32)), (.int (90 : Int32)), (.int (95 : Int32)), (.int (97 : Int32)), (.int (122 : Int32)), (.int (192 : Int32)), (.int (214 : Int32)), (.int (216 : Int32)), (.int (246 : Int32)), (.int (248 : Int32)), (.int (767 : Int32)), (.int (880 : Int32)), (.int (893 : Int32)), (.int (895 : Int32)), (.int (8191 : Int32)), (.int (8204 : Int32)), (.int (8205 : Int32)), (.int (0 : Int32)), (.int (0 : Int32)), (.int (0 : Int32)), (.int (0 : Int32)), (.int (0 : Int32)), (.int (0 : Int32)), (.int (0 : Int32)), (.int (0 : Int32)), (.int (0 : Int32)), (.int (0 : Int32)), (.int (0 : Int32)), (.int (0 : Int32))] (.int (0 : Int32)) := Arv.set Ar19 qa19 qs19 qn19 qh19 qg19 rfl W19 17 rfl (Nat.le_of_ble_eq_true rfl)
  have N19 := Fr.snoc X19 N18 g_b1
  refine .pre (fun _ k => st19 _ k) ?_
  show OwnEnds p e below _ (T19.setTop (mkF m 118 #[.val (.int p0), .val (.int p1), .val (.int p2), .val (.int p3), .unset, .unset, .unset] [(.ref b1)]))
  refine .pre (fun _ k => XS.dup X19.here hx rfl (hb hby at_118) rfl rfl k) ?_
  show OwnEnds p e below _ (T19.setTop (mkF m 119 #[.val (.int p0), .val (.int p1), .val (.int p2), .val (.int p3), .unset, .unset, .unset] [(.ref b1), (.ref b1)]))
  refine .pre (fun _ k => XS.bipush X19.here hx rfl (hb hby at_119) k) ?_
  show OwnEnds p e below _ (T19.setTop (mkF m 121 #[.val (.int p0), .val (.int p1), .val (.int p2), .val (.int p3), .unset, .unset, .unset] [(.int (18 : Int32)), (.ref b1), (.ref b1)]))
  refine .pre (fun _ k => XS.sipush X19.here hx rfl (hb hby at_121) k) ?_
  show OwnEnds p e below _ (T19.setTop (mkF m 124 #[.val (.int p0), .val (.int p1), .val (.int p2), .val (.int p3), .unset, .unset, .unset] [(.int (8304 : Int32)), (.int (18 : Int32)), (.ref b1), (.ref b1)]))
  obtain ⟨cl20, Ar20, qa20, qs20, qn20, qh20, qg20⟩ := id V19
  have hin20 : ¬ ((18 : Int32) < 0 ∨ cl20.slots.size ≤ ((18 : Int32)).toNatClampNeg) := inb_of qs20 ⟨by decide, by decide⟩
  obtain ⟨T20, h20, X20, e20, W20, st20⟩ := stI X19 hx hZ e19 Ar20 (j := (18 : Int32)) hin20 (g := (mkF m 124 #[.val (.int p0), .val (.int p1), .val (.int p2), .val (.int p3), .unset, .unset, .unset] [(.int (8304 : Int32)), (.int (18 : Int32)), (.ref b1), (.ref b1)])) rfl rfl (hb hby at_124)
  have V20 : Arv Z h20 b1 kk1 .int (30 : Int32) [(.int (58 : Int32)), (.int (65 : Int32)), (.int (90 : Int32)), (.int (95 : Int32)), (.int (97 : Int32)), (.int (122 : Int32)), (.int (192 : Int32)), (.int (214 : Int32)), (.int (216 : Int32)), (.int (246 : Int32)), (.int (248 : Int32)), (.int (767 : Int32)), (.int (880 : Int32)), (.int (893 : Int32)), (.int (895 : Int32)), (.int (8191 : Int32)), (.int (8204 : Int32)), (.int (8205 : Int32)), (.int (8304 : Int32)), (.int (0 : Int32)), (.int (0 : Int32)), (.int (0 : Int32)), (.int (0 : Int32)), (.int (0 : Int32)), (.int (0 : Int32)), (.int (0 : Int32)), (.int (0 : Int32)), (.int (0 : Int32)), (.int (0 : Int32)), (.int (0 : Int32))] (.int (0 : Int32)) := Arv.set Ar20 qa20 qs20 qn20 qh20 qg20 rfl W20 18 rfl (Nat.le_of_ble_eq_true rfl)
  have N20 := Fr.snoc X20 N19 g_b1
  refine .pre (fun _ k => st20 _ k) ?_
  show OwnEnds p e below _ (T20.setTop (mkF m 125 #[.val (.int p0), .val (.int p1), .val (.int p2), .val (.int p3), .unset, .unset, .unset] [(.ref b1)]))
  refine .pre (fun _ k => XS.dup X20.here hx rfl (hb hby at_125) rfl rfl k) ?_
  show OwnEnds p e below _ (T20.setTop (mkF m 126 #[.val (.int p0), .val (.int p1), .val (.int p2), .val (.int p3), .unset, .unset, .unset] [(.ref b1), (.ref b1)]))
  refine .pre (fun _ k => XS.bipush X20.here hx rfl (hb hby at_126) k) ?_
  show OwnEnds p e below _ (T20.setTop (mkF m 128 #[.val (.int p0), .val (.int p1), .val (.int p2), .val (.int p3), .unset, .unset, .unset] [(.int (19 : Int32)), (.ref b1), (.ref b1)]))
  refine .pre (fun _ k => XS.sipush X20.here hx rfl (hb hby at_128) k) ?_
  show OwnEnds p e below _ (T20.setTop (mkF m 131 #[.val (.int p0), .val (.int p1), .val (.int p2), .val (.int p3), .unset, .unset, .unset] [(.int (8591 : Int32)), (.int (19 : Int32)), (.ref b1), (.ref b1)]))
  obtain ⟨cl21, Ar21, qa21, qs21, qn21, qh21, qg21⟩ := id V20
  have hin21 : ¬ ((19 : Int32) < 0 ∨ cl21.slots.size ≤ ((19 : Int32)).toNatClampNeg) := inb_of qs21 ⟨by decide, by decide⟩
  obtain ⟨T21, h21, X21, e21, W21, st21⟩ := stI X20 hx hZ e20 Ar21 (j := (19 : Int32)) hin21 (g := (mkF m 131 #[.val (.int p0), .val (.int p1), .val (.int p2), .val (.int p3), .unset, .unset, .unset] [(.int (8591 : Int32)), (.int (19 : Int32)), (.ref b1), (.ref b1)])) rfl rfl (hb hby at_131)
  have V21 : Arv Z h21 b1 kk1 .int (30 : Int32) [(.int (58 : Int32)), (.int (65 : Int32)), (.int (90 : Int32)), (.int (95 : Int32)), (.int (97 : Int32)), (.int (122 : Int32)), (.int (192 : Int32)), (.int (214 : Int32)), (.int (216 : Int32)), (.int (246 : Int32)), (.int (248 : Int32)), (.int (767 : Int32)), (.int (880 : Int32)), (.int (893 : Int32)), (.int (895 : Int32)), (.int (8191 : Int32)), (.int (8204 : Int32)), (.int (8205 : Int32)), (.int (8304 : Int32)), (.int (8591 : Int32)), (.int (0 : Int32)), (.int (0 : Int32)), (.int (0 : Int32)), (.int (0 : Int32)), (.int (0 : Int32)), (.int (0 : Int32)), (.int (0 : Int32)), (.int (0 : Int32)), (.int (0 : Int32)), (.int (0 : Int32))] (.int (0 : Int32)) := Arv.set Ar21 qa21 qs21 qn21 qh21 qg21 rfl W21 19 rfl (Nat.le_of_ble_eq_true rfl)
  have N21 := Fr.snoc X21 N20 g_b1
  refine .pre (fun _ k => st21 _ k) ?_
  show OwnEnds p e below _ (T21.setTop (mkF m 132 #[.val (.int p0), .val (.int p1), .val (.int p2), .val (.int p3), .unset, .unset, .unset] [(.ref b1)]))
  refine .pre (fun _ k => XS.dup X21.here hx rfl (hb hby at_132) rfl rfl k) ?_
  show OwnEnds p e below _ (T21.setTop (mkF m 133 #[.val (.int p0), .val (.int p1), .val (.int p2), .val (.int p3), .unset, .unset, .unset] [(.ref b1), (.ref b1)]))
  refine .pre (fun _ k => XS.bipush X21.here hx rfl (hb hby at_133) k) ?_
  show OwnEnds p e below _ (T21.setTop (mkF m 135 #[.val (.int p0), .val (.int p1), .val (.int p2), .val (.int p3), .unset, .unset, .unset] [(.int (20 : Int32)), (.ref b1), (.ref b1)]))
  refine .pre (fun _ k => XS.sipush X21.here hx rfl (hb hby at_135) k) ?_
  show OwnEnds p e below _ (T21.setTop (mkF m 138 #[.val (.int p0), .val (.int p1), .val (.int p2), .val (.int p3), .unset, .unset, .unset] [(.int (11264 : Int32)), (.int (20 : Int32)), (.ref b1), (.ref b1)]))
  obtain ⟨cl22, Ar22, qa22, qs22, qn22, qh22, qg22⟩ := id V21
  have hin22 : ¬ ((20 : Int32) < 0 ∨ cl22.slots.size ≤ ((20 : Int32)).toNatClampNeg) := inb_of qs22 ⟨by decide, by decide⟩
  obtain ⟨T22, h22, X22, e22, W22, st22⟩ := stI X21 hx hZ e21 Ar22 (j := (20 : Int32)) hin22 (g := (mkF m 138 #[.val (.int p0), .val (.int p1), .val (.int p2), .val (.int p3), .unset, .unset, .unset] [(.int (11264 : Int32)), (.int (20 : Int32)), (.ref b1), (.ref b1)])) rfl rfl (hb hby at_138)
  have V22 : Arv Z h22 b1 kk1 .int (30 : Int32) [(.int (58 : Int32)), (.int (65 : Int32)), (.int (90 : Int32)), (.int (95 : Int32)), (.int (97 : Int32)), (.int (122 : Int32)), (.int (192 : Int32)), (.int (214 : Int32)), (.int (216 : Int32)), (.int (246 : Int32)), (.int (248 : Int32)), (.int (767 : Int32)), (.int (880 : Int32)), (.int (893 : Int32)), (.int (895 : Int32)), (.int (8191 : Int32)), (.int (8204 : Int32)), (.int (8205 : Int32)), (.int (8304 : Int32)), (.int (8591 : Int32)), (.int (11264 : Int32)), (.int (0 : Int32)), (.int (0 : Int32)), (.int (0 : Int32)), (.int (0 : Int32)), (.int (0 : Int32)), (.int (0 : Int32)), (.int (0 : Int32)), (.int (0 : Int32)), (.int (0 : Int32))] (.int (0 : Int32)) := Arv.set Ar22 qa22 qs22 qn22 qh22 qg22 rfl W22 20 rfl (Nat.le_of_ble_eq_true rfl)
  have N22 := Fr.snoc X22 N21 g_b1
  refine .pre (fun _ k => st22 _ k) ?_
  show OwnEnds p e below _ (T22.setTop (mkF m 139 #[.val (.int p0), .val (.int p1), .val (.int p2), .val (.int p3), .unset, .unset, .unset] [(.ref b1)]))
  refine .pre (fun _ k => XS.dup X22.here hx rfl (hb hby at_139) rfl rfl k) ?_
  show OwnEnds p e below _ (T22.setTop (mkF m 140 #[.val (.int p0), .val (.int p1), .val (.int p2), .val (.int p3), .unset, .unset, .unset] [(.ref b1), (.ref b1)]))
  refine .pre (fun _ k => XS.bipush X22.here hx rfl (hb hby at_140) k) ?_
  show OwnEnds p e below _ (T22.setTop (mkF m 142 #[.val (.int p0), .val (.int p1), .val (.int p2), .val (.int p3), .unset, .unset, .unset] [(.int (21 : Int32)), (.ref b1), (.ref b1)]))
  refine .pre (fun _ k => XS.sipush X22.here hx rfl (hb hby at_142) k) ?_
  show OwnEnds p e below _ (T22.setTop (mkF m 145 #[.val (.int p0), .val (.int p1), .val (.int p2), .val (.int p3), .unset, .unset, .unset] [(.int (12271 : Int32)), (.int (21 : Int32)), (.ref b1), (.ref b1)]))
  obtain ⟨cl23, Ar23, qa23, qs23, qn23, qh23, qg23⟩ := id V22
  have hin23 : ¬ ((21 : Int32) < 0 ∨ cl23.slots.size ≤ ((21 : Int32)).toNatClampNeg) := inb_of qs23 ⟨by decide, by decide⟩
  obtain ⟨T23, h23, X23, e23, W23, st23⟩ := stI X22 hx hZ e22 Ar23 (j := (21 : Int32)) hin23 (g := (mkF m 145 #[.val (.int p0), .val (.int p1), .val (.int p2), .val (.int p3), .unset, .unset, .unset] [(.int (12271 : Int32)), (.int (21 : Int32)), (.ref b1), (.ref b1)])) rfl rfl (hb hby at_145)
  have V23 : Arv Z h23 b1 kk1 .int (30 : Int32) [(.int (58 : Int32)), (.int (65 : Int32)), (.int (90 : Int32)), (.int (95 : Int32)), (.int (97 : Int32)), (.int (122 : Int32)), (.int (192 : Int32)), (.int (214 : Int32)), (.int (216 : Int32)), (.int (246 : Int32)), (.int (248 : Int32)), (.int (767 : Int32)), (.int (880 : Int32)), (.int (893 : Int32)), (.int (895 : Int32)), (.int (8191 : Int32)), (.int (8204 : Int32)), (.int (8205 : Int32)), (.int (8304 : Int32)), (.int (8591 : Int32)), (.int (11264 : Int32)), (.int (12271 : Int32)), (.int (0 : Int32)), (.int (0 : Int32)), (.int (0 : Int32)), (.int (0 : Int32)), (.int (0 : Int32)), (.int (0 : Int32)), (.int (0 : Int32)), (.int (0 : Int32))] (.int (0 : Int32)) := Arv.set Ar23 qa23 qs23 qn23 qh23 qg23 rfl W23 21 rfl (Nat.le_of_ble_eq_true rfl)
  have N23 := Fr.snoc X23 N22 g_b1
  refine .pre (fun _ k => st23 _ k) ?_
  show OwnEnds p e below _ (T23.setTop (mkF m 146 #[.val (.int p0), .val (.int p1), .val (.int p2), .val (.int p3), .unset, .unset, .unset] [(.ref b1)]))
  refine .pre (fun _ k => XS.dup X23.here hx rfl (hb hby at_146) rfl rfl k) ?_
  show OwnEnds p e below _ (T23.setTop (mkF m 147 #[.val (.int p0), .val (.int p1), .val (.int p2), .val (.int p3), .unset, .unset, .unset] [(.ref b1), (.ref b1)]))
  refine .pre (fun _ k => XS.bipush X23.here hx rfl (hb hby at_147) k) ?_
  show OwnEnds p e below _ (T23.setTop (mkF m 149 #[.val (.int p0), .val (.int p1), .val (.int p2), .val (.int p3), .unset, .unset, .unset] [(.int (22 : Int32)), (.ref b1), (.ref b1)]))
  refine .pre (fun _ k => XS.sipush X23.here hx rfl (hb hby at_149) k) ?_
  show OwnEnds p e below _ (T23.setTop (mkF m 152 #[.val (.int p0), .val (.int p1), .val (.int p2), .val (.int p3), .unset, .unset, .unset] [(.int (12289 : Int32)), (.int (22 : Int32)), (.ref b1), (.ref b1)]))
  obtain ⟨cl24, Ar24, qa24, qs24, qn24, qh24, qg24⟩ := id V23
  have hin24 : ¬ ((22 : Int32) < 0 ∨ cl24.slots.size ≤ ((22 : Int32)).toNatClampNeg) := inb_of qs24 ⟨by decide, by decide⟩
  obtain ⟨T24, h24, X24, e24, W24, st24⟩ := stI X23 hx hZ e23 Ar24 (j := (22 : Int32)) hin24 (g := (mkF m 152 #[.val (.int p0), .val (.int p1), .val (.int p2), .val (.int p3), .unset, .unset, .unset] [(.int (12289 : Int32)), (.int (22 : Int32)), (.ref b1), (.ref b1)])) rfl rfl (hb hby at_152)
  have V24 : Arv Z h24 b1 kk1 .int (30 : Int32) [(.int (58 : Int32)), (.int (65 : Int32)), (.int (90 : Int32)), (.int (95 : Int32)), (.int (97 : Int32)), (.int (122 : Int32)), (.int (192 : Int32)), (.int (214 : Int32)), (.int (216 : Int32)), (.int (246 : Int32)), (.int (248 : Int32)), (.int (767 : Int32)), (.int (880 : Int32)), (.int (893 : Int32)), (.int (895 : Int32)), (.int (8191 : Int32)), (.int (8204 : Int32)), (.int (8205 : Int32)), (.int (8304 : Int32)), (.int (8591 : Int32)), (.int (11264 : Int32)), (.int (12271 : Int32)), (.int (12289 : Int32)), (.int (0 : Int32)), (.int (0 : Int32)), (.int (0 : Int32)), (.int (0 : Int32)), (.int (0 : Int32)), (.int (0 : Int32)), (.int (0 : Int32))] (.int (0 : Int32)) := Arv.set Ar24 qa24 qs24 qn24 qh24 qg24 rfl W24 22 rfl (Nat.le_of_ble_eq_true rfl)
  have N24 := Fr.snoc X24 N23 g_b1
  refine .pre (fun _ k => st24 _ k) ?_
  show OwnEnds p e below _ (T24.setTop (mkF m 153 #[.val (.int p0), .val (.int p1), .val (.int p2), .val (.int p3), .unset, .unset, .unset] [(.ref b1)]))
  refine .pre (fun _ k => XS.dup X24.here hx rfl (hb hby at_153) rfl rfl k) ?_
  show OwnEnds p e below _ (T24.setTop (mkF m 154 #[.val (.int p0), .val (.int p1), .val (.int p2), .val (.int p3), .unset, .unset, .unset] [(.ref b1), (.ref b1)]))
  refine .pre (fun _ k => XS.bipush X24.here hx rfl (hb hby at_154) k) ?_
  show OwnEnds p e below _ (T24.setTop (mkF m 156 #[.val (.int p0), .val (.int p1), .val (.int p2), .val (.int p3), .unset, .unset, .unset] [(.int (23 : Int32)), (.ref b1), (.ref b1)]))
  refine .pre (fun _ k => X24.ldcInt hx hown (mvT hZ (hw _ (List.mem_of_getElem? (i := 1) rfl))) (g := (mkF m 156 #[.val (.int p0), .val (.int p1), .val (.int p2), .val (.int p3), .unset, .unset, .unset] [(.int (23 : Int32)), (.ref b1), (.ref b1)])) rfl (hb hby at_156) _ k) ?_
  show OwnEnds p e below _ (T24.setTop (mkF m 158 #[.val (.int p0), .val (.int p1), .val (.int p2), .val (.int p3), .unset, .unset, .unset] [(.int (55295 : Int32)), (.int (23 : Int32)), (.ref b1), (.ref b1)]))
  obtain ⟨cl25, Ar25, qa25, qs25, qn25, qh25, qg25⟩ := id V24
  have hin25 : ¬ ((23 : Int32) < 0 ∨ cl25.slots.size ≤ ((23 : Int32)).toNatClampNeg) := inb_of qs25 ⟨by decide, by decide⟩
  obtain ⟨T25, h25, X25, e25, W25, st25⟩ := stI X24 hx hZ e24 Ar25 (j := (23 : Int32)) hin25 (g := (mkF m 158 #[.val (.int p0), .val (.int p1), .val (.int p2), .val (.int p3), .unset, .unset, .unset] [(.int (55295 : Int32)), (.int (23 : Int32)), (.ref b1), (.ref b1)])) rfl rfl (hb hby at_158)
  have V25 : Arv Z h25 b1 kk1 .int (30 : Int32) [(.int (58 : Int32)), (.int (65 : Int32)), (.int (90 : Int32)), (.int (95 : Int32)), (.int (97 : Int32)), (.int (122 : Int32)), (.int (192 : Int32)), (.int (214 : Int32)), (.int (216 : Int32)), (.int (246 : Int32)), (.int (248 : Int32)), (.int (767 : Int32)), (.int (880 : Int32)), (.int (893 : Int32)), (.int (895 : Int32)), (.int (8191 : Int32)), (.int (8204 : Int32)), (.int (8205 : Int32)), (.int (8304 : Int32)), (.int (8591 : Int32)), (.int (11264 : Int32)), (.int (12271 : Int32)), (.int (12289 : Int32)), (.int (55295 : Int32)), (.int (0 : Int32)), (.int (0 : Int32)), (.int (0 : Int32)), (.int (0 : Int32)), (.int (0 : Int32)), (.int (0 : Int32))] (.int (0 : Int32)) := Arv.set Ar25 qa25 qs25 qn25 qh25 qg25 rfl W25 23 rfl (Nat.le_of_ble_eq_true rfl)
  have N25 := Fr.snoc X25 N24 g_b1
  refine .pre (fun _ k => st25 _ k) ?_
  show OwnEnds p e below _ (T25.setTop (mkF m 159 #[.val (.int p0), .val (.int p1), .val (.int p2), .val (.int p3), .unset, .unset, .unset] [(.ref b1)]))
  refine .pre (fun _ k => XS.dup X25.here hx rfl (hb hby at_159) rfl rfl k) ?_
  show OwnEnds p e below _ (T25.setTop (mkF m 160 #[.val (.int p0), .val (.int p1), .val (.int p2), .val (.int p3), .unset, .unset, .unset] [(.ref b1), (.ref b1)]))
  refine .pre (fun _ k => XS.bipush X25.here hx rfl (hb hby at_160) k) ?_
  show OwnEnds p e below _ (T25.setTop (mkF m 162 #[.val (.int p0), .val (.int p1), .val (.int p2), .val (.int p3), .unset, .unset, .unset] [(.int (24 : Int32)), (.ref b1), (.ref b1)]))
  refine .pre (fun _ k => X25.ldcInt hx hown (mvT hZ (hw _ (List.mem_of_getElem? (i := 2) rfl))) (g := (mkF m 162 #[.val (.int p0), .val (.int p1), .val (.int p2), .val (.int p3), .unset, .unset, .unset] [(.int (24 : Int32)), (.ref b1), (.ref b1)])) rfl (hb hby at_162) _ k) ?_
  show OwnEnds p e below _ (T25.setTop (mkF m 164 #[.val (.int p0), .val (.int p1), .val (.int p2), .val (.int p3), .unset, .unset, .unset] [(.int (63744 : Int32)), (.int (24 : Int32)), (.ref b1), (.ref b1)]))
  obtain ⟨cl26, Ar26, qa26, qs26, qn26, qh26, qg26⟩ := id V25
  have hin26 : ¬ ((24 : Int32) < 0 ∨ cl26.slots.size ≤ ((24 : Int32)).toNatClampNeg) := inb_of qs26 ⟨by decide, by decide⟩
  obtain ⟨T26, h26, X26, e26, W26, st26⟩ := stI X25 hx hZ e25 Ar26 (j := (24 : Int32)) hin26 (g := (mkF m 164 #[.val (.int p0), .val (.int p1), .val (.int p2), .val (.int p3), .unset, .unset, .unset] [(.int (63744 : Int32)), (.int (24 : Int32)), (.ref b1), (.ref b1)])) rfl rfl (hb hby at_164)
  have V26 : Arv Z h26 b1 kk1 .int (30 : Int32) [(.int (58 : Int32)), (.int (65 : Int32)), (.int (90 : Int32)), (.int (95 : Int32)), (.int (97 : Int32)), (.int (122 : Int32)), (.int (192 : Int32)), (.int (214 : Int32)), (.int (216 : Int32)), (.int (246 : Int32)), (.int (248 : Int32)), (.int (767 : Int32)), (.int (880 : Int32)), (.int (893 : Int32)), (.int (895 : Int32)), (.int (8191 : Int32)), (.int (8204 : Int32)), (.int (8205 : Int32)), (.int (8304 : Int32)), (.int (8591 : Int32)), (.int (11264 : Int32)), (.int (12271 : Int32)), (.int (12289 : Int32)), (.int (55295 : Int32)), (.int (63744 : Int32)), (.int (0 : Int32)), (.int (0 : Int32)), (.int (0 : Int32)), (.int (0 : Int32)), (.int (0 : Int32))] (.int (0 : Int32)) := Arv.set Ar26 qa26 qs26 qn26 qh26 qg26 rfl W26 24 rfl (Nat.le_of_ble_eq_true rfl)
  have N26 := Fr.snoc X26 N25 g_b1
  refine .pre (fun _ k => st26 _ k) ?_
  show OwnEnds p e below _ (T26.setTop (mkF m 165 #[.val (.int p0), .val (.int p1), .val (.int p2), .val (.int p3), .unset, .unset, .unset] [(.ref b1)]))
  refine .pre (fun _ k => XS.dup X26.here hx rfl (hb hby at_165) rfl rfl k) ?_
  show OwnEnds p e below _ (T26.setTop (mkF m 166 #[.val (.int p0), .val (.int p1), .val (.int p2), .val (.int p3), .unset, .unset, .unset] [(.ref b1), (.ref b1)]))
  refine .pre (fun _ k => XS.bipush X26.here hx rfl (hb hby at_166) k) ?_
  show OwnEnds p e below _ (T26.setTop (mkF m 168 #[.val (.int p0), .val (.int p1), .val (.int p2), .val (.int p3), .unset, .unset, .unset] [(.int (25 : Int32)), (.ref b1), (.ref b1)]))
  refine .pre (fun _ k => X26.ldcInt hx hown (mvT hZ (hw _ (List.mem_of_getElem? (i := 3) rfl))) (g := (mkF m 168 #[.val (.int p0), .val (.int p1), .val (.int p2), .val (.int p3), .unset, .unset, .unset] [(.int (25 : Int32)), (.ref b1), (.ref b1)])) rfl (hb hby at_168) _ k) ?_
  show OwnEnds p e below _ (T26.setTop (mkF m 170 #[.val (.int p0), .val (.int p1), .val (.int p2), .val (.int p3), .unset, .unset, .unset] [(.int (64975 : Int32)), (.int (25 : Int32)), (.ref b1), (.ref b1)]))
  obtain ⟨cl27, Ar27, qa27, qs27, qn27, qh27, qg27⟩ := id V26
  have hin27 : ¬ ((25 : Int32) < 0 ∨ cl27.slots.size ≤ ((25 : Int32)).toNatClampNeg) := inb_of qs27 ⟨by decide, by decide⟩
  obtain ⟨T27, h27, X27, e27, W27, st27⟩ := stI X26 hx hZ e26 Ar27 (j := (25 : Int32)) hin27 (g := (mkF m 170 #[.val (.int p0), .val (.int p1), .val (.int p2), .val (.int p3), .unset, .unset, .unset] [(.int (64975 : Int32)), (.int (25 : Int32)), (.ref b1), (.ref b1)])) rfl rfl (hb hby at_170)
  have V27 : Arv Z h27 b1 kk1 .int (30 : Int32) [(.int (58 : Int32)), (.int (65 : Int32)), (.int (90 : Int32)), (.int (95 : Int32)), (.int (97 : Int32)), (.int (122 : Int32)), (.int (192 : Int32)), (.int (214 : Int32)), (.int (216 : Int32)), (.int (246 : Int32)), (.int (248 : Int32)), (.int (767 : Int32)), (.int (880 : Int32)), (.int (893 : Int32)), (.int (895 : Int32)), (.int (8191 : Int32)), (.int (8204 : Int32)), (.int (8205 : Int32)), (.int (8304 : Int32)), (.int (8591 : Int32)), (.int (11264 : Int32)), (.int (12271 : Int32)), (.int (12289 : Int32)), (.int (55295 : Int32)), (.int (63744 : Int32)), (.int (64975 : Int32)), (.int (0 : Int32)), (.int (0 : Int32)), (.int (0 : Int32)), (.int (0 : Int32))] (.int (0 : Int32)) := Arv.set Ar27 qa27 qs27 qn27 qh27 qg27 rfl W27 25 rfl (Nat.le_of_ble_eq_true rfl)
  have N27 := Fr.snoc X27 N26 g_b1
  refine .pre (fun _ k => st27 _ k) ?_
  show OwnEnds p e below _ (T27.setTop (mkF m 171 #[.val (.int p0), .val (.int p1), .val (.int p2), .val (.int p3), .unset, .unset, .unset] [(.ref b1)]))
  refine .pre (fun _ k => XS.dup X27.here hx rfl (hb hby at_171) rfl rfl k) ?_
  show OwnEnds p e below _ (T27.setTop (mkF m 172 #[.val (.int p0), .val (.int p1), .val (.int p2), .val (.int p3), .unset, .unset, .unset] [(.ref b1), (.ref b1)]))
  refine .pre (fun _ k => XS.bipush X27.here hx rfl (hb hby at_172) k) ?_
  show OwnEnds p e below _ (T27.setTop (mkF m 174 #[.val (.int p0), .val (.int p1), .val (.int p2), .val (.int p3), .unset, .unset, .unset] [(.int (26 : Int32)), (.ref b1), (.ref b1)]))
  refine .pre (fun _ k => X27.ldcInt hx hown (mvT hZ (hw _ (List.mem_of_getElem? (i := 4) rfl))) (g := (mkF m 174 #[.val (.int p0), .val (.int p1), .val (.int p2), .val (.int p3), .unset, .unset, .unset] [(.int (26 : Int32)), (.ref b1), (.ref b1)])) rfl (hb hby at_174) _ k) ?_
  show OwnEnds p e below _ (T27.setTop (mkF m 176 #[.val (.int p0), .val (.int p1), .val (.int p2), .val (.int p3), .unset, .unset, .unset] [(.int (65008 : Int32)), (.int (26 : Int32)), (.ref b1), (.ref b1)]))
  obtain ⟨cl28, Ar28, qa28, qs28, qn28, qh28, qg28⟩ := id V27
  have hin28 : ¬ ((26 : Int32) < 0 ∨ cl28.slots.size ≤ ((26 : Int32)).toNatClampNeg) := inb_of qs28 ⟨by decide, by decide⟩
  obtain ⟨T28, h28, X28, e28, W28, st28⟩ := stI X27 hx hZ e27 Ar28 (j := (26 : Int32)) hin28 (g := (mkF m 176 #[.val (.int p0), .val (.int p1), .val (.int p2), .val (.int p3), .unset, .unset, .unset] [(.int (65008 : Int32)), (.int (26 : Int32)), (.ref b1), (.ref b1)])) rfl rfl (hb hby at_176)
  have V28 : Arv Z h28 b1 kk1 .int (30 : Int32) [(.int (58 : Int32)), (.int (65 : Int32)), (.int (90 : Int32)), (.int (95 : Int32)), (.int (97 : Int32)), (.int (122 : Int32)), (.int (192 : Int32)), (.int (214 : Int32)), (.int (216 : Int32)), (.int (246 : Int32)), (.int (248 : Int32)), (.int (767 : Int32)), (.int (880 : Int32)), (.int (893 : Int32)), (.int (895 : Int32)), (.int (8191 : Int32)), (.int (8204 : Int32)), (.int (8205 : Int32)), (.int (8304 : Int32)), (.int (8591 : Int32)), (.int (11264 : Int32)), (.int (12271 : Int32)), (.int (12289 : Int32)), (.int (55295 : Int32)), (.int (63744 : Int32)), (.int (64975 : Int32)), (.int (65008 : Int32)), (.int (0 : Int32)), (.int (0 : Int32)), (.int (0 : Int32))] (.int (0 : Int32)) := Arv.set Ar28 qa28 qs28 qn28 qh28 qg28 rfl W28 26 rfl (Nat.le_of_ble_eq_true rfl)
  have N28 := Fr.snoc X28 N27 g_b1
  refine .pre (fun _ k => st28 _ k) ?_
  show OwnEnds p e below _ (T28.setTop (mkF m 177 #[.val (.int p0), .val (.int p1), .val (.int p2), .val (.int p3), .unset, .unset, .unset] [(.ref b1)]))
  refine .pre (fun _ k => XS.dup X28.here hx rfl (hb hby at_177) rfl rfl k) ?_
  show OwnEnds p e below _ (T28.setTop (mkF m 178 #[.val (.int p0), .val (.int p1), .val (.int p2), .val (.int p3), .unset, .unset, .unset] [(.ref b1), (.ref b1)]))
  refine .pre (fun _ k => XS.bipush X28.here hx rfl (hb hby at_178) k) ?_
  show OwnEnds p e below _ (T28.setTop (mkF m 180 #[.val (.int p0), .val (.int p1), .val (.int p2), .val (.int p3), .unset, .unset, .unset] [(.int (27 : Int32)), (.ref b1), (.ref b1)]))
  refine .pre (fun _ k => X28.ldcInt hx hown (mvT hZ (hw _ (List.mem_of_getElem? (i := 5) rfl))) (g := (mkF m 180 #[.val (.int p0), .val (.int p1), .val (.int p2), .val (.int p3), .unset, .unset, .unset] [(.int (27 : Int32)), (.ref b1), (.ref b1)])) rfl (hb hby at_180) _ k) ?_
  show OwnEnds p e below _ (T28.setTop (mkF m 182 #[.val (.int p0), .val (.int p1), .val (.int p2), .val (.int p3), .unset, .unset, .unset] [(.int (65533 : Int32)), (.int (27 : Int32)), (.ref b1), (.ref b1)]))
  obtain ⟨cl29, Ar29, qa29, qs29, qn29, qh29, qg29⟩ := id V28
  have hin29 : ¬ ((27 : Int32) < 0 ∨ cl29.slots.size ≤ ((27 : Int32)).toNatClampNeg) := inb_of qs29 ⟨by decide, by decide⟩
  obtain ⟨T29, h29, X29, e29, W29, st29⟩ := stI X28 hx hZ e28 Ar29 (j := (27 : Int32)) hin29 (g := (mkF m 182 #[.val (.int p0), .val (.int p1), .val (.int p2), .val (.int p3), .unset, .unset, .unset] [(.int (65533 : Int32)), (.int (27 : Int32)), (.ref b1), (.ref b1)])) rfl rfl (hb hby at_182)
  have V29 : Arv Z h29 b1 kk1 .int (30 : Int32) [(.int (58 : Int32)), (.int (65 : Int32)), (.int (90 : Int32)), (.int (95 : Int32)), (.int (97 : Int32)), (.int (122 : Int32)), (.int (192 : Int32)), (.int (214 : Int32)), (.int (216 : Int32)), (.int (246 : Int32)), (.int (248 : Int32)), (.int (767 : Int32)), (.int (880 : Int32)), (.int (893 : Int32)), (.int (895 : Int32)), (.int (8191 : Int32)), (.int (8204 : Int32)), (.int (8205 : Int32)), (.int (8304 : Int32)), (.int (8591 : Int32)), (.int (11264 : Int32)), (.int (12271 : Int32)), (.int (12289 : Int32)), (.int (55295 : Int32)), (.int (63744 : Int32)), (.int (64975 : Int32)), (.int (65008 : Int32)), (.int (65533 : Int32)), (.int (0 : Int32)), (.int (0 : Int32))] (.int (0 : Int32)) := Arv.set Ar29 qa29 qs29 qn29 qh29 qg29 rfl W29 27 rfl (Nat.le_of_ble_eq_true rfl)
  have N29 := Fr.snoc X29 N28 g_b1
  refine .pre (fun _ k => st29 _ k) ?_
  show OwnEnds p e below _ (T29.setTop (mkF m 183 #[.val (.int p0), .val (.int p1), .val (.int p2), .val (.int p3), .unset, .unset, .unset] [(.ref b1)]))
  refine .pre (fun _ k => XS.dup X29.here hx rfl (hb hby at_183) rfl rfl k) ?_
  show OwnEnds p e below _ (T29.setTop (mkF m 184 #[.val (.int p0), .val (.int p1), .val (.int p2), .val (.int p3), .unset, .unset, .unset] [(.ref b1), (.ref b1)]))
  refine .pre (fun _ k => XS.bipush X29.here hx rfl (hb hby at_184) k) ?_
  show OwnEnds p e below _ (T29.setTop (mkF m 186 #[.val (.int p0), .val (.int p1), .val (.int p2), .val (.int p3), .unset, .unset, .unset] [(.int (28 : Int32)), (.ref b1), (.ref b1)]))
  refine .pre (fun _ k => X29.ldcInt hx hown (mvT hZ (hw _ (List.mem_of_getElem? (i := 6) rfl))) (g := (mkF m 186 #[.val (.int p0), .val (.int p1), .val (.int p2), .val (.int p3), .unset, .unset, .unset] [(.int (28 : Int32)), (.ref b1), (.ref b1)])) rfl (hb hby at_186) _ k) ?_
  show OwnEnds p e below _ (T29.setTop (mkF m 188 #[.val (.int p0), .val (.int p1), .val (.int p2), .val (.int p3), .unset, .unset, .unset] [(.int (65536 : Int32)), (.int (28 : Int32)), (.ref b1), (.ref b1)]))
  obtain ⟨cl30, Ar30, qa30, qs30, qn30, qh30, qg30⟩ := id V29
  have hin30 : ¬ ((28 : Int32) < 0 ∨ cl30.slots.size ≤ ((28 : Int32)).toNatClampNeg) := inb_of qs30 ⟨by decide, by decide⟩
  obtain ⟨T30, h30, X30, e30, W30, st30⟩ := stI X29 hx hZ e29 Ar30 (j := (28 : Int32)) hin30 (g := (mkF m 188 #[.val (.int p0), .val (.int p1), .val (.int p2), .val (.int p3), .unset, .unset, .unset] [(.int (65536 : Int32)), (.int (28 : Int32)), (.ref b1), (.ref b1)])) rfl rfl (hb hby at_188)
  have V30 : Arv Z h30 b1 kk1 .int (30 : Int32) [(.int (58 : Int32)), (.int (65 : Int32)), (.int (90 : Int32)), (.int (95 : Int32)), (.int (97 : Int32)), (.int (122 : Int32)), (.int (192 : Int32)), (.int (214 : Int32)), (.int (216 : Int32)), (.int (246 : Int32)), (.int (248 : Int32)), (.int (767 : Int32)), (.int (880 : Int32)), (.int (893 : Int32)), (.int (895 : Int32)), (.int (8191 : Int32)), (.int (8204 : Int32)), (.int (8205 : Int32)), (.int (8304 : Int32)), (.int (8591 : Int32)), (.int (11264 : Int32)), (.int (12271 : Int32)), (.int (12289 : Int32)), (.int (55295 : Int32)), (.int (63744 : Int32)), (.int (64975 : Int32)), (.int (65008 : Int32)), (.int (65533 : Int32)), (.int (65536 : Int32)), (.int (0 : Int32))] (.int (0 : Int32)) := Arv.set Ar30 qa30 qs30 qn30 qh30 qg30 rfl W30 28 rfl (Nat.le_of_ble_eq_true rfl)
  have N30 := Fr.snoc X30 N29 g_b1
  refine .pre (fun _ k => st30 _ k) ?_
  show OwnEnds p e below _ (T30.setTop (mkF m 189 #[.val (.int p0), .val (.int p1), .val (.int p2), .val (.int p3), .unset, .unset, .unset] [(.ref b1)]))
  refine .pre (fun _ k => XS.dup X30.here hx rfl (hb hby at_189) rfl rfl k) ?_
  show OwnEnds p e below _ (T30.setTop (mkF m 190 #[.val (.int p0), .val (.int p1), .val (.int p2), .val (.int p3), .unset, .unset, .unset] [(.ref b1), (.ref b1)]))
  refine .pre (fun _ k => XS.bipush X30.here hx rfl (hb hby at_190) k) ?_
  show OwnEnds p e below _ (T30.setTop (mkF m 192 #[.val (.int p0), .val (.int p1), .val (.int p2), .val (.int p3), .unset, .unset, .unset] [(.int (29 : Int32)), (.ref b1), (.ref b1)]))
  refine .pre (fun _ k => X30.ldcInt hx hown (mvT hZ (hw _ (List.mem_of_getElem? (i := 7) rfl))) (g := (mkF m 192 #[.val (.int p0), .val (.int p1), .val (.int p2), .val (.int p3), .unset, .unset, .unset] [(.int (29 : Int32)), (.ref b1), (.ref b1)])) rfl (hb hby at_192) _ k) ?_
  show OwnEnds p e below _ (T30.setTop (mkF m 194 #[.val (.int p0), .val (.int p1), .val (.int p2), .val (.int p3), .unset, .unset, .unset] [(.int (983039 : Int32)), (.int (29 : Int32)), (.ref b1), (.ref b1)]))
  obtain ⟨cl31, Ar31, qa31, qs31, qn31, qh31, qg31⟩ := id V30
  have hin31 : ¬ ((29 : Int32) < 0 ∨ cl31.slots.size ≤ ((29 : Int32)).toNatClampNeg) := inb_of qs31 ⟨by decide, by decide⟩
  obtain ⟨T31, h31, X31, e31, W31, st31⟩ := stI X30 hx hZ e30 Ar31 (j := (29 : Int32)) hin31 (g := (mkF m 194 #[.val (.int p0), .val (.int p1), .val (.int p2), .val (.int p3), .unset, .unset, .unset] [(.int (983039 : Int32)), (.int (29 : Int32)), (.ref b1), (.ref b1)])) rfl rfl (hb hby at_194)
  have V31 : Arv Z h31 b1 kk1 .int (30 : Int32) [(.int (58 : Int32)), (.int (65 : Int32)), (.int (90 : Int32)), (.int (95 : Int32)), (.int (97 : Int32)), (.int (122 : Int32)), (.int (192 : Int32)), (.int (214 : Int32)), (.int (216 : Int32)), (.int (246 : Int32)), (.int (248 : Int32)), (.int (767 : Int32)), (.int (880 : Int32)), (.int (893 : Int32)), (.int (895 : Int32)), (.int (8191 : Int32)), (.int (8204 : Int32)), (.int (8205 : Int32)), (.int (8304 : Int32)), (.int (8591 : Int32)), (.int (11264 : Int32)), (.int (12271 : Int32)), (.int (12289 : Int32)), (.int (55295 : Int32)), (.int (63744 : Int32)), (.int (64975 : Int32)), (.int (65008 : Int32)), (.int (65533 : Int32)), (.int (65536 : Int32)), (.int (983039 : Int32))] (.int (0 : Int32)) := Arv.set Ar31 qa31 qs31 qn31 qh31 qg31 rfl W31 29 rfl (Nat.le_of_ble_eq_true rfl)
  have N31 := Fr.snoc X31 N30 g_b1
  refine .pre (fun _ k => st31 _ k) ?_
  show OwnEnds p e below _ (T31.setTop (mkF m 195 #[.val (.int p0), .val (.int p1), .val (.int p2), .val (.int p3), .unset, .unset, .unset] [(.ref b1)]))
  refine .pre (fun _ k => XS.astore X31.here hx rfl (hb hby at_195) rfl rfl (l' := #[.val (.int p0), .val (.int p1), .val (.int p2), .val (.int p3), .val (.ref b1), .unset, .unset]) rfl k) ?_
  show OwnEnds p e below _ (T31.setTop (mkF m 197 #[.val (.int p0), .val (.int p1), .val (.int p2), .val (.int p3), .val (.ref b1), .unset, .unset] []))
  refine .pre (fun _ k => XS.aload X31.here hx rfl (hb hby at_197) rfl rfl k) ?_
  show OwnEnds p e below _ (T31.setTop (mkF m 199 #[.val (.int p0), .val (.int p1), .val (.int p2), .val (.int p3), .val (.ref b1), .unset, .unset] [(.ref b1)]))
  refine .pre (fun _ k => XS.iloadN X31.here hx rfl (hb hby at_199) rfl k) ?_
  show OwnEnds p e below _ (T31.setTop (mkF m 200 #[.val (.int p0), .val (.int p1), .val (.int p2), .val (.int p3), .val (.ref b1), .unset, .unset] [(.int p2), (.ref b1)]))
  refine .pre (fun _ k => X31.ldcInt hx hown (mvT hZ (hw _ (List.mem_of_getElem? (i := 8) rfl))) (g := (mkF m 200 #[.val (.int p0), .val (.int p1), .val (.int p2), .val (.int p3), .val (.ref b1), .unset, .unset] [(.int p2), (.ref b1)])) rfl (hb hby at_200) _ k) ?_
  show OwnEnds p e below _ (T31.setTop (mkF m 202 #[.val (.int p0), .val (.int p1), .val (.int p2), .val (.int p3), .val (.ref b1), .unset, .unset] [(.int (2147483647 : Int32)), (.int p2), (.ref b1)]))
  refine .pre (fun _ k => XS.iand X31.here hx rfl (hb hby at_202) rfl k) ?_
  show OwnEnds p e below _ (T31.setTop (mkF m 203 #[.val (.int p0), .val (.int p1), .val (.int p2), .val (.int p3), .val (.ref b1), .unset, .unset] [(.int (p2 &&& (2147483647 : Int32))), (.ref b1)]))
  refine .pre (fun _ k => XS.aload X31.here hx rfl (hb hby at_203) rfl rfl k) ?_
  show OwnEnds p e below _ (T31.setTop (mkF m 205 #[.val (.int p0), .val (.int p1), .val (.int p2), .val (.int p3), .val (.ref b1), .unset, .unset] [(.ref b1), (.int (p2 &&& (2147483647 : Int32))), (.ref b1)]))
  obtain ⟨cl32, Ar32, qa32, qs32, qn32, qh32, qg32⟩ := id V31
  refine .pre (fun _ k => X31.arraylength hx (by rw [e31]; exact Ar32.1) (State.isArrayOf_alike hZ.alike Ar32.2.1) (g := (mkF m 205 #[.val (.int p0), .val (.int p1), .val (.int p2), .val (.int p3), .val (.ref b1), .unset, .unset] [(.ref b1), (.int (p2 &&& (2147483647 : Int32))), (.ref b1)])) rfl rfl (hb hby at_205) _ k) ?_
  rw [len_of qs32 qn32]
  show OwnEnds p e below _ (T31.setTop (mkF m 206 #[.val (.int p0), .val (.int p1), .val (.int p2), .val (.int p3), .val (.ref b1), .unset, .unset] [(.int (30 : Int32)), (.int (p2 &&& (2147483647 : Int32))), (.ref b1)]))
  refine .pre (fun _ k => iremM X31 hx rfl (hb hby at_206) rfl (by decide) k) ?_
  show OwnEnds p e below _ (T31.setTop (mkF m 207 #[.val (.int p0), .val (.int p1), .val (.int p2), .val (.int p3), .val (.ref b1), .unset, .unset] [(.int ((p2 &&& (2147483647 : Int32)) % (30 : Int32))), (.ref b1)]))
  obtain ⟨cl33, Ar33, qa33, qs33, qn33, qh33, qg33⟩ := id V31
  have hj33 : ¬ (((p2 &&& (2147483647 : Int32)) % (30 : Int32)) < 0) ∧ ((p2 &&& (2147483647 : Int32)) % (30 : Int32)) < (30 : Int32) := own_idx _
  have hin33 : ¬ (((p2 &&& (2147483647 : Int32)) % (30 : Int32)) < 0 ∨ cl33.slots.size ≤ (((p2 &&& (2147483647 : Int32)) % (30 : Int32))).toNatClampNeg) := inb_of qs33 hj33
  have hat33 : cl33.slots[(((p2 &&& (2147483647 : Int32)) % (30 : Int32))).toNatClampNeg]? = some (.int (own_tab ((p2 &&& (2147483647 : Int32)) % (30 : Int32)))) := (qh33 _ (Nat.lt_of_not_le fun y => hin33 (Or.inr y))).trans (congrArg some (own_getI [58, 65, 90, 95, 97, 122, 192, 214, 216, 246, 248, 767, 880, 893, 895, 8191, 8204, 8205, 8304, 8591, 11264, 12271, 12289, 55295, 63744, 64975, 65008, 65533, 65536, 983039] _))
  refine .pre (fun _ k => X31.iaload hx (j := ((p2 &&& (2147483647 : Int32)) % (30 : Int32))) (v := (.int (own_tab ((p2 &&& (2147483647 : Int32)) % (30 : Int32))))) (by rw [e31]; exact Ar33.1) (State.isArrayOf_alike hZ.alike Ar33.2.1) Ar33.2.2 hin33 hat33 (g := (mkF m 207 #[.val (.int p0), .val (.int p1), .val (.int p2), .val (.int p3), .val (.ref b1), .unset, .unset] [(.int ((p2 &&& (2147483647 : Int32)) % (30 : Int32))), (.ref b1)])) rfl rfl (hb hby at_207) _ k) ?_
  show OwnEnds p e below _ (T31.setTop (mkF m 208 #[.val (.int p0), .val (.int p1), .val (.int p2), .val (.int p3), .val (.ref b1), .unset, .unset] [(.int (own_tab ((p2 &&& (2147483647 : Int32)) % (30 : Int32))))]))
  refine .pre (fun _ k => XS.iloadN X31.here hx rfl (hb hby at_208) rfl k) ?_
  show OwnEnds p e below _ (T31.setTop (mkF m 209 #[.val (.int p0), .val (.int p1), .val (.int p2), .val (.int p3), .val (.ref b1), .unset, .unset] [(.int p3), (.int (own_tab ((p2 &&& (2147483647 : Int32)) % (30 : Int32))))]))
  refine .pre (fun _ k => X31.ldcInt hx hown (mvT hZ (hw _ (List.mem_of_getElem? (i := 8) rfl))) (g := (mkF m 209 #[.val (.int p0), .val (.int p1), .val (.int p2), .val (.int p3), .val (.ref b1), .unset, .unset] [(.int p3), (.int (own_tab ((p2 &&& (2147483647 : Int32)) % (30 : Int32))))])) rfl (hb hby at_209) _ k) ?_
  show OwnEnds p e below _ (T31.setTop (mkF m 211 #[.val (.int p0), .val (.int p1), .val (.int p2), .val (.int p3), .val (.ref b1), .unset, .unset] [(.int (2147483647 : Int32)), (.int p3), (.int (own_tab ((p2 &&& (2147483647 : Int32)) % (30 : Int32))))]))
  refine .pre (fun _ k => XS.iand X31.here hx rfl (hb hby at_211) rfl k) ?_
  show OwnEnds p e below _ (T31.setTop (mkF m 212 #[.val (.int p0), .val (.int p1), .val (.int p2), .val (.int p3), .val (.ref b1), .unset, .unset] [(.int (p3 &&& (2147483647 : Int32))), (.int (own_tab ((p2 &&& (2147483647 : Int32)) % (30 : Int32))))]))
  refine .pre (fun _ k => XS.iconst X31.here hx rfl (hb hby at_212) k) ?_
  show OwnEnds p e below _ (T31.setTop (mkF m 213 #[.val (.int p0), .val (.int p1), .val (.int p2), .val (.int p3), .val (.ref b1), .unset, .unset] [(.int (3 : Int32)), (.int (p3 &&& (2147483647 : Int32))), (.int (own_tab ((p2 &&& (2147483647 : Int32)) % (30 : Int32))))]))
  refine .pre (fun _ k => iremM X31 hx rfl (hb hby at_213) rfl (by decide) k) ?_
  show OwnEnds p e below _ (T31.setTop (mkF m 214 #[.val (.int p0), .val (.int p1), .val (.int p2), .val (.int p3), .val (.ref b1), .unset, .unset] [(.int ((p3 &&& (2147483647 : Int32)) % (3 : Int32))), (.int (own_tab ((p2 &&& (2147483647 : Int32)) % (30 : Int32))))]))
  refine .pre (fun _ k => XS.iadd X31.here hx rfl (hb hby at_214) rfl k) ?_
  show OwnEnds p e below _ (T31.setTop (mkF m 215 #[.val (.int p0), .val (.int p1), .val (.int p2), .val (.int p3), .val (.ref b1), .unset, .unset] [(.int ((own_tab ((p2 &&& (2147483647 : Int32)) % (30 : Int32))) + ((p3 &&& (2147483647 : Int32)) % (3 : Int32))))]))
  refine .pre (fun _ k => XS.iconst X31.here hx rfl (hb hby at_215) k) ?_
  show OwnEnds p e below _ (T31.setTop (mkF m 216 #[.val (.int p0), .val (.int p1), .val (.int p2), .val (.int p3), .val (.ref b1), .unset, .unset] [(.int (1 : Int32)), (.int ((own_tab ((p2 &&& (2147483647 : Int32)) % (30 : Int32))) + ((p3 &&& (2147483647 : Int32)) % (3 : Int32))))]))
  refine .pre (fun _ k => XS.isub X31.here hx rfl (hb hby at_216) rfl k) ?_
  show OwnEnds p e below _ (T31.setTop (mkF m 217 #[.val (.int p0), .val (.int p1), .val (.int p2), .val (.int p3), .val (.ref b1), .unset, .unset] [(.int (((own_tab ((p2 &&& (2147483647 : Int32)) % (30 : Int32))) + ((p3 &&& (2147483647 : Int32)) % (3 : Int32))) - (1 : Int32)))]))
  refine .pre (fun _ k => XS.istore X31.here hx rfl (hb hby at_217) rfl (l' := #[.val (.int p0), .val (.int p1), .val (.int p2), .val (.int p3), .val (.ref b1), .val (.int (((own_tab ((p2 &&& (2147483647 : Int32)) % (30 : Int32))) + ((p3 &&& (2147483647 : Int32)) % (3 : Int32))) - (1 : Int32))), .unset]) rfl k) ?_
  show OwnEnds p e below _ (T31.setTop (mkF m 219 #[.val (.int p0), .val (.int p1), .val (.int p2), .val (.int p3), .val (.ref b1), .val (.int (((own_tab ((p2 &&& (2147483647 : Int32)) % (30 : Int32))) + ((p3 &&& (2147483647 : Int32)) % (3 : Int32))) - (1 : Int32))), .unset] []))
  refine .pre (fun _ k => XS.iloadN X31.here hx rfl (hb hby at_219) rfl k) ?_
  show OwnEnds p e below _ (T31.setTop (mkF m 220 #[.val (.int p0), .val (.int p1), .val (.int p2), .val (.int p3), .val (.ref b1), .val (.int (((own_tab ((p2 &&& (2147483647 : Int32)) % (30 : Int32))) + ((p3 &&& (2147483647 : Int32)) % (3 : Int32))) - (1 : Int32))), .unset] [(.int p1)]))
  refine .pre (fun _ k => X31.ldcInt hx hown (mvT hZ (hw _ (List.mem_of_getElem? (i := 9) rfl))) (g := (mkF m 220 #[.val (.int p0), .val (.int p1), .val (.int p2), .val (.int p3), .val (.ref b1), .val (.int (((own_tab ((p2 &&& (2147483647 : Int32)) % (30 : Int32))) + ((p3 &&& (2147483647 : Int32)) % (3 : Int32))) - (1 : Int32))), .unset] [(.int p1)])) rfl (hb hby at_220) _ k) ?_
  show OwnEnds p e below _ (T31.setTop (mkF m 222 #[.val (.int p0), .val (.int p1), .val (.int p2), .val (.int p3), .val (.ref b1), .val (.int (((own_tab ((p2 &&& (2147483647 : Int32)) % (30 : Int32))) + ((p3 &&& (2147483647 : Int32)) % (3 : Int32))) - (1 : Int32))), .unset] [(.int (2097151 : Int32)), (.int p1)]))
  refine .pre (fun _ k => XS.iand X31.here hx rfl (hb hby at_222) rfl k) ?_
  show OwnEnds p e below _ (T31.setTop (mkF m 223 #[.val (.int p0), .val (.int p1), .val (.int p2), .val (.int p3), .val (.ref b1), .val (.int (((own_tab ((p2 &&& (2147483647 : Int32)) % (30 : Int32))) + ((p3 &&& (2147483647 : Int32)) % (3 : Int32))) - (1 : Int32))), .unset] [(.int (p1 &&& (2097151 : Int32)))]))
  refine .pre (fun _ k => XS.istore X31.here hx rfl (hb hby at_223) rfl (l' := #[.val (.int p0), .val (.int p1), .val (.int p2), .val (.int p3), .val (.ref b1), .val (.int (((own_tab ((p2 &&& (2147483647 : Int32)) % (30 : Int32))) + ((p3 &&& (2147483647 : Int32)) % (3 : Int32))) - (1 : Int32))), .val (.int (p1 &&& (2097151 : Int32)))]) rfl k) ?_
  have B225 : ∀ (T : State) (L : List Loc) (k n : Nat) (X : Stand p l e room_1 s m #[(.int p0), (.int p1), (.int p2), (.int p3)] below meth c T L k n) (eT : T.heap = h31) (N : Fr n0 L) (hk : k ≤ 16) (hn : n ≤ 128) (i0 : Int32) (i1 : Int32) (i2 : Int32) (i3 : Int32) (i5 : Int32) (i6 : Int32), f0_225 i0 i5 i6 = f0_225 p0 (((own_tab ((p2 &&& (2147483647 : Int32)) % (30 : Int32))) + ((p3 &&& (2147483647 : Int32)) % (3 : Int32))) - (1 : Int32)) (p1 &&& (2097151 : Int32)) → OwnEnds p e below (OwnQ s (Q0 Z p0 p1 p2 p3 h0 n0) 16 128) (T.setTop (mkF m 225 #[.val (.int i0), .val (.int i1), .val (.int i2), .val (.int i3), .val (.ref b1), .val (.int i5), .val (.int i6)] [])) := by
    intro T L k n X eT N hk hn i0 i1 i2 i3 i5 i6 hF
    change (if (f1_0 i0) = (f2_0 i0) then (if (f1_0 i6) = (f2_0 i6) then (if (f1_0 i5) = (f2_0 i5) then (1 : Int32) else (0 : Int32)) else (0 : Int32)) else (0 : Int32)) = _ at hF
    show OwnEnds p e below _ (T.setTop (mkF m 225 #[.val (.int i0), .val (.int i1), .val (.int i2), .val (.int i3), .val (.ref b1), .val (.int i5), .val (.int i6)] []))
    refine .pre (fun _ k => XS.iloadN X.here hx rfl (hb hby at_225) rfl k) ?_
    show OwnEnds p e below _ (T.setTop (mkF m 226 #[.val (.int i0), .val (.int i1), .val (.int i2), .val (.int i3), .val (.ref b1), .val (.int i5), .val (.int i6)] [(.int i0)]))
    obtain ⟨_, _, ⟨T40, L40, k40, n40⟩, -, X40, ⟨Lc40, hQ40, l40, y40, z40⟩, st40⟩ := Jvm.LawKit.callS X hx (y := (⟨"com/example/lather/lather/xml/XmlNames", "isNameStartChar", "(I)Z"⟩ : MethodName)) hown (mvT hZ (hw _ (List.mem_of_getElem? (i := 10) rfl))) (mvT hZ (hw _ (List.mem_of_getElem? (i := 11) rfl))) (mvT hZ (hw _ (List.mem_of_getElem? (i := 12) rfl))) (mvT hZ (hw _ (List.mem_of_getElem? (i := 13) rfl))) (by decide) (backOf (W := 0) (rm1 l Z aZ hw [] i0 h31 n0 (Nat.le_trans (Nat.le_trans (Nat.le_trans (Nat.le_trans (Nat.le_trans (Nat.le_trans (Nat.le_trans (Nat.le_trans (Nat.le_trans (Nat.le_trans (Nat.le_trans (Nat.le_trans (Nat.le_trans (Nat.le_trans (Nat.le_trans (Nat.le_trans (Nat.le_trans (Nat.le_trans (Nat.le_trans (Nat.le_trans (Nat.le_trans (Nat.le_trans (Nat.le_trans (Nat.le_trans (Nat.le_trans (Nat.le_trans (Nat.le_trans (Nat.le_trans (Nat.le_trans (Nat.le_trans (Nat.le_trans Z0 E1.1) (Keep.of_wr W2).1) (Keep.of_wr W3).1) (Keep.of_wr W4).1) (Keep.of_wr W5).1) (Keep.of_wr W6).1) (Keep.of_wr W7).1) (Keep.of_wr W8).1) (Keep.of_wr W9).1) (Keep.of_wr W10).1) (Keep.of_wr W11).1) (Keep.of_wr W12).1) (Keep.of_wr W13).1) (Keep.of_wr W14).1) (Keep.of_wr W15).1) (Keep.of_wr W16).1) (Keep.of_wr W17).1) (Keep.of_wr W18).1) (Keep.of_wr W19).1) (Keep.of_wr W20).1) (Keep.of_wr W21).1) (Keep.of_wr W22).1) (Keep.of_wr W23).1) (Keep.of_wr W24).1) (Keep.of_wr W25).1) (Keep.of_wr W26).1) (Keep.of_wr W27).1) (Keep.of_wr W28).1) (Keep.of_wr W29).1) (Keep.of_wr W30).1) (Keep.of_wr W31).1)) hZ (hw _ (List.mem_of_getElem? (i := 13) rfl)) (hw _ (List.mem_of_getElem? (i := 12) rfl)) (by decide) (by decide)) (g := (mkF m 226 #[.val (.int i0), .val (.int i1), .val (.int i2), .val (.int i3), .val (.ref b1), .val (.int i5), .val (.int i6)] [(.int i0)])) rfl (by rw [hml]; rfl) (argsL := [(.int i0)]) (rest := []) (lenOf pd_2 rfl) rfl (by show 2 * 0 + _ ≤ _; exact Nat.le_of_eq rfl) (hb hby at_226) (fun _ _ => ⟨rfl, eT, Nat.le_trans (Nat.add_le_add_right hk 0) (by decide : 16 + 0 ≤ _), Nat.le_trans (Nat.add_le_add_right hn 0) (by decide : 128 + 0 ≤ _)⟩)
    dsimp only [Pt.U, Pt.locs, Pt.cells, Pt.slots] at X40 l40 y40 z40 st40 hQ40
    subst l40 y40 z40
    obtain ⟨rfl, N40q, e40⟩ := hQ40
    have N40 := Fr.app N N40q
    refine .pre (fun _ k => st40 _ k) ?_
    show OwnEnds p e below _ (T40.setTop (mkF m 229 #[.val (.int i0), .val (.int i1), .val (.int i2), .val (.int i3), .val (.ref b1), .val (.int i5), .val (.int i6)] [(.int (f1_0 i0))]))
    refine .pre (fun _ k => XS.iloadN X40.here hx rfl (hb hby at_229) rfl k) ?_
    show OwnEnds p e below _ (T40.setTop (mkF m 230 #[.val (.int i0), .val (.int i1), .val (.int i2), .val (.int i3), .val (.ref b1), .val (.int i5), .val (.int i6)] [(.int i0), (.int (f1_0 i0))]))
    obtain ⟨_, _, ⟨T41, L41, k41, n41⟩, -, X41, ⟨Lc41, hQ41, l41, y41, z41⟩, st41⟩ := Jvm.LawKit.callS X40 hx (y := (⟨"com/example/lather/lather/xml/XmlNamesIsNameStartCharPinLaw", "ref", "(I)Z"⟩ : MethodName)) hown (mvT hZ (hw _ (List.mem_of_getElem? (i := 17) rfl))) (mvT hZ (hw _ (List.mem_of_getElem? (i := 18) rfl))) (mvT hZ (hw _ (List.mem_of_getElem? (i := 19) rfl))) (mvT hZ (hw _ (List.mem_of_getElem? (i := 20) rfl))) (by decide) (backOf (W := 1) (rm2 l Z aZ hw [] i0 h31 n0 (Nat.le_trans (Nat.le_trans (Nat.le_trans (Nat.le_trans (Nat.le_trans (Nat.le_trans (Nat.le_trans (Nat.le_trans (Nat.le_trans (Nat.le_trans (Nat.le_trans (Nat.le_trans (Nat.le_trans (Nat.le_trans (Nat.le_trans (Nat.le_trans (Nat.le_trans (Nat.le_trans (Nat.le_trans (Nat.le_trans (Nat.le_trans (Nat.le_trans (Nat.le_trans (Nat.le_trans (Nat.le_trans (Nat.le_trans (Nat.le_trans (Nat.le_trans (Nat.le_trans (Nat.le_trans (Nat.le_trans Z0 E1.1) (Keep.of_wr W2).1) (Keep.of_wr W3).1) (Keep.of_wr W4).1) (Keep.of_wr W5).1) (Keep.of_wr W6).1) (Keep.of_wr W7).1) (Keep.of_wr W8).1) (Keep.of_wr W9).1) (Keep.of_wr W10).1) (Keep.of_wr W11).1) (Keep.of_wr W12).1) (Keep.of_wr W13).1) (Keep.of_wr W14).1) (Keep.of_wr W15).1) (Keep.of_wr W16).1) (Keep.of_wr W17).1) (Keep.of_wr W18).1) (Keep.of_wr W19).1) (Keep.of_wr W20).1) (Keep.of_wr W21).1) (Keep.of_wr W22).1) (Keep.of_wr W23).1) (Keep.of_wr W24).1) (Keep.of_wr W25).1) (Keep.of_wr W26).1) (Keep.of_wr W27).1) (Keep.of_wr W28).1) (Keep.of_wr W29).1) (Keep.of_wr W30).1) (Keep.of_wr W31).1)) hZ (hw _ (List.mem_of_getElem? (i := 20) rfl)) (hw _ (List.mem_of_getElem? (i := 19) rfl)) (by decide) (by decide)) (g := (mkF m 230 #[.val (.int i0), .val (.int i1), .val (.int i2), .val (.int i3), .val (.ref b1), .val (.int i5), .val (.int i6)] [(.int i0), (.int (f1_0 i0))])) rfl (by rw [hml]; rfl) (argsL := [(.int i0)]) (rest := [(.int (f1_0 i0))]) (lenOf pd_2 rfl) rfl (by show 2 * 0 + _ ≤ _; exact Nat.le_of_eq rfl) (hb hby at_230) (fun _ _ => ⟨rfl, e40, Nat.le_trans (Nat.add_le_add_right hk 0) (by decide : 16 + 0 ≤ _), Nat.le_trans (Nat.add_le_add_right hn 0) (by decide : 128 + 0 ≤ _)⟩)
    dsimp only [Pt.U, Pt.locs, Pt.cells, Pt.slots] at X41 l41 y41 z41 st41 hQ41
    subst l41 y41 z41
    obtain ⟨rfl, N41q, e41⟩ := hQ41
    have N41 := Fr.app N40 N41q
    refine .pre (fun _ k => st41 _ k) ?_
    show OwnEnds p e below _ (T41.setTop (mkF m 233 #[.val (.int i0), .val (.int i1), .val (.int i2), .val (.int i3), .val (.ref b1), .val (.int i5), .val (.int i6)] [(.int (f2_0 i0)), (.int (f1_0 i0))]))
    by_cases hc233 : (f1_0 i0) = (f2_0 i0)
    · rw [if_pos hc233] at hF
      refine .pre (fun _ k => XS.icmpNo X41.here hx rfl (hb hby at_233) rfl (teq hc233).2 k) ?_
      show OwnEnds p e below _ (T41.setTop (mkF m 236 #[.val (.int i0), .val (.int i1), .val (.int i2), .val (.int i3), .val (.ref b1), .val (.int i5), .val (.int i6)] []))
      refine .pre (fun _ k => XS.iload X41.here hx rfl (hb hby at_236) rfl k) ?_
      show OwnEnds p e below _ (T41.setTop (mkF m 238 #[.val (.int i0), .val (.int i1), .val (.int i2), .val (.int i3), .val (.ref b1), .val (.int i5), .val (.int i6)] [(.int i6)]))
      obtain ⟨_, _, ⟨T42, L42, k42, n42⟩, -, X42, ⟨Lc42, hQ42, l42, y42, z42⟩, st42⟩ := Jvm.LawKit.callS X41 hx (y := (⟨"com/example/lather/lather/xml/XmlNames", "isNameStartChar", "(I)Z"⟩ : MethodName)) hown (mvT hZ (hw _ (List.mem_of_getElem? (i := 10) rfl))) (mvT hZ (hw _ (List.mem_of_getElem? (i := 11) rfl))) (mvT hZ (hw _ (List.mem_of_getElem? (i := 12) rfl))) (mvT hZ (hw _ (List.mem_of_getElem? (i := 13) rfl))) (by decide) (backOf (W := 0) (rm1 l Z aZ hw [] i6 h31 n0 (Nat.le_trans (Nat.le_trans (Nat.le_trans (Nat.le_trans (Nat.le_trans (Nat.le_trans (Nat.le_trans (Nat.le_trans (Nat.le_trans (Nat.le_trans (Nat.le_trans (Nat.le_trans (Nat.le_trans (Nat.le_trans (Nat.le_trans (Nat.le_trans (Nat.le_trans (Nat.le_trans (Nat.le_trans (Nat.le_trans (Nat.le_trans (Nat.le_trans (Nat.le_trans (Nat.le_trans (Nat.le_trans (Nat.le_trans (Nat.le_trans (Nat.le_trans (Nat.le_trans (Nat.le_trans (Nat.le_trans Z0 E1.1) (Keep.of_wr W2).1) (Keep.of_wr W3).1) (Keep.of_wr W4).1) (Keep.of_wr W5).1) (Keep.of_wr W6).1) (Keep.of_wr W7).1) (Keep.of_wr W8).1) (Keep.of_wr W9).1) (Keep.of_wr W10).1) (Keep.of_wr W11).1) (Keep.of_wr W12).1) (Keep.of_wr W13).1) (Keep.of_wr W14).1) (Keep.of_wr W15).1) (Keep.of_wr W16).1) (Keep.of_wr W17).1) (Keep.of_wr W18).1) (Keep.of_wr W19).1) (Keep.of_wr W20).1) (Keep.of_wr W21).1) (Keep.of_wr W22).1) (Keep.of_wr W23).1) (Keep.of_wr W24).1) (Keep.of_wr W25).1) (Keep.of_wr W26).1) (Keep.of_wr W27).1) (Keep.of_wr W28).1) (Keep.of_wr W29).1) (Keep.of_wr W30).1) (Keep.of_wr W31).1)) hZ (hw _ (List.mem_of_getElem? (i := 13) rfl)) (hw _ (List.mem_of_getElem? (i := 12) rfl)) (by decide) (by decide)) (g := (mkF m 238 #[.val (.int i0), .val (.int i1), .val (.int i2), .val (.int i3), .val (.ref b1), .val (.int i5), .val (.int i6)] [(.int i6)])) rfl (by rw [hml]; rfl) (argsL := [(.int i6)]) (rest := []) (lenOf pd_2 rfl) rfl (by show 2 * 0 + _ ≤ _; exact Nat.le_of_eq rfl) (hb hby at_238) (fun _ _ => ⟨rfl, e41, Nat.le_trans (Nat.add_le_add_right hk 0) (by decide : 16 + 0 ≤ _), Nat.le_trans (Nat.add_le_add_right hn 0) (by decide : 128 + 0 ≤ _)⟩)
      dsimp only [Pt.U, Pt.locs, Pt.cells, Pt.slots] at X42 l42 y42 z42 st42 hQ42
      subst l42 y42 z42
      obtain ⟨rfl, N42q, e42⟩ := hQ42
      have N42 := Fr.app N41 N42q
      refine .pre (fun _ k => st42 _ k) ?_
      show OwnEnds p e below _ (T42.setTop (mkF m 241 #[.val (.int i0), .val (.int i1), .val (.int i2), .val (.int i3), .val (.ref b1), .val (.int i5), .val (.int i6)] [(.int (f1_0 i6))]))
      refine .pre (fun _ k => XS.iload X42.here hx rfl (hb hby at_241) rfl k) ?_
      show OwnEnds p e below _ (T42.setTop (mkF m 243 #[.val (.int i0), .val (.int i1), .val (.int i2), .val (.int i3), .val (.ref b1), .val (.int i5), .val (.int i6)] [(.int i6), (.int (f1_0 i6))]))
      obtain ⟨_, _, ⟨T43, L43, k43, n43⟩, -, X43, ⟨Lc43, hQ43, l43, y43, z43⟩, st43⟩ := Jvm.LawKit.callS X42 hx (y := (⟨"com/example/lather/lather/xml/XmlNamesIsNameStartCharPinLaw", "ref", "(I)Z"⟩ : MethodName)) hown (mvT hZ (hw _ (List.mem_of_getElem? (i := 17) rfl))) (mvT hZ (hw _ (List.mem_of_getElem? (i := 18) rfl))) (mvT hZ (hw _ (List.mem_of_getElem? (i := 19) rfl))) (mvT hZ (hw _ (List.mem_of_getElem? (i := 20) rfl))) (by decide) (backOf (W := 1) (rm2 l Z aZ hw [] i6 h31 n0 (Nat.le_trans (Nat.le_trans (Nat.le_trans (Nat.le_trans (Nat.le_trans (Nat.le_trans (Nat.le_trans (Nat.le_trans (Nat.le_trans (Nat.le_trans (Nat.le_trans (Nat.le_trans (Nat.le_trans (Nat.le_trans (Nat.le_trans (Nat.le_trans (Nat.le_trans (Nat.le_trans (Nat.le_trans (Nat.le_trans (Nat.le_trans (Nat.le_trans (Nat.le_trans (Nat.le_trans (Nat.le_trans (Nat.le_trans (Nat.le_trans (Nat.le_trans (Nat.le_trans (Nat.le_trans (Nat.le_trans Z0 E1.1) (Keep.of_wr W2).1) (Keep.of_wr W3).1) (Keep.of_wr W4).1) (Keep.of_wr W5).1) (Keep.of_wr W6).1) (Keep.of_wr W7).1) (Keep.of_wr W8).1) (Keep.of_wr W9).1) (Keep.of_wr W10).1) (Keep.of_wr W11).1) (Keep.of_wr W12).1) (Keep.of_wr W13).1) (Keep.of_wr W14).1) (Keep.of_wr W15).1) (Keep.of_wr W16).1) (Keep.of_wr W17).1) (Keep.of_wr W18).1) (Keep.of_wr W19).1) (Keep.of_wr W20).1) (Keep.of_wr W21).1) (Keep.of_wr W22).1) (Keep.of_wr W23).1) (Keep.of_wr W24).1) (Keep.of_wr W25).1) (Keep.of_wr W26).1) (Keep.of_wr W27).1) (Keep.of_wr W28).1) (Keep.of_wr W29).1) (Keep.of_wr W30).1) (Keep.of_wr W31).1)) hZ (hw _ (List.mem_of_getElem? (i := 20) rfl)) (hw _ (List.mem_of_getElem? (i := 19) rfl)) (by decide) (by decide)) (g := (mkF m 243 #[.val (.int i0), .val (.int i1), .val (.int i2), .val (.int i3), .val (.ref b1), .val (.int i5), .val (.int i6)] [(.int i6), (.int (f1_0 i6))])) rfl (by rw [hml]; rfl) (argsL := [(.int i6)]) (rest := [(.int (f1_0 i6))]) (lenOf pd_2 rfl) rfl (by show 2 * 0 + _ ≤ _; exact Nat.le_of_eq rfl) (hb hby at_243) (fun _ _ => ⟨rfl, e42, Nat.le_trans (Nat.add_le_add_right hk 0) (by decide : 16 + 0 ≤ _), Nat.le_trans (Nat.add_le_add_right hn 0) (by decide : 128 + 0 ≤ _)⟩)
      dsimp only [Pt.U, Pt.locs, Pt.cells, Pt.slots] at X43 l43 y43 z43 st43 hQ43
      subst l43 y43 z43
      obtain ⟨rfl, N43q, e43⟩ := hQ43
      have N43 := Fr.app N42 N43q
      refine .pre (fun _ k => st43 _ k) ?_
      show OwnEnds p e below _ (T43.setTop (mkF m 246 #[.val (.int i0), .val (.int i1), .val (.int i2), .val (.int i3), .val (.ref b1), .val (.int i5), .val (.int i6)] [(.int (f2_0 i6)), (.int (f1_0 i6))]))
      by_cases hc246 : (f1_0 i6) = (f2_0 i6)
      · rw [if_pos hc246] at hF
        refine .pre (fun _ k => XS.icmpNo X43.here hx rfl (hb hby at_246) rfl (teq hc246).2 k) ?_
        show OwnEnds p e below _ (T43.setTop (mkF m 249 #[.val (.int i0), .val (.int i1), .val (.int i2), .val (.int i3), .val (.ref b1), .val (.int i5), .val (.int i6)] []))
        refine .pre (fun _ k => XS.iload X43.here hx rfl (hb hby at_249) rfl k) ?_
        show OwnEnds p e below _ (T43.setTop (mkF m 251 #[.val (.int i0), .val (.int i1), .val (.int i2), .val (.int i3), .val (.ref b1), .val (.int i5), .val (.int i6)] [(.int i5)]))
        obtain ⟨_, _, ⟨T44, L44, k44, n44⟩, -, X44, ⟨Lc44, hQ44, l44, y44, z44⟩, st44⟩ := Jvm.LawKit.callS X43 hx (y := (⟨"com/example/lather/lather/xml/XmlNames", "isNameStartChar", "(I)Z"⟩ : MethodName)) hown (mvT hZ (hw _ (List.mem_of_getElem? (i := 10) rfl))) (mvT hZ (hw _ (List.mem_of_getElem? (i := 11) rfl))) (mvT hZ (hw _ (List.mem_of_getElem? (i := 12) rfl))) (mvT hZ (hw _ (List.mem_of_getElem? (i := 13) rfl))) (by decide) (backOf (W := 0) (rm1 l Z aZ hw [] i5 h31 n0 (Nat.le_trans (Nat.le_trans (Nat.le_trans (Nat.le_trans (Nat.le_trans (Nat.le_trans (Nat.le_trans (Nat.le_trans (Nat.le_trans (Nat.le_trans (Nat.le_trans (Nat.le_trans (Nat.le_trans (Nat.le_trans (Nat.le_trans (Nat.le_trans (Nat.le_trans (Nat.le_trans (Nat.le_trans (Nat.le_trans (Nat.le_trans (Nat.le_trans (Nat.le_trans (Nat.le_trans (Nat.le_trans (Nat.le_trans (Nat.le_trans (Nat.le_trans (Nat.le_trans (Nat.le_trans (Nat.le_trans Z0 E1.1) (Keep.of_wr W2).1) (Keep.of_wr W3).1) (Keep.of_wr W4).1) (Keep.of_wr W5).1) (Keep.of_wr W6).1) (Keep.of_wr W7).1) (Keep.of_wr W8).1) (Keep.of_wr W9).1) (Keep.of_wr W10).1) (Keep.of_wr W11).1) (Keep.of_wr W12).1) (Keep.of_wr W13).1) (Keep.of_wr W14).1) (Keep.of_wr W15).1) (Keep.of_wr W16).1) (Keep.of_wr W17).1) (Keep.of_wr W18).1) (Keep.of_wr W19).1) (Keep.of_wr W20).1) (Keep.of_wr W21).1) (Keep.of_wr W22).1) (Keep.of_wr W23).1) (Keep.of_wr W24).1) (Keep.of_wr W25).1) (Keep.of_wr W26).1) (Keep.of_wr W27).1) (Keep.of_wr W28).1) (Keep.of_wr W29).1) (Keep.of_wr W30).1) (Keep.of_wr W31).1)) hZ (hw _ (List.mem_of_getElem? (i := 13) rfl)) (hw _ (List.mem_of_getElem? (i := 12) rfl)) (by decide) (by decide)) (g := (mkF m 251 #[.val (.int i0), .val (.int i1), .val (.int i2), .val (.int i3), .val (.ref b1), .val (.int i5), .val (.int i6)] [(.int i5)])) rfl (by rw [hml]; rfl) (argsL := [(.int i5)]) (rest := []) (lenOf pd_2 rfl) rfl (by show 2 * 0 + _ ≤ _; exact Nat.le_of_eq rfl) (hb hby at_251) (fun _ _ => ⟨rfl, e43, Nat.le_trans (Nat.add_le_add_right hk 0) (by decide : 16 + 0 ≤ _), Nat.le_trans (Nat.add_le_add_right hn 0) (by decide : 128 + 0 ≤ _)⟩)
        dsimp only [Pt.U, Pt.locs, Pt.cells, Pt.slots] at X44 l44 y44 z44 st44 hQ44
        subst l44 y44 z44
        obtain ⟨rfl, N44q, e44⟩ := hQ44
        have N44 := Fr.app N43 N44q
        refine .pre (fun _ k => st44 _ k) ?_
        show OwnEnds p e below _ (T44.setTop (mkF m 254 #[.val (.int i0), .val (.int i1), .val (.int i2), .val (.int i3), .val (.ref b1), .val (.int i5), .val (.int i6)] [(.int (f1_0 i5))]))
        refine .pre (fun _ k => XS.iload X44.here hx rfl (hb hby at_254) rfl k) ?_
        show OwnEnds p e below _ (T44.setTop (mkF m 256 #[.val (.int i0), .val (.int i1), .val (.int i2), .val (.int i3), .val (.ref b1), .val (.int i5), .val (.int i6)] [(.int i5), (.int (f1_0 i5))]))
        obtain ⟨_, _, ⟨T45, L45, k45, n45⟩, -, X45, ⟨Lc45, hQ45, l45, y45, z45⟩, st45⟩ := Jvm.LawKit.callS X44 hx (y := (⟨"com/example/lather/lather/xml/XmlNamesIsNameStartCharPinLaw", "ref", "(I)Z"⟩ : MethodName)) hown (mvT hZ (hw _ (List.mem_of_getElem? (i := 17) rfl))) (mvT hZ (hw _ (List.mem_of_getElem? (i := 18) rfl))) (mvT hZ (hw _ (List.mem_of_getElem? (i := 19) rfl))) (mvT hZ (hw _ (List.mem_of_getElem? (i := 20) rfl))) (by decide) (backOf (W := 1) (rm2 l Z aZ hw [] i5 h31 n0 (Nat.le_trans (Nat.le_trans (Nat.le_trans (Nat.le_trans (Nat.le_trans (Nat.le_trans (Nat.le_trans (Nat.le_trans (Nat.le_trans (Nat.le_trans (Nat.le_trans (Nat.le_trans (Nat.le_trans (Nat.le_trans (Nat.le_trans (Nat.le_trans (Nat.le_trans (Nat.le_trans (Nat.le_trans (Nat.le_trans (Nat.le_trans (Nat.le_trans (Nat.le_trans (Nat.le_trans (Nat.le_trans (Nat.le_trans (Nat.le_trans (Nat.le_trans (Nat.le_trans (Nat.le_trans (Nat.le_trans Z0 E1.1) (Keep.of_wr W2).1) (Keep.of_wr W3).1) (Keep.of_wr W4).1) (Keep.of_wr W5).1) (Keep.of_wr W6).1) (Keep.of_wr W7).1) (Keep.of_wr W8).1) (Keep.of_wr W9).1) (Keep.of_wr W10).1) (Keep.of_wr W11).1) (Keep.of_wr W12).1) (Keep.of_wr W13).1) (Keep.of_wr W14).1) (Keep.of_wr W15).1) (Keep.of_wr W16).1) (Keep.of_wr W17).1) (Keep.of_wr W18).1) (Keep.of_wr W19).1) (Keep.of_wr W20).1) (Keep.of_wr W21).1) (Keep.of_wr W22).1) (Keep.of_wr W23).1) (Keep.of_wr W24).1) (Keep.of_wr W25).1) (Keep.of_wr W26).1) (Keep.of_wr W27).1) (Keep.of_wr W28).1) (Keep.of_wr W29).1) (Keep.of_wr W30).1) (Keep.of_wr W31).1)) hZ (hw _ (List.mem_of_getElem? (i := 20) rfl)) (hw _ (List.mem_of_getElem? (i := 19) rfl)) (by decide) (by decide)) (g := (mkF m 256 #[.val (.int i0), .val (.int i1), .val (.int i2), .val (.int i3), .val (.ref b1), .val (.int i5), .val (.int i6)] [(.int i5), (.int (f1_0 i5))])) rfl (by rw [hml]; rfl) (argsL := [(.int i5)]) (rest := [(.int (f1_0 i5))]) (lenOf pd_2 rfl) rfl (by show 2 * 0 + _ ≤ _; exact Nat.le_of_eq rfl) (hb hby at_256) (fun _ _ => ⟨rfl, e44, Nat.le_trans (Nat.add_le_add_right hk 0) (by decide : 16 + 0 ≤ _), Nat.le_trans (Nat.add_le_add_right hn 0) (by decide : 128 + 0 ≤ _)⟩)
        dsimp only [Pt.U, Pt.locs, Pt.cells, Pt.slots] at X45 l45 y45 z45 st45 hQ45
        subst l45 y45 z45
        obtain ⟨rfl, N45q, e45⟩ := hQ45
        have N45 := Fr.app N44 N45q
        refine .pre (fun _ k => st45 _ k) ?_
        show OwnEnds p e below _ (T45.setTop (mkF m 259 #[.val (.int i0), .val (.int i1), .val (.int i2), .val (.int i3), .val (.ref b1), .val (.int i5), .val (.int i6)] [(.int (f2_0 i5)), (.int (f1_0 i5))]))
        by_cases hc259 : (f1_0 i5) = (f2_0 i5)
        · rw [if_pos hc259] at hF
          refine .pre (fun _ k => XS.icmpNo X45.here hx rfl (hb hby at_259) rfl (teq hc259).2 k) ?_
          show OwnEnds p e below _ (T45.setTop (mkF m 262 #[.val (.int i0), .val (.int i1), .val (.int i2), .val (.int i3), .val (.ref b1), .val (.int i5), .val (.int i6)] []))
          refine .pre (fun _ k => XS.iconst X45.here hx rfl (hb hby at_262) k) ?_
          show OwnEnds p e below _ (T45.setTop (mkF m 263 #[.val (.int i0), .val (.int i1), .val (.int i2), .val (.int i3), .val (.ref b1), .val (.int i5), .val (.int i6)] [(.int (1 : Int32))]))
          refine .pre (fun _ k => XS.goto X45.here hx rfl (pc0 := 263) (pc' := 267) rfl (hb hby at_263) (by decide) (by decide) k) ?_
          show OwnEnds p e below _ (T45.setTop (mkF m 267 #[.val (.int i0), .val (.int i1), .val (.int i2), .val (.int i3), .val (.ref b1), .val (.int i5), .val (.int i6)] [(.int (1 : Int32))]))
          exact own_endN X45 hx hlk (t := .boolean) Bd.returns (by simp) (hb hby at_267) rfl hk hn ⟨congrArg (fun z => some (Value.int z)) hF, N45, trivial⟩
        · rw [if_neg hc259] at hF
          refine .pre (fun _ k => XS.icmpYes X45.here hx rfl (pc0 := 259) (pc' := 266) rfl (hb hby at_259) rfl (feq hc259).2 (by decide) (by decide) k) ?_
          show OwnEnds p e below _ (T45.setTop (mkF m 266 #[.val (.int i0), .val (.int i1), .val (.int i2), .val (.int i3), .val (.ref b1), .val (.int i5), .val (.int i6)] []))
          refine .pre (fun _ k => XS.iconst X45.here hx rfl (hb hby at_266) k) ?_
          show OwnEnds p e below _ (T45.setTop (mkF m 267 #[.val (.int i0), .val (.int i1), .val (.int i2), .val (.int i3), .val (.ref b1), .val (.int i5), .val (.int i6)] [(.int (0 : Int32))]))
          exact own_endN X45 hx hlk (t := .boolean) Bd.returns (by simp) (hb hby at_267) rfl hk hn ⟨congrArg (fun z => some (Value.int z)) hF, N45, trivial⟩
      · rw [if_neg hc246] at hF
        refine .pre (fun _ k => XS.icmpYes X43.here hx rfl (pc0 := 246) (pc' := 266) rfl (hb hby at_246) rfl (feq hc246).2 (by decide) (by decide) k) ?_
        show OwnEnds p e below _ (T43.setTop (mkF m 266 #[.val (.int i0), .val (.int i1), .val (.int i2), .val (.int i3), .val (.ref b1), .val (.int i5), .val (.int i6)] []))
        refine .pre (fun _ k => XS.iconst X43.here hx rfl (hb hby at_266) k) ?_
        show OwnEnds p e below _ (T43.setTop (mkF m 267 #[.val (.int i0), .val (.int i1), .val (.int i2), .val (.int i3), .val (.ref b1), .val (.int i5), .val (.int i6)] [(.int (0 : Int32))]))
        exact own_endN X43 hx hlk (t := .boolean) Bd.returns (by simp) (hb hby at_267) rfl hk hn ⟨congrArg (fun z => some (Value.int z)) hF, N43, trivial⟩
    · rw [if_neg hc233] at hF
      refine .pre (fun _ k => XS.icmpYes X41.here hx rfl (pc0 := 233) (pc' := 266) rfl (hb hby at_233) rfl (feq hc233).2 (by decide) (by decide) k) ?_
      show OwnEnds p e below _ (T41.setTop (mkF m 266 #[.val (.int i0), .val (.int i1), .val (.int i2), .val (.int i3), .val (.ref b1), .val (.int i5), .val (.int i6)] []))
      refine .pre (fun _ k => XS.iconst X41.here hx rfl (hb hby at_266) k) ?_
      show OwnEnds p e below _ (T41.setTop (mkF m 267 #[.val (.int i0), .val (.int i1), .val (.int i2), .val (.int i3), .val (.ref b1), .val (.int i5), .val (.int i6)] [(.int (0 : Int32))]))
      exact own_endN X41 hx hlk (t := .boolean) Bd.returns (by simp) (hb hby at_267) rfl hk hn ⟨congrArg (fun z => some (Value.int z)) hF, N41, trivial⟩
  exact B225 T31 _ _ _ X31 e31 N31 (by decide) (by decide) p0 p1 p2 p3 (((own_tab ((p2 &&& (2147483647 : Int32)) % (30 : Int32))) + ((p3 &&& (2147483647 : Int32)) % (3 : Int32))) - (1 : Int32)) (p1 &&& (2097151 : Int32)) rfl
theorem own_lt {x y : Int32} (h : x.toInt < y.toInt) : x < y := Int32.lt_iff_toInt_lt.mpr h
theorem own_ltN {x y : Int32} (h : ¬ x.toInt < y.toInt) : ¬ (x < y) := fun q => h (Int32.lt_iff_toInt_lt.mp q)
theorem own_gt {x y : Int32} (h : x.toInt < y.toInt) : x < y := Int32.lt_iff_toInt_lt.mpr h
theorem own_gtN {x y : Int32} (h : ¬ x.toInt < y.toInt) : ¬ (x < y) := fun q => h (Int32.lt_iff_toInt_lt.mp q)
theorem own_eq {x y : Int32} (h : x.toInt = y.toInt) : x = y := Int32.toInt_inj.mp h
theorem own_eqN {x y : Int32} (h : ¬ x.toInt = y.toInt) : ¬ (x = y) := fun q => h (Int32.toInt_inj.mpr q)
theorem own_same_0 (x : Int32) (hh : x.toInt ≤ 64) : f1_0 x = f2_0 x := by
  rw [f1_0, if_pos (show (x < (65 : Int32)) from own_lt (by show (x.toInt < (65 : Int)); omega)), f1_12, if_neg (show ¬ (x = (95 : Int32)) from own_eqN (by show ¬ (x.toInt = (95 : Int)); omega)), if_pos (show (x < (97 : Int32)) from own_lt (by show (x.toInt < (97 : Int)); omega)), f1_30, if_pos (show (x < (192 : Int32)) from own_lt (by show (x.toInt < (192 : Int)); omega)), f1_44, if_pos (show (x < (216 : Int32)) from own_lt (by show (x.toInt < (216 : Int)); omega)), f1_58, if_pos (show (x < (248 : Int32)) from own_lt (by show (x.toInt < (248 : Int)); omega)), f1_72, if_pos (show (x < (880 : Int32)) from own_lt (by show (x.toInt < (880 : Int)); omega)), f1_86, if_pos (show (x < (895 : Int32)) from own_lt (by show (x.toInt < (895 : Int)); omega)), f1_100, if_pos (show (x < (8204 : Int32)) from own_lt (by show (x.toInt < (8204 : Int)); omega)), f1_114, if_pos (show (x < (8304 : Int32)) from own_lt (by show (x.toInt < (8304 : Int)); omega)), f1_128, if_pos (show (x < (11264 : Int32)) from own_lt (by show (x.toInt < (11264 : Int)); omega)), f1_142, if_pos (show (x < (12289 : Int32)) from own_lt (by show (x.toInt < (12289 : Int)); omega)), f1_155, if_pos (show (x < (63744 : Int32)) from own_lt (by show (x.toInt < (63744 : Int)); omega)), f1_167, if_pos (show (x < (65008 : Int32)) from own_lt (by show (x.toInt < (65008 : Int)); omega)), f1_179, if_pos (show (x < (65536 : Int32)) from own_lt (by show (x.toInt < (65536 : Int)); omega)), f2_0, if_pos (show (x < (65 : Int32)) from own_lt (by show (x.toInt < (65 : Int)); omega))]
theorem own_same_1 (x : Int32) (hl : 65 ≤ x.toInt) (hh : x.toInt ≤ 90) : f1_0 x = f2_0 x := by
  rw [f1_0, if_neg (show ¬ (x < (65 : Int32)) from own_ltN (by show ¬ (x.toInt < (65 : Int)); omega)), if_neg (show ¬ ((90 : Int32) < x) from own_gtN (by show ¬ ((90 : Int) < x.toInt); omega)), f2_0, if_neg (show ¬ (x < (65 : Int32)) from own_ltN (by show ¬ (x.toInt < (65 : Int)); omega)), if_neg (show ¬ ((90 : Int32) < x) from own_gtN (by show ¬ ((90 : Int) < x.toInt); omega))]
theorem own_same_2 (x : Int32) (hl : 91 ≤ x.toInt) (hh : x.toInt ≤ 94) : f1_0 x = f2_0 x := by
  rw [f1_0, if_neg (show ¬ (x < (65 : Int32)) from own_ltN (by show ¬ (x.toInt < (65 : Int)); omega)), if_pos (show ((90 : Int32) < x) from own_gt (by show ((90 : Int) < x.toInt); omega)), f1_12, if_neg (show ¬ (x = (95 : Int32)) from own_eqN (by show ¬ (x.toInt = (95 : Int)); omega)), if_pos (show (x < (97 : Int32)) from own_lt (by show (x.toInt < (97 : Int)); omega)), f1_30, if_pos (show (x < (192 : Int32)) from own_lt (by show (x.toInt < (192 : Int)); omega)), f1_44, if_pos (show (x < (216 : Int32)) from own_lt (by show (x.toInt < (216 : Int)); omega)), f1_58, if_pos (show (x < (248 : Int32)) from own_lt (by show (x.toInt < (248 : Int)); omega)), f1_72, if_pos (show (x < (880 : Int32)) from own_lt (by show (x.toInt < (880 : Int)); omega)), f1_86, if_pos (show (x < (895 : Int32)) from own_lt (by show (x.toInt < (895 : Int)); omega)), f1_100, if_pos (show (x < (8204 : Int32)) from own_lt (by show (x.toInt < (8204 : Int)); omega)), f1_114, if_pos (show (x < (8304 : Int32)) from own_lt (by show (x.toInt < (8304 : Int)); omega)), f1_128, if_pos (show (x < (11264 : Int32)) from own_lt (by show (x.toInt < (11264 : Int)); omega)), f1_142, if_pos (show (x < (12289 : Int32)) from own_lt (by show (x.toInt < (12289 : Int)); omega)), f1_155, if_pos (show (x < (63744 : Int32)) from own_lt (by show (x.toInt < (63744 : Int)); omega)), f1_167, if_pos (show (x < (65008 : Int32)) from own_lt (by show (x.toInt < (65008 : Int)); omega)), f1_179, if_pos (show (x < (65536 : Int32)) from own_lt (by show (x.toInt < (65536 : Int)); omega)), f2_0, if_neg (show ¬ (x < (65 : Int32)) from own_ltN (by show ¬ (x.toInt < (65 : Int)); omega)), if_pos (show ((90 : Int32) < x) from own_gt (by show ((90 : Int) < x.toInt); omega)), if_pos (show (x < (97 : Int32)) from own_lt (by show (x.toInt < (97 : Int)); omega)), if_neg (show ¬ (x = (95 : Int32)) from own_eqN (by show ¬ (x.toInt = (95 : Int)); omega))]
theorem own_same_3 (x : Int32) (hl : 95 ≤ x.toInt) (hh : x.toInt ≤ 95) : f1_0 x = f2_0 x := by
  rw [f1_0, if_neg (show ¬ (x < (65 : Int32)) from own_ltN (by show ¬ (x.toInt < (65 : Int)); omega)), if_pos (show ((90 : Int32) < x) from own_gt (by show ((90 : Int) < x.toInt); omega)), f1_12, if_pos (show (x = (95 : Int32)) from own_eq (by show (x.toInt = (95 : Int)); omega)), f2_0, if_neg (show ¬ (x < (65 : Int32)) from own_ltN (by show ¬ (x.toInt < (65 : Int)); omega)), if_pos (show ((90 : Int32) < x) from own_gt (by show ((90 : Int) < x.toInt); omega)), if_pos (show (x < (97 : Int32)) from own_lt (by show (x.toInt < (97 : Int)); omega)), if_pos (show (x = (95 : Int32)) from own_eq (by show (x.toInt = (95 : Int)); omega))]
theorem own_same_4 (x : Int32) (hl : 96 ≤ x.toInt) (hh : x.toInt ≤ 96) : f1_0 x = f2_0 x := by
  rw [f1_0, if_neg (show ¬ (x < (65 : Int32)) from own_ltN (by show ¬ (x.toInt < (65 : Int)); omega)), if_pos (show ((90 : Int32) < x) from own_gt (by show ((90 : Int) < x.toInt); omega)), f1_12, if_neg (show ¬ (x = (95 : Int32)) from own_eqN (by show ¬ (x.toInt = (95 : Int)); omega)), if_pos (show (x < (97 : Int32)) from own_lt (by show (x.toInt < (97 : Int)); omega)), f1_30, if_pos (show (x < (192 : Int32)) from own_lt (by show (x.toInt < (192 : Int)); omega)), f1_44, if_pos (show (x < (216 : Int32)) from own_lt (by show (x.toInt < (216 : Int)); omega)), f1_58, if_pos (show (x < (248 : Int32)) from own_lt (by show (x.toInt < (248 : Int)); omega)), f1_72, if_pos (show (x < (880 : Int32)) from own_lt (by show (x.toInt < (880 : Int)); omega)), f1_86, if_pos (show (x < (895 : Int32)) from own_lt (by show (x.toInt < (895 : Int)); omega)), f1_100, if_pos (show (x < (8204 : Int32)) from own_lt (by show (x.toInt < (8204 : Int)); omega)), f1_114, if_pos (show (x < (8304 : Int32)) from own_lt (by show (x.toInt < (8304 : Int)); omega)), f1_128, if_pos (show (x < (11264 : Int32)) from own_lt (by show (x.toInt < (11264 : Int)); omega)), f1_142, if_pos (show (x < (12289 : Int32)) from own_lt (by show (x.toInt < (12289 : Int)); omega)), f1_155, if_pos (show (x < (63744 : Int32)) from own_lt (by show (x.toInt < (63744 : Int)); omega)), f1_167, if_pos (show (x < (65008 : Int32)) from own_lt (by show (x.toInt < (65008 : Int)); omega)), f1_179, if_pos (show (x < (65536 : Int32)) from own_lt (by show (x.toInt < (65536 : Int)); omega)), f2_0, if_neg (show ¬ (x < (65 : Int32)) from own_ltN (by show ¬ (x.toInt < (65 : Int)); omega)), if_pos (show ((90 : Int32) < x) from own_gt (by show ((90 : Int) < x.toInt); omega)), if_pos (show (x < (97 : Int32)) from own_lt (by show (x.toInt < (97 : Int)); omega)), if_neg (show ¬ (x = (95 : Int32)) from own_eqN (by show ¬ (x.toInt = (95 : Int)); omega))]
theorem own_same_5 (x : Int32) (hl : 97 ≤ x.toInt) (hh : x.toInt ≤ 122) : f1_0 x = f2_0 x := by
  rw [f1_0, if_neg (show ¬ (x < (65 : Int32)) from own_ltN (by show ¬ (x.toInt < (65 : Int)); omega)), if_pos (show ((90 : Int32) < x) from own_gt (by show ((90 : Int) < x.toInt); omega)), f1_12, if_neg (show ¬ (x = (95 : Int32)) from own_eqN (by show ¬ (x.toInt = (95 : Int)); omega)), if_neg (show ¬ (x < (97 : Int32)) from own_ltN (by show ¬ (x.toInt < (97 : Int)); omega)), if_neg (show ¬ ((122 : Int32) < x) from own_gtN (by show ¬ ((122 : Int) < x.toInt); omega)), f2_0, if_neg (show ¬ (x < (65 : Int32)) from own_ltN (by show ¬ (x.toInt < (65 : Int)); omega)), if_pos (show ((90 : Int32) < x) from own_gt (by show ((90 : Int) < x.toInt); omega)), if_neg (show ¬ (x < (97 : Int32)) from own_ltN (by show ¬ (x.toInt < (97 : Int)); omega)), if_neg (show ¬ ((122 : Int32) < x) from own_gtN (by show ¬ ((122 : Int) < x.toInt); omega))]
theorem own_same_6 (x : Int32) (hl : 123 ≤ x.toInt) (hh : x.toInt ≤ 191) : f1_0 x = f2_0 x := by
  rw [f1_0, if_neg (show ¬ (x < (65 : Int32)) from own_ltN (by show ¬ (x.toInt < (65 : Int)); omega)), if_pos (show ((90 : Int32) < x) from own_gt (by show ((90 : Int) < x.toInt); omega)), f1_12, if_neg (show ¬ (x = (95 : Int32)) from own_eqN (by show ¬ (x.toInt = (95 : Int)); omega)), if_neg (show ¬ (x < (97 : Int32)) from own_ltN (by show ¬ (x.toInt < (97 : Int)); omega)), if_pos (show ((122 : Int32) < x) from own_gt (by show ((122 : Int) < x.toInt); omega)), f1_30, if_pos (show (x < (192 : Int32)) from own_lt (by show (x.toInt < (192 : Int)); omega)), f1_44, if_pos (show (x < (216 : Int32)) from own_lt (by show (x.toInt < (216 : Int)); omega)), f1_58, if_pos (show (x < (248 : Int32)) from own_lt (by show (x.toInt < (248 : Int)); omega)), f1_72, if_pos (show (x < (880 : Int32)) from own_lt (by show (x.toInt < (880 : Int)); omega)), f1_86, if_pos (show (x < (895 : Int32)) from own_lt (by show (x.toInt < (895 : Int)); omega)), f1_100, if_pos (show (x < (8204 : Int32)) from own_lt (by show (x.toInt < (8204 : Int)); omega)), f1_114, if_pos (show (x < (8304 : Int32)) from own_lt (by show (x.toInt < (8304 : Int)); omega)), f1_128, if_pos (show (x < (11264 : Int32)) from own_lt (by show (x.toInt < (11264 : Int)); omega)), f1_142, if_pos (show (x < (12289 : Int32)) from own_lt (by show (x.toInt < (12289 : Int)); omega)), f1_155, if_pos (show (x < (63744 : Int32)) from own_lt (by show (x.toInt < (63744 : Int)); omega)), f1_167, if_pos (show (x < (65008 : Int32)) from own_lt (by show (x.toInt < (65008 : Int)); omega)), f1_179, if_pos (show (x < (65536 : Int32)) from own_lt (by show (x.toInt < (65536 : Int)); omega)), f2_0, if_neg (show ¬ (x < (65 : Int32)) from own_ltN (by show ¬ (x.toInt < (65 : Int)); omega)), if_pos (show ((90 : Int32) < x) from own_gt (by show ((90 : Int) < x.toInt); omega)), if_neg (show ¬ (x < (97 : Int32)) from own_ltN (by show ¬ (x.toInt < (97 : Int)); omega)), if_pos (show ((122 : Int32) < x) from own_gt (by show ((122 : Int) < x.toInt); omega)), if_pos (show (x < (192 : Int32)) from own_lt (by show (x.toInt < (192 : Int)); omega))]
theorem own_same_7 (x : Int32) (hl : 192 ≤ x.toInt) (hh : x.toInt ≤ 214) : f1_0 x = f2_0 x := by
  rw [f1_0, if_neg (show ¬ (x < (65 : Int32)) from own_ltN (by show ¬ (x.toInt < (65 : Int)); omega)), if_pos (show ((90 : Int32) < x) from own_gt (by show ((90 : Int) < x.toInt); omega)), f1_12, if_neg (show ¬ (x = (95 : Int32)) from own_eqN (by show ¬ (x.toInt = (95 : Int)); omega)), if_neg (show ¬ (x < (97 : Int32)) from own_ltN (by show ¬ (x.toInt < (97 : Int)); omega)), if_pos (show ((122 : Int32) < x) from own_gt (by show ((122 : Int) < x.toInt); omega)), f1_30, if_neg (show ¬ (x < (192 : Int32)) from own_ltN (by show ¬ (x.toInt < (192 : Int)); omega)), if_neg (show ¬ ((214 : Int32) < x) from own_gtN (by show ¬ ((214 : Int) < x.toInt); omega)), f2_0, if_neg (show ¬ (x < (65 : Int32)) from own_ltN (by show ¬ (x.toInt < (65 : Int)); omega)), if_pos (show ((90 : Int32) < x) from own_gt (by show ((90 : Int) < x.toInt); omega)), if_neg (show ¬ (x < (97 : Int32)) from own_ltN (by show ¬ (x.toInt < (97 : Int)); omega)), if_pos (show ((122 : Int32) < x) from own_gt (by show ((122 : Int) < x.toInt); omega)), if_neg (show ¬ (x < (192 : Int32)) from own_ltN (by show ¬ (x.toInt < (192 : Int)); omega)), if_neg (show ¬ ((767 : Int32) < x) from own_gtN (by show ¬ ((767 : Int) < x.toInt); omega)), if_neg (show ¬ (x = (215 : Int32)) from own_eqN (by show ¬ (x.toInt = (215 : Int)); omega)), if_neg (show ¬ (x = (247 : Int32)) from own_eqN (by show ¬ (x.toInt = (247 : Int)); omega))]
theorem own_same_8 (x : Int32) (hl : 215 ≤ x.toInt) (hh : x.toInt ≤ 215) : f1_0 x = f2_0 x := by
  rw [f1_0, if_neg (show ¬ (x < (65 : Int32)) from own_ltN (by show ¬ (x.toInt < (65 : Int)); omega)), if_pos (show ((90 : Int32) < x) from own_gt (by show ((90 : Int) < x.toInt); omega)), f1_12, if_neg (show ¬ (x = (95 : Int32)) from own_eqN (by show ¬ (x.toInt = (95 : Int)); omega)), if_neg (show ¬ (x < (97 : Int32)) from own_ltN (by show ¬ (x.toInt < (97 : Int)); omega)), if_pos (show ((122 : Int32) < x) from own_gt (by show ((122 : Int) < x.toInt); omega)), f1_30, if_neg (show ¬ (x < (192 : Int32)) from own_ltN (by show ¬ (x.toInt < (192 : Int)); omega)), if_pos (show ((214 : Int32) < x) from own_gt (by show ((214 : Int) < x.toInt); omega)), f1_44, if_pos (show (x < (216 : Int32)) from own_lt (by show (x.toInt < (216 : Int)); omega)), f1_58, if_pos (show (x < (248 : Int32)) from own_lt (by show (x.toInt < (248 : Int)); omega)), f1_72, if_pos (show (x < (880 : Int32)) from own_lt (by show (x.toInt < (880 : Int)); omega)), f1_86, if_pos (show (x < (895 : Int32)) from own_lt (by show (x.toInt < (895 : Int)); omega)), f1_100, if_pos (show (x < (8204 : Int32)) from own_lt (by show (x.toInt < (8204 : Int)); omega)), f1_114, if_pos (show (x < (8304 : Int32)) from own_lt (by show (x.toInt < (8304 : Int)); omega)), f1_128, if_pos (show (x < (11264 : Int32)) from own_lt (by show (x.toInt < (11264 : Int)); omega)), f1_142, if_pos (show (x < (12289 : Int32)) from own_lt (by show (x.toInt < (12289 : Int)); omega)), f1_155, if_pos (show (x < (63744 : Int32)) from own_lt (by show (x.toInt < (63744 : Int)); omega)), f1_167, if_pos (show (x < (65008 : Int32)) from own_lt (by show (x.toInt < (65008 : Int)); omega)), f1_179, if_pos (show (x < (65536 : Int32)) from own_lt (by show (x.toInt < (65536 : Int)); omega)), f2_0, if_neg (show ¬ (x < (65 : Int32)) from own_ltN (by show ¬ (x.toInt < (65 : Int)); omega)), if_pos (show ((90 : Int32) < x) from own_gt (by show ((90 : Int) < x.toInt); omega)), if_neg (show ¬ (x < (97 : Int32)) from own_ltN (by show ¬ (x.toInt < (97 : Int)); omega)), if_pos (show ((122 : Int32) < x) from own_gt (by show ((122 : Int) < x.toInt); omega)), if_neg (show ¬ (x < (192 : Int32)) from own_ltN (by show ¬ (x.toInt < (192 : Int)); omega)), if_neg (show ¬ ((767 : Int32) < x) from own_gtN (by show ¬ ((767 : Int) < x.toInt); omega)), if_pos (show (x = (215 : Int32)) from own_eq (by show (x.toInt = (215 : Int)); omega))]
theorem own_same_9 (x : Int32) (hl : 216 ≤ x.toInt) (hh : x.toInt ≤ 246) : f1_0 x = f2_0 x := by
  rw [f1_0, if_neg (show ¬ (x < (65 : Int32)) from own_ltN (by show ¬ (x.toInt < (65 : Int)); omega)), if_pos (show ((90 : Int32) < x) from own_gt (by show ((90 : Int) < x.toInt); omega)), f1_12, if_neg (show ¬ (x = (95 : Int32)) from own_eqN (by show ¬ (x.toInt = (95 : Int)); omega)), if_neg (show ¬ (x < (97 : Int32)) from own_ltN (by show ¬ (x.toInt < (97 : Int)); omega)), if_pos (show ((122 : Int32) < x) from own_gt (by show ((122 : Int) < x.toInt); omega)), f1_30, if_neg (show ¬ (x < (192 : Int32)) from own_ltN (by show ¬ (x.toInt < (192 : Int)); omega)), if_pos (show ((214 : Int32) < x) from own_gt (by show ((214 : Int) < x.toInt); omega)), f1_44, if_neg (show ¬ (x < (216 : Int32)) from own_ltN (by show ¬ (x.toInt < (216 : Int)); omega)), if_neg (show ¬ ((246 : Int32) < x) from own_gtN (by show ¬ ((246 : Int) < x.toInt); omega)), f2_0, if_neg (show ¬ (x < (65 : Int32)) from own_ltN (by show ¬ (x.toInt < (65 : Int)); omega)), if_pos (show ((90 : Int32) < x) from own_gt (by show ((90 : Int) < x.toInt); omega)), if_neg (show ¬ (x < (97 : Int32)) from own_ltN (by show ¬ (x.toInt < (97 : Int)); omega)), if_pos (show ((122 : Int32) < x) from own_gt (by show ((122 : Int) < x.toInt); omega)), if_neg (show ¬ (x < (192 : Int32)) from own_ltN (by show ¬ (x.toInt < (192 : Int)); omega)), if_neg (show ¬ ((767 : Int32) < x) from own_gtN (by show ¬ ((767 : Int) < x.toInt); omega)), if_neg (show ¬ (x = (215 : Int32)) from own_eqN (by show ¬ (x.toInt = (215 : Int)); omega)), if_neg (show ¬ (x = (247 : Int32)) from own_eqN (by show ¬ (x.toInt = (247 : Int)); omega))]
theorem own_same_10 (x : Int32) (hl : 247 ≤ x.toInt) (hh : x.toInt ≤ 247) : f1_0 x = f2_0 x := by
  rw [f1_0, if_neg (show ¬ (x < (65 : Int32)) from own_ltN (by show ¬ (x.toInt < (65 : Int)); omega)), if_pos (show ((90 : Int32) < x) from own_gt (by show ((90 : Int) < x.toInt); omega)), f1_12, if_neg (show ¬ (x = (95 : Int32)) from own_eqN (by show ¬ (x.toInt = (95 : Int)); omega)), if_neg (show ¬ (x < (97 : Int32)) from own_ltN (by show ¬ (x.toInt < (97 : Int)); omega)), if_pos (show ((122 : Int32) < x) from own_gt (by show ((122 : Int) < x.toInt); omega)), f1_30, if_neg (show ¬ (x < (192 : Int32)) from own_ltN (by show ¬ (x.toInt < (192 : Int)); omega)), if_pos (show ((214 : Int32) < x) from own_gt (by show ((214 : Int) < x.toInt); omega)), f1_44, if_neg (show ¬ (x < (216 : Int32)) from own_ltN (by show ¬ (x.toInt < (216 : Int)); omega)), if_pos (show ((246 : Int32) < x) from own_gt (by show ((246 : Int) < x.toInt); omega)), f1_58, if_pos (show (x < (248 : Int32)) from own_lt (by show (x.toInt < (248 : Int)); omega)), f1_72, if_pos (show (x < (880 : Int32)) from own_lt (by show (x.toInt < (880 : Int)); omega)), f1_86, if_pos (show (x < (895 : Int32)) from own_lt (by show (x.toInt < (895 : Int)); omega)), f1_100, if_pos (show (x < (8204 : Int32)) from own_lt (by show (x.toInt < (8204 : Int)); omega)), f1_114, if_pos (show (x < (8304 : Int32)) from own_lt (by show (x.toInt < (8304 : Int)); omega)), f1_128, if_pos (show (x < (11264 : Int32)) from own_lt (by show (x.toInt < (11264 : Int)); omega)), f1_142, if_pos (show (x < (12289 : Int32)) from own_lt (by show (x.toInt < (12289 : Int)); omega)), f1_155, if_pos (show (x < (63744 : Int32)) from own_lt (by show (x.toInt < (63744 : Int)); omega)), f1_167, if_pos (show (x < (65008 : Int32)) from own_lt (by show (x.toInt < (65008 : Int)); omega)), f1_179, if_pos (show (x < (65536 : Int32)) from own_lt (by show (x.toInt < (65536 : Int)); omega)), f2_0, if_neg (show ¬ (x < (65 : Int32)) from own_ltN (by show ¬ (x.toInt < (65 : Int)); omega)), if_pos (show ((90 : Int32) < x) from own_gt (by show ((90 : Int) < x.toInt); omega)), if_neg (show ¬ (x < (97 : Int32)) from own_ltN (by show ¬ (x.toInt < (97 : Int)); omega)), if_pos (show ((122 : Int32) < x) from own_gt (by show ((122 : Int) < x.toInt); omega)), if_neg (show ¬ (x < (192 : Int32)) from own_ltN (by show ¬ (x.toInt < (192 : Int)); omega)), if_neg (show ¬ ((767 : Int32) < x) from own_gtN (by show ¬ ((767 : Int) < x.toInt); omega)), if_neg (show ¬ (x = (215 : Int32)) from own_eqN (by show ¬ (x.toInt = (215 : Int)); omega)), if_pos (show (x = (247 : Int32)) from own_eq (by show (x.toInt = (247 : Int)); omega))]
theorem own_same_11 (x : Int32) (hl : 248 ≤ x.toInt) (hh : x.toInt ≤ 767) : f1_0 x = f2_0 x := by
  rw [f1_0, if_neg (show ¬ (x < (65 : Int32)) from own_ltN (by show ¬ (x.toInt < (65 : Int)); omega)), if_pos (show ((90 : Int32) < x) from own_gt (by show ((90 : Int) < x.toInt); omega)), f1_12, if_neg (show ¬ (x = (95 : Int32)) from own_eqN (by show ¬ (x.toInt = (95 : Int)); omega)), if_neg (show ¬ (x < (97 : Int32)) from own_ltN (by show ¬ (x.toInt < (97 : Int)); omega)), if_pos (show ((122 : Int32) < x) from own_gt (by show ((122 : Int) < x.toInt); omega)), f1_30, if_neg (show ¬ (x < (192 : Int32)) from own_ltN (by show ¬ (x.toInt < (192 : Int)); omega)), if_pos (show ((214 : Int32) < x) from own_gt (by show ((214 : Int) < x.toInt); omega)), f1_44, if_neg (show ¬ (x < (216 : Int32)) from own_ltN (by show ¬ (x.toInt < (216 : Int)); omega)), if_pos (show ((246 : Int32) < x) from own_gt (by show ((246 : Int) < x.toInt); omega)), f1_58, if_neg (show ¬ (x < (248 : Int32)) from own_ltN (by show ¬ (x.toInt < (248 : Int)); omega)), if_neg (show ¬ ((767 : Int32) < x) from own_gtN (by show ¬ ((767 : Int) < x.toInt); omega)), f2_0, if_neg (show ¬ (x < (65 : Int32)) from own_ltN (by show ¬ (x.toInt < (65 : Int)); omega)), if_pos (show ((90 : Int32) < x) from own_gt (by show ((90 : Int) < x.toInt); omega)), if_neg (show ¬ (x < (97 : Int32)) from own_ltN (by show ¬ (x.toInt < (97 : Int)); omega)), if_pos (show ((122 : Int32) < x) from own_gt (by show ((122 : Int) < x.toInt); omega)), if_neg (show ¬ (x < (192 : Int32)) from own_ltN (by show ¬ (x.toInt < (192 : Int)); omega)), if_neg (show ¬ ((767 : Int32) < x) from own_gtN (by show ¬ ((767 : Int) < x.toInt); omega)), if_neg (show ¬ (x = (215 : Int32)) from own_eqN (by show ¬ (x.toInt = (215 : Int)); omega)), if_neg (show ¬ (x = (247 : Int32)) from own_eqN (by show ¬ (x.toInt = (247 : Int)); omega))]
theorem own_same_12 (x : Int32) (hl : 768 ≤ x.toInt) (hh : x.toInt ≤ 879) : f1_0 x = f2_0 x := by
  rw [f1_0, if_neg (show ¬ (x < (65 : Int32)) from own_ltN (by show ¬ (x.toInt < (65 : Int)); omega)), if_pos (show ((90 : Int32) < x) from own_gt (by show ((90 : Int) < x.toInt); omega)), f1_12, if_neg (show ¬ (x = (95 : Int32)) from own_eqN (by show ¬ (x.toInt = (95 : Int)); omega)), if_neg (show ¬ (x < (97 : Int32)) from own_ltN (by show ¬ (x.toInt < (97 : Int)); omega)), if_pos (show ((122 : Int32) < x) from own_gt (by show ((122 : Int) < x.toInt); omega)), f1_30, if_neg (show ¬ (x < (192 : Int32)) from own_ltN (by show ¬ (x.toInt < (192 : Int)); omega)), if_pos (show ((214 : Int32) < x) from own_gt (by show ((214 : Int) < x.toInt); omega)), f1_44, if_neg (show ¬ (x < (216 : Int32)) from own_ltN (by show ¬ (x.toInt < (216 : Int)); omega)), if_pos (show ((246 : Int32) < x) from own_gt (by show ((246 : Int) < x.toInt); omega)), f1_58, if_neg (show ¬ (x < (248 : Int32)) from own_ltN (by show ¬ (x.toInt < (248 : Int)); omega)), if_pos (show ((767 : Int32) < x) from own_gt (by show ((767 : Int) < x.toInt); omega)), f1_72, if_pos (show (x < (880 : Int32)) from own_lt (by show (x.toInt < (880 : Int)); omega)), f1_86, if_pos (show (x < (895 : Int32)) from own_lt (by show (x.toInt < (895 : Int)); omega)), f1_100, if_pos (show (x < (8204 : Int32)) from own_lt (by show (x.toInt < (8204 : Int)); omega)), f1_114, if_pos (show (x < (8304 : Int32)) from own_lt (by show (x.toInt < (8304 : Int)); omega)), f1_128, if_pos (show (x < (11264 : Int32)) from own_lt (by show (x.toInt < (11264 : Int)); omega)), f1_142, if_pos (show (x < (12289 : Int32)) from own_lt (by show (x.toInt < (12289 : Int)); omega)), f1_155, if_pos (show (x < (63744 : Int32)) from own_lt (by show (x.toInt < (63744 : Int)); omega)), f1_167, if_pos (show (x < (65008 : Int32)) from own_lt (by show (x.toInt < (65008 : Int)); omega)), f1_179, if_pos (show (x < (65536 : Int32)) from own_lt (by show (x.toInt < (65536 : Int)); omega)), f2_0, if_neg (show ¬ (x < (65 : Int32)) from own_ltN (by show ¬ (x.toInt < (65 : Int)); omega)), if_pos (show ((90 : Int32) < x) from own_gt (by show ((90 : Int) < x.toInt); omega)), if_neg (show ¬ (x < (97 : Int32)) from own_ltN (by show ¬ (x.toInt < (97 : Int)); omega)), if_pos (show ((122 : Int32) < x) from own_gt (by show ((122 : Int) < x.toInt); omega)), if_neg (show ¬ (x < (192 : Int32)) from own_ltN (by show ¬ (x.toInt < (192 : Int)); omega)), if_pos (show ((767 : Int32) < x) from own_gt (by show ((767 : Int) < x.toInt); omega)), if_pos (show (x < (880 : Int32)) from own_lt (by show (x.toInt < (880 : Int)); omega))]
theorem own_same_13 (x : Int32) (hl : 880 ≤ x.toInt) (hh : x.toInt ≤ 893) : f1_0 x = f2_0 x := by
  rw [f1_0, if_neg (show ¬ (x < (65 : Int32)) from own_ltN (by show ¬ (x.toInt < (65 : Int)); omega)), if_pos (show ((90 : Int32) < x) from own_gt (by show ((90 : Int) < x.toInt); omega)), f1_12, if_neg (show ¬ (x = (95 : Int32)) from own_eqN (by show ¬ (x.toInt = (95 : Int)); omega)), if_neg (show ¬ (x < (97 : Int32)) from own_ltN (by show ¬ (x.toInt < (97 : Int)); omega)), if_pos (show ((122 : Int32) < x) from own_gt (by show ((122 : Int) < x.toInt); omega)), f1_30, if_neg (show ¬ (x < (192 : Int32)) from own_ltN (by show ¬ (x.toInt < (192 : Int)); omega)), if_pos (show ((214 : Int32) < x) from own_gt (by show ((214 : Int) < x.toInt); omega)), f1_44, if_neg (show ¬ (x < (216 : Int32)) from own_ltN (by show ¬ (x.toInt < (216 : Int)); omega)), if_pos (show ((246 : Int32) < x) from own_gt (by show ((246 : Int) < x.toInt); omega)), f1_58, if_neg (show ¬ (x < (248 : Int32)) from own_ltN (by show ¬ (x.toInt < (248 : Int)); omega)), if_pos (show ((767 : Int32) < x) from own_gt (by show ((767 : Int) < x.toInt); omega)), f1_72, if_neg (show ¬ (x < (880 : Int32)) from own_ltN (by show ¬ (x.toInt < (880 : Int)); omega)), if_neg (show ¬ ((893 : Int32) < x) from own_gtN (by show ¬ ((893 : Int) < x.toInt); omega)), f2_0, if_neg (show ¬ (x < (65 : Int32)) from own_ltN (by show ¬ (x.toInt < (65 : Int)); omega)), if_pos (show ((90 : Int32) < x) from own_gt (by show ((90 : Int) < x.toInt); omega)), if_neg (show ¬ (x < (97 : Int32)) from own_ltN (by show ¬ (x.toInt < (97 : Int)); omega)), if_pos (show ((122 : Int32) < x) from own_gt (by show ((122 : Int) < x.toInt); omega)), if_neg (show ¬ (x < (192 : Int32)) from own_ltN (by show ¬ (x.toInt < (192 : Int)); omega)), if_pos (show ((767 : Int32) < x) from own_gt (by show ((767 : Int) < x.toInt); omega)), if_neg (show ¬ (x < (880 : Int32)) from own_ltN (by show ¬ (x.toInt < (880 : Int)); omega)), if_neg (show ¬ ((8191 : Int32) < x) from own_gtN (by show ¬ ((8191 : Int) < x.toInt); omega)), if_neg (show ¬ (x = (894 : Int32)) from own_eqN (by show ¬ (x.toInt = (894 : Int)); omega))]
theorem own_same_14 (x : Int32) (hl : 894 ≤ x.toInt) (hh : x.toInt ≤ 894) : f1_0 x = f2_0 x := by
  rw [f1_0, if_neg (show ¬ (x < (65 : Int32)) from own_ltN (by show ¬ (x.toInt < (65 : Int)); omega)), if_pos (show ((90 : Int32) < x) from own_gt (by show ((90 : Int) < x.toInt); omega)), f1_12, if_neg (show ¬ (x = (95 : Int32)) from own_eqN (by show ¬ (x.toInt = (95 : Int)); omega)), if_neg (show ¬ (x < (97 : Int32)) from own_ltN (by show ¬ (x.toInt < (97 : Int)); omega)), if_pos (show ((122 : Int32) < x) from own_gt (by show ((122 : Int) < x.toInt); omega)), f1_30, if_neg (show ¬ (x < (192 : Int32)) from own_ltN (by show ¬ (x.toInt < (192 : Int)); omega)), if_pos (show ((214 : Int32) < x) from own_gt (by show ((214 : Int) < x.toInt); omega)), f1_44, if_neg (show ¬ (x < (216 : Int32)) from own_ltN (by show ¬ (x.toInt < (216 : Int)); omega)), if_pos (show ((246 : Int32) < x) from own_gt (by show ((246 : Int) < x.toInt); omega)), f1_58, if_neg (show ¬ (x < (248 : Int32)) from own_ltN (by show ¬ (x.toInt < (248 : Int)); omega)), if_pos (show ((767 : Int32) < x) from own_gt (by show ((767 : Int) < x.toInt); omega)), f1_72, if_neg (show ¬ (x < (880 : Int32)) from own_ltN (by show ¬ (x.toInt < (880 : Int)); omega)), if_pos (show ((893 : Int32) < x) from own_gt (by show ((893 : Int) < x.toInt); omega)), f1_86, if_pos (show (x < (895 : Int32)) from own_lt (by show (x.toInt < (895 : Int)); omega)), f1_100, if_pos (show (x < (8204 : Int32)) from own_lt (by show (x.toInt < (8204 : Int)); omega)), f1_114, if_pos (show (x < (8304 : Int32)) from own_lt (by show (x.toInt < (8304 : Int)); omega)), f1_128, if_pos (show (x < (11264 : Int32)) from own_lt (by show (x.toInt < (11264 : Int)); omega)), f1_142, if_pos (show (x < (12289 : Int32)) from own_lt (by show (x.toInt < (12289 : Int)); omega)), f1_155, if_pos (show (x < (63744 : Int32)) from own_lt (by show (x.toInt < (63744 : Int)); omega)), f1_167, if_pos (show (x < (65008 : Int32)) from own_lt (by show (x.toInt < (65008 : Int)); omega)), f1_179, if_pos (show (x < (65536 : Int32)) from own_lt (by show (x.toInt < (65536 : Int)); omega)), f2_0, if_neg (show ¬ (x < (65 : Int32)) from own_ltN (by show ¬ (x.toInt < (65 : Int)); omega)), if_pos (show ((90 : Int32) < x) from own_gt (by show ((90 : Int) < x.toInt); omega)), if_neg (show ¬ (x < (97 : Int32)) from own_ltN (by show ¬ (x.toInt < (97 : Int)); omega)), if_pos (show ((122 : Int32) < x) from own_gt (by show ((122 : Int) < x.toInt); omega)), if_neg (show ¬ (x < (192 : Int32)) from own_ltN (by show ¬ (x.toInt < (192 : Int)); omega)), if_pos (show ((767 : Int32) < x) from own_gt (by show ((767 : Int) < x.toInt); omega)), if_neg (show ¬ (x < (880 : Int32)) from own_ltN (by show ¬ (x.toInt < (880 : Int)); omega)), if_neg (show ¬ ((8191 : Int32) < x) from own_gtN (by show ¬ ((8191 : Int) < x.toInt); omega)), if_pos (show (x = (894 : Int32)) from own_eq (by show (x.toInt = (894 : Int)); omega))]
theorem own_same_15 (x : Int32) (hl : 895 ≤ x.toInt) (hh : x.toInt ≤ 8191) : f1_0 x = f2_0 x := by
  rw [f1_0, if_neg (show ¬ (x < (65 : Int32)) from own_ltN (by show ¬ (x.toInt < (65 : Int)); omega)), if_pos (show ((90 : Int32) < x) from own_gt (by show ((90 : Int) < x.toInt); omega)), f1_12, if_neg (show ¬ (x = (95 : Int32)) from own_eqN (by show ¬ (x.toInt = (95 : Int)); omega)), if_neg (show ¬ (x < (97 : Int32)) from own_ltN (by show ¬ (x.toInt < (97 : Int)); omega)), if_pos (show ((122 : Int32) < x) from own_gt (by show ((122 : Int) < x.toInt); omega)), f1_30, if_neg (show ¬ (x < (192 : Int32)) from own_ltN (by show ¬ (x.toInt < (192 : Int)); omega)), if_pos (show ((214 : Int32) < x) from own_gt (by show ((214 : Int) < x.toInt); omega)), f1_44, if_neg (show ¬ (x < (216 : Int32)) from own_ltN (by show ¬ (x.toInt < (216 : Int)); omega)), if_pos (show ((246 : Int32) < x) from own_gt (by show ((246 : Int) < x.toInt); omega)), f1_58, if_neg (show ¬ (x < (248 : Int32)) from own_ltN (by show ¬ (x.toInt < (248 : Int)); omega)), if_pos (show ((767 : Int32) < x) from own_gt (by show ((767 : Int) < x.toInt); omega)), f1_72, if_neg (show ¬ (x < (880 : Int32)) from own_ltN (by show ¬ (x.toInt < (880 : Int)); omega)), if_pos (show ((893 : Int32) < x) from own_gt (by show ((893 : Int) < x.toInt); omega)), f1_86, if_neg (show ¬ (x < (895 : Int32)) from own_ltN (by show ¬ (x.toInt < (895 : Int)); omega)), if_neg (show ¬ ((8191 : Int32) < x) from own_gtN (by show ¬ ((8191 : Int) < x.toInt); omega)), f2_0, if_neg (show ¬ (x < (65 : Int32)) from own_ltN (by show ¬ (x.toInt < (65 : Int)); omega)), if_pos (show ((90 : Int32) < x) from own_gt (by show ((90 : Int) < x.toInt); omega)), if_neg (show ¬ (x < (97 : Int32)) from own_ltN (by show ¬ (x.toInt < (97 : Int)); omega)), if_pos (show ((122 : Int32) < x) from own_gt (by show ((122 : Int) < x.toInt); omega)), if_neg (show ¬ (x < (192 : Int32)) from own_ltN (by show ¬ (x.toInt < (192 : Int)); omega)), if_pos (show ((767 : Int32) < x) from own_gt (by show ((767 : Int) < x.toInt); omega)), if_neg (show ¬ (x < (880 : Int32)) from own_ltN (by show ¬ (x.toInt < (880 : Int)); omega)), if_neg (show ¬ ((8191 : Int32) < x) from own_gtN (by show ¬ ((8191 : Int) < x.toInt); omega)), if_neg (show ¬ (x = (894 : Int32)) from own_eqN (by show ¬ (x.toInt = (894 : Int)); omega))]
theorem own_same_16 (x : Int32) (hl : 8192 ≤ x.toInt) (hh : x.toInt ≤ 8203) : f1_0 x = f2_0 x := by
  rw [f1_0, if_neg (show ¬ (x < (65 : Int32)) from own_ltN (by show ¬ (x.toInt < (65 : Int)); omega)), if_pos (show ((90 : Int32) < x) from own_gt (by show ((90 : Int) < x.toInt); omega)), f1_12, if_neg (show ¬ (x = (95 : Int32)) from own_eqN (by show ¬ (x.toInt = (95 : Int)); omega)), if_neg (show ¬ (x < (97 : Int32)) from own_ltN (by show ¬ (x.toInt < (97 : Int)); omega)), if_pos (show ((122 : Int32) < x) from own_gt (by show ((122 : Int) < x.toInt); omega)), f1_30, if_neg (show ¬ (x < (192 : Int32)) from own_ltN (by show ¬ (x.toInt < (192 : Int)); omega)), if_pos (show ((214 : Int32) < x) from own_gt (by show ((214 : Int) < x.toInt); omega)), f1_44, if_neg (show ¬ (x < (216 : Int32)) from own_ltN (by show ¬ (x.toInt < (216 : Int)); omega)), if_pos (show ((246 : Int32) < x) from own_gt (by show ((246 : Int) < x.toInt); omega)), f1_58, if_neg (show ¬ (x < (248 : Int32)) from own_ltN (by show ¬ (x.toInt < (248 : Int)); omega)), if_pos (show ((767 : Int32) < x) from own_gt (by show ((767 : Int) < x.toInt); omega)), f1_72, if_neg (show ¬ (x < (880 : Int32)) from own_ltN (by show ¬ (x.toInt < (880 : Int)); omega)), if_pos (show ((893 : Int32) < x) from own_gt (by show ((893 : Int) < x.toInt); omega)), f1_86, if_neg (show ¬ (x < (895 : Int32)) from own_ltN (by show ¬ (x.toInt < (895 : Int)); omega)), if_pos (show ((8191 : Int32) < x) from own_gt (by show ((8191 : Int) < x.toInt); omega)), f1_100, if_pos (show (x < (8204 : Int32)) from own_lt (by show (x.toInt < (8204 : Int)); omega)), f1_114, if_pos (show (x < (8304 : Int32)) from own_lt (by show (x.toInt < (8304 : Int)); omega)), f1_128, if_pos (show (x < (11264 : Int32)) from own_lt (by show (x.toInt < (11264 : Int)); omega)), f1_142, if_pos (show (x < (12289 : Int32)) from own_lt (by show (x.toInt < (12289 : Int)); omega)), f1_155, if_pos (show (x < (63744 : Int32)) from own_lt (by show (x.toInt < (63744 : Int)); omega)), f1_167, if_pos (show (x < (65008 : Int32)) from own_lt (by show (x.toInt < (65008 : Int)); omega)), f1_179, if_pos (show (x < (65536 : Int32)) from own_lt (by show (x.toInt < (65536 : Int)); omega)), f2_0, if_neg (show ¬ (x < (65 : Int32)) from own_ltN (by show ¬ (x.toInt < (65 : Int)); omega)), if_pos (show ((90 : Int32) < x) from own_gt (by show ((90 : Int) < x.toInt); omega)), if_neg (show ¬ (x < (97 : Int32)) from own_ltN (by show ¬ (x.toInt < (97 : Int)); omega)), if_pos (show ((122 : Int32) < x) from own_gt (by show ((122 : Int) < x.toInt); omega)), if_neg (show ¬ (x < (192 : Int32)) from own_ltN (by show ¬ (x.toInt < (192 : Int)); omega)), if_pos (show ((767 : Int32) < x) from own_gt (by show ((767 : Int) < x.toInt); omega)), if_neg (show ¬ (x < (880 : Int32)) from own_ltN (by show ¬ (x.toInt < (880 : Int)); omega)), if_pos (show ((8191 : Int32) < x) from own_gt (by show ((8191 : Int) < x.toInt); omega)), if_pos (show (x < (8304 : Int32)) from own_lt (by show (x.toInt < (8304 : Int)); omega)), if_neg (show ¬ (x = (8204 : Int32)) from own_eqN (by show ¬ (x.toInt = (8204 : Int)); omega)), if_neg (show ¬ (x = (8205 : Int32)) from own_eqN (by show ¬ (x.toInt = (8205 : Int)); omega))]
theorem own_same_17 (x : Int32) (hl : 8204 ≤ x.toInt) (hh : x.toInt ≤ 8204) : f1_0 x = f2_0 x := by
  rw [f1_0, if_neg (show ¬ (x < (65 : Int32)) from own_ltN (by show ¬ (x.toInt < (65 : Int)); omega)), if_pos (show ((90 : Int32) < x) from own_gt (by show ((90 : Int) < x.toInt); omega)), f1_12, if_neg (show ¬ (x = (95 : Int32)) from own_eqN (by show ¬ (x.toInt = (95 : Int)); omega)), if_neg (show ¬ (x < (97 : Int32)) from own_ltN (by show ¬ (x.toInt < (97 : Int)); omega)), if_pos (show ((122 : Int32) < x) from own_gt (by show ((122 : Int) < x.toInt); omega)), f1_30, if_neg (show ¬ (x < (192 : Int32)) from own_ltN (by show ¬ (x.toInt < (192 : Int)); omega)), if_pos (show ((214 : Int32) < x) from own_gt (by show ((214 : Int) < x.toInt); omega)), f1_44, if_neg (show ¬ (x < (216 : Int32)) from own_ltN (by show ¬ (x.toInt < (216 : Int)); omega)), if_pos (show ((246 : Int32) < x) from own_gt (by show ((246 : Int) < x.toInt); omega)), f1_58, if_neg (show ¬ (x < (248 : Int32)) from own_ltN (by show ¬ (x.toInt < (248 : Int)); omega)), if_pos (show ((767 : Int32) < x) from own_gt (by show ((767 : Int) < x.toInt); omega)), f1_72, if_neg (show ¬ (x < (880 : Int32)) from own_ltN (by show ¬ (x.toInt < (880 : Int)); omega)), if_pos (show ((893 : Int32) < x) from own_gt (by show ((893 : Int) < x.toInt); omega)), f1_86, if_neg (show ¬ (x < (895 : Int32)) from own_ltN (by show ¬ (x.toInt < (895 : Int)); omega)), if_pos (show ((8191 : Int32) < x) from own_gt (by show ((8191 : Int) < x.toInt); omega)), f1_100, if_neg (show ¬ (x < (8204 : Int32)) from own_ltN (by show ¬ (x.toInt < (8204 : Int)); omega)), if_neg (show ¬ ((8205 : Int32) < x) from own_gtN (by show ¬ ((8205 : Int) < x.toInt); omega)), f2_0, if_neg (show ¬ (x < (65 : Int32)) from own_ltN (by show ¬ (x.toInt < (65 : Int)); omega)), if_pos (show ((90 : Int32) < x) from own_gt (by show ((90 : Int) < x.toInt); omega)), if_neg (show ¬ (x < (97 : Int32)) from own_ltN (by show ¬ (x.toInt < (97 : Int)); omega)), if_pos (show ((122 : Int32) < x) from own_gt (by show ((122 : Int) < x.toInt); omega)), if_neg (show ¬ (x < (192 : Int32)) from own_ltN (by show ¬ (x.toInt < (192 : Int)); omega)), if_pos (show ((767 : Int32) < x) from own_gt (by show ((767 : Int) < x.toInt); omega)), if_neg (show ¬ (x < (880 : Int32)) from own_ltN (by show ¬ (x.toInt < (880 : Int)); omega)), if_pos (show ((8191 : Int32) < x) from own_gt (by show ((8191 : Int) < x.toInt); omega)), if_pos (show (x < (8304 : Int32)) from own_lt (by show (x.toInt < (8304 : Int)); omega)), if_pos (show (x = (8204 : Int32)) from own_eq (by show (x.toInt = (8204 : Int)); omega))]
theorem own_same_18 (x : Int32) (hl : 8205 ≤ x.toInt) (hh : x.toInt ≤ 8205) : f1_0 x = f2_0 x := by
  rw [f1_0, if_neg (show ¬ (x < (65 : Int32)) from own_ltN (by show ¬ (x.toInt < (65 : Int)); omega)), if_pos (show ((90 : Int32) < x) from own_gt (by show ((90 : Int) < x.toInt); omega)), f1_12, if_neg (show ¬ (x = (95 : Int32)) from own_eqN (by show ¬ (x.toInt = (95 : Int)); omega)), if_neg (show ¬ (x < (97 : Int32)) from own_ltN (by show ¬ (x.toInt < (97 : Int)); omega)), if_pos (show ((122 : Int32) < x) from own_gt (by show ((122 : Int) < x.toInt); omega)), f1_30, if_neg (show ¬ (x < (192 : Int32)) from own_ltN (by show ¬ (x.toInt < (192 : Int)); omega)), if_pos (show ((214 : Int32) < x) from own_gt (by show ((214 : Int) < x.toInt); omega)), f1_44, if_neg (show ¬ (x < (216 : Int32)) from own_ltN (by show ¬ (x.toInt < (216 : Int)); omega)), if_pos (show ((246 : Int32) < x) from own_gt (by show ((246 : Int) < x.toInt); omega)), f1_58, if_neg (show ¬ (x < (248 : Int32)) from own_ltN (by show ¬ (x.toInt < (248 : Int)); omega)), if_pos (show ((767 : Int32) < x) from own_gt (by show ((767 : Int) < x.toInt); omega)), f1_72, if_neg (show ¬ (x < (880 : Int32)) from own_ltN (by show ¬ (x.toInt < (880 : Int)); omega)), if_pos (show ((893 : Int32) < x) from own_gt (by show ((893 : Int) < x.toInt); omega)), f1_86, if_neg (show ¬ (x < (895 : Int32)) from own_ltN (by show ¬ (x.toInt < (895 : Int)); omega)), if_pos (show ((8191 : Int32) < x) from own_gt (by show ((8191 : Int) < x.toInt); omega)), f1_100, if_neg (show ¬ (x < (8204 : Int32)) from own_ltN (by show ¬ (x.toInt < (8204 : Int)); omega)), if_neg (show ¬ ((8205 : Int32) < x) from own_gtN (by show ¬ ((8205 : Int) < x.toInt); omega)), f2_0, if_neg (show ¬ (x < (65 : Int32)) from own_ltN (by show ¬ (x.toInt < (65 : Int)); omega)), if_pos (show ((90 : Int32) < x) from own_gt (by show ((90 : Int) < x.toInt); omega)), if_neg (show ¬ (x < (97 : Int32)) from own_ltN (by show ¬ (x.toInt < (97 : Int)); omega)), if_pos (show ((122 : Int32) < x) from own_gt (by show ((122 : Int) < x.toInt); omega)), if_neg (show ¬ (x < (192 : Int32)) from own_ltN (by show ¬ (x.toInt < (192 : Int)); omega)), if_pos (show ((767 : Int32) < x) from own_gt (by show ((767 : Int) < x.toInt); omega)), if_neg (show ¬ (x < (880 : Int32)) from own_ltN (by show ¬ (x.toInt < (880 : Int)); omega)), if_pos (show ((8191 : Int32) < x) from own_gt (by show ((8191 : Int) < x.toInt); omega)), if_pos (show (x < (8304 : Int32)) from own_lt (by show (x.toInt < (8304 : Int)); omega)), if_neg (show ¬ (x = (8204 : Int32)) from own_eqN (by show ¬ (x.toInt = (8204 : Int)); omega)), if_pos (show (x = (8205 : Int32)) from own_eq (by show (x.toInt = (8205 : Int)); omega))]
theorem own_same_19 (x : Int32) (hl : 8206 ≤ x.toInt) (hh : x.toInt ≤ 8303) : f1_0 x = f2_0 x := by
  rw [f1_0, if_neg (show ¬ (x < (65 : Int32)) from own_ltN (by show ¬ (x.toInt < (65 : Int)); omega)), if_pos (show ((90 : Int32) < x) from own_gt (by show ((90 : Int) < x.toInt); omega)), f1_12, if_neg (show ¬ (x = (95 : Int32)) from own_eqN (by show ¬ (x.toInt = (95 : Int)); omega)), if_neg (show ¬ (x < (97 : Int32)) from own_ltN (by show ¬ (x.toInt < (97 : Int)); omega)), if_pos (show ((122 : Int32) < x) from own_gt (by show ((122 : Int) < x.toInt); omega)), f1_30, if_neg (show ¬ (x < (192 : Int32)) from own_ltN (by show ¬ (x.toInt < (192 : Int)); omega)), if_pos (show ((214 : Int32) < x) from own_gt (by show ((214 : Int) < x.toInt); omega)), f1_44, if_neg (show ¬ (x < (216 : Int32)) from own_ltN (by show ¬ (x.toInt < (216 : Int)); omega)), if_pos (show ((246 : Int32) < x) from own_gt (by show ((246 : Int) < x.toInt); omega)), f1_58, if_neg (show ¬ (x < (248 : Int32)) from own_ltN (by show ¬ (x.toInt < (248 : Int)); omega)), if_pos (show ((767 : Int32) < x) from own_gt (by show ((767 : Int) < x.toInt); omega)), f1_72, if_neg (show ¬ (x < (880 : Int32)) from own_ltN (by show ¬ (x.toInt < (880 : Int)); omega)), if_pos (show ((893 : Int32) < x) from own_gt (by show ((893 : Int) < x.toInt); omega)), f1_86, if_neg (show ¬ (x < (895 : Int32)) from own_ltN (by show ¬ (x.toInt < (895 : Int)); omega)), if_pos (show ((8191 : Int32) < x) from own_gt (by show ((8191 : Int) < x.toInt); omega)), f1_100, if_neg (show ¬ (x < (8204 : Int32)) from own_ltN (by show ¬ (x.toInt < (8204 : Int)); omega)), if_pos (show ((8205 : Int32) < x) from own_gt (by show ((8205 : Int) < x.toInt); omega)), f1_114, if_pos (show (x < (8304 : Int32)) from own_lt (by show (x.toInt < (8304 : Int)); omega)), f1_128, if_pos (show (x < (11264 : Int32)) from own_lt (by show (x.toInt < (11264 : Int)); omega)), f1_142, if_pos (show (x < (12289 : Int32)) from own_lt (by show (x.toInt < (12289 : Int)); omega)), f1_155, if_pos (show (x < (63744 : Int32)) from own_lt (by show (x.toInt < (63744 : Int)); omega)), f1_167, if_pos (show (x < (65008 : Int32)) from own_lt (by show (x.toInt < (65008 : Int)); omega)), f1_179, if_pos (show (x < (65536 : Int32)) from own_lt (by show (x.toInt < (65536 : Int)); omega)), f2_0, if_neg (show ¬ (x < (65 : Int32)) from own_ltN (by show ¬ (x.toInt < (65 : Int)); omega)), if_pos (show ((90 : Int32) < x) from own_gt (by show ((90 : Int) < x.toInt); omega)), if_neg (show ¬ (x < (97 : Int32)) from own_ltN (by show ¬ (x.toInt < (97 : Int)); omega)), if_pos (show ((122 : Int32) < x) from own_gt (by show ((122 : Int) < x.toInt); omega)), if_neg (show ¬ (x < (192 : Int32)) from own_ltN (by show ¬ (x.toInt < (192 : Int)); omega)), if_pos (show ((767 : Int32) < x) from own_gt (by show ((767 : Int) < x.toInt); omega)), if_neg (show ¬ (x < (880 : Int32)) from own_ltN (by show ¬ (x.toInt < (880 : Int)); omega)), if_pos (show ((8191 : Int32) < x) from own_gt (by show ((8191 : Int) < x.toInt); omega)), if_pos (show (x < (8304 : Int32)) from own_lt (by show (x.toInt < (8304 : Int)); omega)), if_neg (show ¬ (x = (8204 : Int32)) from own_eqN (by show ¬ (x.toInt = (8204 : Int)); omega)), if_neg (show ¬ (x = (8205 : Int32)) from own_eqN (by show ¬ (x.toInt = (8205 : Int)); omega))]
theorem own_same_20 (x : Int32) (hl : 8304 ≤ x.toInt) (hh : x.toInt ≤ 8591) : f1_0 x = f2_0 x := by
  rw [f1_0, if_neg (show ¬ (x < (65 : Int32)) from own_ltN (by show ¬ (x.toInt < (65 : Int)); omega)), if_pos (show ((90 : Int32) < x) from own_gt (by show ((90 : Int) < x.toInt); omega)), f1_12, if_neg (show ¬ (x = (95 : Int32)) from own_eqN (by show ¬ (x.toInt = (95 : Int)); omega)), if_neg (show ¬ (x < (97 : Int32)) from own_ltN (by show ¬ (x.toInt < (97 : Int)); omega)), if_pos (show ((122 : Int32) < x) from own_gt (by show ((122 : Int) < x.toInt); omega)), f1_30, if_neg (show ¬ (x < (192 : Int32)) from own_ltN (by show ¬ (x.toInt < (192 : Int)); omega)), if_pos (show ((214 : Int32) < x) from own_gt (by show ((214 : Int) < x.toInt); omega)), f1_44, if_neg (show ¬ (x < (216 : Int32)) from own_ltN (by show ¬ (x.toInt < (216 : Int)); omega)), if_pos (show ((246 : Int32) < x) from own_gt (by show ((246 : Int) < x.toInt); omega)), f1_58, if_neg (show ¬ (x < (248 : Int32)) from own_ltN (by show ¬ (x.toInt < (248 : Int)); omega)), if_pos (show ((767 : Int32) < x) from own_gt (by show ((767 : Int) < x.toInt); omega)), f1_72, if_neg (show ¬ (x < (880 : Int32)) from own_ltN (by show ¬ (x.toInt < (880 : Int)); omega)), if_pos (show ((893 : Int32) < x) from own_gt (by show ((893 : Int) < x.toInt); omega)), f1_86, if_neg (show ¬ (x < (895 : Int32)) from own_ltN (by show ¬ (x.toInt < (895 : Int)); omega)), if_pos (show ((8191 : Int32) < x) from own_gt (by show ((8191 : Int) < x.toInt); omega)), f1_100, if_neg (show ¬ (x < (8204 : Int32)) from own_ltN (by show ¬ (x.toInt < (8204 : Int)); omega)), if_pos (show ((8205 : Int32) < x) from own_gt (by show ((8205 : Int) < x.toInt); omega)), f1_114, if_neg (show ¬ (x < (8304 : Int32)) from own_ltN (by show ¬ (x.toInt < (8304 : Int)); omega)), if_neg (show ¬ ((8591 : Int32) < x) from own_gtN (by show ¬ ((8591 : Int) < x.toInt); omega)), f2_0, if_neg (show ¬ (x < (65 : Int32)) from own_ltN (by show ¬ (x.toInt < (65 : Int)); omega)), if_pos (show ((90 : Int32) < x) from own_gt (by show ((90 : Int) < x.toInt); omega)), if_neg (show ¬ (x < (97 : Int32)) from own_ltN (by show ¬ (x.toInt < (97 : Int)); omega)), if_pos (show ((122 : Int32) < x) from own_gt (by show ((122 : Int) < x.toInt); omega)), if_neg (show ¬ (x < (192 : Int32)) from own_ltN (by show ¬ (x.toInt < (192 : Int)); omega)), if_pos (show ((767 : Int32) < x) from own_gt (by show ((767 : Int) < x.toInt); omega)), if_neg (show ¬ (x < (880 : Int32)) from own_ltN (by show ¬ (x.toInt < (880 : Int)); omega)), if_pos (show ((8191 : Int32) < x) from own_gt (by show ((8191 : Int) < x.toInt); omega)), if_neg (show ¬ (x < (8304 : Int32)) from own_ltN (by show ¬ (x.toInt < (8304 : Int)); omega)), if_neg (show ¬ ((8591 : Int32) < x) from own_gtN (by show ¬ ((8591 : Int) < x.toInt); omega))]
theorem own_same_21 (x : Int32) (hl : 8592 ≤ x.toInt) (hh : x.toInt ≤ 11263) : f1_0 x = f2_0 x := by
  rw [f1_0, if_neg (show ¬ (x < (65 : Int32)) from own_ltN (by show ¬ (x.toInt < (65 : Int)); omega)), if_pos (show ((90 : Int32) < x) from own_gt (by show ((90 : Int) < x.toInt); omega)), f1_12, if_neg (show ¬ (x = (95 : Int32)) from own_eqN (by show ¬ (x.toInt = (95 : Int)); omega)), if_neg (show ¬ (x < (97 : Int32)) from own_ltN (by show ¬ (x.toInt < (97 : Int)); omega)), if_pos (show ((122 : Int32) < x) from own_gt (by show ((122 : Int) < x.toInt); omega)), f1_30, if_neg (show ¬ (x < (192 : Int32)) from own_ltN (by show ¬ (x.toInt < (192 : Int)); omega)), if_pos (show ((214 : Int32) < x) from own_gt (by show ((214 : Int) < x.toInt); omega)), f1_44, if_neg (show ¬ (x < (216 : Int32)) from own_ltN (by show ¬ (x.toInt < (216 : Int)); omega)), if_pos (show ((246 : Int32) < x) from own_gt (by show ((246 : Int) < x.toInt); omega)), f1_58, if_neg (show ¬ (x < (248 : Int32)) from own_ltN (by show ¬ (x.toInt < (248 : Int)); omega)), if_pos (show ((767 : Int32) < x) from own_gt (by show ((767 : Int) < x.toInt); omega)), f1_72, if_neg (show ¬ (x < (880 : Int32)) from own_ltN (by show ¬ (x.toInt < (880 : Int)); omega)), if_pos (show ((893 : Int32) < x) from own_gt (by show ((893 : Int) < x.toInt); omega)), f1_86, if_neg (show ¬ (x < (895 : Int32)) from own_ltN (by show ¬ (x.toInt < (895 : Int)); omega)), if_pos (show ((8191 : Int32) < x) from own_gt (by show ((8191 : Int) < x.toInt); omega)), f1_100, if_neg (show ¬ (x < (8204 : Int32)) from own_ltN (by show ¬ (x.toInt < (8204 : Int)); omega)), if_pos (show ((8205 : Int32) < x) from own_gt (by show ((8205 : Int) < x.toInt); omega)), f1_114, if_neg (show ¬ (x < (8304 : Int32)) from own_ltN (by show ¬ (x.toInt < (8304 : Int)); omega)), if_pos (show ((8591 : Int32) < x) from own_gt (by show ((8591 : Int) < x.toInt); omega)), f1_128, if_pos (show (x < (11264 : Int32)) from own_lt (by show (x.toInt < (11264 : Int)); omega)), f1_142, if_pos (show (x < (12289 : Int32)) from own_lt (by show (x.toInt < (12289 : Int)); omega)), f1_155, if_pos (show (x < (63744 : Int32)) from own_lt (by show (x.toInt < (63744 : Int)); omega)), f1_167, if_pos (show (x < (65008 : Int32)) from own_lt (by show (x.toInt < (65008 : Int)); omega)), f1_179, if_pos (show (x < (65536 : Int32)) from own_lt (by show (x.toInt < (65536 : Int)); omega)), f2_0, if_neg (show ¬ (x < (65 : Int32)) from own_ltN (by show ¬ (x.toInt < (65 : Int)); omega)), if_pos (show ((90 : Int32) < x) from own_gt (by show ((90 : Int) < x.toInt); omega)), if_neg (show ¬ (x < (97 : Int32)) from own_ltN (by show ¬ (x.toInt < (97 : Int)); omega)), if_pos (show ((122 : Int32) < x) from own_gt (by show ((122 : Int) < x.toInt); omega)), if_neg (show ¬ (x < (192 : Int32)) from own_ltN (by show ¬ (x.toInt < (192 : Int)); omega)), if_pos (show ((767 : Int32) < x) from own_gt (by show ((767 : Int) < x.toInt); omega)), if_neg (show ¬ (x < (880 : Int32)) from own_ltN (by show ¬ (x.toInt < (880 : Int)); omega)), if_pos (show ((8191 : Int32) < x) from own_gt (by show ((8191 : Int) < x.toInt); omega)), if_neg (show ¬ (x < (8304 : Int32)) from own_ltN (by show ¬ (x.toInt < (8304 : Int)); omega)), if_pos (show ((8591 : Int32) < x) from own_gt (by show ((8591 : Int) < x.toInt); omega)), if_pos (show (x < (11264 : Int32)) from own_lt (by show (x.toInt < (11264 : Int)); omega))]
theorem own_same_22 (x : Int32) (hl : 11264 ≤ x.toInt) (hh : x.toInt ≤ 12271) : f1_0 x = f2_0 x := by
  rw [f1_0, if_neg (show ¬ (x < (65 : Int32)) from own_ltN (by show ¬ (x.toInt < (65 : Int)); omega)), if_pos (show ((90 : Int32) < x) from own_gt (by show ((90 : Int) < x.toInt); omega)), f1_12, if_neg (show ¬ (x = (95 : Int32)) from own_eqN (by show ¬ (x.toInt = (95 : Int)); omega)), if_neg (show ¬ (x < (97 : Int32)) from own_ltN (by show ¬ (x.toInt < (97 : Int)); omega)), if_pos (show ((122 : Int32) < x) from own_gt (by show ((122 : Int) < x.toInt); omega)), f1_30, if_neg (show ¬ (x < (192 : Int32)) from own_ltN (by show ¬ (x.toInt < (192 : Int)); omega)), if_pos (show ((214 : Int32) < x) from own_gt (by show ((214 : Int) < x.toInt); omega)), f1_44, if_neg (show ¬ (x < (216 : Int32)) from own_ltN (by show ¬ (x.toInt < (216 : Int)); omega)), if_pos (show ((246 : Int32) < x) from own_gt (by show ((246 : Int) < x.toInt); omega)), f1_58, if_neg (show ¬ (x < (248 : Int32)) from own_ltN (by show ¬ (x.toInt < (248 : Int)); omega)), if_pos (show ((767 : Int32) < x) from own_gt (by show ((767 : Int) < x.toInt); omega)), f1_72, if_neg (show ¬ (x < (880 : Int32)) from own_ltN (by show ¬ (x.toInt < (880 : Int)); omega)), if_pos (show ((893 : Int32) < x) from own_gt (by show ((893 : Int) < x.toInt); omega)), f1_86, if_neg (show ¬ (x < (895 : Int32)) from own_ltN (by show ¬ (x.toInt < (895 : Int)); omega)), if_pos (show ((8191 : Int32) < x) from own_gt (by show ((8191 : Int) < x.toInt); omega)), f1_100, if_neg (show ¬ (x < (8204 : Int32)) from own_ltN (by show ¬ (x.toInt < (8204 : Int)); omega)), if_pos (show ((8205 : Int32) < x) from own_gt (by show ((8205 : Int) < x.toInt); omega)), f1_114, if_neg (show ¬ (x < (8304 : Int32)) from own_ltN (by show ¬ (x.toInt < (8304 : Int)); omega)), if_pos (show ((8591 : Int32) < x) from own_gt (by show ((8591 : Int) < x.toInt); omega)), f1_128, if_neg (show ¬ (x < (11264 : Int32)) from own_ltN (by show ¬ (x.toInt < (11264 : Int)); omega)), if_neg (show ¬ ((12271 : Int32) < x) from own_gtN (by show ¬ ((12271 : Int) < x.toInt); omega)), f2_0, if_neg (show ¬ (x < (65 : Int32)) from own_ltN (by show ¬ (x.toInt < (65 : Int)); omega)), if_pos (show ((90 : Int32) < x) from own_gt (by show ((90 : Int) < x.toInt); omega)), if_neg (show ¬ (x < (97 : Int32)) from own_ltN (by show ¬ (x.toInt < (97 : Int)); omega)), if_pos (show ((122 : Int32) < x) from own_gt (by show ((122 : Int) < x.toInt); omega)), if_neg (show ¬ (x < (192 : Int32)) from own_ltN (by show ¬ (x.toInt < (192 : Int)); omega)), if_pos (show ((767 : Int32) < x) from own_gt (by show ((767 : Int) < x.toInt); omega)), if_neg (show ¬ (x < (880 : Int32)) from own_ltN (by show ¬ (x.toInt < (880 : Int)); omega)), if_pos (show ((8191 : Int32) < x) from own_gt (by show ((8191 : Int) < x.toInt); omega)), if_neg (show ¬ (x < (8304 : Int32)) from own_ltN (by show ¬ (x.toInt < (8304 : Int)); omega)), if_pos (show ((8591 : Int32) < x) from own_gt (by show ((8591 : Int) < x.toInt); omega)), if_neg (show ¬ (x < (11264 : Int32)) from own_ltN (by show ¬ (x.toInt < (11264 : Int)); omega)), if_neg (show ¬ ((12271 : Int32) < x) from own_gtN (by show ¬ ((12271 : Int) < x.toInt); omega))]
theorem own_same_23 (x : Int32) (hl : 12272 ≤ x.toInt) (hh : x.toInt ≤ 12288) : f1_0 x = f2_0 x := by
  rw [f1_0, if_neg (show ¬ (x < (65 : Int32)) from own_ltN (by show ¬ (x.toInt < (65 : Int)); omega)), if_pos (show ((90 : Int32) < x) from own_gt (by show ((90 : Int) < x.toInt); omega)), f1_12, if_neg (show ¬ (x = (95 : Int32)) from own_eqN (by show ¬ (x.toInt = (95 : Int)); omega)), if_neg (show ¬ (x < (97 : Int32)) from own_ltN (by show ¬ (x.toInt < (97 : Int)); omega)), if_pos (show ((122 : Int32) < x) from own_gt (by show ((122 : Int) < x.toInt); omega)), f1_30, if_neg (show ¬ (x < (192 : Int32)) from own_ltN (by show ¬ (x.toInt < (192 : Int)); omega)), if_pos (show ((214 : Int32) < x) from own_gt (by show ((214 : Int) < x.toInt); omega)), f1_44, if_neg (show ¬ (x < (216 : Int32)) from own_ltN (by show ¬ (x.toInt < (216 : Int)); omega)), if_pos (show ((246 : Int32) < x) from own_gt (by show ((246 : Int) < x.toInt); omega)), f1_58, if_neg (show ¬ (x < (248 : Int32)) from own_ltN (by show ¬ (x.toInt < (248 : Int)); omega)), if_pos (show ((767 : Int32) < x) from own_gt (by show ((767 : Int) < x.toInt); omega)), f1_72, if_neg (show ¬ (x < (880 : Int32)) from own_ltN (by show ¬ (x.toInt < (880 : Int)); omega)), if_pos (show ((893 : Int32) < x) from own_gt (by show ((893 : Int) < x.toInt); omega)), f1_86, if_neg (show ¬ (x < (895 : Int32)) from own_ltN (by show ¬ (x.toInt < (895 : Int)); omega)), if_pos (show ((8191 : Int32) < x) from own_gt (by show ((8191 : Int) < x.toInt); omega)), f1_100, if_neg (show ¬ (x < (8204 : Int32)) from own_ltN (by show ¬ (x.toInt < (8204 : Int)); omega)), if_pos (show ((8205 : Int32) < x) from own_gt (by show ((8205 : Int) < x.toInt); omega)), f1_114, if_neg (show ¬ (x < (8304 : Int32)) from own_ltN (by show ¬ (x.toInt < (8304 : Int)); omega)), if_pos (show ((8591 : Int32) < x) from own_gt (by show ((8591 : Int) < x.toInt); omega)), f1_128, if_neg (show ¬ (x < (11264 : Int32)) from own_ltN (by show ¬ (x.toInt < (11264 : Int)); omega)), if_pos (show ((12271 : Int32) < x) from own_gt (by show ((12271 : Int) < x.toInt); omega)), f1_142, if_pos (show (x < (12289 : Int32)) from own_lt (by show (x.toInt < (12289 : Int)); omega)), f1_155, if_pos (show (x < (63744 : Int32)) from own_lt (by show (x.toInt < (63744 : Int)); omega)), f1_167, if_pos (show (x < (65008 : Int32)) from own_lt (by show (x.toInt < (65008 : Int)); omega)), f1_179, if_pos (show (x < (65536 : Int32)) from own_lt (by show (x.toInt < (65536 : Int)); omega)), f2_0, if_neg (show ¬ (x < (65 : Int32)) from own_ltN (by show ¬ (x.toInt < (65 : Int)); omega)), if_pos (show ((90 : Int32) < x) from own_gt (by show ((90 : Int) < x.toInt); omega)), if_neg (show ¬ (x < (97 : Int32)) from own_ltN (by show ¬ (x.toInt < (97 : Int)); omega)), if_pos (show ((122 : Int32) < x) from own_gt (by show ((122 : Int) < x.toInt); omega)), if_neg (show ¬ (x < (192 : Int32)) from own_ltN (by show ¬ (x.toInt < (192 : Int)); omega)), if_pos (show ((767 : Int32) < x) from own_gt (by show ((767 : Int) < x.toInt); omega)), if_neg (show ¬ (x < (880 : Int32)) from own_ltN (by show ¬ (x.toInt < (880 : Int)); omega)), if_pos (show ((8191 : Int32) < x) from own_gt (by show ((8191 : Int) < x.toInt); omega)), if_neg (show ¬ (x < (8304 : Int32)) from own_ltN (by show ¬ (x.toInt < (8304 : Int)); omega)), if_pos (show ((8591 : Int32) < x) from own_gt (by show ((8591 : Int) < x.toInt); omega)), if_neg (show ¬ (x < (11264 : Int32)) from own_ltN (by show ¬ (x.toInt < (11264 : Int)); omega)), if_pos (show ((12271 : Int32) < x) from own_gt (by show ((12271 : Int) < x.toInt); omega)), if_neg (show ¬ ((12288 : Int32) < x) from own_gtN (by show ¬ ((12288 : Int) < x.toInt); omega))]
theorem own_same_24 (x : Int32) (hl : 12289 ≤ x.toInt) (hh : x.toInt ≤ 55295) : f1_0 x = f2_0 x := by
  rw [f1_0, if_neg (show ¬ (x < (65 : Int32)) from own_ltN (by show ¬ (x.toInt < (65 : Int)); omega)), if_pos (show ((90 : Int32) < x) from own_gt (by show ((90 : Int) < x.toInt); omega)), f1_12, if_neg (show ¬ (x = (95 : Int32)) from own_eqN (by show ¬ (x.toInt = (95 : Int)); omega)), if_neg (show ¬ (x < (97 : Int32)) from own_ltN (by show ¬ (x.toInt < (97 : Int)); omega)), if_pos (show ((122 : Int32) < x) from own_gt (by show ((122 : Int) < x.toInt); omega)), f1_30, if_neg (show ¬ (x < (192 : Int32)) from own_ltN (by show ¬ (x.toInt < (192 : Int)); omega)), if_pos (show ((214 : Int32) < x) from own_gt (by show ((214 : Int) < x.toInt); omega)), f1_44, if_neg (show ¬ (x < (216 : Int32)) from own_ltN (by show ¬ (x.toInt < (216 : Int)); omega)), if_pos (show ((246 : Int32) < x) from own_gt (by show ((246 : Int) < x.toInt); omega)), f1_58, if_neg (show ¬ (x < (248 : Int32)) from own_ltN (by show ¬ (x.toInt < (248 : Int)); omega)), if_pos (show ((767 : Int32) < x) from own_gt (by show ((767 : Int) < x.toInt); omega)), f1_72, if_neg (show ¬ (x < (880 : Int32)) from own_ltN (by show ¬ (x.toInt < (880 : Int)); omega)), if_pos (show ((893 : Int32) < x) from own_gt (by show ((893 : Int) < x.toInt); omega)), f1_86, if_neg (show ¬ (x < (895 : Int32)) from own_ltN (by show ¬ (x.toInt < (895 : Int)); omega)), if_pos (show ((8191 : Int32) < x) from own_gt (by show ((8191 : Int) < x.toInt); omega)), f1_100, if_neg (show ¬ (x < (8204 : Int32)) from own_ltN (by show ¬ (x.toInt < (8204 : Int)); omega)), if_pos (show ((8205 : Int32) < x) from own_gt (by show ((8205 : Int) < x.toInt); omega)), f1_114, if_neg (show ¬ (x < (8304 : Int32)) from own_ltN (by show ¬ (x.toInt < (8304 : Int)); omega)), if_pos (show ((8591 : Int32) < x) from own_gt (by show ((8591 : Int) < x.toInt); omega)), f1_128, if_neg (show ¬ (x < (11264 : Int32)) from own_ltN (by show ¬ (x.toInt < (11264 : Int)); omega)), if_pos (show ((12271 : Int32) < x) from own_gt (by show ((12271 : Int) < x.toInt); omega)), f1_142, if_neg (show ¬ (x < (12289 : Int32)) from own_ltN (by show ¬ (x.toInt < (12289 : Int)); omega)), if_neg (show ¬ ((55295 : Int32) < x) from own_gtN (by show ¬ ((55295 : Int) < x.toInt); omega)), f2_0, if_neg (show ¬ (x < (65 : Int32)) from own_ltN (by show ¬ (x.toInt < (65 : Int)); omega)), if_pos (show ((90 : Int32) < x) from own_gt (by show ((90 : Int) < x.toInt); omega)), if_neg (show ¬ (x < (97 : Int32)) from own_ltN (by show ¬ (x.toInt < (97 : Int)); omega)), if_pos (show ((122 : Int32) < x) from own_gt (by show ((122 : Int) < x.toInt); omega)), if_neg (show ¬ (x < (192 : Int32)) from own_ltN (by show ¬ (x.toInt < (192 : Int)); omega)), if_pos (show ((767 : Int32) < x) from own_gt (by show ((767 : Int) < x.toInt); omega)), if_neg (show ¬ (x < (880 : Int32)) from own_ltN (by show ¬ (x.toInt < (880 : Int)); omega)), if_pos (show ((8191 : Int32) < x) from own_gt (by show ((8191 : Int) < x.toInt); omega)), if_neg (show ¬ (x < (8304 : Int32)) from own_ltN (by show ¬ (x.toInt < (8304 : Int)); omega)), if_pos (show ((8591 : Int32) < x) from own_gt (by show ((8591 : Int) < x.toInt); omega)), if_neg (show ¬ (x < (11264 : Int32)) from own_ltN (by show ¬ (x.toInt < (11264 : Int)); omega)), if_pos (show ((12271 : Int32) < x) from own_gt (by show ((12271 : Int) < x.toInt); omega)), if_pos (show ((12288 : Int32) < x) from own_gt (by show ((12288 : Int) < x.toInt); omega)), if_neg (show ¬ ((55295 : Int32) < x) from own_gtN (by show ¬ ((55295 : Int) < x.toInt); omega))]
theorem own_same_25 (x : Int32) (hl : 55296 ≤ x.toInt) (hh : x.toInt ≤ 63743) : f1_0 x = f2_0 x := by
  rw [f1_0, if_neg (show ¬ (x < (65 : Int32)) from own_ltN (by show ¬ (x.toInt < (65 : Int)); omega)), if_pos (show ((90 : Int32) < x) from own_gt (by show ((90 : Int) < x.toInt); omega)), f1_12, if_neg (show ¬ (x = (95 : Int32)) from own_eqN (by show ¬ (x.toInt = (95 : Int)); omega)), if_neg (show ¬ (x < (97 : Int32)) from own_ltN (by show ¬ (x.toInt < (97 : Int)); omega)), if_pos (show ((122 : Int32) < x) from own_gt (by show ((122 : Int) < x.toInt); omega)), f1_30, if_neg (show ¬ (x < (192 : Int32)) from own_ltN (by show ¬ (x.toInt < (192 : Int)); omega)), if_pos (show ((214 : Int32) < x) from own_gt (by show ((214 : Int) < x.toInt); omega)), f1_44, if_neg (show ¬ (x < (216 : Int32)) from own_ltN (by show ¬ (x.toInt < (216 : Int)); omega)), if_pos (show ((246 : Int32) < x) from own_gt (by show ((246 : Int) < x.toInt); omega)), f1_58, if_neg (show ¬ (x < (248 : Int32)) from own_ltN (by show ¬ (x.toInt < (248 : Int)); omega)), if_pos (show ((767 : Int32) < x) from own_gt (by show ((767 : Int) < x.toInt); omega)), f1_72, if_neg (show ¬ (x < (880 : Int32)) from own_ltN (by show ¬ (x.toInt < (880 : Int)); omega)), if_pos (show ((893 : Int32) < x) from own_gt (by show ((893 : Int) < x.toInt); omega)), f1_86, if_neg (show ¬ (x < (895 : Int32)) from own_ltN (by show ¬ (x.toInt < (895 : Int)); omega)), if_pos (show ((8191 : Int32) < x) from own_gt (by show ((8191 : Int) < x.toInt); omega)), f1_100, if_neg (show ¬ (x < (8204 : Int32)) from own_ltN (by show ¬ (x.toInt < (8204 : Int)); omega)), if_pos (show ((8205 : Int32) < x) from own_gt (by show ((8205 : Int) < x.toInt); omega)), f1_114, if_neg (show ¬ (x < (8304 : Int32)) from own_ltN (by show ¬ (x.toInt < (8304 : Int)); omega)), if_pos (show ((8591 : Int32) < x) from own_gt (by show ((8591 : Int) < x.toInt); omega)), f1_128, if_neg (show ¬ (x < (11264 : Int32)) from own_ltN (by show ¬ (x.toInt < (11264 : Int)); omega)), if_pos (show ((12271 : Int32) < x) from own_gt (by show ((12271 : Int) < x.toInt); omega)), f1_142, if_neg (show ¬ (x < (12289 : Int32)) from own_ltN (by show ¬ (x.toInt < (12289 : Int)); omega)), if_pos (show ((55295 : Int32) < x) from own_gt (by show ((55295 : Int) < x.toInt); omega)), f1_155, if_pos (show (x < (63744 : Int32)) from own_lt (by show (x.toInt < (63744 : Int)); omega)), f1_167, if_pos (show (x < (65008 : Int32)) from own_lt (by show (x.toInt < (65008 : Int)); omega)), f1_179, if_pos (show (x < (65536 : Int32)) from own_lt (by show (x.toInt < (65536 : Int)); omega)), f2_0, if_neg (show ¬ (x < (65 : Int32)) from own_ltN (by show ¬ (x.toInt < (65 : Int)); omega)), if_pos (show ((90 : Int32) < x) from own_gt (by show ((90 : Int) < x.toInt); omega)), if_neg (show ¬ (x < (97 : Int32)) from own_ltN (by show ¬ (x.toInt < (97 : Int)); omega)), if_pos (show ((122 : Int32) < x) from own_gt (by show ((122 : Int) < x.toInt); omega)), if_neg (show ¬ (x < (192 : Int32)) from own_ltN (by show ¬ (x.toInt < (192 : Int)); omega)), if_pos (show ((767 : Int32) < x) from own_gt (by show ((767 : Int) < x.toInt); omega)), if_neg (show ¬ (x < (880 : Int32)) from own_ltN (by show ¬ (x.toInt < (880 : Int)); omega)), if_pos (show ((8191 : Int32) < x) from own_gt (by show ((8191 : Int) < x.toInt); omega)), if_neg (show ¬ (x < (8304 : Int32)) from own_ltN (by show ¬ (x.toInt < (8304 : Int)); omega)), if_pos (show ((8591 : Int32) < x) from own_gt (by show ((8591 : Int) < x.toInt); omega)), if_neg (show ¬ (x < (11264 : Int32)) from own_ltN (by show ¬ (x.toInt < (11264 : Int)); omega)), if_pos (show ((12271 : Int32) < x) from own_gt (by show ((12271 : Int) < x.toInt); omega)), if_pos (show ((12288 : Int32) < x) from own_gt (by show ((12288 : Int) < x.toInt); omega)), if_pos (show ((55295 : Int32) < x) from own_gt (by show ((55295 : Int) < x.toInt); omega)), if_pos (show (x < (63744 : Int32)) from own_lt (by show (x.toInt < (63744 : Int)); omega))]
theorem own_same_26 (x : Int32) (hl : 63744 ≤ x.toInt) (hh : x.toInt ≤ 64975) : f1_0 x = f2_0 x := by
  rw [f1_0, if_neg (show ¬ (x < (65 : Int32)) from own_ltN (by show ¬ (x.toInt < (65 : Int)); omega)), if_pos (show ((90 : Int32) < x) from own_gt (by show ((90 : Int) < x.toInt); omega)), f1_12, if_neg (show ¬ (x = (95 : Int32)) from own_eqN (by show ¬ (x.toInt = (95 : Int)); omega)), if_neg (show ¬ (x < (97 : Int32)) from own_ltN (by show ¬ (x.toInt < (97 : Int)); omega)), if_pos (show ((122 : Int32) < x) from own_gt (by show ((122 : Int) < x.toInt); omega)), f1_30, if_neg (show ¬ (x < (192 : Int32)) from own_ltN (by show ¬ (x.toInt < (192 : Int)); omega)), if_pos (show ((214 : Int32) < x) from own_gt (by show ((214 : Int) < x.toInt); omega)), f1_44, if_neg (show ¬ (x < (216 : Int32)) from own_ltN (by show ¬ (x.toInt < (216 : Int)); omega)), if_pos (show ((246 : Int32) < x) from own_gt (by show ((246 : Int) < x.toInt); omega)), f1_58, if_neg (show ¬ (x < (248 : Int32)) from own_ltN (by show ¬ (x.toInt < (248 : Int)); omega)), if_pos (show ((767 : Int32) < x) from own_gt (by show ((767 : Int) < x.toInt); omega)), f1_72, if_neg (show ¬ (x < (880 : Int32)) from own_ltN (by show ¬ (x.toInt < (880 : Int)); omega)), if_pos (show ((893 : Int32) < x) from own_gt (by show ((893 : Int) < x.toInt); omega)), f1_86, if_neg (show ¬ (x < (895 : Int32)) from own_ltN (by show ¬ (x.toInt < (895 : Int)); omega)), if_pos (show ((8191 : Int32) < x) from own_gt (by show ((8191 : Int) < x.toInt); omega)), f1_100, if_neg (show ¬ (x < (8204 : Int32)) from own_ltN (by show ¬ (x.toInt < (8204 : Int)); omega)), if_pos (show ((8205 : Int32) < x) from own_gt (by show ((8205 : Int) < x.toInt); omega)), f1_114, if_neg (show ¬ (x < (8304 : Int32)) from own_ltN (by show ¬ (x.toInt < (8304 : Int)); omega)), if_pos (show ((8591 : Int32) < x) from own_gt (by show ((8591 : Int) < x.toInt); omega)), f1_128, if_neg (show ¬ (x < (11264 : Int32)) from own_ltN (by show ¬ (x.toInt < (11264 : Int)); omega)), if_pos (show ((12271 : Int32) < x) from own_gt (by show ((12271 : Int) < x.toInt); omega)), f1_142, if_neg (show ¬ (x < (12289 : Int32)) from own_ltN (by show ¬ (x.toInt < (12289 : Int)); omega)), if_pos (show ((55295 : Int32) < x) from own_gt (by show ((55295 : Int) < x.toInt); omega)), f1_155, if_neg (show ¬ (x < (63744 : Int32)) from own_ltN (by show ¬ (x.toInt < (63744 : Int)); omega)), if_neg (show ¬ ((64975 : Int32) < x) from own_gtN (by show ¬ ((64975 : Int) < x.toInt); omega)), f2_0, if_neg (show ¬ (x < (65 : Int32)) from own_ltN (by show ¬ (x.toInt < (65 : Int)); omega)), if_pos (show ((90 : Int32) < x) from own_gt (by show ((90 : Int) < x.toInt); omega)), if_neg (show ¬ (x < (97 : Int32)) from own_ltN (by show ¬ (x.toInt < (97 : Int)); omega)), if_pos (show ((122 : Int32) < x) from own_gt (by show ((122 : Int) < x.toInt); omega)), if_neg (show ¬ (x < (192 : Int32)) from own_ltN (by show ¬ (x.toInt < (192 : Int)); omega)), if_pos (show ((767 : Int32) < x) from own_gt (by show ((767 : Int) < x.toInt); omega)), if_neg (show ¬ (x < (880 : Int32)) from own_ltN (by show ¬ (x.toInt < (880 : Int)); omega)), if_pos (show ((8191 : Int32) < x) from own_gt (by show ((8191 : Int) < x.toInt); omega)), if_neg (show ¬ (x < (8304 : Int32)) from own_ltN (by show ¬ (x.toInt < (8304 : Int)); omega)), if_pos (show ((8591 : Int32) < x) from own_gt (by show ((8591 : Int) < x.toInt); omega)), if_neg (show ¬ (x < (11264 : Int32)) from own_ltN (by show ¬ (x.toInt < (11264 : Int)); omega)), if_pos (show ((12271 : Int32) < x) from own_gt (by show ((12271 : Int) < x.toInt); omega)), if_pos (show ((12288 : Int32) < x) from own_gt (by show ((12288 : Int) < x.toInt); omega)), if_pos (show ((55295 : Int32) < x) from own_gt (by show ((55295 : Int) < x.toInt); omega)), if_neg (show ¬ (x < (63744 : Int32)) from own_ltN (by show ¬ (x.toInt < (63744 : Int)); omega)), if_neg (show ¬ ((65533 : Int32) < x) from own_gtN (by show ¬ ((65533 : Int) < x.toInt); omega)), if_pos (show (x < (64976 : Int32)) from own_lt (by show (x.toInt < (64976 : Int)); omega))]
theorem own_same_27 (x : Int32) (hl : 64976 ≤ x.toInt) (hh : x.toInt ≤ 65007) : f1_0 x = f2_0 x := by
  rw [f1_0, if_neg (show ¬ (x < (65 : Int32)) from own_ltN (by show ¬ (x.toInt < (65 : Int)); omega)), if_pos (show ((90 : Int32) < x) from own_gt (by show ((90 : Int) < x.toInt); omega)), f1_12, if_neg (show ¬ (x = (95 : Int32)) from own_eqN (by show ¬ (x.toInt = (95 : Int)); omega)), if_neg (show ¬ (x < (97 : Int32)) from own_ltN (by show ¬ (x.toInt < (97 : Int)); omega)), if_pos (show ((122 : Int32) < x) from own_gt (by show ((122 : Int) < x.toInt); omega)), f1_30, if_neg (show ¬ (x < (192 : Int32)) from own_ltN (by show ¬ (x.toInt < (192 : Int)); omega)), if_pos (show ((214 : Int32) < x) from own_gt (by show ((214 : Int) < x.toInt); omega)), f1_44, if_neg (show ¬ (x < (216 : Int32)) from own_ltN (by show ¬ (x.toInt < (216 : Int)); omega)), if_pos (show ((246 : Int32) < x) from own_gt (by show ((246 : Int) < x.toInt); omega)), f1_58, if_neg (show ¬ (x < (248 : Int32)) from own_ltN (by show ¬ (x.toInt < (248 : Int)); omega)), if_pos (show ((767 : Int32) < x) from own_gt (by show ((767 : Int) < x.toInt); omega)), f1_72, if_neg (show ¬ (x < (880 : Int32)) from own_ltN (by show ¬ (x.toInt < (880 : Int)); omega)), if_pos (show ((893 : Int32) < x) from own_gt (by show ((893 : Int) < x.toInt); omega)), f1_86, if_neg (show ¬ (x < (895 : Int32)) from own_ltN (by show ¬ (x.toInt < (895 : Int)); omega)), if_pos (show ((8191 : Int32) < x) from own_gt (by show ((8191 : Int) < x.toInt); omega)), f1_100, if_neg (show ¬ (x < (8204 : Int32)) from own_ltN (by show ¬ (x.toInt < (8204 : Int)); omega)), if_pos (show ((8205 : Int32) < x) from own_gt (by show ((8205 : Int) < x.toInt); omega)), f1_114, if_neg (show ¬ (x < (8304 : Int32)) from own_ltN (by show ¬ (x.toInt < (8304 : Int)); omega)), if_pos (show ((8591 : Int32) < x) from own_gt (by show ((8591 : Int) < x.toInt); omega)), f1_128, if_neg (show ¬ (x < (11264 : Int32)) from own_ltN (by show ¬ (x.toInt < (11264 : Int)); omega)), if_pos (show ((12271 : Int32) < x) from own_gt (by show ((12271 : Int) < x.toInt); omega)), f1_142, if_neg (show ¬ (x < (12289 : Int32)) from own_ltN (by show ¬ (x.toInt < (12289 : Int)); omega)), if_pos (show ((55295 : Int32) < x) from own_gt (by show ((55295 : Int) < x.toInt); omega)), f1_155, if_neg (show ¬ (x < (63744 : Int32)) from own_ltN (by show ¬ (x.toInt < (63744 : Int)); omega)), if_pos (show ((64975 : Int32) < x) from own_gt (by show ((64975 : Int) < x.toInt); omega)), f1_167, if_pos (show (x < (65008 : Int32)) from own_lt (by show (x.toInt < (65008 : Int)); omega)), f1_179, if_pos (show (x < (65536 : Int32)) from own_lt (by show (x.toInt < (65536 : Int)); omega)), f2_0, if_neg (show ¬ (x < (65 : Int32)) from own_ltN (by show ¬ (x.toInt < (65 : Int)); omega)), if_pos (show ((90 : Int32) < x) from own_gt (by show ((90 : Int) < x.toInt); omega)), if_neg (show ¬ (x < (97 : Int32)) from own_ltN (by show ¬ (x.toInt < (97 : Int)); omega)), if_pos (show ((122 : Int32) < x) from own_gt (by show ((122 : Int) < x.toInt); omega)), if_neg (show ¬ (x < (192 : Int32)) from own_ltN (by show ¬ (x.toInt < (192 : Int)); omega)), if_pos (show ((767 : Int32) < x) from own_gt (by show ((767 : Int) < x.toInt); omega)), if_neg (show ¬ (x < (880 : Int32)) from own_ltN (by show ¬ (x.toInt < (880 : Int)); omega)), if_pos (show ((8191 : Int32) < x) from own_gt (by show ((8191 : Int) < x.toInt); omega)), if_neg (show ¬ (x < (8304 : Int32)) from own_ltN (by show ¬ (x.toInt < (8304 : Int)); omega)), if_pos (show ((8591 : Int32) < x) from own_gt (by show ((8591 : Int) < x.toInt); omega)), if_neg (show ¬ (x < (11264 : Int32)) from own_ltN (by show ¬ (x.toInt < (11264 : Int)); omega)), if_pos (show ((12271 : Int32) < x) from own_gt (by show ((12271 : Int) < x.toInt); omega)), if_pos (show ((12288 : Int32) < x) from own_gt (by show ((12288 : Int) < x.toInt); omega)), if_pos (show ((55295 : Int32) < x) from own_gt (by show ((55295 : Int) < x.toInt); omega)), if_neg (show ¬ (x < (63744 : Int32)) from own_ltN (by show ¬ (x.toInt < (63744 : Int)); omega)), if_neg (show ¬ ((65533 : Int32) < x) from own_gtN (by show ¬ ((65533 : Int) < x.toInt); omega)), if_neg (show ¬ (x < (64976 : Int32)) from own_ltN (by show ¬ (x.toInt < (64976 : Int)); omega)), if_neg (show ¬ ((65007 : Int32) < x) from own_gtN (by show ¬ ((65007 : Int) < x.toInt); omega))]
theorem own_same_28 (x : Int32) (hl : 65008 ≤ x.toInt) (hh : x.toInt ≤ 65533) : f1_0 x = f2_0 x := by
  rw [f1_0, if_neg (show ¬ (x < (65 : Int32)) from own_ltN (by show ¬ (x.toInt < (65 : Int)); omega)), if_pos (show ((90 : Int32) < x) from own_gt (by show ((90 : Int) < x.toInt); omega)), f1_12, if_neg (show ¬ (x = (95 : Int32)) from own_eqN (by show ¬ (x.toInt = (95 : Int)); omega)), if_neg (show ¬ (x < (97 : Int32)) from own_ltN (by show ¬ (x.toInt < (97 : Int)); omega)), if_pos (show ((122 : Int32) < x) from own_gt (by show ((122 : Int) < x.toInt); omega)), f1_30, if_neg (show ¬ (x < (192 : Int32)) from own_ltN (by show ¬ (x.toInt < (192 : Int)); omega)), if_pos (show ((214 : Int32) < x) from own_gt (by show ((214 : Int) < x.toInt); omega)), f1_44, if_neg (show ¬ (x < (216 : Int32)) from own_ltN (by show ¬ (x.toInt < (216 : Int)); omega)), if_pos (show ((246 : Int32) < x) from own_gt (by show ((246 : Int) < x.toInt); omega)), f1_58, if_neg (show ¬ (x < (248 : Int32)) from own_ltN (by show ¬ (x.toInt < (248 : Int)); omega)), if_pos (show ((767 : Int32) < x) from own_gt (by show ((767 : Int) < x.toInt); omega)), f1_72, if_neg (show ¬ (x < (880 : Int32)) from own_ltN (by show ¬ (x.toInt < (880 : Int)); omega)), if_pos (show ((893 : Int32) < x) from own_gt (by show ((893 : Int) < x.toInt); omega)), f1_86, if_neg (show ¬ (x < (895 : Int32)) from own_ltN (by show ¬ (x.toInt < (895 : Int)); omega)), if_pos (show ((8191 : Int32) < x) from own_gt (by show ((8191 : Int) < x.toInt); omega)), f1_100, if_neg (show ¬ (x < (8204 : Int32)) from own_ltN (by show ¬ (x.toInt < (8204 : Int)); omega)), if_pos (show ((8205 : Int32) < x) from own_gt (by show ((8205 : Int) < x.toInt); omega)), f1_114, if_neg (show ¬ (x < (8304 : Int32)) from own_ltN (by show ¬ (x.toInt < (8304 : Int)); omega)), if_pos (show ((8591 : Int32) < x) from own_gt (by show ((8591 : Int) < x.toInt); omega)), f1_128, if_neg (show ¬ (x < (11264 : Int32)) from own_ltN (by show ¬ (x.toInt < (11264 : Int)); omega)), if_pos (show ((12271 : Int32) < x) from own_gt (by show ((12271 : Int) < x.toInt); omega)), f1_142, if_neg (show ¬ (x < (12289 : Int32)) from own_ltN (by show ¬ (x.toInt < (12289 : Int)); omega)), if_pos (show ((55295 : Int32) < x) from own_gt (by show ((55295 : Int) < x.toInt); omega)), f1_155, if_neg (show ¬ (x < (63744 : Int32)) from own_ltN (by show ¬ (x.toInt < (63744 : Int)); omega)), if_pos (show ((64975 : Int32) < x) from own_gt (by show ((64975 : Int) < x.toInt); omega)), f1_167, if_neg (show ¬ (x < (65008 : Int32)) from own_ltN (by show ¬ (x.toInt < (65008 : Int)); omega)), if_neg (show ¬ ((65533 : Int32) < x) from own_gtN (by show ¬ ((65533 : Int) < x.toInt); omega)), f2_0, if_neg (show ¬ (x < (65 : Int32)) from own_ltN (by show ¬ (x.toInt < (65 : Int)); omega)), if_pos (show ((90 : Int32) < x) from own_gt (by show ((90 : Int) < x.toInt); omega)), if_neg (show ¬ (x < (97 : Int32)) from own_ltN (by show ¬ (x.toInt < (97 : Int)); omega)), if_pos (show ((122 : Int32) < x) from own_gt (by show ((122 : Int) < x.toInt); omega)), if_neg (show ¬ (x < (192 : Int32)) from own_ltN (by show ¬ (x.toInt < (192 : Int)); omega)), if_pos (show ((767 : Int32) < x) from own_gt (by show ((767 : Int) < x.toInt); omega)), if_neg (show ¬ (x < (880 : Int32)) from own_ltN (by show ¬ (x.toInt < (880 : Int)); omega)), if_pos (show ((8191 : Int32) < x) from own_gt (by show ((8191 : Int) < x.toInt); omega)), if_neg (show ¬ (x < (8304 : Int32)) from own_ltN (by show ¬ (x.toInt < (8304 : Int)); omega)), if_pos (show ((8591 : Int32) < x) from own_gt (by show ((8591 : Int) < x.toInt); omega)), if_neg (show ¬ (x < (11264 : Int32)) from own_ltN (by show ¬ (x.toInt < (11264 : Int)); omega)), if_pos (show ((12271 : Int32) < x) from own_gt (by show ((12271 : Int) < x.toInt); omega)), if_pos (show ((12288 : Int32) < x) from own_gt (by show ((12288 : Int) < x.toInt); omega)), if_pos (show ((55295 : Int32) < x) from own_gt (by show ((55295 : Int) < x.toInt); omega)), if_neg (show ¬ (x < (63744 : Int32)) from own_ltN (by show ¬ (x.toInt < (63744 : Int)); omega)), if_neg (show ¬ ((65533 : Int32) < x) from own_gtN (by show ¬ ((65533 : Int) < x.toInt); omega)), if_neg (show ¬ (x < (64976 : Int32)) from own_ltN (by show ¬ (x.toInt < (64976 : Int)); omega)), if_pos (show ((65007 : Int32) < x) from own_gt (by show ((65007 : Int) < x.toInt); omega))]
theorem own_same_29 (x : Int32) (hl : 65534 ≤ x.toInt) (hh : x.toInt ≤ 65535) : f1_0 x = f2_0 x := by
  rw [f1_0, if_neg (show ¬ (x < (65 : Int32)) from own_ltN (by show ¬ (x.toInt < (65 : Int)); omega)), if_pos (show ((90 : Int32) < x) from own_gt (by show ((90 : Int) < x.toInt); omega)), f1_12, if_neg (show ¬ (x = (95 : Int32)) from own_eqN (by show ¬ (x.toInt = (95 : Int)); omega)), if_neg (show ¬ (x < (97 : Int32)) from own_ltN (by show ¬ (x.toInt < (97 : Int)); omega)), if_pos (show ((122 : Int32) < x) from own_gt (by show ((122 : Int) < x.toInt); omega)), f1_30, if_neg (show ¬ (x < (192 : Int32)) from own_ltN (by show ¬ (x.toInt < (192 : Int)); omega)), if_pos (show ((214 : Int32) < x) from own_gt (by show ((214 : Int) < x.toInt); omega)), f1_44, if_neg (show ¬ (x < (216 : Int32)) from own_ltN (by show ¬ (x.toInt < (216 : Int)); omega)), if_pos (show ((246 : Int32) < x) from own_gt (by show ((246 : Int) < x.toInt); omega)), f1_58, if_neg (show ¬ (x < (248 : Int32)) from own_ltN (by show ¬ (x.toInt < (248 : Int)); omega)), if_pos (show ((767 : Int32) < x) from own_gt (by show ((767 : Int) < x.toInt); omega)), f1_72, if_neg (show ¬ (x < (880 : Int32)) from own_ltN (by show ¬ (x.toInt < (880 : Int)); omega)), if_pos (show ((893 : Int32) < x) from own_gt (by show ((893 : Int) < x.toInt); omega)), f1_86, if_neg (show ¬ (x < (895 : Int32)) from own_ltN (by show ¬ (x.toInt < (895 : Int)); omega)), if_pos (show ((8191 : Int32) < x) from own_gt (by show ((8191 : Int) < x.toInt); omega)), f1_100, if_neg (show ¬ (x < (8204 : Int32)) from own_ltN (by show ¬ (x.toInt < (8204 : Int)); omega)), if_pos (show ((8205 : Int32) < x) from own_gt (by show ((8205 : Int) < x.toInt); omega)), f1_114, if_neg (show ¬ (x < (8304 : Int32)) from own_ltN (by show ¬ (x.toInt < (8304 : Int)); omega)), if_pos (show ((8591 : Int32) < x) from own_gt (by show ((8591 : Int) < x.toInt); omega)), f1_128, if_neg (show ¬ (x < (11264 : Int32)) from own_ltN (by show ¬ (x.toInt < (11264 : Int)); omega)), if_pos (show ((12271 : Int32) < x) from own_gt (by show ((12271 : Int) < x.toInt); omega)), f1_142, if_neg (show ¬ (x < (12289 : Int32)) from own_ltN (by show ¬ (x.toInt < (12289 : Int)); omega)), if_pos (show ((55295 : Int32) < x) from own_gt (by show ((55295 : Int) < x.toInt); omega)), f1_155, if_neg (show ¬ (x < (63744 : Int32)) from own_ltN (by show ¬ (x.toInt < (63744 : Int)); omega)), if_pos (show ((64975 : Int32) < x) from own_gt (by show ((64975 : Int) < x.toInt); omega)), f1_167, if_neg (show ¬ (x < (65008 : Int32)) from own_ltN (by show ¬ (x.toInt < (65008 : Int)); omega)), if_pos (show ((65533 : Int32) < x) from own_gt (by show ((65533 : Int) < x.toInt); omega)), f1_179, if_pos (show (x < (65536 : Int32)) from own_lt (by show (x.toInt < (65536 : Int)); omega)), f2_0, if_neg (show ¬ (x < (65 : Int32)) from own_ltN (by show ¬ (x.toInt < (65 : Int)); omega)), if_pos (show ((90 : Int32) < x) from own_gt (by show ((90 : Int) < x.toInt); omega)), if_neg (show ¬ (x < (97 : Int32)) from own_ltN (by show ¬ (x.toInt < (97 : Int)); omega)), if_pos (show ((122 : Int32) < x) from own_gt (by show ((122 : Int) < x.toInt); omega)), if_neg (show ¬ (x < (192 : Int32)) from own_ltN (by show ¬ (x.toInt < (192 : Int)); omega)), if_pos (show ((767 : Int32) < x) from own_gt (by show ((767 : Int) < x.toInt); omega)), if_neg (show ¬ (x < (880 : Int32)) from own_ltN (by show ¬ (x.toInt < (880 : Int)); omega)), if_pos (show ((8191 : Int32) < x) from own_gt (by show ((8191 : Int) < x.toInt); omega)), if_neg (show ¬ (x < (8304 : Int32)) from own_ltN (by show ¬ (x.toInt < (8304 : Int)); omega)), if_pos (show ((8591 : Int32) < x) from own_gt (by show ((8591 : Int) < x.toInt); omega)), if_neg (show ¬ (x < (11264 : Int32)) from own_ltN (by show ¬ (x.toInt < (11264 : Int)); omega)), if_pos (show ((12271 : Int32) < x) from own_gt (by show ((12271 : Int) < x.toInt); omega)), if_pos (show ((12288 : Int32) < x) from own_gt (by show ((12288 : Int) < x.toInt); omega)), if_pos (show ((55295 : Int32) < x) from own_gt (by show ((55295 : Int) < x.toInt); omega)), if_neg (show ¬ (x < (63744 : Int32)) from own_ltN (by show ¬ (x.toInt < (63744 : Int)); omega)), if_pos (show ((65533 : Int32) < x) from own_gt (by show ((65533 : Int) < x.toInt); omega)), if_pos (show (x < (65536 : Int32)) from own_lt (by show (x.toInt < (65536 : Int)); omega))]
theorem own_same_30 (x : Int32) (hl : 65536 ≤ x.toInt) (hh : x.toInt ≤ 983039) : f1_0 x = f2_0 x := by
  rw [f1_0, if_neg (show ¬ (x < (65 : Int32)) from own_ltN (by show ¬ (x.toInt < (65 : Int)); omega)), if_pos (show ((90 : Int32) < x) from own_gt (by show ((90 : Int) < x.toInt); omega)), f1_12, if_neg (show ¬ (x = (95 : Int32)) from own_eqN (by show ¬ (x.toInt = (95 : Int)); omega)), if_neg (show ¬ (x < (97 : Int32)) from own_ltN (by show ¬ (x.toInt < (97 : Int)); omega)), if_pos (show ((122 : Int32) < x) from own_gt (by show ((122 : Int) < x.toInt); omega)), f1_30, if_neg (show ¬ (x < (192 : Int32)) from own_ltN (by show ¬ (x.toInt < (192 : Int)); omega)), if_pos (show ((214 : Int32) < x) from own_gt (by show ((214 : Int) < x.toInt); omega)), f1_44, if_neg (show ¬ (x < (216 : Int32)) from own_ltN (by show ¬ (x.toInt < (216 : Int)); omega)), if_pos (show ((246 : Int32) < x) from own_gt (by show ((246 : Int) < x.toInt); omega)), f1_58, if_neg (show ¬ (x < (248 : Int32)) from own_ltN (by show ¬ (x.toInt < (248 : Int)); omega)), if_pos (show ((767 : Int32) < x) from own_gt (by show ((767 : Int) < x.toInt); omega)), f1_72, if_neg (show ¬ (x < (880 : Int32)) from own_ltN (by show ¬ (x.toInt < (880 : Int)); omega)), if_pos (show ((893 : Int32) < x) from own_gt (by show ((893 : Int) < x.toInt); omega)), f1_86, if_neg (show ¬ (x < (895 : Int32)) from own_ltN (by show ¬ (x.toInt < (895 : Int)); omega)), if_pos (show ((8191 : Int32) < x) from own_gt (by show ((8191 : Int) < x.toInt); omega)), f1_100, if_neg (show ¬ (x < (8204 : Int32)) from own_ltN (by show ¬ (x.toInt < (8204 : Int)); omega)), if_pos (show ((8205 : Int32) < x) from own_gt (by show ((8205 : Int) < x.toInt); omega)), f1_114, if_neg (show ¬ (x < (8304 : Int32)) from own_ltN (by show ¬ (x.toInt < (8304 : Int)); omega)), if_pos (show ((8591 : Int32) < x) from own_gt (by show ((8591 : Int) < x.toInt); omega)), f1_128, if_neg (show ¬ (x < (11264 : Int32)) from own_ltN (by show ¬ (x.toInt < (11264 : Int)); omega)), if_pos (show ((12271 : Int32) < x) from own_gt (by show ((12271 : Int) < x.toInt); omega)), f1_142, if_neg (show ¬ (x < (12289 : Int32)) from own_ltN (by show ¬ (x.toInt < (12289 : Int)); omega)), if_pos (show ((55295 : Int32) < x) from own_gt (by show ((55295 : Int) < x.toInt); omega)), f1_155, if_neg (show ¬ (x < (63744 : Int32)) from own_ltN (by show ¬ (x.toInt < (63744 : Int)); omega)), if_pos (show ((64975 : Int32) < x) from own_gt (by show ((64975 : Int) < x.toInt); omega)), f1_167, if_neg (show ¬ (x < (65008 : Int32)) from own_ltN (by show ¬ (x.toInt < (65008 : Int)); omega)), if_pos (show ((65533 : Int32) < x) from own_gt (by show ((65533 : Int) < x.toInt); omega)), f1_179, if_neg (show ¬ (x < (65536 : Int32)) from own_ltN (by show ¬ (x.toInt < (65536 : Int)); omega)), if_neg (show ¬ ((983039 : Int32) < x) from own_gtN (by show ¬ ((983039 : Int) < x.toInt); omega)), f2_0, if_neg (show ¬ (x < (65 : Int32)) from own_ltN (by show ¬ (x.toInt < (65 : Int)); omega)), if_pos (show ((90 : Int32) < x) from own_gt (by show ((90 : Int) < x.toInt); omega)), if_neg (show ¬ (x < (97 : Int32)) from own_ltN (by show ¬ (x.toInt < (97 : Int)); omega)), if_pos (show ((122 : Int32) < x) from own_gt (by show ((122 : Int) < x.toInt); omega)), if_neg (show ¬ (x < (192 : Int32)) from own_ltN (by show ¬ (x.toInt < (192 : Int)); omega)), if_pos (show ((767 : Int32) < x) from own_gt (by show ((767 : Int) < x.toInt); omega)), if_neg (show ¬ (x < (880 : Int32)) from own_ltN (by show ¬ (x.toInt < (880 : Int)); omega)), if_pos (show ((8191 : Int32) < x) from own_gt (by show ((8191 : Int) < x.toInt); omega)), if_neg (show ¬ (x < (8304 : Int32)) from own_ltN (by show ¬ (x.toInt < (8304 : Int)); omega)), if_pos (show ((8591 : Int32) < x) from own_gt (by show ((8591 : Int) < x.toInt); omega)), if_neg (show ¬ (x < (11264 : Int32)) from own_ltN (by show ¬ (x.toInt < (11264 : Int)); omega)), if_pos (show ((12271 : Int32) < x) from own_gt (by show ((12271 : Int) < x.toInt); omega)), if_pos (show ((12288 : Int32) < x) from own_gt (by show ((12288 : Int) < x.toInt); omega)), if_pos (show ((55295 : Int32) < x) from own_gt (by show ((55295 : Int) < x.toInt); omega)), if_neg (show ¬ (x < (63744 : Int32)) from own_ltN (by show ¬ (x.toInt < (63744 : Int)); omega)), if_pos (show ((65533 : Int32) < x) from own_gt (by show ((65533 : Int) < x.toInt); omega)), if_neg (show ¬ (x < (65536 : Int32)) from own_ltN (by show ¬ (x.toInt < (65536 : Int)); omega)), if_neg (show ¬ ((983039 : Int32) < x) from own_gtN (by show ¬ ((983039 : Int) < x.toInt); omega))]
theorem own_same_31 (x : Int32) (hl : 983040 ≤ x.toInt) : f1_0 x = f2_0 x := by
  rw [f1_0, if_neg (show ¬ (x < (65 : Int32)) from own_ltN (by show ¬ (x.toInt < (65 : Int)); omega)), if_pos (show ((90 : Int32) < x) from own_gt (by show ((90 : Int) < x.toInt); omega)), f1_12, if_neg (show ¬ (x = (95 : Int32)) from own_eqN (by show ¬ (x.toInt = (95 : Int)); omega)), if_neg (show ¬ (x < (97 : Int32)) from own_ltN (by show ¬ (x.toInt < (97 : Int)); omega)), if_pos (show ((122 : Int32) < x) from own_gt (by show ((122 : Int) < x.toInt); omega)), f1_30, if_neg (show ¬ (x < (192 : Int32)) from own_ltN (by show ¬ (x.toInt < (192 : Int)); omega)), if_pos (show ((214 : Int32) < x) from own_gt (by show ((214 : Int) < x.toInt); omega)), f1_44, if_neg (show ¬ (x < (216 : Int32)) from own_ltN (by show ¬ (x.toInt < (216 : Int)); omega)), if_pos (show ((246 : Int32) < x) from own_gt (by show ((246 : Int) < x.toInt); omega)), f1_58, if_neg (show ¬ (x < (248 : Int32)) from own_ltN (by show ¬ (x.toInt < (248 : Int)); omega)), if_pos (show ((767 : Int32) < x) from own_gt (by show ((767 : Int) < x.toInt); omega)), f1_72, if_neg (show ¬ (x < (880 : Int32)) from own_ltN (by show ¬ (x.toInt < (880 : Int)); omega)), if_pos (show ((893 : Int32) < x) from own_gt (by show ((893 : Int) < x.toInt); omega)), f1_86, if_neg (show ¬ (x < (895 : Int32)) from own_ltN (by show ¬ (x.toInt < (895 : Int)); omega)), if_pos (show ((8191 : Int32) < x) from own_gt (by show ((8191 : Int) < x.toInt); omega)), f1_100, if_neg (show ¬ (x < (8204 : Int32)) from own_ltN (by show ¬ (x.toInt < (8204 : Int)); omega)), if_pos (show ((8205 : Int32) < x) from own_gt (by show ((8205 : Int) < x.toInt); omega)), f1_114, if_neg (show ¬ (x < (8304 : Int32)) from own_ltN (by show ¬ (x.toInt < (8304 : Int)); omega)), if_pos (show ((8591 : Int32) < x) from own_gt (by show ((8591 : Int) < x.toInt); omega)), f1_128, if_neg (show ¬ (x < (11264 : Int32)) from own_ltN (by show ¬ (x.toInt < (11264 : Int)); omega)), if_pos (show ((12271 : Int32) < x) from own_gt (by show ((12271 : Int) < x.toInt); omega)), f1_142, if_neg (show ¬ (x < (12289 : Int32)) from own_ltN (by show ¬ (x.toInt < (12289 : Int)); omega)), if_pos (show ((55295 : Int32) < x) from own_gt (by show ((55295 : Int) < x.toInt); omega)), f1_155, if_neg (show ¬ (x < (63744 : Int32)) from own_ltN (by show ¬ (x.toInt < (63744 : Int)); omega)), if_pos (show ((64975 : Int32) < x) from own_gt (by show ((64975 : Int) < x.toInt); omega)), f1_167, if_neg (show ¬ (x < (65008 : Int32)) from own_ltN (by show ¬ (x.toInt < (65008 : Int)); omega)), if_pos (show ((65533 : Int32) < x) from own_gt (by show ((65533 : Int) < x.toInt); omega)), f1_179, if_neg (show ¬ (x < (65536 : Int32)) from own_ltN (by show ¬ (x.toInt < (65536 : Int)); omega)), if_pos (show ((983039 : Int32) < x) from own_gt (by show ((983039 : Int) < x.toInt); omega)), f2_0, if_neg (show ¬ (x < (65 : Int32)) from own_ltN (by show ¬ (x.toInt < (65 : Int)); omega)), if_pos (show ((90 : Int32) < x) from own_gt (by show ((90 : Int) < x.toInt); omega)), if_neg (show ¬ (x < (97 : Int32)) from own_ltN (by show ¬ (x.toInt < (97 : Int)); omega)), if_pos (show ((122 : Int32) < x) from own_gt (by show ((122 : Int) < x.toInt); omega)), if_neg (show ¬ (x < (192 : Int32)) from own_ltN (by show ¬ (x.toInt < (192 : Int)); omega)), if_pos (show ((767 : Int32) < x) from own_gt (by show ((767 : Int) < x.toInt); omega)), if_neg (show ¬ (x < (880 : Int32)) from own_ltN (by show ¬ (x.toInt < (880 : Int)); omega)), if_pos (show ((8191 : Int32) < x) from own_gt (by show ((8191 : Int) < x.toInt); omega)), if_neg (show ¬ (x < (8304 : Int32)) from own_ltN (by show ¬ (x.toInt < (8304 : Int)); omega)), if_pos (show ((8591 : Int32) < x) from own_gt (by show ((8591 : Int) < x.toInt); omega)), if_neg (show ¬ (x < (11264 : Int32)) from own_ltN (by show ¬ (x.toInt < (11264 : Int)); omega)), if_pos (show ((12271 : Int32) < x) from own_gt (by show ((12271 : Int) < x.toInt); omega)), if_pos (show ((12288 : Int32) < x) from own_gt (by show ((12288 : Int) < x.toInt); omega)), if_pos (show ((55295 : Int32) < x) from own_gt (by show ((55295 : Int) < x.toInt); omega)), if_neg (show ¬ (x < (63744 : Int32)) from own_ltN (by show ¬ (x.toInt < (63744 : Int)); omega)), if_pos (show ((65533 : Int32) < x) from own_gt (by show ((65533 : Int) < x.toInt); omega)), if_neg (show ¬ (x < (65536 : Int32)) from own_ltN (by show ¬ (x.toInt < (65536 : Int)); omega)), if_pos (show ((983039 : Int32) < x) from own_gt (by show ((983039 : Int) < x.toInt); omega))]
theorem own_same (x : Int32) : f1_0 x = f2_0 x := by
  by_cases t0 : x.toInt ≤ 64
  · exact own_same_0 x t0
  by_cases t1 : x.toInt ≤ 90
  · exact own_same_1 x (by omega) t1
  by_cases t2 : x.toInt ≤ 94
  · exact own_same_2 x (by omega) t2
  by_cases t3 : x.toInt ≤ 95
  · exact own_same_3 x (by omega) t3
  by_cases t4 : x.toInt ≤ 96
  · exact own_same_4 x (by omega) t4
  by_cases t5 : x.toInt ≤ 122
  · exact own_same_5 x (by omega) t5
  by_cases t6 : x.toInt ≤ 191
  · exact own_same_6 x (by omega) t6
  by_cases t7 : x.toInt ≤ 214
  · exact own_same_7 x (by omega) t7
  by_cases t8 : x.toInt ≤ 215
  · exact own_same_8 x (by omega) t8
  by_cases t9 : x.toInt ≤ 246
  · exact own_same_9 x (by omega) t9
  by_cases t10 : x.toInt ≤ 247
  · exact own_same_10 x (by omega) t10
  by_cases t11 : x.toInt ≤ 767
  · exact own_same_11 x (by omega) t11
  by_cases t12 : x.toInt ≤ 879
  · exact own_same_12 x (by omega) t12
  by_cases t13 : x.toInt ≤ 893
  · exact own_same_13 x (by omega) t13
  by_cases t14 : x.toInt ≤ 894
  · exact own_same_14 x (by omega) t14
  by_cases t15 : x.toInt ≤ 8191
  · exact own_same_15 x (by omega) t15
  by_cases t16 : x.toInt ≤ 8203
  · exact own_same_16 x (by omega) t16
  by_cases t17 : x.toInt ≤ 8204
  · exact own_same_17 x (by omega) t17
  by_cases t18 : x.toInt ≤ 8205
  · exact own_same_18 x (by omega) t18
  by_cases t19 : x.toInt ≤ 8303
  · exact own_same_19 x (by omega) t19
  by_cases t20 : x.toInt ≤ 8591
  · exact own_same_20 x (by omega) t20
  by_cases t21 : x.toInt ≤ 11263
  · exact own_same_21 x (by omega) t21
  by_cases t22 : x.toInt ≤ 12271
  · exact own_same_22 x (by omega) t22
  by_cases t23 : x.toInt ≤ 12288
  · exact own_same_23 x (by omega) t23
  by_cases t24 : x.toInt ≤ 55295
  · exact own_same_24 x (by omega) t24
  by_cases t25 : x.toInt ≤ 63743
  · exact own_same_25 x (by omega) t25
  by_cases t26 : x.toInt ≤ 64975
  · exact own_same_26 x (by omega) t26
  by_cases t27 : x.toInt ≤ 65007
  · exact own_same_27 x (by omega) t27
  by_cases t28 : x.toInt ≤ 65533
  · exact own_same_28 x (by omega) t28
  by_cases t29 : x.toInt ≤ 65535
  · exact own_same_29 x (by omega) t29
  by_cases t30 : x.toInt ≤ 983039
  · exact own_same_30 x (by omega) t30
  exact own_same_31 x (by omega)
theorem own_law (a b c : Int32) : f0_225 a b c = 1 := by
  simp [f0_225, own_same]
set_option maxRecDepth 65536 in
set_option maxHeartbeats 40000000 in
theorem comes_1 {Post : Tables → Env → Array Value → State → Outcome → State → Prop} (hpost : ∀ tb e args s v u, (limb_1_1.after args s (.returned v) u = true ∧ limb_1_2.after args s (.returned v) u = true ∧ True) → FrameEnd s (.returned v) u (Jvm.fieldLocs frame_1_writes args s ++ Jvm.arrayLocs frame_1_arrays args s ++ Jvm.staticLocs frame_1_statics s) 16 128 → Post tb e args s (.returned v) u) :
    ArmFor flags0 classFile x code maxLocals ret World_1 tables_1 room_1 Calls_1 rest_1 Pre_1 Post := by
  intro l hfl _ _ p e ha hc hk s m args below hf hA hF happ hP
  obtain ⟨hcalls, hrest, hpre⟩ := hP
  obtain ⟨-, -, -, hnamed, -, -, -, hat⟩ := (Spec.applies_iff hf).mp happ
  obtain ⟨hg, hn⟩ := and_e (Cond.before_iff.mp (show (Jvm.Cond.and given_1 narrow_1).before args s = true from hpre))
  obtain ⟨hcount, hg0⟩ := and_e hg
  obtain ⟨ha0, hg1⟩ := and_e hg0
  obtain ⟨ha1, hg2⟩ := and_e hg1
  obtain ⟨ha2, hg3⟩ := and_e hg2
  have ha3 := hg3
  obtain ⟨w0, w1, w2, w3, rfl⟩ : ∃ w0 w1 w2 w3 : Value, args = #[w0, w1, w2, w3] := by
    have hs : args.size = 4 := by simpa [Cond.value, given_1] using hcount
    obtain ⟨L⟩ := args
    match L, hs with
    | [w0, w1, w2, w3], _ => exact ⟨w0, w1, w2, w3, rfl⟩
  have hw := fun d (hd : d ∈ tables_1) => atoms_spec (ws := Jvm.Cond.code x code maxLocals ret :: tables_1) hat d (List.mem_cons_of_mem _ hd)
  have hfit : Fit s := fun {y c} hc i hi => by
    obtain ⟨ha, rfl⟩ := Array.getElem?_eq_some_iff.mp hc
    have q := List.all_eq_true.mp ((Array.all_eq_true_iff_forall_mem.mp hF) _ (Array.getElem_mem ha)) i (List.mem_range.mpr hi)
    simpa [Array.getElem?_eq_getElem hi] using q
  obtain ⟨i0, ei0⟩ := is_v ha0
  obtain rfl : w0 = (.int i0) := Option.some.inj ei0
  obtain ⟨i1, ei1⟩ := is_v ha1
  obtain rfl : w1 = (.int i1) := Option.some.inj ei1
  obtain ⟨i2, ei2⟩ := is_v ha2
  obtain rfl : w2 = (.int i2) := Option.some.inj ei2
  obtain ⟨i3, ei3⟩ := is_v ha3
  obtain rfl : w3 = (.int i3) := Option.some.inj ei3
  obtain ⟨n, o, h1, h2, h3, _, L, rfl, ⟨hv, N, -⟩, hq⟩ := rm0 l s _ hw tables_1 i0 i1 i2 i3  s.heap s.heap.size (Nat.le_refl _)  p e ha hc hk s m _ below hf ((Spec.applies_iff_loose hf).mp happ).1 ⟨rfl, State.Warmed39.refl s, rfl⟩ trivial
  rw [own_law] at hv
  subst hv
  refine ⟨n, _, h1, h2, h3, hpost _ _ _ _ _ _ ⟨Cond.after_iff.mpr rfl, Cond.after_iff.mpr (eq_i res_at (Term.int_eval (1)) rfl), trivial⟩ ⟨hq.1, hq.2.1, (hq.2.2.sift fun y hy => Or.inr (N y hy)).mono (by decide) (by decide)⟩⟩
theorem main_1_1 : Claimed_1_1 := comes_1 fun _ _ _ _ _ _ h hF => ⟨h.1, hF⟩
theorem main_1_2 : Claimed_1_2 := comes_1 fun _ _ _ _ _ _ h hF => ⟨h.2.1, hF⟩
end Jvm.Pilot.@@N@@
namespace Jvm.Pilot.@@N@@
open Jvm Jvm.ClassFile Sem Op Lib Jvm.Free Jvm.Stand Jvm.Pilot.@@N@@.Jvm.D
/-! MADE BY PROGRAM (witnessworld.py) out of the Statement's table words and the real class files: 9 classes; the members and pool entries that the words name. The judged class is class 1, her method 2. -/
namespace start1
open Jvm.ClassFile
def u (s : String) : CpInfo := .utf8 (stringToUtf16 s)
/-- a pool by its gaps: so many unusable entries, then the entry; so many at the end -/
def gap : Nat → List CpInfo → List CpInfo
  | 0, r => r
  | n + 1, r => .unusable :: gap n r
def poolList (es : List (Nat × CpInfo)) (last : Nat) : List CpInfo := es.foldr (fun e r => gap e.1 (e.2 :: r)) (gap last [])
def pool (es : List (Nat × CpInfo)) (last : Nat) : Array CpInfo := ⟨poolList es last⟩
def fileOf (pool : Array CpInfo) (this : Nat) (attrs : Array Attribute := #[]) (ms : Array MethodInfo := #[]) (fl : Nat := 33) (sup : Nat := 0) (ifs : Array Nat := #[]) (fds : Array FieldInfo := #[]) : ClassFile where
  minorVersion := 0
  majorVersion := 65
  constantPool := pool
  accessFlags := fl
  thisClass := this
  superClass := sup
  interfaces := ifs
  fields := fds
  methods := ms
  attributes := attrs
def plain (name : String) (sup : Option ClassId) : Class where
  name := name
  kind := .ordinary
  loader := none
  accessFlags := 33
  super := sup
  interfaces := #[]
  cf := none
  fields := #[]
  methods := #[]
  instanceTypes := #[]
  staticTypes := #[]
  resolved := #[]
  callSites := []
  init := .initialized
  statics := none
  mirror := none

def pool0 : Array CpInfo := pool [(5, u "<init>"), (0, u "()V"), (1, .class_ 10), (1, u "java/lang/Object")] 113

def k0m0 : Method := { name := "<init>", desc := "()V", sig := { parameters := [], returnType := none }, accessFlags := 1, code := none }
/-- java/lang/Object -/
def k0 : Class := { plain "java/lang/Object" none with
  accessFlags := 33
  interfaces := #[]
  cf := some (fileOf pool0 8 #[] #[{ accessFlags := 1, nameIndex := 5, descriptorIndex := 6, attributes := #[] }] 33 0 #[] #[])
  fields := #[]
  methods := #[k0m0]
  instanceTypes := #[]
  staticTypes := #[]
  resolved := Array.replicate 124 none
  statics := none }

def pool1 : Array CpInfo := pool [(2, .class_ 4), (1, u "java/lang/Object"), (0, u "<init>"), (0, u "()V"), (0, .integer 55295), (0, .integer 63744), (0, .integer 65533), (0, .integer 64976), (0, .integer 65007), (0, .integer 65536), (0, .integer 983039), (0, .integer 64975), (0, .integer 65008), (0, .integer 2147483647), (0, .integer 2097151), (0, .methodref 19 20), (0, .class_ 21), (0, .nameAndType 22 23), (0, u "com/example/lather/lather/xml/XmlNames"), (0, u "isNameStartChar"), (0, u "(I)Z"), (0, .methodref 25 26), (0, .class_ 27), (0, .nameAndType 28 23), (0, u "com/example/lather/lather/xml/XmlNamesIsNameStartCharPinLaw"), (0, u "ref"), (3, u "law"), (0, u "(IIII)Z")] 4

def k1m0 : Method := { name := "<init>", desc := "()V", sig := { parameters := [], returnType := none }, accessFlags := 2, code := none }
def k1c1 : Code := { maxStack := 2, maxLocals := 1, code := method_2_code, exceptionTable := #[], attributes := #[] }
def k1m1 : Method := { name := "ref", desc := "(I)Z", sig := { parameters := [.int], returnType := some .boolean }, accessFlags := 10, code := some k1c1 }
def k1c2 : Code := { maxStack := 4, maxLocals := 7, code := code, exceptionTable := #[], attributes := #[] }
def k1m2 : Method := { name := "law", desc := "(IIII)Z", sig := { parameters := [.int, .int, .int, .int], returnType := some .boolean }, accessFlags := 9, code := some k1c2 }
/-- com/example/lather/lather/xml/XmlNamesIsNameStartCharPinLaw -/
def k1 : Class := { plain "com/example/lather/lather/xml/XmlNamesIsNameStartCharPinLaw" (some 0) with
  accessFlags := 49
  interfaces := #[]
  cf := some (fileOf pool1 25 #[] #[{ accessFlags := 2, nameIndex := 5, descriptorIndex := 6, attributes := #[] }, { accessFlags := 10, nameIndex := 28, descriptorIndex := 23, attributes := #[] }, { accessFlags := 9, nameIndex := 32, descriptorIndex := 33, attributes := #[] }] 49 2 #[] #[])
  fields := #[]
  methods := #[k1m0, k1m1, k1m2]
  instanceTypes := #[]
  staticTypes := #[]
  resolved := Array.replicate 38 none
  statics := none }

def pool2 : Array CpInfo := pool [(2, .class_ 4), (1, u "java/lang/Object"), (0, u "<init>"), (0, u "()V"), (0, .integer 55295), (0, .integer 63744), (0, .integer 64975), (0, .integer 65008), (0, .integer 65533), (0, .integer 65536), (0, .integer 983039), (1, .class_ 17), (1, u "com/example/lather/lather/xml/XmlNames"), (0, u "isNameStartChar"), (0, u "(I)Z")] 6

def k2m0 : Method := { name := "<init>", desc := "()V", sig := { parameters := [], returnType := none }, accessFlags := 2, code := none }
def k2c1 : Code := { maxStack := 2, maxLocals := 1, code := prog_161_method_2_code, exceptionTable := #[], attributes := #[] }
def k2m1 : Method := { name := "isNameStartChar", desc := "(I)Z", sig := { parameters := [.int], returnType := some .boolean }, accessFlags := 8, code := some k2c1 }
/-- com/example/lather/lather/xml/XmlNames -/
def k2 : Class := { plain "com/example/lather/lather/xml/XmlNames" (some 0) with
  accessFlags := 48
  interfaces := #[]
  cf := some (fileOf pool2 15 #[] #[{ accessFlags := 2, nameIndex := 5, descriptorIndex := 6, attributes := #[] }, { accessFlags := 8, nameIndex := 18, descriptorIndex := 19, attributes := #[] }] 48 2 #[] #[])
  fields := #[]
  methods := #[k2m0, k2m1]
  instanceTypes := #[]
  staticTypes := #[]
  resolved := Array.replicate 26 none
  statics := none }

def pool3 : Array CpInfo := pool [(1, u "java/lang/Cloneable"), (0, .class_ 1), (0, u "java/lang/Object"), (0, .class_ 3)] 3

/-- java/lang/Cloneable -/
def k3 : Class := { plain "java/lang/Cloneable" (some 0) with
  accessFlags := 1537
  interfaces := #[]
  cf := some (fileOf pool3 2 #[] #[] 1537 4 #[] #[])
  fields := #[]
  methods := #[]
  instanceTypes := #[]
  staticTypes := #[]
  resolved := Array.replicate 8 none
  statics := none }

def pool4 : Array CpInfo := pool [(1, u "java/io/Serializable"), (0, .class_ 1), (0, u "java/lang/Object"), (0, .class_ 3)] 3

/-- java/io/Serializable -/
def k4 : Class := { plain "java/io/Serializable" (some 0) with
  accessFlags := 1537
  interfaces := #[]
  cf := some (fileOf pool4 2 #[] #[] 1537 4 #[] #[])
  fields := #[]
  methods := #[]
  instanceTypes := #[]
  staticTypes := #[]
  resolved := Array.replicate 8 none
  statics := none }

/-- the primitive byte -/
def k5 : Class := { plain "byte" none with kind := .primitive 'B', accessFlags := 0x411 }
/-- [B -/
def k6 : Class := { plain "[B" (some 0) with kind := .array 5 .byte, interfaces := #[3, 4], accessFlags := 1041 }

/-- the primitive int -/
def k7 : Class := { plain "int" none with kind := .primitive 'I', accessFlags := 0x411 }
/-- [I -/
def k8 : Class := { plain "[I" (some 0) with kind := .array 7 .int, interfaces := #[3, 4], accessFlags := 1041 }

def heap : Heap := #[]
def classes : Array Class := #[k0, k1, k2, k3, k4, k5, k6, k7, k8]
def interned : List (Array UInt16 × Addr) := []
def slotsUsed : Nat := 0
def theMethod : MethodId := ⟨1, 2⟩
def args0 : Array Value := #[.int 32, .int 7, .int 3, .int 1]
def aboutOver (below : List Frame) : State where
  vm := { classes := classes, interned := interned.toArray }
  heap := heap
  slotsUsed := slotsUsed
  threads := #[{ frames := .invoking theMethod args0 :: below }]
def below0 : List Frame := [.native { method := ⟨0, 0⟩, args := #[] }]
def about1 : State := aboutOver below0
def p0 : Program := .bare "" "" ""
def e0 : Env := launch0.env 0 0 0
theorem w_frames : about1.frames = Frame.invoking theMethod args0 :: below0 := rfl
set_option maxRecDepth 65536 in
theorem w_args : argsFit about1.vm theMethod args0 = true := by decide +kernel
set_option maxRecDepth 65536 in
theorem w_heap : heapFits about1 = true := by decide +kernel
set_option maxRecDepth 65536 in
theorem w_runnable : about1.curStatus? = some .runnable := by decide +kernel
set_option maxRecDepth 65536 in
theorem w_alone : about1.alone = true := by decide +kernel
set_option maxRecDepth 65536 in
theorem w_named : about1.methodNamed? x = some theMethod := by decide +kernel
set_option maxRecDepth 65536 in
theorem w_hears : about1.hears theMethod below0 = true := by decide +kernel
set_option maxRecDepth 65536 in
theorem w_ripe : about1.ripe theMethod args0 below0 = true := by decide +kernel
theorem w_running : about1.status = .running := rfl
set_option maxRecDepth 65536 in
theorem w_room : about1.hasRoom e0.platform room_1 = true :=
  launch0.hasRoom_least _ room_1 (by decide +kernel) (by decide +kernel) (by decide +kernel) (by decide +kernel) (by decide +kernel) (by decide +kernel)
theorem allAtoms_all (ts : List Jvm.Cond) (a : Array Jvm.Value) (st : Jvm.State) : (allAtoms ts).before a st = ts.all (fun c => c.before a st) := by
  induction ts with
  | nil => rfl
  | cons c t ih =>
    show (Jvm.Cond.and c (allAtoms t)).before a st = _
    rw [Jvm.Cond.before_and, ih, List.all_cons]
def words1 : List Jvm.Cond := Jvm.Cond.code x code maxLocals ret :: tables_1
/-- a 'code' word, met by the world's own term for the bytes: nothing is compared byte by byte -/
theorem code_word {y : MethodName} {bytes : ByteArray} {mx : Nat} {rt : Option FieldType} {a : Array Value} {s : State} {m : MethodId} {meth : Method} {c : Code} (h1 : s.methodNamed? y = some m) (h2 : s.vm.method? m = some meth) (h3 : meth.code = some c) (h4 : c.code = bytes)
    (h5 : (c.maxLocals == mx && c.exceptionTable.isEmpty && decide (c.maxStack ≤ mostOperands) && decide (meth.sig.returnType = rt) && !meth.locks && decide (parseMethodDescriptor y.desc = some meth.sig)) = true) : (Jvm.Cond.code y bytes mx rt).before a s = true := by
  simp only [Bool.and_eq_true, beq_iff_eq, Bool.not_eq_true', decide_eq_true_eq] at h5
  obtain ⟨⟨⟨⟨⟨g1, g2⟩, g3⟩, g4⟩, g5⟩, g6⟩ := h5
  simp [Cond.before, Cond.holds, Cond.value, h1, h2, h3, h4, g1, g2, g3, g4, g5, g6]
def isCode : Jvm.Cond → Bool
  | .code _ _ _ _ => true
  | _ => false
theorem all_split {L : List Jvm.Cond} {P : Jvm.Cond → Bool} (h1 : L.all (fun c => isCode c || P c) = true) (h2 : ∀ c ∈ L.filter isCode, P c = true) : L.all P = true := by
  refine List.all_eq_true.mpr fun c hc => ?_
  have h := List.all_eq_true.mp h1 c hc
  rcases Bool.eq_false_or_eq_true (isCode c) with hi | hi
  · exact h2 c (List.mem_filter.mpr ⟨hc, hi⟩)
  · simpa [hi] using h
set_option maxRecDepth 65536 in
theorem w_c0 : (Jvm.Cond.code x code maxLocals ret).before args0 about1 = true := code_word (m := ⟨1, 2⟩) (meth := k1m2) (c := k1c2) (by decide +kernel) rfl rfl rfl (by decide +kernel)
set_option maxRecDepth 65536 in
theorem w_c1 : (Jvm.Cond.code ({ cls := "com/example/lather/lather/xml/XmlNames", name := "isNameStartChar", desc := "(I)Z" } : Jvm.MethodName) prog_161_method_2_code (1 : Nat) (Option.some Jvm.ClassFile.FieldType.boolean)).before args0 about1 = true := code_word (m := ⟨2, 1⟩) (meth := k2m1) (c := k2c1) (by decide +kernel) rfl rfl rfl (by decide +kernel)
set_option maxRecDepth 65536 in
theorem w_c2 : (Jvm.Cond.code ({ cls := "com/example/lather/lather/xml/XmlNamesIsNameStartCharPinLaw", name := "ref", desc := "(I)Z" } : Jvm.MethodName) method_2_code (1 : Nat) (Option.some Jvm.ClassFile.FieldType.boolean)).before args0 about1 = true := code_word (m := ⟨1, 1⟩) (meth := k1m1) (c := k1c1) (by decide +kernel) rfl rfl rfl (by decide +kernel)
def codes1 : List Jvm.Cond := [Jvm.Cond.code x code maxLocals ret, Jvm.Cond.code ({ cls := "com/example/lather/lather/xml/XmlNames", name := "isNameStartChar", desc := "(I)Z" } : Jvm.MethodName) prog_161_method_2_code (1 : Nat) (Option.some Jvm.ClassFile.FieldType.boolean), Jvm.Cond.code ({ cls := "com/example/lather/lather/xml/XmlNamesIsNameStartCharPinLaw", name := "ref", desc := "(I)Z" } : Jvm.MethodName) method_2_code (1 : Nat) (Option.some Jvm.ClassFile.FieldType.boolean)]
set_option maxRecDepth 65536 in
theorem codes_eq : words1.filter isCode = codes1 := rfl
theorem w_codes : ∀ c ∈ words1.filter isCode, c.before args0 about1 = true := by
  rw [codes_eq]
  intro c hc
  simp only [codes1, List.mem_cons, List.not_mem_nil, or_false] at hc
  rcases hc with rfl | rfl | rfl
  · exact w_c0
  · exact w_c1
  · exact w_c2
set_option maxRecDepth 65536 in
theorem w_t1 : (words1.take 24).all (fun c => isCode c || c.before args0 about1) = true := by decide +kernel
set_option maxRecDepth 65536 in
theorem w_t2 : (words1.drop 24).all (fun c => isCode c || c.before args0 about1) = true := by decide +kernel
theorem w_tables : (allAtoms (Jvm.Cond.code x code maxLocals ret :: tables_1)).before args0 about1 = true := by
  rw [allAtoms_all]
  show words1.all (fun c => c.before args0 about1) = true
  refine all_split ?_ w_codes
  rw [← List.take_append_drop 24 words1, List.all_append, w_t1, w_t2]
  rfl
set_option maxRecDepth 65536 in
theorem w_case : (Jvm.Cond.and given_1 narrow_1).before args0 about1 = true := by decide +kernel
theorem w_applies : (headSpec (Jvm.Cond.code x code maxLocals ret :: tables_1) room_1).applies x e0.platform about1 = true :=
  (Spec.applies_iff w_frames).mpr ⟨w_running, w_runnable, w_alone, w_named, w_hears, w_ripe, w_room, w_tables⟩
theorem atStart : AtStart classFile x code maxLocals ret World_1 tables_1 room_1 Calls_1 rest_1 Pre_1 launch0 p0 e0 about1 theMethod args0 below0 :=
  ⟨lists_1, trivial, launch0.admits_env _ _ _, launch0.least_env, fairChoices_fair.cas, fairChoices_fair.clock, w_frames, w_args, w_heap, w_applies, trivial, trivial, w_case⟩
end start1
theorem witness_1 : WitnessClaimed_1 := ⟨start1.p0, start1.e0, start1.about1, start1.theMethod, start1.args0, start1.below0, start1.atStart⟩
end Jvm.Pilot.@@N@@
