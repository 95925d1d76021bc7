import JvmDerived
import JvmDerived.Pilot.@@N@@Statement
import JvmDerived.Pilot.@@N@@Code
set_option linter.unusedVariables false
set_option linter.unusedSimpArgs false
@@BLOCK:NumsL.lean.txt@@
namespace Jvm.RoadKit
open Sem ClassFile Op Lib Jvm.Stand Jvm.Free Jvm.LawKit
section New
variable {p : Program} {l : Launch} {e : Env} {R : Room} {s : State} {m : MethodId} {args : Array Value} {below : List Frame} {meth : Method} {c : Code} {T : State} {locs : List Loc} {cells slots : Nat}
theorem retI (X : Stand p l e R s m args below meth c T locs cells slots) (hx : p.tables.exec = Jvm.exec) {pc : Nat} {Ls : Array Slot} {z : Int32} {rest : List Value} (hret : meth.sig.returnType = some .int) (hd : decode c.code pc = .ok (.ireturn, 1)) {fs : List Frame}
    (hl : ∀ (f : JFrame) (acts : List Action), f.method = m → f.locked = none → f.entered = [] → (doReturn e (T.setTop f) acts (some (.int z))).1 = T.setFrames fs) : Steps p.tables e below (T.setTop (mkF m pc Ls (.int z :: rest))) (T.setFrames fs) := by
  have hm' : T.vm.method? m = some meth := X.method'
  have hn : narrow .int (.int z) = .int z := rfl
  show Steps p.tables e below (T.setTop { method := m, pc := pc, locals := Ls, stack := _ :: rest, locked := none }) _
  jvm_step X.here [X.here.top, hx, hd, hm', hret, hn]
  first | (intro acts; rw [hl _ acts rfl rfl rfl]) | rw [hl _ _ rfl rfl rfl]
  exact Steps.refl _
/-- from U the run comes to its end, and Q holds there -/
def OwnEnds (p : Program) (e : Env) (below : List Frame) (Q : Outcome → State → Prop) (U : State) : Prop := ∃ s₂ o, Steps p.tables e below U s₂ ∧ s₂.status = .running ∧ Ended s₂ below o ∧ Q o s₂
theorem OwnEnds.pre {Q : Outcome → State → Prop} {U U' : State} (h : ∀ t, Steps p.tables e below U' t → Steps p.tables e below U t) (k : OwnEnds p e below Q U') : OwnEnds p e below Q U := by
  obtain ⟨s₂, o, h1, h2⟩ := k
  exact ⟨s₂, o, h _ h1, h2⟩
def OwnQ (s : State) (Q : Option Value → Heap → List Loc → Prop) (C S : Nat) : Outcome → State → Prop := fun o U' => ∃ v L, o = .returned v ∧ Q v U'.heap L ∧ FrameEnd s o U' L C S
theorem own_endI (X : Stand p l e R s m args below meth c T locs cells slots) (hx : p.tables.exec = Jvm.exec) (hlocks : meth.locks = false) {pc : Nat} {Ls : Array Slot} {z : Int32} {rest : List Value} (hret : meth.sig.returnType = some .int) (hd : decode c.code pc = .ok (.ireturn, 1))
    {Q : Option Value → Heap → List Loc → Prop} {C S : Nat} (hC : cells ≤ C) (hS : slots ≤ S) (hQ : Q (some (.int z)) T.heap locs) : OwnEnds p e below (OwnQ s Q C S) (T.setTop (mkF m pc Ls (.int z :: rest))) := by
  obtain ⟨fs, hr, hrun, hended, hW, hsame⟩ := X.leave (v := some (.int z)) (fun h => by rw [hret] at h; cases h) hlocks
  exact ⟨_, _, retI X hx hret hd hr, hrun, hended, _, _, rfl, hQ, ⟨_, rfl⟩, hW, hsame.mono hC hS⟩
theorem own_endN (X : Stand p l e R s m args below meth c T locs cells slots) (hx : p.tables.exec = Jvm.exec) (hlocks : meth.locks = false) {pc : Nat} {Ls : Array Slot} {z z' : Int32} {t : FieldType} {rest : List Value} (hret : meth.sig.returnType = some t) (ht : t = .boolean ∨ t = .byte ∨ t = .char ∨ t = .short) (hd : decode c.code pc = .ok (.ireturn, 1)) (hz : nar t z = z')
    {Q : Option Value → Heap → List Loc → Prop} {C S : Nat} (hC : cells ≤ C) (hS : slots ≤ S) (hQ : Q (some (.int z')) T.heap locs) : OwnEnds p e below (OwnQ s Q C S) (T.setTop (mkF m pc Ls (.int z :: rest))) := by
  subst hz
  obtain ⟨fs, hr, hrun, hended, hW, hsame⟩ := X.leave (v := some (.int (nar t z))) (fun h => by rw [hret] at h; cases h) hlocks
  exact ⟨_, _, retN X hx hret ht hd hr, hrun, hended, _, _, rfl, hQ, ⟨_, rfl⟩, hW, hsame.mono hC hS⟩
theorem own_endJ (X : Stand p l e R s m args below meth c T locs cells slots) (hx : p.tables.exec = Jvm.exec) (hlocks : meth.locks = false) {pc : Nat} {Ls : Array Slot} {z : Int64} (hret : meth.sig.returnType = some .long) (hd : decode c.code pc = .ok (.lreturn, 1))
    {Q : Option Value → Heap → List Loc → Prop} {C S : Nat} (hC : cells ≤ C) (hS : slots ≤ S) (hQ : Q (some (.long z)) T.heap locs) : OwnEnds p e below (OwnQ s Q C S) (T.setTop (mkF m pc Ls [.long z])) := by
  obtain ⟨fs, hr, hrun, hended, hW, hsame⟩ := X.leave (v := some (.long z)) (fun h => by rw [hret] at h; cases h) hlocks
  exact ⟨_, _, X.lreturnOut hx hret hd hr, hrun, hended, _, _, rfl, hQ, ⟨_, rfl⟩, hW, hsame.mono hC hS⟩
theorem own_endV (X : Stand p l e R s m args below meth c T locs cells slots) (hx : p.tables.exec = Jvm.exec) (hlocks : meth.locks = false) {pc : Nat} {Ls : Array Slot} (hret : meth.sig.returnType = none) (hd : decode c.code pc = .ok (.return_, 1))
    {Q : Option Value → Heap → List Loc → Prop} {C S : Nat} (hC : cells ≤ C) (hS : slots ≤ S) (hQ : Q none T.heap locs) : OwnEnds p e below (OwnQ s Q C S) (T.setTop (mkF m pc Ls [])) := by
  obtain ⟨fs, hr, hrun, hended, hW, hsame⟩ := X.leave (v := none) (fun _ => rfl) hlocks
  exact ⟨_, _, X.returnOut hx hret hd hr, hrun, hended, _, _, rfl, hQ, ⟨_, rfl⟩, hW, hsame.mono hC hS⟩
theorem own_endR (X : Stand p l e R s m args below meth c T locs cells slots) (hx : p.tables.exec = Jvm.exec) (hlocks : meth.locks = false) {pc : Nat} {Ls : Array Slot} {w : Value} {t : FieldType} {rest : List Value} (hret : meth.sig.returnType = some t) (ht : t.isReference = true) (hw : w.isRef = true) (hd : decode c.code pc = .ok (.areturn, 1))
    {Q : Option Value → Heap → List Loc → Prop} {C S : Nat} (hC : cells ≤ C) (hS : slots ≤ S) (hQ : Q (some w) T.heap locs) : OwnEnds p e below (OwnQ s Q C S) (T.setTop (mkF m pc Ls (w :: rest))) := by
  obtain ⟨fs, hr, hrun, hended, hW, hsame⟩ := X.leave (v := some w) (fun h => by rw [hret] at h; cases h) hlocks
  have hn : narrow t w = w := by cases t <;> first | rfl | (cases ht)
  exact ⟨_, _, retOut X hx hret hn (Or.inr (Or.inr (Or.inr (Or.inr ⟨rfl, ht, hw⟩)))) hd hr, hrun, hended, _, _, rfl, hQ, ⟨_, rfl⟩, hW, hsame.mono hC hS⟩
theorem own_getI (l : List Int32) (i : Nat) : (l.map Value.int).getD i (.int 0) = .int (l.getD i 0) := by
  simp only [List.getD_eq_getElem?_getD, List.getElem?_map]
  cases l[i]? <;> rfl
theorem own_getJ (l : List Int64) (i : Nat) : (l.map Value.long).getD i (.long 0) = .long (l.getD i 0) := by
  simp only [List.getD_eq_getElem?_getD, List.getElem?_map]
  cases l[i]? <;> rfl
theorem own_nin0 {a : Addr} : a ∉ ([] : List Addr) := List.not_mem_nil
theorem own_nin1 {a b : Addr} (h : a ≠ b) : a ∉ [b] := by simpa using h
theorem own_nin2 {a b c : Addr} (h : a ≠ b) (h' : a ≠ c) : a ∉ [b, c] := by simpa using ⟨h, h'⟩
theorem own_staK0 {Z : State} {h h' : Heap} {C n d : String} {v : Value} (F : Sta Z h C n d v) (K : Keep h h' []) : Sta Z h' C n d v := by
  obtain ⟨cf, i, k, f, st, cell, h1, h2, h3, h4, h5, h6, h7⟩ := F
  exact ⟨cf, i, k, f, st, cell, h1, h2, h3, h4, K.2.1 st cell h5 own_nin0, h6, h7⟩
theorem own_staK1 {Z : State} {h h' : Heap} {C n d D : String} {v : Value} {x : Addr} (F : Sta Z h C n d v) (K : Keep h h' [x]) (E : Exa Z h x D) : Sta Z h' C n d v := by
  obtain ⟨cf, i, k, f, st, cell, h1, h2, h3, h4, h5, h6, h7⟩ := F
  obtain ⟨cl, kk, e1, e2, e3, e4, e5⟩ := E
  refine ⟨cf, i, k, f, st, cell, h1, h2, h3, h4, K.2.1 st cell h5 (own_nin1 fun q => ?_), h6, h7⟩
  subst q
  cases h5.symm.trans e1
  rw [h6] at e4
  cases e4
theorem own_nsroot {Z : State} {a0 : Array Value} {O K : String} {n : Nat} (w : (Cond.noSuperclass O).before a0 Z = true) (wk : (Cond.instantiable K n).before a0 Z = true) (hn : O ≠ K) : NS Z O K := by
  obtain ⟨c, k, h1, h2, h3, -, -⟩ := Cond.noSuperclass_spec w
  obtain ⟨t, kt, g1, -⟩ := Cond.instantiable_spec wk
  have ne := ids_ne h1 g1 hn
  refine ⟨c, t, h1, g1, fun fuel => ?_⟩
  cases fuel with
  | zero => rfl
  | succ f => simp [Vm.isSubclassAux, ne, h2, h3]
theorem own_nsno {Z : State} {a0 : Array Value} {C S K : String} {n : Nat} (w : (Cond.superclass C S).before a0 Z = true) (wk : (Cond.instantiable K n).before a0 Z = true) (ns : NS Z C K) (hn : C ≠ K) : ∃ c t, Z.vm.findClass C = some c ∧ Z.vm.findClass K = some t ∧ Z.vm.assignable c t = false := by
  obtain ⟨c, t, h0, g0, n3⟩ := ns
  obtain ⟨p, k, kp, h1, h2, h3, h4, h5, -, h7⟩ := Cond.superclass_spec h0 w
  obtain ⟨t', kt, g1, g2, g3, g4, -⟩ := Cond.instantiable_spec wk
  cases g0.symm.trans g1
  have g7 : kt.isInterface = false := by simp only [Bool.or_eq_false_iff] at g4; exact g4.1
  have ne := ids_ne h0 g0 hn
  refine ⟨c, t, h0, g0, ?_⟩
  show Z.vm.assignableAux (255 + 1) c t = false
  simp [Vm.assignableAux, ne, h2, g2, h5, g3, g7, Vm.isSubclass, n3]
end New
end Jvm.RoadKit
namespace Jvm.RoadKit
open Sem ClassFile Op Lib Jvm.Stand Jvm.Free Jvm.LawKit
/-- an int[1024] and what it holds -/
def OwnA (Z : State) (h : Heap) (a : Addr) (F : Nat → Int32) : Prop := ∃ c : Cell, Arr Z h a c .int ∧ c.slots.size = 1024 ∧ ∀ i, i < 1024 → c.slots[i]? = some (.int (F i))
/-- an array of references over C, of length n; what lies in it isn't said -/
def OwnR (Z : State) (h : Heap) (a : Addr) (C : String) (n : Int32) : Prop := ∃ c : Cell, Arr Z h a c (.object C) ∧ Ovr Z c.cls C ∧ c.slots.size = n.toNatClampNeg ∧ ¬ n < 0
def own_upd (F : Nat → Int32) (j : Nat) (v : Int32) : Nat → Int32 := fun i => if i = j then v else F i
section
variable {Z : State} {h h' : Heap} {a b : Addr} {F : Nat → Int32} {ws : List Addr} {sl : Nat} {v : Value} {C : String} {n : Int32}
theorem OwnA.lt (A : OwnA Z h a F) : a < h.size := by obtain ⟨c, A, -⟩ := A; exact A.lt
theorem OwnA.ext (A : OwnA Z h a F) (E : Ext h h') : OwnA Z h' a F := by obtain ⟨c, A, r⟩ := A; exact ⟨c, A.ext E, r⟩
theorem OwnA.other (A : OwnA Z h b F) (W : Wr h h' a sl v) (q : b ≠ a) : OwnA Z h' b F := by obtain ⟨c, A, r⟩ := A; exact ⟨c, A.other W q, r⟩
theorem OwnA.keep (A : OwnA Z h a F) (K : Keep h h' ws) (q : a ∉ ws) : OwnA Z h' a F := by obtain ⟨c, A, r⟩ := A; exact ⟨c, ⟨K.2.1 a c A.1 q, A.2⟩, r⟩
theorem OwnA.nostat (A : OwnA Z h a F) : ∀ cell : Cell, h[a]? = some cell → cell.vm.isStatics = false := by obtain ⟨c, A, -⟩ := A; exact A.nostat
theorem OwnA.new {k : ClassId} (A : Arr Z h a (newA k .int 1024) .int) : OwnA Z h a (fun _ => 0) := by
  refine ⟨_, A, sz_new _ _ _, fun i hi => ?_⟩
  have hs : (newA k .int 1024).slots.size = 1024 := sz_new _ _ _
  have : (1024 : Int32).toNatClampNeg = 1024 := by decide
  simp [newA, this, hi, defaultValue]
theorem OwnA.set {c : Cell} {j x : Int32} (A : Arr Z h a c .int) (S : c.slots.size = 1024) (H : ∀ i, i < 1024 → c.slots[i]? = some (.int (F i))) (W : Wr h h' a j.toNatClampNeg (.int x)) : OwnA Z h' a (own_upd F j.toNatClampNeg x) := by
  refine ⟨_, A.same W, by rw [sz_set]; exact S, fun i hi => ?_⟩
  show (c.slots.setIfInBounds j.toNatClampNeg (.int x))[i]? = _
  by_cases q : i = j.toNatClampNeg
  · subst q
    rw [Array.getElem?_setIfInBounds_self_of_lt (by rw [S]; exact hi)]
    simp [own_upd]
  · rw [Array.getElem?_setIfInBounds_ne (fun z => q z.symm), H i hi]
    simp [own_upd, q]
theorem own_in1024 {c : Cell} {j : Int32} (S : c.slots.size = 1024) (q : 0 ≤ j.toInt ∧ j.toInt < 1024) : ¬ (j < 0 ∨ c.slots.size ≤ j.toNatClampNeg) := by
  have e0 : (0 : Int32).toInt = 0 := rfl
  rw [S, Int32.lt_iff_toInt_lt, e0]
  show ¬ (j.toInt < 0 ∨ 1024 ≤ j.toInt.toNat)
  omega
theorem own_lt1024 {j : Int32} (q : 0 ≤ j.toInt ∧ j.toInt < 1024) : j.toNatClampNeg < 1024 := by
  show j.toInt.toNat < 1024
  omega
theorem own_len1024 {c : Cell} (S : c.slots.size = 1024) : c.slots.size.toInt32 = (1024 : Int32) := by rw [S]; rfl
theorem OwnR.lt (A : OwnR Z h a C n) : a < h.size := by obtain ⟨c, A, -⟩ := A; exact A.lt
theorem OwnR.ext (A : OwnR Z h a C n) (E : Ext h h') : OwnR Z h' a C n := by obtain ⟨c, A, r⟩ := A; exact ⟨c, A.ext E, r⟩
theorem OwnR.other (A : OwnR Z h b C n) (W : Wr h h' a sl v) (q : b ≠ a) : OwnR Z h' b C n := by obtain ⟨c, A, r⟩ := A; exact ⟨c, A.other W q, r⟩
theorem OwnR.keep (A : OwnR Z h a C n) (K : Keep h h' ws) (q : a ∉ ws) : OwnR Z h' a C n := by obtain ⟨c, A, r⟩ := A; exact ⟨c, ⟨K.2.1 a c A.1 q, A.2⟩, r⟩
theorem OwnR.nostat (A : OwnR Z h a C n) : ∀ cell : Cell, h[a]? = some cell → cell.vm.isStatics = false := by obtain ⟨c, A, -⟩ := A; exact A.nostat
theorem OwnR.new {k : ClassId} (A : Arr Z h a (newA k (.object C) n) (.object C)) (O : Ovr Z k C) (q : ¬ n < 0) : OwnR Z h a C n := ⟨_, A, O, sz_new _ _ _, q⟩
theorem OwnR.set (A : OwnR Z h a C n) (W : Wr h h' a sl v) : OwnR Z h' a C n := by
  obtain ⟨c, A, O, S, N⟩ := A
  exact ⟨_, A.same W, O, by rw [sz_set]; exact S, N⟩
theorem own_nd {l : List Addr} (D : l.Pairwise (· ≠ ·)) (i j : Nat) {x y : Addr} (hx : l[i]? = some x) (hy : l[j]? = some y) (h : i < j) : x ≠ y := by
  obtain ⟨h1, rfl⟩ := List.getElem?_eq_some_iff.mp hx
  obtain ⟨h2, rfl⟩ := List.getElem?_eq_some_iff.mp hy
  exact List.pairwise_iff_getElem.mp D i j h1 h2 h
theorem own_insK {K : String} (Kp : Keep h h' ws) (F : Ins Z h a K true) : Ins Z h' a K true := by
  obtain ⟨cell, cT, h1, h2, h3⟩ := F
  obtain ⟨c', q, r1, r2, -⟩ := Kp.2.2 a cell h1
  exact ⟨c', cT, q, h2, by rw [r1, r2]; exact h3⟩
theorem own_selP {s : State} {args : Array Value} {y : MethodName} {k : Nat} (wi : (Cond.instantiable y.cls k).before args s = true) (hpriv : s.PrivateAt y) (hinst : (Cond.instanceMethod y).before args s = true) (hy : y.cls ≠ "java/lang/invoke/MethodHandle" ∧ y.cls ≠ "java/lang/invoke/VarHandle") : (Cond.selects y.cls y y).before args s = true := by
  obtain ⟨c, k, h1, h2, h3, h4, -⟩ := Cond.instantiable_spec wi
  have h7 : k.isInterface = false := by simp only [Bool.or_eq_false_iff] at h4; exact h4.1
  exact Jvm.Stand.selects_self_of_private h1 h2 h7 hpriv hinst hy
theorem own_nin3 {a b c d : Addr} (h1 : a ≠ b) (h2 : a ≠ c) (h3 : a ≠ d) : a ∉ [b, c, d] := ninS h1 (ninS h2 (ninS h3 nin0))
theorem own_nin4 {a b c d e : Addr} (h1 : a ≠ b) (h2 : a ≠ c) (h3 : a ≠ d) (h4 : a ≠ e) : a ∉ [b, c, d, e] := ninS h1 (own_nin3 h2 h3 h4)
theorem own_nin5 {a b c d e f : Addr} (h1 : a ≠ b) (h2 : a ≠ c) (h3 : a ≠ d) (h4 : a ≠ e) (h5 : a ≠ f) : a ∉ [b, c, d, e, f] := ninS h1 (own_nin4 h2 h3 h4 h5)
theorem own_nin6 {a b c d e f g : Addr} (h1 : a ≠ b) (h2 : a ≠ c) (h3 : a ≠ d) (h4 : a ≠ e) (h5 : a ≠ f) (h6 : a ≠ g) : a ∉ [b, c, d, e, f, g] := ninS h1 (own_nin5 h2 h3 h4 h5 h6)
theorem own_nin7 {a b c d e f g i : Addr} (h1 : a ≠ b) (h2 : a ≠ c) (h3 : a ≠ d) (h4 : a ≠ e) (h5 : a ≠ f) (h6 : a ≠ g) (h7 : a ≠ i) : a ∉ [b, c, d, e, f, g, i] := ninS h1 (own_nin6 h2 h3 h4 h5 h6 h7)
end
end Jvm.RoadKit
namespace Jvm.Pilot.@@N@@
open Jvm Jvm.ClassFile Sem Op Lib Jvm.Free Jvm.Stand Jvm.LawKit Jvm.RoadKit Bundle Jvm.Pilot.@@N@@.Jvm.D
def OwnG (Z : State) (h : Heap) (g aL aP aR aF aE aT aA : Addr) (w e ini : Int32) (F E : Nat → Int32) : Prop :=
  Exa Z h g "com/example/changeset/changeset/check/StateGraph" ∧ Fld Z h g "com/example/changeset/changeset/check/StateGraph" "states" "Ljava/util/List;" (.ref aL) ∧ Fld Z h g "com/example/changeset/changeset/check/StateGraph" "predecessors" "[I" (.ref aP) ∧ Fld Z h g "com/example/changeset/changeset/check/StateGraph" "reachedBy" "[I" (.ref aR) ∧ Fld Z h g "com/example/changeset/changeset/check/StateGraph" "lastWithEdges" "I" (.int w) ∧ Fld Z h g "com/example/changeset/changeset/check/StateGraph" "keepsEdges" "Z" (.int 1) ∧ Fld Z h g "com/example/changeset/changeset/check/StateGraph" "firstEdges" "[I" (.ref aF) ∧ Fld Z h g "com/example/changeset/changeset/check/StateGraph" "lastEdgeFrom" "[I" (.ref aE) ∧ Fld Z h g "com/example/changeset/changeset/check/StateGraph" "edgeTargets" "[I" (.ref aT) ∧ Fld Z h g "com/example/changeset/changeset/check/StateGraph" "edgeActions" "[I" (.ref aA) ∧ Fld Z h g "com/example/changeset/changeset/check/StateGraph" "initialStates" "I" (.int ini) ∧ Fld Z h g "com/example/changeset/changeset/check/StateGraph" "edges" "I" (.int e) ∧ (∃ f, OwnA Z h aP f) ∧ (∃ f, OwnA Z h aR f) ∧ OwnA Z h aF F ∧ OwnA Z h aE E ∧ (∃ f, OwnA Z h aT f) ∧ (∃ f, OwnA Z h aA f)
def OwnL (Z : State) (h : Heap) (l d : Addr) (k n : Int32) : Prop :=
  Exa Z h l "java/util/ArrayList" ∧ (∃ mc : Int32, Fld Z h l "java/util/AbstractList" "modCount" "I" (.int mc)) ∧ Fld Z h l "java/util/ArrayList" "elementData" "[Ljava/lang/Object;" (.ref d) ∧ Fld Z h l "java/util/ArrayList" "size" "I" (.int k) ∧ OwnR Z h d "java/lang/Object" n
theorem d3_0 : decode jdk_29_method_65_code 0 = .ok (.iload_n 0, 1) := by decide +kernel
theorem d3_1 : decode jdk_29_method_65_code 1 = .ok (.iload_n 1, 1) := by decide +kernel
theorem d3_2 : decode jdk_29_method_65_code 2 = .ok (.if_icmp .lt 7, 3) := by decide +kernel
theorem d3_5 : decode jdk_29_method_65_code 5 = .ok (.iload_n 0, 1) := by decide +kernel
theorem d3_6 : decode jdk_29_method_65_code 6 = .ok (.goto 4, 3) := by decide +kernel
theorem d3_9 : decode jdk_29_method_65_code 9 = .ok (.iload_n 1, 1) := by decide +kernel
theorem d3_10 : decode jdk_29_method_65_code 10 = .ok (.ireturn, 1) := by decide +kernel
theorem ef_3 (m : MethodId) (p0 : Int32) (p1 : Int32) : entryFrame m #[(.int p0), (.int p1)] 2 = mkF m 0 #[.val (.int p0), .val (.int p1)] [] := by first | (simp [entryFrame, mkF, argsToLocals, Value.category]; done) | rfl
def f3_0 (p0 : Int32) (p1 : Int32) : Int32 := (if p0 < p1 then p1 else p0)
def Q3 (Z : State) (p0 : Int32) (p1 : Int32) (h0 : Heap) (n0 : Nat) (v : Option Value) (h : Heap) (L : List Loc) : Prop := v = some (.int (f3_0 p0 p1)) ∧ Fr n0 L ∧ h = h0
set_option maxRecDepth 65536 in
set_option maxHeartbeats 40000000 in
theorem rm3 (l : Launch) (Z : State) (aZ : Array Value) (hw : ∀ d ∈ tables_1, d.before aZ Z = true) (ws : List Jvm.Cond) (p0 : Int32) (p1 : Int32) (h0 : Heap) (n0 : Nat) (Z0 : n0 ≤ h0.size) :
    MetFree l (⟨"java/lang/Math", "max", "(II)I"⟩ : MethodName) (head1 (Jvm.Cond.code (⟨"java/lang/Math", "max", "(II)I"⟩ : MethodName) jdk_29_method_65_code 2 (some .int) :: ws) ({ frames := 0, cells := 0, slots := 0, locals := 0 } : Room)) (fun a U => a = #[(.int p0), (.int p1)] ∧ Z.Warmed39 U.vm ∧ U.heap = h0) (fun _ _ _ _ _ => True) (fun _ U o U' => ∃ v L, o = .returned v ∧ Q3 Z p0 p1 h0 n0 v U'.heap L ∧ FrameEnd U o U' L 0 0) := by
  refine MetFree.of_bodySF (Jvm.Free.JP.mathPlain rfl (by decide +kernel)) hisR ?_
  intro p e s m args below meth c s₁ Bd hml0 hP hK
  obtain ⟨rfl, hZ, hh⟩ := hP
  have hx := Bd.exec
  have hby := Bd.bytes
  have hml : c.maxLocals = 2 := hml0
  have hown : s.vm.findClass "java/lang/Math" = some m.cls := findClass_of_methodNamed Bd.named
  have hnm := (name_of_methodNamed Bd.named Bd.method).1
  have hlk := BodyLoose.notSynchronized Bd
  have X0 : Stand p l e ({ frames := 0, cells := 0, slots := 0, locals := 0 } : Room) s m #[(.int p0), (.int p1)] below meth c s₁ [] 0 0 := Stand.of_body Bd
  have e0 : s₁.heap = h0 := by rw [← hh, Bd.state]; rfl
  have N0 := Fr.nil n0
  have hk0 : 0 ≤ 0 := Nat.zero_le _
  have hn0 : 0 ≤ 0 := Nat.zero_le _
  show OwnEnds p e below (OwnQ s (Q3 Z p0 p1 h0 n0) 0 0) (s₁.setTop (entryFrame m #[(.int p0), (.int p1)] 2))
  refine .pre (fun t k => castTop (ef_3 m p0 p1) k) ?_
  have hF : f3_0 p0 p1 = f3_0 p0 p1 := rfl
  change (if p0 < p1 then p1 else p0) = _ at hF
  show OwnEnds p e below _ (s₁.setTop (mkF m 0 #[.val (.int p0), .val (.int p1)] []))
  refine .pre (fun _ kq => XS.iloadN X0.here hx rfl (hb hby d3_0) rfl kq) ?_
  show OwnEnds p e below _ (s₁.setTop (mkF m 1 #[.val (.int p0), .val (.int p1)] [(.int p0)]))
  refine .pre (fun _ kq => XS.iloadN X0.here hx rfl (hb hby d3_1) rfl kq) ?_
  show OwnEnds p e below _ (s₁.setTop (mkF m 2 #[.val (.int p0), .val (.int p1)] [(.int p1), (.int p0)]))
  by_cases hc2 : p0 < p1
  · rw [if_pos hc2] at hF
    refine .pre (fun _ kq => XS.icmpYes X0.here hx rfl (pc0 := 2) (pc' := 9) rfl (hb hby d3_2) rfl (tlt hc2).1 (by decide) (by decide) kq) ?_
    show OwnEnds p e below _ (s₁.setTop (mkF m 9 #[.val (.int p0), .val (.int p1)] []))
    refine .pre (fun _ kq => XS.iloadN X0.here hx rfl (hb hby d3_9) rfl kq) ?_
    show OwnEnds p e below _ (s₁.setTop (mkF m 10 #[.val (.int p0), .val (.int p1)] [(.int p1)]))
    exact own_endI X0 hx hlk Bd.returns (hb hby d3_10) hk0 hn0 ⟨congrArg (fun z => some (Value.int z)) hF, N0, e0⟩
  · rw [if_neg hc2] at hF
    refine .pre (fun _ kq => XS.icmpNo X0.here hx rfl (hb hby d3_2) rfl (flt hc2).1 kq) ?_
    show OwnEnds p e below _ (s₁.setTop (mkF m 5 #[.val (.int p0), .val (.int p1)] []))
    refine .pre (fun _ kq => XS.iloadN X0.here hx rfl (hb hby d3_5) rfl kq) ?_
    show OwnEnds p e below _ (s₁.setTop (mkF m 6 #[.val (.int p0), .val (.int p1)] [(.int p0)]))
    refine .pre (fun _ kq => XS.goto X0.here hx rfl (pc0 := 6) (pc' := 10) rfl (hb hby d3_6) (by decide) (by decide) kq) ?_
    show OwnEnds p e below _ (s₁.setTop (mkF m 10 #[.val (.int p0), .val (.int p1)] [(.int p0)]))
    exact own_endI X0 hx hlk Bd.returns (hb hby d3_10) hk0 hn0 ⟨congrArg (fun z => some (Value.int z)) hF, N0, e0⟩
theorem d8_0 : decode jdk_22_method_1_code 0 = .ok (.aload_n 0, 1) := by decide +kernel
theorem d8_1 : decode jdk_22_method_1_code 1 = .ok (.invokespecial 1, 3) := by decide +kernel
theorem d8_4 : decode jdk_22_method_1_code 4 = .ok (.return_, 1) := by decide +kernel
theorem ef_8 (m : MethodId) (a0 : Addr) : entryFrame m #[(.ref a0)] 1 = mkF m 0 #[.val (.ref a0)] [] := by first | (simp [entryFrame, mkF, argsToLocals, Value.category]; done) | rfl
theorem pn_0 : plainName "java/util/AbstractCollection" = true := by first | (simp [plainName, overriddenIn]; done) | decide +kernel
def Q8 (Z : State) (a0 : Addr) (h0 : Heap) (n0 : Nat) (v : Option Value) (h : Heap) (L : List Loc) : Prop := v = none ∧ Fr n0 L ∧ h = h0
set_option maxRecDepth 65536 in
set_option maxHeartbeats 40000000 in
theorem rm8 (l : Launch) (Z : State) (aZ : Array Value) (hw : ∀ d ∈ tables_1, d.before aZ Z = true) (ws : List Jvm.Cond) (a0 : Addr) (h0 : Heap) (n0 : Nat) (Z0 : n0 ≤ h0.size) :
    MetFree l (⟨"java/util/AbstractCollection", "<init>", "()V"⟩ : MethodName) (head1 (Jvm.Cond.code (⟨"java/util/AbstractCollection", "<init>", "()V"⟩ : MethodName) jdk_22_method_1_code 1 none :: ws) ({ frames := 1, cells := 0, slots := 0, locals := 12 } : Room)) (fun a U => a = #[(.ref a0)] ∧ Z.Warmed39 U.vm ∧ U.heap = h0) (fun _ _ _ _ _ => True) (fun _ U o U' => ∃ v L, o = .returned v ∧ Q8 Z a0 h0 n0 v U'.heap L ∧ FrameEnd U o U' L 0 0) := by
  refine MetFree.of_bodySF (plainFor_of_name pn_0) hisR ?_
  intro p e s m args below meth c s₁ Bd hml0 hP hK
  obtain ⟨rfl, hZ, hh⟩ := hP
  have hx := Bd.exec
  have hby := Bd.bytes
  have hml : c.maxLocals = 1 := hml0
  have hown : s.vm.findClass "java/util/AbstractCollection" = some m.cls := findClass_of_methodNamed Bd.named
  have hnm := (name_of_methodNamed Bd.named Bd.method).1
  have hlk := BodyLoose.notSynchronized Bd
  have X0 : Stand p l e ({ frames := 1, cells := 0, slots := 0, locals := 12 } : Room) s m #[(.ref a0)] below meth c s₁ [] 0 0 := Stand.of_body Bd
  have e0 : s₁.heap = h0 := by rw [← hh, Bd.state]; rfl
  have N0 := Fr.nil n0
  have hk0 : 0 ≤ 0 := Nat.zero_le _
  have hn0 : 0 ≤ 0 := Nat.zero_le _
  show OwnEnds p e below (OwnQ s (Q8 Z a0 h0 n0) 0 0) (s₁.setTop (entryFrame m #[(.ref a0)] 1))
  refine .pre (fun t k => castTop (ef_8 m a0) k) ?_
  show OwnEnds p e below _ (s₁.setTop (mkF m 0 #[.val (.ref a0)] []))
  refine .pre (fun _ kq => XS.aloadN X0.here hx rfl (hb hby d8_0) rfl rfl kq) ?_
  show OwnEnds p e below _ (s₁.setTop (mkF m 1 #[.val (.ref a0)] [(.ref a0)]))
  obtain ⟨T1, X1, e1, st1⟩ := initO X0 hx hZ hown (hw _ (List.mem_of_getElem? (i := 39) rfl)) (hw _ (List.mem_of_getElem? (i := 40) rfl)) (hw _ (List.mem_of_getElem? (i := 41) rfl)) e0 (g := (mkF m 1 #[.val (.ref a0)] [(.ref a0)])) rfl (by rw [hml]; rfl) rfl (hb hby d8_1) (by decide) (W := 0) (by show 2 * 0 + _ ≤ _; exact Nat.le_of_eq rfl) (by decide)
  refine .pre (fun _ kq => st1 _ kq) ?_
  show OwnEnds p e below _ (T1.setTop (mkF m 4 #[.val (.ref a0)] []))
  exact own_endV X1 hx hlk Bd.returns (hb hby d8_4) (by decide) (by decide) ⟨rfl, N0, e1⟩
theorem d7_0 : decode jdk_39_method_1_code 0 = .ok (.aload_n 0, 1) := by decide +kernel
theorem d7_1 : decode jdk_39_method_1_code 1 = .ok (.invokespecial 1, 3) := by decide +kernel
theorem d7_4 : decode jdk_39_method_1_code 4 = .ok (.aload_n 0, 1) := by decide +kernel
theorem d7_5 : decode jdk_39_method_1_code 5 = .ok (.iconst 0, 1) := by decide +kernel
theorem d7_6 : decode jdk_39_method_1_code 6 = .ok (.putfield 7, 3) := by decide +kernel
theorem d7_9 : decode jdk_39_method_1_code 9 = .ok (.return_, 1) := by decide +kernel
theorem ef_7 (m : MethodId) (a0 : Addr) : entryFrame m #[(.ref a0)] 1 = mkF m 0 #[.val (.ref a0)] [] := by first | (simp [entryFrame, mkF, argsToLocals, Value.category]; done) | rfl
theorem pn_1 : plainName "java/util/AbstractList" = true := by first | (simp [plainName, overriddenIn]; done) | decide +kernel
theorem pd_2 : parseMethodDescriptor "()V" = some ⟨[], none⟩ := by decide +kernel
def Q7 (Z : State) (a0 : Addr) (u_modCount : Value) (u_elementData : Value) (u_size : Value) (h0 : Heap) (n0 : Nat) (v : Option Value) (h : Heap) (L : List Loc) : Prop := v = none ∧ Fr n0 L ∧ Keep h0 h [a0] ∧ Exa Z h a0 "java/util/ArrayList" ∧ Fld Z h a0 "java/util/AbstractList" "modCount" "I" (.int (0 : Int32)) ∧ Fld Z h a0 "java/util/ArrayList" "elementData" "[Ljava/lang/Object;" u_elementData ∧ Fld Z h a0 "java/util/ArrayList" "size" "I" u_size
set_option maxRecDepth 65536 in
set_option maxHeartbeats 40000000 in
theorem rm7 (l : Launch) (Z : State) (aZ : Array Value) (hw : ∀ d ∈ tables_1, d.before aZ Z = true) (ws : List Jvm.Cond) (a0 : Addr) (u_modCount : Value) (u_elementData : Value) (u_size : Value) (h0 : Heap) (n0 : Nat) (Z0 : n0 ≤ h0.size) (g_a0 : n0 ≤ a0) (E_a0 : Exa Z h0 a0 "java/util/ArrayList") (F_u_modCount : Fld Z h0 a0 "java/util/AbstractList" "modCount" "I" u_modCount) (F_u_elementData : Fld Z h0 a0 "java/util/ArrayList" "elementData" "[Ljava/lang/Object;" u_elementData) (F_u_size : Fld Z h0 a0 "java/util/ArrayList" "size" "I" u_size) :
    MetFree l (⟨"java/util/AbstractList", "<init>", "()V"⟩ : MethodName) (head1 (Jvm.Cond.code (⟨"java/util/AbstractList", "<init>", "()V"⟩ : MethodName) jdk_39_method_1_code 1 none :: ws) ({ frames := 2, cells := 0, slots := 0, locals := 24 } : Room)) (fun a U => a = #[(.ref a0)] ∧ Z.Warmed39 U.vm ∧ U.heap = h0) (fun _ _ _ _ _ => True) (fun _ U o U' => ∃ v L, o = .returned v ∧ Q7 Z a0 u_modCount u_elementData u_size h0 n0 v U'.heap L ∧ FrameEnd U o U' L 0 0) := by
  refine MetFree.of_bodySF (plainFor_of_name pn_1) hisR ?_
  intro p e s m args below meth c s₁ Bd hml0 hP hK
  obtain ⟨rfl, hZ, hh⟩ := hP
  have hx := Bd.exec
  have hby := Bd.bytes
  have hml : c.maxLocals = 1 := hml0
  have hown : s.vm.findClass "java/util/AbstractList" = some m.cls := findClass_of_methodNamed Bd.named
  have hnm := (name_of_methodNamed Bd.named Bd.method).1
  have hlk := BodyLoose.notSynchronized Bd
  have X0 : Stand p l e ({ frames := 2, cells := 0, slots := 0, locals := 24 } : Room) s m #[(.ref a0)] below meth c s₁ [] 0 0 := Stand.of_body Bd
  have e0 : s₁.heap = h0 := by rw [← hh, Bd.state]; rfl
  have N0 := Fr.nil n0
  have hk0 : 0 ≤ 0 := Nat.zero_le _
  have hn0 : 0 ≤ 0 := Nat.zero_le _
  show OwnEnds p e below (OwnQ s (Q7 Z a0 u_modCount u_elementData u_size h0 n0) 0 0) (s₁.setTop (entryFrame m #[(.ref a0)] 1))
  refine .pre (fun t k => castTop (ef_7 m a0) k) ?_
  show OwnEnds p e below _ (s₁.setTop (mkF m 0 #[.val (.ref a0)] []))
  refine .pre (fun _ kq => XS.aloadN X0.here hx rfl (hb hby d7_0) rfl rfl kq) ?_
  show OwnEnds p e below _ (s₁.setTop (mkF m 1 #[.val (.ref a0)] [(.ref a0)]))
  obtain ⟨_, _, ⟨T1, L1, k1, n1⟩, -, X1, ⟨Lc1, hQ1, l1, y1, z1⟩, st1⟩ := X0.specialBack hx (y := (⟨"java/util/AbstractCollection", "<init>", "()V"⟩ : MethodName)) rfl hown (mvT hZ (hw _ (List.mem_of_getElem? (i := 33) rfl))) (mvT hZ (hw _ (List.mem_of_getElem? (i := 34) rfl))) (mvT hZ (hw _ (List.mem_of_getElem? (i := 38) rfl))) (by decide) (backOf (W := 0) (rm8 l Z aZ hw [] a0 h0 n0 Z0) hZ (hw _ (List.mem_of_getElem? (i := 38) rfl)) (hw _ (List.mem_of_getElem? (i := 37) rfl)) (by decide) (by decide)) (g := (mkF m 1 #[.val (.ref a0)] [(.ref a0)])) rfl (by rw [hml]; rfl) (Steps.refl _) (a := a0) (argsL := []) (rest := []) (lenOf pd_2 rfl) rfl (by show 2 * 0 + _ ≤ _; exact Nat.le_of_eq rfl) (hb hby d7_1) (fun _ _ => ⟨rfl, e0, (by decide : 0 + 0 ≤ _), (by decide : 0 + 0 ≤ _)⟩)
  dsimp only [Pt.U, Pt.locs, Pt.cells, Pt.slots] at X1 l1 y1 z1 st1 hQ1
  try dsimp only [Nat.reduceAdd] at y1 z1
  subst y1 z1
  obtain ⟨rfl, N1q, e1⟩ := hQ1
  have N1 : Fr n0 L1 := by rw [l1]; exact Fr.app N0 N1q
  refine .pre (fun _ kq => st1.trans kq) ?_
  show OwnEnds p e below _ (T1.setTop (mkF m 4 #[.val (.ref a0)] []))
  refine .pre (fun _ kq => XS.aloadN X1.here hx rfl (hb hby d7_4) rfl rfl kq) ?_
  show OwnEnds p e below _ (T1.setTop (mkF m 5 #[.val (.ref a0)] [(.ref a0)]))
  refine .pre (fun _ kq => XS.iconst X1.here hx rfl (hb hby d7_5) kq) ?_
  show OwnEnds p e below _ (T1.setTop (mkF m 6 #[.val (.ref a0)] [(.int (0 : Int32)), (.ref a0)]))
  obtain ⟨T2, h2, X2, e2, W2, st2⟩ := putF X1 hx hZ hown (host := "") (Or.inl (hw _ (List.mem_of_getElem? (i := 42) rfl))) Via.refl e1 F_u_modCount E_a0 (Or.inl (hw _ (List.mem_of_getElem? (i := 43) rfl))) (hw _ (List.mem_of_getElem? (i := 22) rfl)) (ty := .int) (by decide) rfl rfl (g := (mkF m 6 #[.val (.ref a0)] [(.int (0 : Int32)), (.ref a0)])) rfl rfl (hb hby d7_6)
  have Fw2 := F_u_modCount.same W2
  have N2 := Fr.snoc X2 N1 g_a0
  have Kp2 : Keep h0 h2 [a0] := (Keep.refl h0 [a0]).wr W2 (Or.inl (List.mem_of_getElem? (i := 0) rfl))
  refine .pre (fun _ kq => st2 _ kq) ?_
  show OwnEnds p e below _ (T2.setTop (mkF m 9 #[.val (.ref a0)] []))
  exact own_endV X2 hx hlk Bd.returns (hb hby d7_9) (by decide) (by decide) ⟨rfl, N2, (by rw [e2]; exact Kp2), (by rw [e2]; exact (E_a0.wr W2)), (by rw [e2]; exact Fw2), (by rw [e2]; exact (F_u_elementData.other W2 (Or.inr (slot_ne (Or.inl (hw _ (List.mem_of_getElem? (i := 46) rfl))) (Or.inl (hw _ (List.mem_of_getElem? (i := 43) rfl))) (by decide) (t := (.array (.object "java/lang/Object"))) (t' := .int) (by decide) (by decide))))), (by rw [e2]; exact (F_u_size.other W2 (Or.inr (slot_ne (Or.inl (hw _ (List.mem_of_getElem? (i := 137) rfl))) (Or.inl (hw _ (List.mem_of_getElem? (i := 43) rfl))) (by decide) (t := .int) (t' := .int) (by decide) (by decide)))))⟩
theorem d6_0 : decode jdk_38_method_2_code 0 = .ok (.aload_n 0, 1) := by decide +kernel
theorem d6_1 : decode jdk_38_method_2_code 1 = .ok (.invokespecial 1, 3) := by decide +kernel
theorem d6_4 : decode jdk_38_method_2_code 4 = .ok (.aload_n 0, 1) := by decide +kernel
theorem d6_5 : decode jdk_38_method_2_code 5 = .ok (.getstatic 39, 3) := by decide +kernel
theorem d6_8 : decode jdk_38_method_2_code 8 = .ok (.putfield 9, 3) := by decide +kernel
theorem d6_11 : decode jdk_38_method_2_code 11 = .ok (.return_, 1) := by decide +kernel
theorem ef_6 (m : MethodId) (a0 : Addr) : entryFrame m #[(.ref a0)] 1 = mkF m 0 #[.val (.ref a0)] [] := by first | (simp [entryFrame, mkF, argsToLocals, Value.category]; done) | rfl
theorem pn_3 : plainName "java/util/ArrayList" = true := by first | (simp [plainName, overriddenIn]; done) | decide +kernel
def Q6 (Z : State) (a0 : Addr) (xD : Addr) (u_modCount : Value) (u_elementData : Value) (u_size : Value) (h0 : Heap) (n0 : Nat) (v : Option Value) (h : Heap) (L : List Loc) : Prop := v = none ∧ Fr n0 L ∧ Keep h0 h [a0] ∧ Exa Z h a0 "java/util/ArrayList" ∧ Fld Z h a0 "java/util/AbstractList" "modCount" "I" (.int (0 : Int32)) ∧ Fld Z h a0 "java/util/ArrayList" "elementData" "[Ljava/lang/Object;" (.ref xD) ∧ Fld Z h a0 "java/util/ArrayList" "size" "I" u_size
set_option maxRecDepth 65536 in
set_option maxHeartbeats 40000000 in
theorem rm6 (l : Launch) (Z : State) (aZ : Array Value) (hw : ∀ d ∈ tables_1, d.before aZ Z = true) (ws : List Jvm.Cond) (a0 : Addr) (xD : Addr) (u_modCount : Value) (u_elementData : Value) (u_size : Value) (h0 : Heap) (n0 : Nat) (Z0 : n0 ≤ h0.size) (SD : Sta Z h0 "java/util/ArrayList" "DEFAULTCAPACITY_EMPTY_ELEMENTDATA" "[Ljava/lang/Object;" (.ref xD)) (g_a0 : n0 ≤ a0) (E_a0 : Exa Z h0 a0 "java/util/ArrayList") (F_u_modCount : Fld Z h0 a0 "java/util/AbstractList" "modCount" "I" u_modCount) (F_u_elementData : Fld Z h0 a0 "java/util/ArrayList" "elementData" "[Ljava/lang/Object;" u_elementData) (F_u_size : Fld Z h0 a0 "java/util/ArrayList" "size" "I" u_size) :
    MetFree l (⟨"java/util/ArrayList", "<init>", "()V"⟩ : MethodName) (head1 (Jvm.Cond.code (⟨"java/util/ArrayList", "<init>", "()V"⟩ : MethodName) jdk_38_method_2_code 1 none :: ws) ({ frames := 3, cells := 0, slots := 0, locals := 36 } : Room)) (fun a U => a = #[(.ref a0)] ∧ Z.Warmed39 U.vm ∧ U.heap = h0) (fun _ _ _ _ _ => True) (fun _ U o U' => ∃ v L, o = .returned v ∧ Q6 Z a0 xD u_modCount u_elementData u_size h0 n0 v U'.heap L ∧ FrameEnd U o U' L 0 0) := by
  refine MetFree.of_bodySF (plainFor_of_name pn_3) hisR ?_
  intro p e s m args below meth c s₁ Bd hml0 hP hK
  obtain ⟨rfl, hZ, hh⟩ := hP
  have hx := Bd.exec
  have hby := Bd.bytes
  have hml : c.maxLocals = 1 := hml0
  have hown : s.vm.findClass "java/util/ArrayList" = some m.cls := findClass_of_methodNamed Bd.named
  have hnm := (name_of_methodNamed Bd.named Bd.method).1
  have hlk := BodyLoose.notSynchronized Bd
  have X0 : Stand p l e ({ frames := 3, cells := 0, slots := 0, locals := 36 } : Room) s m #[(.ref a0)] below meth c s₁ [] 0 0 := Stand.of_body Bd
  have e0 : s₁.heap = h0 := by rw [← hh, Bd.state]; rfl
  have N0 := Fr.nil n0
  have hk0 : 0 ≤ 0 := Nat.zero_le _
  have hn0 : 0 ≤ 0 := Nat.zero_le _
  show OwnEnds p e below (OwnQ s (Q6 Z a0 xD u_modCount u_elementData u_size h0 n0) 0 0) (s₁.setTop (entryFrame m #[(.ref a0)] 1))
  refine .pre (fun t k => castTop (ef_6 m a0) k) ?_
  show OwnEnds p e below _ (s₁.setTop (mkF m 0 #[.val (.ref a0)] []))
  refine .pre (fun _ kq => XS.aloadN X0.here hx rfl (hb hby d6_0) rfl rfl kq) ?_
  show OwnEnds p e below _ (s₁.setTop (mkF m 1 #[.val (.ref a0)] [(.ref a0)]))
  obtain ⟨_, _, ⟨T1, L1, k1, n1⟩, -, X1, ⟨Lc1, hQ1, l1, y1, z1⟩, st1⟩ := X0.specialBack hx (y := (⟨"java/util/AbstractList", "<init>", "()V"⟩ : MethodName)) rfl hown (mvT hZ (hw _ (List.mem_of_getElem? (i := 27) rfl))) (mvT hZ (hw _ (List.mem_of_getElem? (i := 28) rfl))) (mvT hZ (hw _ (List.mem_of_getElem? (i := 32) rfl))) (by decide) (backOf (W := 0) (rm7 l Z aZ hw [] a0 u_modCount u_elementData u_size h0 n0 Z0 g_a0 E_a0 F_u_modCount F_u_elementData F_u_size) hZ (hw _ (List.mem_of_getElem? (i := 32) rfl)) (hw _ (List.mem_of_getElem? (i := 31) rfl)) (by decide) (by decide)) (g := (mkF m 1 #[.val (.ref a0)] [(.ref a0)])) rfl (by rw [hml]; rfl) (Steps.refl _) (a := a0) (argsL := []) (rest := []) (lenOf pd_2 rfl) rfl (by show 2 * 0 + _ ≤ _; exact Nat.le_of_eq rfl) (hb hby d6_1) (fun _ _ => ⟨rfl, e0, (by decide : 0 + 0 ≤ _), (by decide : 0 + 0 ≤ _)⟩)
  dsimp only [Pt.U, Pt.locs, Pt.cells, Pt.slots] at X1 l1 y1 z1 st1 hQ1
  try dsimp only [Nat.reduceAdd] at y1 z1
  subst y1 z1
  obtain ⟨rfl, N1q, K1, Ea1, Fa1_0, Fa1_1, Fa1_2⟩ := hQ1
  have N1 : Fr n0 L1 := by rw [l1]; exact Fr.app N0 N1q
  refine .pre (fun _ kq => st1.trans kq) ?_
  have Kp1 : Keep h0 T1.heap [a0] := (Keep.refl h0 [a0]).trans K1 (allS (Or.inl (List.mem_of_getElem? (i := 0) rfl)) all0)
  show OwnEnds p e below _ (T1.setTop (mkF m 4 #[.val (.ref a0)] []))
  refine .pre (fun _ kq => XS.aloadN X1.here hx rfl (hb hby d6_4) rfl rfl kq) ?_
  show OwnEnds p e below _ (T1.setTop (mkF m 5 #[.val (.ref a0)] [(.ref a0)]))
  obtain ⟨T2, X2, e2, st2⟩ := getS2 X1 hx hZ hown (host := "") (Or.inl (hw _ (List.mem_of_getElem? (i := 44) rfl))) Via.refl rfl (own_staK1 SD K1 E_a0) (g := (mkF m 5 #[.val (.ref a0)] [(.ref a0)])) rfl (hb hby d6_5)
  refine .pre (fun _ kq => st2 _ kq) ?_
  show OwnEnds p e below _ (T2.setTop (mkF m 8 #[.val (.ref a0)] [(.ref xD), (.ref a0)]))
  obtain ⟨T3, h3, X3, e3, W3, st3⟩ := putF X2 hx hZ hown (host := "") (Or.inl (hw _ (List.mem_of_getElem? (i := 45) rfl))) Via.refl e2 Fa1_1 Ea1 (Or.inl (hw _ (List.mem_of_getElem? (i := 46) rfl))) (hw _ (List.mem_of_getElem? (i := 22) rfl)) (ty := (.array (.object "java/lang/Object"))) (by decide) rfl rfl (g := (mkF m 8 #[.val (.ref a0)] [(.ref xD), (.ref a0)])) rfl rfl (hb hby d6_8)
  have Fw3 := Fa1_1.same W3
  have N3 := Fr.snoc X3 N1 g_a0
  have Kp3 : Keep h0 h3 [a0] := Kp1.wr W3 (Or.inl (List.mem_of_getElem? (i := 0) rfl))
  refine .pre (fun _ kq => st3 _ kq) ?_
  show OwnEnds p e below _ (T3.setTop (mkF m 11 #[.val (.ref a0)] []))
  exact own_endV X3 hx hlk Bd.returns (hb hby d6_11) (by decide) (by decide) ⟨rfl, N3, (by rw [e3]; exact Kp3), (by rw [e3]; exact (Ea1.wr W3)), (by rw [e3]; exact (Fa1_0.other W3 (Or.inr (slot_ne (Or.inl (hw _ (List.mem_of_getElem? (i := 43) rfl))) (Or.inl (hw _ (List.mem_of_getElem? (i := 46) rfl))) (by decide) (t := .int) (t' := (.array (.object "java/lang/Object"))) (by decide) (by decide))))), (by rw [e3]; exact Fw3), (by rw [e3]; exact (Fa1_2.other W3 (Or.inr (slot_ne (Or.inl (hw _ (List.mem_of_getElem? (i := 137) rfl))) (Or.inl (hw _ (List.mem_of_getElem? (i := 46) rfl))) (by decide) (t := .int) (t' := (.array (.object "java/lang/Object"))) (by decide) (by decide)))))⟩
theorem d12_0 : decode jdk_71_method_1_code 0 = .ok (.aload_n 0, 1) := by decide +kernel
theorem d12_1 : decode jdk_71_method_1_code 1 = .ok (.invokespecial 1, 3) := by decide +kernel
theorem d12_4 : decode jdk_71_method_1_code 4 = .ok (.return_, 1) := by decide +kernel
theorem ef_12 (m : MethodId) (a0 : Addr) : entryFrame m #[(.ref a0)] 1 = mkF m 0 #[.val (.ref a0)] [] := by first | (simp [entryFrame, mkF, argsToLocals, Value.category]; done) | rfl
theorem pn_4 : plainName "java/util/AbstractMap" = true := by first | (simp [plainName, overriddenIn]; done) | decide +kernel
def Q12 (Z : State) (a0 : Addr) (h0 : Heap) (n0 : Nat) (v : Option Value) (h : Heap) (L : List Loc) : Prop := v = none ∧ Fr n0 L ∧ h = h0
set_option maxRecDepth 65536 in
set_option maxHeartbeats 40000000 in
theorem rm12 (l : Launch) (Z : State) (aZ : Array Value) (hw : ∀ d ∈ tables_1, d.before aZ Z = true) (ws : List Jvm.Cond) (a0 : Addr) (h0 : Heap) (n0 : Nat) (Z0 : n0 ≤ h0.size) :
    MetFree l (⟨"java/util/AbstractMap", "<init>", "()V"⟩ : MethodName) (head1 (Jvm.Cond.code (⟨"java/util/AbstractMap", "<init>", "()V"⟩ : MethodName) jdk_71_method_1_code 1 none :: ws) ({ frames := 1, cells := 0, slots := 0, locals := 12 } : Room)) (fun a U => a = #[(.ref a0)] ∧ Z.Warmed39 U.vm ∧ U.heap = h0) (fun _ _ _ _ _ => True) (fun _ U o U' => ∃ v L, o = .returned v ∧ Q12 Z a0 h0 n0 v U'.heap L ∧ FrameEnd U o U' L 0 0) := by
  refine MetFree.of_bodySF (plainFor_of_name pn_4) hisR ?_
  intro p e s m args below meth c s₁ Bd hml0 hP hK
  obtain ⟨rfl, hZ, hh⟩ := hP
  have hx := Bd.exec
  have hby := Bd.bytes
  have hml : c.maxLocals = 1 := hml0
  have hown : s.vm.findClass "java/util/AbstractMap" = some m.cls := findClass_of_methodNamed Bd.named
  have hnm := (name_of_methodNamed Bd.named Bd.method).1
  have hlk := BodyLoose.notSynchronized Bd
  have X0 : Stand p l e ({ frames := 1, cells := 0, slots := 0, locals := 12 } : Room) s m #[(.ref a0)] below meth c s₁ [] 0 0 := Stand.of_body Bd
  have e0 : s₁.heap = h0 := by rw [← hh, Bd.state]; rfl
  have N0 := Fr.nil n0
  have hk0 : 0 ≤ 0 := Nat.zero_le _
  have hn0 : 0 ≤ 0 := Nat.zero_le _
  show OwnEnds p e below (OwnQ s (Q12 Z a0 h0 n0) 0 0) (s₁.setTop (entryFrame m #[(.ref a0)] 1))
  refine .pre (fun t k => castTop (ef_12 m a0) k) ?_
  show OwnEnds p e below _ (s₁.setTop (mkF m 0 #[.val (.ref a0)] []))
  refine .pre (fun _ kq => XS.aloadN X0.here hx rfl (hb hby d12_0) rfl rfl kq) ?_
  show OwnEnds p e below _ (s₁.setTop (mkF m 1 #[.val (.ref a0)] [(.ref a0)]))
  obtain ⟨T1, X1, e1, st1⟩ := initO X0 hx hZ hown (hw _ (List.mem_of_getElem? (i := 63) rfl)) (hw _ (List.mem_of_getElem? (i := 40) rfl)) (hw _ (List.mem_of_getElem? (i := 41) rfl)) e0 (g := (mkF m 1 #[.val (.ref a0)] [(.ref a0)])) rfl (by rw [hml]; rfl) rfl (hb hby d12_1) (by decide) (W := 0) (by show 2 * 0 + _ ≤ _; exact Nat.le_of_eq rfl) (by decide)
  refine .pre (fun _ kq => st1 _ kq) ?_
  show OwnEnds p e below _ (T1.setTop (mkF m 4 #[.val (.ref a0)] []))
  exact own_endV X1 hx hlk Bd.returns (hb hby d12_4) (by decide) (by decide) ⟨rfl, N0, e1⟩
theorem d11_0 : decode jdk_2776_method_8_code 0 = .ok (.aload_n 0, 1) := by decide +kernel
theorem d11_1 : decode jdk_2776_method_8_code 1 = .ok (.invokespecial 67, 3) := by decide +kernel
theorem d11_4 : decode jdk_2776_method_8_code 4 = .ok (.return_, 1) := by decide +kernel
theorem ef_11 (m : MethodId) (a0 : Addr) : entryFrame m #[(.ref a0)] 1 = mkF m 0 #[.val (.ref a0)] [] := by first | (simp [entryFrame, mkF, argsToLocals, Value.category]; done) | rfl
theorem pn_5 : plainName "java/util/concurrent/ConcurrentHashMap" = true := by first | (simp [plainName, overriddenIn]; done) | decide +kernel
def Q11 (Z : State) (a0 : Addr) (h0 : Heap) (n0 : Nat) (v : Option Value) (h : Heap) (L : List Loc) : Prop := v = none ∧ Fr n0 L ∧ h = h0
set_option maxRecDepth 65536 in
set_option maxHeartbeats 40000000 in
theorem rm11 (l : Launch) (Z : State) (aZ : Array Value) (hw : ∀ d ∈ tables_1, d.before aZ Z = true) (ws : List Jvm.Cond) (a0 : Addr) (h0 : Heap) (n0 : Nat) (Z0 : n0 ≤ h0.size) :
    MetFree l (⟨"java/util/concurrent/ConcurrentHashMap", "<init>", "()V"⟩ : MethodName) (head1 (Jvm.Cond.code (⟨"java/util/concurrent/ConcurrentHashMap", "<init>", "()V"⟩ : MethodName) jdk_2776_method_8_code 1 none :: ws) ({ frames := 2, cells := 0, slots := 0, locals := 24 } : Room)) (fun a U => a = #[(.ref a0)] ∧ Z.Warmed39 U.vm ∧ U.heap = h0) (fun _ _ _ _ _ => True) (fun _ U o U' => ∃ v L, o = .returned v ∧ Q11 Z a0 h0 n0 v U'.heap L ∧ FrameEnd U o U' L 0 0) := by
  refine MetFree.of_bodySF (plainFor_of_name pn_5) hisR ?_
  intro p e s m args below meth c s₁ Bd hml0 hP hK
  obtain ⟨rfl, hZ, hh⟩ := hP
  have hx := Bd.exec
  have hby := Bd.bytes
  have hml : c.maxLocals = 1 := hml0
  have hown : s.vm.findClass "java/util/concurrent/ConcurrentHashMap" = some m.cls := findClass_of_methodNamed Bd.named
  have hnm := (name_of_methodNamed Bd.named Bd.method).1
  have hlk := BodyLoose.notSynchronized Bd
  have X0 : Stand p l e ({ frames := 2, cells := 0, slots := 0, locals := 24 } : Room) s m #[(.ref a0)] below meth c s₁ [] 0 0 := Stand.of_body Bd
  have e0 : s₁.heap = h0 := by rw [← hh, Bd.state]; rfl
  have N0 := Fr.nil n0
  have hk0 : 0 ≤ 0 := Nat.zero_le _
  have hn0 : 0 ≤ 0 := Nat.zero_le _
  show OwnEnds p e below (OwnQ s (Q11 Z a0 h0 n0) 0 0) (s₁.setTop (entryFrame m #[(.ref a0)] 1))
  refine .pre (fun t k => castTop (ef_11 m a0) k) ?_
  show OwnEnds p e below _ (s₁.setTop (mkF m 0 #[.val (.ref a0)] []))
  refine .pre (fun _ kq => XS.aloadN X0.here hx rfl (hb hby d11_0) rfl rfl kq) ?_
  show OwnEnds p e below _ (s₁.setTop (mkF m 1 #[.val (.ref a0)] [(.ref a0)]))
  obtain ⟨_, _, ⟨T1, L1, k1, n1⟩, -, X1, ⟨Lc1, hQ1, l1, y1, z1⟩, st1⟩ := X0.specialBack hx (y := (⟨"java/util/AbstractMap", "<init>", "()V"⟩ : MethodName)) rfl hown (mvT hZ (hw _ (List.mem_of_getElem? (i := 57) rfl))) (mvT hZ (hw _ (List.mem_of_getElem? (i := 58) rfl))) (mvT hZ (hw _ (List.mem_of_getElem? (i := 62) rfl))) (by decide) (backOf (W := 0) (rm12 l Z aZ hw [] a0 h0 n0 Z0) hZ (hw _ (List.mem_of_getElem? (i := 62) rfl)) (hw _ (List.mem_of_getElem? (i := 61) rfl)) (by decide) (by decide)) (g := (mkF m 1 #[.val (.ref a0)] [(.ref a0)])) rfl (by rw [hml]; rfl) (Steps.refl _) (a := a0) (argsL := []) (rest := []) (lenOf pd_2 rfl) rfl (by show 2 * 0 + _ ≤ _; exact Nat.le_of_eq rfl) (hb hby d11_1) (fun _ _ => ⟨rfl, e0, (by decide : 0 + 0 ≤ _), (by decide : 0 + 0 ≤ _)⟩)
  dsimp only [Pt.U, Pt.locs, Pt.cells, Pt.slots] at X1 l1 y1 z1 st1 hQ1
  try dsimp only [Nat.reduceAdd] at y1 z1
  subst y1 z1
  obtain ⟨rfl, N1q, e1⟩ := hQ1
  have N1 : Fr n0 L1 := by rw [l1]; exact Fr.app N0 N1q
  refine .pre (fun _ kq => st1.trans kq) ?_
  show OwnEnds p e below _ (T1.setTop (mkF m 4 #[.val (.ref a0)] []))
  exact own_endV X1 hx hlk Bd.returns (hb hby d11_4) (by decide) (by decide) ⟨rfl, N1, e1⟩
theorem d10_0 : decode prog_39_method_1_code 0 = .ok (.aload_n 0, 1) := by decide +kernel
theorem d10_1 : decode prog_39_method_1_code 1 = .ok (.invokespecial 1, 3) := by decide +kernel
theorem d10_4 : decode prog_39_method_1_code 4 = .ok (.aload_n 0, 1) := by decide +kernel
theorem d10_5 : decode prog_39_method_1_code 5 = .ok (.new 7, 3) := by decide +kernel
theorem d10_8 : decode prog_39_method_1_code 8 = .ok (.dup, 1) := by decide +kernel
theorem d10_9 : decode prog_39_method_1_code 9 = .ok (.invokespecial 9, 3) := by decide +kernel
theorem d10_12 : decode prog_39_method_1_code 12 = .ok (.putfield 10, 3) := by decide +kernel
theorem d10_15 : decode prog_39_method_1_code 15 = .ok (.aload_n 0, 1) := by decide +kernel
theorem d10_16 : decode prog_39_method_1_code 16 = .ok (.new 16, 3) := by decide +kernel
theorem d10_19 : decode prog_39_method_1_code 19 = .ok (.dup, 1) := by decide +kernel
theorem d10_20 : decode prog_39_method_1_code 20 = .ok (.invokespecial 18, 3) := by decide +kernel
theorem d10_23 : decode prog_39_method_1_code 23 = .ok (.putfield 19, 3) := by decide +kernel
theorem d10_26 : decode prog_39_method_1_code 26 = .ok (.aload_n 0, 1) := by decide +kernel
theorem d10_27 : decode prog_39_method_1_code 27 = .ok (.sipush 1024, 3) := by decide +kernel
theorem d10_30 : decode prog_39_method_1_code 30 = .ok (.newarray .int, 2) := by decide +kernel
theorem d10_32 : decode prog_39_method_1_code 32 = .ok (.putfield 23, 3) := by decide +kernel
theorem d10_35 : decode prog_39_method_1_code 35 = .ok (.aload_n 0, 1) := by decide +kernel
theorem d10_36 : decode prog_39_method_1_code 36 = .ok (.sipush 1024, 3) := by decide +kernel
theorem d10_39 : decode prog_39_method_1_code 39 = .ok (.newarray .int, 2) := by decide +kernel
theorem d10_41 : decode prog_39_method_1_code 41 = .ok (.putfield 27, 3) := by decide +kernel
theorem d10_44 : decode prog_39_method_1_code 44 = .ok (.aload_n 0, 1) := by decide +kernel
theorem d10_45 : decode prog_39_method_1_code 45 = .ok (.iconst (-1), 1) := by decide +kernel
theorem d10_46 : decode prog_39_method_1_code 46 = .ok (.putfield 30, 3) := by decide +kernel
theorem d10_49 : decode prog_39_method_1_code 49 = .ok (.aload_n 0, 1) := by decide +kernel
theorem d10_50 : decode prog_39_method_1_code 50 = .ok (.aload_n 1, 1) := by decide +kernel
theorem d10_51 : decode prog_39_method_1_code 51 = .ok (.putfield 34, 3) := by decide +kernel
theorem d10_54 : decode prog_39_method_1_code 54 = .ok (.aload_n 0, 1) := by decide +kernel
theorem d10_55 : decode prog_39_method_1_code 55 = .ok (.iload_n 2, 1) := by decide +kernel
theorem d10_56 : decode prog_39_method_1_code 56 = .ok (.putfield 37, 3) := by decide +kernel
theorem d10_59 : decode prog_39_method_1_code 59 = .ok (.iload_n 2, 1) := by decide +kernel
theorem d10_60 : decode prog_39_method_1_code 60 = .ok (.ifCond .eq 9, 3) := by decide +kernel
theorem d10_63 : decode prog_39_method_1_code 63 = .ok (.sipush 1024, 3) := by decide +kernel
theorem d10_66 : decode prog_39_method_1_code 66 = .ok (.goto 4, 3) := by decide +kernel
theorem d10_69 : decode prog_39_method_1_code 69 = .ok (.iconst 0, 1) := by decide +kernel
theorem d10_70 : decode prog_39_method_1_code 70 = .ok (.istore_n 3, 1) := by decide +kernel
theorem d10_71 : decode prog_39_method_1_code 71 = .ok (.aload_n 0, 1) := by decide +kernel
theorem d10_72 : decode prog_39_method_1_code 72 = .ok (.iload_n 3, 1) := by decide +kernel
theorem d10_73 : decode prog_39_method_1_code 73 = .ok (.newarray .int, 2) := by decide +kernel
theorem d10_75 : decode prog_39_method_1_code 75 = .ok (.putfield 41, 3) := by decide +kernel
theorem d10_78 : decode prog_39_method_1_code 78 = .ok (.aload_n 0, 1) := by decide +kernel
theorem d10_79 : decode prog_39_method_1_code 79 = .ok (.iload_n 3, 1) := by decide +kernel
theorem d10_80 : decode prog_39_method_1_code 80 = .ok (.newarray .int, 2) := by decide +kernel
theorem d10_82 : decode prog_39_method_1_code 82 = .ok (.putfield 44, 3) := by decide +kernel
theorem d10_85 : decode prog_39_method_1_code 85 = .ok (.aload_n 0, 1) := by decide +kernel
theorem d10_86 : decode prog_39_method_1_code 86 = .ok (.iload_n 3, 1) := by decide +kernel
theorem d10_87 : decode prog_39_method_1_code 87 = .ok (.newarray .int, 2) := by decide +kernel
theorem d10_89 : decode prog_39_method_1_code 89 = .ok (.putfield 47, 3) := by decide +kernel
theorem d10_92 : decode prog_39_method_1_code 92 = .ok (.aload_n 0, 1) := by decide +kernel
theorem d10_93 : decode prog_39_method_1_code 93 = .ok (.iload_n 3, 1) := by decide +kernel
theorem d10_94 : decode prog_39_method_1_code 94 = .ok (.newarray .int, 2) := by decide +kernel
theorem d10_96 : decode prog_39_method_1_code 96 = .ok (.putfield 50, 3) := by decide +kernel
theorem d10_99 : decode prog_39_method_1_code 99 = .ok (.return_, 1) := by decide +kernel
theorem ef_10 (m : MethodId) (a0 : Addr) (a1 : Addr) : entryFrame m #[(.ref a0), (.ref a1), (.int (1 : Int32))] 4 = mkF m 0 #[.val (.ref a0), .val (.ref a1), .val (.int (1 : Int32)), .unset] [] := by first | (simp [entryFrame, mkF, argsToLocals, Value.category]; done) | rfl
theorem pn_6 : plainName "com/example/changeset/changeset/check/StateGraph" = true := by first | (simp [plainName, overriddenIn]; done) | decide +kernel
def Q10 (Z : State) (a0 : Addr) (a1 : Addr) (xD : Addr) (h0 : Heap) (n0 : Nat) (v : Option Value) (h : Heap) (L : List Loc) : Prop := v = none ∧ Fr n0 L ∧ Keep h0 h [a0] ∧ ∃ aL aP aR aF aE aT aA : Addr, OwnG Z h a0 aL aP aR aF aE aT aA (-1) 0 0 (fun _ => 0) (fun _ => 0) ∧ OwnL Z h aL xD 0 0 ∧ [a0, aL, aP, aR, aF, aE, aT, aA].Pairwise (· ≠ ·) ∧ ∀ x ∈ [aL, aP, aR, aF, aE, aT, aA], n0 ≤ x
set_option maxRecDepth 65536 in
set_option maxHeartbeats 40000000 in
theorem rm10 (l : Launch) (Z : State) (aZ : Array Value) (hw : ∀ d ∈ tables_1, d.before aZ Z = true) (ws : List Jvm.Cond) (a0 : Addr) (a1 : Addr) (xD : Addr) (h0 : Heap) (n0 : Nat) (Z0 : n0 ≤ h0.size) (SD : Sta Z h0 "java/util/ArrayList" "DEFAULTCAPACITY_EMPTY_ELEMENTDATA" "[Ljava/lang/Object;" (.ref xD)) (RX : OwnR Z h0 xD "java/lang/Object" (0 : Int32)) (g_a0 : n0 ≤ a0) (EG : Exa Z h0 a0 "com/example/changeset/changeset/check/StateGraph") (G0 : Fld Z h0 a0 "com/example/changeset/changeset/check/StateGraph" "found" "Ljava/util/Map;" .null) (G1 : Fld Z h0 a0 "com/example/changeset/changeset/check/StateGraph" "states" "Ljava/util/List;" .null) (G2 : Fld Z h0 a0 "com/example/changeset/changeset/check/StateGraph" "predecessors" "[I" .null) (G3 : Fld Z h0 a0 "com/example/changeset/changeset/check/StateGraph" "reachedBy" "[I" .null) (G4 : Fld Z h0 a0 "com/example/changeset/changeset/check/StateGraph" "lastWithEdges" "I" (.int (0 : Int32))) (G5 : Fld Z h0 a0 "com/example/changeset/changeset/check/StateGraph" "actions" "Ljava/util/List;" .null) (G6 : Fld Z h0 a0 "com/example/changeset/changeset/check/StateGraph" "keepsEdges" "Z" (.int (0 : Int32))) (G7 : Fld Z h0 a0 "com/example/changeset/changeset/check/StateGraph" "firstEdges" "[I" .null) (G8 : Fld Z h0 a0 "com/example/changeset/changeset/check/StateGraph" "lastEdgeFrom" "[I" .null) (G9 : Fld Z h0 a0 "com/example/changeset/changeset/check/StateGraph" "edgeTargets" "[I" .null) (G10 : Fld Z h0 a0 "com/example/changeset/changeset/check/StateGraph" "edgeActions" "[I" .null) (G11 : Fld Z h0 a0 "com/example/changeset/changeset/check/StateGraph" "initialStates" "I" (.int (0 : Int32))) (G12 : Fld Z h0 a0 "com/example/changeset/changeset/check/StateGraph" "edges" "I" (.int (0 : Int32))) (x0 : a0 ≠ xD) :
    MetFree l (⟨"com/example/changeset/changeset/check/StateGraph", "<init>", "(Ljava/util/List;Z)V"⟩ : MethodName) (head1 (Jvm.Cond.code (⟨"com/example/changeset/changeset/check/StateGraph", "<init>", "(Ljava/util/List;Z)V"⟩ : MethodName) prog_39_method_1_code 4 none :: ws) ({ frames := 4, cells := 8, slots := 6159, locals := 64 } : Room)) (fun a U => a = #[(.ref a0), (.ref a1), (.int (1 : Int32))] ∧ Z.Warmed39 U.vm ∧ U.heap = h0) (fun _ _ _ _ _ => True) (fun _ U o U' => ∃ v L, o = .returned v ∧ Q10 Z a0 a1 xD h0 n0 v U'.heap L ∧ FrameEnd U o U' L 8 6159) := by
  refine MetFree.of_bodySF (plainFor_of_name pn_6) hisR ?_
  intro p e s m args below meth c s₁ Bd hml0 hP hK
  obtain ⟨rfl, hZ, hh⟩ := hP
  have hx := Bd.exec
  have hby := Bd.bytes
  have hml : c.maxLocals = 4 := hml0
  have hown : s.vm.findClass "com/example/changeset/changeset/check/StateGraph" = some m.cls := findClass_of_methodNamed Bd.named
  have hnm := (name_of_methodNamed Bd.named Bd.method).1
  have hlk := BodyLoose.notSynchronized Bd
  have X0 : Stand p l e ({ frames := 4, cells := 8, slots := 6159, locals := 64 } : Room) s m #[(.ref a0), (.ref a1), (.int (1 : Int32))] below meth c s₁ [] 0 0 := Stand.of_body Bd
  have e0 : s₁.heap = h0 := by rw [← hh, Bd.state]; rfl
  have N0 := Fr.nil n0
  have hk0 : 0 ≤ 8 := Nat.zero_le _
  have hn0 : 0 ≤ 6159 := Nat.zero_le _
  show OwnEnds p e below (OwnQ s (Q10 Z a0 a1 xD h0 n0) 8 6159) (s₁.setTop (entryFrame m #[(.ref a0), (.ref a1), (.int (1 : Int32))] 4))
  refine .pre (fun t k => castTop (ef_10 m a0 a1) k) ?_
  show OwnEnds p e below _ (s₁.setTop (mkF m 0 #[.val (.ref a0), .val (.ref a1), .val (.int (1 : Int32)), .unset] []))
  refine .pre (fun _ kq => XS.aloadN X0.here hx rfl (hb hby d10_0) rfl rfl kq) ?_
  show OwnEnds p e below _ (s₁.setTop (mkF m 1 #[.val (.ref a0), .val (.ref a1), .val (.int (1 : Int32)), .unset] [(.ref a0)]))
  obtain ⟨T1, X1, e1, st1⟩ := initO X0 hx hZ hown (hw _ (List.mem_of_getElem? (i := 50) rfl)) (hw _ (List.mem_of_getElem? (i := 40) rfl)) (hw _ (List.mem_of_getElem? (i := 41) rfl)) e0 (g := (mkF m 1 #[.val (.ref a0), .val (.ref a1), .val (.int (1 : Int32)), .unset] [(.ref a0)])) rfl (by rw [hml]; rfl) rfl (hb hby d10_1) (by decide) (W := 0) (by show 2 * 0 + _ ≤ _; exact Nat.le_of_eq rfl) (by decide)
  refine .pre (fun _ kq => st1 _ kq) ?_
  show OwnEnds p e below _ (T1.setTop (mkF m 4 #[.val (.ref a0), .val (.ref a1), .val (.int (1 : Int32)), .unset] []))
  refine .pre (fun _ kq => XS.aloadN X1.here hx rfl (hb hby d10_4) rfl rfl kq) ?_
  show OwnEnds p e below _ (T1.setTop (mkF m 5 #[.val (.ref a0), .val (.ref a1), .val (.int (1 : Int32)), .unset] [(.ref a0)]))
  obtain ⟨T2, h2, X2, e2, E2, A2, D2, U2, st2⟩ := newO X1 hx hZ hown (hw _ (List.mem_of_getElem? (i := 51) rfl)) (hw _ (List.mem_of_getElem? (i := 52) rfl)) (hw _ (List.mem_of_getElem? (i := 53) rfl)) e1 (g := (mkF m 5 #[.val (.ref a0), .val (.ref a1), .val (.int (1 : Int32)), .unset] [(.ref a0)])) rfl (hb hby d10_5) (by decide) (by decide)
  obtain ⟨b2, g2⟩ : ∃ z, z = h0.size := ⟨_, rfl⟩
  rw [← g2] at A2 D2 U2 st2
  have g_b2 : n0 ≤ b2 := Nat.le_trans Z0 (Nat.le_of_eq g2.symm)
  have sz_b2 : h0.size ≤ b2 := Nat.le_trans (Keep.refl h0 [a0]).1 (Nat.le_of_eq g2.symm)
  have Kp2 : Keep h0 h2 [a0] := (Keep.refl h0 [a0]).ext E2
  refine .pre (fun _ kq => st2 _ kq) ?_
  show OwnEnds p e below _ (T2.setTop (mkF m 8 #[.val (.ref a0), .val (.ref a1), .val (.int (1 : Int32)), .unset] [(.ref b2), (.ref a0)]))
  refine .pre (fun _ kq => XS.dup X2.here hx rfl (hb hby d10_8) rfl rfl kq) ?_
  show OwnEnds p e below _ (T2.setTop (mkF m 9 #[.val (.ref a0), .val (.ref a1), .val (.int (1 : Int32)), .unset] [(.ref b2), (.ref b2), (.ref a0)]))
  obtain ⟨_, _, ⟨T3, L3, k3, n3⟩, -, X3, ⟨Lc3, hQ3, l3, y3, z3⟩, st3⟩ := X2.specialBack hx (y := (⟨"java/util/concurrent/ConcurrentHashMap", "<init>", "()V"⟩ : MethodName)) rfl hown (mvT hZ (hw _ (List.mem_of_getElem? (i := 54) rfl))) (mvT hZ (hw _ (List.mem_of_getElem? (i := 55) rfl))) (mvT hZ (hw _ (List.mem_of_getElem? (i := 56) rfl))) (by decide) (backOf (W := 2) (rm11 l Z aZ hw [] b2 h2 n0 (Nat.le_trans Z0 E2.1)) hZ (hw _ (List.mem_of_getElem? (i := 56) rfl)) (hw _ (List.mem_of_getElem? (i := 53) rfl)) (by decide) (by decide)) (g := (mkF m 9 #[.val (.ref a0), .val (.ref a1), .val (.int (1 : Int32)), .unset] [(.ref b2), (.ref b2), (.ref a0)])) rfl (by rw [hml]; rfl) (Steps.refl _) (a := b2) (argsL := []) (rest := [(.ref b2), (.ref a0)]) (lenOf pd_2 rfl) rfl (by show 2 * 0 + _ ≤ _; exact Nat.le_of_eq rfl) (hb hby d10_9) (fun _ _ => ⟨rfl, e2, (by decide : 1 + 0 ≤ _), (by decide : 12 + 0 ≤ _)⟩)
  dsimp only [Pt.U, Pt.locs, Pt.cells, Pt.slots] at X3 l3 y3 z3 st3 hQ3
  try dsimp only [Nat.reduceAdd] at y3 z3
  subst y3 z3
  obtain ⟨rfl, N3q, e3⟩ := hQ3
  have N3 : Fr n0 L3 := by rw [l3]; exact Fr.app N0 N3q
  refine .pre (fun _ kq => st3.trans kq) ?_
  show OwnEnds p e below _ (T3.setTop (mkF m 12 #[.val (.ref a0), .val (.ref a1), .val (.int (1 : Int32)), .unset] [(.ref b2), (.ref a0)]))
  obtain ⟨T4, h4, X4, e4, W4, st4⟩ := putF X3 hx hZ hown (host := "") (Or.inl (hw _ (List.mem_of_getElem? (i := 64) rfl))) Via.refl e3 (G0.ext E2) (EG.ext E2) (Or.inr ⟨(hw _ (List.mem_of_getElem? (i := 65) rfl)), rfl, hnm⟩) (hw _ (List.mem_of_getElem? (i := 19) rfl)) (ty := (.object "java/util/Map")) (by decide) rfl rfl (g := (mkF m 12 #[.val (.ref a0), .val (.ref a1), .val (.int (1 : Int32)), .unset] [(.ref b2), (.ref a0)])) rfl rfl (hb hby d10_12)
  have Fw4 := (G0.ext E2).same W4
  have N4 := Fr.snoc X4 N3 g_a0
  have Kp4 : Keep h0 h4 [a0] := Kp2.wr W4 (Or.inl (List.mem_of_getElem? (i := 0) rfl))
  refine .pre (fun _ kq => st4 _ kq) ?_
  show OwnEnds p e below _ (T4.setTop (mkF m 15 #[.val (.ref a0), .val (.ref a1), .val (.int (1 : Int32)), .unset] []))
  refine .pre (fun _ kq => XS.aloadN X4.here hx rfl (hb hby d10_15) rfl rfl kq) ?_
  show OwnEnds p e below _ (T4.setTop (mkF m 16 #[.val (.ref a0), .val (.ref a1), .val (.int (1 : Int32)), .unset] [(.ref a0)]))
  obtain ⟨T5, h5, X5, e5, E5, A5, D5, U5, st5⟩ := newO X4 hx hZ hown (hw _ (List.mem_of_getElem? (i := 66) rfl)) (hw _ (List.mem_of_getElem? (i := 22) rfl)) (hw _ (List.mem_of_getElem? (i := 23) rfl)) e4 (g := (mkF m 16 #[.val (.ref a0), .val (.ref a1), .val (.int (1 : Int32)), .unset] [(.ref a0)])) rfl (hb hby d10_16) (by decide) (by decide)
  obtain ⟨b5, g5⟩ : ∃ z, z = h4.size := ⟨_, rfl⟩
  rw [← g5] at A5 D5 U5 st5
  have g_b5 : n0 ≤ b5 := Nat.le_trans (Nat.le_trans (Nat.le_trans Z0 E2.1) (Keep.of_wr W4).1) (Nat.le_of_eq g5.symm)
  have sz_b5 : h0.size ≤ b5 := Nat.le_trans Kp4.1 (Nat.le_of_eq g5.symm)
  have Kp5 : Keep h0 h5 [a0] := Kp4.ext E5
  have F5_modCount : Fld Z h5 b5 "java/util/AbstractList" "modCount" "I" (.int (0 : Int32)) := D5 (Or.inl (hw _ (List.mem_of_getElem? (i := 43) rfl))) (ty := .int) (by decide)
  have F5_elementData : Fld Z h5 b5 "java/util/ArrayList" "elementData" "[Ljava/lang/Object;" .null := D5 (Or.inl (hw _ (List.mem_of_getElem? (i := 46) rfl))) (ty := (.array (.object "java/lang/Object"))) (by decide)
  have F5_size : Fld Z h5 b5 "java/util/ArrayList" "size" "I" (.int (0 : Int32)) := D5 (Or.inl (hw _ (List.mem_of_getElem? (i := 137) rfl))) (ty := .int) (by decide)
  refine .pre (fun _ kq => st5 _ kq) ?_
  show OwnEnds p e below _ (T5.setTop (mkF m 19 #[.val (.ref a0), .val (.ref a1), .val (.int (1 : Int32)), .unset] [(.ref b5), (.ref a0)]))
  refine .pre (fun _ kq => XS.dup X5.here hx rfl (hb hby d10_19) rfl rfl kq) ?_
  show OwnEnds p e below _ (T5.setTop (mkF m 20 #[.val (.ref a0), .val (.ref a1), .val (.int (1 : Int32)), .unset] [(.ref b5), (.ref b5), (.ref a0)]))
  obtain ⟨_, _, ⟨T6, L6, k6, n6⟩, -, X6, ⟨Lc6, hQ6, l6, y6, z6⟩, st6⟩ := X5.specialBack hx (y := (⟨"java/util/ArrayList", "<init>", "()V"⟩ : MethodName)) rfl hown (mvT hZ (hw _ (List.mem_of_getElem? (i := 67) rfl))) (mvT hZ (hw _ (List.mem_of_getElem? (i := 25) rfl))) (mvT hZ (hw _ (List.mem_of_getElem? (i := 26) rfl))) (by decide) (backOf (W := 2) (rm6 l Z aZ hw [] b5 xD (.int (0 : Int32)) .null (.int (0 : Int32)) h5 n0 (Nat.le_trans (Nat.le_trans (Nat.le_trans Z0 E2.1) (Keep.of_wr W4).1) E5.1) (Sta.ext E5 (Sta.wr W4 (Sta.ext E2 SD))) g_b5 A5 F5_modCount F5_elementData F5_size) hZ (hw _ (List.mem_of_getElem? (i := 26) rfl)) (hw _ (List.mem_of_getElem? (i := 23) rfl)) (by decide) (by decide)) (g := (mkF m 20 #[.val (.ref a0), .val (.ref a1), .val (.int (1 : Int32)), .unset] [(.ref b5), (.ref b5), (.ref a0)])) rfl (by rw [hml]; rfl) (Steps.refl _) (a := b5) (argsL := []) (rest := [(.ref b5), (.ref a0)]) (lenOf pd_2 rfl) rfl (by show 2 * 0 + _ ≤ _; exact Nat.le_of_eq rfl) (hb hby d10_20) (fun _ _ => ⟨rfl, e5, (by decide : 2 + 0 ≤ _), (by decide : 15 + 0 ≤ _)⟩)
  dsimp only [Pt.U, Pt.locs, Pt.cells, Pt.slots] at X6 l6 y6 z6 st6 hQ6
  try dsimp only [Nat.reduceAdd] at y6 z6
  subst y6 z6
  obtain ⟨rfl, N6q, K6, Ea6, Fa6_0, Fa6_1, Fa6_2⟩ := hQ6
  have N6 : Fr n0 L6 := by rw [l6]; exact Fr.app N4 N6q
  refine .pre (fun _ kq => st6.trans kq) ?_
  have Kp6 : Keep h0 T6.heap [a0] := Kp5.trans K6 (allS (Or.inr sz_b5) all0)
  show OwnEnds p e below _ (T6.setTop (mkF m 23 #[.val (.ref a0), .val (.ref a1), .val (.int (1 : Int32)), .unset] [(.ref b5), (.ref a0)]))
  obtain ⟨T7, h7, X7, e7, W7, st7⟩ := putF X6 hx hZ hown (host := "") (Or.inl (hw _ (List.mem_of_getElem? (i := 68) rfl))) Via.refl rfl ((((G1.ext E2).other W4 (Or.inr (slot_ne (Or.inr (hw _ (List.mem_of_getElem? (i := 69) rfl))) (Or.inr (hw _ (List.mem_of_getElem? (i := 65) rfl))) (by decide) (t := (.object "java/util/List")) (t' := (.object "java/util/Map")) (by decide) (by decide)))).ext E5).keep K6 (own_nin1 (Nat.ne_of_lt (Nat.lt_of_lt_of_le ((EG.ext E2).wr W4).lt (Nat.le_of_eq g5.symm))))) ((((EG.ext E2).wr W4).ext E5).keep K6) (Or.inr ⟨(hw _ (List.mem_of_getElem? (i := 69) rfl)), rfl, hnm⟩) (hw _ (List.mem_of_getElem? (i := 19) rfl)) (ty := (.object "java/util/List")) (by decide) rfl rfl (g := (mkF m 23 #[.val (.ref a0), .val (.ref a1), .val (.int (1 : Int32)), .unset] [(.ref b5), (.ref a0)])) rfl rfl (hb hby d10_23)
  have Fw7 := ((((G1.ext E2).other W4 (Or.inr (slot_ne (Or.inr (hw _ (List.mem_of_getElem? (i := 69) rfl))) (Or.inr (hw _ (List.mem_of_getElem? (i := 65) rfl))) (by decide) (t := (.object "java/util/List")) (t' := (.object "java/util/Map")) (by decide) (by decide)))).ext E5).keep K6 (own_nin1 (Nat.ne_of_lt (Nat.lt_of_lt_of_le ((EG.ext E2).wr W4).lt (Nat.le_of_eq g5.symm))))).same W7
  have N7 := Fr.snoc X7 N6 g_a0
  have Kp7 : Keep h0 h7 [a0] := Kp6.wr W7 (Or.inl (List.mem_of_getElem? (i := 0) rfl))
  refine .pre (fun _ kq => st7 _ kq) ?_
  show OwnEnds p e below _ (T7.setTop (mkF m 26 #[.val (.ref a0), .val (.ref a1), .val (.int (1 : Int32)), .unset] []))
  refine .pre (fun _ kq => XS.aloadN X7.here hx rfl (hb hby d10_26) rfl rfl kq) ?_
  show OwnEnds p e below _ (T7.setTop (mkF m 27 #[.val (.ref a0), .val (.ref a1), .val (.int (1 : Int32)), .unset] [(.ref a0)]))
  refine .pre (fun _ kq => XS.sipush X7.here hx rfl (hb hby d10_27) kq) ?_
  show OwnEnds p e below _ (T7.setTop (mkF m 30 #[.val (.ref a0), .val (.ref a1), .val (.int (1 : Int32)), .unset] [(.int (1024 : Int32)), (.ref a0)]))
  obtain ⟨T8, h8, kk8, X8, e8, E8, A8, st8⟩ := newP X7 hx hZ (hw _ (List.mem_of_getElem? (i := 70) rfl)) e7 (g := (mkF m 30 #[.val (.ref a0), .val (.ref a1), .val (.int (1 : Int32)), .unset] [(.int (1024 : Int32)), (.ref a0)])) rfl (hb hby d10_30) rfl (by decide) (cap := 1024) (by decide) (by decide) (by decide) (by decide)
  obtain ⟨b8, g8⟩ : ∃ z, z = h7.size := ⟨_, rfl⟩
  rw [← g8] at A8 st8
  have V_b8 : Arv Z h8 b8 kk8 .int (1024 : Int32) [] (.int (0 : Int32)) := Arv.new A8 (by decide)
  have g_b8 : n0 ≤ b8 := Nat.le_trans (Nat.le_trans (Nat.le_trans (Nat.le_trans (Nat.le_trans (Nat.le_trans Z0 E2.1) (Keep.of_wr W4).1) E5.1) K6.1) (Keep.of_wr W7).1) (Nat.le_of_eq g8.symm)
  have sz_b8 : h0.size ≤ b8 := Nat.le_trans Kp7.1 (Nat.le_of_eq g8.symm)
  have Kp8 : Keep h0 h8 [a0] := Kp7.ext E8
  have VA_b8 : OwnA Z h8 b8 (fun _ => 0) := OwnA.new A8
  refine .pre (fun _ kq => st8 _ kq) ?_
  show OwnEnds p e below _ (T8.setTop (mkF m 32 #[.val (.ref a0), .val (.ref a1), .val (.int (1 : Int32)), .unset] [(.ref b8), (.ref a0)]))
  obtain ⟨T9, h9, X9, e9, W9, st9⟩ := putF X8 hx hZ hown (host := "") (Or.inl (hw _ (List.mem_of_getElem? (i := 71) rfl))) Via.refl e8 ((((((G2.ext E2).other W4 (Or.inr (slot_ne (Or.inl (hw _ (List.mem_of_getElem? (i := 72) rfl))) (Or.inr (hw _ (List.mem_of_getElem? (i := 65) rfl))) (by decide) (t := (.array .int)) (t' := (.object "java/util/Map")) (by decide) (by decide)))).ext E5).keep K6 (own_nin1 (Nat.ne_of_lt (Nat.lt_of_lt_of_le ((EG.ext E2).wr W4).lt (Nat.le_of_eq g5.symm))))).other W7 (Or.inr (slot_ne (Or.inl (hw _ (List.mem_of_getElem? (i := 72) rfl))) (Or.inr (hw _ (List.mem_of_getElem? (i := 69) rfl))) (by decide) (t := (.array .int)) (t' := (.object "java/util/List")) (by decide) (by decide)))).ext E8) ((((((EG.ext E2).wr W4).ext E5).keep K6).wr W7).ext E8) (Or.inl (hw _ (List.mem_of_getElem? (i := 72) rfl))) (hw _ (List.mem_of_getElem? (i := 19) rfl)) (ty := (.array .int)) (by decide) rfl rfl (g := (mkF m 32 #[.val (.ref a0), .val (.ref a1), .val (.int (1 : Int32)), .unset] [(.ref b8), (.ref a0)])) rfl rfl (hb hby d10_32)
  have Fw9 := ((((((G2.ext E2).other W4 (Or.inr (slot_ne (Or.inl (hw _ (List.mem_of_getElem? (i := 72) rfl))) (Or.inr (hw _ (List.mem_of_getElem? (i := 65) rfl))) (by decide) (t := (.array .int)) (t' := (.object "java/util/Map")) (by decide) (by decide)))).ext E5).keep K6 (own_nin1 (Nat.ne_of_lt (Nat.lt_of_lt_of_le ((EG.ext E2).wr W4).lt (Nat.le_of_eq g5.symm))))).other W7 (Or.inr (slot_ne (Or.inl (hw _ (List.mem_of_getElem? (i := 72) rfl))) (Or.inr (hw _ (List.mem_of_getElem? (i := 69) rfl))) (by decide) (t := (.array .int)) (t' := (.object "java/util/List")) (by decide) (by decide)))).ext E8).same W9
  have N9 := Fr.snoc X9 N7 g_a0
  have Kp9 : Keep h0 h9 [a0] := Kp8.wr W9 (Or.inl (List.mem_of_getElem? (i := 0) rfl))
  refine .pre (fun _ kq => st9 _ kq) ?_
  show OwnEnds p e below _ (T9.setTop (mkF m 35 #[.val (.ref a0), .val (.ref a1), .val (.int (1 : Int32)), .unset] []))
  refine .pre (fun _ kq => XS.aloadN X9.here hx rfl (hb hby d10_35) rfl rfl kq) ?_
  show OwnEnds p e below _ (T9.setTop (mkF m 36 #[.val (.ref a0), .val (.ref a1), .val (.int (1 : Int32)), .unset] [(.ref a0)]))
  refine .pre (fun _ kq => XS.sipush X9.here hx rfl (hb hby d10_36) kq) ?_
  show OwnEnds p e below _ (T9.setTop (mkF m 39 #[.val (.ref a0), .val (.ref a1), .val (.int (1 : Int32)), .unset] [(.int (1024 : Int32)), (.ref a0)]))
  obtain ⟨T10, h10, kk10, X10, e10, E10, A10, st10⟩ := newP X9 hx hZ (hw _ (List.mem_of_getElem? (i := 70) rfl)) e9 (g := (mkF m 39 #[.val (.ref a0), .val (.ref a1), .val (.int (1 : Int32)), .unset] [(.int (1024 : Int32)), (.ref a0)])) rfl (hb hby d10_39) rfl (by decide) (cap := 1024) (by decide) (by decide) (by decide) (by decide)
  obtain ⟨b10, g10⟩ : ∃ z, z = h9.size := ⟨_, rfl⟩
  rw [← g10] at A10 st10
  have V_b10 : Arv Z h10 b10 kk10 .int (1024 : Int32) [] (.int (0 : Int32)) := Arv.new A10 (by decide)
  have g_b10 : n0 ≤ b10 := Nat.le_trans (Nat.le_trans (Nat.le_trans (Nat.le_trans (Nat.le_trans (Nat.le_trans (Nat.le_trans (Nat.le_trans Z0 E2.1) (Keep.of_wr W4).1) E5.1) K6.1) (Keep.of_wr W7).1) E8.1) (Keep.of_wr W9).1) (Nat.le_of_eq g10.symm)
  have sz_b10 : h0.size ≤ b10 := Nat.le_trans Kp9.1 (Nat.le_of_eq g10.symm)
  have Kp10 : Keep h0 h10 [a0] := Kp9.ext E10
  have VA_b10 : OwnA Z h10 b10 (fun _ => 0) := OwnA.new A10
  refine .pre (fun _ kq => st10 _ kq) ?_
  show OwnEnds p e below _ (T10.setTop (mkF m 41 #[.val (.ref a0), .val (.ref a1), .val (.int (1 : Int32)), .unset] [(.ref b10), (.ref a0)]))
  obtain ⟨T11, h11, X11, e11, W11, st11⟩ := putF X10 hx hZ hown (host := "") (Or.inl (hw _ (List.mem_of_getElem? (i := 73) rfl))) Via.refl e10 ((((((((G3.ext E2).other W4 (Or.inr (slot_ne (Or.inl (hw _ (List.mem_of_getElem? (i := 74) rfl))) (Or.inr (hw _ (List.mem_of_getElem? (i := 65) rfl))) (by decide) (t := (.array .int)) (t' := (.object "java/util/Map")) (by decide) (by decide)))).ext E5).keep K6 (own_nin1 (Nat.ne_of_lt (Nat.lt_of_lt_of_le ((EG.ext E2).wr W4).lt (Nat.le_of_eq g5.symm))))).other W7 (Or.inr (slot_ne (Or.inl (hw _ (List.mem_of_getElem? (i := 74) rfl))) (Or.inr (hw _ (List.mem_of_getElem? (i := 69) rfl))) (by decide) (t := (.array .int)) (t' := (.object "java/util/List")) (by decide) (by decide)))).ext E8).other W9 (Or.inr (slot_ne (Or.inl (hw _ (List.mem_of_getElem? (i := 74) rfl))) (Or.inl (hw _ (List.mem_of_getElem? (i := 72) rfl))) (by decide) (t := (.array .int)) (t' := (.array .int)) (by decide) (by decide)))).ext E10) ((((((((EG.ext E2).wr W4).ext E5).keep K6).wr W7).ext E8).wr W9).ext E10) (Or.inl (hw _ (List.mem_of_getElem? (i := 74) rfl))) (hw _ (List.mem_of_getElem? (i := 19) rfl)) (ty := (.array .int)) (by decide) rfl rfl (g := (mkF m 41 #[.val (.ref a0), .val (.ref a1), .val (.int (1 : Int32)), .unset] [(.ref b10), (.ref a0)])) rfl rfl (hb hby d10_41)
  have Fw11 := ((((((((G3.ext E2).other W4 (Or.inr (slot_ne (Or.inl (hw _ (List.mem_of_getElem? (i := 74) rfl))) (Or.inr (hw _ (List.mem_of_getElem? (i := 65) rfl))) (by decide) (t := (.array .int)) (t' := (.object "java/util/Map")) (by decide) (by decide)))).ext E5).keep K6 (own_nin1 (Nat.ne_of_lt (Nat.lt_of_lt_of_le ((EG.ext E2).wr W4).lt (Nat.le_of_eq g5.symm))))).other W7 (Or.inr (slot_ne (Or.inl (hw _ (List.mem_of_getElem? (i := 74) rfl))) (Or.inr (hw _ (List.mem_of_getElem? (i := 69) rfl))) (by decide) (t := (.array .int)) (t' := (.object "java/util/List")) (by decide) (by decide)))).ext E8).other W9 (Or.inr (slot_ne (Or.inl (hw _ (List.mem_of_getElem? (i := 74) rfl))) (Or.inl (hw _ (List.mem_of_getElem? (i := 72) rfl))) (by decide) (t := (.array .int)) (t' := (.array .int)) (by decide) (by decide)))).ext E10).same W11
  have N11 := Fr.snoc X11 N9 g_a0
  have Kp11 : Keep h0 h11 [a0] := Kp10.wr W11 (Or.inl (List.mem_of_getElem? (i := 0) rfl))
  refine .pre (fun _ kq => st11 _ kq) ?_
  show OwnEnds p e below _ (T11.setTop (mkF m 44 #[.val (.ref a0), .val (.ref a1), .val (.int (1 : Int32)), .unset] []))
  refine .pre (fun _ kq => XS.aloadN X11.here hx rfl (hb hby d10_44) rfl rfl kq) ?_
  show OwnEnds p e below _ (T11.setTop (mkF m 45 #[.val (.ref a0), .val (.ref a1), .val (.int (1 : Int32)), .unset] [(.ref a0)]))
  refine .pre (fun _ kq => XS.iconst X11.here hx rfl (hb hby d10_45) kq) ?_
  show OwnEnds p e below _ (T11.setTop (mkF m 46 #[.val (.ref a0), .val (.ref a1), .val (.int (1 : Int32)), .unset] [(.int (-1 : Int32)), (.ref a0)]))
  obtain ⟨T12, h12, X12, e12, W12, st12⟩ := putF X11 hx hZ hown (host := "") (Or.inl (hw _ (List.mem_of_getElem? (i := 75) rfl))) Via.refl e11 (((((((((G4.ext E2).other W4 (Or.inr (slot_ne (Or.inl (hw _ (List.mem_of_getElem? (i := 76) rfl))) (Or.inr (hw _ (List.mem_of_getElem? (i := 65) rfl))) (by decide) (t := .int) (t' := (.object "java/util/Map")) (by decide) (by decide)))).ext E5).keep K6 (own_nin1 (Nat.ne_of_lt (Nat.lt_of_lt_of_le ((EG.ext E2).wr W4).lt (Nat.le_of_eq g5.symm))))).other W7 (Or.inr (slot_ne (Or.inl (hw _ (List.mem_of_getElem? (i := 76) rfl))) (Or.inr (hw _ (List.mem_of_getElem? (i := 69) rfl))) (by decide) (t := .int) (t' := (.object "java/util/List")) (by decide) (by decide)))).ext E8).other W9 (Or.inr (slot_ne (Or.inl (hw _ (List.mem_of_getElem? (i := 76) rfl))) (Or.inl (hw _ (List.mem_of_getElem? (i := 72) rfl))) (by decide) (t := .int) (t' := (.array .int)) (by decide) (by decide)))).ext E10).other W11 (Or.inr (slot_ne (Or.inl (hw _ (List.mem_of_getElem? (i := 76) rfl))) (Or.inl (hw _ (List.mem_of_getElem? (i := 74) rfl))) (by decide) (t := .int) (t' := (.array .int)) (by decide) (by decide)))) (((((((((EG.ext E2).wr W4).ext E5).keep K6).wr W7).ext E8).wr W9).ext E10).wr W11) (Or.inl (hw _ (List.mem_of_getElem? (i := 76) rfl))) (hw _ (List.mem_of_getElem? (i := 19) rfl)) (ty := .int) (by decide) rfl rfl (g := (mkF m 46 #[.val (.ref a0), .val (.ref a1), .val (.int (1 : Int32)), .unset] [(.int (-1 : Int32)), (.ref a0)])) rfl rfl (hb hby d10_46)
  have Fw12 := (((((((((G4.ext E2).other W4 (Or.inr (slot_ne (Or.inl (hw _ (List.mem_of_getElem? (i := 76) rfl))) (Or.inr (hw _ (List.mem_of_getElem? (i := 65) rfl))) (by decide) (t := .int) (t' := (.object "java/util/Map")) (by decide) (by decide)))).ext E5).keep K6 (own_nin1 (Nat.ne_of_lt (Nat.lt_of_lt_of_le ((EG.ext E2).wr W4).lt (Nat.le_of_eq g5.symm))))).other W7 (Or.inr (slot_ne (Or.inl (hw _ (List.mem_of_getElem? (i := 76) rfl))) (Or.inr (hw _ (List.mem_of_getElem? (i := 69) rfl))) (by decide) (t := .int) (t' := (.object "java/util/List")) (by decide) (by decide)))).ext E8).other W9 (Or.inr (slot_ne (Or.inl (hw _ (List.mem_of_getElem? (i := 76) rfl))) (Or.inl (hw _ (List.mem_of_getElem? (i := 72) rfl))) (by decide) (t := .int) (t' := (.array .int)) (by decide) (by decide)))).ext E10).other W11 (Or.inr (slot_ne (Or.inl (hw _ (List.mem_of_getElem? (i := 76) rfl))) (Or.inl (hw _ (List.mem_of_getElem? (i := 74) rfl))) (by decide) (t := .int) (t' := (.array .int)) (by decide) (by decide)))).same W12
  have N12 := Fr.snoc X12 N11 g_a0
  have Kp12 : Keep h0 h12 [a0] := Kp11.wr W12 (Or.inl (List.mem_of_getElem? (i := 0) rfl))
  refine .pre (fun _ kq => st12 _ kq) ?_
  show OwnEnds p e below _ (T12.setTop (mkF m 49 #[.val (.ref a0), .val (.ref a1), .val (.int (1 : Int32)), .unset] []))
  refine .pre (fun _ kq => XS.aloadN X12.here hx rfl (hb hby d10_49) rfl rfl kq) ?_
  show OwnEnds p e below _ (T12.setTop (mkF m 50 #[.val (.ref a0), .val (.ref a1), .val (.int (1 : Int32)), .unset] [(.ref a0)]))
  refine .pre (fun _ kq => XS.aloadN X12.here hx rfl (hb hby d10_50) rfl rfl kq) ?_
  show OwnEnds p e below _ (T12.setTop (mkF m 51 #[.val (.ref a0), .val (.ref a1), .val (.int (1 : Int32)), .unset] [(.ref a1), (.ref a0)]))
  obtain ⟨T13, h13, X13, e13, W13, st13⟩ := putF X12 hx hZ hown (host := "") (Or.inl (hw _ (List.mem_of_getElem? (i := 77) rfl))) Via.refl e12 ((((((((((G5.ext E2).other W4 (Or.inr (slot_ne (Or.inr (hw _ (List.mem_of_getElem? (i := 78) rfl))) (Or.inr (hw _ (List.mem_of_getElem? (i := 65) rfl))) (by decide) (t := (.object "java/util/List")) (t' := (.object "java/util/Map")) (by decide) (by decide)))).ext E5).keep K6 (own_nin1 (Nat.ne_of_lt (Nat.lt_of_lt_of_le ((EG.ext E2).wr W4).lt (Nat.le_of_eq g5.symm))))).other W7 (Or.inr (slot_ne (Or.inr (hw _ (List.mem_of_getElem? (i := 78) rfl))) (Or.inr (hw _ (List.mem_of_getElem? (i := 69) rfl))) (by decide) (t := (.object "java/util/List")) (t' := (.object "java/util/List")) (by decide) (by decide)))).ext E8).other W9 (Or.inr (slot_ne (Or.inr (hw _ (List.mem_of_getElem? (i := 78) rfl))) (Or.inl (hw _ (List.mem_of_getElem? (i := 72) rfl))) (by decide) (t := (.object "java/util/List")) (t' := (.array .int)) (by decide) (by decide)))).ext E10).other W11 (Or.inr (slot_ne (Or.inr (hw _ (List.mem_of_getElem? (i := 78) rfl))) (Or.inl (hw _ (List.mem_of_getElem? (i := 74) rfl))) (by decide) (t := (.object "java/util/List")) (t' := (.array .int)) (by decide) (by decide)))).other W12 (Or.inr (slot_ne (Or.inr (hw _ (List.mem_of_getElem? (i := 78) rfl))) (Or.inl (hw _ (List.mem_of_getElem? (i := 76) rfl))) (by decide) (t := (.object "java/util/List")) (t' := .int) (by decide) (by decide)))) ((((((((((EG.ext E2).wr W4).ext E5).keep K6).wr W7).ext E8).wr W9).ext E10).wr W11).wr W12) (Or.inr ⟨(hw _ (List.mem_of_getElem? (i := 78) rfl)), rfl, hnm⟩) (hw _ (List.mem_of_getElem? (i := 19) rfl)) (ty := (.object "java/util/List")) (by decide) rfl rfl (g := (mkF m 51 #[.val (.ref a0), .val (.ref a1), .val (.int (1 : Int32)), .unset] [(.ref a1), (.ref a0)])) rfl rfl (hb hby d10_51)
  have Fw13 := ((((((((((G5.ext E2).other W4 (Or.inr (slot_ne (Or.inr (hw _ (List.mem_of_getElem? (i := 78) rfl))) (Or.inr (hw _ (List.mem_of_getElem? (i := 65) rfl))) (by decide) (t := (.object "java/util/List")) (t' := (.object "java/util/Map")) (by decide) (by decide)))).ext E5).keep K6 (own_nin1 (Nat.ne_of_lt (Nat.lt_of_lt_of_le ((EG.ext E2).wr W4).lt (Nat.le_of_eq g5.symm))))).other W7 (Or.inr (slot_ne (Or.inr (hw _ (List.mem_of_getElem? (i := 78) rfl))) (Or.inr (hw _ (List.mem_of_getElem? (i := 69) rfl))) (by decide) (t := (.object "java/util/List")) (t' := (.object "java/util/List")) (by decide) (by decide)))).ext E8).other W9 (Or.inr (slot_ne (Or.inr (hw _ (List.mem_of_getElem? (i := 78) rfl))) (Or.inl (hw _ (List.mem_of_getElem? (i := 72) rfl))) (by decide) (t := (.object "java/util/List")) (t' := (.array .int)) (by decide) (by decide)))).ext E10).other W11 (Or.inr (slot_ne (Or.inr (hw _ (List.mem_of_getElem? (i := 78) rfl))) (Or.inl (hw _ (List.mem_of_getElem? (i := 74) rfl))) (by decide) (t := (.object "java/util/List")) (t' := (.array .int)) (by decide) (by decide)))).other W12 (Or.inr (slot_ne (Or.inr (hw _ (List.mem_of_getElem? (i := 78) rfl))) (Or.inl (hw _ (List.mem_of_getElem? (i := 76) rfl))) (by decide) (t := (.object "java/util/List")) (t' := .int) (by decide) (by decide)))).same W13
  have N13 := Fr.snoc X13 N12 g_a0
  have Kp13 : Keep h0 h13 [a0] := Kp12.wr W13 (Or.inl (List.mem_of_getElem? (i := 0) rfl))
  refine .pre (fun _ kq => st13 _ kq) ?_
  show OwnEnds p e below _ (T13.setTop (mkF m 54 #[.val (.ref a0), .val (.ref a1), .val (.int (1 : Int32)), .unset] []))
  refine .pre (fun _ kq => XS.aloadN X13.here hx rfl (hb hby d10_54) rfl rfl kq) ?_
  show OwnEnds p e below _ (T13.setTop (mkF m 55 #[.val (.ref a0), .val (.ref a1), .val (.int (1 : Int32)), .unset] [(.ref a0)]))
  refine .pre (fun _ kq => XS.iloadN X13.here hx rfl (hb hby d10_55) rfl kq) ?_
  show OwnEnds p e below _ (T13.setTop (mkF m 56 #[.val (.ref a0), .val (.ref a1), .val (.int (1 : Int32)), .unset] [(.int (1 : Int32)), (.ref a0)]))
  obtain ⟨T14, h14, X14, e14, W14, st14⟩ := putFN X13 hx hZ hown (hw _ (List.mem_of_getElem? (i := 79) rfl)) Via.refl e13 (((((((((((G6.ext E2).other W4 (Or.inr (slot_ne (Or.inr (hw _ (List.mem_of_getElem? (i := 80) rfl))) (Or.inr (hw _ (List.mem_of_getElem? (i := 65) rfl))) (by decide) (t := .boolean) (t' := (.object "java/util/Map")) (by decide) (by decide)))).ext E5).keep K6 (own_nin1 (Nat.ne_of_lt (Nat.lt_of_lt_of_le ((EG.ext E2).wr W4).lt (Nat.le_of_eq g5.symm))))).other W7 (Or.inr (slot_ne (Or.inr (hw _ (List.mem_of_getElem? (i := 80) rfl))) (Or.inr (hw _ (List.mem_of_getElem? (i := 69) rfl))) (by decide) (t := .boolean) (t' := (.object "java/util/List")) (by decide) (by decide)))).ext E8).other W9 (Or.inr (slot_ne (Or.inr (hw _ (List.mem_of_getElem? (i := 80) rfl))) (Or.inl (hw _ (List.mem_of_getElem? (i := 72) rfl))) (by decide) (t := .boolean) (t' := (.array .int)) (by decide) (by decide)))).ext E10).other W11 (Or.inr (slot_ne (Or.inr (hw _ (List.mem_of_getElem? (i := 80) rfl))) (Or.inl (hw _ (List.mem_of_getElem? (i := 74) rfl))) (by decide) (t := .boolean) (t' := (.array .int)) (by decide) (by decide)))).other W12 (Or.inr (slot_ne (Or.inr (hw _ (List.mem_of_getElem? (i := 80) rfl))) (Or.inl (hw _ (List.mem_of_getElem? (i := 76) rfl))) (by decide) (t := .boolean) (t' := .int) (by decide) (by decide)))).other W13 (Or.inr (slot_ne (Or.inr (hw _ (List.mem_of_getElem? (i := 80) rfl))) (Or.inr (hw _ (List.mem_of_getElem? (i := 78) rfl))) (by decide) (t := .boolean) (t' := (.object "java/util/List")) (by decide) (by decide)))) (((((((((((EG.ext E2).wr W4).ext E5).keep K6).wr W7).ext E8).wr W9).ext E10).wr W11).wr W12).wr W13) (Or.inr ⟨(hw _ (List.mem_of_getElem? (i := 80) rfl)), rfl, hnm⟩) (hw _ (List.mem_of_getElem? (i := 19) rfl)) (ty := .boolean) (v' := (.int (1 : Int32))) (by decide) rfl (fits_nar_bool (1 : Int32)) (g := (mkF m 56 #[.val (.ref a0), .val (.ref a1), .val (.int (1 : Int32)), .unset] [(.int (1 : Int32)), (.ref a0)])) rfl rfl (hb hby d10_56)
  have Fw14 := (((((((((((G6.ext E2).other W4 (Or.inr (slot_ne (Or.inr (hw _ (List.mem_of_getElem? (i := 80) rfl))) (Or.inr (hw _ (List.mem_of_getElem? (i := 65) rfl))) (by decide) (t := .boolean) (t' := (.object "java/util/Map")) (by decide) (by decide)))).ext E5).keep K6 (own_nin1 (Nat.ne_of_lt (Nat.lt_of_lt_of_le ((EG.ext E2).wr W4).lt (Nat.le_of_eq g5.symm))))).other W7 (Or.inr (slot_ne (Or.inr (hw _ (List.mem_of_getElem? (i := 80) rfl))) (Or.inr (hw _ (List.mem_of_getElem? (i := 69) rfl))) (by decide) (t := .boolean) (t' := (.object "java/util/List")) (by decide) (by decide)))).ext E8).other W9 (Or.inr (slot_ne (Or.inr (hw _ (List.mem_of_getElem? (i := 80) rfl))) (Or.inl (hw _ (List.mem_of_getElem? (i := 72) rfl))) (by decide) (t := .boolean) (t' := (.array .int)) (by decide) (by decide)))).ext E10).other W11 (Or.inr (slot_ne (Or.inr (hw _ (List.mem_of_getElem? (i := 80) rfl))) (Or.inl (hw _ (List.mem_of_getElem? (i := 74) rfl))) (by decide) (t := .boolean) (t' := (.array .int)) (by decide) (by decide)))).other W12 (Or.inr (slot_ne (Or.inr (hw _ (List.mem_of_getElem? (i := 80) rfl))) (Or.inl (hw _ (List.mem_of_getElem? (i := 76) rfl))) (by decide) (t := .boolean) (t' := .int) (by decide) (by decide)))).other W13 (Or.inr (slot_ne (Or.inr (hw _ (List.mem_of_getElem? (i := 80) rfl))) (Or.inr (hw _ (List.mem_of_getElem? (i := 78) rfl))) (by decide) (t := .boolean) (t' := (.object "java/util/List")) (by decide) (by decide)))).same W14
  have N14 := Fr.snoc X14 N13 g_a0
  have Kp14 : Keep h0 h14 [a0] := Kp13.wr W14 (Or.inl (List.mem_of_getElem? (i := 0) rfl))
  refine .pre (fun _ kq => st14 _ kq) ?_
  show OwnEnds p e below _ (T14.setTop (mkF m 59 #[.val (.ref a0), .val (.ref a1), .val (.int (1 : Int32)), .unset] []))
  refine .pre (fun _ kq => XS.iloadN X14.here hx rfl (hb hby d10_59) rfl kq) ?_
  show OwnEnds p e below _ (T14.setTop (mkF m 60 #[.val (.ref a0), .val (.ref a1), .val (.int (1 : Int32)), .unset] [(.int (1 : Int32))]))
  have hc60 : ¬ ((1 : Int32) = (0 : Int32)) := by decide
  refine .pre (fun _ kq => XS.ifNo X14.here hx rfl (hb hby d10_60) rfl ((if0 _ _).trans (feq hc60).1) kq) ?_
  show OwnEnds p e below _ (T14.setTop (mkF m 63 #[.val (.ref a0), .val (.ref a1), .val (.int (1 : Int32)), .unset] []))
  refine .pre (fun _ kq => XS.sipush X14.here hx rfl (hb hby d10_63) kq) ?_
  show OwnEnds p e below _ (T14.setTop (mkF m 66 #[.val (.ref a0), .val (.ref a1), .val (.int (1 : Int32)), .unset] [(.int (1024 : Int32))]))
  refine .pre (fun _ kq => XS.goto X14.here hx rfl (pc0 := 66) (pc' := 70) rfl (hb hby d10_66) (by decide) (by decide) kq) ?_
  show OwnEnds p e below _ (T14.setTop (mkF m 70 #[.val (.ref a0), .val (.ref a1), .val (.int (1 : Int32)), .unset] [(.int (1024 : Int32))]))
  refine .pre (fun _ kq => XS.istoreN X14.here hx rfl (hb hby d10_70) rfl (l' := #[.val (.ref a0), .val (.ref a1), .val (.int (1 : Int32)), .val (.int (1024 : Int32))]) rfl kq) ?_
  show OwnEnds p e below _ (T14.setTop (mkF m 71 #[.val (.ref a0), .val (.ref a1), .val (.int (1 : Int32)), .val (.int (1024 : Int32))] []))
  refine .pre (fun _ kq => XS.aloadN X14.here hx rfl (hb hby d10_71) rfl rfl kq) ?_
  show OwnEnds p e below _ (T14.setTop (mkF m 72 #[.val (.ref a0), .val (.ref a1), .val (.int (1 : Int32)), .val (.int (1024 : Int32))] [(.ref a0)]))
  refine .pre (fun _ kq => XS.iloadN X14.here hx rfl (hb hby d10_72) rfl kq) ?_
  show OwnEnds p e below _ (T14.setTop (mkF m 73 #[.val (.ref a0), .val (.ref a1), .val (.int (1 : Int32)), .val (.int (1024 : Int32))] [(.int (1024 : Int32)), (.ref a0)]))
  obtain ⟨T15, h15, kk15, X15, e15, E15, A15, st15⟩ := newP X14 hx hZ (hw _ (List.mem_of_getElem? (i := 70) rfl)) e14 (g := (mkF m 73 #[.val (.ref a0), .val (.ref a1), .val (.int (1 : Int32)), .val (.int (1024 : Int32))] [(.int (1024 : Int32)), (.ref a0)])) rfl (hb hby d10_73) rfl (by decide) (cap := 1024) (by decide) (by decide) (by decide) (by decide)
  obtain ⟨b15, g15⟩ : ∃ z, z = h14.size := ⟨_, rfl⟩
  rw [← g15] at A15 st15
  have V_b15 : Arv Z h15 b15 kk15 .int (1024 : Int32) [] (.int (0 : Int32)) := Arv.new A15 (by decide)
  have g_b15 : n0 ≤ b15 := Nat.le_trans (Nat.le_trans (Nat.le_trans (Nat.le_trans (Nat.le_trans (Nat.le_trans (Nat.le_trans (Nat.le_trans (Nat.le_trans (Nat.le_trans (Nat.le_trans (Nat.le_trans (Nat.le_trans Z0 E2.1) (Keep.of_wr W4).1) E5.1) K6.1) (Keep.of_wr W7).1) E8.1) (Keep.of_wr W9).1) E10.1) (Keep.of_wr W11).1) (Keep.of_wr W12).1) (Keep.of_wr W13).1) (Keep.of_wr W14).1) (Nat.le_of_eq g15.symm)
  have sz_b15 : h0.size ≤ b15 := Nat.le_trans Kp14.1 (Nat.le_of_eq g15.symm)
  have Kp15 : Keep h0 h15 [a0] := Kp14.ext E15
  have VA_b15 : OwnA Z h15 b15 (fun _ => 0) := OwnA.new A15
  refine .pre (fun _ kq => st15 _ kq) ?_
  show OwnEnds p e below _ (T15.setTop (mkF m 75 #[.val (.ref a0), .val (.ref a1), .val (.int (1 : Int32)), .val (.int (1024 : Int32))] [(.ref b15), (.ref a0)]))
  obtain ⟨T16, h16, X16, e16, W16, st16⟩ := putF X15 hx hZ hown (host := "") (Or.inl (hw _ (List.mem_of_getElem? (i := 81) rfl))) Via.refl e15 (((((((((((((G7.ext E2).other W4 (Or.inr (slot_ne (Or.inl (hw _ (List.mem_of_getElem? (i := 82) rfl))) (Or.inr (hw _ (List.mem_of_getElem? (i := 65) rfl))) (by decide) (t := (.array .int)) (t' := (.object "java/util/Map")) (by decide) (by decide)))).ext E5).keep K6 (own_nin1 (Nat.ne_of_lt (Nat.lt_of_lt_of_le ((EG.ext E2).wr W4).lt (Nat.le_of_eq g5.symm))))).other W7 (Or.inr (slot_ne (Or.inl (hw _ (List.mem_of_getElem? (i := 82) rfl))) (Or.inr (hw _ (List.mem_of_getElem? (i := 69) rfl))) (by decide) (t := (.array .int)) (t' := (.object "java/util/List")) (by decide) (by decide)))).ext E8).other W9 (Or.inr (slot_ne (Or.inl (hw _ (List.mem_of_getElem? (i := 82) rfl))) (Or.inl (hw _ (List.mem_of_getElem? (i := 72) rfl))) (by decide) (t := (.array .int)) (t' := (.array .int)) (by decide) (by decide)))).ext E10).other W11 (Or.inr (slot_ne (Or.inl (hw _ (List.mem_of_getElem? (i := 82) rfl))) (Or.inl (hw _ (List.mem_of_getElem? (i := 74) rfl))) (by decide) (t := (.array .int)) (t' := (.array .int)) (by decide) (by decide)))).other W12 (Or.inr (slot_ne (Or.inl (hw _ (List.mem_of_getElem? (i := 82) rfl))) (Or.inl (hw _ (List.mem_of_getElem? (i := 76) rfl))) (by decide) (t := (.array .int)) (t' := .int) (by decide) (by decide)))).other W13 (Or.inr (slot_ne (Or.inl (hw _ (List.mem_of_getElem? (i := 82) rfl))) (Or.inr (hw _ (List.mem_of_getElem? (i := 78) rfl))) (by decide) (t := (.array .int)) (t' := (.object "java/util/List")) (by decide) (by decide)))).other W14 (Or.inr (slot_ne (Or.inl (hw _ (List.mem_of_getElem? (i := 82) rfl))) (Or.inr (hw _ (List.mem_of_getElem? (i := 80) rfl))) (by decide) (t := (.array .int)) (t' := .boolean) (by decide) (by decide)))).ext E15) (((((((((((((EG.ext E2).wr W4).ext E5).keep K6).wr W7).ext E8).wr W9).ext E10).wr W11).wr W12).wr W13).wr W14).ext E15) (Or.inl (hw _ (List.mem_of_getElem? (i := 82) rfl))) (hw _ (List.mem_of_getElem? (i := 19) rfl)) (ty := (.array .int)) (by decide) rfl rfl (g := (mkF m 75 #[.val (.ref a0), .val (.ref a1), .val (.int (1 : Int32)), .val (.int (1024 : Int32))] [(.ref b15), (.ref a0)])) rfl rfl (hb hby d10_75)
  have Fw16 := (((((((((((((G7.ext E2).other W4 (Or.inr (slot_ne (Or.inl (hw _ (List.mem_of_getElem? (i := 82) rfl))) (Or.inr (hw _ (List.mem_of_getElem? (i := 65) rfl))) (by decide) (t := (.array .int)) (t' := (.object "java/util/Map")) (by decide) (by decide)))).ext E5).keep K6 (own_nin1 (Nat.ne_of_lt (Nat.lt_of_lt_of_le ((EG.ext E2).wr W4).lt (Nat.le_of_eq g5.symm))))).other W7 (Or.inr (slot_ne (Or.inl (hw _ (List.mem_of_getElem? (i := 82) rfl))) (Or.inr (hw _ (List.mem_of_getElem? (i := 69) rfl))) (by decide) (t := (.array .int)) (t' := (.object "java/util/List")) (by decide) (by decide)))).ext E8).other W9 (Or.inr (slot_ne (Or.inl (hw _ (List.mem_of_getElem? (i := 82) rfl))) (Or.inl (hw _ (List.mem_of_getElem? (i := 72) rfl))) (by decide) (t := (.array .int)) (t' := (.array .int)) (by decide) (by decide)))).ext E10).other W11 (Or.inr (slot_ne (Or.inl (hw _ (List.mem_of_getElem? (i := 82) rfl))) (Or.inl (hw _ (List.mem_of_getElem? (i := 74) rfl))) (by decide) (t := (.array .int)) (t' := (.array .int)) (by decide) (by decide)))).other W12 (Or.inr (slot_ne (Or.inl (hw _ (List.mem_of_getElem? (i := 82) rfl))) (Or.inl (hw _ (List.mem_of_getElem? (i := 76) rfl))) (by decide) (t := (.array .int)) (t' := .int) (by decide) (by decide)))).other W13 (Or.inr (slot_ne (Or.inl (hw _ (List.mem_of_getElem? (i := 82) rfl))) (Or.inr (hw _ (List.mem_of_getElem? (i := 78) rfl))) (by decide) (t := (.array .int)) (t' := (.object "java/util/List")) (by decide) (by decide)))).other W14 (Or.inr (slot_ne (Or.inl (hw _ (List.mem_of_getElem? (i := 82) rfl))) (Or.inr (hw _ (List.mem_of_getElem? (i := 80) rfl))) (by decide) (t := (.array .int)) (t' := .boolean) (by decide) (by decide)))).ext E15).same W16
  have N16 := Fr.snoc X16 N14 g_a0
  have Kp16 : Keep h0 h16 [a0] := Kp15.wr W16 (Or.inl (List.mem_of_getElem? (i := 0) rfl))
  refine .pre (fun _ kq => st16 _ kq) ?_
  show OwnEnds p e below _ (T16.setTop (mkF m 78 #[.val (.ref a0), .val (.ref a1), .val (.int (1 : Int32)), .val (.int (1024 : Int32))] []))
  refine .pre (fun _ kq => XS.aloadN X16.here hx rfl (hb hby d10_78) rfl rfl kq) ?_
  show OwnEnds p e below _ (T16.setTop (mkF m 79 #[.val (.ref a0), .val (.ref a1), .val (.int (1 : Int32)), .val (.int (1024 : Int32))] [(.ref a0)]))
  refine .pre (fun _ kq => XS.iloadN X16.here hx rfl (hb hby d10_79) rfl kq) ?_
  show OwnEnds p e below _ (T16.setTop (mkF m 80 #[.val (.ref a0), .val (.ref a1), .val (.int (1 : Int32)), .val (.int (1024 : Int32))] [(.int (1024 : Int32)), (.ref a0)]))
  obtain ⟨T17, h17, kk17, X17, e17, E17, A17, st17⟩ := newP X16 hx hZ (hw _ (List.mem_of_getElem? (i := 70) rfl)) e16 (g := (mkF m 80 #[.val (.ref a0), .val (.ref a1), .val (.int (1 : Int32)), .val (.int (1024 : Int32))] [(.int (1024 : Int32)), (.ref a0)])) rfl (hb hby d10_80) rfl (by decide) (cap := 1024) (by decide) (by decide) (by decide) (by decide)
  obtain ⟨b17, g17⟩ : ∃ z, z = h16.size := ⟨_, rfl⟩
  rw [← g17] at A17 st17
  have V_b17 : Arv Z h17 b17 kk17 .int (1024 : Int32) [] (.int (0 : Int32)) := Arv.new A17 (by decide)
  have g_b17 : n0 ≤ b17 := Nat.le_trans (Nat.le_trans (Nat.le_trans (Nat.le_trans (Nat.le_trans (Nat.le_trans (Nat.le_trans (Nat.le_trans (Nat.le_trans (Nat.le_trans (Nat.le_trans (Nat.le_trans (Nat.le_trans (Nat.le_trans (Nat.le_trans Z0 E2.1) (Keep.of_wr W4).1) E5.1) K6.1) (Keep.of_wr W7).1) E8.1) (Keep.of_wr W9).1) E10.1) (Keep.of_wr W11).1) (Keep.of_wr W12).1) (Keep.of_wr W13).1) (Keep.of_wr W14).1) E15.1) (Keep.of_wr W16).1) (Nat.le_of_eq g17.symm)
  have sz_b17 : h0.size ≤ b17 := Nat.le_trans Kp16.1 (Nat.le_of_eq g17.symm)
  have Kp17 : Keep h0 h17 [a0] := Kp16.ext E17
  have VA_b17 : OwnA Z h17 b17 (fun _ => 0) := OwnA.new A17
  refine .pre (fun _ kq => st17 _ kq) ?_
  show OwnEnds p e below _ (T17.setTop (mkF m 82 #[.val (.ref a0), .val (.ref a1), .val (.int (1 : Int32)), .val (.int (1024 : Int32))] [(.ref b17), (.ref a0)]))
  obtain ⟨T18, h18, X18, e18, W18, st18⟩ := putF X17 hx hZ hown (host := "") (Or.inl (hw _ (List.mem_of_getElem? (i := 83) rfl))) Via.refl e17 (((((((((((((((G8.ext E2).other W4 (Or.inr (slot_ne (Or.inl (hw _ (List.mem_of_getElem? (i := 84) rfl))) (Or.inr (hw _ (List.mem_of_getElem? (i := 65) rfl))) (by decide) (t := (.array .int)) (t' := (.object "java/util/Map")) (by decide) (by decide)))).ext E5).keep K6 (own_nin1 (Nat.ne_of_lt (Nat.lt_of_lt_of_le ((EG.ext E2).wr W4).lt (Nat.le_of_eq g5.symm))))).other W7 (Or.inr (slot_ne (Or.inl (hw _ (List.mem_of_getElem? (i := 84) rfl))) (Or.inr (hw _ (List.mem_of_getElem? (i := 69) rfl))) (by decide) (t := (.array .int)) (t' := (.object "java/util/List")) (by decide) (by decide)))).ext E8).other W9 (Or.inr (slot_ne (Or.inl (hw _ (List.mem_of_getElem? (i := 84) rfl))) (Or.inl (hw _ (List.mem_of_getElem? (i := 72) rfl))) (by decide) (t := (.array .int)) (t' := (.array .int)) (by decide) (by decide)))).ext E10).other W11 (Or.inr (slot_ne (Or.inl (hw _ (List.mem_of_getElem? (i := 84) rfl))) (Or.inl (hw _ (List.mem_of_getElem? (i := 74) rfl))) (by decide) (t := (.array .int)) (t' := (.array .int)) (by decide) (by decide)))).other W12 (Or.inr (slot_ne (Or.inl (hw _ (List.mem_of_getElem? (i := 84) rfl))) (Or.inl (hw _ (List.mem_of_getElem? (i := 76) rfl))) (by decide) (t := (.array .int)) (t' := .int) (by decide) (by decide)))).other W13 (Or.inr (slot_ne (Or.inl (hw _ (List.mem_of_getElem? (i := 84) rfl))) (Or.inr (hw _ (List.mem_of_getElem? (i := 78) rfl))) (by decide) (t := (.array .int)) (t' := (.object "java/util/List")) (by decide) (by decide)))).other W14 (Or.inr (slot_ne (Or.inl (hw _ (List.mem_of_getElem? (i := 84) rfl))) (Or.inr (hw _ (List.mem_of_getElem? (i := 80) rfl))) (by decide) (t := (.array .int)) (t' := .boolean) (by decide) (by decide)))).ext E15).other W16 (Or.inr (slot_ne (Or.inl (hw _ (List.mem_of_getElem? (i := 84) rfl))) (Or.inl (hw _ (List.mem_of_getElem? (i := 82) rfl))) (by decide) (t := (.array .int)) (t' := (.array .int)) (by decide) (by decide)))).ext E17) (((((((((((((((EG.ext E2).wr W4).ext E5).keep K6).wr W7).ext E8).wr W9).ext E10).wr W11).wr W12).wr W13).wr W14).ext E15).wr W16).ext E17) (Or.inl (hw _ (List.mem_of_getElem? (i := 84) rfl))) (hw _ (List.mem_of_getElem? (i := 19) rfl)) (ty := (.array .int)) (by decide) rfl rfl (g := (mkF m 82 #[.val (.ref a0), .val (.ref a1), .val (.int (1 : Int32)), .val (.int (1024 : Int32))] [(.ref b17), (.ref a0)])) rfl rfl (hb hby d10_82)
  have Fw18 := (((((((((((((((G8.ext E2).other W4 (Or.inr (slot_ne (Or.inl (hw _ (List.mem_of_getElem? (i := 84) rfl))) (Or.inr (hw _ (List.mem_of_getElem? (i := 65) rfl))) (by decide) (t := (.array .int)) (t' := (.object "java/util/Map")) (by decide) (by decide)))).ext E5).keep K6 (own_nin1 (Nat.ne_of_lt (Nat.lt_of_lt_of_le ((EG.ext E2).wr W4).lt (Nat.le_of_eq g5.symm))))).other W7 (Or.inr (slot_ne (Or.inl (hw _ (List.mem_of_getElem? (i := 84) rfl))) (Or.inr (hw _ (List.mem_of_getElem? (i := 69) rfl))) (by decide) (t := (.array .int)) (t' := (.object "java/util/List")) (by decide) (by decide)))).ext E8).other W9 (Or.inr (slot_ne (Or.inl (hw _ (List.mem_of_getElem? (i := 84) rfl))) (Or.inl (hw _ (List.mem_of_getElem? (i := 72) rfl))) (by decide) (t := (.array .int)) (t' := (.array .int)) (by decide) (by decide)))).ext E10).other W11 (Or.inr (slot_ne (Or.inl (hw _ (List.mem_of_getElem? (i := 84) rfl))) (Or.inl (hw _ (List.mem_of_getElem? (i := 74) rfl))) (by decide) (t := (.array .int)) (t' := (.array .int)) (by decide) (by decide)))).other W12 (Or.inr (slot_ne (Or.inl (hw _ (List.mem_of_getElem? (i := 84) rfl))) (Or.inl (hw _ (List.mem_of_getElem? (i := 76) rfl))) (by decide) (t := (.array .int)) (t' := .int) (by decide) (by decide)))).other W13 (Or.inr (slot_ne (Or.inl (hw _ (List.mem_of_getElem? (i := 84) rfl))) (Or.inr (hw _ (List.mem_of_getElem? (i := 78) rfl))) (by decide) (t := (.array .int)) (t' := (.object "java/util/List")) (by decide) (by decide)))).other W14 (Or.inr (slot_ne (Or.inl (hw _ (List.mem_of_getElem? (i := 84) rfl))) (Or.inr (hw _ (List.mem_of_getElem? (i := 80) rfl))) (by decide) (t := (.array .int)) (t' := .boolean) (by decide) (by decide)))).ext E15).other W16 (Or.inr (slot_ne (Or.inl (hw _ (List.mem_of_getElem? (i := 84) rfl))) (Or.inl (hw _ (List.mem_of_getElem? (i := 82) rfl))) (by decide) (t := (.array .int)) (t' := (.array .int)) (by decide) (by decide)))).ext E17).same W18
  have N18 := Fr.snoc X18 N16 g_a0
  have Kp18 : Keep h0 h18 [a0] := Kp17.wr W18 (Or.inl (List.mem_of_getElem? (i := 0) rfl))
  refine .pre (fun _ kq => st18 _ kq) ?_
  show OwnEnds p e below _ (T18.setTop (mkF m 85 #[.val (.ref a0), .val (.ref a1), .val (.int (1 : Int32)), .val (.int (1024 : Int32))] []))
  refine .pre (fun _ kq => XS.aloadN X18.here hx rfl (hb hby d10_85) rfl rfl kq) ?_
  show OwnEnds p e below _ (T18.setTop (mkF m 86 #[.val (.ref a0), .val (.ref a1), .val (.int (1 : Int32)), .val (.int (1024 : Int32))] [(.ref a0)]))
  refine .pre (fun _ kq => XS.iloadN X18.here hx rfl (hb hby d10_86) rfl kq) ?_
  show OwnEnds p e below _ (T18.setTop (mkF m 87 #[.val (.ref a0), .val (.ref a1), .val (.int (1 : Int32)), .val (.int (1024 : Int32))] [(.int (1024 : Int32)), (.ref a0)]))
  obtain ⟨T19, h19, kk19, X19, e19, E19, A19, st19⟩ := newP X18 hx hZ (hw _ (List.mem_of_getElem? (i := 70) rfl)) e18 (g := (mkF m 87 #[.val (.ref a0), .val (.ref a1), .val (.int (1 : Int32)), .val (.int (1024 : Int32))] [(.int (1024 : Int32)), (.ref a0)])) rfl (hb hby d10_87) rfl (by decide) (cap := 1024) (by decide) (by decide) (by decide) (by decide)
  obtain ⟨b19, g19⟩ : ∃ z, z = h18.size := ⟨_, rfl⟩
  rw [← g19] at A19 st19
  have V_b19 : Arv Z h19 b19 kk19 .int (1024 : Int32) [] (.int (0 : Int32)) := Arv.new A19 (by decide)
  have g_b19 : n0 ≤ b19 := Nat.le_trans (Nat.le_trans (Nat.le_trans (Nat.le_trans (Nat.le_trans (Nat.le_trans (Nat.le_trans (Nat.le_trans (Nat.le_trans (Nat.le_trans (Nat.le_trans (Nat.le_trans (Nat.le_trans (Nat.le_trans (Nat.le_trans (Nat.le_trans (Nat.le_trans Z0 E2.1) (Keep.of_wr W4).1) E5.1) K6.1) (Keep.of_wr W7).1) E8.1) (Keep.of_wr W9).1) E10.1) (Keep.of_wr W11).1) (Keep.of_wr W12).1) (Keep.of_wr W13).1) (Keep.of_wr W14).1) E15.1) (Keep.of_wr W16).1) E17.1) (Keep.of_wr W18).1) (Nat.le_of_eq g19.symm)
  have sz_b19 : h0.size ≤ b19 := Nat.le_trans Kp18.1 (Nat.le_of_eq g19.symm)
  have Kp19 : Keep h0 h19 [a0] := Kp18.ext E19
  have VA_b19 : OwnA Z h19 b19 (fun _ => 0) := OwnA.new A19
  refine .pre (fun _ kq => st19 _ kq) ?_
  show OwnEnds p e below _ (T19.setTop (mkF m 89 #[.val (.ref a0), .val (.ref a1), .val (.int (1 : Int32)), .val (.int (1024 : Int32))] [(.ref b19), (.ref a0)]))
  obtain ⟨T20, h20, X20, e20, W20, st20⟩ := putF X19 hx hZ hown (host := "") (Or.inl (hw _ (List.mem_of_getElem? (i := 85) rfl))) Via.refl e19 (((((((((((((((((G9.ext E2).other W4 (Or.inr (slot_ne (Or.inl (hw _ (List.mem_of_getElem? (i := 86) rfl))) (Or.inr (hw _ (List.mem_of_getElem? (i := 65) rfl))) (by decide) (t := (.array .int)) (t' := (.object "java/util/Map")) (by decide) (by decide)))).ext E5).keep K6 (own_nin1 (Nat.ne_of_lt (Nat.lt_of_lt_of_le ((EG.ext E2).wr W4).lt (Nat.le_of_eq g5.symm))))).other W7 (Or.inr (slot_ne (Or.inl (hw _ (List.mem_of_getElem? (i := 86) rfl))) (Or.inr (hw _ (List.mem_of_getElem? (i := 69) rfl))) (by decide) (t := (.array .int)) (t' := (.object "java/util/List")) (by decide) (by decide)))).ext E8).other W9 (Or.inr (slot_ne (Or.inl (hw _ (List.mem_of_getElem? (i := 86) rfl))) (Or.inl (hw _ (List.mem_of_getElem? (i := 72) rfl))) (by decide) (t := (.array .int)) (t' := (.array .int)) (by decide) (by decide)))).ext E10).other W11 (Or.inr (slot_ne (Or.inl (hw _ (List.mem_of_getElem? (i := 86) rfl))) (Or.inl (hw _ (List.mem_of_getElem? (i := 74) rfl))) (by decide) (t := (.array .int)) (t' := (.array .int)) (by decide) (by decide)))).other W12 (Or.inr (slot_ne (Or.inl (hw _ (List.mem_of_getElem? (i := 86) rfl))) (Or.inl (hw _ (List.mem_of_getElem? (i := 76) rfl))) (by decide) (t := (.array .int)) (t' := .int) (by decide) (by decide)))).other W13 (Or.inr (slot_ne (Or.inl (hw _ (List.mem_of_getElem? (i := 86) rfl))) (Or.inr (hw _ (List.mem_of_getElem? (i := 78) rfl))) (by decide) (t := (.array .int)) (t' := (.object "java/util/List")) (by decide) (by decide)))).other W14 (Or.inr (slot_ne (Or.inl (hw _ (List.mem_of_getElem? (i := 86) rfl))) (Or.inr (hw _ (List.mem_of_getElem? (i := 80) rfl))) (by decide) (t := (.array .int)) (t' := .boolean) (by decide) (by decide)))).ext E15).other W16 (Or.inr (slot_ne (Or.inl (hw _ (List.mem_of_getElem? (i := 86) rfl))) (Or.inl (hw _ (List.mem_of_getElem? (i := 82) rfl))) (by decide) (t := (.array .int)) (t' := (.array .int)) (by decide) (by decide)))).ext E17).other W18 (Or.inr (slot_ne (Or.inl (hw _ (List.mem_of_getElem? (i := 86) rfl))) (Or.inl (hw _ (List.mem_of_getElem? (i := 84) rfl))) (by decide) (t := (.array .int)) (t' := (.array .int)) (by decide) (by decide)))).ext E19) (((((((((((((((((EG.ext E2).wr W4).ext E5).keep K6).wr W7).ext E8).wr W9).ext E10).wr W11).wr W12).wr W13).wr W14).ext E15).wr W16).ext E17).wr W18).ext E19) (Or.inl (hw _ (List.mem_of_getElem? (i := 86) rfl))) (hw _ (List.mem_of_getElem? (i := 19) rfl)) (ty := (.array .int)) (by decide) rfl rfl (g := (mkF m 89 #[.val (.ref a0), .val (.ref a1), .val (.int (1 : Int32)), .val (.int (1024 : Int32))] [(.ref b19), (.ref a0)])) rfl rfl (hb hby d10_89)
  have Fw20 := (((((((((((((((((G9.ext E2).other W4 (Or.inr (slot_ne (Or.inl (hw _ (List.mem_of_getElem? (i := 86) rfl))) (Or.inr (hw _ (List.mem_of_getElem? (i := 65) rfl))) (by decide) (t := (.array .int)) (t' := (.object "java/util/Map")) (by decide) (by decide)))).ext E5).keep K6 (own_nin1 (Nat.ne_of_lt (Nat.lt_of_lt_of_le ((EG.ext E2).wr W4).lt (Nat.le_of_eq g5.symm))))).other W7 (Or.inr (slot_ne (Or.inl (hw _ (List.mem_of_getElem? (i := 86) rfl))) (Or.inr (hw _ (List.mem_of_getElem? (i := 69) rfl))) (by decide) (t := (.array .int)) (t' := (.object "java/util/List")) (by decide) (by decide)))).ext E8).other W9 (Or.inr (slot_ne (Or.inl (hw _ (List.mem_of_getElem? (i := 86) rfl))) (Or.inl (hw _ (List.mem_of_getElem? (i := 72) rfl))) (by decide) (t := (.array .int)) (t' := (.array .int)) (by decide) (by decide)))).ext E10).other W11 (Or.inr (slot_ne (Or.inl (hw _ (List.mem_of_getElem? (i := 86) rfl))) (Or.inl (hw _ (List.mem_of_getElem? (i := 74) rfl))) (by decide) (t := (.array .int)) (t' := (.array .int)) (by decide) (by decide)))).other W12 (Or.inr (slot_ne (Or.inl (hw _ (List.mem_of_getElem? (i := 86) rfl))) (Or.inl (hw _ (List.mem_of_getElem? (i := 76) rfl))) (by decide) (t := (.array .int)) (t' := .int) (by decide) (by decide)))).other W13 (Or.inr (slot_ne (Or.inl (hw _ (List.mem_of_getElem? (i := 86) rfl))) (Or.inr (hw _ (List.mem_of_getElem? (i := 78) rfl))) (by decide) (t := (.array .int)) (t' := (.object "java/util/List")) (by decide) (by decide)))).other W14 (Or.inr (slot_ne (Or.inl (hw _ (List.mem_of_getElem? (i := 86) rfl))) (Or.inr (hw _ (List.mem_of_getElem? (i := 80) rfl))) (by decide) (t := (.array .int)) (t' := .boolean) (by decide) (by decide)))).ext E15).other W16 (Or.inr (slot_ne (Or.inl (hw _ (List.mem_of_getElem? (i := 86) rfl))) (Or.inl (hw _ (List.mem_of_getElem? (i := 82) rfl))) (by decide) (t := (.array .int)) (t' := (.array .int)) (by decide) (by decide)))).ext E17).other W18 (Or.inr (slot_ne (Or.inl (hw _ (List.mem_of_getElem? (i := 86) rfl))) (Or.inl (hw _ (List.mem_of_getElem? (i := 84) rfl))) (by decide) (t := (.array .int)) (t' := (.array .int)) (by decide) (by decide)))).ext E19).same W20
  have N20 := Fr.snoc X20 N18 g_a0
  have Kp20 : Keep h0 h20 [a0] := Kp19.wr W20 (Or.inl (List.mem_of_getElem? (i := 0) rfl))
  refine .pre (fun _ kq => st20 _ kq) ?_
  show OwnEnds p e below _ (T20.setTop (mkF m 92 #[.val (.ref a0), .val (.ref a1), .val (.int (1 : Int32)), .val (.int (1024 : Int32))] []))
  refine .pre (fun _ kq => XS.aloadN X20.here hx rfl (hb hby d10_92) rfl rfl kq) ?_
  show OwnEnds p e below _ (T20.setTop (mkF m 93 #[.val (.ref a0), .val (.ref a1), .val (.int (1 : Int32)), .val (.int (1024 : Int32))] [(.ref a0)]))
  refine .pre (fun _ kq => XS.iloadN X20.here hx rfl (hb hby d10_93) rfl kq) ?_
  show OwnEnds p e below _ (T20.setTop (mkF m 94 #[.val (.ref a0), .val (.ref a1), .val (.int (1 : Int32)), .val (.int (1024 : Int32))] [(.int (1024 : Int32)), (.ref a0)]))
  obtain ⟨T21, h21, kk21, X21, e21, E21, A21, st21⟩ := newP X20 hx hZ (hw _ (List.mem_of_getElem? (i := 70) rfl)) e20 (g := (mkF m 94 #[.val (.ref a0), .val (.ref a1), .val (.int (1 : Int32)), .val (.int (1024 : Int32))] [(.int (1024 : Int32)), (.ref a0)])) rfl (hb hby d10_94) rfl (by decide) (cap := 1024) (by decide) (by decide) (by decide) (by decide)
  obtain ⟨b21, g21⟩ : ∃ z, z = h20.size := ⟨_, rfl⟩
  rw [← g21] at A21 st21
  have V_b21 : Arv Z h21 b21 kk21 .int (1024 : Int32) [] (.int (0 : Int32)) := Arv.new A21 (by decide)
  have g_b21 : n0 ≤ b21 := Nat.le_trans (Nat.le_trans (Nat.le_trans (Nat.le_trans (Nat.le_trans (Nat.le_trans (Nat.le_trans (Nat.le_trans (Nat.le_trans (Nat.le_trans (Nat.le_trans (Nat.le_trans (Nat.le_trans (Nat.le_trans (Nat.le_trans (Nat.le_trans (Nat.le_trans (Nat.le_trans (Nat.le_trans Z0 E2.1) (Keep.of_wr W4).1) E5.1) K6.1) (Keep.of_wr W7).1) E8.1) (Keep.of_wr W9).1) E10.1) (Keep.of_wr W11).1) (Keep.of_wr W12).1) (Keep.of_wr W13).1) (Keep.of_wr W14).1) E15.1) (Keep.of_wr W16).1) E17.1) (Keep.of_wr W18).1) E19.1) (Keep.of_wr W20).1) (Nat.le_of_eq g21.symm)
  have sz_b21 : h0.size ≤ b21 := Nat.le_trans Kp20.1 (Nat.le_of_eq g21.symm)
  have Kp21 : Keep h0 h21 [a0] := Kp20.ext E21
  have VA_b21 : OwnA Z h21 b21 (fun _ => 0) := OwnA.new A21
  refine .pre (fun _ kq => st21 _ kq) ?_
  show OwnEnds p e below _ (T21.setTop (mkF m 96 #[.val (.ref a0), .val (.ref a1), .val (.int (1 : Int32)), .val (.int (1024 : Int32))] [(.ref b21), (.ref a0)]))
  obtain ⟨T22, h22, X22, e22, W22, st22⟩ := putF X21 hx hZ hown (host := "") (Or.inl (hw _ (List.mem_of_getElem? (i := 87) rfl))) Via.refl e21 (((((((((((((((((((G10.ext E2).other W4 (Or.inr (slot_ne (Or.inl (hw _ (List.mem_of_getElem? (i := 88) rfl))) (Or.inr (hw _ (List.mem_of_getElem? (i := 65) rfl))) (by decide) (t := (.array .int)) (t' := (.object "java/util/Map")) (by decide) (by decide)))).ext E5).keep K6 (own_nin1 (Nat.ne_of_lt (Nat.lt_of_lt_of_le ((EG.ext E2).wr W4).lt (Nat.le_of_eq g5.symm))))).other W7 (Or.inr (slot_ne (Or.inl (hw _ (List.mem_of_getElem? (i := 88) rfl))) (Or.inr (hw _ (List.mem_of_getElem? (i := 69) rfl))) (by decide) (t := (.array .int)) (t' := (.object "java/util/List")) (by decide) (by decide)))).ext E8).other W9 (Or.inr (slot_ne (Or.inl (hw _ (List.mem_of_getElem? (i := 88) rfl))) (Or.inl (hw _ (List.mem_of_getElem? (i := 72) rfl))) (by decide) (t := (.array .int)) (t' := (.array .int)) (by decide) (by decide)))).ext E10).other W11 (Or.inr (slot_ne (Or.inl (hw _ (List.mem_of_getElem? (i := 88) rfl))) (Or.inl (hw _ (List.mem_of_getElem? (i := 74) rfl))) (by decide) (t := (.array .int)) (t' := (.array .int)) (by decide) (by decide)))).other W12 (Or.inr (slot_ne (Or.inl (hw _ (List.mem_of_getElem? (i := 88) rfl))) (Or.inl (hw _ (List.mem_of_getElem? (i := 76) rfl))) (by decide) (t := (.array .int)) (t' := .int) (by decide) (by decide)))).other W13 (Or.inr (slot_ne (Or.inl (hw _ (List.mem_of_getElem? (i := 88) rfl))) (Or.inr (hw _ (List.mem_of_getElem? (i := 78) rfl))) (by decide) (t := (.array .int)) (t' := (.object "java/util/List")) (by decide) (by decide)))).other W14 (Or.inr (slot_ne (Or.inl (hw _ (List.mem_of_getElem? (i := 88) rfl))) (Or.inr (hw _ (List.mem_of_getElem? (i := 80) rfl))) (by decide) (t := (.array .int)) (t' := .boolean) (by decide) (by decide)))).ext E15).other W16 (Or.inr (slot_ne (Or.inl (hw _ (List.mem_of_getElem? (i := 88) rfl))) (Or.inl (hw _ (List.mem_of_getElem? (i := 82) rfl))) (by decide) (t := (.array .int)) (t' := (.array .int)) (by decide) (by decide)))).ext E17).other W18 (Or.inr (slot_ne (Or.inl (hw _ (List.mem_of_getElem? (i := 88) rfl))) (Or.inl (hw _ (List.mem_of_getElem? (i := 84) rfl))) (by decide) (t := (.array .int)) (t' := (.array .int)) (by decide) (by decide)))).ext E19).other W20 (Or.inr (slot_ne (Or.inl (hw _ (List.mem_of_getElem? (i := 88) rfl))) (Or.inl (hw _ (List.mem_of_getElem? (i := 86) rfl))) (by decide) (t := (.array .int)) (t' := (.array .int)) (by decide) (by decide)))).ext E21) (((((((((((((((((((EG.ext E2).wr W4).ext E5).keep K6).wr W7).ext E8).wr W9).ext E10).wr W11).wr W12).wr W13).wr W14).ext E15).wr W16).ext E17).wr W18).ext E19).wr W20).ext E21) (Or.inl (hw _ (List.mem_of_getElem? (i := 88) rfl))) (hw _ (List.mem_of_getElem? (i := 19) rfl)) (ty := (.array .int)) (by decide) rfl rfl (g := (mkF m 96 #[.val (.ref a0), .val (.ref a1), .val (.int (1 : Int32)), .val (.int (1024 : Int32))] [(.ref b21), (.ref a0)])) rfl rfl (hb hby d10_96)
  have Fw22 := (((((((((((((((((((G10.ext E2).other W4 (Or.inr (slot_ne (Or.inl (hw _ (List.mem_of_getElem? (i := 88) rfl))) (Or.inr (hw _ (List.mem_of_getElem? (i := 65) rfl))) (by decide) (t := (.array .int)) (t' := (.object "java/util/Map")) (by decide) (by decide)))).ext E5).keep K6 (own_nin1 (Nat.ne_of_lt (Nat.lt_of_lt_of_le ((EG.ext E2).wr W4).lt (Nat.le_of_eq g5.symm))))).other W7 (Or.inr (slot_ne (Or.inl (hw _ (List.mem_of_getElem? (i := 88) rfl))) (Or.inr (hw _ (List.mem_of_getElem? (i := 69) rfl))) (by decide) (t := (.array .int)) (t' := (.object "java/util/List")) (by decide) (by decide)))).ext E8).other W9 (Or.inr (slot_ne (Or.inl (hw _ (List.mem_of_getElem? (i := 88) rfl))) (Or.inl (hw _ (List.mem_of_getElem? (i := 72) rfl))) (by decide) (t := (.array .int)) (t' := (.array .int)) (by decide) (by decide)))).ext E10).other W11 (Or.inr (slot_ne (Or.inl (hw _ (List.mem_of_getElem? (i := 88) rfl))) (Or.inl (hw _ (List.mem_of_getElem? (i := 74) rfl))) (by decide) (t := (.array .int)) (t' := (.array .int)) (by decide) (by decide)))).other W12 (Or.inr (slot_ne (Or.inl (hw _ (List.mem_of_getElem? (i := 88) rfl))) (Or.inl (hw _ (List.mem_of_getElem? (i := 76) rfl))) (by decide) (t := (.array .int)) (t' := .int) (by decide) (by decide)))).other W13 (Or.inr (slot_ne (Or.inl (hw _ (List.mem_of_getElem? (i := 88) rfl))) (Or.inr (hw _ (List.mem_of_getElem? (i := 78) rfl))) (by decide) (t := (.array .int)) (t' := (.object "java/util/List")) (by decide) (by decide)))).other W14 (Or.inr (slot_ne (Or.inl (hw _ (List.mem_of_getElem? (i := 88) rfl))) (Or.inr (hw _ (List.mem_of_getElem? (i := 80) rfl))) (by decide) (t := (.array .int)) (t' := .boolean) (by decide) (by decide)))).ext E15).other W16 (Or.inr (slot_ne (Or.inl (hw _ (List.mem_of_getElem? (i := 88) rfl))) (Or.inl (hw _ (List.mem_of_getElem? (i := 82) rfl))) (by decide) (t := (.array .int)) (t' := (.array .int)) (by decide) (by decide)))).ext E17).other W18 (Or.inr (slot_ne (Or.inl (hw _ (List.mem_of_getElem? (i := 88) rfl))) (Or.inl (hw _ (List.mem_of_getElem? (i := 84) rfl))) (by decide) (t := (.array .int)) (t' := (.array .int)) (by decide) (by decide)))).ext E19).other W20 (Or.inr (slot_ne (Or.inl (hw _ (List.mem_of_getElem? (i := 88) rfl))) (Or.inl (hw _ (List.mem_of_getElem? (i := 86) rfl))) (by decide) (t := (.array .int)) (t' := (.array .int)) (by decide) (by decide)))).ext E21).same W22
  have N22 := Fr.snoc X22 N20 g_a0
  have Kp22 : Keep h0 h22 [a0] := Kp21.wr W22 (Or.inl (List.mem_of_getElem? (i := 0) rfl))
  refine .pre (fun _ kq => st22 _ kq) ?_
  show OwnEnds p e below _ (T22.setTop (mkF m 99 #[.val (.ref a0), .val (.ref a1), .val (.int (1 : Int32)), .val (.int (1024 : Int32))] []))
  exact own_endV X22 hx hlk Bd.returns (hb hby d10_99) (by decide) (by decide) ⟨rfl, N22, (by rw [e22]; exact Kp22), b5, b8, b10, b15, b17, b19, b21, ⟨(by rw [e22]; exact ((((((((((((((((((((EG.ext E2).wr W4).ext E5).keep K6).wr W7).ext E8).wr W9).ext E10).wr W11).wr W12).wr W13).wr W14).ext E15).wr W16).ext E17).wr W18).ext E19).wr W20).ext E21).wr W22)), (by rw [e22]; exact (((((((((((((((Fw7.ext E8).other W9 (Or.inr (slot_ne (Or.inr (hw _ (List.mem_of_getElem? (i := 69) rfl))) (Or.inl (hw _ (List.mem_of_getElem? (i := 72) rfl))) (by decide) (t := (.object "java/util/List")) (t' := (.array .int)) (by decide) (by decide)))).ext E10).other W11 (Or.inr (slot_ne (Or.inr (hw _ (List.mem_of_getElem? (i := 69) rfl))) (Or.inl (hw _ (List.mem_of_getElem? (i := 74) rfl))) (by decide) (t := (.object "java/util/List")) (t' := (.array .int)) (by decide) (by decide)))).other W12 (Or.inr (slot_ne (Or.inr (hw _ (List.mem_of_getElem? (i := 69) rfl))) (Or.inl (hw _ (List.mem_of_getElem? (i := 76) rfl))) (by decide) (t := (.object "java/util/List")) (t' := .int) (by decide) (by decide)))).other W13 (Or.inr (slot_ne (Or.inr (hw _ (List.mem_of_getElem? (i := 69) rfl))) (Or.inr (hw _ (List.mem_of_getElem? (i := 78) rfl))) (by decide) (t := (.object "java/util/List")) (t' := (.object "java/util/List")) (by decide) (by decide)))).other W14 (Or.inr (slot_ne (Or.inr (hw _ (List.mem_of_getElem? (i := 69) rfl))) (Or.inr (hw _ (List.mem_of_getElem? (i := 80) rfl))) (by decide) (t := (.object "java/util/List")) (t' := .boolean) (by decide) (by decide)))).ext E15).other W16 (Or.inr (slot_ne (Or.inr (hw _ (List.mem_of_getElem? (i := 69) rfl))) (Or.inl (hw _ (List.mem_of_getElem? (i := 82) rfl))) (by decide) (t := (.object "java/util/List")) (t' := (.array .int)) (by decide) (by decide)))).ext E17).other W18 (Or.inr (slot_ne (Or.inr (hw _ (List.mem_of_getElem? (i := 69) rfl))) (Or.inl (hw _ (List.mem_of_getElem? (i := 84) rfl))) (by decide) (t := (.object "java/util/List")) (t' := (.array .int)) (by decide) (by decide)))).ext E19).other W20 (Or.inr (slot_ne (Or.inr (hw _ (List.mem_of_getElem? (i := 69) rfl))) (Or.inl (hw _ (List.mem_of_getElem? (i := 86) rfl))) (by decide) (t := (.object "java/util/List")) (t' := (.array .int)) (by decide) (by decide)))).ext E21).other W22 (Or.inr (slot_ne (Or.inr (hw _ (List.mem_of_getElem? (i := 69) rfl))) (Or.inl (hw _ (List.mem_of_getElem? (i := 88) rfl))) (by decide) (t := (.object "java/util/List")) (t' := (.array .int)) (by decide) (by decide))))), (by rw [e22]; exact (((((((((((((Fw9.ext E10).other W11 (Or.inr (slot_ne (Or.inl (hw _ (List.mem_of_getElem? (i := 72) rfl))) (Or.inl (hw _ (List.mem_of_getElem? (i := 74) rfl))) (by decide) (t := (.array .int)) (t' := (.array .int)) (by decide) (by decide)))).other W12 (Or.inr (slot_ne (Or.inl (hw _ (List.mem_of_getElem? (i := 72) rfl))) (Or.inl (hw _ (List.mem_of_getElem? (i := 76) rfl))) (by decide) (t := (.array .int)) (t' := .int) (by decide) (by decide)))).other W13 (Or.inr (slot_ne (Or.inl (hw _ (List.mem_of_getElem? (i := 72) rfl))) (Or.inr (hw _ (List.mem_of_getElem? (i := 78) rfl))) (by decide) (t := (.array .int)) (t' := (.object "java/util/List")) (by decide) (by decide)))).other W14 (Or.inr (slot_ne (Or.inl (hw _ (List.mem_of_getElem? (i := 72) rfl))) (Or.inr (hw _ (List.mem_of_getElem? (i := 80) rfl))) (by decide) (t := (.array .int)) (t' := .boolean) (by decide) (by decide)))).ext E15).other W16 (Or.inr (slot_ne (Or.inl (hw _ (List.mem_of_getElem? (i := 72) rfl))) (Or.inl (hw _ (List.mem_of_getElem? (i := 82) rfl))) (by decide) (t := (.array .int)) (t' := (.array .int)) (by decide) (by decide)))).ext E17).other W18 (Or.inr (slot_ne (Or.inl (hw _ (List.mem_of_getElem? (i := 72) rfl))) (Or.inl (hw _ (List.mem_of_getElem? (i := 84) rfl))) (by decide) (t := (.array .int)) (t' := (.array .int)) (by decide) (by decide)))).ext E19).other W20 (Or.inr (slot_ne (Or.inl (hw _ (List.mem_of_getElem? (i := 72) rfl))) (Or.inl (hw _ (List.mem_of_getElem? (i := 86) rfl))) (by decide) (t := (.array .int)) (t' := (.array .int)) (by decide) (by decide)))).ext E21).other W22 (Or.inr (slot_ne (Or.inl (hw _ (List.mem_of_getElem? (i := 72) rfl))) (Or.inl (hw _ (List.mem_of_getElem? (i := 88) rfl))) (by decide) (t := (.array .int)) (t' := (.array .int)) (by decide) (by decide))))), (by rw [e22]; exact (((((((((((Fw11.other W12 (Or.inr (slot_ne (Or.inl (hw _ (List.mem_of_getElem? (i := 74) rfl))) (Or.inl (hw _ (List.mem_of_getElem? (i := 76) rfl))) (by decide) (t := (.array .int)) (t' := .int) (by decide) (by decide)))).other W13 (Or.inr (slot_ne (Or.inl (hw _ (List.mem_of_getElem? (i := 74) rfl))) (Or.inr (hw _ (List.mem_of_getElem? (i := 78) rfl))) (by decide) (t := (.array .int)) (t' := (.object "java/util/List")) (by decide) (by decide)))).other W14 (Or.inr (slot_ne (Or.inl (hw _ (List.mem_of_getElem? (i := 74) rfl))) (Or.inr (hw _ (List.mem_of_getElem? (i := 80) rfl))) (by decide) (t := (.array .int)) (t' := .boolean) (by decide) (by decide)))).ext E15).other W16 (Or.inr (slot_ne (Or.inl (hw _ (List.mem_of_getElem? (i := 74) rfl))) (Or.inl (hw _ (List.mem_of_getElem? (i := 82) rfl))) (by decide) (t := (.array .int)) (t' := (.array .int)) (by decide) (by decide)))).ext E17).other W18 (Or.inr (slot_ne (Or.inl (hw _ (List.mem_of_getElem? (i := 74) rfl))) (Or.inl (hw _ (List.mem_of_getElem? (i := 84) rfl))) (by decide) (t := (.array .int)) (t' := (.array .int)) (by decide) (by decide)))).ext E19).other W20 (Or.inr (slot_ne (Or.inl (hw _ (List.mem_of_getElem? (i := 74) rfl))) (Or.inl (hw _ (List.mem_of_getElem? (i := 86) rfl))) (by decide) (t := (.array .int)) (t' := (.array .int)) (by decide) (by decide)))).ext E21).other W22 (Or.inr (slot_ne (Or.inl (hw _ (List.mem_of_getElem? (i := 74) rfl))) (Or.inl (hw _ (List.mem_of_getElem? (i := 88) rfl))) (by decide) (t := (.array .int)) (t' := (.array .int)) (by decide) (by decide))))), (by rw [e22]; exact ((((((((((Fw12.other W13 (Or.inr (slot_ne (Or.inl (hw _ (List.mem_of_getElem? (i := 76) rfl))) (Or.inr (hw _ (List.mem_of_getElem? (i := 78) rfl))) (by decide) (t := .int) (t' := (.object "java/util/List")) (by decide) (by decide)))).other W14 (Or.inr (slot_ne (Or.inl (hw _ (List.mem_of_getElem? (i := 76) rfl))) (Or.inr (hw _ (List.mem_of_getElem? (i := 80) rfl))) (by decide) (t := .int) (t' := .boolean) (by decide) (by decide)))).ext E15).other W16 (Or.inr (slot_ne (Or.inl (hw _ (List.mem_of_getElem? (i := 76) rfl))) (Or.inl (hw _ (List.mem_of_getElem? (i := 82) rfl))) (by decide) (t := .int) (t' := (.array .int)) (by decide) (by decide)))).ext E17).other W18 (Or.inr (slot_ne (Or.inl (hw _ (List.mem_of_getElem? (i := 76) rfl))) (Or.inl (hw _ (List.mem_of_getElem? (i := 84) rfl))) (by decide) (t := .int) (t' := (.array .int)) (by decide) (by decide)))).ext E19).other W20 (Or.inr (slot_ne (Or.inl (hw _ (List.mem_of_getElem? (i := 76) rfl))) (Or.inl (hw _ (List.mem_of_getElem? (i := 86) rfl))) (by decide) (t := .int) (t' := (.array .int)) (by decide) (by decide)))).ext E21).other W22 (Or.inr (slot_ne (Or.inl (hw _ (List.mem_of_getElem? (i := 76) rfl))) (Or.inl (hw _ (List.mem_of_getElem? (i := 88) rfl))) (by decide) (t := .int) (t' := (.array .int)) (by decide) (by decide))))), (by rw [e22]; exact ((((((((Fw14.ext E15).other W16 (Or.inr (slot_ne (Or.inr (hw _ (List.mem_of_getElem? (i := 80) rfl))) (Or.inl (hw _ (List.mem_of_getElem? (i := 82) rfl))) (by decide) (t := .boolean) (t' := (.array .int)) (by decide) (by decide)))).ext E17).other W18 (Or.inr (slot_ne (Or.inr (hw _ (List.mem_of_getElem? (i := 80) rfl))) (Or.inl (hw _ (List.mem_of_getElem? (i := 84) rfl))) (by decide) (t := .boolean) (t' := (.array .int)) (by decide) (by decide)))).ext E19).other W20 (Or.inr (slot_ne (Or.inr (hw _ (List.mem_of_getElem? (i := 80) rfl))) (Or.inl (hw _ (List.mem_of_getElem? (i := 86) rfl))) (by decide) (t := .boolean) (t' := (.array .int)) (by decide) (by decide)))).ext E21).other W22 (Or.inr (slot_ne (Or.inr (hw _ (List.mem_of_getElem? (i := 80) rfl))) (Or.inl (hw _ (List.mem_of_getElem? (i := 88) rfl))) (by decide) (t := .boolean) (t' := (.array .int)) (by decide) (by decide))))), (by rw [e22]; exact ((((((Fw16.ext E17).other W18 (Or.inr (slot_ne (Or.inl (hw _ (List.mem_of_getElem? (i := 82) rfl))) (Or.inl (hw _ (List.mem_of_getElem? (i := 84) rfl))) (by decide) (t := (.array .int)) (t' := (.array .int)) (by decide) (by decide)))).ext E19).other W20 (Or.inr (slot_ne (Or.inl (hw _ (List.mem_of_getElem? (i := 82) rfl))) (Or.inl (hw _ (List.mem_of_getElem? (i := 86) rfl))) (by decide) (t := (.array .int)) (t' := (.array .int)) (by decide) (by decide)))).ext E21).other W22 (Or.inr (slot_ne (Or.inl (hw _ (List.mem_of_getElem? (i := 82) rfl))) (Or.inl (hw _ (List.mem_of_getElem? (i := 88) rfl))) (by decide) (t := (.array .int)) (t' := (.array .int)) (by decide) (by decide))))), (by rw [e22]; exact ((((Fw18.ext E19).other W20 (Or.inr (slot_ne (Or.inl (hw _ (List.mem_of_getElem? (i := 84) rfl))) (Or.inl (hw _ (List.mem_of_getElem? (i := 86) rfl))) (by decide) (t := (.array .int)) (t' := (.array .int)) (by decide) (by decide)))).ext E21).other W22 (Or.inr (slot_ne (Or.inl (hw _ (List.mem_of_getElem? (i := 84) rfl))) (Or.inl (hw _ (List.mem_of_getElem? (i := 88) rfl))) (by decide) (t := (.array .int)) (t' := (.array .int)) (by decide) (by decide))))), (by rw [e22]; exact ((Fw20.ext E21).other W22 (Or.inr (slot_ne (Or.inl (hw _ (List.mem_of_getElem? (i := 86) rfl))) (Or.inl (hw _ (List.mem_of_getElem? (i := 88) rfl))) (by decide) (t := (.array .int)) (t' := (.array .int)) (by decide) (by decide))))), (by rw [e22]; exact Fw22), (by rw [e22]; exact ((((((((((((((((((((G11.ext E2).other W4 (Or.inr (slot_ne (Or.inl (hw _ (List.mem_of_getElem? (i := 173) rfl))) (Or.inr (hw _ (List.mem_of_getElem? (i := 65) rfl))) (by decide) (t := .int) (t' := (.object "java/util/Map")) (by decide) (by decide)))).ext E5).keep K6 (own_nin1 (Nat.ne_of_lt (Nat.lt_of_lt_of_le ((EG.ext E2).wr W4).lt (Nat.le_of_eq g5.symm))))).other W7 (Or.inr (slot_ne (Or.inl (hw _ (List.mem_of_getElem? (i := 173) rfl))) (Or.inr (hw _ (List.mem_of_getElem? (i := 69) rfl))) (by decide) (t := .int) (t' := (.object "java/util/List")) (by decide) (by decide)))).ext E8).other W9 (Or.inr (slot_ne (Or.inl (hw _ (List.mem_of_getElem? (i := 173) rfl))) (Or.inl (hw _ (List.mem_of_getElem? (i := 72) rfl))) (by decide) (t := .int) (t' := (.array .int)) (by decide) (by decide)))).ext E10).other W11 (Or.inr (slot_ne (Or.inl (hw _ (List.mem_of_getElem? (i := 173) rfl))) (Or.inl (hw _ (List.mem_of_getElem? (i := 74) rfl))) (by decide) (t := .int) (t' := (.array .int)) (by decide) (by decide)))).other W12 (Or.inr (slot_ne (Or.inl (hw _ (List.mem_of_getElem? (i := 173) rfl))) (Or.inl (hw _ (List.mem_of_getElem? (i := 76) rfl))) (by decide) (t := .int) (t' := .int) (by decide) (by decide)))).other W13 (Or.inr (slot_ne (Or.inl (hw _ (List.mem_of_getElem? (i := 173) rfl))) (Or.inr (hw _ (List.mem_of_getElem? (i := 78) rfl))) (by decide) (t := .int) (t' := (.object "java/util/List")) (by decide) (by decide)))).other W14 (Or.inr (slot_ne (Or.inl (hw _ (List.mem_of_getElem? (i := 173) rfl))) (Or.inr (hw _ (List.mem_of_getElem? (i := 80) rfl))) (by decide) (t := .int) (t' := .boolean) (by decide) (by decide)))).ext E15).other W16 (Or.inr (slot_ne (Or.inl (hw _ (List.mem_of_getElem? (i := 173) rfl))) (Or.inl (hw _ (List.mem_of_getElem? (i := 82) rfl))) (by decide) (t := .int) (t' := (.array .int)) (by decide) (by decide)))).ext E17).other W18 (Or.inr (slot_ne (Or.inl (hw _ (List.mem_of_getElem? (i := 173) rfl))) (Or.inl (hw _ (List.mem_of_getElem? (i := 84) rfl))) (by decide) (t := .int) (t' := (.array .int)) (by decide) (by decide)))).ext E19).other W20 (Or.inr (slot_ne (Or.inl (hw _ (List.mem_of_getElem? (i := 173) rfl))) (Or.inl (hw _ (List.mem_of_getElem? (i := 86) rfl))) (by decide) (t := .int) (t' := (.array .int)) (by decide) (by decide)))).ext E21).other W22 (Or.inr (slot_ne (Or.inl (hw _ (List.mem_of_getElem? (i := 173) rfl))) (Or.inl (hw _ (List.mem_of_getElem? (i := 88) rfl))) (by decide) (t := .int) (t' := (.array .int)) (by decide) (by decide))))), (by rw [e22]; exact ((((((((((((((((((((G12.ext E2).other W4 (Or.inr (slot_ne (Or.inl (hw _ (List.mem_of_getElem? (i := 184) rfl))) (Or.inr (hw _ (List.mem_of_getElem? (i := 65) rfl))) (by decide) (t := .int) (t' := (.object "java/util/Map")) (by decide) (by decide)))).ext E5).keep K6 (own_nin1 (Nat.ne_of_lt (Nat.lt_of_lt_of_le ((EG.ext E2).wr W4).lt (Nat.le_of_eq g5.symm))))).other W7 (Or.inr (slot_ne (Or.inl (hw _ (List.mem_of_getElem? (i := 184) rfl))) (Or.inr (hw _ (List.mem_of_getElem? (i := 69) rfl))) (by decide) (t := .int) (t' := (.object "java/util/List")) (by decide) (by decide)))).ext E8).other W9 (Or.inr (slot_ne (Or.inl (hw _ (List.mem_of_getElem? (i := 184) rfl))) (Or.inl (hw _ (List.mem_of_getElem? (i := 72) rfl))) (by decide) (t := .int) (t' := (.array .int)) (by decide) (by decide)))).ext E10).other W11 (Or.inr (slot_ne (Or.inl (hw _ (List.mem_of_getElem? (i := 184) rfl))) (Or.inl (hw _ (List.mem_of_getElem? (i := 74) rfl))) (by decide) (t := .int) (t' := (.array .int)) (by decide) (by decide)))).other W12 (Or.inr (slot_ne (Or.inl (hw _ (List.mem_of_getElem? (i := 184) rfl))) (Or.inl (hw _ (List.mem_of_getElem? (i := 76) rfl))) (by decide) (t := .int) (t' := .int) (by decide) (by decide)))).other W13 (Or.inr (slot_ne (Or.inl (hw _ (List.mem_of_getElem? (i := 184) rfl))) (Or.inr (hw _ (List.mem_of_getElem? (i := 78) rfl))) (by decide) (t := .int) (t' := (.object "java/util/List")) (by decide) (by decide)))).other W14 (Or.inr (slot_ne (Or.inl (hw _ (List.mem_of_getElem? (i := 184) rfl))) (Or.inr (hw _ (List.mem_of_getElem? (i := 80) rfl))) (by decide) (t := .int) (t' := .boolean) (by decide) (by decide)))).ext E15).other W16 (Or.inr (slot_ne (Or.inl (hw _ (List.mem_of_getElem? (i := 184) rfl))) (Or.inl (hw _ (List.mem_of_getElem? (i := 82) rfl))) (by decide) (t := .int) (t' := (.array .int)) (by decide) (by decide)))).ext E17).other W18 (Or.inr (slot_ne (Or.inl (hw _ (List.mem_of_getElem? (i := 184) rfl))) (Or.inl (hw _ (List.mem_of_getElem? (i := 84) rfl))) (by decide) (t := .int) (t' := (.array .int)) (by decide) (by decide)))).ext E19).other W20 (Or.inr (slot_ne (Or.inl (hw _ (List.mem_of_getElem? (i := 184) rfl))) (Or.inl (hw _ (List.mem_of_getElem? (i := 86) rfl))) (by decide) (t := .int) (t' := (.array .int)) (by decide) (by decide)))).ext E21).other W22 (Or.inr (slot_ne (Or.inl (hw _ (List.mem_of_getElem? (i := 184) rfl))) (Or.inl (hw _ (List.mem_of_getElem? (i := 88) rfl))) (by decide) (t := .int) (t' := (.array .int)) (by decide) (by decide))))), ⟨_, (by rw [e22]; exact ((((((((((((((VA_b8.other W9 (Ne.symm (Nat.ne_of_lt (Nat.lt_of_lt_of_le (((((EG.ext E2).wr W4).ext E5).keep K6).wr W7).lt (Nat.le_of_eq g8.symm))))).ext E10).other W11 (Ne.symm (Nat.ne_of_lt (Nat.lt_of_lt_of_le (((((EG.ext E2).wr W4).ext E5).keep K6).wr W7).lt (Nat.le_of_eq g8.symm))))).other W12 (Ne.symm (Nat.ne_of_lt (Nat.lt_of_lt_of_le (((((EG.ext E2).wr W4).ext E5).keep K6).wr W7).lt (Nat.le_of_eq g8.symm))))).other W13 (Ne.symm (Nat.ne_of_lt (Nat.lt_of_lt_of_le (((((EG.ext E2).wr W4).ext E5).keep K6).wr W7).lt (Nat.le_of_eq g8.symm))))).other W14 (Ne.symm (Nat.ne_of_lt (Nat.lt_of_lt_of_le (((((EG.ext E2).wr W4).ext E5).keep K6).wr W7).lt (Nat.le_of_eq g8.symm))))).ext E15).other W16 (Ne.symm (Nat.ne_of_lt (Nat.lt_of_lt_of_le (((((EG.ext E2).wr W4).ext E5).keep K6).wr W7).lt (Nat.le_of_eq g8.symm))))).ext E17).other W18 (Ne.symm (Nat.ne_of_lt (Nat.lt_of_lt_of_le (((((EG.ext E2).wr W4).ext E5).keep K6).wr W7).lt (Nat.le_of_eq g8.symm))))).ext E19).other W20 (Ne.symm (Nat.ne_of_lt (Nat.lt_of_lt_of_le (((((EG.ext E2).wr W4).ext E5).keep K6).wr W7).lt (Nat.le_of_eq g8.symm))))).ext E21).other W22 (Ne.symm (Nat.ne_of_lt (Nat.lt_of_lt_of_le (((((EG.ext E2).wr W4).ext E5).keep K6).wr W7).lt (Nat.le_of_eq g8.symm))))))⟩, ⟨_, (by rw [e22]; exact ((((((((((((VA_b10.other W11 (Ne.symm (Nat.ne_of_lt (Nat.lt_of_lt_of_le (((((((EG.ext E2).wr W4).ext E5).keep K6).wr W7).ext E8).wr W9).lt (Nat.le_of_eq g10.symm))))).other W12 (Ne.symm (Nat.ne_of_lt (Nat.lt_of_lt_of_le (((((((EG.ext E2).wr W4).ext E5).keep K6).wr W7).ext E8).wr W9).lt (Nat.le_of_eq g10.symm))))).other W13 (Ne.symm (Nat.ne_of_lt (Nat.lt_of_lt_of_le (((((((EG.ext E2).wr W4).ext E5).keep K6).wr W7).ext E8).wr W9).lt (Nat.le_of_eq g10.symm))))).other W14 (Ne.symm (Nat.ne_of_lt (Nat.lt_of_lt_of_le (((((((EG.ext E2).wr W4).ext E5).keep K6).wr W7).ext E8).wr W9).lt (Nat.le_of_eq g10.symm))))).ext E15).other W16 (Ne.symm (Nat.ne_of_lt (Nat.lt_of_lt_of_le (((((((EG.ext E2).wr W4).ext E5).keep K6).wr W7).ext E8).wr W9).lt (Nat.le_of_eq g10.symm))))).ext E17).other W18 (Ne.symm (Nat.ne_of_lt (Nat.lt_of_lt_of_le (((((((EG.ext E2).wr W4).ext E5).keep K6).wr W7).ext E8).wr W9).lt (Nat.le_of_eq g10.symm))))).ext E19).other W20 (Ne.symm (Nat.ne_of_lt (Nat.lt_of_lt_of_le (((((((EG.ext E2).wr W4).ext E5).keep K6).wr W7).ext E8).wr W9).lt (Nat.le_of_eq g10.symm))))).ext E21).other W22 (Ne.symm (Nat.ne_of_lt (Nat.lt_of_lt_of_le (((((((EG.ext E2).wr W4).ext E5).keep K6).wr W7).ext E8).wr W9).lt (Nat.le_of_eq g10.symm))))))⟩, (by rw [e22]; exact (((((((VA_b15.other W16 (Ne.symm (Nat.ne_of_lt (Nat.lt_of_lt_of_le ((((((((((((EG.ext E2).wr W4).ext E5).keep K6).wr W7).ext E8).wr W9).ext E10).wr W11).wr W12).wr W13).wr W14).lt (Nat.le_of_eq g15.symm))))).ext E17).other W18 (Ne.symm (Nat.ne_of_lt (Nat.lt_of_lt_of_le ((((((((((((EG.ext E2).wr W4).ext E5).keep K6).wr W7).ext E8).wr W9).ext E10).wr W11).wr W12).wr W13).wr W14).lt (Nat.le_of_eq g15.symm))))).ext E19).other W20 (Ne.symm (Nat.ne_of_lt (Nat.lt_of_lt_of_le ((((((((((((EG.ext E2).wr W4).ext E5).keep K6).wr W7).ext E8).wr W9).ext E10).wr W11).wr W12).wr W13).wr W14).lt (Nat.le_of_eq g15.symm))))).ext E21).other W22 (Ne.symm (Nat.ne_of_lt (Nat.lt_of_lt_of_le ((((((((((((EG.ext E2).wr W4).ext E5).keep K6).wr W7).ext E8).wr W9).ext E10).wr W11).wr W12).wr W13).wr W14).lt (Nat.le_of_eq g15.symm)))))), (by rw [e22]; exact (((((VA_b17.other W18 (Ne.symm (Nat.ne_of_lt (Nat.lt_of_lt_of_le ((((((((((((((EG.ext E2).wr W4).ext E5).keep K6).wr W7).ext E8).wr W9).ext E10).wr W11).wr W12).wr W13).wr W14).ext E15).wr W16).lt (Nat.le_of_eq g17.symm))))).ext E19).other W20 (Ne.symm (Nat.ne_of_lt (Nat.lt_of_lt_of_le ((((((((((((((EG.ext E2).wr W4).ext E5).keep K6).wr W7).ext E8).wr W9).ext E10).wr W11).wr W12).wr W13).wr W14).ext E15).wr W16).lt (Nat.le_of_eq g17.symm))))).ext E21).other W22 (Ne.symm (Nat.ne_of_lt (Nat.lt_of_lt_of_le ((((((((((((((EG.ext E2).wr W4).ext E5).keep K6).wr W7).ext E8).wr W9).ext E10).wr W11).wr W12).wr W13).wr W14).ext E15).wr W16).lt (Nat.le_of_eq g17.symm)))))), ⟨_, (by rw [e22]; exact (((VA_b19.other W20 (Ne.symm (Nat.ne_of_lt (Nat.lt_of_lt_of_le ((((((((((((((((EG.ext E2).wr W4).ext E5).keep K6).wr W7).ext E8).wr W9).ext E10).wr W11).wr W12).wr W13).wr W14).ext E15).wr W16).ext E17).wr W18).lt (Nat.le_of_eq g19.symm))))).ext E21).other W22 (Ne.symm (Nat.ne_of_lt (Nat.lt_of_lt_of_le ((((((((((((((((EG.ext E2).wr W4).ext E5).keep K6).wr W7).ext E8).wr W9).ext E10).wr W11).wr W12).wr W13).wr W14).ext E15).wr W16).ext E17).wr W18).lt (Nat.le_of_eq g19.symm))))))⟩, ⟨_, (by rw [e22]; exact (VA_b21.other W22 (Ne.symm (Nat.ne_of_lt (Nat.lt_of_lt_of_le ((((((((((((((((((EG.ext E2).wr W4).ext E5).keep K6).wr W7).ext E8).wr W9).ext E10).wr W11).wr W12).wr W13).wr W14).ext E15).wr W16).ext E17).wr W18).ext E19).wr W20).lt (Nat.le_of_eq g21.symm))))))⟩⟩, ⟨(by rw [e22]; exact ((((((((((((((((Ea6.wr W7).ext E8).wr W9).ext E10).wr W11).wr W12).wr W13).wr W14).ext E15).wr W16).ext E17).wr W18).ext E19).wr W20).ext E21).wr W22)), ⟨_, (by rw [e22]; exact ((((((((((((((((Fa6_0.other W7 (Or.inl (Ne.symm (Nat.ne_of_lt (Nat.lt_of_lt_of_le ((EG.ext E2).wr W4).lt (Nat.le_of_eq g5.symm)))))).ext E8).other W9 (Or.inl (Ne.symm (Nat.ne_of_lt (Nat.lt_of_lt_of_le ((EG.ext E2).wr W4).lt (Nat.le_of_eq g5.symm)))))).ext E10).other W11 (Or.inl (Ne.symm (Nat.ne_of_lt (Nat.lt_of_lt_of_le ((EG.ext E2).wr W4).lt (Nat.le_of_eq g5.symm)))))).other W12 (Or.inl (Ne.symm (Nat.ne_of_lt (Nat.lt_of_lt_of_le ((EG.ext E2).wr W4).lt (Nat.le_of_eq g5.symm)))))).other W13 (Or.inl (Ne.symm (Nat.ne_of_lt (Nat.lt_of_lt_of_le ((EG.ext E2).wr W4).lt (Nat.le_of_eq g5.symm)))))).other W14 (Or.inl (Ne.symm (Nat.ne_of_lt (Nat.lt_of_lt_of_le ((EG.ext E2).wr W4).lt (Nat.le_of_eq g5.symm)))))).ext E15).other W16 (Or.inl (Ne.symm (Nat.ne_of_lt (Nat.lt_of_lt_of_le ((EG.ext E2).wr W4).lt (Nat.le_of_eq g5.symm)))))).ext E17).other W18 (Or.inl (Ne.symm (Nat.ne_of_lt (Nat.lt_of_lt_of_le ((EG.ext E2).wr W4).lt (Nat.le_of_eq g5.symm)))))).ext E19).other W20 (Or.inl (Ne.symm (Nat.ne_of_lt (Nat.lt_of_lt_of_le ((EG.ext E2).wr W4).lt (Nat.le_of_eq g5.symm)))))).ext E21).other W22 (Or.inl (Ne.symm (Nat.ne_of_lt (Nat.lt_of_lt_of_le ((EG.ext E2).wr W4).lt (Nat.le_of_eq g5.symm)))))))⟩, (by rw [e22]; exact ((((((((((((((((Fa6_1.other W7 (Or.inl (Ne.symm (Nat.ne_of_lt (Nat.lt_of_lt_of_le ((EG.ext E2).wr W4).lt (Nat.le_of_eq g5.symm)))))).ext E8).other W9 (Or.inl (Ne.symm (Nat.ne_of_lt (Nat.lt_of_lt_of_le ((EG.ext E2).wr W4).lt (Nat.le_of_eq g5.symm)))))).ext E10).other W11 (Or.inl (Ne.symm (Nat.ne_of_lt (Nat.lt_of_lt_of_le ((EG.ext E2).wr W4).lt (Nat.le_of_eq g5.symm)))))).other W12 (Or.inl (Ne.symm (Nat.ne_of_lt (Nat.lt_of_lt_of_le ((EG.ext E2).wr W4).lt (Nat.le_of_eq g5.symm)))))).other W13 (Or.inl (Ne.symm (Nat.ne_of_lt (Nat.lt_of_lt_of_le ((EG.ext E2).wr W4).lt (Nat.le_of_eq g5.symm)))))).other W14 (Or.inl (Ne.symm (Nat.ne_of_lt (Nat.lt_of_lt_of_le ((EG.ext E2).wr W4).lt (Nat.le_of_eq g5.symm)))))).ext E15).other W16 (Or.inl (Ne.symm (Nat.ne_of_lt (Nat.lt_of_lt_of_le ((EG.ext E2).wr W4).lt (Nat.le_of_eq g5.symm)))))).ext E17).other W18 (Or.inl (Ne.symm (Nat.ne_of_lt (Nat.lt_of_lt_of_le ((EG.ext E2).wr W4).lt (Nat.le_of_eq g5.symm)))))).ext E19).other W20 (Or.inl (Ne.symm (Nat.ne_of_lt (Nat.lt_of_lt_of_le ((EG.ext E2).wr W4).lt (Nat.le_of_eq g5.symm)))))).ext E21).other W22 (Or.inl (Ne.symm (Nat.ne_of_lt (Nat.lt_of_lt_of_le ((EG.ext E2).wr W4).lt (Nat.le_of_eq g5.symm))))))), (by rw [e22]; exact ((((((((((((((((Fa6_2.other W7 (Or.inl (Ne.symm (Nat.ne_of_lt (Nat.lt_of_lt_of_le ((EG.ext E2).wr W4).lt (Nat.le_of_eq g5.symm)))))).ext E8).other W9 (Or.inl (Ne.symm (Nat.ne_of_lt (Nat.lt_of_lt_of_le ((EG.ext E2).wr W4).lt (Nat.le_of_eq g5.symm)))))).ext E10).other W11 (Or.inl (Ne.symm (Nat.ne_of_lt (Nat.lt_of_lt_of_le ((EG.ext E2).wr W4).lt (Nat.le_of_eq g5.symm)))))).other W12 (Or.inl (Ne.symm (Nat.ne_of_lt (Nat.lt_of_lt_of_le ((EG.ext E2).wr W4).lt (Nat.le_of_eq g5.symm)))))).other W13 (Or.inl (Ne.symm (Nat.ne_of_lt (Nat.lt_of_lt_of_le ((EG.ext E2).wr W4).lt (Nat.le_of_eq g5.symm)))))).other W14 (Or.inl (Ne.symm (Nat.ne_of_lt (Nat.lt_of_lt_of_le ((EG.ext E2).wr W4).lt (Nat.le_of_eq g5.symm)))))).ext E15).other W16 (Or.inl (Ne.symm (Nat.ne_of_lt (Nat.lt_of_lt_of_le ((EG.ext E2).wr W4).lt (Nat.le_of_eq g5.symm)))))).ext E17).other W18 (Or.inl (Ne.symm (Nat.ne_of_lt (Nat.lt_of_lt_of_le ((EG.ext E2).wr W4).lt (Nat.le_of_eq g5.symm)))))).ext E19).other W20 (Or.inl (Ne.symm (Nat.ne_of_lt (Nat.lt_of_lt_of_le ((EG.ext E2).wr W4).lt (Nat.le_of_eq g5.symm)))))).ext E21).other W22 (Or.inl (Ne.symm (Nat.ne_of_lt (Nat.lt_of_lt_of_le ((EG.ext E2).wr W4).lt (Nat.le_of_eq g5.symm))))))), (by rw [e22]; exact ((((((((((((((((((((RX.ext E2).other W4 (Ne.symm x0)).ext E5).keep K6 (own_nin1 (Nat.ne_of_lt (Nat.lt_of_lt_of_le ((RX.ext E2).other W4 (Ne.symm x0)).lt (Nat.le_of_eq g5.symm))))).other W7 (Ne.symm x0)).ext E8).other W9 (Ne.symm x0)).ext E10).other W11 (Ne.symm x0)).other W12 (Ne.symm x0)).other W13 (Ne.symm x0)).other W14 (Ne.symm x0)).ext E15).other W16 (Ne.symm x0)).ext E17).other W18 (Ne.symm x0)).ext E19).other W20 (Ne.symm x0)).ext E21).other W22 (Ne.symm x0)))⟩, (List.Pairwise.cons (allS (Nat.ne_of_lt (Nat.lt_of_lt_of_le ((EG.ext E2).wr W4).lt (Nat.le_of_eq g5.symm))) (allS (Nat.ne_of_lt (Nat.lt_of_lt_of_le (((((EG.ext E2).wr W4).ext E5).keep K6).wr W7).lt (Nat.le_of_eq g8.symm))) (allS (Nat.ne_of_lt (Nat.lt_of_lt_of_le (((((((EG.ext E2).wr W4).ext E5).keep K6).wr W7).ext E8).wr W9).lt (Nat.le_of_eq g10.symm))) (allS (Nat.ne_of_lt (Nat.lt_of_lt_of_le ((((((((((((EG.ext E2).wr W4).ext E5).keep K6).wr W7).ext E8).wr W9).ext E10).wr W11).wr W12).wr W13).wr W14).lt (Nat.le_of_eq g15.symm))) (allS (Nat.ne_of_lt (Nat.lt_of_lt_of_le ((((((((((((((EG.ext E2).wr W4).ext E5).keep K6).wr W7).ext E8).wr W9).ext E10).wr W11).wr W12).wr W13).wr W14).ext E15).wr W16).lt (Nat.le_of_eq g17.symm))) (allS (Nat.ne_of_lt (Nat.lt_of_lt_of_le ((((((((((((((((EG.ext E2).wr W4).ext E5).keep K6).wr W7).ext E8).wr W9).ext E10).wr W11).wr W12).wr W13).wr W14).ext E15).wr W16).ext E17).wr W18).lt (Nat.le_of_eq g19.symm))) (allS (Nat.ne_of_lt (Nat.lt_of_lt_of_le ((((((((((((((((((EG.ext E2).wr W4).ext E5).keep K6).wr W7).ext E8).wr W9).ext E10).wr W11).wr W12).wr W13).wr W14).ext E15).wr W16).ext E17).wr W18).ext E19).wr W20).lt (Nat.le_of_eq g21.symm))) all0))))))) (List.Pairwise.cons (allS (Nat.ne_of_lt (Nat.lt_of_lt_of_le (Ea6.wr W7).lt (Nat.le_of_eq g8.symm))) (allS (Nat.ne_of_lt (Nat.lt_of_lt_of_le (((Ea6.wr W7).ext E8).wr W9).lt (Nat.le_of_eq g10.symm))) (allS (Nat.ne_of_lt (Nat.lt_of_lt_of_le ((((((((Ea6.wr W7).ext E8).wr W9).ext E10).wr W11).wr W12).wr W13).wr W14).lt (Nat.le_of_eq g15.symm))) (allS (Nat.ne_of_lt (Nat.lt_of_lt_of_le ((((((((((Ea6.wr W7).ext E8).wr W9).ext E10).wr W11).wr W12).wr W13).wr W14).ext E15).wr W16).lt (Nat.le_of_eq g17.symm))) (allS (Nat.ne_of_lt (Nat.lt_of_lt_of_le ((((((((((((Ea6.wr W7).ext E8).wr W9).ext E10).wr W11).wr W12).wr W13).wr W14).ext E15).wr W16).ext E17).wr W18).lt (Nat.le_of_eq g19.symm))) (allS (Nat.ne_of_lt (Nat.lt_of_lt_of_le ((((((((((((((Ea6.wr W7).ext E8).wr W9).ext E10).wr W11).wr W12).wr W13).wr W14).ext E15).wr W16).ext E17).wr W18).ext E19).wr W20).lt (Nat.le_of_eq g21.symm))) all0)))))) (List.Pairwise.cons (allS (Nat.ne_of_lt (Nat.lt_of_lt_of_le (VA_b8.other W9 (Ne.symm (Nat.ne_of_lt (Nat.lt_of_lt_of_le (((((EG.ext E2).wr W4).ext E5).keep K6).wr W7).lt (Nat.le_of_eq g8.symm))))).lt (Nat.le_of_eq g10.symm))) (allS (Nat.ne_of_lt (Nat.lt_of_lt_of_le ((((((VA_b8.other W9 (Ne.symm (Nat.ne_of_lt (Nat.lt_of_lt_of_le (((((EG.ext E2).wr W4).ext E5).keep K6).wr W7).lt (Nat.le_of_eq g8.symm))))).ext E10).other W11 (Ne.symm (Nat.ne_of_lt (Nat.lt_of_lt_of_le (((((EG.ext E2).wr W4).ext E5).keep K6).wr W7).lt (Nat.le_of_eq g8.symm))))).other W12 (Ne.symm (Nat.ne_of_lt (Nat.lt_of_lt_of_le (((((EG.ext E2).wr W4).ext E5).keep K6).wr W7).lt (Nat.le_of_eq g8.symm))))).other W13 (Ne.symm (Nat.ne_of_lt (Nat.lt_of_lt_of_le (((((EG.ext E2).wr W4).ext E5).keep K6).wr W7).lt (Nat.le_of_eq g8.symm))))).other W14 (Ne.symm (Nat.ne_of_lt (Nat.lt_of_lt_of_le (((((EG.ext E2).wr W4).ext E5).keep K6).wr W7).lt (Nat.le_of_eq g8.symm))))).lt (Nat.le_of_eq g15.symm))) (allS (Nat.ne_of_lt (Nat.lt_of_lt_of_le ((((((((VA_b8.other W9 (Ne.symm (Nat.ne_of_lt (Nat.lt_of_lt_of_le (((((EG.ext E2).wr W4).ext E5).keep K6).wr W7).lt (Nat.le_of_eq g8.symm))))).ext E10).other W11 (Ne.symm (Nat.ne_of_lt (Nat.lt_of_lt_of_le (((((EG.ext E2).wr W4).ext E5).keep K6).wr W7).lt (Nat.le_of_eq g8.symm))))).other W12 (Ne.symm (Nat.ne_of_lt (Nat.lt_of_lt_of_le (((((EG.ext E2).wr W4).ext E5).keep K6).wr W7).lt (Nat.le_of_eq g8.symm))))).other W13 (Ne.symm (Nat.ne_of_lt (Nat.lt_of_lt_of_le (((((EG.ext E2).wr W4).ext E5).keep K6).wr W7).lt (Nat.le_of_eq g8.symm))))).other W14 (Ne.symm (Nat.ne_of_lt (Nat.lt_of_lt_of_le (((((EG.ext E2).wr W4).ext E5).keep K6).wr W7).lt (Nat.le_of_eq g8.symm))))).ext E15).other W16 (Ne.symm (Nat.ne_of_lt (Nat.lt_of_lt_of_le (((((EG.ext E2).wr W4).ext E5).keep K6).wr W7).lt (Nat.le_of_eq g8.symm))))).lt (Nat.le_of_eq g17.symm))) (allS (Nat.ne_of_lt (Nat.lt_of_lt_of_le ((((((((((VA_b8.other W9 (Ne.symm (Nat.ne_of_lt (Nat.lt_of_lt_of_le (((((EG.ext E2).wr W4).ext E5).keep K6).wr W7).lt (Nat.le_of_eq g8.symm))))).ext E10).other W11 (Ne.symm (Nat.ne_of_lt (Nat.lt_of_lt_of_le (((((EG.ext E2).wr W4).ext E5).keep K6).wr W7).lt (Nat.le_of_eq g8.symm))))).other W12 (Ne.symm (Nat.ne_of_lt (Nat.lt_of_lt_of_le (((((EG.ext E2).wr W4).ext E5).keep K6).wr W7).lt (Nat.le_of_eq g8.symm))))).other W13 (Ne.symm (Nat.ne_of_lt (Nat.lt_of_lt_of_le (((((EG.ext E2).wr W4).ext E5).keep K6).wr W7).lt (Nat.le_of_eq g8.symm))))).other W14 (Ne.symm (Nat.ne_of_lt (Nat.lt_of_lt_of_le (((((EG.ext E2).wr W4).ext E5).keep K6).wr W7).lt (Nat.le_of_eq g8.symm))))).ext E15).other W16 (Ne.symm (Nat.ne_of_lt (Nat.lt_of_lt_of_le (((((EG.ext E2).wr W4).ext E5).keep K6).wr W7).lt (Nat.le_of_eq g8.symm))))).ext E17).other W18 (Ne.symm (Nat.ne_of_lt (Nat.lt_of_lt_of_le (((((EG.ext E2).wr W4).ext E5).keep K6).wr W7).lt (Nat.le_of_eq g8.symm))))).lt (Nat.le_of_eq g19.symm))) (allS (Nat.ne_of_lt (Nat.lt_of_lt_of_le ((((((((((((VA_b8.other W9 (Ne.symm (Nat.ne_of_lt (Nat.lt_of_lt_of_le (((((EG.ext E2).wr W4).ext E5).keep K6).wr W7).lt (Nat.le_of_eq g8.symm))))).ext E10).other W11 (Ne.symm (Nat.ne_of_lt (Nat.lt_of_lt_of_le (((((EG.ext E2).wr W4).ext E5).keep K6).wr W7).lt (Nat.le_of_eq g8.symm))))).other W12 (Ne.symm (Nat.ne_of_lt (Nat.lt_of_lt_of_le (((((EG.ext E2).wr W4).ext E5).keep K6).wr W7).lt (Nat.le_of_eq g8.symm))))).other W13 (Ne.symm (Nat.ne_of_lt (Nat.lt_of_lt_of_le (((((EG.ext E2).wr W4).ext E5).keep K6).wr W7).lt (Nat.le_of_eq g8.symm))))).other W14 (Ne.symm (Nat.ne_of_lt (Nat.lt_of_lt_of_le (((((EG.ext E2).wr W4).ext E5).keep K6).wr W7).lt (Nat.le_of_eq g8.symm))))).ext E15).other W16 (Ne.symm (Nat.ne_of_lt (Nat.lt_of_lt_of_le (((((EG.ext E2).wr W4).ext E5).keep K6).wr W7).lt (Nat.le_of_eq g8.symm))))).ext E17).other W18 (Ne.symm (Nat.ne_of_lt (Nat.lt_of_lt_of_le (((((EG.ext E2).wr W4).ext E5).keep K6).wr W7).lt (Nat.le_of_eq g8.symm))))).ext E19).other W20 (Ne.symm (Nat.ne_of_lt (Nat.lt_of_lt_of_le (((((EG.ext E2).wr W4).ext E5).keep K6).wr W7).lt (Nat.le_of_eq g8.symm))))).lt (Nat.le_of_eq g21.symm))) all0))))) (List.Pairwise.cons (allS (Nat.ne_of_lt (Nat.lt_of_lt_of_le ((((VA_b10.other W11 (Ne.symm (Nat.ne_of_lt (Nat.lt_of_lt_of_le (((((((EG.ext E2).wr W4).ext E5).keep K6).wr W7).ext E8).wr W9).lt (Nat.le_of_eq g10.symm))))).other W12 (Ne.symm (Nat.ne_of_lt (Nat.lt_of_lt_of_le (((((((EG.ext E2).wr W4).ext E5).keep K6).wr W7).ext E8).wr W9).lt (Nat.le_of_eq g10.symm))))).other W13 (Ne.symm (Nat.ne_of_lt (Nat.lt_of_lt_of_le (((((((EG.ext E2).wr W4).ext E5).keep K6).wr W7).ext E8).wr W9).lt (Nat.le_of_eq g10.symm))))).other W14 (Ne.symm (Nat.ne_of_lt (Nat.lt_of_lt_of_le (((((((EG.ext E2).wr W4).ext E5).keep K6).wr W7).ext E8).wr W9).lt (Nat.le_of_eq g10.symm))))).lt (Nat.le_of_eq g15.symm))) (allS (Nat.ne_of_lt (Nat.lt_of_lt_of_le ((((((VA_b10.other W11 (Ne.symm (Nat.ne_of_lt (Nat.lt_of_lt_of_le (((((((EG.ext E2).wr W4).ext E5).keep K6).wr W7).ext E8).wr W9).lt (Nat.le_of_eq g10.symm))))).other W12 (Ne.symm (Nat.ne_of_lt (Nat.lt_of_lt_of_le (((((((EG.ext E2).wr W4).ext E5).keep K6).wr W7).ext E8).wr W9).lt (Nat.le_of_eq g10.symm))))).other W13 (Ne.symm (Nat.ne_of_lt (Nat.lt_of_lt_of_le (((((((EG.ext E2).wr W4).ext E5).keep K6).wr W7).ext E8).wr W9).lt (Nat.le_of_eq g10.symm))))).other W14 (Ne.symm (Nat.ne_of_lt (Nat.lt_of_lt_of_le (((((((EG.ext E2).wr W4).ext E5).keep K6).wr W7).ext E8).wr W9).lt (Nat.le_of_eq g10.symm))))).ext E15).other W16 (Ne.symm (Nat.ne_of_lt (Nat.lt_of_lt_of_le (((((((EG.ext E2).wr W4).ext E5).keep K6).wr W7).ext E8).wr W9).lt (Nat.le_of_eq g10.symm))))).lt (Nat.le_of_eq g17.symm))) (allS (Nat.ne_of_lt (Nat.lt_of_lt_of_le ((((((((VA_b10.other W11 (Ne.symm (Nat.ne_of_lt (Nat.lt_of_lt_of_le (((((((EG.ext E2).wr W4).ext E5).keep K6).wr W7).ext E8).wr W9).lt (Nat.le_of_eq g10.symm))))).other W12 (Ne.symm (Nat.ne_of_lt (Nat.lt_of_lt_of_le (((((((EG.ext E2).wr W4).ext E5).keep K6).wr W7).ext E8).wr W9).lt (Nat.le_of_eq g10.symm))))).other W13 (Ne.symm (Nat.ne_of_lt (Nat.lt_of_lt_of_le (((((((EG.ext E2).wr W4).ext E5).keep K6).wr W7).ext E8).wr W9).lt (Nat.le_of_eq g10.symm))))).other W14 (Ne.symm (Nat.ne_of_lt (Nat.lt_of_lt_of_le (((((((EG.ext E2).wr W4).ext E5).keep K6).wr W7).ext E8).wr W9).lt (Nat.le_of_eq g10.symm))))).ext E15).other W16 (Ne.symm (Nat.ne_of_lt (Nat.lt_of_lt_of_le (((((((EG.ext E2).wr W4).ext E5).keep K6).wr W7).ext E8).wr W9).lt (Nat.le_of_eq g10.symm))))).ext E17).other W18 (Ne.symm (Nat.ne_of_lt (Nat.lt_of_lt_of_le (((((((EG.ext E2).wr W4).ext E5).keep K6).wr W7).ext E8).wr W9).lt (Nat.le_of_eq g10.symm))))).lt (Nat.le_of_eq g19.symm))) (allS (Nat.ne_of_lt (Nat.lt_of_lt_of_le ((((((((((VA_b10.other W11 (Ne.symm (Nat.ne_of_lt (Nat.lt_of_lt_of_le (((((((EG.ext E2).wr W4).ext E5).keep K6).wr W7).ext E8).wr W9).lt (Nat.le_of_eq g10.symm))))).other W12 (Ne.symm (Nat.ne_of_lt (Nat.lt_of_lt_of_le (((((((EG.ext E2).wr W4).ext E5).keep K6).wr W7).ext E8).wr W9).lt (Nat.le_of_eq g10.symm))))).other W13 (Ne.symm (Nat.ne_of_lt (Nat.lt_of_lt_of_le (((((((EG.ext E2).wr W4).ext E5).keep K6).wr W7).ext E8).wr W9).lt (Nat.le_of_eq g10.symm))))).other W14 (Ne.symm (Nat.ne_of_lt (Nat.lt_of_lt_of_le (((((((EG.ext E2).wr W4).ext E5).keep K6).wr W7).ext E8).wr W9).lt (Nat.le_of_eq g10.symm))))).ext E15).other W16 (Ne.symm (Nat.ne_of_lt (Nat.lt_of_lt_of_le (((((((EG.ext E2).wr W4).ext E5).keep K6).wr W7).ext E8).wr W9).lt (Nat.le_of_eq g10.symm))))).ext E17).other W18 (Ne.symm (Nat.ne_of_lt (Nat.lt_of_lt_of_le (((((((EG.ext E2).wr W4).ext E5).keep K6).wr W7).ext E8).wr W9).lt (Nat.le_of_eq g10.symm))))).ext E19).other W20 (Ne.symm (Nat.ne_of_lt (Nat.lt_of_lt_of_le (((((((EG.ext E2).wr W4).ext E5).keep K6).wr W7).ext E8).wr W9).lt (Nat.le_of_eq g10.symm))))).lt (Nat.le_of_eq g21.symm))) all0)))) (List.Pairwise.cons (allS (Nat.ne_of_lt (Nat.lt_of_lt_of_le (VA_b15.other W16 (Ne.symm (Nat.ne_of_lt (Nat.lt_of_lt_of_le ((((((((((((EG.ext E2).wr W4).ext E5).keep K6).wr W7).ext E8).wr W9).ext E10).wr W11).wr W12).wr W13).wr W14).lt (Nat.le_of_eq g15.symm))))).lt (Nat.le_of_eq g17.symm))) (allS (Nat.ne_of_lt (Nat.lt_of_lt_of_le (((VA_b15.other W16 (Ne.symm (Nat.ne_of_lt (Nat.lt_of_lt_of_le ((((((((((((EG.ext E2).wr W4).ext E5).keep K6).wr W7).ext E8).wr W9).ext E10).wr W11).wr W12).wr W13).wr W14).lt (Nat.le_of_eq g15.symm))))).ext E17).other W18 (Ne.symm (Nat.ne_of_lt (Nat.lt_of_lt_of_le ((((((((((((EG.ext E2).wr W4).ext E5).keep K6).wr W7).ext E8).wr W9).ext E10).wr W11).wr W12).wr W13).wr W14).lt (Nat.le_of_eq g15.symm))))).lt (Nat.le_of_eq g19.symm))) (allS (Nat.ne_of_lt (Nat.lt_of_lt_of_le (((((VA_b15.other W16 (Ne.symm (Nat.ne_of_lt (Nat.lt_of_lt_of_le ((((((((((((EG.ext E2).wr W4).ext E5).keep K6).wr W7).ext E8).wr W9).ext E10).wr W11).wr W12).wr W13).wr W14).lt (Nat.le_of_eq g15.symm))))).ext E17).other W18 (Ne.symm (Nat.ne_of_lt (Nat.lt_of_lt_of_le ((((((((((((EG.ext E2).wr W4).ext E5).keep K6).wr W7).ext E8).wr W9).ext E10).wr W11).wr W12).wr W13).wr W14).lt (Nat.le_of_eq g15.symm))))).ext E19).other W20 (Ne.symm (Nat.ne_of_lt (Nat.lt_of_lt_of_le ((((((((((((EG.ext E2).wr W4).ext E5).keep K6).wr W7).ext E8).wr W9).ext E10).wr W11).wr W12).wr W13).wr W14).lt (Nat.le_of_eq g15.symm))))).lt (Nat.le_of_eq g21.symm))) all0))) (List.Pairwise.cons (allS (Nat.ne_of_lt (Nat.lt_of_lt_of_le (VA_b17.other W18 (Ne.symm (Nat.ne_of_lt (Nat.lt_of_lt_of_le ((((((((((((((EG.ext E2).wr W4).ext E5).keep K6).wr W7).ext E8).wr W9).ext E10).wr W11).wr W12).wr W13).wr W14).ext E15).wr W16).lt (Nat.le_of_eq g17.symm))))).lt (Nat.le_of_eq g19.symm))) (allS (Nat.ne_of_lt (Nat.lt_of_lt_of_le (((VA_b17.other W18 (Ne.symm (Nat.ne_of_lt (Nat.lt_of_lt_of_le ((((((((((((((EG.ext E2).wr W4).ext E5).keep K6).wr W7).ext E8).wr W9).ext E10).wr W11).wr W12).wr W13).wr W14).ext E15).wr W16).lt (Nat.le_of_eq g17.symm))))).ext E19).other W20 (Ne.symm (Nat.ne_of_lt (Nat.lt_of_lt_of_le ((((((((((((((EG.ext E2).wr W4).ext E5).keep K6).wr W7).ext E8).wr W9).ext E10).wr W11).wr W12).wr W13).wr W14).ext E15).wr W16).lt (Nat.le_of_eq g17.symm))))).lt (Nat.le_of_eq g21.symm))) all0)) (List.Pairwise.cons (allS (Nat.ne_of_lt (Nat.lt_of_lt_of_le (VA_b19.other W20 (Ne.symm (Nat.ne_of_lt (Nat.lt_of_lt_of_le ((((((((((((((((EG.ext E2).wr W4).ext E5).keep K6).wr W7).ext E8).wr W9).ext E10).wr W11).wr W12).wr W13).wr W14).ext E15).wr W16).ext E17).wr W18).lt (Nat.le_of_eq g19.symm))))).lt (Nat.le_of_eq g21.symm))) all0) (List.Pairwise.cons all0 List.Pairwise.nil)))))))), (allS g_b5 (allS g_b8 (allS g_b10 (allS g_b15 (allS g_b17 (allS g_b19 (allS g_b21 all0)))))))⟩
theorem d15_0 : decode prog_19_method_1_code 0 = .ok (.aload_n 0, 1) := by decide +kernel
theorem d15_1 : decode prog_19_method_1_code 1 = .ok (.invokespecial 1, 3) := by decide +kernel
theorem d15_4 : decode prog_19_method_1_code 4 = .ok (.aload_n 0, 1) := by decide +kernel
theorem d15_5 : decode prog_19_method_1_code 5 = .ok (.iconst (-1), 1) := by decide +kernel
theorem d15_6 : decode prog_19_method_1_code 6 = .ok (.putfield 7, 3) := by decide +kernel
theorem d15_9 : decode prog_19_method_1_code 9 = .ok (.aload_n 0, 1) := by decide +kernel
theorem d15_10 : decode prog_19_method_1_code 10 = .ok (.aload_n 1, 1) := by decide +kernel
theorem d15_11 : decode prog_19_method_1_code 11 = .ok (.putfield 13, 3) := by decide +kernel
theorem d15_14 : decode prog_19_method_1_code 14 = .ok (.return_, 1) := by decide +kernel
theorem ef_15 (m : MethodId) (a0 : Addr) (a1 : Addr) : entryFrame m #[(.ref a0), (.ref a1)] 2 = mkF m 0 #[.val (.ref a0), .val (.ref a1)] [] := by first | (simp [entryFrame, mkF, argsToLocals, Value.category]; done) | rfl
theorem pn_7 : plainName "com/example/changeset/changeset/check/FoundState" = true := by first | (simp [plainName, overriddenIn]; done) | decide +kernel
def Q15 (Z : State) (a0 : Addr) (a1 : Addr) (u_number : Value) (u_state : Value) (h0 : Heap) (n0 : Nat) (v : Option Value) (h : Heap) (L : List Loc) : Prop := v = none ∧ Fr n0 L ∧ Keep h0 h [a0] ∧ Exa Z h a0 "com/example/changeset/changeset/check/FoundState" ∧ Fld Z h a0 "com/example/changeset/changeset/check/FoundState" "number" "I" (.int (-1 : Int32)) ∧ Fld Z h a0 "com/example/changeset/changeset/check/FoundState" "state" "Lcom/example/changeset/changeset/check/State;" (.ref a1)
set_option maxRecDepth 65536 in
set_option maxHeartbeats 40000000 in
theorem rm15 (l : Launch) (Z : State) (aZ : Array Value) (hw : ∀ d ∈ tables_1, d.before aZ Z = true) (ws : List Jvm.Cond) (a0 : Addr) (a1 : Addr) (u_number : Value) (u_state : Value) (h0 : Heap) (n0 : Nat) (Z0 : n0 ≤ h0.size) (g_a0 : n0 ≤ a0) (E_a0 : Exa Z h0 a0 "com/example/changeset/changeset/check/FoundState") (F_u_number : Fld Z h0 a0 "com/example/changeset/changeset/check/FoundState" "number" "I" u_number) (F_u_state : Fld Z h0 a0 "com/example/changeset/changeset/check/FoundState" "state" "Lcom/example/changeset/changeset/check/State;" u_state) :
    MetFree l (⟨"com/example/changeset/changeset/check/FoundState", "<init>", "(Lcom/example/changeset/changeset/check/State;)V"⟩ : MethodName) (head1 (Jvm.Cond.code (⟨"com/example/changeset/changeset/check/FoundState", "<init>", "(Lcom/example/changeset/changeset/check/State;)V"⟩ : MethodName) prog_19_method_1_code 2 none :: ws) ({ frames := 1, cells := 0, slots := 0, locals := 12 } : Room)) (fun a U => a = #[(.ref a0), (.ref a1)] ∧ Z.Warmed39 U.vm ∧ U.heap = h0) (fun _ _ _ _ _ => True) (fun _ U o U' => ∃ v L, o = .returned v ∧ Q15 Z a0 a1 u_number u_state h0 n0 v U'.heap L ∧ FrameEnd U o U' L 0 0) := by
  refine MetFree.of_bodySF (plainFor_of_name pn_7) hisR ?_
  intro p e s m args below meth c s₁ Bd hml0 hP hK
  obtain ⟨rfl, hZ, hh⟩ := hP
  have hx := Bd.exec
  have hby := Bd.bytes
  have hml : c.maxLocals = 2 := hml0
  have hown : s.vm.findClass "com/example/changeset/changeset/check/FoundState" = some m.cls := findClass_of_methodNamed Bd.named
  have hnm := (name_of_methodNamed Bd.named Bd.method).1
  have hlk := BodyLoose.notSynchronized Bd
  have X0 : Stand p l e ({ frames := 1, cells := 0, slots := 0, locals := 12 } : Room) s m #[(.ref a0), (.ref a1)] below meth c s₁ [] 0 0 := Stand.of_body Bd
  have e0 : s₁.heap = h0 := by rw [← hh, Bd.state]; rfl
  have N0 := Fr.nil n0
  have hk0 : 0 ≤ 0 := Nat.zero_le _
  have hn0 : 0 ≤ 0 := Nat.zero_le _
  show OwnEnds p e below (OwnQ s (Q15 Z a0 a1 u_number u_state h0 n0) 0 0) (s₁.setTop (entryFrame m #[(.ref a0), (.ref a1)] 2))
  refine .pre (fun t k => castTop (ef_15 m a0 a1) k) ?_
  show OwnEnds p e below _ (s₁.setTop (mkF m 0 #[.val (.ref a0), .val (.ref a1)] []))
  refine .pre (fun _ kq => XS.aloadN X0.here hx rfl (hb hby d15_0) rfl rfl kq) ?_
  show OwnEnds p e below _ (s₁.setTop (mkF m 1 #[.val (.ref a0), .val (.ref a1)] [(.ref a0)]))
  obtain ⟨T1, X1, e1, st1⟩ := initO X0 hx hZ hown (hw _ (List.mem_of_getElem? (i := 111) rfl)) (hw _ (List.mem_of_getElem? (i := 40) rfl)) (hw _ (List.mem_of_getElem? (i := 41) rfl)) e0 (g := (mkF m 1 #[.val (.ref a0), .val (.ref a1)] [(.ref a0)])) rfl (by rw [hml]; rfl) rfl (hb hby d15_1) (by decide) (W := 0) (by show 2 * 0 + _ ≤ _; exact Nat.le_of_eq rfl) (by decide)
  refine .pre (fun _ kq => st1 _ kq) ?_
  show OwnEnds p e below _ (T1.setTop (mkF m 4 #[.val (.ref a0), .val (.ref a1)] []))
  refine .pre (fun _ kq => XS.aloadN X1.here hx rfl (hb hby d15_4) rfl rfl kq) ?_
  show OwnEnds p e below _ (T1.setTop (mkF m 5 #[.val (.ref a0), .val (.ref a1)] [(.ref a0)]))
  refine .pre (fun _ kq => XS.iconst X1.here hx rfl (hb hby d15_5) kq) ?_
  show OwnEnds p e below _ (T1.setTop (mkF m 6 #[.val (.ref a0), .val (.ref a1)] [(.int (-1 : Int32)), (.ref a0)]))
  obtain ⟨T2, h2, X2, e2, W2, st2⟩ := putF X1 hx hZ hown (host := "") (Or.inl (hw _ (List.mem_of_getElem? (i := 112) rfl))) Via.refl e1 F_u_number E_a0 (Or.inl (hw _ (List.mem_of_getElem? (i := 113) rfl))) (hw _ (List.mem_of_getElem? (i := 106) rfl)) (ty := .int) (by decide) rfl rfl (g := (mkF m 6 #[.val (.ref a0), .val (.ref a1)] [(.int (-1 : Int32)), (.ref a0)])) rfl rfl (hb hby d15_6)
  have Fw2 := F_u_number.same W2
  have N2 := Fr.snoc X2 N0 g_a0
  have Kp2 : Keep h0 h2 [a0] := (Keep.refl h0 [a0]).wr W2 (Or.inl (List.mem_of_getElem? (i := 0) rfl))
  refine .pre (fun _ kq => st2 _ kq) ?_
  show OwnEnds p e below _ (T2.setTop (mkF m 9 #[.val (.ref a0), .val (.ref a1)] []))
  refine .pre (fun _ kq => XS.aloadN X2.here hx rfl (hb hby d15_9) rfl rfl kq) ?_
  show OwnEnds p e below _ (T2.setTop (mkF m 10 #[.val (.ref a0), .val (.ref a1)] [(.ref a0)]))
  refine .pre (fun _ kq => XS.aloadN X2.here hx rfl (hb hby d15_10) rfl rfl kq) ?_
  show OwnEnds p e below _ (T2.setTop (mkF m 11 #[.val (.ref a0), .val (.ref a1)] [(.ref a1), (.ref a0)]))
  obtain ⟨T3, h3, X3, e3, W3, st3⟩ := putF X2 hx hZ hown (host := "") (Or.inl (hw _ (List.mem_of_getElem? (i := 114) rfl))) Via.refl e2 (F_u_state.other W2 (Or.inr (slot_ne (Or.inr (hw _ (List.mem_of_getElem? (i := 115) rfl))) (Or.inl (hw _ (List.mem_of_getElem? (i := 113) rfl))) (by decide) (t := (.object "com/example/changeset/changeset/check/State")) (t' := .int) (by decide) (by decide)))) (E_a0.wr W2) (Or.inr ⟨(hw _ (List.mem_of_getElem? (i := 115) rfl)), rfl, hnm⟩) (hw _ (List.mem_of_getElem? (i := 106) rfl)) (ty := (.object "com/example/changeset/changeset/check/State")) (by decide) rfl rfl (g := (mkF m 11 #[.val (.ref a0), .val (.ref a1)] [(.ref a1), (.ref a0)])) rfl rfl (hb hby d15_11)
  have Fw3 := (F_u_state.other W2 (Or.inr (slot_ne (Or.inr (hw _ (List.mem_of_getElem? (i := 115) rfl))) (Or.inl (hw _ (List.mem_of_getElem? (i := 113) rfl))) (by decide) (t := (.object "com/example/changeset/changeset/check/State")) (t' := .int) (by decide) (by decide)))).same W3
  have N3 := Fr.snoc X3 N2 g_a0
  have Kp3 : Keep h0 h3 [a0] := Kp2.wr W3 (Or.inl (List.mem_of_getElem? (i := 0) rfl))
  refine .pre (fun _ kq => st3 _ kq) ?_
  show OwnEnds p e below _ (T3.setTop (mkF m 14 #[.val (.ref a0), .val (.ref a1)] []))
  exact own_endV X3 hx hlk Bd.returns (hb hby d15_14) (by decide) (by decide) ⟨rfl, N3, (by rw [e3]; exact Kp3), (by rw [e3]; exact ((E_a0.wr W2).wr W3)), (by rw [e3]; exact (Fw2.other W3 (Or.inr (slot_ne (Or.inl (hw _ (List.mem_of_getElem? (i := 113) rfl))) (Or.inr (hw _ (List.mem_of_getElem? (i := 115) rfl))) (by decide) (t := .int) (t' := (.object "com/example/changeset/changeset/check/State")) (by decide) (by decide))))), (by rw [e3]; exact Fw3)⟩
theorem d17_0 : decode prog_19_method_3_code 0 = .ok (.aload_n 0, 1) := by decide +kernel
theorem d17_1 : decode prog_19_method_3_code 1 = .ok (.getfield 7, 3) := by decide +kernel
theorem d17_4 : decode prog_19_method_3_code 4 = .ok (.ireturn, 1) := by decide +kernel
theorem ef_17 (m : MethodId) (a0 : Addr) : entryFrame m #[(.ref a0)] 1 = mkF m 0 #[.val (.ref a0)] [] := by first | (simp [entryFrame, mkF, argsToLocals, Value.category]; done) | rfl
def Q17 (Z : State) (a0 : Addr) (w0 : Int32) (h0 : Heap) (n0 : Nat) (v : Option Value) (h : Heap) (L : List Loc) : Prop := v = some (.int w0) ∧ Fr n0 L ∧ h = h0
set_option maxRecDepth 65536 in
set_option maxHeartbeats 40000000 in
theorem rm17 (l : Launch) (Z : State) (aZ : Array Value) (hw : ∀ d ∈ tables_1, d.before aZ Z = true) (ws : List Jvm.Cond) (a0 : Addr) (w0 : Int32) (h0 : Heap) (n0 : Nat) (Z0 : n0 ≤ h0.size) (F0 : Fld Z h0 a0 "com/example/changeset/changeset/check/FoundState" "number" "I" (.int w0)) :
    MetFree l (⟨"com/example/changeset/changeset/check/FoundState", "number", "()I"⟩ : MethodName) (head1 (Jvm.Cond.code (⟨"com/example/changeset/changeset/check/FoundState", "number", "()I"⟩ : MethodName) prog_19_method_3_code 1 (some .int) :: ws) ({ frames := 0, cells := 0, slots := 0, locals := 0 } : Room)) (fun a U => a = #[(.ref a0)] ∧ Z.Warmed39 U.vm ∧ U.heap = h0) (fun _ _ _ _ _ => True) (fun _ U o U' => ∃ v L, o = .returned v ∧ Q17 Z a0 w0 h0 n0 v U'.heap L ∧ FrameEnd U o U' L 0 0) := by
  refine MetFree.of_bodySF (plainFor_of_name pn_7) hisR ?_
  intro p e s m args below meth c s₁ Bd hml0 hP hK
  obtain ⟨rfl, hZ, hh⟩ := hP
  have hx := Bd.exec
  have hby := Bd.bytes
  have hml : c.maxLocals = 1 := hml0
  have hown : s.vm.findClass "com/example/changeset/changeset/check/FoundState" = some m.cls := findClass_of_methodNamed Bd.named
  have hnm := (name_of_methodNamed Bd.named Bd.method).1
  have hlk := BodyLoose.notSynchronized Bd
  have X0 : Stand p l e ({ frames := 0, cells := 0, slots := 0, locals := 0 } : Room) s m #[(.ref a0)] below meth c s₁ [] 0 0 := Stand.of_body Bd
  have e0 : s₁.heap = h0 := by rw [← hh, Bd.state]; rfl
  have N0 := Fr.nil n0
  have hk0 : 0 ≤ 0 := Nat.zero_le _
  have hn0 : 0 ≤ 0 := Nat.zero_le _
  show OwnEnds p e below (OwnQ s (Q17 Z a0 w0 h0 n0) 0 0) (s₁.setTop (entryFrame m #[(.ref a0)] 1))
  refine .pre (fun t k => castTop (ef_17 m a0) k) ?_
  show OwnEnds p e below _ (s₁.setTop (mkF m 0 #[.val (.ref a0)] []))
  refine .pre (fun _ kq => XS.aloadN X0.here hx rfl (hb hby d17_0) rfl rfl kq) ?_
  show OwnEnds p e below _ (s₁.setTop (mkF m 1 #[.val (.ref a0)] [(.ref a0)]))
  obtain ⟨T1, X1, e1, st1⟩ := getF X0 hx hZ hown (host := "") (Or.inl (hw _ (List.mem_of_getElem? (i := 112) rfl))) Via.refl e0 F0 (g := (mkF m 1 #[.val (.ref a0)] [(.ref a0)])) rfl rfl (hb hby d17_1)
  refine .pre (fun _ kq => st1 _ kq) ?_
  show OwnEnds p e below _ (T1.setTop (mkF m 4 #[.val (.ref a0)] [(.int w0)]))
  exact own_endI X1 hx hlk Bd.returns (hb hby d17_4) (by decide) (by decide) ⟨rfl, N0, e1⟩
theorem d19_0 : decode prog_19_method_2_code 0 = .ok (.aload_n 0, 1) := by decide +kernel
theorem d19_1 : decode prog_19_method_2_code 1 = .ok (.getfield 13, 3) := by decide +kernel
theorem d19_4 : decode prog_19_method_2_code 4 = .ok (.areturn, 1) := by decide +kernel
theorem ef_19 (m : MethodId) (a0 : Addr) : entryFrame m #[(.ref a0)] 1 = mkF m 0 #[.val (.ref a0)] [] := by first | (simp [entryFrame, mkF, argsToLocals, Value.category]; done) | rfl
def Q19 (Z : State) (a0 : Addr) (w0 : Addr) (h0 : Heap) (n0 : Nat) (v : Option Value) (h : Heap) (L : List Loc) : Prop := v = some (.ref w0) ∧ Fr n0 L ∧ h = h0
set_option maxRecDepth 65536 in
set_option maxHeartbeats 40000000 in
theorem rm19 (l : Launch) (Z : State) (aZ : Array Value) (hw : ∀ d ∈ tables_1, d.before aZ Z = true) (ws : List Jvm.Cond) (a0 : Addr) (w0 : Addr) (h0 : Heap) (n0 : Nat) (Z0 : n0 ≤ h0.size) (F0 : Fld Z h0 a0 "com/example/changeset/changeset/check/FoundState" "state" "Lcom/example/changeset/changeset/check/State;" (.ref w0)) :
    MetFree l (⟨"com/example/changeset/changeset/check/FoundState", "state", "()Lcom/example/changeset/changeset/check/State;"⟩ : MethodName) (head1 (Jvm.Cond.code (⟨"com/example/changeset/changeset/check/FoundState", "state", "()Lcom/example/changeset/changeset/check/State;"⟩ : MethodName) prog_19_method_2_code 1 (some (.object "com/example/changeset/changeset/check/State")) :: ws) ({ frames := 0, cells := 0, slots := 0, locals := 0 } : Room)) (fun a U => a = #[(.ref a0)] ∧ Z.Warmed39 U.vm ∧ U.heap = h0) (fun _ _ _ _ _ => True) (fun _ U o U' => ∃ v L, o = .returned v ∧ Q19 Z a0 w0 h0 n0 v U'.heap L ∧ FrameEnd U o U' L 0 0) := by
  refine MetFree.of_bodySF (plainFor_of_name pn_7) hisR ?_
  intro p e s m args below meth c s₁ Bd hml0 hP hK
  obtain ⟨rfl, hZ, hh⟩ := hP
  have hx := Bd.exec
  have hby := Bd.bytes
  have hml : c.maxLocals = 1 := hml0
  have hown : s.vm.findClass "com/example/changeset/changeset/check/FoundState" = some m.cls := findClass_of_methodNamed Bd.named
  have hnm := (name_of_methodNamed Bd.named Bd.method).1
  have hlk := BodyLoose.notSynchronized Bd
  have X0 : Stand p l e ({ frames := 0, cells := 0, slots := 0, locals := 0 } : Room) s m #[(.ref a0)] below meth c s₁ [] 0 0 := Stand.of_body Bd
  have e0 : s₁.heap = h0 := by rw [← hh, Bd.state]; rfl
  have N0 := Fr.nil n0
  have hk0 : 0 ≤ 0 := Nat.zero_le _
  have hn0 : 0 ≤ 0 := Nat.zero_le _
  show OwnEnds p e below (OwnQ s (Q19 Z a0 w0 h0 n0) 0 0) (s₁.setTop (entryFrame m #[(.ref a0)] 1))
  refine .pre (fun t k => castTop (ef_19 m a0) k) ?_
  show OwnEnds p e below _ (s₁.setTop (mkF m 0 #[.val (.ref a0)] []))
  refine .pre (fun _ kq => XS.aloadN X0.here hx rfl (hb hby d19_0) rfl rfl kq) ?_
  show OwnEnds p e below _ (s₁.setTop (mkF m 1 #[.val (.ref a0)] [(.ref a0)]))
  obtain ⟨T1, X1, e1, st1⟩ := getF X0 hx hZ hown (host := "") (Or.inl (hw _ (List.mem_of_getElem? (i := 114) rfl))) Via.refl e0 F0 (g := (mkF m 1 #[.val (.ref a0)] [(.ref a0)])) rfl rfl (hb hby d19_1)
  refine .pre (fun _ kq => st1 _ kq) ?_
  show OwnEnds p e below _ (T1.setTop (mkF m 4 #[.val (.ref a0)] [(.ref w0)]))
  exact own_endR X1 hx hlk Bd.returns rfl rfl (hb hby d19_4) (by decide) (by decide) ⟨rfl, N0, e1⟩
theorem d24_0 : decode prog_19_method_4_code 0 = .ok (.aload_n 0, 1) := by decide +kernel
theorem d24_1 : decode prog_19_method_4_code 1 = .ok (.iload_n 1, 1) := by decide +kernel
theorem d24_2 : decode prog_19_method_4_code 2 = .ok (.putfield 7, 3) := by decide +kernel
theorem d24_5 : decode prog_19_method_4_code 5 = .ok (.return_, 1) := by decide +kernel
theorem ef_24 (m : MethodId) (a0 : Addr) (p1 : Int32) : entryFrame m #[(.ref a0), (.int p1)] 2 = mkF m 0 #[.val (.ref a0), .val (.int p1)] [] := by first | (simp [entryFrame, mkF, argsToLocals, Value.category]; done) | rfl
def Q24 (Z : State) (a0 : Addr) (p1 : Int32) (u_number : Value) (u_state : Value) (h0 : Heap) (n0 : Nat) (v : Option Value) (h : Heap) (L : List Loc) : Prop := v = none ∧ Fr n0 L ∧ Keep h0 h [a0] ∧ Exa Z h a0 "com/example/changeset/changeset/check/FoundState" ∧ Fld Z h a0 "com/example/changeset/changeset/check/FoundState" "number" "I" (.int p1) ∧ Fld Z h a0 "com/example/changeset/changeset/check/FoundState" "state" "Lcom/example/changeset/changeset/check/State;" u_state
set_option maxRecDepth 65536 in
set_option maxHeartbeats 40000000 in
theorem rm24 (l : Launch) (Z : State) (aZ : Array Value) (hw : ∀ d ∈ tables_1, d.before aZ Z = true) (ws : List Jvm.Cond) (a0 : Addr) (p1 : Int32) (u_number : Value) (u_state : Value) (h0 : Heap) (n0 : Nat) (Z0 : n0 ≤ h0.size) (g_a0 : n0 ≤ a0) (E_a0 : Exa Z h0 a0 "com/example/changeset/changeset/check/FoundState") (F_u_number : Fld Z h0 a0 "com/example/changeset/changeset/check/FoundState" "number" "I" u_number) (F_u_state : Fld Z h0 a0 "com/example/changeset/changeset/check/FoundState" "state" "Lcom/example/changeset/changeset/check/State;" u_state) :
    MetFree l (⟨"com/example/changeset/changeset/check/FoundState", "number", "(I)V"⟩ : MethodName) (head1 (Jvm.Cond.code (⟨"com/example/changeset/changeset/check/FoundState", "number", "(I)V"⟩ : MethodName) prog_19_method_4_code 2 none :: ws) ({ frames := 0, cells := 0, slots := 0, locals := 0 } : Room)) (fun a U => a = #[(.ref a0), (.int p1)] ∧ Z.Warmed39 U.vm ∧ U.heap = h0) (fun _ _ _ _ _ => True) (fun _ U o U' => ∃ v L, o = .returned v ∧ Q24 Z a0 p1 u_number u_state h0 n0 v U'.heap L ∧ FrameEnd U o U' L 0 0) := by
  refine MetFree.of_bodySF (plainFor_of_name pn_7) hisR ?_
  intro p e s m args below meth c s₁ Bd hml0 hP hK
  obtain ⟨rfl, hZ, hh⟩ := hP
  have hx := Bd.exec
  have hby := Bd.bytes
  have hml : c.maxLocals = 2 := hml0
  have hown : s.vm.findClass "com/example/changeset/changeset/check/FoundState" = some m.cls := findClass_of_methodNamed Bd.named
  have hnm := (name_of_methodNamed Bd.named Bd.method).1
  have hlk := BodyLoose.notSynchronized Bd
  have X0 : Stand p l e ({ frames := 0, cells := 0, slots := 0, locals := 0 } : Room) s m #[(.ref a0), (.int p1)] below meth c s₁ [] 0 0 := Stand.of_body Bd
  have e0 : s₁.heap = h0 := by rw [← hh, Bd.state]; rfl
  have N0 := Fr.nil n0
  have hk0 : 0 ≤ 0 := Nat.zero_le _
  have hn0 : 0 ≤ 0 := Nat.zero_le _
  show OwnEnds p e below (OwnQ s (Q24 Z a0 p1 u_number u_state h0 n0) 0 0) (s₁.setTop (entryFrame m #[(.ref a0), (.int p1)] 2))
  refine .pre (fun t k => castTop (ef_24 m a0 p1) k) ?_
  show OwnEnds p e below _ (s₁.setTop (mkF m 0 #[.val (.ref a0), .val (.int p1)] []))
  refine .pre (fun _ kq => XS.aloadN X0.here hx rfl (hb hby d24_0) rfl rfl kq) ?_
  show OwnEnds p e below _ (s₁.setTop (mkF m 1 #[.val (.ref a0), .val (.int p1)] [(.ref a0)]))
  refine .pre (fun _ kq => XS.iloadN X0.here hx rfl (hb hby d24_1) rfl kq) ?_
  show OwnEnds p e below _ (s₁.setTop (mkF m 2 #[.val (.ref a0), .val (.int p1)] [(.int p1), (.ref a0)]))
  obtain ⟨T1, h1, X1, e1, W1, st1⟩ := putF X0 hx hZ hown (host := "") (Or.inl (hw _ (List.mem_of_getElem? (i := 112) rfl))) Via.refl e0 F_u_number E_a0 (Or.inl (hw _ (List.mem_of_getElem? (i := 113) rfl))) (hw _ (List.mem_of_getElem? (i := 106) rfl)) (ty := .int) (by decide) rfl rfl (g := (mkF m 2 #[.val (.ref a0), .val (.int p1)] [(.int p1), (.ref a0)])) rfl rfl (hb hby d24_2)
  have Fw1 := F_u_number.same W1
  have N1 := Fr.snoc X1 N0 g_a0
  have Kp1 : Keep h0 h1 [a0] := (Keep.refl h0 [a0]).wr W1 (Or.inl (List.mem_of_getElem? (i := 0) rfl))
  refine .pre (fun _ kq => st1 _ kq) ?_
  show OwnEnds p e below _ (T1.setTop (mkF m 5 #[.val (.ref a0), .val (.int p1)] []))
  exact own_endV X1 hx hlk Bd.returns (hb hby d24_5) (by decide) (by decide) ⟨rfl, N1, (by rw [e1]; exact Kp1), (by rw [e1]; exact (E_a0.wr W1)), (by rw [e1]; exact Fw1), (by rw [e1]; exact (F_u_state.other W1 (Or.inr (slot_ne (Or.inr (hw _ (List.mem_of_getElem? (i := 115) rfl))) (Or.inl (hw _ (List.mem_of_getElem? (i := 113) rfl))) (by decide) (t := (.object "com/example/changeset/changeset/check/State")) (t' := .int) (by decide) (by decide)))))⟩
theorem d18_0 : decode jdk_38_method_8_code 0 = .ok (.aload_n 0, 1) := by decide +kernel
theorem d18_1 : decode jdk_38_method_8_code 1 = .ok (.getfield 48, 3) := by decide +kernel
theorem d18_4 : decode jdk_38_method_8_code 4 = .ok (.ireturn, 1) := by decide +kernel
theorem ef_18 (m : MethodId) (a0 : Addr) : entryFrame m #[(.ref a0)] 1 = mkF m 0 #[.val (.ref a0)] [] := by first | (simp [entryFrame, mkF, argsToLocals, Value.category]; done) | rfl
def Q18 (Z : State) (a0 : Addr) (w0 : Int32) (h0 : Heap) (n0 : Nat) (v : Option Value) (h : Heap) (L : List Loc) : Prop := v = some (.int w0) ∧ Fr n0 L ∧ h = h0
set_option maxRecDepth 65536 in
set_option maxHeartbeats 40000000 in
theorem rm18 (l : Launch) (Z : State) (aZ : Array Value) (hw : ∀ d ∈ tables_1, d.before aZ Z = true) (ws : List Jvm.Cond) (a0 : Addr) (w0 : Int32) (h0 : Heap) (n0 : Nat) (Z0 : n0 ≤ h0.size) (F0 : Fld Z h0 a0 "java/util/ArrayList" "size" "I" (.int w0)) :
    MetFree l (⟨"java/util/ArrayList", "size", "()I"⟩ : MethodName) (head1 (Jvm.Cond.code (⟨"java/util/ArrayList", "size", "()I"⟩ : MethodName) jdk_38_method_8_code 1 (some .int) :: ws) ({ frames := 0, cells := 0, slots := 0, locals := 0 } : Room)) (fun a U => a = #[(.ref a0)] ∧ Z.Warmed39 U.vm ∧ U.heap = h0) (fun _ _ _ _ _ => True) (fun _ U o U' => ∃ v L, o = .returned v ∧ Q18 Z a0 w0 h0 n0 v U'.heap L ∧ FrameEnd U o U' L 0 0) := by
  refine MetFree.of_bodySF (plainFor_of_name pn_3) hisR ?_
  intro p e s m args below meth c s₁ Bd hml0 hP hK
  obtain ⟨rfl, hZ, hh⟩ := hP
  have hx := Bd.exec
  have hby := Bd.bytes
  have hml : c.maxLocals = 1 := hml0
  have hown : s.vm.findClass "java/util/ArrayList" = some m.cls := findClass_of_methodNamed Bd.named
  have hnm := (name_of_methodNamed Bd.named Bd.method).1
  have hlk := BodyLoose.notSynchronized Bd
  have X0 : Stand p l e ({ frames := 0, cells := 0, slots := 0, locals := 0 } : Room) s m #[(.ref a0)] below meth c s₁ [] 0 0 := Stand.of_body Bd
  have e0 : s₁.heap = h0 := by rw [← hh, Bd.state]; rfl
  have N0 := Fr.nil n0
  have hk0 : 0 ≤ 0 := Nat.zero_le _
  have hn0 : 0 ≤ 0 := Nat.zero_le _
  show OwnEnds p e below (OwnQ s (Q18 Z a0 w0 h0 n0) 0 0) (s₁.setTop (entryFrame m #[(.ref a0)] 1))
  refine .pre (fun t k => castTop (ef_18 m a0) k) ?_
  show OwnEnds p e below _ (s₁.setTop (mkF m 0 #[.val (.ref a0)] []))
  refine .pre (fun _ kq => XS.aloadN X0.here hx rfl (hb hby d18_0) rfl rfl kq) ?_
  show OwnEnds p e below _ (s₁.setTop (mkF m 1 #[.val (.ref a0)] [(.ref a0)]))
  obtain ⟨T1, X1, e1, st1⟩ := getF X0 hx hZ hown (host := "") (Or.inl (hw _ (List.mem_of_getElem? (i := 136) rfl))) Via.refl e0 F0 (g := (mkF m 1 #[.val (.ref a0)] [(.ref a0)])) rfl rfl (hb hby d18_1)
  refine .pre (fun _ kq => st1 _ kq) ?_
  show OwnEnds p e below _ (T1.setTop (mkF m 4 #[.val (.ref a0)] [(.int w0)]))
  exact own_endI X1 hx hlk Bd.returns (hb hby d18_4) (by decide) (by decide) ⟨rfl, N0, e1⟩
theorem d23_0 : decode jdk_38_method_6_code 0 = .ok (.aload_n 0, 1) := by decide +kernel
theorem d23_1 : decode jdk_38_method_6_code 1 = .ok (.getfield 9, 3) := by decide +kernel
theorem d23_4 : decode jdk_38_method_6_code 4 = .ok (.arraylength, 1) := by decide +kernel
theorem d23_5 : decode jdk_38_method_6_code 5 = .ok (.istore_n 2, 1) := by decide +kernel
theorem d23_6 : decode jdk_38_method_6_code 6 = .ok (.iload_n 2, 1) := by decide +kernel
theorem d23_7 : decode jdk_38_method_6_code 7 = .ok (.ifCond .gt 13, 3) := by decide +kernel
theorem d23_10 : decode jdk_38_method_6_code 10 = .ok (.aload_n 0, 1) := by decide +kernel
theorem d23_11 : decode jdk_38_method_6_code 11 = .ok (.getfield 9, 3) := by decide +kernel
theorem d23_14 : decode jdk_38_method_6_code 14 = .ok (.getstatic 39, 3) := by decide +kernel
theorem d23_17 : decode jdk_38_method_6_code 17 = .ok (.if_acmp .eq 28, 3) := by decide +kernel
theorem d23_20 : decode jdk_38_method_6_code 20 = .ok (.iload_n 2, 1) := by decide +kernel
theorem d23_21 : decode jdk_38_method_6_code 21 = .ok (.iload_n 1, 1) := by decide +kernel
theorem d23_22 : decode jdk_38_method_6_code 22 = .ok (.iload_n 2, 1) := by decide +kernel
theorem d23_23 : decode jdk_38_method_6_code 23 = .ok (.isub, 1) := by decide +kernel
theorem d23_24 : decode jdk_38_method_6_code 24 = .ok (.iload_n 2, 1) := by decide +kernel
theorem d23_25 : decode jdk_38_method_6_code 25 = .ok (.iconst 1, 1) := by decide +kernel
theorem d23_26 : decode jdk_38_method_6_code 26 = .ok (.ishr, 1) := by decide +kernel
theorem d23_27 : decode jdk_38_method_6_code 27 = .ok (.invokestatic 73, 3) := by decide +kernel
theorem d23_30 : decode jdk_38_method_6_code 30 = .ok (.istore_n 3, 1) := by decide +kernel
theorem d23_31 : decode jdk_38_method_6_code 31 = .ok (.aload_n 0, 1) := by decide +kernel
theorem d23_32 : decode jdk_38_method_6_code 32 = .ok (.aload_n 0, 1) := by decide +kernel
theorem d23_33 : decode jdk_38_method_6_code 33 = .ok (.getfield 9, 3) := by decide +kernel
theorem d23_36 : decode jdk_38_method_6_code 36 = .ok (.iload_n 3, 1) := by decide +kernel
theorem d23_37 : decode jdk_38_method_6_code 37 = .ok (.invokestatic 66, 3) := by decide +kernel
theorem d23_40 : decode jdk_38_method_6_code 40 = .ok (.dup_x1, 1) := by decide +kernel
theorem d23_41 : decode jdk_38_method_6_code 41 = .ok (.putfield 9, 3) := by decide +kernel
theorem d23_44 : decode jdk_38_method_6_code 44 = .ok (.areturn, 1) := by decide +kernel
theorem d23_45 : decode jdk_38_method_6_code 45 = .ok (.aload_n 0, 1) := by decide +kernel
theorem d23_46 : decode jdk_38_method_6_code 46 = .ok (.bipush 10, 2) := by decide +kernel
theorem d23_48 : decode jdk_38_method_6_code 48 = .ok (.iload_n 1, 1) := by decide +kernel
theorem d23_49 : decode jdk_38_method_6_code 49 = .ok (.invokestatic 79, 3) := by decide +kernel
theorem d23_52 : decode jdk_38_method_6_code 52 = .ok (.anewarray 7, 3) := by decide +kernel
theorem d23_55 : decode jdk_38_method_6_code 55 = .ok (.dup_x1, 1) := by decide +kernel
theorem d23_56 : decode jdk_38_method_6_code 56 = .ok (.putfield 9, 3) := by decide +kernel
theorem d23_59 : decode jdk_38_method_6_code 59 = .ok (.areturn, 1) := by decide +kernel
theorem ef_23 (m : MethodId) (a0 : Addr) : entryFrame m #[(.ref a0), (.int (1 : Int32))] 4 = mkF m 0 #[.val (.ref a0), .val (.int (1 : Int32)), .unset, .unset] [] := by first | (simp [entryFrame, mkF, argsToLocals, Value.category]; done) | rfl
theorem pd_8 : parseMethodDescriptor "(II)I" = some ⟨[.int, .int], some .int⟩ := by decide +kernel
def Q23 (Z : State) (a0 : Addr) (xD : Addr) (mc : Int32) (h0 : Heap) (n0 : Nat) (v : Option Value) (h : Heap) (L : List Loc) : Prop := ∃ r : Addr, v = some (.ref r) ∧ Fr n0 L ∧ Keep h0 h [a0] ∧ h0.size ≤ r ∧ Exa Z h a0 "java/util/ArrayList" ∧ (∃ mc : Int32, Fld Z h a0 "java/util/AbstractList" "modCount" "I" (.int mc)) ∧ Fld Z h a0 "java/util/ArrayList" "elementData" "[Ljava/lang/Object;" (.ref r) ∧ Fld Z h a0 "java/util/ArrayList" "size" "I" (.int (0 : Int32)) ∧ OwnR Z h r "java/lang/Object" (10 : Int32)
set_option maxRecDepth 65536 in
set_option maxHeartbeats 40000000 in
theorem rm23 (l : Launch) (Z : State) (aZ : Array Value) (hw : ∀ d ∈ tables_1, d.before aZ Z = true) (ws : List Jvm.Cond) (a0 : Addr) (xD : Addr) (mc : Int32) (h0 : Heap) (n0 : Nat) (Z0 : n0 ≤ h0.size) (SD : Sta Z h0 "java/util/ArrayList" "DEFAULTCAPACITY_EMPTY_ELEMENTDATA" "[Ljava/lang/Object;" (.ref xD)) (ELx : Exa Z h0 a0 "java/util/ArrayList") (Lx1 : Fld Z h0 a0 "java/util/AbstractList" "modCount" "I" (.int mc)) (Lx2 : Fld Z h0 a0 "java/util/ArrayList" "elementData" "[Ljava/lang/Object;" (.ref xD)) (Lx3 : Fld Z h0 a0 "java/util/ArrayList" "size" "I" (.int (0 : Int32))) (RDx : OwnR Z h0 xD "java/lang/Object" (0 : Int32)) (x0 : a0 ≠ xD) (g_a0 : n0 ≤ a0) :
    MetFree l (⟨"java/util/ArrayList", "grow", "(I)[Ljava/lang/Object;"⟩ : MethodName) (head1 (Jvm.Cond.code (⟨"java/util/ArrayList", "grow", "(I)[Ljava/lang/Object;"⟩ : MethodName) jdk_38_method_6_code 4 (some (.array (.object "java/lang/Object"))) :: ws) ({ frames := 1, cells := 1, slots := 10, locals := 16 } : Room)) (fun a U => a = #[(.ref a0), (.int (1 : Int32))] ∧ Z.Warmed39 U.vm ∧ U.heap = h0) (fun _ _ _ _ _ => True) (fun _ U o U' => ∃ v L, o = .returned v ∧ Q23 Z a0 xD mc h0 n0 v U'.heap L ∧ FrameEnd U o U' L 1 10) := by
  refine MetFree.of_bodySF (plainFor_of_name pn_3) hisR ?_
  intro p e s m args below meth c s₁ Bd hml0 hP hK
  obtain ⟨rfl, hZ, hh⟩ := hP
  have hx := Bd.exec
  have hby := Bd.bytes
  have hml : c.maxLocals = 4 := hml0
  have hown : s.vm.findClass "java/util/ArrayList" = some m.cls := findClass_of_methodNamed Bd.named
  have hnm := (name_of_methodNamed Bd.named Bd.method).1
  have hlk := BodyLoose.notSynchronized Bd
  have X0 : Stand p l e ({ frames := 1, cells := 1, slots := 10, locals := 16 } : Room) s m #[(.ref a0), (.int (1 : Int32))] below meth c s₁ [] 0 0 := Stand.of_body Bd
  have e0 : s₁.heap = h0 := by rw [← hh, Bd.state]; rfl
  have N0 := Fr.nil n0
  have hk0 : 0 ≤ 1 := Nat.zero_le _
  have hn0 : 0 ≤ 10 := Nat.zero_le _
  show OwnEnds p e below (OwnQ s (Q23 Z a0 xD mc h0 n0) 1 10) (s₁.setTop (entryFrame m #[(.ref a0), (.int (1 : Int32))] 4))
  refine .pre (fun t k => castTop (ef_23 m a0) k) ?_
  show OwnEnds p e below _ (s₁.setTop (mkF m 0 #[.val (.ref a0), .val (.int (1 : Int32)), .unset, .unset] []))
  refine .pre (fun _ kq => XS.aloadN X0.here hx rfl (hb hby d23_0) rfl rfl kq) ?_
  show OwnEnds p e below _ (s₁.setTop (mkF m 1 #[.val (.ref a0), .val (.int (1 : Int32)), .unset, .unset] [(.ref a0)]))
  obtain ⟨T1, X1, e1, st1⟩ := getF X0 hx hZ hown (host := "") (Or.inl (hw _ (List.mem_of_getElem? (i := 45) rfl))) Via.refl e0 Lx2 (g := (mkF m 1 #[.val (.ref a0), .val (.int (1 : Int32)), .unset, .unset] [(.ref a0)])) rfl rfl (hb hby d23_1)
  refine .pre (fun _ kq => st1 _ kq) ?_
  show OwnEnds p e below _ (T1.setTop (mkF m 4 #[.val (.ref a0), .val (.int (1 : Int32)), .unset, .unset] [(.ref xD)]))
  obtain ⟨cl2, Ar2, Ov2, qs2, qn2⟩ := id RDx
  refine .pre (fun _ kq => X1.arraylength hx (by rw [e1]; exact Ar2.1) (State.isArrayOf_alike hZ.alike Ar2.2.1) (g := (mkF m 4 #[.val (.ref a0), .val (.int (1 : Int32)), .unset, .unset] [(.ref xD)])) rfl rfl (hb hby d23_4) _ kq) ?_
  rw [len_of qs2 qn2]
  show OwnEnds p e below _ (T1.setTop (mkF m 5 #[.val (.ref a0), .val (.int (1 : Int32)), .unset, .unset] [(.int (0 : Int32))]))
  refine .pre (fun _ kq => XS.istoreN X1.here hx rfl (hb hby d23_5) rfl (l' := #[.val (.ref a0), .val (.int (1 : Int32)), .val (.int (0 : Int32)), .unset]) rfl kq) ?_
  show OwnEnds p e below _ (T1.setTop (mkF m 6 #[.val (.ref a0), .val (.int (1 : Int32)), .val (.int (0 : Int32)), .unset] []))
  refine .pre (fun _ kq => XS.iloadN X1.here hx rfl (hb hby d23_6) rfl kq) ?_
  show OwnEnds p e below _ (T1.setTop (mkF m 7 #[.val (.ref a0), .val (.int (1 : Int32)), .val (.int (0 : Int32)), .unset] [(.int (0 : Int32))]))
  have hc7 : ¬ ((0 : Int32) < (0 : Int32)) := by decide
  refine .pre (fun _ kq => XS.ifNo X1.here hx rfl (hb hby d23_7) rfl ((if0 _ _).trans (flt hc7).2.2.1) kq) ?_
  show OwnEnds p e below _ (T1.setTop (mkF m 10 #[.val (.ref a0), .val (.int (1 : Int32)), .val (.int (0 : Int32)), .unset] []))
  refine .pre (fun _ kq => XS.aloadN X1.here hx rfl (hb hby d23_10) rfl rfl kq) ?_
  show OwnEnds p e below _ (T1.setTop (mkF m 11 #[.val (.ref a0), .val (.int (1 : Int32)), .val (.int (0 : Int32)), .unset] [(.ref a0)]))
  obtain ⟨T3, X3, e3, st3⟩ := getF X1 hx hZ hown (host := "") (Or.inl (hw _ (List.mem_of_getElem? (i := 45) rfl))) Via.refl e1 Lx2 (g := (mkF m 11 #[.val (.ref a0), .val (.int (1 : Int32)), .val (.int (0 : Int32)), .unset] [(.ref a0)])) rfl rfl (hb hby d23_11)
  refine .pre (fun _ kq => st3 _ kq) ?_
  show OwnEnds p e below _ (T3.setTop (mkF m 14 #[.val (.ref a0), .val (.int (1 : Int32)), .val (.int (0 : Int32)), .unset] [(.ref xD)]))
  obtain ⟨T4, X4, e4, st4⟩ := getS2 X3 hx hZ hown (host := "") (Or.inl (hw _ (List.mem_of_getElem? (i := 44) rfl))) Via.refl e3 SD (g := (mkF m 14 #[.val (.ref a0), .val (.int (1 : Int32)), .val (.int (0 : Int32)), .unset] [(.ref xD)])) rfl (hb hby d23_14)
  refine .pre (fun _ kq => st4 _ kq) ?_
  show OwnEnds p e below _ (T4.setTop (mkF m 17 #[.val (.ref a0), .val (.int (1 : Int32)), .val (.int (0 : Int32)), .unset] [(.ref xD), (.ref xD)]))
  refine .pre (fun _ kq => Jvm.RoadKit.acmp (g := (mkF m 17 #[.val (.ref a0), .val (.int (1 : Int32)), .val (.int (0 : Int32)), .unset] [(.ref xD), (.ref xD)])) X4 hx rfl rfl rfl (pc0 := 17) (pc' := 45) (same := true) rfl (hb hby d23_17) rfl (decide_eq_true rfl) (by decide) (by decide) kq) ?_
  show OwnEnds p e below _ (T4.setTop (mkF m 45 #[.val (.ref a0), .val (.int (1 : Int32)), .val (.int (0 : Int32)), .unset] []))
  refine .pre (fun _ kq => XS.aloadN X4.here hx rfl (hb hby d23_45) rfl rfl kq) ?_
  show OwnEnds p e below _ (T4.setTop (mkF m 46 #[.val (.ref a0), .val (.int (1 : Int32)), .val (.int (0 : Int32)), .unset] [(.ref a0)]))
  refine .pre (fun _ kq => XS.bipush X4.here hx rfl (hb hby d23_46) kq) ?_
  show OwnEnds p e below _ (T4.setTop (mkF m 48 #[.val (.ref a0), .val (.int (1 : Int32)), .val (.int (0 : Int32)), .unset] [(.int (10 : Int32)), (.ref a0)]))
  refine .pre (fun _ kq => XS.iloadN X4.here hx rfl (hb hby d23_48) rfl kq) ?_
  show OwnEnds p e below _ (T4.setTop (mkF m 49 #[.val (.ref a0), .val (.int (1 : Int32)), .val (.int (0 : Int32)), .unset] [(.int (1 : Int32)), (.int (10 : Int32)), (.ref a0)]))
  obtain ⟨_, _, ⟨T5, L5, k5, n5⟩, -, X5, ⟨Lc5, hQ5, l5, y5, z5⟩, st5⟩ := Jvm.LawKit.callS X4 hx (y := (⟨"java/lang/Math", "max", "(II)I"⟩ : MethodName)) hown (mvT hZ (hw _ (List.mem_of_getElem? (i := 168) rfl))) (mvT hZ (hw _ (List.mem_of_getElem? (i := 10) rfl))) (mvT hZ (hw _ (List.mem_of_getElem? (i := 7) rfl))) (mvT hZ (hw _ (List.mem_of_getElem? (i := 11) rfl))) (by decide) (backOf (W := 1) (rm3 l Z aZ hw [] (10 : Int32) (1 : Int32) h0 n0 Z0) hZ (hw _ (List.mem_of_getElem? (i := 11) rfl)) (hw _ (List.mem_of_getElem? (i := 7) rfl)) (by decide) (by decide)) (g := (mkF m 49 #[.val (.ref a0), .val (.int (1 : Int32)), .val (.int (0 : Int32)), .unset] [(.int (1 : Int32)), (.int (10 : Int32)), (.ref a0)])) rfl (by rw [hml]; rfl) (argsL := [(.int (10 : Int32)), (.int (1 : Int32))]) (rest := [(.ref a0)]) (lenOf pd_8 rfl) rfl (by show 2 * 0 + _ ≤ _; exact Nat.le_of_eq rfl) (hb hby d23_49) (fun _ _ => ⟨rfl, e4, (by decide : 0 + 0 ≤ _), (by decide : 0 + 0 ≤ _)⟩)
  dsimp only [Pt.U, Pt.locs, Pt.cells, Pt.slots] at X5 l5 y5 z5 st5 hQ5
  try dsimp only [Nat.reduceAdd] at y5 z5
  subst y5 z5
  obtain ⟨rfl, N5q, e5⟩ := hQ5
  have N5 : Fr n0 L5 := by rw [l5]; exact Fr.app N0 N5q
  refine .pre (fun _ kq => st5 _ kq) ?_
  show OwnEnds p e below _ (T5.setTop (mkF m 52 #[.val (.ref a0), .val (.int (1 : Int32)), .val (.int (0 : Int32)), .unset] [(.int (10 : Int32)), (.ref a0)]))
  obtain ⟨T6, h6, kk6, X6, e6, E6, A6, O6, st6⟩ := newR X5 hx hZ hown (hw _ (List.mem_of_getElem? (i := 169) rfl)) (hw _ (List.mem_of_getElem? (i := 170) rfl)) e5 (g := (mkF m 52 #[.val (.ref a0), .val (.int (1 : Int32)), .val (.int (0 : Int32)), .unset] [(.int (10 : Int32)), (.ref a0)])) rfl (hb hby d23_52) rfl (by decide) (cap := 10) (by decide) (by decide) (by decide) (by decide)
  obtain ⟨b6, g6⟩ : ∃ z, z = h0.size := ⟨_, rfl⟩
  rw [← g6] at A6 st6
  have V_b6 : OwnR Z h6 b6 "java/lang/Object" (10 : Int32) := OwnR.new A6 O6 (by decide)
  have g_b6 : n0 ≤ b6 := Nat.le_trans Z0 (Nat.le_of_eq g6.symm)
  have sz_b6 : h0.size ≤ b6 := Nat.le_trans (Keep.refl h0 [a0]).1 (Nat.le_of_eq g6.symm)
  have Kp6 : Keep h0 h6 [a0] := (Keep.refl h0 [a0]).ext E6
  refine .pre (fun _ kq => st6 _ kq) ?_
  show OwnEnds p e below _ (T6.setTop (mkF m 55 #[.val (.ref a0), .val (.int (1 : Int32)), .val (.int (0 : Int32)), .unset] [(.ref b6), (.ref a0)]))
  refine .pre (fun _ kq => XS.dupX1 X6.here hx rfl (hb hby d23_55) rfl rfl rfl kq) ?_
  show OwnEnds p e below _ (T6.setTop (mkF m 56 #[.val (.ref a0), .val (.int (1 : Int32)), .val (.int (0 : Int32)), .unset] [(.ref b6), (.ref a0), (.ref b6)]))
  obtain ⟨T7, h7, X7, e7, W7, st7⟩ := putF X6 hx hZ hown (host := "") (Or.inl (hw _ (List.mem_of_getElem? (i := 45) rfl))) Via.refl e6 (Lx2.ext E6) (ELx.ext E6) (Or.inl (hw _ (List.mem_of_getElem? (i := 46) rfl))) (hw _ (List.mem_of_getElem? (i := 22) rfl)) (ty := (.array (.object "java/lang/Object"))) (by decide) rfl rfl (g := (mkF m 56 #[.val (.ref a0), .val (.int (1 : Int32)), .val (.int (0 : Int32)), .unset] [(.ref b6), (.ref a0), (.ref b6)])) rfl rfl (hb hby d23_56)
  have Fw7 := (Lx2.ext E6).same W7
  have N7 := Fr.snoc X7 N5 g_a0
  have Kp7 : Keep h0 h7 [a0] := Kp6.wr W7 (Or.inl (List.mem_of_getElem? (i := 0) rfl))
  refine .pre (fun _ kq => st7 _ kq) ?_
  show OwnEnds p e below _ (T7.setTop (mkF m 59 #[.val (.ref a0), .val (.int (1 : Int32)), .val (.int (0 : Int32)), .unset] [(.ref b6)]))
  exact own_endR X7 hx hlk Bd.returns rfl rfl (hb hby d23_59) (by decide) (by decide) ⟨_, rfl, N7, (by rw [e7]; exact Kp7), sz_b6, (by rw [e7]; exact ((ELx.ext E6).wr W7)), ⟨_, (by rw [e7]; exact ((Lx1.ext E6).other W7 (Or.inr (slot_ne (Or.inl (hw _ (List.mem_of_getElem? (i := 43) rfl))) (Or.inl (hw _ (List.mem_of_getElem? (i := 46) rfl))) (by decide) (t := .int) (t' := (.array (.object "java/lang/Object"))) (by decide) (by decide)))))⟩, (by rw [e7]; exact Fw7), (by rw [e7]; exact ((Lx3.ext E6).other W7 (Or.inr (slot_ne (Or.inl (hw _ (List.mem_of_getElem? (i := 137) rfl))) (Or.inl (hw _ (List.mem_of_getElem? (i := 46) rfl))) (by decide) (t := .int) (t' := (.array (.object "java/lang/Object"))) (by decide) (by decide))))), (by rw [e7]; exact (V_b6.other W7 (Ne.symm (Nat.ne_of_lt (Nat.lt_of_lt_of_le ELx.lt (Nat.le_of_eq g6.symm))))))⟩
theorem d22_0 : decode jdk_38_method_7_code 0 = .ok (.aload_n 0, 1) := by decide +kernel
theorem d22_1 : decode jdk_38_method_7_code 1 = .ok (.aload_n 0, 1) := by decide +kernel
theorem d22_2 : decode jdk_38_method_7_code 2 = .ok (.getfield 48, 3) := by decide +kernel
theorem d22_5 : decode jdk_38_method_7_code 5 = .ok (.iconst 1, 1) := by decide +kernel
theorem d22_6 : decode jdk_38_method_7_code 6 = .ok (.iadd, 1) := by decide +kernel
theorem d22_7 : decode jdk_38_method_7_code 7 = .ok (.invokevirtual 69, 3) := by decide +kernel
theorem d22_10 : decode jdk_38_method_7_code 10 = .ok (.areturn, 1) := by decide +kernel
theorem ef_22 (m : MethodId) (a0 : Addr) : entryFrame m #[(.ref a0)] 1 = mkF m 0 #[.val (.ref a0)] [] := by first | (simp [entryFrame, mkF, argsToLocals, Value.category]; done) | rfl
theorem pd_9 : parseMethodDescriptor "(I)[Ljava/lang/Object;" = some ⟨[.int], some (.array (.object "java/lang/Object"))⟩ := by decide +kernel
def Q22 (Z : State) (a0 : Addr) (xD : Addr) (mc : Int32) (h0 : Heap) (n0 : Nat) (v : Option Value) (h : Heap) (L : List Loc) : Prop := ∃ r : Addr, v = some (.ref r) ∧ Fr n0 L ∧ Keep h0 h [a0] ∧ h0.size ≤ r ∧ Exa Z h a0 "java/util/ArrayList" ∧ (∃ mc : Int32, Fld Z h a0 "java/util/AbstractList" "modCount" "I" (.int mc)) ∧ Fld Z h a0 "java/util/ArrayList" "elementData" "[Ljava/lang/Object;" (.ref r) ∧ Fld Z h a0 "java/util/ArrayList" "size" "I" (.int (0 : Int32)) ∧ OwnR Z h r "java/lang/Object" (10 : Int32)
set_option maxRecDepth 65536 in
set_option maxHeartbeats 40000000 in
theorem rm22 (l : Launch) (Z : State) (aZ : Array Value) (hw : ∀ d ∈ tables_1, d.before aZ Z = true) (ws : List Jvm.Cond) (a0 : Addr) (xD : Addr) (mc : Int32) (h0 : Heap) (n0 : Nat) (Z0 : n0 ≤ h0.size) (SD : Sta Z h0 "java/util/ArrayList" "DEFAULTCAPACITY_EMPTY_ELEMENTDATA" "[Ljava/lang/Object;" (.ref xD)) (ELx : Exa Z h0 a0 "java/util/ArrayList") (Lx1 : Fld Z h0 a0 "java/util/AbstractList" "modCount" "I" (.int mc)) (Lx2 : Fld Z h0 a0 "java/util/ArrayList" "elementData" "[Ljava/lang/Object;" (.ref xD)) (Lx3 : Fld Z h0 a0 "java/util/ArrayList" "size" "I" (.int (0 : Int32))) (RDx : OwnR Z h0 xD "java/lang/Object" (0 : Int32)) (x0 : a0 ≠ xD) (g_a0 : n0 ≤ a0) :
    MetFree l (⟨"java/util/ArrayList", "grow", "()[Ljava/lang/Object;"⟩ : MethodName) (head1 (Jvm.Cond.code (⟨"java/util/ArrayList", "grow", "()[Ljava/lang/Object;"⟩ : MethodName) jdk_38_method_7_code 1 (some (.array (.object "java/lang/Object"))) :: ws) ({ frames := 2, cells := 1, slots := 10, locals := 31 } : Room)) (fun a U => a = #[(.ref a0)] ∧ Z.Warmed39 U.vm ∧ U.heap = h0) (fun _ _ _ _ _ => True) (fun _ U o U' => ∃ v L, o = .returned v ∧ Q22 Z a0 xD mc h0 n0 v U'.heap L ∧ FrameEnd U o U' L 1 10) := by
  refine MetFree.of_bodySF (plainFor_of_name pn_3) hisR ?_
  intro p e s m args below meth c s₁ Bd hml0 hP hK
  obtain ⟨rfl, hZ, hh⟩ := hP
  have hx := Bd.exec
  have hby := Bd.bytes
  have hml : c.maxLocals = 1 := hml0
  have hown : s.vm.findClass "java/util/ArrayList" = some m.cls := findClass_of_methodNamed Bd.named
  have hnm := (name_of_methodNamed Bd.named Bd.method).1
  have hlk := BodyLoose.notSynchronized Bd
  have X0 : Stand p l e ({ frames := 2, cells := 1, slots := 10, locals := 31 } : Room) s m #[(.ref a0)] below meth c s₁ [] 0 0 := Stand.of_body Bd
  have e0 : s₁.heap = h0 := by rw [← hh, Bd.state]; rfl
  have N0 := Fr.nil n0
  have hk0 : 0 ≤ 1 := Nat.zero_le _
  have hn0 : 0 ≤ 10 := Nat.zero_le _
  show OwnEnds p e below (OwnQ s (Q22 Z a0 xD mc h0 n0) 1 10) (s₁.setTop (entryFrame m #[(.ref a0)] 1))
  refine .pre (fun t k => castTop (ef_22 m a0) k) ?_
  show OwnEnds p e below _ (s₁.setTop (mkF m 0 #[.val (.ref a0)] []))
  refine .pre (fun _ kq => XS.aloadN X0.here hx rfl (hb hby d22_0) rfl rfl kq) ?_
  show OwnEnds p e below _ (s₁.setTop (mkF m 1 #[.val (.ref a0)] [(.ref a0)]))
  refine .pre (fun _ kq => XS.aloadN X0.here hx rfl (hb hby d22_1) rfl rfl kq) ?_
  show OwnEnds p e below _ (s₁.setTop (mkF m 2 #[.val (.ref a0)] [(.ref a0), (.ref a0)]))
  obtain ⟨T1, X1, e1, st1⟩ := getF X0 hx hZ hown (host := "") (Or.inl (hw _ (List.mem_of_getElem? (i := 136) rfl))) Via.refl e0 Lx3 (g := (mkF m 2 #[.val (.ref a0)] [(.ref a0), (.ref a0)])) rfl rfl (hb hby d22_2)
  refine .pre (fun _ kq => st1 _ kq) ?_
  show OwnEnds p e below _ (T1.setTop (mkF m 5 #[.val (.ref a0)] [(.int (0 : Int32)), (.ref a0)]))
  refine .pre (fun _ kq => XS.iconst X1.here hx rfl (hb hby d22_5) kq) ?_
  show OwnEnds p e below _ (T1.setTop (mkF m 6 #[.val (.ref a0)] [(.int (1 : Int32)), (.int (0 : Int32)), (.ref a0)]))
  refine .pre (fun _ kq => XS.iadd X1.here hx rfl (hb hby d22_6) rfl kq) ?_
  show OwnEnds p e below _ (T1.setTop (mkF m 7 #[.val (.ref a0)] [(.int ((0 : Int32) + (1 : Int32))), (.ref a0)]))
  obtain ⟨cq2, q2, q2'⟩ := ELx.cell
  obtain ⟨_, _, ⟨T2, L2, k2, n2⟩, -, X2, ⟨Lc2, hQ2, l2, y2, z2⟩, st2⟩ := X1.privateBack hx (y := (⟨"java/util/ArrayList", "grow", "(I)[Ljava/lang/Object;"⟩ : MethodName)) hown (mvT hZ (hw _ (List.mem_of_getElem? (i := 163) rfl))) (mvT hZ (hw _ (List.mem_of_getElem? (i := 164) rfl))) (mvT hZ (hw _ (List.mem_of_getElem? (i := 166) rfl))) (Cond.privateMethod_at (mvP hZ (hw _ (List.mem_of_getElem? (i := 165) rfl)) (args := #[]))) (mvT hZ (hw _ (List.mem_of_getElem? (i := 167) rfl))) (by decide) (backOf (W := 0) (rm23 l Z aZ hw [] a0 xD mc h0 n0 Z0 SD ELx Lx1 Lx2 Lx3 RDx x0 g_a0) hZ (hw _ (List.mem_of_getElem? (i := 167) rfl)) (hw _ (List.mem_of_getElem? (i := 23) rfl)) (by decide) (by decide)) (g := (mkF m 7 #[.val (.ref a0)] [(.int ((0 : Int32) + (1 : Int32))), (.ref a0)])) rfl (by rw [hml]; rfl) (Steps.refl _) (a := a0) (by rw [e1]; exact q2) q2' (argsL := [(.int ((0 : Int32) + (1 : Int32)))]) (rest := []) (lenOf pd_9 rfl) rfl (by show 2 * 0 + _ ≤ _; exact Nat.le_of_eq rfl) (hb hby d22_7) (fun _ _ => ⟨rfl, e1, (by decide : 0 + 1 ≤ _), (by decide : 0 + 10 ≤ _)⟩)
  dsimp only [Pt.U, Pt.locs, Pt.cells, Pt.slots] at X2 l2 y2 z2 st2 hQ2
  try dsimp only [Nat.reduceAdd] at y2 z2
  subst y2 z2
  obtain ⟨r2, rfl, N2q, K2, szq2, Lq2_0, ⟨mcq2, Lq2_1⟩, Lq2_2, Lq2_3, Lq2_4⟩ := hQ2
  have N2 : Fr n0 L2 := by rw [l2]; exact Fr.app N0 N2q
  refine .pre (fun _ kq => st2.trans kq) ?_
  have g_r2 : n0 ≤ r2 := Nat.le_trans Z0 szq2
  have sz_r2 : h0.size ≤ r2 := Nat.le_trans (Keep.refl h0 [a0]).1 szq2
  have Kp2 : Keep h0 T2.heap [a0] := (Keep.refl h0 [a0]).trans K2 (allS (Or.inl (List.mem_of_getElem? (i := 0) rfl)) all0)
  show OwnEnds p e below _ (T2.setTop (mkF m 10 #[.val (.ref a0)] [(.ref r2)]))
  exact own_endR X2 hx hlk Bd.returns rfl rfl (hb hby d22_10) (by decide) (by decide) ⟨_, rfl, N2, Kp2, sz_r2, Lq2_0, ⟨_, Lq2_1⟩, Lq2_2, Lq2_3, Lq2_4⟩
theorem d21_0 : decode jdk_38_method_24_code 0 = .ok (.iload_n 3, 1) := by decide +kernel
theorem d21_1 : decode jdk_38_method_24_code 1 = .ok (.aload_n 2, 1) := by decide +kernel
theorem d21_2 : decode jdk_38_method_24_code 2 = .ok (.arraylength, 1) := by decide +kernel
theorem d21_3 : decode jdk_38_method_24_code 3 = .ok (.if_icmp .ne 8, 3) := by decide +kernel
theorem d21_6 : decode jdk_38_method_24_code 6 = .ok (.aload_n 0, 1) := by decide +kernel
theorem d21_7 : decode jdk_38_method_24_code 7 = .ok (.invokevirtual 129, 3) := by decide +kernel
theorem d21_10 : decode jdk_38_method_24_code 10 = .ok (.astore_n 2, 1) := by decide +kernel
theorem d21_11 : decode jdk_38_method_24_code 11 = .ok (.aload_n 2, 1) := by decide +kernel
theorem d21_12 : decode jdk_38_method_24_code 12 = .ok (.iload_n 3, 1) := by decide +kernel
theorem d21_13 : decode jdk_38_method_24_code 13 = .ok (.aload_n 1, 1) := by decide +kernel
theorem d21_14 : decode jdk_38_method_24_code 14 = .ok (.aastore, 1) := by decide +kernel
theorem d21_15 : decode jdk_38_method_24_code 15 = .ok (.aload_n 0, 1) := by decide +kernel
theorem d21_16 : decode jdk_38_method_24_code 16 = .ok (.iload_n 3, 1) := by decide +kernel
theorem d21_17 : decode jdk_38_method_24_code 17 = .ok (.iconst 1, 1) := by decide +kernel
theorem d21_18 : decode jdk_38_method_24_code 18 = .ok (.iadd, 1) := by decide +kernel
theorem d21_19 : decode jdk_38_method_24_code 19 = .ok (.putfield 48, 3) := by decide +kernel
theorem d21_22 : decode jdk_38_method_24_code 22 = .ok (.return_, 1) := by decide +kernel
theorem ef_21A (m : MethodId) (a0 : Addr) (a1 : Addr) (a2 : Addr) : entryFrame m #[(.ref a0), (.ref a1), (.ref a2), (.int (0 : Int32))] 4 = mkF m 0 #[.val (.ref a0), .val (.ref a1), .val (.ref a2), .val (.int (0 : Int32))] [] := by first | (simp [entryFrame, mkF, argsToLocals, Value.category]; done) | rfl
theorem pd_10 : parseMethodDescriptor "()[Ljava/lang/Object;" = some ⟨[], some (.array (.object "java/lang/Object"))⟩ := by decide +kernel
def Q21A (Z : State) (a0 : Addr) (a1 : Addr) (a2 : Addr) (mc : Int32) (h0 : Heap) (n0 : Nat) (v : Option Value) (h : Heap) (L : List Loc) : Prop := ∃ r : Addr, v = none ∧ Fr n0 L ∧ Keep h0 h [a0] ∧ h0.size ≤ r ∧ Exa Z h a0 "java/util/ArrayList" ∧ (∃ mc : Int32, Fld Z h a0 "java/util/AbstractList" "modCount" "I" (.int mc)) ∧ Fld Z h a0 "java/util/ArrayList" "elementData" "[Ljava/lang/Object;" (.ref r) ∧ Fld Z h a0 "java/util/ArrayList" "size" "I" (.int (1 : Int32)) ∧ OwnR Z h r "java/lang/Object" (10 : Int32)
set_option maxRecDepth 65536 in
set_option maxHeartbeats 40000000 in
theorem rm21A (l : Launch) (Z : State) (aZ : Array Value) (hw : ∀ d ∈ tables_1, d.before aZ Z = true) (ws : List Jvm.Cond) (a0 : Addr) (a1 : Addr) (a2 : Addr) (mc : Int32) (h0 : Heap) (n0 : Nat) (Z0 : n0 ≤ h0.size) (SD : Sta Z h0 "java/util/ArrayList" "DEFAULTCAPACITY_EMPTY_ELEMENTDATA" "[Ljava/lang/Object;" (.ref a2)) (ELx : Exa Z h0 a0 "java/util/ArrayList") (Lx1 : Fld Z h0 a0 "java/util/AbstractList" "modCount" "I" (.int mc)) (Lx2 : Fld Z h0 a0 "java/util/ArrayList" "elementData" "[Ljava/lang/Object;" (.ref a2)) (Lx3 : Fld Z h0 a0 "java/util/ArrayList" "size" "I" (.int (0 : Int32))) (RDx : OwnR Z h0 a2 "java/lang/Object" (0 : Int32)) (x0 : a0 ≠ a2) (g_a0 : n0 ≤ a0) (I1 : Ins Z h0 a1 "java/lang/Object" true) :
    MetFree l (⟨"java/util/ArrayList", "add", "(Ljava/lang/Object;[Ljava/lang/Object;I)V"⟩ : MethodName) (head1 (Jvm.Cond.code (⟨"java/util/ArrayList", "add", "(Ljava/lang/Object;[Ljava/lang/Object;I)V"⟩ : MethodName) jdk_38_method_24_code 4 none :: ws) ({ frames := 3, cells := 1, slots := 10, locals := 43 } : Room)) (fun a U => a = #[(.ref a0), (.ref a1), (.ref a2), (.int (0 : Int32))] ∧ Z.Warmed39 U.vm ∧ U.heap = h0) (fun _ _ _ _ _ => True) (fun _ U o U' => ∃ v L, o = .returned v ∧ Q21A Z a0 a1 a2 mc h0 n0 v U'.heap L ∧ FrameEnd U o U' L 1 10) := by
  refine MetFree.of_bodySF (plainFor_of_name pn_3) hisR ?_
  intro p e s m args below meth c s₁ Bd hml0 hP hK
  obtain ⟨rfl, hZ, hh⟩ := hP
  have hx := Bd.exec
  have hby := Bd.bytes
  have hml : c.maxLocals = 4 := hml0
  have hown : s.vm.findClass "java/util/ArrayList" = some m.cls := findClass_of_methodNamed Bd.named
  have hnm := (name_of_methodNamed Bd.named Bd.method).1
  have hlk := BodyLoose.notSynchronized Bd
  have X0 : Stand p l e ({ frames := 3, cells := 1, slots := 10, locals := 43 } : Room) s m #[(.ref a0), (.ref a1), (.ref a2), (.int (0 : Int32))] below meth c s₁ [] 0 0 := Stand.of_body Bd
  have e0 : s₁.heap = h0 := by rw [← hh, Bd.state]; rfl
  have N0 := Fr.nil n0
  have hk0 : 0 ≤ 1 := Nat.zero_le _
  have hn0 : 0 ≤ 10 := Nat.zero_le _
  show OwnEnds p e below (OwnQ s (Q21A Z a0 a1 a2 mc h0 n0) 1 10) (s₁.setTop (entryFrame m #[(.ref a0), (.ref a1), (.ref a2), (.int (0 : Int32))] 4))
  refine .pre (fun t k => castTop (ef_21A m a0 a1 a2) k) ?_
  show OwnEnds p e below _ (s₁.setTop (mkF m 0 #[.val (.ref a0), .val (.ref a1), .val (.ref a2), .val (.int (0 : Int32))] []))
  refine .pre (fun _ kq => XS.iloadN X0.here hx rfl (hb hby d21_0) rfl kq) ?_
  show OwnEnds p e below _ (s₁.setTop (mkF m 1 #[.val (.ref a0), .val (.ref a1), .val (.ref a2), .val (.int (0 : Int32))] [(.int (0 : Int32))]))
  refine .pre (fun _ kq => XS.aloadN X0.here hx rfl (hb hby d21_1) rfl rfl kq) ?_
  show OwnEnds p e below _ (s₁.setTop (mkF m 2 #[.val (.ref a0), .val (.ref a1), .val (.ref a2), .val (.int (0 : Int32))] [(.ref a2), (.int (0 : Int32))]))
  obtain ⟨cl1, Ar1, Ov1, qs1, qn1⟩ := id RDx
  refine .pre (fun _ kq => X0.arraylength hx (by rw [e0]; exact Ar1.1) (State.isArrayOf_alike hZ.alike Ar1.2.1) (g := (mkF m 2 #[.val (.ref a0), .val (.ref a1), .val (.ref a2), .val (.int (0 : Int32))] [(.ref a2), (.int (0 : Int32))])) rfl rfl (hb hby d21_2) _ kq) ?_
  rw [len_of qs1 qn1]
  show OwnEnds p e below _ (s₁.setTop (mkF m 3 #[.val (.ref a0), .val (.ref a1), .val (.ref a2), .val (.int (0 : Int32))] [(.int (0 : Int32)), (.int (0 : Int32))]))
  have hc3 : ((0 : Int32) = (0 : Int32)) := by decide
  refine .pre (fun _ kq => XS.icmpNo X0.here hx rfl (hb hby d21_3) rfl (teq hc3).2 kq) ?_
  show OwnEnds p e below _ (s₁.setTop (mkF m 6 #[.val (.ref a0), .val (.ref a1), .val (.ref a2), .val (.int (0 : Int32))] []))
  refine .pre (fun _ kq => XS.aloadN X0.here hx rfl (hb hby d21_6) rfl rfl kq) ?_
  show OwnEnds p e below _ (s₁.setTop (mkF m 7 #[.val (.ref a0), .val (.ref a1), .val (.ref a2), .val (.int (0 : Int32))] [(.ref a0)]))
  obtain ⟨cq2, q2, q2'⟩ := ELx.cell
  obtain ⟨_, _, ⟨T2, L2, k2, n2⟩, -, X2, ⟨Lc2, hQ2, l2, y2, z2⟩, st2⟩ := X0.privateBack hx (y := (⟨"java/util/ArrayList", "grow", "()[Ljava/lang/Object;"⟩ : MethodName)) hown (mvT hZ (hw _ (List.mem_of_getElem? (i := 158) rfl))) (mvT hZ (hw _ (List.mem_of_getElem? (i := 159) rfl))) (mvT hZ (hw _ (List.mem_of_getElem? (i := 161) rfl))) (Cond.privateMethod_at (mvP hZ (hw _ (List.mem_of_getElem? (i := 160) rfl)) (args := #[]))) (mvT hZ (hw _ (List.mem_of_getElem? (i := 162) rfl))) (by decide) (backOf (W := 0) (rm22 l Z aZ hw [] a0 a2 mc h0 n0 Z0 SD ELx Lx1 Lx2 Lx3 RDx x0 g_a0) hZ (hw _ (List.mem_of_getElem? (i := 162) rfl)) (hw _ (List.mem_of_getElem? (i := 23) rfl)) (by decide) (by decide)) (g := (mkF m 7 #[.val (.ref a0), .val (.ref a1), .val (.ref a2), .val (.int (0 : Int32))] [(.ref a0)])) rfl (by rw [hml]; rfl) (Steps.refl _) (a := a0) (by rw [e0]; exact q2) q2' (argsL := []) (rest := []) (lenOf pd_10 rfl) rfl (by show 2 * 0 + _ ≤ _; exact Nat.le_of_eq rfl) (hb hby d21_7) (fun _ _ => ⟨rfl, e0, (by decide : 0 + 1 ≤ _), (by decide : 0 + 10 ≤ _)⟩)
  dsimp only [Pt.U, Pt.locs, Pt.cells, Pt.slots] at X2 l2 y2 z2 st2 hQ2
  try dsimp only [Nat.reduceAdd] at y2 z2
  subst y2 z2
  obtain ⟨r2, rfl, N2q, K2, szq2, Lq2_0, ⟨mcq2, Lq2_1⟩, Lq2_2, Lq2_3, Lq2_4⟩ := hQ2
  have N2 : Fr n0 L2 := by rw [l2]; exact Fr.app N0 N2q
  refine .pre (fun _ kq => st2.trans kq) ?_
  have g_r2 : n0 ≤ r2 := Nat.le_trans Z0 szq2
  have sz_r2 : h0.size ≤ r2 := Nat.le_trans (Keep.refl h0 [a0]).1 szq2
  have Kp2 : Keep h0 T2.heap [a0] := (Keep.refl h0 [a0]).trans K2 (allS (Or.inl (List.mem_of_getElem? (i := 0) rfl)) all0)
  show OwnEnds p e below _ (T2.setTop (mkF m 10 #[.val (.ref a0), .val (.ref a1), .val (.ref a2), .val (.int (0 : Int32))] [(.ref r2)]))
  refine .pre (fun _ kq => XS.astoreN X2.here hx rfl (hb hby d21_10) rfl rfl (l' := #[.val (.ref a0), .val (.ref a1), .val (.ref r2), .val (.int (0 : Int32))]) rfl kq) ?_
  show OwnEnds p e below _ (T2.setTop (mkF m 11 #[.val (.ref a0), .val (.ref a1), .val (.ref r2), .val (.int (0 : Int32))] []))
  refine .pre (fun _ kq => XS.aloadN X2.here hx rfl (hb hby d21_11) rfl rfl kq) ?_
  show OwnEnds p e below _ (T2.setTop (mkF m 12 #[.val (.ref a0), .val (.ref a1), .val (.ref r2), .val (.int (0 : Int32))] [(.ref r2)]))
  refine .pre (fun _ kq => XS.iloadN X2.here hx rfl (hb hby d21_12) rfl kq) ?_
  show OwnEnds p e below _ (T2.setTop (mkF m 13 #[.val (.ref a0), .val (.ref a1), .val (.ref r2), .val (.int (0 : Int32))] [(.int (0 : Int32)), (.ref r2)]))
  refine .pre (fun _ kq => XS.aloadN X2.here hx rfl (hb hby d21_13) rfl rfl kq) ?_
  show OwnEnds p e below _ (T2.setTop (mkF m 14 #[.val (.ref a0), .val (.ref a1), .val (.ref r2), .val (.int (0 : Int32))] [(.ref a1), (.int (0 : Int32)), (.ref r2)]))
  obtain ⟨cl3, Ar3, Ov3, qs3, qn3⟩ := id Lq2_4
  obtain ⟨T3, h3, X3, e3, W3, st3⟩ := stR X2 hx hZ rfl Ar3 (j := (0 : Int32)) (v := (.ref a1)) (inb_of qs3 ⟨by decide, by decide⟩) rfl (Sto.of Ar3 Ov3 (own_insK K2 I1)) (g := (mkF m 14 #[.val (.ref a0), .val (.ref a1), .val (.ref r2), .val (.int (0 : Int32))] [(.ref a1), (.int (0 : Int32)), (.ref r2)])) rfl rfl (hb hby d21_14)
  have V3 := OwnR.set Lq2_4 W3
  have N3 := Fr.snoc X3 N2 g_r2
  have Kp3 : Keep h0 h3 [a0] := Kp2.wr W3 (Or.inr sz_r2)
  refine .pre (fun _ kq => st3 _ kq) ?_
  show OwnEnds p e below _ (T3.setTop (mkF m 15 #[.val (.ref a0), .val (.ref a1), .val (.ref r2), .val (.int (0 : Int32))] []))
  refine .pre (fun _ kq => XS.aloadN X3.here hx rfl (hb hby d21_15) rfl rfl kq) ?_
  show OwnEnds p e below _ (T3.setTop (mkF m 16 #[.val (.ref a0), .val (.ref a1), .val (.ref r2), .val (.int (0 : Int32))] [(.ref a0)]))
  refine .pre (fun _ kq => XS.iloadN X3.here hx rfl (hb hby d21_16) rfl kq) ?_
  show OwnEnds p e below _ (T3.setTop (mkF m 17 #[.val (.ref a0), .val (.ref a1), .val (.ref r2), .val (.int (0 : Int32))] [(.int (0 : Int32)), (.ref a0)]))
  refine .pre (fun _ kq => XS.iconst X3.here hx rfl (hb hby d21_17) kq) ?_
  show OwnEnds p e below _ (T3.setTop (mkF m 18 #[.val (.ref a0), .val (.ref a1), .val (.ref r2), .val (.int (0 : Int32))] [(.int (1 : Int32)), (.int (0 : Int32)), (.ref a0)]))
  refine .pre (fun _ kq => XS.iadd X3.here hx rfl (hb hby d21_18) rfl kq) ?_
  show OwnEnds p e below _ (T3.setTop (mkF m 19 #[.val (.ref a0), .val (.ref a1), .val (.ref r2), .val (.int (0 : Int32))] [(.int ((0 : Int32) + (1 : Int32))), (.ref a0)]))
  obtain ⟨T4, h4, X4, e4, W4, st4⟩ := putF X3 hx hZ hown (host := "") (Or.inl (hw _ (List.mem_of_getElem? (i := 136) rfl))) Via.refl e3 (Lq2_3.other W3 (Or.inl (Nat.ne_of_lt (Nat.lt_of_lt_of_le ELx.lt szq2)))) (Lq2_0.wr W3) (Or.inl (hw _ (List.mem_of_getElem? (i := 137) rfl))) (hw _ (List.mem_of_getElem? (i := 22) rfl)) (ty := .int) (by decide) rfl rfl (g := (mkF m 19 #[.val (.ref a0), .val (.ref a1), .val (.ref r2), .val (.int (0 : Int32))] [(.int ((0 : Int32) + (1 : Int32))), (.ref a0)])) rfl rfl (hb hby d21_19)
  have Fw4 := (Lq2_3.other W3 (Or.inl (Nat.ne_of_lt (Nat.lt_of_lt_of_le ELx.lt szq2)))).same W4
  have N4 := Fr.snoc X4 N3 g_a0
  have Kp4 : Keep h0 h4 [a0] := Kp3.wr W4 (Or.inl (List.mem_of_getElem? (i := 0) rfl))
  refine .pre (fun _ kq => st4 _ kq) ?_
  show OwnEnds p e below _ (T4.setTop (mkF m 22 #[.val (.ref a0), .val (.ref a1), .val (.ref r2), .val (.int (0 : Int32))] []))
  exact own_endV X4 hx hlk Bd.returns (hb hby d21_22) (by decide) (by decide) ⟨_, rfl, N4, (by rw [e4]; exact Kp4), sz_r2, (by rw [e4]; exact ((Lq2_0.wr W3).wr W4)), ⟨_, (by rw [e4]; exact ((Lq2_1.other W3 (Or.inl (Nat.ne_of_lt (Nat.lt_of_lt_of_le ELx.lt szq2)))).other W4 (Or.inr (slot_ne (Or.inl (hw _ (List.mem_of_getElem? (i := 43) rfl))) (Or.inl (hw _ (List.mem_of_getElem? (i := 137) rfl))) (by decide) (t := .int) (t' := .int) (by decide) (by decide)))))⟩, (by rw [e4]; exact ((Lq2_2.other W3 (Or.inl (Nat.ne_of_lt (Nat.lt_of_lt_of_le ELx.lt szq2)))).other W4 (Or.inr (slot_ne (Or.inl (hw _ (List.mem_of_getElem? (i := 46) rfl))) (Or.inl (hw _ (List.mem_of_getElem? (i := 137) rfl))) (by decide) (t := (.array (.object "java/lang/Object"))) (t' := .int) (by decide) (by decide))))), (by rw [e4]; exact Fw4), (by rw [e4]; exact (V3.other W4 (Ne.symm (Nat.ne_of_lt (Nat.lt_of_lt_of_le ELx.lt szq2)))))⟩
theorem d20_0 : decode jdk_38_method_25_code 0 = .ok (.aload_n 0, 1) := by decide +kernel
theorem d20_1 : decode jdk_38_method_25_code 1 = .ok (.dup, 1) := by decide +kernel
theorem d20_2 : decode jdk_38_method_25_code 2 = .ok (.getfield 63, 3) := by decide +kernel
theorem d20_5 : decode jdk_38_method_25_code 5 = .ok (.iconst 1, 1) := by decide +kernel
theorem d20_6 : decode jdk_38_method_25_code 6 = .ok (.iadd, 1) := by decide +kernel
theorem d20_7 : decode jdk_38_method_25_code 7 = .ok (.putfield 63, 3) := by decide +kernel
theorem d20_10 : decode jdk_38_method_25_code 10 = .ok (.aload_n 0, 1) := by decide +kernel
theorem d20_11 : decode jdk_38_method_25_code 11 = .ok (.aload_n 1, 1) := by decide +kernel
theorem d20_12 : decode jdk_38_method_25_code 12 = .ok (.aload_n 0, 1) := by decide +kernel
theorem d20_13 : decode jdk_38_method_25_code 13 = .ok (.getfield 9, 3) := by decide +kernel
theorem d20_16 : decode jdk_38_method_25_code 16 = .ok (.aload_n 0, 1) := by decide +kernel
theorem d20_17 : decode jdk_38_method_25_code 17 = .ok (.getfield 48, 3) := by decide +kernel
theorem d20_20 : decode jdk_38_method_25_code 20 = .ok (.invokevirtual 131, 3) := by decide +kernel
theorem d20_23 : decode jdk_38_method_25_code 23 = .ok (.iconst 1, 1) := by decide +kernel
theorem d20_24 : decode jdk_38_method_25_code 24 = .ok (.ireturn, 1) := by decide +kernel
theorem ef_20A (m : MethodId) (a0 : Addr) (a1 : Addr) : entryFrame m #[(.ref a0), (.ref a1)] 2 = mkF m 0 #[.val (.ref a0), .val (.ref a1)] [] := by first | (simp [entryFrame, mkF, argsToLocals, Value.category]; done) | rfl
theorem pd_11 : parseMethodDescriptor "(Ljava/lang/Object;[Ljava/lang/Object;I)V" = some ⟨[(.object "java/lang/Object"), (.array (.object "java/lang/Object")), .int], none⟩ := by decide +kernel
def Q20A (Z : State) (a0 : Addr) (a1 : Addr) (xD : Addr) (mc : Int32) (h0 : Heap) (n0 : Nat) (v : Option Value) (h : Heap) (L : List Loc) : Prop := ∃ r : Addr, v = some (.int 1) ∧ Fr n0 L ∧ Keep h0 h [a0] ∧ h0.size ≤ r ∧ Exa Z h a0 "java/util/ArrayList" ∧ (∃ mc : Int32, Fld Z h a0 "java/util/AbstractList" "modCount" "I" (.int mc)) ∧ Fld Z h a0 "java/util/ArrayList" "elementData" "[Ljava/lang/Object;" (.ref r) ∧ Fld Z h a0 "java/util/ArrayList" "size" "I" (.int (1 : Int32)) ∧ OwnR Z h r "java/lang/Object" (10 : Int32)
set_option maxRecDepth 65536 in
set_option maxHeartbeats 40000000 in
theorem rm20A (l : Launch) (Z : State) (aZ : Array Value) (hw : ∀ d ∈ tables_1, d.before aZ Z = true) (ws : List Jvm.Cond) (a0 : Addr) (a1 : Addr) (xD : Addr) (mc : Int32) (h0 : Heap) (n0 : Nat) (Z0 : n0 ≤ h0.size) (SD : Sta Z h0 "java/util/ArrayList" "DEFAULTCAPACITY_EMPTY_ELEMENTDATA" "[Ljava/lang/Object;" (.ref xD)) (ELx : Exa Z h0 a0 "java/util/ArrayList") (Lx1 : Fld Z h0 a0 "java/util/AbstractList" "modCount" "I" (.int mc)) (Lx2 : Fld Z h0 a0 "java/util/ArrayList" "elementData" "[Ljava/lang/Object;" (.ref xD)) (Lx3 : Fld Z h0 a0 "java/util/ArrayList" "size" "I" (.int (0 : Int32))) (RDx : OwnR Z h0 xD "java/lang/Object" (0 : Int32)) (x0 : a0 ≠ xD) (g_a0 : n0 ≤ a0) (I1 : Ins Z h0 a1 "java/lang/Object" true) :
    MetFree l (⟨"java/util/ArrayList", "add", "(Ljava/lang/Object;)Z"⟩ : MethodName) (head1 (Jvm.Cond.code (⟨"java/util/ArrayList", "add", "(Ljava/lang/Object;)Z"⟩ : MethodName) jdk_38_method_25_code 2 (some .boolean) :: ws) ({ frames := 4, cells := 1, slots := 10, locals := 58 } : Room)) (fun a U => a = #[(.ref a0), (.ref a1)] ∧ Z.Warmed39 U.vm ∧ U.heap = h0) (fun _ _ _ _ _ => True) (fun _ U o U' => ∃ v L, o = .returned v ∧ Q20A Z a0 a1 xD mc h0 n0 v U'.heap L ∧ FrameEnd U o U' L 1 10) := by
  refine MetFree.of_bodySF (plainFor_of_name pn_3) hisR ?_
  intro p e s m args below meth c s₁ Bd hml0 hP hK
  obtain ⟨rfl, hZ, hh⟩ := hP
  have hx := Bd.exec
  have hby := Bd.bytes
  have hml : c.maxLocals = 2 := hml0
  have hown : s.vm.findClass "java/util/ArrayList" = some m.cls := findClass_of_methodNamed Bd.named
  have hnm := (name_of_methodNamed Bd.named Bd.method).1
  have hlk := BodyLoose.notSynchronized Bd
  have X0 : Stand p l e ({ frames := 4, cells := 1, slots := 10, locals := 58 } : Room) s m #[(.ref a0), (.ref a1)] below meth c s₁ [] 0 0 := Stand.of_body Bd
  have e0 : s₁.heap = h0 := by rw [← hh, Bd.state]; rfl
  have N0 := Fr.nil n0
  have hk0 : 0 ≤ 1 := Nat.zero_le _
  have hn0 : 0 ≤ 10 := Nat.zero_le _
  show OwnEnds p e below (OwnQ s (Q20A Z a0 a1 xD mc h0 n0) 1 10) (s₁.setTop (entryFrame m #[(.ref a0), (.ref a1)] 2))
  refine .pre (fun t k => castTop (ef_20A m a0 a1) k) ?_
  show OwnEnds p e below _ (s₁.setTop (mkF m 0 #[.val (.ref a0), .val (.ref a1)] []))
  refine .pre (fun _ kq => XS.aloadN X0.here hx rfl (hb hby d20_0) rfl rfl kq) ?_
  show OwnEnds p e below _ (s₁.setTop (mkF m 1 #[.val (.ref a0), .val (.ref a1)] [(.ref a0)]))
  refine .pre (fun _ kq => XS.dup X0.here hx rfl (hb hby d20_1) rfl rfl kq) ?_
  show OwnEnds p e below _ (s₁.setTop (mkF m 2 #[.val (.ref a0), .val (.ref a1)] [(.ref a0), (.ref a0)]))
  obtain ⟨T1, X1, e1, st1⟩ := getF X0 hx hZ hown (host := "") (Or.inl (hw _ (List.mem_of_getElem? (i := 151) rfl))) (Via.of (hw _ (List.mem_of_getElem? (i := 152) rfl))) e0 Lx1 (g := (mkF m 2 #[.val (.ref a0), .val (.ref a1)] [(.ref a0), (.ref a0)])) rfl rfl (hb hby d20_2)
  refine .pre (fun _ kq => st1 _ kq) ?_
  show OwnEnds p e below _ (T1.setTop (mkF m 5 #[.val (.ref a0), .val (.ref a1)] [(.int mc), (.ref a0)]))
  refine .pre (fun _ kq => XS.iconst X1.here hx rfl (hb hby d20_5) kq) ?_
  show OwnEnds p e below _ (T1.setTop (mkF m 6 #[.val (.ref a0), .val (.ref a1)] [(.int (1 : Int32)), (.int mc), (.ref a0)]))
  refine .pre (fun _ kq => XS.iadd X1.here hx rfl (hb hby d20_6) rfl kq) ?_
  show OwnEnds p e below _ (T1.setTop (mkF m 7 #[.val (.ref a0), .val (.ref a1)] [(.int (mc + (1 : Int32))), (.ref a0)]))
  obtain ⟨T2, h2, X2, e2, W2, st2⟩ := putF X1 hx hZ hown (host := "") (Or.inl (hw _ (List.mem_of_getElem? (i := 151) rfl))) (Via.of (hw _ (List.mem_of_getElem? (i := 152) rfl))) e1 Lx1 ELx (Or.inl (hw _ (List.mem_of_getElem? (i := 43) rfl))) (hw _ (List.mem_of_getElem? (i := 22) rfl)) (ty := .int) (by decide) rfl rfl (g := (mkF m 7 #[.val (.ref a0), .val (.ref a1)] [(.int (mc + (1 : Int32))), (.ref a0)])) rfl rfl (hb hby d20_7)
  have Fw2 := Lx1.same W2
  have N2 := Fr.snoc X2 N0 g_a0
  have Kp2 : Keep h0 h2 [a0] := (Keep.refl h0 [a0]).wr W2 (Or.inl (List.mem_of_getElem? (i := 0) rfl))
  refine .pre (fun _ kq => st2 _ kq) ?_
  show OwnEnds p e below _ (T2.setTop (mkF m 10 #[.val (.ref a0), .val (.ref a1)] []))
  refine .pre (fun _ kq => XS.aloadN X2.here hx rfl (hb hby d20_10) rfl rfl kq) ?_
  show OwnEnds p e below _ (T2.setTop (mkF m 11 #[.val (.ref a0), .val (.ref a1)] [(.ref a0)]))
  refine .pre (fun _ kq => XS.aloadN X2.here hx rfl (hb hby d20_11) rfl rfl kq) ?_
  show OwnEnds p e below _ (T2.setTop (mkF m 12 #[.val (.ref a0), .val (.ref a1)] [(.ref a1), (.ref a0)]))
  refine .pre (fun _ kq => XS.aloadN X2.here hx rfl (hb hby d20_12) rfl rfl kq) ?_
  show OwnEnds p e below _ (T2.setTop (mkF m 13 #[.val (.ref a0), .val (.ref a1)] [(.ref a0), (.ref a1), (.ref a0)]))
  obtain ⟨T3, X3, e3, st3⟩ := getF X2 hx hZ hown (host := "") (Or.inl (hw _ (List.mem_of_getElem? (i := 45) rfl))) Via.refl e2 (Lx2.other W2 (Or.inr (slot_ne (Or.inl (hw _ (List.mem_of_getElem? (i := 46) rfl))) (Or.inl (hw _ (List.mem_of_getElem? (i := 43) rfl))) (by decide) (t := (.array (.object "java/lang/Object"))) (t' := .int) (by decide) (by decide)))) (g := (mkF m 13 #[.val (.ref a0), .val (.ref a1)] [(.ref a0), (.ref a1), (.ref a0)])) rfl rfl (hb hby d20_13)
  refine .pre (fun _ kq => st3 _ kq) ?_
  show OwnEnds p e below _ (T3.setTop (mkF m 16 #[.val (.ref a0), .val (.ref a1)] [(.ref xD), (.ref a1), (.ref a0)]))
  refine .pre (fun _ kq => XS.aloadN X3.here hx rfl (hb hby d20_16) rfl rfl kq) ?_
  show OwnEnds p e below _ (T3.setTop (mkF m 17 #[.val (.ref a0), .val (.ref a1)] [(.ref a0), (.ref xD), (.ref a1), (.ref a0)]))
  obtain ⟨T4, X4, e4, st4⟩ := getF X3 hx hZ hown (host := "") (Or.inl (hw _ (List.mem_of_getElem? (i := 136) rfl))) Via.refl e3 (Lx3.other W2 (Or.inr (slot_ne (Or.inl (hw _ (List.mem_of_getElem? (i := 137) rfl))) (Or.inl (hw _ (List.mem_of_getElem? (i := 43) rfl))) (by decide) (t := .int) (t' := .int) (by decide) (by decide)))) (g := (mkF m 17 #[.val (.ref a0), .val (.ref a1)] [(.ref a0), (.ref xD), (.ref a1), (.ref a0)])) rfl rfl (hb hby d20_17)
  refine .pre (fun _ kq => st4 _ kq) ?_
  show OwnEnds p e below _ (T4.setTop (mkF m 20 #[.val (.ref a0), .val (.ref a1)] [(.int (0 : Int32)), (.ref xD), (.ref a1), (.ref a0)]))
  obtain ⟨cq5, q5, q5'⟩ := (ELx.wr W2).cell
  obtain ⟨_, _, ⟨T5, L5, k5, n5⟩, -, X5, ⟨Lc5, hQ5, l5, y5, z5⟩, st5⟩ := X4.privateBack hx (y := (⟨"java/util/ArrayList", "add", "(Ljava/lang/Object;[Ljava/lang/Object;I)V"⟩ : MethodName)) hown (mvT hZ (hw _ (List.mem_of_getElem? (i := 153) rfl))) (mvT hZ (hw _ (List.mem_of_getElem? (i := 154) rfl))) (mvT hZ (hw _ (List.mem_of_getElem? (i := 156) rfl))) (Cond.privateMethod_at (mvP hZ (hw _ (List.mem_of_getElem? (i := 155) rfl)) (args := #[]))) (mvT hZ (hw _ (List.mem_of_getElem? (i := 157) rfl))) (by decide) (backOf (W := 0) (rm21A l Z aZ hw [] a0 a1 xD (mc + (1 : Int32)) h2 n0 (Nat.le_trans Z0 (Keep.of_wr W2).1) (Sta.wr W2 SD) (ELx.wr W2) Fw2 (Lx2.other W2 (Or.inr (slot_ne (Or.inl (hw _ (List.mem_of_getElem? (i := 46) rfl))) (Or.inl (hw _ (List.mem_of_getElem? (i := 43) rfl))) (by decide) (t := (.array (.object "java/lang/Object"))) (t' := .int) (by decide) (by decide)))) (Lx3.other W2 (Or.inr (slot_ne (Or.inl (hw _ (List.mem_of_getElem? (i := 137) rfl))) (Or.inl (hw _ (List.mem_of_getElem? (i := 43) rfl))) (by decide) (t := .int) (t' := .int) (by decide) (by decide)))) (RDx.other W2 (Ne.symm x0)) x0 g_a0 (Ins.wr W2 I1)) hZ (hw _ (List.mem_of_getElem? (i := 157) rfl)) (hw _ (List.mem_of_getElem? (i := 23) rfl)) (by decide) (by decide)) (g := (mkF m 20 #[.val (.ref a0), .val (.ref a1)] [(.int (0 : Int32)), (.ref xD), (.ref a1), (.ref a0)])) rfl (by rw [hml]; rfl) (Steps.refl _) (a := a0) (by rw [e4]; exact q5) q5' (argsL := [(.ref a1), (.ref xD), (.int (0 : Int32))]) (rest := []) (lenOf pd_11 rfl) rfl (by show 2 * 0 + _ ≤ _; exact Nat.le_of_eq rfl) (hb hby d20_20) (fun _ _ => ⟨rfl, e4, (by decide : 0 + 1 ≤ _), (by decide : 0 + 10 ≤ _)⟩)
  dsimp only [Pt.U, Pt.locs, Pt.cells, Pt.slots] at X5 l5 y5 z5 st5 hQ5
  try dsimp only [Nat.reduceAdd] at y5 z5
  subst y5 z5
  obtain ⟨r5, rfl, N5q, K5, szq5, Lq5_0, ⟨mcq5, Lq5_1⟩, Lq5_2, Lq5_3, Lq5_4⟩ := hQ5
  have N5 : Fr n0 L5 := by rw [l5]; exact Fr.app N2 N5q
  refine .pre (fun _ kq => st5.trans kq) ?_
  have g_r5 : n0 ≤ r5 := Nat.le_trans (Nat.le_trans Z0 (Keep.of_wr W2).1) szq5
  have sz_r5 : h0.size ≤ r5 := Nat.le_trans Kp2.1 szq5
  have Kp5 : Keep h0 T5.heap [a0] := Kp2.trans K5 (allS (Or.inl (List.mem_of_getElem? (i := 0) rfl)) all0)
  show OwnEnds p e below _ (T5.setTop (mkF m 23 #[.val (.ref a0), .val (.ref a1)] []))
  refine .pre (fun _ kq => XS.iconst X5.here hx rfl (hb hby d20_23) kq) ?_
  show OwnEnds p e below _ (T5.setTop (mkF m 24 #[.val (.ref a0), .val (.ref a1)] [(.int (1 : Int32))]))
  exact own_endN X5 hx hlk (t := .boolean) Bd.returns (by simp) (hb hby d20_24) rfl (by decide) (by decide) ⟨_, rfl, N5, Kp5, sz_r5, Lq5_0, ⟨_, Lq5_1⟩, Lq5_2, Lq5_3, Lq5_4⟩
theorem own_b10 {k : Int32} (h : 0 ≤ k.toInt ∧ k.toInt < 10) : (¬ (k < 0) ∧ k < (10 : Int32)) ∧ ¬ (k = (10 : Int32)) := by
  have z : (0 : Int32).toInt = 0 := rfl
  have t : (10 : Int32).toInt = 10 := rfl
  rw [Int32.lt_iff_toInt_lt, Int32.lt_iff_toInt_lt, ← Int32.toInt_inj, z, t]
  omega
theorem ef_21B (m : MethodId) (a0 : Addr) (a1 : Addr) (a2 : Addr) (p3 : Int32) : entryFrame m #[(.ref a0), (.ref a1), (.ref a2), (.int p3)] 4 = mkF m 0 #[.val (.ref a0), .val (.ref a1), .val (.ref a2), .val (.int p3)] [] := by first | (simp [entryFrame, mkF, argsToLocals, Value.category]; done) | rfl
def Q21B (Z : State) (a0 : Addr) (a1 : Addr) (a2 : Addr) (p3 : Int32) (mc : Int32) (h0 : Heap) (n0 : Nat) (v : Option Value) (h : Heap) (L : List Loc) : Prop := v = none ∧ Fr n0 L ∧ Keep h0 h [a0, a2] ∧ Exa Z h a0 "java/util/ArrayList" ∧ (∃ mc : Int32, Fld Z h a0 "java/util/AbstractList" "modCount" "I" (.int mc)) ∧ Fld Z h a0 "java/util/ArrayList" "elementData" "[Ljava/lang/Object;" (.ref a2) ∧ Fld Z h a0 "java/util/ArrayList" "size" "I" (.int (p3 + 1)) ∧ OwnR Z h a2 "java/lang/Object" (10 : Int32)
set_option maxRecDepth 65536 in
set_option maxHeartbeats 40000000 in
theorem rm21B (l : Launch) (Z : State) (aZ : Array Value) (hw : ∀ d ∈ tables_1, d.before aZ Z = true) (ws : List Jvm.Cond) (a0 : Addr) (a1 : Addr) (a2 : Addr) (p3 : Int32) (mc : Int32) (h0 : Heap) (n0 : Nat) (Z0 : n0 ≤ h0.size) (ELx : Exa Z h0 a0 "java/util/ArrayList") (Lx1 : Fld Z h0 a0 "java/util/AbstractList" "modCount" "I" (.int mc)) (Lx2 : Fld Z h0 a0 "java/util/ArrayList" "elementData" "[Ljava/lang/Object;" (.ref a2)) (Lx3 : Fld Z h0 a0 "java/util/ArrayList" "size" "I" (.int p3)) (RDx : OwnR Z h0 a2 "java/lang/Object" (10 : Int32)) (x0 : a0 ≠ a2) (g_a0 : n0 ≤ a0) (g_a2 : n0 ≤ a2) (hk : 0 ≤ p3.toInt ∧ p3.toInt < 10) (I1 : Ins Z h0 a1 "java/lang/Object" true) :
    MetFree l (⟨"java/util/ArrayList", "add", "(Ljava/lang/Object;[Ljava/lang/Object;I)V"⟩ : MethodName) (head1 (Jvm.Cond.code (⟨"java/util/ArrayList", "add", "(Ljava/lang/Object;[Ljava/lang/Object;I)V"⟩ : MethodName) jdk_38_method_24_code 4 none :: ws) ({ frames := 0, cells := 0, slots := 0, locals := 0 } : Room)) (fun a U => a = #[(.ref a0), (.ref a1), (.ref a2), (.int p3)] ∧ Z.Warmed39 U.vm ∧ U.heap = h0) (fun _ _ _ _ _ => True) (fun _ U o U' => ∃ v L, o = .returned v ∧ Q21B Z a0 a1 a2 p3 mc h0 n0 v U'.heap L ∧ FrameEnd U o U' L 0 0) := by
  refine MetFree.of_bodySF (plainFor_of_name pn_3) hisR ?_
  intro p e s m args below meth c s₁ Bd hml0 hP hK
  obtain ⟨rfl, hZ, hh⟩ := hP
  have hx := Bd.exec
  have hby := Bd.bytes
  have hml : c.maxLocals = 4 := hml0
  have hown : s.vm.findClass "java/util/ArrayList" = some m.cls := findClass_of_methodNamed Bd.named
  have hnm := (name_of_methodNamed Bd.named Bd.method).1
  have hlk := BodyLoose.notSynchronized Bd
  have X0 : Stand p l e ({ frames := 0, cells := 0, slots := 0, locals := 0 } : Room) s m #[(.ref a0), (.ref a1), (.ref a2), (.int p3)] below meth c s₁ [] 0 0 := Stand.of_body Bd
  have e0 : s₁.heap = h0 := by rw [← hh, Bd.state]; rfl
  have N0 := Fr.nil n0
  have hk0 : 0 ≤ 0 := Nat.zero_le _
  have hn0 : 0 ≤ 0 := Nat.zero_le _
  show OwnEnds p e below (OwnQ s (Q21B Z a0 a1 a2 p3 mc h0 n0) 0 0) (s₁.setTop (entryFrame m #[(.ref a0), (.ref a1), (.ref a2), (.int p3)] 4))
  refine .pre (fun t k => castTop (ef_21B m a0 a1 a2 p3) k) ?_
  show OwnEnds p e below _ (s₁.setTop (mkF m 0 #[.val (.ref a0), .val (.ref a1), .val (.ref a2), .val (.int p3)] []))
  refine .pre (fun _ kq => XS.iloadN X0.here hx rfl (hb hby d21_0) rfl kq) ?_
  show OwnEnds p e below _ (s₁.setTop (mkF m 1 #[.val (.ref a0), .val (.ref a1), .val (.ref a2), .val (.int p3)] [(.int p3)]))
  refine .pre (fun _ kq => XS.aloadN X0.here hx rfl (hb hby d21_1) rfl rfl kq) ?_
  show OwnEnds p e below _ (s₁.setTop (mkF m 2 #[.val (.ref a0), .val (.ref a1), .val (.ref a2), .val (.int p3)] [(.ref a2), (.int p3)]))
  obtain ⟨cl1, Ar1, Ov1, qs1, qn1⟩ := id RDx
  refine .pre (fun _ kq => X0.arraylength hx (by rw [e0]; exact Ar1.1) (State.isArrayOf_alike hZ.alike Ar1.2.1) (g := (mkF m 2 #[.val (.ref a0), .val (.ref a1), .val (.ref a2), .val (.int p3)] [(.ref a2), (.int p3)])) rfl rfl (hb hby d21_2) _ kq) ?_
  rw [len_of qs1 qn1]
  show OwnEnds p e below _ (s₁.setTop (mkF m 3 #[.val (.ref a0), .val (.ref a1), .val (.ref a2), .val (.int p3)] [(.int (10 : Int32)), (.int p3)]))
  have hc3 : ¬ (p3 = (10 : Int32)) := (own_b10 hk).2
  refine .pre (fun _ kq => XS.icmpYes X0.here hx rfl (pc0 := 3) (pc' := 11) rfl (hb hby d21_3) rfl (feq hc3).2 (by decide) (by decide) kq) ?_
  show OwnEnds p e below _ (s₁.setTop (mkF m 11 #[.val (.ref a0), .val (.ref a1), .val (.ref a2), .val (.int p3)] []))
  refine .pre (fun _ kq => XS.aloadN X0.here hx rfl (hb hby d21_11) rfl rfl kq) ?_
  show OwnEnds p e below _ (s₁.setTop (mkF m 12 #[.val (.ref a0), .val (.ref a1), .val (.ref a2), .val (.int p3)] [(.ref a2)]))
  refine .pre (fun _ kq => XS.iloadN X0.here hx rfl (hb hby d21_12) rfl kq) ?_
  show OwnEnds p e below _ (s₁.setTop (mkF m 13 #[.val (.ref a0), .val (.ref a1), .val (.ref a2), .val (.int p3)] [(.int p3), (.ref a2)]))
  refine .pre (fun _ kq => XS.aloadN X0.here hx rfl (hb hby d21_13) rfl rfl kq) ?_
  show OwnEnds p e below _ (s₁.setTop (mkF m 14 #[.val (.ref a0), .val (.ref a1), .val (.ref a2), .val (.int p3)] [(.ref a1), (.int p3), (.ref a2)]))
  obtain ⟨cl2, Ar2, Ov2, qs2, qn2⟩ := id RDx
  obtain ⟨T2, h2, X2, e2, W2, st2⟩ := stR X0 hx hZ e0 Ar2 (j := p3) (v := (.ref a1)) (inb_of qs2 (own_b10 hk).1) rfl (Sto.of Ar2 Ov2 I1) (g := (mkF m 14 #[.val (.ref a0), .val (.ref a1), .val (.ref a2), .val (.int p3)] [(.ref a1), (.int p3), (.ref a2)])) rfl rfl (hb hby d21_14)
  have V2 := OwnR.set RDx W2
  have N2 := Fr.snoc X2 N0 g_a2
  have Kp2 : Keep h0 h2 [a0, a2] := (Keep.refl h0 [a0, a2]).wr W2 (Or.inl (List.mem_of_getElem? (i := 1) rfl))
  refine .pre (fun _ kq => st2 _ kq) ?_
  show OwnEnds p e below _ (T2.setTop (mkF m 15 #[.val (.ref a0), .val (.ref a1), .val (.ref a2), .val (.int p3)] []))
  refine .pre (fun _ kq => XS.aloadN X2.here hx rfl (hb hby d21_15) rfl rfl kq) ?_
  show OwnEnds p e below _ (T2.setTop (mkF m 16 #[.val (.ref a0), .val (.ref a1), .val (.ref a2), .val (.int p3)] [(.ref a0)]))
  refine .pre (fun _ kq => XS.iloadN X2.here hx rfl (hb hby d21_16) rfl kq) ?_
  show OwnEnds p e below _ (T2.setTop (mkF m 17 #[.val (.ref a0), .val (.ref a1), .val (.ref a2), .val (.int p3)] [(.int p3), (.ref a0)]))
  refine .pre (fun _ kq => XS.iconst X2.here hx rfl (hb hby d21_17) kq) ?_
  show OwnEnds p e below _ (T2.setTop (mkF m 18 #[.val (.ref a0), .val (.ref a1), .val (.ref a2), .val (.int p3)] [(.int (1 : Int32)), (.int p3), (.ref a0)]))
  refine .pre (fun _ kq => XS.iadd X2.here hx rfl (hb hby d21_18) rfl kq) ?_
  show OwnEnds p e below _ (T2.setTop (mkF m 19 #[.val (.ref a0), .val (.ref a1), .val (.ref a2), .val (.int p3)] [(.int (p3 + (1 : Int32))), (.ref a0)]))
  obtain ⟨T3, h3, X3, e3, W3, st3⟩ := putF X2 hx hZ hown (host := "") (Or.inl (hw _ (List.mem_of_getElem? (i := 136) rfl))) Via.refl e2 (Lx3.other W2 (Or.inl x0)) (ELx.wr W2) (Or.inl (hw _ (List.mem_of_getElem? (i := 137) rfl))) (hw _ (List.mem_of_getElem? (i := 22) rfl)) (ty := .int) (by decide) rfl rfl (g := (mkF m 19 #[.val (.ref a0), .val (.ref a1), .val (.ref a2), .val (.int p3)] [(.int (p3 + (1 : Int32))), (.ref a0)])) rfl rfl (hb hby d21_19)
  have Fw3 := (Lx3.other W2 (Or.inl x0)).same W3
  have N3 := Fr.snoc X3 N2 g_a0
  have Kp3 : Keep h0 h3 [a0, a2] := Kp2.wr W3 (Or.inl (List.mem_of_getElem? (i := 0) rfl))
  refine .pre (fun _ kq => st3 _ kq) ?_
  show OwnEnds p e below _ (T3.setTop (mkF m 22 #[.val (.ref a0), .val (.ref a1), .val (.ref a2), .val (.int p3)] []))
  exact own_endV X3 hx hlk Bd.returns (hb hby d21_22) (by decide) (by decide) ⟨rfl, N3, (by rw [e3]; exact Kp3), (by rw [e3]; exact ((ELx.wr W2).wr W3)), ⟨_, (by rw [e3]; exact ((Lx1.other W2 (Or.inl x0)).other W3 (Or.inr (slot_ne (Or.inl (hw _ (List.mem_of_getElem? (i := 43) rfl))) (Or.inl (hw _ (List.mem_of_getElem? (i := 137) rfl))) (by decide) (t := .int) (t' := .int) (by decide) (by decide)))))⟩, (by rw [e3]; exact ((Lx2.other W2 (Or.inl x0)).other W3 (Or.inr (slot_ne (Or.inl (hw _ (List.mem_of_getElem? (i := 46) rfl))) (Or.inl (hw _ (List.mem_of_getElem? (i := 137) rfl))) (by decide) (t := (.array (.object "java/lang/Object"))) (t' := .int) (by decide) (by decide))))), (by rw [e3]; exact Fw3), (by rw [e3]; exact (V2.other W3 (Ne.symm x0)))⟩
theorem ef_20B (m : MethodId) (a0 : Addr) (a1 : Addr) : entryFrame m #[(.ref a0), (.ref a1)] 2 = mkF m 0 #[.val (.ref a0), .val (.ref a1)] [] := by first | (simp [entryFrame, mkF, argsToLocals, Value.category]; done) | rfl
def Q20B (Z : State) (a0 : Addr) (a1 : Addr) (d : Addr) (k : Int32) (mc : Int32) (h0 : Heap) (n0 : Nat) (v : Option Value) (h : Heap) (L : List Loc) : Prop := v = some (.int 1) ∧ Fr n0 L ∧ Keep h0 h [a0, d] ∧ Exa Z h a0 "java/util/ArrayList" ∧ (∃ mc : Int32, Fld Z h a0 "java/util/AbstractList" "modCount" "I" (.int mc)) ∧ Fld Z h a0 "java/util/ArrayList" "elementData" "[Ljava/lang/Object;" (.ref d) ∧ Fld Z h a0 "java/util/ArrayList" "size" "I" (.int (k + 1)) ∧ OwnR Z h d "java/lang/Object" (10 : Int32)
set_option maxRecDepth 65536 in
set_option maxHeartbeats 40000000 in
theorem rm20B (l : Launch) (Z : State) (aZ : Array Value) (hw : ∀ d ∈ tables_1, d.before aZ Z = true) (ws : List Jvm.Cond) (a0 : Addr) (a1 : Addr) (d : Addr) (k : Int32) (mc : Int32) (h0 : Heap) (n0 : Nat) (Z0 : n0 ≤ h0.size) (ELx : Exa Z h0 a0 "java/util/ArrayList") (Lx1 : Fld Z h0 a0 "java/util/AbstractList" "modCount" "I" (.int mc)) (Lx2 : Fld Z h0 a0 "java/util/ArrayList" "elementData" "[Ljava/lang/Object;" (.ref d)) (Lx3 : Fld Z h0 a0 "java/util/ArrayList" "size" "I" (.int k)) (RDx : OwnR Z h0 d "java/lang/Object" (10 : Int32)) (x0 : a0 ≠ d) (g_a0 : n0 ≤ a0) (g_d : n0 ≤ d) (hk : 0 ≤ k.toInt ∧ k.toInt < 10) (I1 : Ins Z h0 a1 "java/lang/Object" true) :
    MetFree l (⟨"java/util/ArrayList", "add", "(Ljava/lang/Object;)Z"⟩ : MethodName) (head1 (Jvm.Cond.code (⟨"java/util/ArrayList", "add", "(Ljava/lang/Object;)Z"⟩ : MethodName) jdk_38_method_25_code 2 (some .boolean) :: ws) ({ frames := 1, cells := 0, slots := 0, locals := 15 } : Room)) (fun a U => a = #[(.ref a0), (.ref a1)] ∧ Z.Warmed39 U.vm ∧ U.heap = h0) (fun _ _ _ _ _ => True) (fun _ U o U' => ∃ v L, o = .returned v ∧ Q20B Z a0 a1 d k mc h0 n0 v U'.heap L ∧ FrameEnd U o U' L 0 0) := by
  refine MetFree.of_bodySF (plainFor_of_name pn_3) hisR ?_
  intro p e s m args below meth c s₁ Bd hml0 hP hK
  obtain ⟨rfl, hZ, hh⟩ := hP
  have hx := Bd.exec
  have hby := Bd.bytes
  have hml : c.maxLocals = 2 := hml0
  have hown : s.vm.findClass "java/util/ArrayList" = some m.cls := findClass_of_methodNamed Bd.named
  have hnm := (name_of_methodNamed Bd.named Bd.method).1
  have hlk := BodyLoose.notSynchronized Bd
  have X0 : Stand p l e ({ frames := 1, cells := 0, slots := 0, locals := 15 } : Room) s m #[(.ref a0), (.ref a1)] below meth c s₁ [] 0 0 := Stand.of_body Bd
  have e0 : s₁.heap = h0 := by rw [← hh, Bd.state]; rfl
  have N0 := Fr.nil n0
  have hk0 : 0 ≤ 0 := Nat.zero_le _
  have hn0 : 0 ≤ 0 := Nat.zero_le _
  show OwnEnds p e below (OwnQ s (Q20B Z a0 a1 d k mc h0 n0) 0 0) (s₁.setTop (entryFrame m #[(.ref a0), (.ref a1)] 2))
  refine .pre (fun t k => castTop (ef_20B m a0 a1) k) ?_
  show OwnEnds p e below _ (s₁.setTop (mkF m 0 #[.val (.ref a0), .val (.ref a1)] []))
  refine .pre (fun _ kq => XS.aloadN X0.here hx rfl (hb hby d20_0) rfl rfl kq) ?_
  show OwnEnds p e below _ (s₁.setTop (mkF m 1 #[.val (.ref a0), .val (.ref a1)] [(.ref a0)]))
  refine .pre (fun _ kq => XS.dup X0.here hx rfl (hb hby d20_1) rfl rfl kq) ?_
  show OwnEnds p e below _ (s₁.setTop (mkF m 2 #[.val (.ref a0), .val (.ref a1)] [(.ref a0), (.ref a0)]))
  obtain ⟨T1, X1, e1, st1⟩ := getF X0 hx hZ hown (host := "") (Or.inl (hw _ (List.mem_of_getElem? (i := 151) rfl))) (Via.of (hw _ (List.mem_of_getElem? (i := 152) rfl))) e0 Lx1 (g := (mkF m 2 #[.val (.ref a0), .val (.ref a1)] [(.ref a0), (.ref a0)])) rfl rfl (hb hby d20_2)
  refine .pre (fun _ kq => st1 _ kq) ?_
  show OwnEnds p e below _ (T1.setTop (mkF m 5 #[.val (.ref a0), .val (.ref a1)] [(.int mc), (.ref a0)]))
  refine .pre (fun _ kq => XS.iconst X1.here hx rfl (hb hby d20_5) kq) ?_
  show OwnEnds p e below _ (T1.setTop (mkF m 6 #[.val (.ref a0), .val (.ref a1)] [(.int (1 : Int32)), (.int mc), (.ref a0)]))
  refine .pre (fun _ kq => XS.iadd X1.here hx rfl (hb hby d20_6) rfl kq) ?_
  show OwnEnds p e below _ (T1.setTop (mkF m 7 #[.val (.ref a0), .val (.ref a1)] [(.int (mc + (1 : Int32))), (.ref a0)]))
  obtain ⟨T2, h2, X2, e2, W2, st2⟩ := putF X1 hx hZ hown (host := "") (Or.inl (hw _ (List.mem_of_getElem? (i := 151) rfl))) (Via.of (hw _ (List.mem_of_getElem? (i := 152) rfl))) e1 Lx1 ELx (Or.inl (hw _ (List.mem_of_getElem? (i := 43) rfl))) (hw _ (List.mem_of_getElem? (i := 22) rfl)) (ty := .int) (by decide) rfl rfl (g := (mkF m 7 #[.val (.ref a0), .val (.ref a1)] [(.int (mc + (1 : Int32))), (.ref a0)])) rfl rfl (hb hby d20_7)
  have Fw2 := Lx1.same W2
  have N2 := Fr.snoc X2 N0 g_a0
  have Kp2 : Keep h0 h2 [a0, d] := (Keep.refl h0 [a0, d]).wr W2 (Or.inl (List.mem_of_getElem? (i := 0) rfl))
  refine .pre (fun _ kq => st2 _ kq) ?_
  show OwnEnds p e below _ (T2.setTop (mkF m 10 #[.val (.ref a0), .val (.ref a1)] []))
  refine .pre (fun _ kq => XS.aloadN X2.here hx rfl (hb hby d20_10) rfl rfl kq) ?_
  show OwnEnds p e below _ (T2.setTop (mkF m 11 #[.val (.ref a0), .val (.ref a1)] [(.ref a0)]))
  refine .pre (fun _ kq => XS.aloadN X2.here hx rfl (hb hby d20_11) rfl rfl kq) ?_
  show OwnEnds p e below _ (T2.setTop (mkF m 12 #[.val (.ref a0), .val (.ref a1)] [(.ref a1), (.ref a0)]))
  refine .pre (fun _ kq => XS.aloadN X2.here hx rfl (hb hby d20_12) rfl rfl kq) ?_
  show OwnEnds p e below _ (T2.setTop (mkF m 13 #[.val (.ref a0), .val (.ref a1)] [(.ref a0), (.ref a1), (.ref a0)]))
  obtain ⟨T3, X3, e3, st3⟩ := getF X2 hx hZ hown (host := "") (Or.inl (hw _ (List.mem_of_getElem? (i := 45) rfl))) Via.refl e2 (Lx2.other W2 (Or.inr (slot_ne (Or.inl (hw _ (List.mem_of_getElem? (i := 46) rfl))) (Or.inl (hw _ (List.mem_of_getElem? (i := 43) rfl))) (by decide) (t := (.array (.object "java/lang/Object"))) (t' := .int) (by decide) (by decide)))) (g := (mkF m 13 #[.val (.ref a0), .val (.ref a1)] [(.ref a0), (.ref a1), (.ref a0)])) rfl rfl (hb hby d20_13)
  refine .pre (fun _ kq => st3 _ kq) ?_
  show OwnEnds p e below _ (T3.setTop (mkF m 16 #[.val (.ref a0), .val (.ref a1)] [(.ref d), (.ref a1), (.ref a0)]))
  refine .pre (fun _ kq => XS.aloadN X3.here hx rfl (hb hby d20_16) rfl rfl kq) ?_
  show OwnEnds p e below _ (T3.setTop (mkF m 17 #[.val (.ref a0), .val (.ref a1)] [(.ref a0), (.ref d), (.ref a1), (.ref a0)]))
  obtain ⟨T4, X4, e4, st4⟩ := getF X3 hx hZ hown (host := "") (Or.inl (hw _ (List.mem_of_getElem? (i := 136) rfl))) Via.refl e3 (Lx3.other W2 (Or.inr (slot_ne (Or.inl (hw _ (List.mem_of_getElem? (i := 137) rfl))) (Or.inl (hw _ (List.mem_of_getElem? (i := 43) rfl))) (by decide) (t := .int) (t' := .int) (by decide) (by decide)))) (g := (mkF m 17 #[.val (.ref a0), .val (.ref a1)] [(.ref a0), (.ref d), (.ref a1), (.ref a0)])) rfl rfl (hb hby d20_17)
  refine .pre (fun _ kq => st4 _ kq) ?_
  show OwnEnds p e below _ (T4.setTop (mkF m 20 #[.val (.ref a0), .val (.ref a1)] [(.int k), (.ref d), (.ref a1), (.ref a0)]))
  obtain ⟨cq5, q5, q5'⟩ := (ELx.wr W2).cell
  obtain ⟨_, _, ⟨T5, L5, k5, n5⟩, -, X5, ⟨Lc5, hQ5, l5, y5, z5⟩, st5⟩ := X4.privateBack hx (y := (⟨"java/util/ArrayList", "add", "(Ljava/lang/Object;[Ljava/lang/Object;I)V"⟩ : MethodName)) hown (mvT hZ (hw _ (List.mem_of_getElem? (i := 153) rfl))) (mvT hZ (hw _ (List.mem_of_getElem? (i := 154) rfl))) (mvT hZ (hw _ (List.mem_of_getElem? (i := 156) rfl))) (Cond.privateMethod_at (mvP hZ (hw _ (List.mem_of_getElem? (i := 155) rfl)) (args := #[]))) (mvT hZ (hw _ (List.mem_of_getElem? (i := 157) rfl))) (by decide) (backOf (W := 0) (rm21B l Z aZ hw [] a0 a1 d k (mc + (1 : Int32)) h2 n0 (Nat.le_trans Z0 (Keep.of_wr W2).1) (ELx.wr W2) Fw2 (Lx2.other W2 (Or.inr (slot_ne (Or.inl (hw _ (List.mem_of_getElem? (i := 46) rfl))) (Or.inl (hw _ (List.mem_of_getElem? (i := 43) rfl))) (by decide) (t := (.array (.object "java/lang/Object"))) (t' := .int) (by decide) (by decide)))) (Lx3.other W2 (Or.inr (slot_ne (Or.inl (hw _ (List.mem_of_getElem? (i := 137) rfl))) (Or.inl (hw _ (List.mem_of_getElem? (i := 43) rfl))) (by decide) (t := .int) (t' := .int) (by decide) (by decide)))) (RDx.other W2 (Ne.symm x0)) x0 g_a0 g_d hk (Ins.wr W2 I1)) hZ (hw _ (List.mem_of_getElem? (i := 157) rfl)) (hw _ (List.mem_of_getElem? (i := 23) rfl)) (by decide) (by decide)) (g := (mkF m 20 #[.val (.ref a0), .val (.ref a1)] [(.int k), (.ref d), (.ref a1), (.ref a0)])) rfl (by rw [hml]; rfl) (Steps.refl _) (a := a0) (by rw [e4]; exact q5) q5' (argsL := [(.ref a1), (.ref d), (.int k)]) (rest := []) (lenOf pd_11 rfl) rfl (by show 2 * 0 + _ ≤ _; exact Nat.le_of_eq rfl) (hb hby d20_20) (fun _ _ => ⟨rfl, e4, (by decide : 0 + 0 ≤ _), (by decide : 0 + 0 ≤ _)⟩)
  dsimp only [Pt.U, Pt.locs, Pt.cells, Pt.slots] at X5 l5 y5 z5 st5 hQ5
  try dsimp only [Nat.reduceAdd] at y5 z5
  subst y5 z5
  obtain ⟨rfl, N5q, K5, Lq5_0, ⟨mcq5, Lq5_1⟩, Lq5_2, Lq5_3, Lq5_4⟩ := hQ5
  have N5 : Fr n0 L5 := by rw [l5]; exact Fr.app N2 N5q
  refine .pre (fun _ kq => st5.trans kq) ?_
  have Kp5 : Keep h0 T5.heap [a0, d] := Kp2.trans K5 (allS (Or.inl (List.mem_of_getElem? (i := 0) rfl)) (allS (Or.inl (List.mem_of_getElem? (i := 1) rfl)) all0))
  show OwnEnds p e below _ (T5.setTop (mkF m 23 #[.val (.ref a0), .val (.ref a1)] []))
  refine .pre (fun _ kq => XS.iconst X5.here hx rfl (hb hby d20_23) kq) ?_
  show OwnEnds p e below _ (T5.setTop (mkF m 24 #[.val (.ref a0), .val (.ref a1)] [(.int (1 : Int32))]))
  exact own_endN X5 hx hlk (t := .boolean) Bd.returns (by simp) (hb hby d20_24) rfl (by decide) (by decide) ⟨rfl, N5, Kp5, Lq5_0, ⟨_, Lq5_1⟩, Lq5_2, Lq5_3, Lq5_4⟩
theorem d16_0 : decode prog_39_method_3_code 0 = .ok (.aload_n 1, 1) := by decide +kernel
theorem d16_1 : decode prog_39_method_3_code 1 = .ok (.invokevirtual 65, 3) := by decide +kernel
theorem d16_4 : decode prog_39_method_3_code 4 = .ok (.ifCond .ge 7, 3) := by decide +kernel
theorem d16_7 : decode prog_39_method_3_code 7 = .ok (.iconst 1, 1) := by decide +kernel
theorem d16_8 : decode prog_39_method_3_code 8 = .ok (.goto 4, 3) := by decide +kernel
theorem d16_11 : decode prog_39_method_3_code 11 = .ok (.iconst 0, 1) := by decide +kernel
theorem d16_12 : decode prog_39_method_3_code 12 = .ok (.istore 4, 2) := by decide +kernel
theorem d16_14 : decode prog_39_method_3_code 14 = .ok (.iload 4, 2) := by decide +kernel
theorem d16_16 : decode prog_39_method_3_code 16 = .ok (.ifCond .eq 155, 3) := by decide +kernel
theorem d16_19 : decode prog_39_method_3_code 19 = .ok (.aload_n 0, 1) := by decide +kernel
theorem d16_20 : decode prog_39_method_3_code 20 = .ok (.getfield 19, 3) := by decide +kernel
theorem d16_23 : decode prog_39_method_3_code 23 = .ok (.invokeinterface 69 1, 5) := by decide +kernel
theorem d16_28 : decode prog_39_method_3_code 28 = .ok (.istore 5, 2) := by decide +kernel
theorem d16_30 : decode prog_39_method_3_code 30 = .ok (.iload 5, 2) := by decide +kernel
theorem d16_32 : decode prog_39_method_3_code 32 = .ok (.aload_n 0, 1) := by decide +kernel
theorem d16_33 : decode prog_39_method_3_code 33 = .ok (.getfield 23, 3) := by decide +kernel
theorem d16_36 : decode prog_39_method_3_code 36 = .ok (.arraylength, 1) := by decide +kernel
theorem d16_37 : decode prog_39_method_3_code 37 = .ok (.if_icmp .ne 33, 3) := by decide +kernel
theorem d16_40 : decode prog_39_method_3_code 40 = .ok (.aload_n 0, 1) := by decide +kernel
theorem d16_41 : decode prog_39_method_3_code 41 = .ok (.aload_n 0, 1) := by decide +kernel
theorem d16_42 : decode prog_39_method_3_code 42 = .ok (.getfield 23, 3) := by decide +kernel
theorem d16_45 : decode prog_39_method_3_code 45 = .ok (.iconst 2, 1) := by decide +kernel
theorem d16_46 : decode prog_39_method_3_code 46 = .ok (.iload 5, 2) := by decide +kernel
theorem d16_48 : decode prog_39_method_3_code 48 = .ok (.imul, 1) := by decide +kernel
theorem d16_49 : decode prog_39_method_3_code 49 = .ok (.invokestatic 74, 3) := by decide +kernel
theorem d16_52 : decode prog_39_method_3_code 52 = .ok (.putfield 23, 3) := by decide +kernel
theorem d16_55 : decode prog_39_method_3_code 55 = .ok (.aload_n 0, 1) := by decide +kernel
theorem d16_56 : decode prog_39_method_3_code 56 = .ok (.aload_n 0, 1) := by decide +kernel
theorem d16_57 : decode prog_39_method_3_code 57 = .ok (.getfield 27, 3) := by decide +kernel
theorem d16_60 : decode prog_39_method_3_code 60 = .ok (.iconst 2, 1) := by decide +kernel
theorem d16_61 : decode prog_39_method_3_code 61 = .ok (.iload 5, 2) := by decide +kernel
theorem d16_63 : decode prog_39_method_3_code 63 = .ok (.imul, 1) := by decide +kernel
theorem d16_64 : decode prog_39_method_3_code 64 = .ok (.invokestatic 74, 3) := by decide +kernel
theorem d16_67 : decode prog_39_method_3_code 67 = .ok (.putfield 27, 3) := by decide +kernel
theorem d16_70 : decode prog_39_method_3_code 70 = .ok (.aload_n 0, 1) := by decide +kernel
theorem d16_71 : decode prog_39_method_3_code 71 = .ok (.getfield 37, 3) := by decide +kernel
theorem d16_74 : decode prog_39_method_3_code 74 = .ok (.ifCond .eq 43, 3) := by decide +kernel
theorem d16_77 : decode prog_39_method_3_code 77 = .ok (.iload 5, 2) := by decide +kernel
theorem d16_79 : decode prog_39_method_3_code 79 = .ok (.aload_n 0, 1) := by decide +kernel
theorem d16_80 : decode prog_39_method_3_code 80 = .ok (.getfield 41, 3) := by decide +kernel
theorem d16_83 : decode prog_39_method_3_code 83 = .ok (.arraylength, 1) := by decide +kernel
theorem d16_84 : decode prog_39_method_3_code 84 = .ok (.if_icmp .ne 33, 3) := by decide +kernel
theorem d16_87 : decode prog_39_method_3_code 87 = .ok (.aload_n 0, 1) := by decide +kernel
theorem d16_88 : decode prog_39_method_3_code 88 = .ok (.aload_n 0, 1) := by decide +kernel
theorem d16_89 : decode prog_39_method_3_code 89 = .ok (.getfield 41, 3) := by decide +kernel
theorem d16_92 : decode prog_39_method_3_code 92 = .ok (.iconst 2, 1) := by decide +kernel
theorem d16_93 : decode prog_39_method_3_code 93 = .ok (.iload 5, 2) := by decide +kernel
theorem d16_95 : decode prog_39_method_3_code 95 = .ok (.imul, 1) := by decide +kernel
theorem d16_96 : decode prog_39_method_3_code 96 = .ok (.invokestatic 74, 3) := by decide +kernel
theorem d16_99 : decode prog_39_method_3_code 99 = .ok (.putfield 41, 3) := by decide +kernel
theorem d16_102 : decode prog_39_method_3_code 102 = .ok (.aload_n 0, 1) := by decide +kernel
theorem d16_103 : decode prog_39_method_3_code 103 = .ok (.aload_n 0, 1) := by decide +kernel
theorem d16_104 : decode prog_39_method_3_code 104 = .ok (.getfield 44, 3) := by decide +kernel
theorem d16_107 : decode prog_39_method_3_code 107 = .ok (.iconst 2, 1) := by decide +kernel
theorem d16_108 : decode prog_39_method_3_code 108 = .ok (.iload 5, 2) := by decide +kernel
theorem d16_110 : decode prog_39_method_3_code 110 = .ok (.imul, 1) := by decide +kernel
theorem d16_111 : decode prog_39_method_3_code 111 = .ok (.invokestatic 74, 3) := by decide +kernel
theorem d16_114 : decode prog_39_method_3_code 114 = .ok (.putfield 44, 3) := by decide +kernel
theorem d16_117 : decode prog_39_method_3_code 117 = .ok (.aload_n 0, 1) := by decide +kernel
theorem d16_118 : decode prog_39_method_3_code 118 = .ok (.getfield 19, 3) := by decide +kernel
theorem d16_121 : decode prog_39_method_3_code 121 = .ok (.aload_n 1, 1) := by decide +kernel
theorem d16_122 : decode prog_39_method_3_code 122 = .ok (.invokevirtual 53, 3) := by decide +kernel
theorem d16_125 : decode prog_39_method_3_code 125 = .ok (.invokeinterface 80 2, 5) := by decide +kernel
theorem d16_130 : decode prog_39_method_3_code 130 = .ok (.pop, 1) := by decide +kernel
theorem d16_131 : decode prog_39_method_3_code 131 = .ok (.aload_n 0, 1) := by decide +kernel
theorem d16_132 : decode prog_39_method_3_code 132 = .ok (.getfield 23, 3) := by decide +kernel
theorem d16_135 : decode prog_39_method_3_code 135 = .ok (.iload 5, 2) := by decide +kernel
theorem d16_137 : decode prog_39_method_3_code 137 = .ok (.iload_n 2, 1) := by decide +kernel
theorem d16_138 : decode prog_39_method_3_code 138 = .ok (.iastore, 1) := by decide +kernel
theorem d16_139 : decode prog_39_method_3_code 139 = .ok (.aload_n 0, 1) := by decide +kernel
theorem d16_140 : decode prog_39_method_3_code 140 = .ok (.getfield 27, 3) := by decide +kernel
theorem d16_143 : decode prog_39_method_3_code 143 = .ok (.iload 5, 2) := by decide +kernel
theorem d16_145 : decode prog_39_method_3_code 145 = .ok (.iload_n 3, 1) := by decide +kernel
theorem d16_146 : decode prog_39_method_3_code 146 = .ok (.iastore, 1) := by decide +kernel
theorem d16_147 : decode prog_39_method_3_code 147 = .ok (.aload_n 0, 1) := by decide +kernel
theorem d16_148 : decode prog_39_method_3_code 148 = .ok (.dup, 1) := by decide +kernel
theorem d16_149 : decode prog_39_method_3_code 149 = .ok (.getfield 84, 3) := by decide +kernel
theorem d16_152 : decode prog_39_method_3_code 152 = .ok (.iload_n 2, 1) := by decide +kernel
theorem d16_153 : decode prog_39_method_3_code 153 = .ok (.ifCond .ge 7, 3) := by decide +kernel
theorem d16_156 : decode prog_39_method_3_code 156 = .ok (.iconst 1, 1) := by decide +kernel
theorem d16_157 : decode prog_39_method_3_code 157 = .ok (.goto 4, 3) := by decide +kernel
theorem d16_160 : decode prog_39_method_3_code 160 = .ok (.iconst 0, 1) := by decide +kernel
theorem d16_161 : decode prog_39_method_3_code 161 = .ok (.iadd, 1) := by decide +kernel
theorem d16_162 : decode prog_39_method_3_code 162 = .ok (.putfield 84, 3) := by decide +kernel
theorem d16_165 : decode prog_39_method_3_code 165 = .ok (.aload_n 1, 1) := by decide +kernel
theorem d16_166 : decode prog_39_method_3_code 166 = .ok (.iload 5, 2) := by decide +kernel
theorem d16_168 : decode prog_39_method_3_code 168 = .ok (.invokevirtual 87, 3) := by decide +kernel
theorem d16_171 : decode prog_39_method_3_code 171 = .ok (.aload_n 0, 1) := by decide +kernel
theorem d16_172 : decode prog_39_method_3_code 172 = .ok (.getfield 37, 3) := by decide +kernel
theorem d16_175 : decode prog_39_method_3_code 175 = .ok (.ifCond .eq 17, 3) := by decide +kernel
theorem d16_178 : decode prog_39_method_3_code 178 = .ok (.iload_n 2, 1) := by decide +kernel
theorem d16_179 : decode prog_39_method_3_code 179 = .ok (.ifCond .lt 13, 3) := by decide +kernel
theorem d16_182 : decode prog_39_method_3_code 182 = .ok (.aload_n 0, 1) := by decide +kernel
theorem d16_183 : decode prog_39_method_3_code 183 = .ok (.iload_n 2, 1) := by decide +kernel
theorem d16_184 : decode prog_39_method_3_code 184 = .ok (.aload_n 1, 1) := by decide +kernel
theorem d16_185 : decode prog_39_method_3_code 185 = .ok (.invokevirtual 65, 3) := by decide +kernel
theorem d16_188 : decode prog_39_method_3_code 188 = .ok (.iload_n 3, 1) := by decide +kernel
theorem d16_189 : decode prog_39_method_3_code 189 = .ok (.invokevirtual 90, 3) := by decide +kernel
theorem d16_192 : decode prog_39_method_3_code 192 = .ok (.iload 4, 2) := by decide +kernel
theorem d16_194 : decode prog_39_method_3_code 194 = .ok (.ireturn, 1) := by decide +kernel
theorem ef_16A (m : MethodId) (a0 : Addr) (a1 : Addr) : entryFrame m #[(.ref a0), (.ref a1), (.int (-1 : Int32)), (.int (-1 : Int32))] 6 = mkF m 0 #[.val (.ref a0), .val (.ref a1), .val (.int (-1 : Int32)), .val (.int (-1 : Int32)), .unset, .unset] [] := by first | (simp [entryFrame, mkF, argsToLocals, Value.category]; done) | rfl
theorem pd_12 : parseMethodDescriptor "()I" = some ⟨[], some .int⟩ := by decide +kernel
theorem pd_13 : parseMethodDescriptor "()Lcom/example/changeset/changeset/check/State;" = some ⟨[], some (.object "com/example/changeset/changeset/check/State")⟩ := by decide +kernel
theorem pd_14 : parseMethodDescriptor "(Ljava/lang/Object;)Z" = some ⟨[(.object "java/lang/Object")], some .boolean⟩ := by decide +kernel
theorem pd_15 : parseMethodDescriptor "(I)V" = some ⟨[.int], none⟩ := by decide +kernel
def Q16A (Z : State) (a0 : Addr) (a1 : Addr) (aL : Addr) (aP : Addr) (aR : Addr) (aF : Addr) (aE : Addr) (aT : Addr) (aA : Addr) (wl : Int32) (ed : Int32) (ini : Int32) (FF : Nat → Int32) (EE : Nat → Int32) (xD : Addr) (w0 : Addr) (h0 : Heap) (n0 : Nat) (v : Option Value) (h : Heap) (L : List Loc) : Prop := ∃ d : Addr, v = some (.int 1) ∧ Fr n0 L ∧ Keep h0 h [a0, aL, aP, aR, a1] ∧ h0.size ≤ d ∧ OwnG Z h a0 aL aP aR aF aE aT aA wl ed (ini + 1) FF EE ∧ OwnL Z h aL d (1 : Int32) (10 : Int32) ∧ Exa Z h a1 "com/example/changeset/changeset/check/FoundState" ∧ Fld Z h a1 "com/example/changeset/changeset/check/FoundState" "number" "I" (.int (0 : Int32)) ∧ Fld Z h a1 "com/example/changeset/changeset/check/FoundState" "state" "Lcom/example/changeset/changeset/check/State;" (.ref w0)
set_option maxRecDepth 65536 in
set_option maxHeartbeats 40000000 in
theorem rm16A (l : Launch) (Z : State) (aZ : Array Value) (hw : ∀ d ∈ tables_1, d.before aZ Z = true) (ws : List Jvm.Cond) (a0 : Addr) (a1 : Addr) (aL : Addr) (aP : Addr) (aR : Addr) (aF : Addr) (aE : Addr) (aT : Addr) (aA : Addr) (wl : Int32) (ed : Int32) (ini : Int32) (FF : Nat → Int32) (EE : Nat → Int32) (xD : Addr) (w0 : Addr) (h0 : Heap) (n0 : Nat) (Z0 : n0 ≤ h0.size) (SD : Sta Z h0 "java/util/ArrayList" "DEFAULTCAPACITY_EMPTY_ELEMENTDATA" "[Ljava/lang/Object;" (.ref xD)) (HG : OwnG Z h0 a0 aL aP aR aF aE aT aA wl ed ini FF EE) (HL : OwnL Z h0 aL xD 0 0) (fsE : Exa Z h0 a1 "com/example/changeset/changeset/check/FoundState") (fsN : Fld Z h0 a1 "com/example/changeset/changeset/check/FoundState" "number" "I" (.int (-1 : Int32))) (fsS : Fld Z h0 a1 "com/example/changeset/changeset/check/FoundState" "state" "Lcom/example/changeset/changeset/check/State;" (.ref w0)) (D : [a0, aL, aP, aR, aF, aE, aT, aA, a1, xD].Pairwise (· ≠ ·)) (GN : ∀ x ∈ [a0, aL, aP, aR, aF, aE, aT, aA, a1], n0 ≤ x) (IS : Ins Z h0 w0 "java/lang/Object" true) :
    MetFree l (⟨"com/example/changeset/changeset/check/StateGraph", "add", "(Lcom/example/changeset/changeset/check/FoundState;II)Z"⟩ : MethodName) (head1 (Jvm.Cond.code (⟨"com/example/changeset/changeset/check/StateGraph", "add", "(Lcom/example/changeset/changeset/check/FoundState;II)Z"⟩ : MethodName) prog_39_method_3_code 6 (some .boolean) :: ws) ({ frames := 5, cells := 1, slots := 10, locals := 75 } : Room)) (fun a U => a = #[(.ref a0), (.ref a1), (.int (-1 : Int32)), (.int (-1 : Int32))] ∧ Z.Warmed39 U.vm ∧ U.heap = h0) (fun _ _ _ _ _ => True) (fun _ U o U' => ∃ v L, o = .returned v ∧ Q16A Z a0 a1 aL aP aR aF aE aT aA wl ed ini FF EE xD w0 h0 n0 v U'.heap L ∧ FrameEnd U o U' L 1 10) := by
  refine MetFree.of_bodySF (plainFor_of_name pn_6) hisR ?_
  intro p e s m args below meth c s₁ Bd hml0 hP hK
  obtain ⟨rfl, hZ, hh⟩ := hP
  have hx := Bd.exec
  have hby := Bd.bytes
  have hml : c.maxLocals = 6 := hml0
  have hown : s.vm.findClass "com/example/changeset/changeset/check/StateGraph" = some m.cls := findClass_of_methodNamed Bd.named
  have hnm := (name_of_methodNamed Bd.named Bd.method).1
  have hlk := BodyLoose.notSynchronized Bd
  have X0 : Stand p l e ({ frames := 5, cells := 1, slots := 10, locals := 75 } : Room) s m #[(.ref a0), (.ref a1), (.int (-1 : Int32)), (.int (-1 : Int32))] below meth c s₁ [] 0 0 := Stand.of_body Bd
  have e0 : s₁.heap = h0 := by rw [← hh, Bd.state]; rfl
  have N0 := Fr.nil n0
  have hk0 : 0 ≤ 1 := Nat.zero_le _
  have hn0 : 0 ≤ 10 := Nat.zero_le _
  show OwnEnds p e below (OwnQ s (Q16A Z a0 a1 aL aP aR aF aE aT aA wl ed ini FF EE xD w0 h0 n0) 1 10) (s₁.setTop (entryFrame m #[(.ref a0), (.ref a1), (.int (-1 : Int32)), (.int (-1 : Int32))] 6))
  refine .pre (fun t k => castTop (ef_16A m a0 a1) k) ?_
  obtain ⟨EG, G0, G1, G2, G3, G4, G5, G6, G7, G8, G9, G10, ⟨fP, AP⟩, ⟨fR, AR⟩, AF, AE, ⟨fT, AT⟩, ⟨fA, AA⟩⟩ := id HG
  obtain ⟨ELx, ⟨mc, Lx1⟩, Lx2, Lx3, RDx⟩ := HL
  have g_a0 : n0 ≤ a0 := GN _ (List.mem_of_getElem? (i := 0) rfl)
  have g_aL : n0 ≤ aL := GN _ (List.mem_of_getElem? (i := 1) rfl)
  have g_aP : n0 ≤ aP := GN _ (List.mem_of_getElem? (i := 2) rfl)
  have g_aR : n0 ≤ aR := GN _ (List.mem_of_getElem? (i := 3) rfl)
  have g_aF : n0 ≤ aF := GN _ (List.mem_of_getElem? (i := 4) rfl)
  have g_aE : n0 ≤ aE := GN _ (List.mem_of_getElem? (i := 5) rfl)
  have g_aT : n0 ≤ aT := GN _ (List.mem_of_getElem? (i := 6) rfl)
  have g_aA : n0 ≤ aA := GN _ (List.mem_of_getElem? (i := 7) rfl)
  have g_a1 : n0 ≤ a1 := GN _ (List.mem_of_getElem? (i := 8) rfl)
  show OwnEnds p e below _ (s₁.setTop (mkF m 0 #[.val (.ref a0), .val (.ref a1), .val (.int (-1 : Int32)), .val (.int (-1 : Int32)), .unset, .unset] []))
  refine .pre (fun _ kq => XS.aloadN X0.here hx rfl (hb hby d16_0) rfl rfl kq) ?_
  show OwnEnds p e below _ (s₁.setTop (mkF m 1 #[.val (.ref a0), .val (.ref a1), .val (.int (-1 : Int32)), .val (.int (-1 : Int32)), .unset, .unset] [(.ref a1)]))
  obtain ⟨cq1, kq1, q1a, q1b, q1c⟩ := isOf hZ e0 fsE
  obtain ⟨_, _, ⟨T1, L1, k1, n1⟩, -, X1, ⟨Lc1, hQ1, l1, y1, z1⟩, st1⟩ := X0.virtualBack hx (y := (⟨"com/example/changeset/changeset/check/FoundState", "number", "()I"⟩ : MethodName)) (z := (⟨"com/example/changeset/changeset/check/FoundState", "number", "()I"⟩ : MethodName)) hown (mvT hZ (hw _ (List.mem_of_getElem? (i := 122) rfl))) (mvT hZ (hw _ (List.mem_of_getElem? (i := 123) rfl))) (notFace_of_selects (args := #[]) (mvT hZ (hw _ (List.mem_of_getElem? (i := 125) rfl)))) (mvT hZ (hw _ (List.mem_of_getElem? (i := 125) rfl))) (mvT hZ (hw _ (List.mem_of_getElem? (i := 124) rfl))) (by decide) (backOf (W := 0) (rm17 l Z aZ hw [] a1 (-1 : Int32) h0 n0 Z0 fsN) hZ (hw _ (List.mem_of_getElem? (i := 126) rfl)) (hw _ (List.mem_of_getElem? (i := 107) rfl)) (by decide) (by decide)) q1a q1c (g := (mkF m 1 #[.val (.ref a0), .val (.ref a1), .val (.int (-1 : Int32)), .val (.int (-1 : Int32)), .unset, .unset] [(.ref a1)])) rfl (by rw [hml]; rfl) (Steps.refl _) (argsL := []) (rest := []) (lenOf pd_12 rfl) rfl (by show 2 * 0 + _ ≤ _; exact Nat.le_of_eq rfl) (hb hby d16_1) (fun _ _ => ⟨rfl, e0, (by decide : 0 + 0 ≤ _), (by decide : 0 + 0 ≤ _)⟩)
  dsimp only [Pt.U, Pt.locs, Pt.cells, Pt.slots] at X1 l1 y1 z1 st1 hQ1
  try dsimp only [Nat.reduceAdd] at y1 z1
  subst y1 z1
  obtain ⟨rfl, N1q, e1⟩ := hQ1
  have N1 : Fr n0 L1 := by rw [l1]; exact Fr.app N0 N1q
  refine .pre (fun _ kq => st1.trans kq) ?_
  show OwnEnds p e below _ (T1.setTop (mkF m 4 #[.val (.ref a0), .val (.ref a1), .val (.int (-1 : Int32)), .val (.int (-1 : Int32)), .unset, .unset] [(.int (-1 : Int32))]))
  have hc4 : ((-1 : Int32) < (0 : Int32)) := by decide
  refine .pre (fun _ kq => XS.ifNo X1.here hx rfl (hb hby d16_4) rfl ((if0 _ _).trans (tlt hc4).2.1) kq) ?_
  show OwnEnds p e below _ (T1.setTop (mkF m 7 #[.val (.ref a0), .val (.ref a1), .val (.int (-1 : Int32)), .val (.int (-1 : Int32)), .unset, .unset] []))
  refine .pre (fun _ kq => XS.iconst X1.here hx rfl (hb hby d16_7) kq) ?_
  show OwnEnds p e below _ (T1.setTop (mkF m 8 #[.val (.ref a0), .val (.ref a1), .val (.int (-1 : Int32)), .val (.int (-1 : Int32)), .unset, .unset] [(.int (1 : Int32))]))
  refine .pre (fun _ kq => XS.goto X1.here hx rfl (pc0 := 8) (pc' := 12) rfl (hb hby d16_8) (by decide) (by decide) kq) ?_
  show OwnEnds p e below _ (T1.setTop (mkF m 12 #[.val (.ref a0), .val (.ref a1), .val (.int (-1 : Int32)), .val (.int (-1 : Int32)), .unset, .unset] [(.int (1 : Int32))]))
  refine .pre (fun _ kq => XS.istore X1.here hx rfl (hb hby d16_12) rfl (l' := #[.val (.ref a0), .val (.ref a1), .val (.int (-1 : Int32)), .val (.int (-1 : Int32)), .val (.int (1 : Int32)), .unset]) rfl kq) ?_
  show OwnEnds p e below _ (T1.setTop (mkF m 14 #[.val (.ref a0), .val (.ref a1), .val (.int (-1 : Int32)), .val (.int (-1 : Int32)), .val (.int (1 : Int32)), .unset] []))
  refine .pre (fun _ kq => XS.iload X1.here hx rfl (hb hby d16_14) rfl kq) ?_
  show OwnEnds p e below _ (T1.setTop (mkF m 16 #[.val (.ref a0), .val (.ref a1), .val (.int (-1 : Int32)), .val (.int (-1 : Int32)), .val (.int (1 : Int32)), .unset] [(.int (1 : Int32))]))
  have hc16 : ¬ ((1 : Int32) = (0 : Int32)) := by decide
  refine .pre (fun _ kq => XS.ifNo X1.here hx rfl (hb hby d16_16) rfl ((if0 _ _).trans (feq hc16).1) kq) ?_
  show OwnEnds p e below _ (T1.setTop (mkF m 19 #[.val (.ref a0), .val (.ref a1), .val (.int (-1 : Int32)), .val (.int (-1 : Int32)), .val (.int (1 : Int32)), .unset] []))
  refine .pre (fun _ kq => XS.aloadN X1.here hx rfl (hb hby d16_19) rfl rfl kq) ?_
  show OwnEnds p e below _ (T1.setTop (mkF m 20 #[.val (.ref a0), .val (.ref a1), .val (.int (-1 : Int32)), .val (.int (-1 : Int32)), .val (.int (1 : Int32)), .unset] [(.ref a0)]))
  obtain ⟨T2, X2, e2, st2⟩ := getF X1 hx hZ hown (host := "") (Or.inl (hw _ (List.mem_of_getElem? (i := 68) rfl))) Via.refl e1 G0 (g := (mkF m 20 #[.val (.ref a0), .val (.ref a1), .val (.int (-1 : Int32)), .val (.int (-1 : Int32)), .val (.int (1 : Int32)), .unset] [(.ref a0)])) rfl rfl (hb hby d16_20)
  refine .pre (fun _ kq => st2 _ kq) ?_
  show OwnEnds p e below _ (T2.setTop (mkF m 23 #[.val (.ref a0), .val (.ref a1), .val (.int (-1 : Int32)), .val (.int (-1 : Int32)), .val (.int (1 : Int32)), .unset] [(.ref aL)]))
  obtain ⟨cq3, kq3, q3a, q3b, q3c⟩ := isOf hZ e2 ELx
  obtain ⟨_, _, ⟨T3, L3, k3, n3⟩, -, X3, ⟨Lc3, hQ3, l3, y3, z3⟩, st3⟩ := X2.interfaceBack hx (xi := (⟨"java/util/List", "size", "()I"⟩ : MethodName)) (y := (⟨"java/util/ArrayList", "size", "()I"⟩ : MethodName)) hown (mvT hZ (hw _ (List.mem_of_getElem? (i := 127) rfl))) (mvT hZ (hw _ (List.mem_of_getElem? (i := 128) rfl))) (mvT hZ (hw _ (List.mem_of_getElem? (i := 129) rfl))) (mvT hZ (hw _ (List.mem_of_getElem? (i := 130) rfl))) (mvT hZ (hw _ (List.mem_of_getElem? (i := 131) rfl))) (mvT hZ (hw _ (List.mem_of_getElem? (i := 132) rfl))) (mvT hZ (hw _ (List.mem_of_getElem? (i := 133) rfl))) (mvT hZ (hw _ (List.mem_of_getElem? (i := 134) rfl))) (by decide) (backOf (W := 0) (rm18 l Z aZ hw [] aL (0 : Int32) h0 n0 Z0 Lx3) hZ (hw _ (List.mem_of_getElem? (i := 135) rfl)) (hw _ (List.mem_of_getElem? (i := 23) rfl)) (by decide) (by decide)) q3a q3b q3c (g := (mkF m 23 #[.val (.ref a0), .val (.ref a1), .val (.int (-1 : Int32)), .val (.int (-1 : Int32)), .val (.int (1 : Int32)), .unset] [(.ref aL)])) rfl (by rw [hml]; rfl) (Steps.refl _) (argsL := []) (rest := []) (lenOf pd_12 rfl) rfl (by show 2 * 0 + _ ≤ _; exact Nat.le_of_eq rfl) (hb hby d16_23) (fun _ _ => ⟨rfl, e2, (by decide : 0 + 0 ≤ _), (by decide : 0 + 0 ≤ _)⟩)
  dsimp only [Pt.U, Pt.locs, Pt.cells, Pt.slots] at X3 l3 y3 z3 st3 hQ3
  try dsimp only [Nat.reduceAdd] at y3 z3
  subst y3 z3
  obtain ⟨rfl, N3q, e3⟩ := hQ3
  have N3 : Fr n0 L3 := by rw [l3]; exact Fr.app N1 N3q
  refine .pre (fun _ kq => st3.trans kq) ?_
  show OwnEnds p e below _ (T3.setTop (mkF m 28 #[.val (.ref a0), .val (.ref a1), .val (.int (-1 : Int32)), .val (.int (-1 : Int32)), .val (.int (1 : Int32)), .unset] [(.int (0 : Int32))]))
  refine .pre (fun _ kq => XS.istore X3.here hx rfl (hb hby d16_28) rfl (l' := #[.val (.ref a0), .val (.ref a1), .val (.int (-1 : Int32)), .val (.int (-1 : Int32)), .val (.int (1 : Int32)), .val (.int (0 : Int32))]) rfl kq) ?_
  show OwnEnds p e below _ (T3.setTop (mkF m 30 #[.val (.ref a0), .val (.ref a1), .val (.int (-1 : Int32)), .val (.int (-1 : Int32)), .val (.int (1 : Int32)), .val (.int (0 : Int32))] []))
  refine .pre (fun _ kq => XS.iload X3.here hx rfl (hb hby d16_30) rfl kq) ?_
  show OwnEnds p e below _ (T3.setTop (mkF m 32 #[.val (.ref a0), .val (.ref a1), .val (.int (-1 : Int32)), .val (.int (-1 : Int32)), .val (.int (1 : Int32)), .val (.int (0 : Int32))] [(.int (0 : Int32))]))
  refine .pre (fun _ kq => XS.aloadN X3.here hx rfl (hb hby d16_32) rfl rfl kq) ?_
  show OwnEnds p e below _ (T3.setTop (mkF m 33 #[.val (.ref a0), .val (.ref a1), .val (.int (-1 : Int32)), .val (.int (-1 : Int32)), .val (.int (1 : Int32)), .val (.int (0 : Int32))] [(.ref a0), (.int (0 : Int32))]))
  obtain ⟨T4, X4, e4, st4⟩ := getF X3 hx hZ hown (host := "") (Or.inl (hw _ (List.mem_of_getElem? (i := 71) rfl))) Via.refl e3 G1 (g := (mkF m 33 #[.val (.ref a0), .val (.ref a1), .val (.int (-1 : Int32)), .val (.int (-1 : Int32)), .val (.int (1 : Int32)), .val (.int (0 : Int32))] [(.ref a0), (.int (0 : Int32))])) rfl rfl (hb hby d16_33)
  refine .pre (fun _ kq => st4 _ kq) ?_
  show OwnEnds p e below _ (T4.setTop (mkF m 36 #[.val (.ref a0), .val (.ref a1), .val (.int (-1 : Int32)), .val (.int (-1 : Int32)), .val (.int (1 : Int32)), .val (.int (0 : Int32))] [(.ref aP), (.int (0 : Int32))]))
  obtain ⟨cl5, Ar5, qs5, qh5⟩ := id AP
  refine .pre (fun _ kq => X4.arraylength hx (by rw [e4]; exact Ar5.1) (State.isArrayOf_alike hZ.alike Ar5.2.1) (g := (mkF m 36 #[.val (.ref a0), .val (.ref a1), .val (.int (-1 : Int32)), .val (.int (-1 : Int32)), .val (.int (1 : Int32)), .val (.int (0 : Int32))] [(.ref aP), (.int (0 : Int32))])) rfl rfl (hb hby d16_36) _ kq) ?_
  rw [own_len1024 qs5]
  show OwnEnds p e below _ (T4.setTop (mkF m 37 #[.val (.ref a0), .val (.ref a1), .val (.int (-1 : Int32)), .val (.int (-1 : Int32)), .val (.int (1 : Int32)), .val (.int (0 : Int32))] [(.int (1024 : Int32)), (.int (0 : Int32))]))
  have hc37 : ¬ ((0 : Int32) = (1024 : Int32)) := by decide
  refine .pre (fun _ kq => XS.icmpYes X4.here hx rfl (pc0 := 37) (pc' := 70) rfl (hb hby d16_37) rfl (feq hc37).2 (by decide) (by decide) kq) ?_
  show OwnEnds p e below _ (T4.setTop (mkF m 70 #[.val (.ref a0), .val (.ref a1), .val (.int (-1 : Int32)), .val (.int (-1 : Int32)), .val (.int (1 : Int32)), .val (.int (0 : Int32))] []))
  refine .pre (fun _ kq => XS.aloadN X4.here hx rfl (hb hby d16_70) rfl rfl kq) ?_
  show OwnEnds p e below _ (T4.setTop (mkF m 71 #[.val (.ref a0), .val (.ref a1), .val (.int (-1 : Int32)), .val (.int (-1 : Int32)), .val (.int (1 : Int32)), .val (.int (0 : Int32))] [(.ref a0)]))
  obtain ⟨T6, X6, e6, st6⟩ := getF X4 hx hZ hown (host := "") (Or.inl (hw _ (List.mem_of_getElem? (i := 79) rfl))) Via.refl e4 G4 (g := (mkF m 71 #[.val (.ref a0), .val (.ref a1), .val (.int (-1 : Int32)), .val (.int (-1 : Int32)), .val (.int (1 : Int32)), .val (.int (0 : Int32))] [(.ref a0)])) rfl rfl (hb hby d16_71)
  refine .pre (fun _ kq => st6 _ kq) ?_
  show OwnEnds p e below _ (T6.setTop (mkF m 74 #[.val (.ref a0), .val (.ref a1), .val (.int (-1 : Int32)), .val (.int (-1 : Int32)), .val (.int (1 : Int32)), .val (.int (0 : Int32))] [(.int (1 : Int32))]))
  have hc74 : ¬ ((1 : Int32) = (0 : Int32)) := by decide
  refine .pre (fun _ kq => XS.ifNo X6.here hx rfl (hb hby d16_74) rfl ((if0 _ _).trans (feq hc74).1) kq) ?_
  show OwnEnds p e below _ (T6.setTop (mkF m 77 #[.val (.ref a0), .val (.ref a1), .val (.int (-1 : Int32)), .val (.int (-1 : Int32)), .val (.int (1 : Int32)), .val (.int (0 : Int32))] []))
  refine .pre (fun _ kq => XS.iload X6.here hx rfl (hb hby d16_77) rfl kq) ?_
  show OwnEnds p e below _ (T6.setTop (mkF m 79 #[.val (.ref a0), .val (.ref a1), .val (.int (-1 : Int32)), .val (.int (-1 : Int32)), .val (.int (1 : Int32)), .val (.int (0 : Int32))] [(.int (0 : Int32))]))
  refine .pre (fun _ kq => XS.aloadN X6.here hx rfl (hb hby d16_79) rfl rfl kq) ?_
  show OwnEnds p e below _ (T6.setTop (mkF m 80 #[.val (.ref a0), .val (.ref a1), .val (.int (-1 : Int32)), .val (.int (-1 : Int32)), .val (.int (1 : Int32)), .val (.int (0 : Int32))] [(.ref a0), (.int (0 : Int32))]))
  obtain ⟨T7, X7, e7, st7⟩ := getF X6 hx hZ hown (host := "") (Or.inl (hw _ (List.mem_of_getElem? (i := 81) rfl))) Via.refl e6 G5 (g := (mkF m 80 #[.val (.ref a0), .val (.ref a1), .val (.int (-1 : Int32)), .val (.int (-1 : Int32)), .val (.int (1 : Int32)), .val (.int (0 : Int32))] [(.ref a0), (.int (0 : Int32))])) rfl rfl (hb hby d16_80)
  refine .pre (fun _ kq => st7 _ kq) ?_
  show OwnEnds p e below _ (T7.setTop (mkF m 83 #[.val (.ref a0), .val (.ref a1), .val (.int (-1 : Int32)), .val (.int (-1 : Int32)), .val (.int (1 : Int32)), .val (.int (0 : Int32))] [(.ref aF), (.int (0 : Int32))]))
  obtain ⟨cl8, Ar8, qs8, qh8⟩ := id AF
  refine .pre (fun _ kq => X7.arraylength hx (by rw [e7]; exact Ar8.1) (State.isArrayOf_alike hZ.alike Ar8.2.1) (g := (mkF m 83 #[.val (.ref a0), .val (.ref a1), .val (.int (-1 : Int32)), .val (.int (-1 : Int32)), .val (.int (1 : Int32)), .val (.int (0 : Int32))] [(.ref aF), (.int (0 : Int32))])) rfl rfl (hb hby d16_83) _ kq) ?_
  rw [own_len1024 qs8]
  show OwnEnds p e below _ (T7.setTop (mkF m 84 #[.val (.ref a0), .val (.ref a1), .val (.int (-1 : Int32)), .val (.int (-1 : Int32)), .val (.int (1 : Int32)), .val (.int (0 : Int32))] [(.int (1024 : Int32)), (.int (0 : Int32))]))
  have hc84 : ¬ ((0 : Int32) = (1024 : Int32)) := by decide
  refine .pre (fun _ kq => XS.icmpYes X7.here hx rfl (pc0 := 84) (pc' := 117) rfl (hb hby d16_84) rfl (feq hc84).2 (by decide) (by decide) kq) ?_
  show OwnEnds p e below _ (T7.setTop (mkF m 117 #[.val (.ref a0), .val (.ref a1), .val (.int (-1 : Int32)), .val (.int (-1 : Int32)), .val (.int (1 : Int32)), .val (.int (0 : Int32))] []))
  refine .pre (fun _ kq => XS.aloadN X7.here hx rfl (hb hby d16_117) rfl rfl kq) ?_
  show OwnEnds p e below _ (T7.setTop (mkF m 118 #[.val (.ref a0), .val (.ref a1), .val (.int (-1 : Int32)), .val (.int (-1 : Int32)), .val (.int (1 : Int32)), .val (.int (0 : Int32))] [(.ref a0)]))
  obtain ⟨T9, X9, e9, st9⟩ := getF X7 hx hZ hown (host := "") (Or.inl (hw _ (List.mem_of_getElem? (i := 68) rfl))) Via.refl e7 G0 (g := (mkF m 118 #[.val (.ref a0), .val (.ref a1), .val (.int (-1 : Int32)), .val (.int (-1 : Int32)), .val (.int (1 : Int32)), .val (.int (0 : Int32))] [(.ref a0)])) rfl rfl (hb hby d16_118)
  refine .pre (fun _ kq => st9 _ kq) ?_
  show OwnEnds p e below _ (T9.setTop (mkF m 121 #[.val (.ref a0), .val (.ref a1), .val (.int (-1 : Int32)), .val (.int (-1 : Int32)), .val (.int (1 : Int32)), .val (.int (0 : Int32))] [(.ref aL)]))
  refine .pre (fun _ kq => XS.aloadN X9.here hx rfl (hb hby d16_121) rfl rfl kq) ?_
  show OwnEnds p e below _ (T9.setTop (mkF m 122 #[.val (.ref a0), .val (.ref a1), .val (.int (-1 : Int32)), .val (.int (-1 : Int32)), .val (.int (1 : Int32)), .val (.int (0 : Int32))] [(.ref a1), (.ref aL)]))
  obtain ⟨cq10, kq10, q10a, q10b, q10c⟩ := isOf hZ e9 fsE
  obtain ⟨_, _, ⟨T10, L10, k10, n10⟩, -, X10, ⟨Lc10, hQ10, l10, y10, z10⟩, st10⟩ := X9.virtualBack hx (y := (⟨"com/example/changeset/changeset/check/FoundState", "state", "()Lcom/example/changeset/changeset/check/State;"⟩ : MethodName)) (z := (⟨"com/example/changeset/changeset/check/FoundState", "state", "()Lcom/example/changeset/changeset/check/State;"⟩ : MethodName)) hown (mvT hZ (hw _ (List.mem_of_getElem? (i := 138) rfl))) (mvT hZ (hw _ (List.mem_of_getElem? (i := 139) rfl))) (notFace_of_selects (args := #[]) (mvT hZ (hw _ (List.mem_of_getElem? (i := 141) rfl)))) (mvT hZ (hw _ (List.mem_of_getElem? (i := 141) rfl))) (mvT hZ (hw _ (List.mem_of_getElem? (i := 140) rfl))) (by decide) (backOf (W := 1) (rm19 l Z aZ hw [] a1 w0 h0 n0 Z0 fsS) hZ (hw _ (List.mem_of_getElem? (i := 142) rfl)) (hw _ (List.mem_of_getElem? (i := 107) rfl)) (by decide) (by decide)) q10a q10c (g := (mkF m 122 #[.val (.ref a0), .val (.ref a1), .val (.int (-1 : Int32)), .val (.int (-1 : Int32)), .val (.int (1 : Int32)), .val (.int (0 : Int32))] [(.ref a1), (.ref aL)])) rfl (by rw [hml]; rfl) (Steps.refl _) (argsL := []) (rest := [(.ref aL)]) (lenOf pd_13 rfl) rfl (by show 2 * 0 + _ ≤ _; exact Nat.le_of_eq rfl) (hb hby d16_122) (fun _ _ => ⟨rfl, e9, (by decide : 0 + 0 ≤ _), (by decide : 0 + 0 ≤ _)⟩)
  dsimp only [Pt.U, Pt.locs, Pt.cells, Pt.slots] at X10 l10 y10 z10 st10 hQ10
  try dsimp only [Nat.reduceAdd] at y10 z10
  subst y10 z10
  obtain ⟨rfl, N10q, e10⟩ := hQ10
  have N10 : Fr n0 L10 := by rw [l10]; exact Fr.app N3 N10q
  refine .pre (fun _ kq => st10.trans kq) ?_
  show OwnEnds p e below _ (T10.setTop (mkF m 125 #[.val (.ref a0), .val (.ref a1), .val (.int (-1 : Int32)), .val (.int (-1 : Int32)), .val (.int (1 : Int32)), .val (.int (0 : Int32))] [(.ref w0), (.ref aL)]))
  obtain ⟨cq11, kq11, q11a, q11b, q11c⟩ := isOf hZ e10 ELx
  obtain ⟨_, _, ⟨T11, L11, k11, n11⟩, -, X11, ⟨Lc11, hQ11, l11, y11, z11⟩, st11⟩ := X10.interfaceBack hx (xi := (⟨"java/util/List", "add", "(Ljava/lang/Object;)Z"⟩ : MethodName)) (y := (⟨"java/util/ArrayList", "add", "(Ljava/lang/Object;)Z"⟩ : MethodName)) hown (mvT hZ (hw _ (List.mem_of_getElem? (i := 143) rfl))) (mvT hZ (hw _ (List.mem_of_getElem? (i := 144) rfl))) (mvT hZ (hw _ (List.mem_of_getElem? (i := 145) rfl))) (mvT hZ (hw _ (List.mem_of_getElem? (i := 146) rfl))) (mvT hZ (hw _ (List.mem_of_getElem? (i := 147) rfl))) (mvT hZ (hw _ (List.mem_of_getElem? (i := 148) rfl))) (mvT hZ (hw _ (List.mem_of_getElem? (i := 149) rfl))) (mvT hZ (hw _ (List.mem_of_getElem? (i := 134) rfl))) (by decide) (backOf (W := 0) (rm20A l Z aZ hw [] aL w0 xD mc h0 n0 Z0 SD ELx Lx1 Lx2 Lx3 RDx (own_nd D 1 9 rfl rfl (by decide)) g_aL IS) hZ (hw _ (List.mem_of_getElem? (i := 150) rfl)) (hw _ (List.mem_of_getElem? (i := 23) rfl)) (by decide) (by decide)) q11a q11b q11c (g := (mkF m 125 #[.val (.ref a0), .val (.ref a1), .val (.int (-1 : Int32)), .val (.int (-1 : Int32)), .val (.int (1 : Int32)), .val (.int (0 : Int32))] [(.ref w0), (.ref aL)])) rfl (by rw [hml]; rfl) (Steps.refl _) (argsL := [(.ref w0)]) (rest := []) (lenOf pd_14 rfl) rfl (by show 2 * 0 + _ ≤ _; exact Nat.le_of_eq rfl) (hb hby d16_125) (fun _ _ => ⟨rfl, e10, (by decide : 0 + 1 ≤ _), (by decide : 0 + 10 ≤ _)⟩)
  dsimp only [Pt.U, Pt.locs, Pt.cells, Pt.slots] at X11 l11 y11 z11 st11 hQ11
  try dsimp only [Nat.reduceAdd] at y11 z11
  subst y11 z11
  obtain ⟨r11, rfl, N11q, K11, szq11, Lq11_0, ⟨mcq11, Lq11_1⟩, Lq11_2, Lq11_3, Lq11_4⟩ := hQ11
  have N11 : Fr n0 L11 := by rw [l11]; exact Fr.app N10 N11q
  refine .pre (fun _ kq => st11.trans kq) ?_
  have g_r11 : n0 ≤ r11 := Nat.le_trans Z0 szq11
  have sz_r11 : h0.size ≤ r11 := Nat.le_trans (Keep.refl h0 [a0, aL, aP, aR, a1]).1 szq11
  have Kp11 : Keep h0 T11.heap [a0, aL, aP, aR, a1] := (Keep.refl h0 [a0, aL, aP, aR, a1]).trans K11 (allS (Or.inl (List.mem_of_getElem? (i := 1) rfl)) all0)
  show OwnEnds p e below _ (T11.setTop (mkF m 130 #[.val (.ref a0), .val (.ref a1), .val (.int (-1 : Int32)), .val (.int (-1 : Int32)), .val (.int (1 : Int32)), .val (.int (0 : Int32))] [(.int (1 : Int32))]))
  refine .pre (fun _ kq => XS.pop X11.here hx rfl (hb hby d16_130) rfl rfl kq) ?_
  show OwnEnds p e below _ (T11.setTop (mkF m 131 #[.val (.ref a0), .val (.ref a1), .val (.int (-1 : Int32)), .val (.int (-1 : Int32)), .val (.int (1 : Int32)), .val (.int (0 : Int32))] []))
  refine .pre (fun _ kq => XS.aloadN X11.here hx rfl (hb hby d16_131) rfl rfl kq) ?_
  show OwnEnds p e below _ (T11.setTop (mkF m 132 #[.val (.ref a0), .val (.ref a1), .val (.int (-1 : Int32)), .val (.int (-1 : Int32)), .val (.int (1 : Int32)), .val (.int (0 : Int32))] [(.ref a0)]))
  obtain ⟨T12, X12, e12, st12⟩ := getF X11 hx hZ hown (host := "") (Or.inl (hw _ (List.mem_of_getElem? (i := 71) rfl))) Via.refl rfl (G1.keep K11 (own_nin1 (own_nd D 0 1 rfl rfl (by decide)))) (g := (mkF m 132 #[.val (.ref a0), .val (.ref a1), .val (.int (-1 : Int32)), .val (.int (-1 : Int32)), .val (.int (1 : Int32)), .val (.int (0 : Int32))] [(.ref a0)])) rfl rfl (hb hby d16_132)
  refine .pre (fun _ kq => st12 _ kq) ?_
  show OwnEnds p e below _ (T12.setTop (mkF m 135 #[.val (.ref a0), .val (.ref a1), .val (.int (-1 : Int32)), .val (.int (-1 : Int32)), .val (.int (1 : Int32)), .val (.int (0 : Int32))] [(.ref aP)]))
  refine .pre (fun _ kq => XS.iload X12.here hx rfl (hb hby d16_135) rfl kq) ?_
  show OwnEnds p e below _ (T12.setTop (mkF m 137 #[.val (.ref a0), .val (.ref a1), .val (.int (-1 : Int32)), .val (.int (-1 : Int32)), .val (.int (1 : Int32)), .val (.int (0 : Int32))] [(.int (0 : Int32)), (.ref aP)]))
  refine .pre (fun _ kq => XS.iloadN X12.here hx rfl (hb hby d16_137) rfl kq) ?_
  show OwnEnds p e below _ (T12.setTop (mkF m 138 #[.val (.ref a0), .val (.ref a1), .val (.int (-1 : Int32)), .val (.int (-1 : Int32)), .val (.int (1 : Int32)), .val (.int (0 : Int32))] [(.int (-1 : Int32)), (.int (0 : Int32)), (.ref aP)]))
  obtain ⟨cl13, Ar13, qs13, qh13⟩ := id (AP.keep K11 (own_nin1 (Ne.symm (own_nd D 1 2 rfl rfl (by decide)))))
  have hj13 : 0 ≤ ((0 : Int32)).toInt ∧ ((0 : Int32)).toInt < 1024 := by decide
  obtain ⟨T13, h13, X13, e13, W13, st13⟩ := stI X12 hx hZ e12 Ar13 (j := (0 : Int32)) (own_in1024 qs13 hj13) (g := (mkF m 138 #[.val (.ref a0), .val (.ref a1), .val (.int (-1 : Int32)), .val (.int (-1 : Int32)), .val (.int (1 : Int32)), .val (.int (0 : Int32))] [(.int (-1 : Int32)), (.int (0 : Int32)), (.ref aP)])) rfl rfl (hb hby d16_138)
  have V13 : OwnA Z h13 aP (own_upd fP ((0 : Int32)).toNatClampNeg (-1 : Int32)) := OwnA.set Ar13 qs13 qh13 W13
  have N13 := Fr.snoc X13 N11 g_aP
  have Kp13 : Keep h0 h13 [a0, aL, aP, aR, a1] := Kp11.wr W13 (Or.inl (List.mem_of_getElem? (i := 2) rfl))
  refine .pre (fun _ kq => st13 _ kq) ?_
  show OwnEnds p e below _ (T13.setTop (mkF m 139 #[.val (.ref a0), .val (.ref a1), .val (.int (-1 : Int32)), .val (.int (-1 : Int32)), .val (.int (1 : Int32)), .val (.int (0 : Int32))] []))
  refine .pre (fun _ kq => XS.aloadN X13.here hx rfl (hb hby d16_139) rfl rfl kq) ?_
  show OwnEnds p e below _ (T13.setTop (mkF m 140 #[.val (.ref a0), .val (.ref a1), .val (.int (-1 : Int32)), .val (.int (-1 : Int32)), .val (.int (1 : Int32)), .val (.int (0 : Int32))] [(.ref a0)]))
  obtain ⟨T14, X14, e14, st14⟩ := getF X13 hx hZ hown (host := "") (Or.inl (hw _ (List.mem_of_getElem? (i := 73) rfl))) Via.refl e13 ((G2.keep K11 (own_nin1 (own_nd D 0 1 rfl rfl (by decide)))).other W13 (Or.inl (own_nd D 0 2 rfl rfl (by decide)))) (g := (mkF m 140 #[.val (.ref a0), .val (.ref a1), .val (.int (-1 : Int32)), .val (.int (-1 : Int32)), .val (.int (1 : Int32)), .val (.int (0 : Int32))] [(.ref a0)])) rfl rfl (hb hby d16_140)
  refine .pre (fun _ kq => st14 _ kq) ?_
  show OwnEnds p e below _ (T14.setTop (mkF m 143 #[.val (.ref a0), .val (.ref a1), .val (.int (-1 : Int32)), .val (.int (-1 : Int32)), .val (.int (1 : Int32)), .val (.int (0 : Int32))] [(.ref aR)]))
  refine .pre (fun _ kq => XS.iload X14.here hx rfl (hb hby d16_143) rfl kq) ?_
  show OwnEnds p e below _ (T14.setTop (mkF m 145 #[.val (.ref a0), .val (.ref a1), .val (.int (-1 : Int32)), .val (.int (-1 : Int32)), .val (.int (1 : Int32)), .val (.int (0 : Int32))] [(.int (0 : Int32)), (.ref aR)]))
  refine .pre (fun _ kq => XS.iloadN X14.here hx rfl (hb hby d16_145) rfl kq) ?_
  show OwnEnds p e below _ (T14.setTop (mkF m 146 #[.val (.ref a0), .val (.ref a1), .val (.int (-1 : Int32)), .val (.int (-1 : Int32)), .val (.int (1 : Int32)), .val (.int (0 : Int32))] [(.int (-1 : Int32)), (.int (0 : Int32)), (.ref aR)]))
  obtain ⟨cl15, Ar15, qs15, qh15⟩ := id ((AR.keep K11 (own_nin1 (Ne.symm (own_nd D 1 3 rfl rfl (by decide))))).other W13 (Ne.symm (own_nd D 2 3 rfl rfl (by decide))))
  have hj15 : 0 ≤ ((0 : Int32)).toInt ∧ ((0 : Int32)).toInt < 1024 := by decide
  obtain ⟨T15, h15, X15, e15, W15, st15⟩ := stI X14 hx hZ e14 Ar15 (j := (0 : Int32)) (own_in1024 qs15 hj15) (g := (mkF m 146 #[.val (.ref a0), .val (.ref a1), .val (.int (-1 : Int32)), .val (.int (-1 : Int32)), .val (.int (1 : Int32)), .val (.int (0 : Int32))] [(.int (-1 : Int32)), (.int (0 : Int32)), (.ref aR)])) rfl rfl (hb hby d16_146)
  have V15 : OwnA Z h15 aR (own_upd fR ((0 : Int32)).toNatClampNeg (-1 : Int32)) := OwnA.set Ar15 qs15 qh15 W15
  have N15 := Fr.snoc X15 N13 g_aR
  have Kp15 : Keep h0 h15 [a0, aL, aP, aR, a1] := Kp13.wr W15 (Or.inl (List.mem_of_getElem? (i := 3) rfl))
  refine .pre (fun _ kq => st15 _ kq) ?_
  show OwnEnds p e below _ (T15.setTop (mkF m 147 #[.val (.ref a0), .val (.ref a1), .val (.int (-1 : Int32)), .val (.int (-1 : Int32)), .val (.int (1 : Int32)), .val (.int (0 : Int32))] []))
  refine .pre (fun _ kq => XS.aloadN X15.here hx rfl (hb hby d16_147) rfl rfl kq) ?_
  show OwnEnds p e below _ (T15.setTop (mkF m 148 #[.val (.ref a0), .val (.ref a1), .val (.int (-1 : Int32)), .val (.int (-1 : Int32)), .val (.int (1 : Int32)), .val (.int (0 : Int32))] [(.ref a0)]))
  refine .pre (fun _ kq => XS.dup X15.here hx rfl (hb hby d16_148) rfl rfl kq) ?_
  show OwnEnds p e below _ (T15.setTop (mkF m 149 #[.val (.ref a0), .val (.ref a1), .val (.int (-1 : Int32)), .val (.int (-1 : Int32)), .val (.int (1 : Int32)), .val (.int (0 : Int32))] [(.ref a0), (.ref a0)]))
  obtain ⟨T16, X16, e16, st16⟩ := getF X15 hx hZ hown (host := "") (Or.inl (hw _ (List.mem_of_getElem? (i := 172) rfl))) Via.refl e15 (((G9.keep K11 (own_nin1 (own_nd D 0 1 rfl rfl (by decide)))).other W13 (Or.inl (own_nd D 0 2 rfl rfl (by decide)))).other W15 (Or.inl (own_nd D 0 3 rfl rfl (by decide)))) (g := (mkF m 149 #[.val (.ref a0), .val (.ref a1), .val (.int (-1 : Int32)), .val (.int (-1 : Int32)), .val (.int (1 : Int32)), .val (.int (0 : Int32))] [(.ref a0), (.ref a0)])) rfl rfl (hb hby d16_149)
  refine .pre (fun _ kq => st16 _ kq) ?_
  show OwnEnds p e below _ (T16.setTop (mkF m 152 #[.val (.ref a0), .val (.ref a1), .val (.int (-1 : Int32)), .val (.int (-1 : Int32)), .val (.int (1 : Int32)), .val (.int (0 : Int32))] [(.int ini), (.ref a0)]))
  refine .pre (fun _ kq => XS.iloadN X16.here hx rfl (hb hby d16_152) rfl kq) ?_
  show OwnEnds p e below _ (T16.setTop (mkF m 153 #[.val (.ref a0), .val (.ref a1), .val (.int (-1 : Int32)), .val (.int (-1 : Int32)), .val (.int (1 : Int32)), .val (.int (0 : Int32))] [(.int (-1 : Int32)), (.int ini), (.ref a0)]))
  have hc153 : ((-1 : Int32) < (0 : Int32)) := by decide
  refine .pre (fun _ kq => XS.ifNo X16.here hx rfl (hb hby d16_153) rfl ((if0 _ _).trans (tlt hc153).2.1) kq) ?_
  show OwnEnds p e below _ (T16.setTop (mkF m 156 #[.val (.ref a0), .val (.ref a1), .val (.int (-1 : Int32)), .val (.int (-1 : Int32)), .val (.int (1 : Int32)), .val (.int (0 : Int32))] [(.int ini), (.ref a0)]))
  refine .pre (fun _ kq => XS.iconst X16.here hx rfl (hb hby d16_156) kq) ?_
  show OwnEnds p e below _ (T16.setTop (mkF m 157 #[.val (.ref a0), .val (.ref a1), .val (.int (-1 : Int32)), .val (.int (-1 : Int32)), .val (.int (1 : Int32)), .val (.int (0 : Int32))] [(.int (1 : Int32)), (.int ini), (.ref a0)]))
  refine .pre (fun _ kq => XS.goto X16.here hx rfl (pc0 := 157) (pc' := 161) rfl (hb hby d16_157) (by decide) (by decide) kq) ?_
  show OwnEnds p e below _ (T16.setTop (mkF m 161 #[.val (.ref a0), .val (.ref a1), .val (.int (-1 : Int32)), .val (.int (-1 : Int32)), .val (.int (1 : Int32)), .val (.int (0 : Int32))] [(.int (1 : Int32)), (.int ini), (.ref a0)]))
  refine .pre (fun _ kq => XS.iadd X16.here hx rfl (hb hby d16_161) rfl kq) ?_
  show OwnEnds p e below _ (T16.setTop (mkF m 162 #[.val (.ref a0), .val (.ref a1), .val (.int (-1 : Int32)), .val (.int (-1 : Int32)), .val (.int (1 : Int32)), .val (.int (0 : Int32))] [(.int (ini + (1 : Int32))), (.ref a0)]))
  obtain ⟨T17, h17, X17, e17, W17, st17⟩ := putF X16 hx hZ hown (host := "") (Or.inl (hw _ (List.mem_of_getElem? (i := 172) rfl))) Via.refl e16 (((G9.keep K11 (own_nin1 (own_nd D 0 1 rfl rfl (by decide)))).other W13 (Or.inl (own_nd D 0 2 rfl rfl (by decide)))).other W15 (Or.inl (own_nd D 0 3 rfl rfl (by decide)))) (((EG.keep K11).wr W13).wr W15) (Or.inl (hw _ (List.mem_of_getElem? (i := 173) rfl))) (hw _ (List.mem_of_getElem? (i := 19) rfl)) (ty := .int) (by decide) rfl rfl (g := (mkF m 162 #[.val (.ref a0), .val (.ref a1), .val (.int (-1 : Int32)), .val (.int (-1 : Int32)), .val (.int (1 : Int32)), .val (.int (0 : Int32))] [(.int (ini + (1 : Int32))), (.ref a0)])) rfl rfl (hb hby d16_162)
  have Fw17 := (((G9.keep K11 (own_nin1 (own_nd D 0 1 rfl rfl (by decide)))).other W13 (Or.inl (own_nd D 0 2 rfl rfl (by decide)))).other W15 (Or.inl (own_nd D 0 3 rfl rfl (by decide)))).same W17
  have N17 := Fr.snoc X17 N15 g_a0
  have Kp17 : Keep h0 h17 [a0, aL, aP, aR, a1] := Kp15.wr W17 (Or.inl (List.mem_of_getElem? (i := 0) rfl))
  refine .pre (fun _ kq => st17 _ kq) ?_
  show OwnEnds p e below _ (T17.setTop (mkF m 165 #[.val (.ref a0), .val (.ref a1), .val (.int (-1 : Int32)), .val (.int (-1 : Int32)), .val (.int (1 : Int32)), .val (.int (0 : Int32))] []))
  refine .pre (fun _ kq => XS.aloadN X17.here hx rfl (hb hby d16_165) rfl rfl kq) ?_
  show OwnEnds p e below _ (T17.setTop (mkF m 166 #[.val (.ref a0), .val (.ref a1), .val (.int (-1 : Int32)), .val (.int (-1 : Int32)), .val (.int (1 : Int32)), .val (.int (0 : Int32))] [(.ref a1)]))
  refine .pre (fun _ kq => XS.iload X17.here hx rfl (hb hby d16_166) rfl kq) ?_
  show OwnEnds p e below _ (T17.setTop (mkF m 168 #[.val (.ref a0), .val (.ref a1), .val (.int (-1 : Int32)), .val (.int (-1 : Int32)), .val (.int (1 : Int32)), .val (.int (0 : Int32))] [(.int (0 : Int32)), (.ref a1)]))
  obtain ⟨cq18, kq18, q18a, q18b, q18c⟩ := isOf hZ e17 ((((fsE.keep K11).wr W13).wr W15).wr W17)
  obtain ⟨_, _, ⟨T18, L18, k18, n18⟩, -, X18, ⟨Lc18, hQ18, l18, y18, z18⟩, st18⟩ := X17.virtualBack hx (y := (⟨"com/example/changeset/changeset/check/FoundState", "number", "(I)V"⟩ : MethodName)) (z := (⟨"com/example/changeset/changeset/check/FoundState", "number", "(I)V"⟩ : MethodName)) hown (mvT hZ (hw _ (List.mem_of_getElem? (i := 174) rfl))) (mvT hZ (hw _ (List.mem_of_getElem? (i := 175) rfl))) (notFace_of_selects (args := #[]) (mvT hZ (hw _ (List.mem_of_getElem? (i := 177) rfl)))) (mvT hZ (hw _ (List.mem_of_getElem? (i := 177) rfl))) (mvT hZ (hw _ (List.mem_of_getElem? (i := 176) rfl))) (by decide) (backOf (W := 0) (rm24 l Z aZ hw [] a1 (0 : Int32) (.int (-1 : Int32)) (.ref w0) h17 n0 (Nat.le_trans (Nat.le_trans (Nat.le_trans (Nat.le_trans Z0 K11.1) (Keep.of_wr W13).1) (Keep.of_wr W15).1) (Keep.of_wr W17).1) g_a1 ((((fsE.keep K11).wr W13).wr W15).wr W17) ((((fsN.keep K11 (own_nin1 (Ne.symm (own_nd D 1 8 rfl rfl (by decide))))).other W13 (Or.inl (Ne.symm (own_nd D 2 8 rfl rfl (by decide))))).other W15 (Or.inl (Ne.symm (own_nd D 3 8 rfl rfl (by decide))))).other W17 (Or.inl (Ne.symm (own_nd D 0 8 rfl rfl (by decide))))) ((((fsS.keep K11 (own_nin1 (Ne.symm (own_nd D 1 8 rfl rfl (by decide))))).other W13 (Or.inl (Ne.symm (own_nd D 2 8 rfl rfl (by decide))))).other W15 (Or.inl (Ne.symm (own_nd D 3 8 rfl rfl (by decide))))).other W17 (Or.inl (Ne.symm (own_nd D 0 8 rfl rfl (by decide)))))) hZ (hw _ (List.mem_of_getElem? (i := 178) rfl)) (hw _ (List.mem_of_getElem? (i := 107) rfl)) (by decide) (by decide)) q18a q18c (g := (mkF m 168 #[.val (.ref a0), .val (.ref a1), .val (.int (-1 : Int32)), .val (.int (-1 : Int32)), .val (.int (1 : Int32)), .val (.int (0 : Int32))] [(.int (0 : Int32)), (.ref a1)])) rfl (by rw [hml]; rfl) (Steps.refl _) (argsL := [(.int (0 : Int32))]) (rest := []) (lenOf pd_15 rfl) rfl (by show 2 * 0 + _ ≤ _; exact Nat.le_of_eq rfl) (hb hby d16_168) (fun _ _ => ⟨rfl, e17, (by decide : 1 + 0 ≤ _), (by decide : 10 + 0 ≤ _)⟩)
  dsimp only [Pt.U, Pt.locs, Pt.cells, Pt.slots] at X18 l18 y18 z18 st18 hQ18
  try dsimp only [Nat.reduceAdd] at y18 z18
  subst y18 z18
  obtain ⟨rfl, N18q, K18, Ea18, Fa18_0, Fa18_1⟩ := hQ18
  have N18 : Fr n0 L18 := by rw [l18]; exact Fr.app N17 N18q
  refine .pre (fun _ kq => st18.trans kq) ?_
  have Kp18 : Keep h0 T18.heap [a0, aL, aP, aR, a1] := Kp17.trans K18 (allS (Or.inl (List.mem_of_getElem? (i := 4) rfl)) all0)
  show OwnEnds p e below _ (T18.setTop (mkF m 171 #[.val (.ref a0), .val (.ref a1), .val (.int (-1 : Int32)), .val (.int (-1 : Int32)), .val (.int (1 : Int32)), .val (.int (0 : Int32))] []))
  refine .pre (fun _ kq => XS.aloadN X18.here hx rfl (hb hby d16_171) rfl rfl kq) ?_
  show OwnEnds p e below _ (T18.setTop (mkF m 172 #[.val (.ref a0), .val (.ref a1), .val (.int (-1 : Int32)), .val (.int (-1 : Int32)), .val (.int (1 : Int32)), .val (.int (0 : Int32))] [(.ref a0)]))
  obtain ⟨T19, X19, e19, st19⟩ := getF X18 hx hZ hown (host := "") (Or.inl (hw _ (List.mem_of_getElem? (i := 79) rfl))) Via.refl rfl (((((G4.keep K11 (own_nin1 (own_nd D 0 1 rfl rfl (by decide)))).other W13 (Or.inl (own_nd D 0 2 rfl rfl (by decide)))).other W15 (Or.inl (own_nd D 0 3 rfl rfl (by decide)))).other W17 (Or.inr (slot_ne (Or.inr (hw _ (List.mem_of_getElem? (i := 80) rfl))) (Or.inl (hw _ (List.mem_of_getElem? (i := 173) rfl))) (by decide) (t := .boolean) (t' := .int) (by decide) (by decide)))).keep K18 (own_nin1 (own_nd D 0 8 rfl rfl (by decide)))) (g := (mkF m 172 #[.val (.ref a0), .val (.ref a1), .val (.int (-1 : Int32)), .val (.int (-1 : Int32)), .val (.int (1 : Int32)), .val (.int (0 : Int32))] [(.ref a0)])) rfl rfl (hb hby d16_172)
  refine .pre (fun _ kq => st19 _ kq) ?_
  show OwnEnds p e below _ (T19.setTop (mkF m 175 #[.val (.ref a0), .val (.ref a1), .val (.int (-1 : Int32)), .val (.int (-1 : Int32)), .val (.int (1 : Int32)), .val (.int (0 : Int32))] [(.int (1 : Int32))]))
  have hc175 : ¬ ((1 : Int32) = (0 : Int32)) := by decide
  refine .pre (fun _ kq => XS.ifNo X19.here hx rfl (hb hby d16_175) rfl ((if0 _ _).trans (feq hc175).1) kq) ?_
  show OwnEnds p e below _ (T19.setTop (mkF m 178 #[.val (.ref a0), .val (.ref a1), .val (.int (-1 : Int32)), .val (.int (-1 : Int32)), .val (.int (1 : Int32)), .val (.int (0 : Int32))] []))
  refine .pre (fun _ kq => XS.iloadN X19.here hx rfl (hb hby d16_178) rfl kq) ?_
  show OwnEnds p e below _ (T19.setTop (mkF m 179 #[.val (.ref a0), .val (.ref a1), .val (.int (-1 : Int32)), .val (.int (-1 : Int32)), .val (.int (1 : Int32)), .val (.int (0 : Int32))] [(.int (-1 : Int32))]))
  have hc179 : ((-1 : Int32) < (0 : Int32)) := by decide
  refine .pre (fun _ kq => XS.ifYes X19.here hx rfl (pc0 := 179) (pc' := 192) rfl (hb hby d16_179) rfl ((if0 _ _).trans (tlt hc179).1) (by decide) (by decide) kq) ?_
  show OwnEnds p e below _ (T19.setTop (mkF m 192 #[.val (.ref a0), .val (.ref a1), .val (.int (-1 : Int32)), .val (.int (-1 : Int32)), .val (.int (1 : Int32)), .val (.int (0 : Int32))] []))
  refine .pre (fun _ kq => XS.iload X19.here hx rfl (hb hby d16_192) rfl kq) ?_
  show OwnEnds p e below _ (T19.setTop (mkF m 194 #[.val (.ref a0), .val (.ref a1), .val (.int (-1 : Int32)), .val (.int (-1 : Int32)), .val (.int (1 : Int32)), .val (.int (0 : Int32))] [(.int (1 : Int32))]))
  exact own_endN X19 hx hlk (t := .boolean) Bd.returns (by simp) (hb hby d16_194) rfl (by decide) (by decide) ⟨_, rfl, N18, (by rw [e19]; exact Kp18), sz_r11, ⟨(by rw [e19]; exact (((((EG.keep K11).wr W13).wr W15).wr W17).keep K18)), (by rw [e19]; exact (((((G0.keep K11 (own_nin1 (own_nd D 0 1 rfl rfl (by decide)))).other W13 (Or.inl (own_nd D 0 2 rfl rfl (by decide)))).other W15 (Or.inl (own_nd D 0 3 rfl rfl (by decide)))).other W17 (Or.inr (slot_ne (Or.inr (hw _ (List.mem_of_getElem? (i := 69) rfl))) (Or.inl (hw _ (List.mem_of_getElem? (i := 173) rfl))) (by decide) (t := (.object "java/util/List")) (t' := .int) (by decide) (by decide)))).keep K18 (own_nin1 (own_nd D 0 8 rfl rfl (by decide))))), (by rw [e19]; exact (((((G1.keep K11 (own_nin1 (own_nd D 0 1 rfl rfl (by decide)))).other W13 (Or.inl (own_nd D 0 2 rfl rfl (by decide)))).other W15 (Or.inl (own_nd D 0 3 rfl rfl (by decide)))).other W17 (Or.inr (slot_ne (Or.inl (hw _ (List.mem_of_getElem? (i := 72) rfl))) (Or.inl (hw _ (List.mem_of_getElem? (i := 173) rfl))) (by decide) (t := (.array .int)) (t' := .int) (by decide) (by decide)))).keep K18 (own_nin1 (own_nd D 0 8 rfl rfl (by decide))))), (by rw [e19]; exact (((((G2.keep K11 (own_nin1 (own_nd D 0 1 rfl rfl (by decide)))).other W13 (Or.inl (own_nd D 0 2 rfl rfl (by decide)))).other W15 (Or.inl (own_nd D 0 3 rfl rfl (by decide)))).other W17 (Or.inr (slot_ne (Or.inl (hw _ (List.mem_of_getElem? (i := 74) rfl))) (Or.inl (hw _ (List.mem_of_getElem? (i := 173) rfl))) (by decide) (t := (.array .int)) (t' := .int) (by decide) (by decide)))).keep K18 (own_nin1 (own_nd D 0 8 rfl rfl (by decide))))), (by rw [e19]; exact (((((G3.keep K11 (own_nin1 (own_nd D 0 1 rfl rfl (by decide)))).other W13 (Or.inl (own_nd D 0 2 rfl rfl (by decide)))).other W15 (Or.inl (own_nd D 0 3 rfl rfl (by decide)))).other W17 (Or.inr (slot_ne (Or.inl (hw _ (List.mem_of_getElem? (i := 76) rfl))) (Or.inl (hw _ (List.mem_of_getElem? (i := 173) rfl))) (by decide) (t := .int) (t' := .int) (by decide) (by decide)))).keep K18 (own_nin1 (own_nd D 0 8 rfl rfl (by decide))))), (by rw [e19]; exact (((((G4.keep K11 (own_nin1 (own_nd D 0 1 rfl rfl (by decide)))).other W13 (Or.inl (own_nd D 0 2 rfl rfl (by decide)))).other W15 (Or.inl (own_nd D 0 3 rfl rfl (by decide)))).other W17 (Or.inr (slot_ne (Or.inr (hw _ (List.mem_of_getElem? (i := 80) rfl))) (Or.inl (hw _ (List.mem_of_getElem? (i := 173) rfl))) (by decide) (t := .boolean) (t' := .int) (by decide) (by decide)))).keep K18 (own_nin1 (own_nd D 0 8 rfl rfl (by decide))))), (by rw [e19]; exact (((((G5.keep K11 (own_nin1 (own_nd D 0 1 rfl rfl (by decide)))).other W13 (Or.inl (own_nd D 0 2 rfl rfl (by decide)))).other W15 (Or.inl (own_nd D 0 3 rfl rfl (by decide)))).other W17 (Or.inr (slot_ne (Or.inl (hw _ (List.mem_of_getElem? (i := 82) rfl))) (Or.inl (hw _ (List.mem_of_getElem? (i := 173) rfl))) (by decide) (t := (.array .int)) (t' := .int) (by decide) (by decide)))).keep K18 (own_nin1 (own_nd D 0 8 rfl rfl (by decide))))), (by rw [e19]; exact (((((G6.keep K11 (own_nin1 (own_nd D 0 1 rfl rfl (by decide)))).other W13 (Or.inl (own_nd D 0 2 rfl rfl (by decide)))).other W15 (Or.inl (own_nd D 0 3 rfl rfl (by decide)))).other W17 (Or.inr (slot_ne (Or.inl (hw _ (List.mem_of_getElem? (i := 84) rfl))) (Or.inl (hw _ (List.mem_of_getElem? (i := 173) rfl))) (by decide) (t := (.array .int)) (t' := .int) (by decide) (by decide)))).keep K18 (own_nin1 (own_nd D 0 8 rfl rfl (by decide))))), (by rw [e19]; exact (((((G7.keep K11 (own_nin1 (own_nd D 0 1 rfl rfl (by decide)))).other W13 (Or.inl (own_nd D 0 2 rfl rfl (by decide)))).other W15 (Or.inl (own_nd D 0 3 rfl rfl (by decide)))).other W17 (Or.inr (slot_ne (Or.inl (hw _ (List.mem_of_getElem? (i := 86) rfl))) (Or.inl (hw _ (List.mem_of_getElem? (i := 173) rfl))) (by decide) (t := (.array .int)) (t' := .int) (by decide) (by decide)))).keep K18 (own_nin1 (own_nd D 0 8 rfl rfl (by decide))))), (by rw [e19]; exact (((((G8.keep K11 (own_nin1 (own_nd D 0 1 rfl rfl (by decide)))).other W13 (Or.inl (own_nd D 0 2 rfl rfl (by decide)))).other W15 (Or.inl (own_nd D 0 3 rfl rfl (by decide)))).other W17 (Or.inr (slot_ne (Or.inl (hw _ (List.mem_of_getElem? (i := 88) rfl))) (Or.inl (hw _ (List.mem_of_getElem? (i := 173) rfl))) (by decide) (t := (.array .int)) (t' := .int) (by decide) (by decide)))).keep K18 (own_nin1 (own_nd D 0 8 rfl rfl (by decide))))), (by rw [e19]; exact (Fw17.keep K18 (own_nin1 (own_nd D 0 8 rfl rfl (by decide))))), (by rw [e19]; exact (((((G10.keep K11 (own_nin1 (own_nd D 0 1 rfl rfl (by decide)))).other W13 (Or.inl (own_nd D 0 2 rfl rfl (by decide)))).other W15 (Or.inl (own_nd D 0 3 rfl rfl (by decide)))).other W17 (Or.inr (slot_ne (Or.inl (hw _ (List.mem_of_getElem? (i := 184) rfl))) (Or.inl (hw _ (List.mem_of_getElem? (i := 173) rfl))) (by decide) (t := .int) (t' := .int) (by decide) (by decide)))).keep K18 (own_nin1 (own_nd D 0 8 rfl rfl (by decide))))), ⟨_, (by rw [e19]; exact (((V13.other W15 (own_nd D 2 3 rfl rfl (by decide))).other W17 (Ne.symm (own_nd D 0 2 rfl rfl (by decide)))).keep K18 (own_nin1 (own_nd D 2 8 rfl rfl (by decide)))))⟩, ⟨_, (by rw [e19]; exact ((V15.other W17 (Ne.symm (own_nd D 0 3 rfl rfl (by decide)))).keep K18 (own_nin1 (own_nd D 3 8 rfl rfl (by decide)))))⟩, (by rw [e19]; exact (((((AF.keep K11 (own_nin1 (Ne.symm (own_nd D 1 4 rfl rfl (by decide))))).other W13 (Ne.symm (own_nd D 2 4 rfl rfl (by decide)))).other W15 (Ne.symm (own_nd D 3 4 rfl rfl (by decide)))).other W17 (Ne.symm (own_nd D 0 4 rfl rfl (by decide)))).keep K18 (own_nin1 (own_nd D 4 8 rfl rfl (by decide))))), (by rw [e19]; exact (((((AE.keep K11 (own_nin1 (Ne.symm (own_nd D 1 5 rfl rfl (by decide))))).other W13 (Ne.symm (own_nd D 2 5 rfl rfl (by decide)))).other W15 (Ne.symm (own_nd D 3 5 rfl rfl (by decide)))).other W17 (Ne.symm (own_nd D 0 5 rfl rfl (by decide)))).keep K18 (own_nin1 (own_nd D 5 8 rfl rfl (by decide))))), ⟨_, (by rw [e19]; exact (((((AT.keep K11 (own_nin1 (Ne.symm (own_nd D 1 6 rfl rfl (by decide))))).other W13 (Ne.symm (own_nd D 2 6 rfl rfl (by decide)))).other W15 (Ne.symm (own_nd D 3 6 rfl rfl (by decide)))).other W17 (Ne.symm (own_nd D 0 6 rfl rfl (by decide)))).keep K18 (own_nin1 (own_nd D 6 8 rfl rfl (by decide)))))⟩, ⟨_, (by rw [e19]; exact (((((AA.keep K11 (own_nin1 (Ne.symm (own_nd D 1 7 rfl rfl (by decide))))).other W13 (Ne.symm (own_nd D 2 7 rfl rfl (by decide)))).other W15 (Ne.symm (own_nd D 3 7 rfl rfl (by decide)))).other W17 (Ne.symm (own_nd D 0 7 rfl rfl (by decide)))).keep K18 (own_nin1 (own_nd D 7 8 rfl rfl (by decide)))))⟩⟩, ⟨(by rw [e19]; exact ((((Lq11_0.wr W13).wr W15).wr W17).keep K18)), ⟨_, (by rw [e19]; exact ((((Lq11_1.other W13 (Or.inl (own_nd D 1 2 rfl rfl (by decide)))).other W15 (Or.inl (own_nd D 1 3 rfl rfl (by decide)))).other W17 (Or.inl (Ne.symm (own_nd D 0 1 rfl rfl (by decide))))).keep K18 (own_nin1 (own_nd D 1 8 rfl rfl (by decide)))))⟩, (by rw [e19]; exact ((((Lq11_2.other W13 (Or.inl (own_nd D 1 2 rfl rfl (by decide)))).other W15 (Or.inl (own_nd D 1 3 rfl rfl (by decide)))).other W17 (Or.inl (Ne.symm (own_nd D 0 1 rfl rfl (by decide))))).keep K18 (own_nin1 (own_nd D 1 8 rfl rfl (by decide))))), (by rw [e19]; exact ((((Lq11_3.other W13 (Or.inl (own_nd D 1 2 rfl rfl (by decide)))).other W15 (Or.inl (own_nd D 1 3 rfl rfl (by decide)))).other W17 (Or.inl (Ne.symm (own_nd D 0 1 rfl rfl (by decide))))).keep K18 (own_nin1 (own_nd D 1 8 rfl rfl (by decide))))), (by rw [e19]; exact ((((Lq11_4.other W13 (Ne.symm (Nat.ne_of_lt (Nat.lt_of_lt_of_le AP.lt szq11)))).other W15 (Ne.symm (Nat.ne_of_lt (Nat.lt_of_lt_of_le AR.lt szq11)))).other W17 (Ne.symm (Nat.ne_of_lt (Nat.lt_of_lt_of_le EG.lt szq11)))).keep K18 (own_nin1 (Ne.symm (Nat.ne_of_lt (Nat.lt_of_lt_of_le fsE.lt szq11))))))⟩, (by rw [e19]; exact Ea18), (by rw [e19]; exact Fa18_0), (by rw [e19]; exact Fa18_1)⟩
theorem own_k1024 {k : Int32} (h : 0 ≤ k.toInt ∧ k.toInt < 10) : ¬ (k = (1024 : Int32)) := by
  have t : (1024 : Int32).toInt = 1024 := rfl
  rw [← Int32.toInt_inj, t]
  omega
theorem ef_16B (m : MethodId) (a0 : Addr) (a1 : Addr) : entryFrame m #[(.ref a0), (.ref a1), (.int (-1 : Int32)), (.int (-1 : Int32))] 6 = mkF m 0 #[.val (.ref a0), .val (.ref a1), .val (.int (-1 : Int32)), .val (.int (-1 : Int32)), .unset, .unset] [] := by first | (simp [entryFrame, mkF, argsToLocals, Value.category]; done) | rfl
def Q16B (Z : State) (a0 : Addr) (a1 : Addr) (aL : Addr) (aP : Addr) (aR : Addr) (aF : Addr) (aE : Addr) (aT : Addr) (aA : Addr) (wl : Int32) (ed : Int32) (ini : Int32) (FF : Nat → Int32) (EE : Nat → Int32) (d : Addr) (k : Int32) (w0 : Addr) (h0 : Heap) (n0 : Nat) (v : Option Value) (h : Heap) (L : List Loc) : Prop := v = some (.int 1) ∧ Fr n0 L ∧ Keep h0 h [a0, aL, aP, aR, a1, d] ∧ OwnG Z h a0 aL aP aR aF aE aT aA wl ed (ini + 1) FF EE ∧ OwnL Z h aL d (k + 1) (10 : Int32) ∧ Exa Z h a1 "com/example/changeset/changeset/check/FoundState" ∧ Fld Z h a1 "com/example/changeset/changeset/check/FoundState" "number" "I" (.int k) ∧ Fld Z h a1 "com/example/changeset/changeset/check/FoundState" "state" "Lcom/example/changeset/changeset/check/State;" (.ref w0)
set_option maxRecDepth 65536 in
set_option maxHeartbeats 40000000 in
theorem rm16B (l : Launch) (Z : State) (aZ : Array Value) (hw : ∀ d ∈ tables_1, d.before aZ Z = true) (ws : List Jvm.Cond) (a0 : Addr) (a1 : Addr) (aL : Addr) (aP : Addr) (aR : Addr) (aF : Addr) (aE : Addr) (aT : Addr) (aA : Addr) (wl : Int32) (ed : Int32) (ini : Int32) (FF : Nat → Int32) (EE : Nat → Int32) (d : Addr) (k : Int32) (w0 : Addr) (h0 : Heap) (n0 : Nat) (Z0 : n0 ≤ h0.size) (HG : OwnG Z h0 a0 aL aP aR aF aE aT aA wl ed ini FF EE) (HL : OwnL Z h0 aL d k 10) (fsE : Exa Z h0 a1 "com/example/changeset/changeset/check/FoundState") (fsN : Fld Z h0 a1 "com/example/changeset/changeset/check/FoundState" "number" "I" (.int (-1 : Int32))) (fsS : Fld Z h0 a1 "com/example/changeset/changeset/check/FoundState" "state" "Lcom/example/changeset/changeset/check/State;" (.ref w0)) (D : [a0, aL, aP, aR, aF, aE, aT, aA, a1, d].Pairwise (· ≠ ·)) (GN : ∀ x ∈ [a0, aL, aP, aR, aF, aE, aT, aA, a1, d], n0 ≤ x) (hk : 0 ≤ k.toInt ∧ k.toInt < 10) (IS : Ins Z h0 w0 "java/lang/Object" true) :
    MetFree l (⟨"com/example/changeset/changeset/check/StateGraph", "add", "(Lcom/example/changeset/changeset/check/FoundState;II)Z"⟩ : MethodName) (head1 (Jvm.Cond.code (⟨"com/example/changeset/changeset/check/StateGraph", "add", "(Lcom/example/changeset/changeset/check/FoundState;II)Z"⟩ : MethodName) prog_39_method_3_code 6 (some .boolean) :: ws) ({ frames := 2, cells := 0, slots := 0, locals := 32 } : Room)) (fun a U => a = #[(.ref a0), (.ref a1), (.int (-1 : Int32)), (.int (-1 : Int32))] ∧ Z.Warmed39 U.vm ∧ U.heap = h0) (fun _ _ _ _ _ => True) (fun _ U o U' => ∃ v L, o = .returned v ∧ Q16B Z a0 a1 aL aP aR aF aE aT aA wl ed ini FF EE d k w0 h0 n0 v U'.heap L ∧ FrameEnd U o U' L 0 0) := by
  refine MetFree.of_bodySF (plainFor_of_name pn_6) hisR ?_
  intro p e s m args below meth c s₁ Bd hml0 hP hK
  obtain ⟨rfl, hZ, hh⟩ := hP
  have hx := Bd.exec
  have hby := Bd.bytes
  have hml : c.maxLocals = 6 := hml0
  have hown : s.vm.findClass "com/example/changeset/changeset/check/StateGraph" = some m.cls := findClass_of_methodNamed Bd.named
  have hnm := (name_of_methodNamed Bd.named Bd.method).1
  have hlk := BodyLoose.notSynchronized Bd
  have X0 : Stand p l e ({ frames := 2, cells := 0, slots := 0, locals := 32 } : Room) s m #[(.ref a0), (.ref a1), (.int (-1 : Int32)), (.int (-1 : Int32))] below meth c s₁ [] 0 0 := Stand.of_body Bd
  have e0 : s₁.heap = h0 := by rw [← hh, Bd.state]; rfl
  have N0 := Fr.nil n0
  have hk0 : 0 ≤ 0 := Nat.zero_le _
  have hn0 : 0 ≤ 0 := Nat.zero_le _
  show OwnEnds p e below (OwnQ s (Q16B Z a0 a1 aL aP aR aF aE aT aA wl ed ini FF EE d k w0 h0 n0) 0 0) (s₁.setTop (entryFrame m #[(.ref a0), (.ref a1), (.int (-1 : Int32)), (.int (-1 : Int32))] 6))
  refine .pre (fun t k => castTop (ef_16B m a0 a1) k) ?_
  obtain ⟨EG, G0, G1, G2, G3, G4, G5, G6, G7, G8, G9, G10, ⟨fP, AP⟩, ⟨fR, AR⟩, AF, AE, ⟨fT, AT⟩, ⟨fA, AA⟩⟩ := id HG
  obtain ⟨ELx, ⟨mc, Lx1⟩, Lx2, Lx3, RDx⟩ := HL
  have g_a0 : n0 ≤ a0 := GN _ (List.mem_of_getElem? (i := 0) rfl)
  have g_aL : n0 ≤ aL := GN _ (List.mem_of_getElem? (i := 1) rfl)
  have g_aP : n0 ≤ aP := GN _ (List.mem_of_getElem? (i := 2) rfl)
  have g_aR : n0 ≤ aR := GN _ (List.mem_of_getElem? (i := 3) rfl)
  have g_aF : n0 ≤ aF := GN _ (List.mem_of_getElem? (i := 4) rfl)
  have g_aE : n0 ≤ aE := GN _ (List.mem_of_getElem? (i := 5) rfl)
  have g_aT : n0 ≤ aT := GN _ (List.mem_of_getElem? (i := 6) rfl)
  have g_aA : n0 ≤ aA := GN _ (List.mem_of_getElem? (i := 7) rfl)
  have g_a1 : n0 ≤ a1 := GN _ (List.mem_of_getElem? (i := 8) rfl)
  have g_d : n0 ≤ d := GN _ (List.mem_of_getElem? (i := 9) rfl)
  show OwnEnds p e below _ (s₁.setTop (mkF m 0 #[.val (.ref a0), .val (.ref a1), .val (.int (-1 : Int32)), .val (.int (-1 : Int32)), .unset, .unset] []))
  refine .pre (fun _ kq => XS.aloadN X0.here hx rfl (hb hby d16_0) rfl rfl kq) ?_
  show OwnEnds p e below _ (s₁.setTop (mkF m 1 #[.val (.ref a0), .val (.ref a1), .val (.int (-1 : Int32)), .val (.int (-1 : Int32)), .unset, .unset] [(.ref a1)]))
  obtain ⟨cq1, kq1, q1a, q1b, q1c⟩ := isOf hZ e0 fsE
  obtain ⟨_, _, ⟨T1, L1, k1, n1⟩, -, X1, ⟨Lc1, hQ1, l1, y1, z1⟩, st1⟩ := X0.virtualBack hx (y := (⟨"com/example/changeset/changeset/check/FoundState", "number", "()I"⟩ : MethodName)) (z := (⟨"com/example/changeset/changeset/check/FoundState", "number", "()I"⟩ : MethodName)) hown (mvT hZ (hw _ (List.mem_of_getElem? (i := 122) rfl))) (mvT hZ (hw _ (List.mem_of_getElem? (i := 123) rfl))) (notFace_of_selects (args := #[]) (mvT hZ (hw _ (List.mem_of_getElem? (i := 125) rfl)))) (mvT hZ (hw _ (List.mem_of_getElem? (i := 125) rfl))) (mvT hZ (hw _ (List.mem_of_getElem? (i := 124) rfl))) (by decide) (backOf (W := 0) (rm17 l Z aZ hw [] a1 (-1 : Int32) h0 n0 Z0 fsN) hZ (hw _ (List.mem_of_getElem? (i := 126) rfl)) (hw _ (List.mem_of_getElem? (i := 107) rfl)) (by decide) (by decide)) q1a q1c (g := (mkF m 1 #[.val (.ref a0), .val (.ref a1), .val (.int (-1 : Int32)), .val (.int (-1 : Int32)), .unset, .unset] [(.ref a1)])) rfl (by rw [hml]; rfl) (Steps.refl _) (argsL := []) (rest := []) (lenOf pd_12 rfl) rfl (by show 2 * 0 + _ ≤ _; exact Nat.le_of_eq rfl) (hb hby d16_1) (fun _ _ => ⟨rfl, e0, (by decide : 0 + 0 ≤ _), (by decide : 0 + 0 ≤ _)⟩)
  dsimp only [Pt.U, Pt.locs, Pt.cells, Pt.slots] at X1 l1 y1 z1 st1 hQ1
  try dsimp only [Nat.reduceAdd] at y1 z1
  subst y1 z1
  obtain ⟨rfl, N1q, e1⟩ := hQ1
  have N1 : Fr n0 L1 := by rw [l1]; exact Fr.app N0 N1q
  refine .pre (fun _ kq => st1.trans kq) ?_
  show OwnEnds p e below _ (T1.setTop (mkF m 4 #[.val (.ref a0), .val (.ref a1), .val (.int (-1 : Int32)), .val (.int (-1 : Int32)), .unset, .unset] [(.int (-1 : Int32))]))
  have hc4 : ((-1 : Int32) < (0 : Int32)) := by decide
  refine .pre (fun _ kq => XS.ifNo X1.here hx rfl (hb hby d16_4) rfl ((if0 _ _).trans (tlt hc4).2.1) kq) ?_
  show OwnEnds p e below _ (T1.setTop (mkF m 7 #[.val (.ref a0), .val (.ref a1), .val (.int (-1 : Int32)), .val (.int (-1 : Int32)), .unset, .unset] []))
  refine .pre (fun _ kq => XS.iconst X1.here hx rfl (hb hby d16_7) kq) ?_
  show OwnEnds p e below _ (T1.setTop (mkF m 8 #[.val (.ref a0), .val (.ref a1), .val (.int (-1 : Int32)), .val (.int (-1 : Int32)), .unset, .unset] [(.int (1 : Int32))]))
  refine .pre (fun _ kq => XS.goto X1.here hx rfl (pc0 := 8) (pc' := 12) rfl (hb hby d16_8) (by decide) (by decide) kq) ?_
  show OwnEnds p e below _ (T1.setTop (mkF m 12 #[.val (.ref a0), .val (.ref a1), .val (.int (-1 : Int32)), .val (.int (-1 : Int32)), .unset, .unset] [(.int (1 : Int32))]))
  refine .pre (fun _ kq => XS.istore X1.here hx rfl (hb hby d16_12) rfl (l' := #[.val (.ref a0), .val (.ref a1), .val (.int (-1 : Int32)), .val (.int (-1 : Int32)), .val (.int (1 : Int32)), .unset]) rfl kq) ?_
  show OwnEnds p e below _ (T1.setTop (mkF m 14 #[.val (.ref a0), .val (.ref a1), .val (.int (-1 : Int32)), .val (.int (-1 : Int32)), .val (.int (1 : Int32)), .unset] []))
  refine .pre (fun _ kq => XS.iload X1.here hx rfl (hb hby d16_14) rfl kq) ?_
  show OwnEnds p e below _ (T1.setTop (mkF m 16 #[.val (.ref a0), .val (.ref a1), .val (.int (-1 : Int32)), .val (.int (-1 : Int32)), .val (.int (1 : Int32)), .unset] [(.int (1 : Int32))]))
  have hc16 : ¬ ((1 : Int32) = (0 : Int32)) := by decide
  refine .pre (fun _ kq => XS.ifNo X1.here hx rfl (hb hby d16_16) rfl ((if0 _ _).trans (feq hc16).1) kq) ?_
  show OwnEnds p e below _ (T1.setTop (mkF m 19 #[.val (.ref a0), .val (.ref a1), .val (.int (-1 : Int32)), .val (.int (-1 : Int32)), .val (.int (1 : Int32)), .unset] []))
  refine .pre (fun _ kq => XS.aloadN X1.here hx rfl (hb hby d16_19) rfl rfl kq) ?_
  show OwnEnds p e below _ (T1.setTop (mkF m 20 #[.val (.ref a0), .val (.ref a1), .val (.int (-1 : Int32)), .val (.int (-1 : Int32)), .val (.int (1 : Int32)), .unset] [(.ref a0)]))
  obtain ⟨T2, X2, e2, st2⟩ := getF X1 hx hZ hown (host := "") (Or.inl (hw _ (List.mem_of_getElem? (i := 68) rfl))) Via.refl e1 G0 (g := (mkF m 20 #[.val (.ref a0), .val (.ref a1), .val (.int (-1 : Int32)), .val (.int (-1 : Int32)), .val (.int (1 : Int32)), .unset] [(.ref a0)])) rfl rfl (hb hby d16_20)
  refine .pre (fun _ kq => st2 _ kq) ?_
  show OwnEnds p e below _ (T2.setTop (mkF m 23 #[.val (.ref a0), .val (.ref a1), .val (.int (-1 : Int32)), .val (.int (-1 : Int32)), .val (.int (1 : Int32)), .unset] [(.ref aL)]))
  obtain ⟨cq3, kq3, q3a, q3b, q3c⟩ := isOf hZ e2 ELx
  obtain ⟨_, _, ⟨T3, L3, k3, n3⟩, -, X3, ⟨Lc3, hQ3, l3, y3, z3⟩, st3⟩ := X2.interfaceBack hx (xi := (⟨"java/util/List", "size", "()I"⟩ : MethodName)) (y := (⟨"java/util/ArrayList", "size", "()I"⟩ : MethodName)) hown (mvT hZ (hw _ (List.mem_of_getElem? (i := 127) rfl))) (mvT hZ (hw _ (List.mem_of_getElem? (i := 128) rfl))) (mvT hZ (hw _ (List.mem_of_getElem? (i := 129) rfl))) (mvT hZ (hw _ (List.mem_of_getElem? (i := 130) rfl))) (mvT hZ (hw _ (List.mem_of_getElem? (i := 131) rfl))) (mvT hZ (hw _ (List.mem_of_getElem? (i := 132) rfl))) (mvT hZ (hw _ (List.mem_of_getElem? (i := 133) rfl))) (mvT hZ (hw _ (List.mem_of_getElem? (i := 134) rfl))) (by decide) (backOf (W := 0) (rm18 l Z aZ hw [] aL k h0 n0 Z0 Lx3) hZ (hw _ (List.mem_of_getElem? (i := 135) rfl)) (hw _ (List.mem_of_getElem? (i := 23) rfl)) (by decide) (by decide)) q3a q3b q3c (g := (mkF m 23 #[.val (.ref a0), .val (.ref a1), .val (.int (-1 : Int32)), .val (.int (-1 : Int32)), .val (.int (1 : Int32)), .unset] [(.ref aL)])) rfl (by rw [hml]; rfl) (Steps.refl _) (argsL := []) (rest := []) (lenOf pd_12 rfl) rfl (by show 2 * 0 + _ ≤ _; exact Nat.le_of_eq rfl) (hb hby d16_23) (fun _ _ => ⟨rfl, e2, (by decide : 0 + 0 ≤ _), (by decide : 0 + 0 ≤ _)⟩)
  dsimp only [Pt.U, Pt.locs, Pt.cells, Pt.slots] at X3 l3 y3 z3 st3 hQ3
  try dsimp only [Nat.reduceAdd] at y3 z3
  subst y3 z3
  obtain ⟨rfl, N3q, e3⟩ := hQ3
  have N3 : Fr n0 L3 := by rw [l3]; exact Fr.app N1 N3q
  refine .pre (fun _ kq => st3.trans kq) ?_
  show OwnEnds p e below _ (T3.setTop (mkF m 28 #[.val (.ref a0), .val (.ref a1), .val (.int (-1 : Int32)), .val (.int (-1 : Int32)), .val (.int (1 : Int32)), .unset] [(.int k)]))
  refine .pre (fun _ kq => XS.istore X3.here hx rfl (hb hby d16_28) rfl (l' := #[.val (.ref a0), .val (.ref a1), .val (.int (-1 : Int32)), .val (.int (-1 : Int32)), .val (.int (1 : Int32)), .val (.int k)]) rfl kq) ?_
  show OwnEnds p e below _ (T3.setTop (mkF m 30 #[.val (.ref a0), .val (.ref a1), .val (.int (-1 : Int32)), .val (.int (-1 : Int32)), .val (.int (1 : Int32)), .val (.int k)] []))
  refine .pre (fun _ kq => XS.iload X3.here hx rfl (hb hby d16_30) rfl kq) ?_
  show OwnEnds p e below _ (T3.setTop (mkF m 32 #[.val (.ref a0), .val (.ref a1), .val (.int (-1 : Int32)), .val (.int (-1 : Int32)), .val (.int (1 : Int32)), .val (.int k)] [(.int k)]))
  refine .pre (fun _ kq => XS.aloadN X3.here hx rfl (hb hby d16_32) rfl rfl kq) ?_
  show OwnEnds p e below _ (T3.setTop (mkF m 33 #[.val (.ref a0), .val (.ref a1), .val (.int (-1 : Int32)), .val (.int (-1 : Int32)), .val (.int (1 : Int32)), .val (.int k)] [(.ref a0), (.int k)]))
  obtain ⟨T4, X4, e4, st4⟩ := getF X3 hx hZ hown (host := "") (Or.inl (hw _ (List.mem_of_getElem? (i := 71) rfl))) Via.refl e3 G1 (g := (mkF m 33 #[.val (.ref a0), .val (.ref a1), .val (.int (-1 : Int32)), .val (.int (-1 : Int32)), .val (.int (1 : Int32)), .val (.int k)] [(.ref a0), (.int k)])) rfl rfl (hb hby d16_33)
  refine .pre (fun _ kq => st4 _ kq) ?_
  show OwnEnds p e below _ (T4.setTop (mkF m 36 #[.val (.ref a0), .val (.ref a1), .val (.int (-1 : Int32)), .val (.int (-1 : Int32)), .val (.int (1 : Int32)), .val (.int k)] [(.ref aP), (.int k)]))
  obtain ⟨cl5, Ar5, qs5, qh5⟩ := id AP
  refine .pre (fun _ kq => X4.arraylength hx (by rw [e4]; exact Ar5.1) (State.isArrayOf_alike hZ.alike Ar5.2.1) (g := (mkF m 36 #[.val (.ref a0), .val (.ref a1), .val (.int (-1 : Int32)), .val (.int (-1 : Int32)), .val (.int (1 : Int32)), .val (.int k)] [(.ref aP), (.int k)])) rfl rfl (hb hby d16_36) _ kq) ?_
  rw [own_len1024 qs5]
  show OwnEnds p e below _ (T4.setTop (mkF m 37 #[.val (.ref a0), .val (.ref a1), .val (.int (-1 : Int32)), .val (.int (-1 : Int32)), .val (.int (1 : Int32)), .val (.int k)] [(.int (1024 : Int32)), (.int k)]))
  have hc37 : ¬ (k = (1024 : Int32)) := own_k1024 hk
  refine .pre (fun _ kq => XS.icmpYes X4.here hx rfl (pc0 := 37) (pc' := 70) rfl (hb hby d16_37) rfl (feq hc37).2 (by decide) (by decide) kq) ?_
  show OwnEnds p e below _ (T4.setTop (mkF m 70 #[.val (.ref a0), .val (.ref a1), .val (.int (-1 : Int32)), .val (.int (-1 : Int32)), .val (.int (1 : Int32)), .val (.int k)] []))
  refine .pre (fun _ kq => XS.aloadN X4.here hx rfl (hb hby d16_70) rfl rfl kq) ?_
  show OwnEnds p e below _ (T4.setTop (mkF m 71 #[.val (.ref a0), .val (.ref a1), .val (.int (-1 : Int32)), .val (.int (-1 : Int32)), .val (.int (1 : Int32)), .val (.int k)] [(.ref a0)]))
  obtain ⟨T6, X6, e6, st6⟩ := getF X4 hx hZ hown (host := "") (Or.inl (hw _ (List.mem_of_getElem? (i := 79) rfl))) Via.refl e4 G4 (g := (mkF m 71 #[.val (.ref a0), .val (.ref a1), .val (.int (-1 : Int32)), .val (.int (-1 : Int32)), .val (.int (1 : Int32)), .val (.int k)] [(.ref a0)])) rfl rfl (hb hby d16_71)
  refine .pre (fun _ kq => st6 _ kq) ?_
  show OwnEnds p e below _ (T6.setTop (mkF m 74 #[.val (.ref a0), .val (.ref a1), .val (.int (-1 : Int32)), .val (.int (-1 : Int32)), .val (.int (1 : Int32)), .val (.int k)] [(.int (1 : Int32))]))
  have hc74 : ¬ ((1 : Int32) = (0 : Int32)) := by decide
  refine .pre (fun _ kq => XS.ifNo X6.here hx rfl (hb hby d16_74) rfl ((if0 _ _).trans (feq hc74).1) kq) ?_
  show OwnEnds p e below _ (T6.setTop (mkF m 77 #[.val (.ref a0), .val (.ref a1), .val (.int (-1 : Int32)), .val (.int (-1 : Int32)), .val (.int (1 : Int32)), .val (.int k)] []))
  refine .pre (fun _ kq => XS.iload X6.here hx rfl (hb hby d16_77) rfl kq) ?_
  show OwnEnds p e below _ (T6.setTop (mkF m 79 #[.val (.ref a0), .val (.ref a1), .val (.int (-1 : Int32)), .val (.int (-1 : Int32)), .val (.int (1 : Int32)), .val (.int k)] [(.int k)]))
  refine .pre (fun _ kq => XS.aloadN X6.here hx rfl (hb hby d16_79) rfl rfl kq) ?_
  show OwnEnds p e below _ (T6.setTop (mkF m 80 #[.val (.ref a0), .val (.ref a1), .val (.int (-1 : Int32)), .val (.int (-1 : Int32)), .val (.int (1 : Int32)), .val (.int k)] [(.ref a0), (.int k)]))
  obtain ⟨T7, X7, e7, st7⟩ := getF X6 hx hZ hown (host := "") (Or.inl (hw _ (List.mem_of_getElem? (i := 81) rfl))) Via.refl e6 G5 (g := (mkF m 80 #[.val (.ref a0), .val (.ref a1), .val (.int (-1 : Int32)), .val (.int (-1 : Int32)), .val (.int (1 : Int32)), .val (.int k)] [(.ref a0), (.int k)])) rfl rfl (hb hby d16_80)
  refine .pre (fun _ kq => st7 _ kq) ?_
  show OwnEnds p e below _ (T7.setTop (mkF m 83 #[.val (.ref a0), .val (.ref a1), .val (.int (-1 : Int32)), .val (.int (-1 : Int32)), .val (.int (1 : Int32)), .val (.int k)] [(.ref aF), (.int k)]))
  obtain ⟨cl8, Ar8, qs8, qh8⟩ := id AF
  refine .pre (fun _ kq => X7.arraylength hx (by rw [e7]; exact Ar8.1) (State.isArrayOf_alike hZ.alike Ar8.2.1) (g := (mkF m 83 #[.val (.ref a0), .val (.ref a1), .val (.int (-1 : Int32)), .val (.int (-1 : Int32)), .val (.int (1 : Int32)), .val (.int k)] [(.ref aF), (.int k)])) rfl rfl (hb hby d16_83) _ kq) ?_
  rw [own_len1024 qs8]
  show OwnEnds p e below _ (T7.setTop (mkF m 84 #[.val (.ref a0), .val (.ref a1), .val (.int (-1 : Int32)), .val (.int (-1 : Int32)), .val (.int (1 : Int32)), .val (.int k)] [(.int (1024 : Int32)), (.int k)]))
  have hc84 : ¬ (k = (1024 : Int32)) := own_k1024 hk
  refine .pre (fun _ kq => XS.icmpYes X7.here hx rfl (pc0 := 84) (pc' := 117) rfl (hb hby d16_84) rfl (feq hc84).2 (by decide) (by decide) kq) ?_
  show OwnEnds p e below _ (T7.setTop (mkF m 117 #[.val (.ref a0), .val (.ref a1), .val (.int (-1 : Int32)), .val (.int (-1 : Int32)), .val (.int (1 : Int32)), .val (.int k)] []))
  refine .pre (fun _ kq => XS.aloadN X7.here hx rfl (hb hby d16_117) rfl rfl kq) ?_
  show OwnEnds p e below _ (T7.setTop (mkF m 118 #[.val (.ref a0), .val (.ref a1), .val (.int (-1 : Int32)), .val (.int (-1 : Int32)), .val (.int (1 : Int32)), .val (.int k)] [(.ref a0)]))
  obtain ⟨T9, X9, e9, st9⟩ := getF X7 hx hZ hown (host := "") (Or.inl (hw _ (List.mem_of_getElem? (i := 68) rfl))) Via.refl e7 G0 (g := (mkF m 118 #[.val (.ref a0), .val (.ref a1), .val (.int (-1 : Int32)), .val (.int (-1 : Int32)), .val (.int (1 : Int32)), .val (.int k)] [(.ref a0)])) rfl rfl (hb hby d16_118)
  refine .pre (fun _ kq => st9 _ kq) ?_
  show OwnEnds p e below _ (T9.setTop (mkF m 121 #[.val (.ref a0), .val (.ref a1), .val (.int (-1 : Int32)), .val (.int (-1 : Int32)), .val (.int (1 : Int32)), .val (.int k)] [(.ref aL)]))
  refine .pre (fun _ kq => XS.aloadN X9.here hx rfl (hb hby d16_121) rfl rfl kq) ?_
  show OwnEnds p e below _ (T9.setTop (mkF m 122 #[.val (.ref a0), .val (.ref a1), .val (.int (-1 : Int32)), .val (.int (-1 : Int32)), .val (.int (1 : Int32)), .val (.int k)] [(.ref a1), (.ref aL)]))
  obtain ⟨cq10, kq10, q10a, q10b, q10c⟩ := isOf hZ e9 fsE
  obtain ⟨_, _, ⟨T10, L10, k10, n10⟩, -, X10, ⟨Lc10, hQ10, l10, y10, z10⟩, st10⟩ := X9.virtualBack hx (y := (⟨"com/example/changeset/changeset/check/FoundState", "state", "()Lcom/example/changeset/changeset/check/State;"⟩ : MethodName)) (z := (⟨"com/example/changeset/changeset/check/FoundState", "state", "()Lcom/example/changeset/changeset/check/State;"⟩ : MethodName)) hown (mvT hZ (hw _ (List.mem_of_getElem? (i := 138) rfl))) (mvT hZ (hw _ (List.mem_of_getElem? (i := 139) rfl))) (notFace_of_selects (args := #[]) (mvT hZ (hw _ (List.mem_of_getElem? (i := 141) rfl)))) (mvT hZ (hw _ (List.mem_of_getElem? (i := 141) rfl))) (mvT hZ (hw _ (List.mem_of_getElem? (i := 140) rfl))) (by decide) (backOf (W := 1) (rm19 l Z aZ hw [] a1 w0 h0 n0 Z0 fsS) hZ (hw _ (List.mem_of_getElem? (i := 142) rfl)) (hw _ (List.mem_of_getElem? (i := 107) rfl)) (by decide) (by decide)) q10a q10c (g := (mkF m 122 #[.val (.ref a0), .val (.ref a1), .val (.int (-1 : Int32)), .val (.int (-1 : Int32)), .val (.int (1 : Int32)), .val (.int k)] [(.ref a1), (.ref aL)])) rfl (by rw [hml]; rfl) (Steps.refl _) (argsL := []) (rest := [(.ref aL)]) (lenOf pd_13 rfl) rfl (by show 2 * 0 + _ ≤ _; exact Nat.le_of_eq rfl) (hb hby d16_122) (fun _ _ => ⟨rfl, e9, (by decide : 0 + 0 ≤ _), (by decide : 0 + 0 ≤ _)⟩)
  dsimp only [Pt.U, Pt.locs, Pt.cells, Pt.slots] at X10 l10 y10 z10 st10 hQ10
  try dsimp only [Nat.reduceAdd] at y10 z10
  subst y10 z10
  obtain ⟨rfl, N10q, e10⟩ := hQ10
  have N10 : Fr n0 L10 := by rw [l10]; exact Fr.app N3 N10q
  refine .pre (fun _ kq => st10.trans kq) ?_
  show OwnEnds p e below _ (T10.setTop (mkF m 125 #[.val (.ref a0), .val (.ref a1), .val (.int (-1 : Int32)), .val (.int (-1 : Int32)), .val (.int (1 : Int32)), .val (.int k)] [(.ref w0), (.ref aL)]))
  obtain ⟨cq11, kq11, q11a, q11b, q11c⟩ := isOf hZ e10 ELx
  obtain ⟨_, _, ⟨T11, L11, k11, n11⟩, -, X11, ⟨Lc11, hQ11, l11, y11, z11⟩, st11⟩ := X10.interfaceBack hx (xi := (⟨"java/util/List", "add", "(Ljava/lang/Object;)Z"⟩ : MethodName)) (y := (⟨"java/util/ArrayList", "add", "(Ljava/lang/Object;)Z"⟩ : MethodName)) hown (mvT hZ (hw _ (List.mem_of_getElem? (i := 143) rfl))) (mvT hZ (hw _ (List.mem_of_getElem? (i := 144) rfl))) (mvT hZ (hw _ (List.mem_of_getElem? (i := 145) rfl))) (mvT hZ (hw _ (List.mem_of_getElem? (i := 146) rfl))) (mvT hZ (hw _ (List.mem_of_getElem? (i := 147) rfl))) (mvT hZ (hw _ (List.mem_of_getElem? (i := 148) rfl))) (mvT hZ (hw _ (List.mem_of_getElem? (i := 149) rfl))) (mvT hZ (hw _ (List.mem_of_getElem? (i := 134) rfl))) (by decide) (backOf (W := 0) (rm20B l Z aZ hw [] aL w0 d k mc h0 n0 Z0 ELx Lx1 Lx2 Lx3 RDx (own_nd D 1 9 rfl rfl (by decide)) g_aL g_d hk IS) hZ (hw _ (List.mem_of_getElem? (i := 150) rfl)) (hw _ (List.mem_of_getElem? (i := 23) rfl)) (by decide) (by decide)) q11a q11b q11c (g := (mkF m 125 #[.val (.ref a0), .val (.ref a1), .val (.int (-1 : Int32)), .val (.int (-1 : Int32)), .val (.int (1 : Int32)), .val (.int k)] [(.ref w0), (.ref aL)])) rfl (by rw [hml]; rfl) (Steps.refl _) (argsL := [(.ref w0)]) (rest := []) (lenOf pd_14 rfl) rfl (by show 2 * 0 + _ ≤ _; exact Nat.le_of_eq rfl) (hb hby d16_125) (fun _ _ => ⟨rfl, e10, (by decide : 0 + 0 ≤ _), (by decide : 0 + 0 ≤ _)⟩)
  dsimp only [Pt.U, Pt.locs, Pt.cells, Pt.slots] at X11 l11 y11 z11 st11 hQ11
  try dsimp only [Nat.reduceAdd] at y11 z11
  subst y11 z11
  obtain ⟨rfl, N11q, K11, Lq11_0, ⟨mcq11, Lq11_1⟩, Lq11_2, Lq11_3, Lq11_4⟩ := hQ11
  have N11 : Fr n0 L11 := by rw [l11]; exact Fr.app N10 N11q
  refine .pre (fun _ kq => st11.trans kq) ?_
  have Kp11 : Keep h0 T11.heap [a0, aL, aP, aR, a1, d] := (Keep.refl h0 [a0, aL, aP, aR, a1, d]).trans K11 (allS (Or.inl (List.mem_of_getElem? (i := 1) rfl)) (allS (Or.inl (List.mem_of_getElem? (i := 5) rfl)) all0))
  show OwnEnds p e below _ (T11.setTop (mkF m 130 #[.val (.ref a0), .val (.ref a1), .val (.int (-1 : Int32)), .val (.int (-1 : Int32)), .val (.int (1 : Int32)), .val (.int k)] [(.int (1 : Int32))]))
  refine .pre (fun _ kq => XS.pop X11.here hx rfl (hb hby d16_130) rfl rfl kq) ?_
  show OwnEnds p e below _ (T11.setTop (mkF m 131 #[.val (.ref a0), .val (.ref a1), .val (.int (-1 : Int32)), .val (.int (-1 : Int32)), .val (.int (1 : Int32)), .val (.int k)] []))
  refine .pre (fun _ kq => XS.aloadN X11.here hx rfl (hb hby d16_131) rfl rfl kq) ?_
  show OwnEnds p e below _ (T11.setTop (mkF m 132 #[.val (.ref a0), .val (.ref a1), .val (.int (-1 : Int32)), .val (.int (-1 : Int32)), .val (.int (1 : Int32)), .val (.int k)] [(.ref a0)]))
  obtain ⟨T12, X12, e12, st12⟩ := getF X11 hx hZ hown (host := "") (Or.inl (hw _ (List.mem_of_getElem? (i := 71) rfl))) Via.refl rfl (G1.keep K11 (own_nin2 (own_nd D 0 1 rfl rfl (by decide)) (own_nd D 0 9 rfl rfl (by decide)))) (g := (mkF m 132 #[.val (.ref a0), .val (.ref a1), .val (.int (-1 : Int32)), .val (.int (-1 : Int32)), .val (.int (1 : Int32)), .val (.int k)] [(.ref a0)])) rfl rfl (hb hby d16_132)
  refine .pre (fun _ kq => st12 _ kq) ?_
  show OwnEnds p e below _ (T12.setTop (mkF m 135 #[.val (.ref a0), .val (.ref a1), .val (.int (-1 : Int32)), .val (.int (-1 : Int32)), .val (.int (1 : Int32)), .val (.int k)] [(.ref aP)]))
  refine .pre (fun _ kq => XS.iload X12.here hx rfl (hb hby d16_135) rfl kq) ?_
  show OwnEnds p e below _ (T12.setTop (mkF m 137 #[.val (.ref a0), .val (.ref a1), .val (.int (-1 : Int32)), .val (.int (-1 : Int32)), .val (.int (1 : Int32)), .val (.int k)] [(.int k), (.ref aP)]))
  refine .pre (fun _ kq => XS.iloadN X12.here hx rfl (hb hby d16_137) rfl kq) ?_
  show OwnEnds p e below _ (T12.setTop (mkF m 138 #[.val (.ref a0), .val (.ref a1), .val (.int (-1 : Int32)), .val (.int (-1 : Int32)), .val (.int (1 : Int32)), .val (.int k)] [(.int (-1 : Int32)), (.int k), (.ref aP)]))
  obtain ⟨cl13, Ar13, qs13, qh13⟩ := id (AP.keep K11 (own_nin2 (Ne.symm (own_nd D 1 2 rfl rfl (by decide))) (own_nd D 2 9 rfl rfl (by decide))))
  have hj13 : 0 ≤ (k).toInt ∧ (k).toInt < 1024 := ⟨hk.1, by have := hk.2; omega⟩
  obtain ⟨T13, h13, X13, e13, W13, st13⟩ := stI X12 hx hZ e12 Ar13 (j := k) (own_in1024 qs13 hj13) (g := (mkF m 138 #[.val (.ref a0), .val (.ref a1), .val (.int (-1 : Int32)), .val (.int (-1 : Int32)), .val (.int (1 : Int32)), .val (.int k)] [(.int (-1 : Int32)), (.int k), (.ref aP)])) rfl rfl (hb hby d16_138)
  have V13 : OwnA Z h13 aP (own_upd fP (k).toNatClampNeg (-1 : Int32)) := OwnA.set Ar13 qs13 qh13 W13
  have N13 := Fr.snoc X13 N11 g_aP
  have Kp13 : Keep h0 h13 [a0, aL, aP, aR, a1, d] := Kp11.wr W13 (Or.inl (List.mem_of_getElem? (i := 2) rfl))
  refine .pre (fun _ kq => st13 _ kq) ?_
  show OwnEnds p e below _ (T13.setTop (mkF m 139 #[.val (.ref a0), .val (.ref a1), .val (.int (-1 : Int32)), .val (.int (-1 : Int32)), .val (.int (1 : Int32)), .val (.int k)] []))
  refine .pre (fun _ kq => XS.aloadN X13.here hx rfl (hb hby d16_139) rfl rfl kq) ?_
  show OwnEnds p e below _ (T13.setTop (mkF m 140 #[.val (.ref a0), .val (.ref a1), .val (.int (-1 : Int32)), .val (.int (-1 : Int32)), .val (.int (1 : Int32)), .val (.int k)] [(.ref a0)]))
  obtain ⟨T14, X14, e14, st14⟩ := getF X13 hx hZ hown (host := "") (Or.inl (hw _ (List.mem_of_getElem? (i := 73) rfl))) Via.refl e13 ((G2.keep K11 (own_nin2 (own_nd D 0 1 rfl rfl (by decide)) (own_nd D 0 9 rfl rfl (by decide)))).other W13 (Or.inl (own_nd D 0 2 rfl rfl (by decide)))) (g := (mkF m 140 #[.val (.ref a0), .val (.ref a1), .val (.int (-1 : Int32)), .val (.int (-1 : Int32)), .val (.int (1 : Int32)), .val (.int k)] [(.ref a0)])) rfl rfl (hb hby d16_140)
  refine .pre (fun _ kq => st14 _ kq) ?_
  show OwnEnds p e below _ (T14.setTop (mkF m 143 #[.val (.ref a0), .val (.ref a1), .val (.int (-1 : Int32)), .val (.int (-1 : Int32)), .val (.int (1 : Int32)), .val (.int k)] [(.ref aR)]))
  refine .pre (fun _ kq => XS.iload X14.here hx rfl (hb hby d16_143) rfl kq) ?_
  show OwnEnds p e below _ (T14.setTop (mkF m 145 #[.val (.ref a0), .val (.ref a1), .val (.int (-1 : Int32)), .val (.int (-1 : Int32)), .val (.int (1 : Int32)), .val (.int k)] [(.int k), (.ref aR)]))
  refine .pre (fun _ kq => XS.iloadN X14.here hx rfl (hb hby d16_145) rfl kq) ?_
  show OwnEnds p e below _ (T14.setTop (mkF m 146 #[.val (.ref a0), .val (.ref a1), .val (.int (-1 : Int32)), .val (.int (-1 : Int32)), .val (.int (1 : Int32)), .val (.int k)] [(.int (-1 : Int32)), (.int k), (.ref aR)]))
  obtain ⟨cl15, Ar15, qs15, qh15⟩ := id ((AR.keep K11 (own_nin2 (Ne.symm (own_nd D 1 3 rfl rfl (by decide))) (own_nd D 3 9 rfl rfl (by decide)))).other W13 (Ne.symm (own_nd D 2 3 rfl rfl (by decide))))
  have hj15 : 0 ≤ (k).toInt ∧ (k).toInt < 1024 := ⟨hk.1, by have := hk.2; omega⟩
  obtain ⟨T15, h15, X15, e15, W15, st15⟩ := stI X14 hx hZ e14 Ar15 (j := k) (own_in1024 qs15 hj15) (g := (mkF m 146 #[.val (.ref a0), .val (.ref a1), .val (.int (-1 : Int32)), .val (.int (-1 : Int32)), .val (.int (1 : Int32)), .val (.int k)] [(.int (-1 : Int32)), (.int k), (.ref aR)])) rfl rfl (hb hby d16_146)
  have V15 : OwnA Z h15 aR (own_upd fR (k).toNatClampNeg (-1 : Int32)) := OwnA.set Ar15 qs15 qh15 W15
  have N15 := Fr.snoc X15 N13 g_aR
  have Kp15 : Keep h0 h15 [a0, aL, aP, aR, a1, d] := Kp13.wr W15 (Or.inl (List.mem_of_getElem? (i := 3) rfl))
  refine .pre (fun _ kq => st15 _ kq) ?_
  show OwnEnds p e below _ (T15.setTop (mkF m 147 #[.val (.ref a0), .val (.ref a1), .val (.int (-1 : Int32)), .val (.int (-1 : Int32)), .val (.int (1 : Int32)), .val (.int k)] []))
  refine .pre (fun _ kq => XS.aloadN X15.here hx rfl (hb hby d16_147) rfl rfl kq) ?_
  show OwnEnds p e below _ (T15.setTop (mkF m 148 #[.val (.ref a0), .val (.ref a1), .val (.int (-1 : Int32)), .val (.int (-1 : Int32)), .val (.int (1 : Int32)), .val (.int k)] [(.ref a0)]))
  refine .pre (fun _ kq => XS.dup X15.here hx rfl (hb hby d16_148) rfl rfl kq) ?_
  show OwnEnds p e below _ (T15.setTop (mkF m 149 #[.val (.ref a0), .val (.ref a1), .val (.int (-1 : Int32)), .val (.int (-1 : Int32)), .val (.int (1 : Int32)), .val (.int k)] [(.ref a0), (.ref a0)]))
  obtain ⟨T16, X16, e16, st16⟩ := getF X15 hx hZ hown (host := "") (Or.inl (hw _ (List.mem_of_getElem? (i := 172) rfl))) Via.refl e15 (((G9.keep K11 (own_nin2 (own_nd D 0 1 rfl rfl (by decide)) (own_nd D 0 9 rfl rfl (by decide)))).other W13 (Or.inl (own_nd D 0 2 rfl rfl (by decide)))).other W15 (Or.inl (own_nd D 0 3 rfl rfl (by decide)))) (g := (mkF m 149 #[.val (.ref a0), .val (.ref a1), .val (.int (-1 : Int32)), .val (.int (-1 : Int32)), .val (.int (1 : Int32)), .val (.int k)] [(.ref a0), (.ref a0)])) rfl rfl (hb hby d16_149)
  refine .pre (fun _ kq => st16 _ kq) ?_
  show OwnEnds p e below _ (T16.setTop (mkF m 152 #[.val (.ref a0), .val (.ref a1), .val (.int (-1 : Int32)), .val (.int (-1 : Int32)), .val (.int (1 : Int32)), .val (.int k)] [(.int ini), (.ref a0)]))
  refine .pre (fun _ kq => XS.iloadN X16.here hx rfl (hb hby d16_152) rfl kq) ?_
  show OwnEnds p e below _ (T16.setTop (mkF m 153 #[.val (.ref a0), .val (.ref a1), .val (.int (-1 : Int32)), .val (.int (-1 : Int32)), .val (.int (1 : Int32)), .val (.int k)] [(.int (-1 : Int32)), (.int ini), (.ref a0)]))
  have hc153 : ((-1 : Int32) < (0 : Int32)) := by decide
  refine .pre (fun _ kq => XS.ifNo X16.here hx rfl (hb hby d16_153) rfl ((if0 _ _).trans (tlt hc153).2.1) kq) ?_
  show OwnEnds p e below _ (T16.setTop (mkF m 156 #[.val (.ref a0), .val (.ref a1), .val (.int (-1 : Int32)), .val (.int (-1 : Int32)), .val (.int (1 : Int32)), .val (.int k)] [(.int ini), (.ref a0)]))
  refine .pre (fun _ kq => XS.iconst X16.here hx rfl (hb hby d16_156) kq) ?_
  show OwnEnds p e below _ (T16.setTop (mkF m 157 #[.val (.ref a0), .val (.ref a1), .val (.int (-1 : Int32)), .val (.int (-1 : Int32)), .val (.int (1 : Int32)), .val (.int k)] [(.int (1 : Int32)), (.int ini), (.ref a0)]))
  refine .pre (fun _ kq => XS.goto X16.here hx rfl (pc0 := 157) (pc' := 161) rfl (hb hby d16_157) (by decide) (by decide) kq) ?_
  show OwnEnds p e below _ (T16.setTop (mkF m 161 #[.val (.ref a0), .val (.ref a1), .val (.int (-1 : Int32)), .val (.int (-1 : Int32)), .val (.int (1 : Int32)), .val (.int k)] [(.int (1 : Int32)), (.int ini), (.ref a0)]))
  refine .pre (fun _ kq => XS.iadd X16.here hx rfl (hb hby d16_161) rfl kq) ?_
  show OwnEnds p e below _ (T16.setTop (mkF m 162 #[.val (.ref a0), .val (.ref a1), .val (.int (-1 : Int32)), .val (.int (-1 : Int32)), .val (.int (1 : Int32)), .val (.int k)] [(.int (ini + (1 : Int32))), (.ref a0)]))
  obtain ⟨T17, h17, X17, e17, W17, st17⟩ := putF X16 hx hZ hown (host := "") (Or.inl (hw _ (List.mem_of_getElem? (i := 172) rfl))) Via.refl e16 (((G9.keep K11 (own_nin2 (own_nd D 0 1 rfl rfl (by decide)) (own_nd D 0 9 rfl rfl (by decide)))).other W13 (Or.inl (own_nd D 0 2 rfl rfl (by decide)))).other W15 (Or.inl (own_nd D 0 3 rfl rfl (by decide)))) (((EG.keep K11).wr W13).wr W15) (Or.inl (hw _ (List.mem_of_getElem? (i := 173) rfl))) (hw _ (List.mem_of_getElem? (i := 19) rfl)) (ty := .int) (by decide) rfl rfl (g := (mkF m 162 #[.val (.ref a0), .val (.ref a1), .val (.int (-1 : Int32)), .val (.int (-1 : Int32)), .val (.int (1 : Int32)), .val (.int k)] [(.int (ini + (1 : Int32))), (.ref a0)])) rfl rfl (hb hby d16_162)
  have Fw17 := (((G9.keep K11 (own_nin2 (own_nd D 0 1 rfl rfl (by decide)) (own_nd D 0 9 rfl rfl (by decide)))).other W13 (Or.inl (own_nd D 0 2 rfl rfl (by decide)))).other W15 (Or.inl (own_nd D 0 3 rfl rfl (by decide)))).same W17
  have N17 := Fr.snoc X17 N15 g_a0
  have Kp17 : Keep h0 h17 [a0, aL, aP, aR, a1, d] := Kp15.wr W17 (Or.inl (List.mem_of_getElem? (i := 0) rfl))
  refine .pre (fun _ kq => st17 _ kq) ?_
  show OwnEnds p e below _ (T17.setTop (mkF m 165 #[.val (.ref a0), .val (.ref a1), .val (.int (-1 : Int32)), .val (.int (-1 : Int32)), .val (.int (1 : Int32)), .val (.int k)] []))
  refine .pre (fun _ kq => XS.aloadN X17.here hx rfl (hb hby d16_165) rfl rfl kq) ?_
  show OwnEnds p e below _ (T17.setTop (mkF m 166 #[.val (.ref a0), .val (.ref a1), .val (.int (-1 : Int32)), .val (.int (-1 : Int32)), .val (.int (1 : Int32)), .val (.int k)] [(.ref a1)]))
  refine .pre (fun _ kq => XS.iload X17.here hx rfl (hb hby d16_166) rfl kq) ?_
  show OwnEnds p e below _ (T17.setTop (mkF m 168 #[.val (.ref a0), .val (.ref a1), .val (.int (-1 : Int32)), .val (.int (-1 : Int32)), .val (.int (1 : Int32)), .val (.int k)] [(.int k), (.ref a1)]))
  obtain ⟨cq18, kq18, q18a, q18b, q18c⟩ := isOf hZ e17 ((((fsE.keep K11).wr W13).wr W15).wr W17)
  obtain ⟨_, _, ⟨T18, L18, k18, n18⟩, -, X18, ⟨Lc18, hQ18, l18, y18, z18⟩, st18⟩ := X17.virtualBack hx (y := (⟨"com/example/changeset/changeset/check/FoundState", "number", "(I)V"⟩ : MethodName)) (z := (⟨"com/example/changeset/changeset/check/FoundState", "number", "(I)V"⟩ : MethodName)) hown (mvT hZ (hw _ (List.mem_of_getElem? (i := 174) rfl))) (mvT hZ (hw _ (List.mem_of_getElem? (i := 175) rfl))) (notFace_of_selects (args := #[]) (mvT hZ (hw _ (List.mem_of_getElem? (i := 177) rfl)))) (mvT hZ (hw _ (List.mem_of_getElem? (i := 177) rfl))) (mvT hZ (hw _ (List.mem_of_getElem? (i := 176) rfl))) (by decide) (backOf (W := 0) (rm24 l Z aZ hw [] a1 k (.int (-1 : Int32)) (.ref w0) h17 n0 (Nat.le_trans (Nat.le_trans (Nat.le_trans (Nat.le_trans Z0 K11.1) (Keep.of_wr W13).1) (Keep.of_wr W15).1) (Keep.of_wr W17).1) g_a1 ((((fsE.keep K11).wr W13).wr W15).wr W17) ((((fsN.keep K11 (own_nin2 (Ne.symm (own_nd D 1 8 rfl rfl (by decide))) (own_nd D 8 9 rfl rfl (by decide)))).other W13 (Or.inl (Ne.symm (own_nd D 2 8 rfl rfl (by decide))))).other W15 (Or.inl (Ne.symm (own_nd D 3 8 rfl rfl (by decide))))).other W17 (Or.inl (Ne.symm (own_nd D 0 8 rfl rfl (by decide))))) ((((fsS.keep K11 (own_nin2 (Ne.symm (own_nd D 1 8 rfl rfl (by decide))) (own_nd D 8 9 rfl rfl (by decide)))).other W13 (Or.inl (Ne.symm (own_nd D 2 8 rfl rfl (by decide))))).other W15 (Or.inl (Ne.symm (own_nd D 3 8 rfl rfl (by decide))))).other W17 (Or.inl (Ne.symm (own_nd D 0 8 rfl rfl (by decide)))))) hZ (hw _ (List.mem_of_getElem? (i := 178) rfl)) (hw _ (List.mem_of_getElem? (i := 107) rfl)) (by decide) (by decide)) q18a q18c (g := (mkF m 168 #[.val (.ref a0), .val (.ref a1), .val (.int (-1 : Int32)), .val (.int (-1 : Int32)), .val (.int (1 : Int32)), .val (.int k)] [(.int k), (.ref a1)])) rfl (by rw [hml]; rfl) (Steps.refl _) (argsL := [(.int k)]) (rest := []) (lenOf pd_15 rfl) rfl (by show 2 * 0 + _ ≤ _; exact Nat.le_of_eq rfl) (hb hby d16_168) (fun _ _ => ⟨rfl, e17, (by decide : 0 + 0 ≤ _), (by decide : 0 + 0 ≤ _)⟩)
  dsimp only [Pt.U, Pt.locs, Pt.cells, Pt.slots] at X18 l18 y18 z18 st18 hQ18
  try dsimp only [Nat.reduceAdd] at y18 z18
  subst y18 z18
  obtain ⟨rfl, N18q, K18, Ea18, Fa18_0, Fa18_1⟩ := hQ18
  have N18 : Fr n0 L18 := by rw [l18]; exact Fr.app N17 N18q
  refine .pre (fun _ kq => st18.trans kq) ?_
  have Kp18 : Keep h0 T18.heap [a0, aL, aP, aR, a1, d] := Kp17.trans K18 (allS (Or.inl (List.mem_of_getElem? (i := 4) rfl)) all0)
  show OwnEnds p e below _ (T18.setTop (mkF m 171 #[.val (.ref a0), .val (.ref a1), .val (.int (-1 : Int32)), .val (.int (-1 : Int32)), .val (.int (1 : Int32)), .val (.int k)] []))
  refine .pre (fun _ kq => XS.aloadN X18.here hx rfl (hb hby d16_171) rfl rfl kq) ?_
  show OwnEnds p e below _ (T18.setTop (mkF m 172 #[.val (.ref a0), .val (.ref a1), .val (.int (-1 : Int32)), .val (.int (-1 : Int32)), .val (.int (1 : Int32)), .val (.int k)] [(.ref a0)]))
  obtain ⟨T19, X19, e19, st19⟩ := getF X18 hx hZ hown (host := "") (Or.inl (hw _ (List.mem_of_getElem? (i := 79) rfl))) Via.refl rfl (((((G4.keep K11 (own_nin2 (own_nd D 0 1 rfl rfl (by decide)) (own_nd D 0 9 rfl rfl (by decide)))).other W13 (Or.inl (own_nd D 0 2 rfl rfl (by decide)))).other W15 (Or.inl (own_nd D 0 3 rfl rfl (by decide)))).other W17 (Or.inr (slot_ne (Or.inr (hw _ (List.mem_of_getElem? (i := 80) rfl))) (Or.inl (hw _ (List.mem_of_getElem? (i := 173) rfl))) (by decide) (t := .boolean) (t' := .int) (by decide) (by decide)))).keep K18 (own_nin1 (own_nd D 0 8 rfl rfl (by decide)))) (g := (mkF m 172 #[.val (.ref a0), .val (.ref a1), .val (.int (-1 : Int32)), .val (.int (-1 : Int32)), .val (.int (1 : Int32)), .val (.int k)] [(.ref a0)])) rfl rfl (hb hby d16_172)
  refine .pre (fun _ kq => st19 _ kq) ?_
  show OwnEnds p e below _ (T19.setTop (mkF m 175 #[.val (.ref a0), .val (.ref a1), .val (.int (-1 : Int32)), .val (.int (-1 : Int32)), .val (.int (1 : Int32)), .val (.int k)] [(.int (1 : Int32))]))
  have hc175 : ¬ ((1 : Int32) = (0 : Int32)) := by decide
  refine .pre (fun _ kq => XS.ifNo X19.here hx rfl (hb hby d16_175) rfl ((if0 _ _).trans (feq hc175).1) kq) ?_
  show OwnEnds p e below _ (T19.setTop (mkF m 178 #[.val (.ref a0), .val (.ref a1), .val (.int (-1 : Int32)), .val (.int (-1 : Int32)), .val (.int (1 : Int32)), .val (.int k)] []))
  refine .pre (fun _ kq => XS.iloadN X19.here hx rfl (hb hby d16_178) rfl kq) ?_
  show OwnEnds p e below _ (T19.setTop (mkF m 179 #[.val (.ref a0), .val (.ref a1), .val (.int (-1 : Int32)), .val (.int (-1 : Int32)), .val (.int (1 : Int32)), .val (.int k)] [(.int (-1 : Int32))]))
  have hc179 : ((-1 : Int32) < (0 : Int32)) := by decide
  refine .pre (fun _ kq => XS.ifYes X19.here hx rfl (pc0 := 179) (pc' := 192) rfl (hb hby d16_179) rfl ((if0 _ _).trans (tlt hc179).1) (by decide) (by decide) kq) ?_
  show OwnEnds p e below _ (T19.setTop (mkF m 192 #[.val (.ref a0), .val (.ref a1), .val (.int (-1 : Int32)), .val (.int (-1 : Int32)), .val (.int (1 : Int32)), .val (.int k)] []))
  refine .pre (fun _ kq => XS.iload X19.here hx rfl (hb hby d16_192) rfl kq) ?_
  show OwnEnds p e below _ (T19.setTop (mkF m 194 #[.val (.ref a0), .val (.ref a1), .val (.int (-1 : Int32)), .val (.int (-1 : Int32)), .val (.int (1 : Int32)), .val (.int k)] [(.int (1 : Int32))]))
  exact own_endN X19 hx hlk (t := .boolean) Bd.returns (by simp) (hb hby d16_194) rfl (by decide) (by decide) ⟨rfl, N18, (by rw [e19]; exact Kp18), ⟨(by rw [e19]; exact (((((EG.keep K11).wr W13).wr W15).wr W17).keep K18)), (by rw [e19]; exact (((((G0.keep K11 (own_nin2 (own_nd D 0 1 rfl rfl (by decide)) (own_nd D 0 9 rfl rfl (by decide)))).other W13 (Or.inl (own_nd D 0 2 rfl rfl (by decide)))).other W15 (Or.inl (own_nd D 0 3 rfl rfl (by decide)))).other W17 (Or.inr (slot_ne (Or.inr (hw _ (List.mem_of_getElem? (i := 69) rfl))) (Or.inl (hw _ (List.mem_of_getElem? (i := 173) rfl))) (by decide) (t := (.object "java/util/List")) (t' := .int) (by decide) (by decide)))).keep K18 (own_nin1 (own_nd D 0 8 rfl rfl (by decide))))), (by rw [e19]; exact (((((G1.keep K11 (own_nin2 (own_nd D 0 1 rfl rfl (by decide)) (own_nd D 0 9 rfl rfl (by decide)))).other W13 (Or.inl (own_nd D 0 2 rfl rfl (by decide)))).other W15 (Or.inl (own_nd D 0 3 rfl rfl (by decide)))).other W17 (Or.inr (slot_ne (Or.inl (hw _ (List.mem_of_getElem? (i := 72) rfl))) (Or.inl (hw _ (List.mem_of_getElem? (i := 173) rfl))) (by decide) (t := (.array .int)) (t' := .int) (by decide) (by decide)))).keep K18 (own_nin1 (own_nd D 0 8 rfl rfl (by decide))))), (by rw [e19]; exact (((((G2.keep K11 (own_nin2 (own_nd D 0 1 rfl rfl (by decide)) (own_nd D 0 9 rfl rfl (by decide)))).other W13 (Or.inl (own_nd D 0 2 rfl rfl (by decide)))).other W15 (Or.inl (own_nd D 0 3 rfl rfl (by decide)))).other W17 (Or.inr (slot_ne (Or.inl (hw _ (List.mem_of_getElem? (i := 74) rfl))) (Or.inl (hw _ (List.mem_of_getElem? (i := 173) rfl))) (by decide) (t := (.array .int)) (t' := .int) (by decide) (by decide)))).keep K18 (own_nin1 (own_nd D 0 8 rfl rfl (by decide))))), (by rw [e19]; exact (((((G3.keep K11 (own_nin2 (own_nd D 0 1 rfl rfl (by decide)) (own_nd D 0 9 rfl rfl (by decide)))).other W13 (Or.inl (own_nd D 0 2 rfl rfl (by decide)))).other W15 (Or.inl (own_nd D 0 3 rfl rfl (by decide)))).other W17 (Or.inr (slot_ne (Or.inl (hw _ (List.mem_of_getElem? (i := 76) rfl))) (Or.inl (hw _ (List.mem_of_getElem? (i := 173) rfl))) (by decide) (t := .int) (t' := .int) (by decide) (by decide)))).keep K18 (own_nin1 (own_nd D 0 8 rfl rfl (by decide))))), (by rw [e19]; exact (((((G4.keep K11 (own_nin2 (own_nd D 0 1 rfl rfl (by decide)) (own_nd D 0 9 rfl rfl (by decide)))).other W13 (Or.inl (own_nd D 0 2 rfl rfl (by decide)))).other W15 (Or.inl (own_nd D 0 3 rfl rfl (by decide)))).other W17 (Or.inr (slot_ne (Or.inr (hw _ (List.mem_of_getElem? (i := 80) rfl))) (Or.inl (hw _ (List.mem_of_getElem? (i := 173) rfl))) (by decide) (t := .boolean) (t' := .int) (by decide) (by decide)))).keep K18 (own_nin1 (own_nd D 0 8 rfl rfl (by decide))))), (by rw [e19]; exact (((((G5.keep K11 (own_nin2 (own_nd D 0 1 rfl rfl (by decide)) (own_nd D 0 9 rfl rfl (by decide)))).other W13 (Or.inl (own_nd D 0 2 rfl rfl (by decide)))).other W15 (Or.inl (own_nd D 0 3 rfl rfl (by decide)))).other W17 (Or.inr (slot_ne (Or.inl (hw _ (List.mem_of_getElem? (i := 82) rfl))) (Or.inl (hw _ (List.mem_of_getElem? (i := 173) rfl))) (by decide) (t := (.array .int)) (t' := .int) (by decide) (by decide)))).keep K18 (own_nin1 (own_nd D 0 8 rfl rfl (by decide))))), (by rw [e19]; exact (((((G6.keep K11 (own_nin2 (own_nd D 0 1 rfl rfl (by decide)) (own_nd D 0 9 rfl rfl (by decide)))).other W13 (Or.inl (own_nd D 0 2 rfl rfl (by decide)))).other W15 (Or.inl (own_nd D 0 3 rfl rfl (by decide)))).other W17 (Or.inr (slot_ne (Or.inl (hw _ (List.mem_of_getElem? (i := 84) rfl))) (Or.inl (hw _ (List.mem_of_getElem? (i := 173) rfl))) (by decide) (t := (.array .int)) (t' := .int) (by decide) (by decide)))).keep K18 (own_nin1 (own_nd D 0 8 rfl rfl (by decide))))), (by rw [e19]; exact (((((G7.keep K11 (own_nin2 (own_nd D 0 1 rfl rfl (by decide)) (own_nd D 0 9 rfl rfl (by decide)))).other W13 (Or.inl (own_nd D 0 2 rfl rfl (by decide)))).other W15 (Or.inl (own_nd D 0 3 rfl rfl (by decide)))).other W17 (Or.inr (slot_ne (Or.inl (hw _ (List.mem_of_getElem? (i := 86) rfl))) (Or.inl (hw _ (List.mem_of_getElem? (i := 173) rfl))) (by decide) (t := (.array .int)) (t' := .int) (by decide) (by decide)))).keep K18 (own_nin1 (own_nd D 0 8 rfl rfl (by decide))))), (by rw [e19]; exact (((((G8.keep K11 (own_nin2 (own_nd D 0 1 rfl rfl (by decide)) (own_nd D 0 9 rfl rfl (by decide)))).other W13 (Or.inl (own_nd D 0 2 rfl rfl (by decide)))).other W15 (Or.inl (own_nd D 0 3 rfl rfl (by decide)))).other W17 (Or.inr (slot_ne (Or.inl (hw _ (List.mem_of_getElem? (i := 88) rfl))) (Or.inl (hw _ (List.mem_of_getElem? (i := 173) rfl))) (by decide) (t := (.array .int)) (t' := .int) (by decide) (by decide)))).keep K18 (own_nin1 (own_nd D 0 8 rfl rfl (by decide))))), (by rw [e19]; exact (Fw17.keep K18 (own_nin1 (own_nd D 0 8 rfl rfl (by decide))))), (by rw [e19]; exact (((((G10.keep K11 (own_nin2 (own_nd D 0 1 rfl rfl (by decide)) (own_nd D 0 9 rfl rfl (by decide)))).other W13 (Or.inl (own_nd D 0 2 rfl rfl (by decide)))).other W15 (Or.inl (own_nd D 0 3 rfl rfl (by decide)))).other W17 (Or.inr (slot_ne (Or.inl (hw _ (List.mem_of_getElem? (i := 184) rfl))) (Or.inl (hw _ (List.mem_of_getElem? (i := 173) rfl))) (by decide) (t := .int) (t' := .int) (by decide) (by decide)))).keep K18 (own_nin1 (own_nd D 0 8 rfl rfl (by decide))))), ⟨_, (by rw [e19]; exact (((V13.other W15 (own_nd D 2 3 rfl rfl (by decide))).other W17 (Ne.symm (own_nd D 0 2 rfl rfl (by decide)))).keep K18 (own_nin1 (own_nd D 2 8 rfl rfl (by decide)))))⟩, ⟨_, (by rw [e19]; exact ((V15.other W17 (Ne.symm (own_nd D 0 3 rfl rfl (by decide)))).keep K18 (own_nin1 (own_nd D 3 8 rfl rfl (by decide)))))⟩, (by rw [e19]; exact (((((AF.keep K11 (own_nin2 (Ne.symm (own_nd D 1 4 rfl rfl (by decide))) (own_nd D 4 9 rfl rfl (by decide)))).other W13 (Ne.symm (own_nd D 2 4 rfl rfl (by decide)))).other W15 (Ne.symm (own_nd D 3 4 rfl rfl (by decide)))).other W17 (Ne.symm (own_nd D 0 4 rfl rfl (by decide)))).keep K18 (own_nin1 (own_nd D 4 8 rfl rfl (by decide))))), (by rw [e19]; exact (((((AE.keep K11 (own_nin2 (Ne.symm (own_nd D 1 5 rfl rfl (by decide))) (own_nd D 5 9 rfl rfl (by decide)))).other W13 (Ne.symm (own_nd D 2 5 rfl rfl (by decide)))).other W15 (Ne.symm (own_nd D 3 5 rfl rfl (by decide)))).other W17 (Ne.symm (own_nd D 0 5 rfl rfl (by decide)))).keep K18 (own_nin1 (own_nd D 5 8 rfl rfl (by decide))))), ⟨_, (by rw [e19]; exact (((((AT.keep K11 (own_nin2 (Ne.symm (own_nd D 1 6 rfl rfl (by decide))) (own_nd D 6 9 rfl rfl (by decide)))).other W13 (Ne.symm (own_nd D 2 6 rfl rfl (by decide)))).other W15 (Ne.symm (own_nd D 3 6 rfl rfl (by decide)))).other W17 (Ne.symm (own_nd D 0 6 rfl rfl (by decide)))).keep K18 (own_nin1 (own_nd D 6 8 rfl rfl (by decide)))))⟩, ⟨_, (by rw [e19]; exact (((((AA.keep K11 (own_nin2 (Ne.symm (own_nd D 1 7 rfl rfl (by decide))) (own_nd D 7 9 rfl rfl (by decide)))).other W13 (Ne.symm (own_nd D 2 7 rfl rfl (by decide)))).other W15 (Ne.symm (own_nd D 3 7 rfl rfl (by decide)))).other W17 (Ne.symm (own_nd D 0 7 rfl rfl (by decide)))).keep K18 (own_nin1 (own_nd D 7 8 rfl rfl (by decide)))))⟩⟩, ⟨(by rw [e19]; exact ((((Lq11_0.wr W13).wr W15).wr W17).keep K18)), ⟨_, (by rw [e19]; exact ((((Lq11_1.other W13 (Or.inl (own_nd D 1 2 rfl rfl (by decide)))).other W15 (Or.inl (own_nd D 1 3 rfl rfl (by decide)))).other W17 (Or.inl (Ne.symm (own_nd D 0 1 rfl rfl (by decide))))).keep K18 (own_nin1 (own_nd D 1 8 rfl rfl (by decide)))))⟩, (by rw [e19]; exact ((((Lq11_2.other W13 (Or.inl (own_nd D 1 2 rfl rfl (by decide)))).other W15 (Or.inl (own_nd D 1 3 rfl rfl (by decide)))).other W17 (Or.inl (Ne.symm (own_nd D 0 1 rfl rfl (by decide))))).keep K18 (own_nin1 (own_nd D 1 8 rfl rfl (by decide))))), (by rw [e19]; exact ((((Lq11_3.other W13 (Or.inl (own_nd D 1 2 rfl rfl (by decide)))).other W15 (Or.inl (own_nd D 1 3 rfl rfl (by decide)))).other W17 (Or.inl (Ne.symm (own_nd D 0 1 rfl rfl (by decide))))).keep K18 (own_nin1 (own_nd D 1 8 rfl rfl (by decide))))), (by rw [e19]; exact ((((Lq11_4.other W13 (Ne.symm (own_nd D 2 9 rfl rfl (by decide)))).other W15 (Ne.symm (own_nd D 3 9 rfl rfl (by decide)))).other W17 (Ne.symm (own_nd D 0 9 rfl rfl (by decide)))).keep K18 (own_nin1 (Ne.symm (own_nd D 8 9 rfl rfl (by decide))))))⟩, (by rw [e19]; exact Ea18), (by rw [e19]; exact Fa18_0), (by rw [e19]; exact Fa18_1)⟩
abbrev OwnGT : Type := Int32 × Int32 × (Nat → Int32) × (Nat → Int32)
def own_fill (F : Nat → Int32) (w fr e : Int32) : Nat → Int32 := fun i => if w.toInt < (i : Int) ∧ (i : Int) ≤ fr.toInt then e else F i
def own_addE (wl ed : Int32) (FF EE : Nat → Int32) (fr to : Int32) : OwnGT := if fr = to ∨ EE to.toNatClampNeg = fr + 1 then (wl, ed, FF, EE) else (fr, ed + 1, own_fill FF wl fr ed, own_upd EE to.toNatClampNeg (fr + 1))
def OwnGx (Z : State) (h : Heap) (g aL aP aR aF aE aT aA : Addr) (ini : Int32) (G : OwnGT) : Prop := OwnG Z h g aL aP aR aF aE aT aA G.1 G.2.1 ini G.2.2.1 G.2.2.2
theorem own_fill_self (F : Nat → Int32) (w e : Int32) : own_fill F w w e = F := by
  funext i
  unfold own_fill
  rw [if_neg (by omega)]
theorem own_fill_step (F : Nat → Int32) (w c e : Int32) (h : w.toInt ≤ c.toInt) (h1 : -1 ≤ c.toInt) (hs : (c + 1).toInt = c.toInt + 1) : own_upd (own_fill F w c e) (c + 1).toNatClampNeg e = own_fill F w (c + 1) e := by
  funext i
  unfold own_upd own_fill
  have hn : (c + 1).toNatClampNeg = (c.toInt + 1).toNat := by show (c + 1).toInt.toNat = _; rw [hs]
  rw [hn, hs]
  by_cases q : i = (c.toInt + 1).toNat
  · rw [if_pos q, if_pos (by omega)]
  · rw [if_neg q]
    by_cases q2 : w.toInt < (i : Int) ∧ (i : Int) ≤ c.toInt
    · rw [if_pos q2, if_pos (by omega)]
    · rw [if_neg q2, if_neg (by omega)]
theorem own_plus1 (c : Int32) (h1 : -5 ≤ c.toInt) (h2 : c.toInt ≤ 100) : (c + 1).toInt = c.toInt + 1 := by
  have o1 : (1 : Int32).toInt = 1 := rfl
  rw [Jvm.Kit.i32_add (by rw [o1]; omega) (by rw [o1]; omega), o1]
theorem d25_0 : decode prog_39_method_4_code 0 = .ok (.iload_n 1, 1) := by decide +kernel
theorem d25_1 : decode prog_39_method_4_code 1 = .ok (.aload_n 0, 1) := by decide +kernel
theorem d25_2 : decode prog_39_method_4_code 2 = .ok (.getfield 30, 3) := by decide +kernel
theorem d25_5 : decode prog_39_method_4_code 5 = .ok (.if_icmp .ge 17, 3) := by decide +kernel
theorem d25_8 : decode prog_39_method_4_code 8 = .ok (.new 94, 3) := by decide +kernel
theorem d25_11 : decode prog_39_method_4_code 11 = .ok (.dup, 1) := by decide +kernel
theorem d25_12 : decode prog_39_method_4_code 12 = .ok (.iload_n 1, 1) := by decide +kernel
theorem d25_13 : decode prog_39_method_4_code 13 = .ok (.invokedynamic 96, 5) := by decide +kernel
theorem d25_18 : decode prog_39_method_4_code 18 = .ok (.invokespecial 100, 3) := by decide +kernel
theorem d25_21 : decode prog_39_method_4_code 21 = .ok (.athrow, 1) := by decide +kernel
theorem d25_22 : decode prog_39_method_4_code 22 = .ok (.iload_n 1, 1) := by decide +kernel
theorem d25_23 : decode prog_39_method_4_code 23 = .ok (.iload_n 2, 1) := by decide +kernel
theorem d25_24 : decode prog_39_method_4_code 24 = .ok (.if_icmp .eq 15, 3) := by decide +kernel
theorem d25_27 : decode prog_39_method_4_code 27 = .ok (.aload_n 0, 1) := by decide +kernel
theorem d25_28 : decode prog_39_method_4_code 28 = .ok (.getfield 44, 3) := by decide +kernel
theorem d25_31 : decode prog_39_method_4_code 31 = .ok (.iload_n 2, 1) := by decide +kernel
theorem d25_32 : decode prog_39_method_4_code 32 = .ok (.iaload, 1) := by decide +kernel
theorem d25_33 : decode prog_39_method_4_code 33 = .ok (.iload_n 1, 1) := by decide +kernel
theorem d25_34 : decode prog_39_method_4_code 34 = .ok (.iconst 1, 1) := by decide +kernel
theorem d25_35 : decode prog_39_method_4_code 35 = .ok (.iadd, 1) := by decide +kernel
theorem d25_36 : decode prog_39_method_4_code 36 = .ok (.if_icmp .ne 4, 3) := by decide +kernel
theorem d25_39 : decode prog_39_method_4_code 39 = .ok (.return_, 1) := by decide +kernel
theorem d25_40 : decode prog_39_method_4_code 40 = .ok (.aload_n 0, 1) := by decide +kernel
theorem d25_41 : decode prog_39_method_4_code 41 = .ok (.getfield 30, 3) := by decide +kernel
theorem d25_44 : decode prog_39_method_4_code 44 = .ok (.iload_n 1, 1) := by decide +kernel
theorem d25_45 : decode prog_39_method_4_code 45 = .ok (.if_icmp .ge 26, 3) := by decide +kernel
theorem d25_48 : decode prog_39_method_4_code 48 = .ok (.aload_n 0, 1) := by decide +kernel
theorem d25_49 : decode prog_39_method_4_code 49 = .ok (.getfield 41, 3) := by decide +kernel
theorem d25_52 : decode prog_39_method_4_code 52 = .ok (.aload_n 0, 1) := by decide +kernel
theorem d25_53 : decode prog_39_method_4_code 53 = .ok (.dup, 1) := by decide +kernel
theorem d25_54 : decode prog_39_method_4_code 54 = .ok (.getfield 30, 3) := by decide +kernel
theorem d25_57 : decode prog_39_method_4_code 57 = .ok (.iconst 1, 1) := by decide +kernel
theorem d25_58 : decode prog_39_method_4_code 58 = .ok (.iadd, 1) := by decide +kernel
theorem d25_59 : decode prog_39_method_4_code 59 = .ok (.dup_x1, 1) := by decide +kernel
theorem d25_60 : decode prog_39_method_4_code 60 = .ok (.putfield 30, 3) := by decide +kernel
theorem d25_63 : decode prog_39_method_4_code 63 = .ok (.aload_n 0, 1) := by decide +kernel
theorem d25_64 : decode prog_39_method_4_code 64 = .ok (.getfield 103, 3) := by decide +kernel
theorem d25_67 : decode prog_39_method_4_code 67 = .ok (.iastore, 1) := by decide +kernel
theorem d25_68 : decode prog_39_method_4_code 68 = .ok (.goto (-28), 3) := by decide +kernel
theorem d25_71 : decode prog_39_method_4_code 71 = .ok (.aload_n 0, 1) := by decide +kernel
theorem d25_72 : decode prog_39_method_4_code 72 = .ok (.getfield 103, 3) := by decide +kernel
theorem d25_75 : decode prog_39_method_4_code 75 = .ok (.aload_n 0, 1) := by decide +kernel
theorem d25_76 : decode prog_39_method_4_code 76 = .ok (.getfield 47, 3) := by decide +kernel
theorem d25_79 : decode prog_39_method_4_code 79 = .ok (.arraylength, 1) := by decide +kernel
theorem d25_80 : decode prog_39_method_4_code 80 = .ok (.if_icmp .ne 37, 3) := by decide +kernel
theorem d25_83 : decode prog_39_method_4_code 83 = .ok (.aload_n 0, 1) := by decide +kernel
theorem d25_84 : decode prog_39_method_4_code 84 = .ok (.aload_n 0, 1) := by decide +kernel
theorem d25_85 : decode prog_39_method_4_code 85 = .ok (.getfield 47, 3) := by decide +kernel
theorem d25_88 : decode prog_39_method_4_code 88 = .ok (.iconst 2, 1) := by decide +kernel
theorem d25_89 : decode prog_39_method_4_code 89 = .ok (.aload_n 0, 1) := by decide +kernel
theorem d25_90 : decode prog_39_method_4_code 90 = .ok (.getfield 103, 3) := by decide +kernel
theorem d25_93 : decode prog_39_method_4_code 93 = .ok (.imul, 1) := by decide +kernel
theorem d25_94 : decode prog_39_method_4_code 94 = .ok (.invokestatic 74, 3) := by decide +kernel
theorem d25_97 : decode prog_39_method_4_code 97 = .ok (.putfield 47, 3) := by decide +kernel
theorem d25_100 : decode prog_39_method_4_code 100 = .ok (.aload_n 0, 1) := by decide +kernel
theorem d25_101 : decode prog_39_method_4_code 101 = .ok (.aload_n 0, 1) := by decide +kernel
theorem d25_102 : decode prog_39_method_4_code 102 = .ok (.getfield 50, 3) := by decide +kernel
theorem d25_105 : decode prog_39_method_4_code 105 = .ok (.iconst 2, 1) := by decide +kernel
theorem d25_106 : decode prog_39_method_4_code 106 = .ok (.aload_n 0, 1) := by decide +kernel
theorem d25_107 : decode prog_39_method_4_code 107 = .ok (.getfield 103, 3) := by decide +kernel
theorem d25_110 : decode prog_39_method_4_code 110 = .ok (.imul, 1) := by decide +kernel
theorem d25_111 : decode prog_39_method_4_code 111 = .ok (.invokestatic 74, 3) := by decide +kernel
theorem d25_114 : decode prog_39_method_4_code 114 = .ok (.putfield 50, 3) := by decide +kernel
theorem d25_117 : decode prog_39_method_4_code 117 = .ok (.aload_n 0, 1) := by decide +kernel
theorem d25_118 : decode prog_39_method_4_code 118 = .ok (.getfield 47, 3) := by decide +kernel
theorem d25_121 : decode prog_39_method_4_code 121 = .ok (.aload_n 0, 1) := by decide +kernel
theorem d25_122 : decode prog_39_method_4_code 122 = .ok (.getfield 103, 3) := by decide +kernel
theorem d25_125 : decode prog_39_method_4_code 125 = .ok (.iload_n 2, 1) := by decide +kernel
theorem d25_126 : decode prog_39_method_4_code 126 = .ok (.iastore, 1) := by decide +kernel
theorem d25_127 : decode prog_39_method_4_code 127 = .ok (.aload_n 0, 1) := by decide +kernel
theorem d25_128 : decode prog_39_method_4_code 128 = .ok (.getfield 50, 3) := by decide +kernel
theorem d25_131 : decode prog_39_method_4_code 131 = .ok (.aload_n 0, 1) := by decide +kernel
theorem d25_132 : decode prog_39_method_4_code 132 = .ok (.getfield 103, 3) := by decide +kernel
theorem d25_135 : decode prog_39_method_4_code 135 = .ok (.iload_n 3, 1) := by decide +kernel
theorem d25_136 : decode prog_39_method_4_code 136 = .ok (.iastore, 1) := by decide +kernel
theorem d25_137 : decode prog_39_method_4_code 137 = .ok (.aload_n 0, 1) := by decide +kernel
theorem d25_138 : decode prog_39_method_4_code 138 = .ok (.dup, 1) := by decide +kernel
theorem d25_139 : decode prog_39_method_4_code 139 = .ok (.getfield 103, 3) := by decide +kernel
theorem d25_142 : decode prog_39_method_4_code 142 = .ok (.iconst 1, 1) := by decide +kernel
theorem d25_143 : decode prog_39_method_4_code 143 = .ok (.iadd, 1) := by decide +kernel
theorem d25_144 : decode prog_39_method_4_code 144 = .ok (.putfield 103, 3) := by decide +kernel
theorem d25_147 : decode prog_39_method_4_code 147 = .ok (.aload_n 0, 1) := by decide +kernel
theorem d25_148 : decode prog_39_method_4_code 148 = .ok (.getfield 44, 3) := by decide +kernel
theorem d25_151 : decode prog_39_method_4_code 151 = .ok (.iload_n 2, 1) := by decide +kernel
theorem d25_152 : decode prog_39_method_4_code 152 = .ok (.iload_n 1, 1) := by decide +kernel
theorem d25_153 : decode prog_39_method_4_code 153 = .ok (.iconst 1, 1) := by decide +kernel
theorem d25_154 : decode prog_39_method_4_code 154 = .ok (.iadd, 1) := by decide +kernel
theorem d25_155 : decode prog_39_method_4_code 155 = .ok (.iastore, 1) := by decide +kernel
theorem d25_156 : decode prog_39_method_4_code 156 = .ok (.return_, 1) := by decide +kernel
theorem ef_25 (m : MethodId) (a0 : Addr) (p1 : Int32) (p2 : Int32) (p3 : Int32) : entryFrame m #[(.ref a0), (.int p1), (.int p2), (.int p3)] 4 = mkF m 0 #[.val (.ref a0), .val (.int p1), .val (.int p2), .val (.int p3)] [] := by first | (simp [entryFrame, mkF, argsToLocals, Value.category]; done) | rfl
def Q25 (Z : State) (a0 : Addr) (p1 : Int32) (p2 : Int32) (p3 : Int32) (aL : Addr) (aP : Addr) (aR : Addr) (aF : Addr) (aE : Addr) (aT : Addr) (aA : Addr) (wl : Int32) (ed : Int32) (ini : Int32) (FF : Nat → Int32) (EE : Nat → Int32) (h0 : Heap) (n0 : Nat) (v : Option Value) (h : Heap) (L : List Loc) : Prop := v = none ∧ Fr n0 L ∧ Keep h0 h [a0, aF, aE, aT, aA] ∧ OwnGx Z h a0 aL aP aR aF aE aT aA ini (own_addE wl ed FF EE p1 p2)
set_option maxRecDepth 65536 in
set_option maxHeartbeats 40000000 in
theorem rm25 (l : Launch) (Z : State) (aZ : Array Value) (hw : ∀ d ∈ tables_1, d.before aZ Z = true) (ws : List Jvm.Cond) (a0 : Addr) (p1 : Int32) (p2 : Int32) (p3 : Int32) (aL : Addr) (aP : Addr) (aR : Addr) (aF : Addr) (aE : Addr) (aT : Addr) (aA : Addr) (wl : Int32) (ed : Int32) (ini : Int32) (FF : Nat → Int32) (EE : Nat → Int32) (h0 : Heap) (n0 : Nat) (Z0 : n0 ≤ h0.size) (HG : OwnG Z h0 a0 aL aP aR aF aE aT aA wl ed ini FF EE) (D : [a0, aL, aP, aR, aF, aE, aT, aA].Pairwise (· ≠ ·)) (GN : ∀ x ∈ [a0, aL, aP, aR, aF, aE, aT, aA], n0 ≤ x) (hb : (-1 ≤ wl.toInt ∧ wl.toInt ≤ p1.toInt ∧ 0 ≤ p1.toInt ∧ p1.toInt ≤ 2) ∧ (0 ≤ p2.toInt ∧ p2.toInt ≤ 2 ∧ 0 ≤ ed.toInt ∧ ed.toInt ≤ 10)) :
    MetFree l (⟨"com/example/changeset/changeset/check/StateGraph", "addEdge", "(III)V"⟩ : MethodName) (head1 (Jvm.Cond.code (⟨"com/example/changeset/changeset/check/StateGraph", "addEdge", "(III)V"⟩ : MethodName) prog_39_method_4_code 4 none :: ws) ({ frames := 0, cells := 0, slots := 0, locals := 0 } : Room)) (fun a U => a = #[(.ref a0), (.int p1), (.int p2), (.int p3)] ∧ Z.Warmed39 U.vm ∧ U.heap = h0) (fun _ _ _ _ _ => True) (fun _ U o U' => ∃ v L, o = .returned v ∧ Q25 Z a0 p1 p2 p3 aL aP aR aF aE aT aA wl ed ini FF EE h0 n0 v U'.heap L ∧ FrameEnd U o U' L 0 0) := by
  refine MetFree.of_bodySF (plainFor_of_name pn_6) hisR ?_
  intro p e s m args below meth c s₁ Bd hml0 hP hK
  obtain ⟨rfl, hZ, hh⟩ := hP
  have hx := Bd.exec
  have hby := Bd.bytes
  have hml : c.maxLocals = 4 := hml0
  have hown : s.vm.findClass "com/example/changeset/changeset/check/StateGraph" = some m.cls := findClass_of_methodNamed Bd.named
  have hnm := (name_of_methodNamed Bd.named Bd.method).1
  have hlk := BodyLoose.notSynchronized Bd
  have X0 : Stand p l e ({ frames := 0, cells := 0, slots := 0, locals := 0 } : Room) s m #[(.ref a0), (.int p1), (.int p2), (.int p3)] below meth c s₁ [] 0 0 := Stand.of_body Bd
  have e0 : s₁.heap = h0 := by rw [← hh, Bd.state]; rfl
  have N0 := Fr.nil n0
  have hk0 : 0 ≤ 0 := Nat.zero_le _
  have hn0 : 0 ≤ 0 := Nat.zero_le _
  show OwnEnds p e below (OwnQ s (Q25 Z a0 p1 p2 p3 aL aP aR aF aE aT aA wl ed ini FF EE h0 n0) 0 0) (s₁.setTop (entryFrame m #[(.ref a0), (.int p1), (.int p2), (.int p3)] 4))
  refine .pre (fun t k => castTop (ef_25 m a0 p1 p2 p3) k) ?_
  obtain ⟨⟨hb1, hb2, hb3, hb4⟩, hb5, hb6, hb7, hb8⟩ := hb
  have g_a0 : n0 ≤ a0 := GN _ (List.mem_of_getElem? (i := 0) rfl)
  have g_aL : n0 ≤ aL := GN _ (List.mem_of_getElem? (i := 1) rfl)
  have g_aP : n0 ≤ aP := GN _ (List.mem_of_getElem? (i := 2) rfl)
  have g_aR : n0 ≤ aR := GN _ (List.mem_of_getElem? (i := 3) rfl)
  have g_aF : n0 ≤ aF := GN _ (List.mem_of_getElem? (i := 4) rfl)
  have g_aE : n0 ≤ aE := GN _ (List.mem_of_getElem? (i := 5) rfl)
  have g_aT : n0 ≤ aT := GN _ (List.mem_of_getElem? (i := 6) rfl)
  have g_aA : n0 ≤ aA := GN _ (List.mem_of_getElem? (i := 7) rfl)
  have hed : ¬ (ed = (1024 : Int32)) := by have t : (1024 : Int32).toInt = 1024 := rfl; rw [← Int32.toInt_inj, t]; omega
  have hge0 : ¬ (p1 < wl) := by rw [Int32.lt_iff_toInt_lt]; omega
  have B40 : ∀ (fuel : Nat) (T : State) (L : List Loc) (hh : Heap) (X : Stand p l e ({ frames := 0, cells := 0, slots := 0, locals := 0 } : Room) s m #[(.ref a0), (.int p1), (.int p2), (.int p3)] below meth c T L 0 0) (eT : T.heap = hh) (N : Fr n0 L) (Zh : n0 ≤ hh.size) (Kh : Keep h0 hh [a0, aF, aE, aT, aA]) (wc : Int32) (HG : OwnG Z hh a0 aL aP aR aF aE aT aA wc ed ini (own_fill FF wl wc ed) EE), wl.toInt ≤ wc.toInt → wc.toInt ≤ p1.toInt → (p1.toInt - wc.toInt).toNat = fuel → ¬ (p1 = p2 ∨ EE p2.toNatClampNeg = p1 + 1) → OwnEnds p e below (OwnQ s (Q25 Z a0 p1 p2 p3 aL aP aR aF aE aT aA wl ed ini FF EE h0 n0) 0 0) (T.setTop (mkF m 40 #[.val (.ref a0), .val (.int p1), .val (.int p2), .val (.int p3)] [])) := by
    intro fuel
    induction fuel with
    | zero =>
      intro T L hh X eT N Zh Kh wc HG h1 h2 hf hno
      obtain ⟨EG, G0, G1, G2, G3, G4, G5, G6, G7, G8, G9, G10, ⟨fP, AP⟩, ⟨fR, AR⟩, AF, AE, ⟨fT, AT⟩, ⟨fA, AA⟩⟩ := id HG
      have hge : ¬ (wc < p1) := by rw [Int32.lt_iff_toInt_lt]; omega
      have hwp : wc = p1 := Int32.toInt_inj.mp (by omega)
      show OwnEnds p e below _ (T.setTop (mkF m 40 #[.val (.ref a0), .val (.int p1), .val (.int p2), .val (.int p3)] []))
      refine .pre (fun _ kq => XS.aloadN X.here hx rfl (hb hby d25_40) rfl rfl kq) ?_
      show OwnEnds p e below _ (T.setTop (mkF m 41 #[.val (.ref a0), .val (.int p1), .val (.int p2), .val (.int p3)] [(.ref a0)]))
      obtain ⟨T1, X1, e1, st1⟩ := getF X hx hZ hown (host := "") (Or.inl (hw _ (List.mem_of_getElem? (i := 75) rfl))) Via.refl eT G3 (g := (mkF m 41 #[.val (.ref a0), .val (.int p1), .val (.int p2), .val (.int p3)] [(.ref a0)])) rfl rfl (hb hby d25_41)
      refine .pre (fun _ kq => st1 _ kq) ?_
      show OwnEnds p e below _ (T1.setTop (mkF m 44 #[.val (.ref a0), .val (.int p1), .val (.int p2), .val (.int p3)] [(.int wc)]))
      refine .pre (fun _ kq => XS.iloadN X1.here hx rfl (hb hby d25_44) rfl kq) ?_
      show OwnEnds p e below _ (T1.setTop (mkF m 45 #[.val (.ref a0), .val (.int p1), .val (.int p2), .val (.int p3)] [(.int p1), (.int wc)]))
      have hc45 : ¬ (wc < p1) := hge
      refine .pre (fun _ kq => XS.icmpYes X1.here hx rfl (pc0 := 45) (pc' := 71) rfl (hb hby d25_45) rfl (flt hc45).2.1 (by decide) (by decide) kq) ?_
      show OwnEnds p e below _ (T1.setTop (mkF m 71 #[.val (.ref a0), .val (.int p1), .val (.int p2), .val (.int p3)] []))
      refine .pre (fun _ kq => XS.aloadN X1.here hx rfl (hb hby d25_71) rfl rfl kq) ?_
      show OwnEnds p e below _ (T1.setTop (mkF m 72 #[.val (.ref a0), .val (.int p1), .val (.int p2), .val (.int p3)] [(.ref a0)]))
      obtain ⟨T2, X2, e2, st2⟩ := getF X1 hx hZ hown (host := "") (Or.inl (hw _ (List.mem_of_getElem? (i := 183) rfl))) Via.refl e1 G10 (g := (mkF m 72 #[.val (.ref a0), .val (.int p1), .val (.int p2), .val (.int p3)] [(.ref a0)])) rfl rfl (hb hby d25_72)
      refine .pre (fun _ kq => st2 _ kq) ?_
      show OwnEnds p e below _ (T2.setTop (mkF m 75 #[.val (.ref a0), .val (.int p1), .val (.int p2), .val (.int p3)] [(.int ed)]))
      refine .pre (fun _ kq => XS.aloadN X2.here hx rfl (hb hby d25_75) rfl rfl kq) ?_
      show OwnEnds p e below _ (T2.setTop (mkF m 76 #[.val (.ref a0), .val (.int p1), .val (.int p2), .val (.int p3)] [(.ref a0), (.int ed)]))
      obtain ⟨T3, X3, e3, st3⟩ := getF X2 hx hZ hown (host := "") (Or.inl (hw _ (List.mem_of_getElem? (i := 85) rfl))) Via.refl e2 G7 (g := (mkF m 76 #[.val (.ref a0), .val (.int p1), .val (.int p2), .val (.int p3)] [(.ref a0), (.int ed)])) rfl rfl (hb hby d25_76)
      refine .pre (fun _ kq => st3 _ kq) ?_
      show OwnEnds p e below _ (T3.setTop (mkF m 79 #[.val (.ref a0), .val (.int p1), .val (.int p2), .val (.int p3)] [(.ref aT), (.int ed)]))
      obtain ⟨cl4, Ar4, qs4, qh4⟩ := id AT
      refine .pre (fun _ kq => X3.arraylength hx (by rw [e3]; exact Ar4.1) (State.isArrayOf_alike hZ.alike Ar4.2.1) (g := (mkF m 79 #[.val (.ref a0), .val (.int p1), .val (.int p2), .val (.int p3)] [(.ref aT), (.int ed)])) rfl rfl (hb hby d25_79) _ kq) ?_
      rw [own_len1024 qs4]
      show OwnEnds p e below _ (T3.setTop (mkF m 80 #[.val (.ref a0), .val (.int p1), .val (.int p2), .val (.int p3)] [(.int (1024 : Int32)), (.int ed)]))
      have hc80 : ¬ (ed = (1024 : Int32)) := hed
      refine .pre (fun _ kq => XS.icmpYes X3.here hx rfl (pc0 := 80) (pc' := 117) rfl (hb hby d25_80) rfl (feq hc80).2 (by decide) (by decide) kq) ?_
      show OwnEnds p e below _ (T3.setTop (mkF m 117 #[.val (.ref a0), .val (.int p1), .val (.int p2), .val (.int p3)] []))
      refine .pre (fun _ kq => XS.aloadN X3.here hx rfl (hb hby d25_117) rfl rfl kq) ?_
      show OwnEnds p e below _ (T3.setTop (mkF m 118 #[.val (.ref a0), .val (.int p1), .val (.int p2), .val (.int p3)] [(.ref a0)]))
      obtain ⟨T5, X5, e5, st5⟩ := getF X3 hx hZ hown (host := "") (Or.inl (hw _ (List.mem_of_getElem? (i := 85) rfl))) Via.refl e3 G7 (g := (mkF m 118 #[.val (.ref a0), .val (.int p1), .val (.int p2), .val (.int p3)] [(.ref a0)])) rfl rfl (hb hby d25_118)
      refine .pre (fun _ kq => st5 _ kq) ?_
      show OwnEnds p e below _ (T5.setTop (mkF m 121 #[.val (.ref a0), .val (.int p1), .val (.int p2), .val (.int p3)] [(.ref aT)]))
      refine .pre (fun _ kq => XS.aloadN X5.here hx rfl (hb hby d25_121) rfl rfl kq) ?_
      show OwnEnds p e below _ (T5.setTop (mkF m 122 #[.val (.ref a0), .val (.int p1), .val (.int p2), .val (.int p3)] [(.ref a0), (.ref aT)]))
      obtain ⟨T6, X6, e6, st6⟩ := getF X5 hx hZ hown (host := "") (Or.inl (hw _ (List.mem_of_getElem? (i := 183) rfl))) Via.refl e5 G10 (g := (mkF m 122 #[.val (.ref a0), .val (.int p1), .val (.int p2), .val (.int p3)] [(.ref a0), (.ref aT)])) rfl rfl (hb hby d25_122)
      refine .pre (fun _ kq => st6 _ kq) ?_
      show OwnEnds p e below _ (T6.setTop (mkF m 125 #[.val (.ref a0), .val (.int p1), .val (.int p2), .val (.int p3)] [(.int ed), (.ref aT)]))
      refine .pre (fun _ kq => XS.iloadN X6.here hx rfl (hb hby d25_125) rfl kq) ?_
      show OwnEnds p e below _ (T6.setTop (mkF m 126 #[.val (.ref a0), .val (.int p1), .val (.int p2), .val (.int p3)] [(.int p2), (.int ed), (.ref aT)]))
      obtain ⟨cl7, Ar7, qs7, qh7⟩ := id AT
      have hj7 : 0 ≤ (ed).toInt ∧ (ed).toInt < 1024 := ⟨by omega, by omega⟩
      obtain ⟨T7, h7, X7, e7, W7, st7⟩ := stI X6 hx hZ e6 Ar7 (j := ed) (own_in1024 qs7 hj7) (g := (mkF m 126 #[.val (.ref a0), .val (.int p1), .val (.int p2), .val (.int p3)] [(.int p2), (.int ed), (.ref aT)])) rfl rfl (hb hby d25_126)
      have V7 : OwnA Z h7 aT (own_upd fT (ed).toNatClampNeg p2) := OwnA.set Ar7 qs7 qh7 W7
      have N7 := Fr.snoc X7 N g_aT
      have Kp7 : Keep h0 h7 [a0, aF, aE, aT, aA] := Kh.wr W7 (Or.inl (List.mem_of_getElem? (i := 3) rfl))
      refine .pre (fun _ kq => st7 _ kq) ?_
      show OwnEnds p e below _ (T7.setTop (mkF m 127 #[.val (.ref a0), .val (.int p1), .val (.int p2), .val (.int p3)] []))
      refine .pre (fun _ kq => XS.aloadN X7.here hx rfl (hb hby d25_127) rfl rfl kq) ?_
      show OwnEnds p e below _ (T7.setTop (mkF m 128 #[.val (.ref a0), .val (.int p1), .val (.int p2), .val (.int p3)] [(.ref a0)]))
      obtain ⟨T8, X8, e8, st8⟩ := getF X7 hx hZ hown (host := "") (Or.inl (hw _ (List.mem_of_getElem? (i := 87) rfl))) Via.refl e7 (G8.other W7 (Or.inl (own_nd D 0 6 rfl rfl (by decide)))) (g := (mkF m 128 #[.val (.ref a0), .val (.int p1), .val (.int p2), .val (.int p3)] [(.ref a0)])) rfl rfl (hb hby d25_128)
      refine .pre (fun _ kq => st8 _ kq) ?_
      show OwnEnds p e below _ (T8.setTop (mkF m 131 #[.val (.ref a0), .val (.int p1), .val (.int p2), .val (.int p3)] [(.ref aA)]))
      refine .pre (fun _ kq => XS.aloadN X8.here hx rfl (hb hby d25_131) rfl rfl kq) ?_
      show OwnEnds p e below _ (T8.setTop (mkF m 132 #[.val (.ref a0), .val (.int p1), .val (.int p2), .val (.int p3)] [(.ref a0), (.ref aA)]))
      obtain ⟨T9, X9, e9, st9⟩ := getF X8 hx hZ hown (host := "") (Or.inl (hw _ (List.mem_of_getElem? (i := 183) rfl))) Via.refl e8 (G10.other W7 (Or.inl (own_nd D 0 6 rfl rfl (by decide)))) (g := (mkF m 132 #[.val (.ref a0), .val (.int p1), .val (.int p2), .val (.int p3)] [(.ref a0), (.ref aA)])) rfl rfl (hb hby d25_132)
      refine .pre (fun _ kq => st9 _ kq) ?_
      show OwnEnds p e below _ (T9.setTop (mkF m 135 #[.val (.ref a0), .val (.int p1), .val (.int p2), .val (.int p3)] [(.int ed), (.ref aA)]))
      refine .pre (fun _ kq => XS.iloadN X9.here hx rfl (hb hby d25_135) rfl kq) ?_
      show OwnEnds p e below _ (T9.setTop (mkF m 136 #[.val (.ref a0), .val (.int p1), .val (.int p2), .val (.int p3)] [(.int p3), (.int ed), (.ref aA)]))
      obtain ⟨cl10, Ar10, qs10, qh10⟩ := id (AA.other W7 (Ne.symm (own_nd D 6 7 rfl rfl (by decide))))
      have hj10 : 0 ≤ (ed).toInt ∧ (ed).toInt < 1024 := ⟨by omega, by omega⟩
      obtain ⟨T10, h10, X10, e10, W10, st10⟩ := stI X9 hx hZ e9 Ar10 (j := ed) (own_in1024 qs10 hj10) (g := (mkF m 136 #[.val (.ref a0), .val (.int p1), .val (.int p2), .val (.int p3)] [(.int p3), (.int ed), (.ref aA)])) rfl rfl (hb hby d25_136)
      have V10 : OwnA Z h10 aA (own_upd fA (ed).toNatClampNeg p3) := OwnA.set Ar10 qs10 qh10 W10
      have N10 := Fr.snoc X10 N7 g_aA
      have Kp10 : Keep h0 h10 [a0, aF, aE, aT, aA] := Kp7.wr W10 (Or.inl (List.mem_of_getElem? (i := 4) rfl))
      refine .pre (fun _ kq => st10 _ kq) ?_
      show OwnEnds p e below _ (T10.setTop (mkF m 137 #[.val (.ref a0), .val (.int p1), .val (.int p2), .val (.int p3)] []))
      refine .pre (fun _ kq => XS.aloadN X10.here hx rfl (hb hby d25_137) rfl rfl kq) ?_
      show OwnEnds p e below _ (T10.setTop (mkF m 138 #[.val (.ref a0), .val (.int p1), .val (.int p2), .val (.int p3)] [(.ref a0)]))
      refine .pre (fun _ kq => XS.dup X10.here hx rfl (hb hby d25_138) rfl rfl kq) ?_
      show OwnEnds p e below _ (T10.setTop (mkF m 139 #[.val (.ref a0), .val (.int p1), .val (.int p2), .val (.int p3)] [(.ref a0), (.ref a0)]))
      obtain ⟨T11, X11, e11, st11⟩ := getF X10 hx hZ hown (host := "") (Or.inl (hw _ (List.mem_of_getElem? (i := 183) rfl))) Via.refl e10 ((G10.other W7 (Or.inl (own_nd D 0 6 rfl rfl (by decide)))).other W10 (Or.inl (own_nd D 0 7 rfl rfl (by decide)))) (g := (mkF m 139 #[.val (.ref a0), .val (.int p1), .val (.int p2), .val (.int p3)] [(.ref a0), (.ref a0)])) rfl rfl (hb hby d25_139)
      refine .pre (fun _ kq => st11 _ kq) ?_
      show OwnEnds p e below _ (T11.setTop (mkF m 142 #[.val (.ref a0), .val (.int p1), .val (.int p2), .val (.int p3)] [(.int ed), (.ref a0)]))
      refine .pre (fun _ kq => XS.iconst X11.here hx rfl (hb hby d25_142) kq) ?_
      show OwnEnds p e below _ (T11.setTop (mkF m 143 #[.val (.ref a0), .val (.int p1), .val (.int p2), .val (.int p3)] [(.int (1 : Int32)), (.int ed), (.ref a0)]))
      refine .pre (fun _ kq => XS.iadd X11.here hx rfl (hb hby d25_143) rfl kq) ?_
      show OwnEnds p e below _ (T11.setTop (mkF m 144 #[.val (.ref a0), .val (.int p1), .val (.int p2), .val (.int p3)] [(.int (ed + (1 : Int32))), (.ref a0)]))
      obtain ⟨T12, h12, X12, e12, W12, st12⟩ := putF X11 hx hZ hown (host := "") (Or.inl (hw _ (List.mem_of_getElem? (i := 183) rfl))) Via.refl e11 ((G10.other W7 (Or.inl (own_nd D 0 6 rfl rfl (by decide)))).other W10 (Or.inl (own_nd D 0 7 rfl rfl (by decide)))) ((EG.wr W7).wr W10) (Or.inl (hw _ (List.mem_of_getElem? (i := 184) rfl))) (hw _ (List.mem_of_getElem? (i := 19) rfl)) (ty := .int) (by decide) rfl rfl (g := (mkF m 144 #[.val (.ref a0), .val (.int p1), .val (.int p2), .val (.int p3)] [(.int (ed + (1 : Int32))), (.ref a0)])) rfl rfl (hb hby d25_144)
      have Fw12 := ((G10.other W7 (Or.inl (own_nd D 0 6 rfl rfl (by decide)))).other W10 (Or.inl (own_nd D 0 7 rfl rfl (by decide)))).same W12
      have N12 := Fr.snoc X12 N10 g_a0
      have Kp12 : Keep h0 h12 [a0, aF, aE, aT, aA] := Kp10.wr W12 (Or.inl (List.mem_of_getElem? (i := 0) rfl))
      refine .pre (fun _ kq => st12 _ kq) ?_
      show OwnEnds p e below _ (T12.setTop (mkF m 147 #[.val (.ref a0), .val (.int p1), .val (.int p2), .val (.int p3)] []))
      refine .pre (fun _ kq => XS.aloadN X12.here hx rfl (hb hby d25_147) rfl rfl kq) ?_
      show OwnEnds p e below _ (T12.setTop (mkF m 148 #[.val (.ref a0), .val (.int p1), .val (.int p2), .val (.int p3)] [(.ref a0)]))
      obtain ⟨T13, X13, e13, st13⟩ := getF X12 hx hZ hown (host := "") (Or.inl (hw _ (List.mem_of_getElem? (i := 83) rfl))) Via.refl e12 (((G6.other W7 (Or.inl (own_nd D 0 6 rfl rfl (by decide)))).other W10 (Or.inl (own_nd D 0 7 rfl rfl (by decide)))).other W12 (Or.inr (slot_ne (Or.inl (hw _ (List.mem_of_getElem? (i := 84) rfl))) (Or.inl (hw _ (List.mem_of_getElem? (i := 184) rfl))) (by decide) (t := (.array .int)) (t' := .int) (by decide) (by decide)))) (g := (mkF m 148 #[.val (.ref a0), .val (.int p1), .val (.int p2), .val (.int p3)] [(.ref a0)])) rfl rfl (hb hby d25_148)
      refine .pre (fun _ kq => st13 _ kq) ?_
      show OwnEnds p e below _ (T13.setTop (mkF m 151 #[.val (.ref a0), .val (.int p1), .val (.int p2), .val (.int p3)] [(.ref aE)]))
      refine .pre (fun _ kq => XS.iloadN X13.here hx rfl (hb hby d25_151) rfl kq) ?_
      show OwnEnds p e below _ (T13.setTop (mkF m 152 #[.val (.ref a0), .val (.int p1), .val (.int p2), .val (.int p3)] [(.int p2), (.ref aE)]))
      refine .pre (fun _ kq => XS.iloadN X13.here hx rfl (hb hby d25_152) rfl kq) ?_
      show OwnEnds p e below _ (T13.setTop (mkF m 153 #[.val (.ref a0), .val (.int p1), .val (.int p2), .val (.int p3)] [(.int p1), (.int p2), (.ref aE)]))
      refine .pre (fun _ kq => XS.iconst X13.here hx rfl (hb hby d25_153) kq) ?_
      show OwnEnds p e below _ (T13.setTop (mkF m 154 #[.val (.ref a0), .val (.int p1), .val (.int p2), .val (.int p3)] [(.int (1 : Int32)), (.int p1), (.int p2), (.ref aE)]))
      refine .pre (fun _ kq => XS.iadd X13.here hx rfl (hb hby d25_154) rfl kq) ?_
      show OwnEnds p e below _ (T13.setTop (mkF m 155 #[.val (.ref a0), .val (.int p1), .val (.int p2), .val (.int p3)] [(.int (p1 + (1 : Int32))), (.int p2), (.ref aE)]))
      obtain ⟨cl14, Ar14, qs14, qh14⟩ := id (((AE.other W7 (own_nd D 5 6 rfl rfl (by decide))).other W10 (own_nd D 5 7 rfl rfl (by decide))).other W12 (Ne.symm (own_nd D 0 5 rfl rfl (by decide))))
      have hj14 : 0 ≤ (p2).toInt ∧ (p2).toInt < 1024 := ⟨by omega, by omega⟩
      obtain ⟨T14, h14, X14, e14, W14, st14⟩ := stI X13 hx hZ e13 Ar14 (j := p2) (own_in1024 qs14 hj14) (g := (mkF m 155 #[.val (.ref a0), .val (.int p1), .val (.int p2), .val (.int p3)] [(.int (p1 + (1 : Int32))), (.int p2), (.ref aE)])) rfl rfl (hb hby d25_155)
      have V14 : OwnA Z h14 aE (own_upd EE (p2).toNatClampNeg (p1 + (1 : Int32))) := OwnA.set Ar14 qs14 qh14 W14
      have N14 := Fr.snoc X14 N12 g_aE
      have Kp14 : Keep h0 h14 [a0, aF, aE, aT, aA] := Kp12.wr W14 (Or.inl (List.mem_of_getElem? (i := 2) rfl))
      refine .pre (fun _ kq => st14 _ kq) ?_
      show OwnEnds p e below _ (T14.setTop (mkF m 156 #[.val (.ref a0), .val (.int p1), .val (.int p2), .val (.int p3)] []))
      exact own_endV X14 hx hlk Bd.returns (hb hby d25_156) (by decide) (by decide) ⟨rfl, N14, (by rw [e14]; exact Kp14), (by unfold OwnGx own_addE; rw [if_neg hno]; have hq : OwnG Z T14.heap a0 aL aP aR aF aE aT aA wc (ed + 1) ini (own_fill FF wl wc ed) (own_upd EE p2.toNatClampNeg (p1 + 1)) := ⟨(by rw [e14]; exact ((((EG.wr W7).wr W10).wr W12).wr W14)), (by rw [e14]; exact ((((G0.other W7 (Or.inl (own_nd D 0 6 rfl rfl (by decide)))).other W10 (Or.inl (own_nd D 0 7 rfl rfl (by decide)))).other W12 (Or.inr (slot_ne (Or.inr (hw _ (List.mem_of_getElem? (i := 69) rfl))) (Or.inl (hw _ (List.mem_of_getElem? (i := 184) rfl))) (by decide) (t := (.object "java/util/List")) (t' := .int) (by decide) (by decide)))).other W14 (Or.inl (own_nd D 0 5 rfl rfl (by decide))))), (by rw [e14]; exact ((((G1.other W7 (Or.inl (own_nd D 0 6 rfl rfl (by decide)))).other W10 (Or.inl (own_nd D 0 7 rfl rfl (by decide)))).other W12 (Or.inr (slot_ne (Or.inl (hw _ (List.mem_of_getElem? (i := 72) rfl))) (Or.inl (hw _ (List.mem_of_getElem? (i := 184) rfl))) (by decide) (t := (.array .int)) (t' := .int) (by decide) (by decide)))).other W14 (Or.inl (own_nd D 0 5 rfl rfl (by decide))))), (by rw [e14]; exact ((((G2.other W7 (Or.inl (own_nd D 0 6 rfl rfl (by decide)))).other W10 (Or.inl (own_nd D 0 7 rfl rfl (by decide)))).other W12 (Or.inr (slot_ne (Or.inl (hw _ (List.mem_of_getElem? (i := 74) rfl))) (Or.inl (hw _ (List.mem_of_getElem? (i := 184) rfl))) (by decide) (t := (.array .int)) (t' := .int) (by decide) (by decide)))).other W14 (Or.inl (own_nd D 0 5 rfl rfl (by decide))))), (by rw [e14]; exact ((((G3.other W7 (Or.inl (own_nd D 0 6 rfl rfl (by decide)))).other W10 (Or.inl (own_nd D 0 7 rfl rfl (by decide)))).other W12 (Or.inr (slot_ne (Or.inl (hw _ (List.mem_of_getElem? (i := 76) rfl))) (Or.inl (hw _ (List.mem_of_getElem? (i := 184) rfl))) (by decide) (t := .int) (t' := .int) (by decide) (by decide)))).other W14 (Or.inl (own_nd D 0 5 rfl rfl (by decide))))), (by rw [e14]; exact ((((G4.other W7 (Or.inl (own_nd D 0 6 rfl rfl (by decide)))).other W10 (Or.inl (own_nd D 0 7 rfl rfl (by decide)))).other W12 (Or.inr (slot_ne (Or.inr (hw _ (List.mem_of_getElem? (i := 80) rfl))) (Or.inl (hw _ (List.mem_of_getElem? (i := 184) rfl))) (by decide) (t := .boolean) (t' := .int) (by decide) (by decide)))).other W14 (Or.inl (own_nd D 0 5 rfl rfl (by decide))))), (by rw [e14]; exact ((((G5.other W7 (Or.inl (own_nd D 0 6 rfl rfl (by decide)))).other W10 (Or.inl (own_nd D 0 7 rfl rfl (by decide)))).other W12 (Or.inr (slot_ne (Or.inl (hw _ (List.mem_of_getElem? (i := 82) rfl))) (Or.inl (hw _ (List.mem_of_getElem? (i := 184) rfl))) (by decide) (t := (.array .int)) (t' := .int) (by decide) (by decide)))).other W14 (Or.inl (own_nd D 0 5 rfl rfl (by decide))))), (by rw [e14]; exact ((((G6.other W7 (Or.inl (own_nd D 0 6 rfl rfl (by decide)))).other W10 (Or.inl (own_nd D 0 7 rfl rfl (by decide)))).other W12 (Or.inr (slot_ne (Or.inl (hw _ (List.mem_of_getElem? (i := 84) rfl))) (Or.inl (hw _ (List.mem_of_getElem? (i := 184) rfl))) (by decide) (t := (.array .int)) (t' := .int) (by decide) (by decide)))).other W14 (Or.inl (own_nd D 0 5 rfl rfl (by decide))))), (by rw [e14]; exact ((((G7.other W7 (Or.inl (own_nd D 0 6 rfl rfl (by decide)))).other W10 (Or.inl (own_nd D 0 7 rfl rfl (by decide)))).other W12 (Or.inr (slot_ne (Or.inl (hw _ (List.mem_of_getElem? (i := 86) rfl))) (Or.inl (hw _ (List.mem_of_getElem? (i := 184) rfl))) (by decide) (t := (.array .int)) (t' := .int) (by decide) (by decide)))).other W14 (Or.inl (own_nd D 0 5 rfl rfl (by decide))))), (by rw [e14]; exact ((((G8.other W7 (Or.inl (own_nd D 0 6 rfl rfl (by decide)))).other W10 (Or.inl (own_nd D 0 7 rfl rfl (by decide)))).other W12 (Or.inr (slot_ne (Or.inl (hw _ (List.mem_of_getElem? (i := 88) rfl))) (Or.inl (hw _ (List.mem_of_getElem? (i := 184) rfl))) (by decide) (t := (.array .int)) (t' := .int) (by decide) (by decide)))).other W14 (Or.inl (own_nd D 0 5 rfl rfl (by decide))))), (by rw [e14]; exact ((((G9.other W7 (Or.inl (own_nd D 0 6 rfl rfl (by decide)))).other W10 (Or.inl (own_nd D 0 7 rfl rfl (by decide)))).other W12 (Or.inr (slot_ne (Or.inl (hw _ (List.mem_of_getElem? (i := 173) rfl))) (Or.inl (hw _ (List.mem_of_getElem? (i := 184) rfl))) (by decide) (t := .int) (t' := .int) (by decide) (by decide)))).other W14 (Or.inl (own_nd D 0 5 rfl rfl (by decide))))), (by rw [e14]; exact (Fw12.other W14 (Or.inl (own_nd D 0 5 rfl rfl (by decide))))), ⟨_, (by rw [e14]; exact ((((AP.other W7 (own_nd D 2 6 rfl rfl (by decide))).other W10 (own_nd D 2 7 rfl rfl (by decide))).other W12 (Ne.symm (own_nd D 0 2 rfl rfl (by decide)))).other W14 (own_nd D 2 5 rfl rfl (by decide))))⟩, ⟨_, (by rw [e14]; exact ((((AR.other W7 (own_nd D 3 6 rfl rfl (by decide))).other W10 (own_nd D 3 7 rfl rfl (by decide))).other W12 (Ne.symm (own_nd D 0 3 rfl rfl (by decide)))).other W14 (own_nd D 3 5 rfl rfl (by decide))))⟩, (by rw [e14]; exact ((((AF.other W7 (own_nd D 4 6 rfl rfl (by decide))).other W10 (own_nd D 4 7 rfl rfl (by decide))).other W12 (Ne.symm (own_nd D 0 4 rfl rfl (by decide)))).other W14 (own_nd D 4 5 rfl rfl (by decide)))), (by rw [e14]; exact V14), ⟨_, (by rw [e14]; exact (((V7.other W10 (own_nd D 6 7 rfl rfl (by decide))).other W12 (Ne.symm (own_nd D 0 6 rfl rfl (by decide)))).other W14 (Ne.symm (own_nd D 5 6 rfl rfl (by decide)))))⟩, ⟨_, (by rw [e14]; exact ((V10.other W12 (Ne.symm (own_nd D 0 7 rfl rfl (by decide)))).other W14 (Ne.symm (own_nd D 5 7 rfl rfl (by decide)))))⟩⟩; rw [hwp] at hq; exact hq)⟩
    | succ fuel ih =>
      intro T L hh X eT N Zh Kh wc HG h1 h2 hf hno
      obtain ⟨EG, G0, G1, G2, G3, G4, G5, G6, G7, G8, G9, G10, ⟨fP, AP⟩, ⟨fR, AR⟩, AF, AE, ⟨fT, AT⟩, ⟨fA, AA⟩⟩ := id HG
      have hlt : wc < p1 := by rw [Int32.lt_iff_toInt_lt]; omega
      have hs := own_plus1 wc (by omega) (by omega)
      show OwnEnds p e below _ (T.setTop (mkF m 40 #[.val (.ref a0), .val (.int p1), .val (.int p2), .val (.int p3)] []))
      refine .pre (fun _ kq => XS.aloadN X.here hx rfl (hb hby d25_40) rfl rfl kq) ?_
      show OwnEnds p e below _ (T.setTop (mkF m 41 #[.val (.ref a0), .val (.int p1), .val (.int p2), .val (.int p3)] [(.ref a0)]))
      obtain ⟨T1, X1, e1, st1⟩ := getF X hx hZ hown (host := "") (Or.inl (hw _ (List.mem_of_getElem? (i := 75) rfl))) Via.refl eT G3 (g := (mkF m 41 #[.val (.ref a0), .val (.int p1), .val (.int p2), .val (.int p3)] [(.ref a0)])) rfl rfl (hb hby d25_41)
      refine .pre (fun _ kq => st1 _ kq) ?_
      show OwnEnds p e below _ (T1.setTop (mkF m 44 #[.val (.ref a0), .val (.int p1), .val (.int p2), .val (.int p3)] [(.int wc)]))
      refine .pre (fun _ kq => XS.iloadN X1.here hx rfl (hb hby d25_44) rfl kq) ?_
      show OwnEnds p e below _ (T1.setTop (mkF m 45 #[.val (.ref a0), .val (.int p1), .val (.int p2), .val (.int p3)] [(.int p1), (.int wc)]))
      have hc45 : wc < p1 := hlt
      refine .pre (fun _ kq => XS.icmpNo X1.here hx rfl (hb hby d25_45) rfl (tlt hc45).2.1 kq) ?_
      show OwnEnds p e below _ (T1.setTop (mkF m 48 #[.val (.ref a0), .val (.int p1), .val (.int p2), .val (.int p3)] []))
      refine .pre (fun _ kq => XS.aloadN X1.here hx rfl (hb hby d25_48) rfl rfl kq) ?_
      show OwnEnds p e below _ (T1.setTop (mkF m 49 #[.val (.ref a0), .val (.int p1), .val (.int p2), .val (.int p3)] [(.ref a0)]))
      obtain ⟨T2, X2, e2, st2⟩ := getF X1 hx hZ hown (host := "") (Or.inl (hw _ (List.mem_of_getElem? (i := 81) rfl))) Via.refl e1 G5 (g := (mkF m 49 #[.val (.ref a0), .val (.int p1), .val (.int p2), .val (.int p3)] [(.ref a0)])) rfl rfl (hb hby d25_49)
      refine .pre (fun _ kq => st2 _ kq) ?_
      show OwnEnds p e below _ (T2.setTop (mkF m 52 #[.val (.ref a0), .val (.int p1), .val (.int p2), .val (.int p3)] [(.ref aF)]))
      refine .pre (fun _ kq => XS.aloadN X2.here hx rfl (hb hby d25_52) rfl rfl kq) ?_
      show OwnEnds p e below _ (T2.setTop (mkF m 53 #[.val (.ref a0), .val (.int p1), .val (.int p2), .val (.int p3)] [(.ref a0), (.ref aF)]))
      refine .pre (fun _ kq => XS.dup X2.here hx rfl (hb hby d25_53) rfl rfl kq) ?_
      show OwnEnds p e below _ (T2.setTop (mkF m 54 #[.val (.ref a0), .val (.int p1), .val (.int p2), .val (.int p3)] [(.ref a0), (.ref a0), (.ref aF)]))
      obtain ⟨T3, X3, e3, st3⟩ := getF X2 hx hZ hown (host := "") (Or.inl (hw _ (List.mem_of_getElem? (i := 75) rfl))) Via.refl e2 G3 (g := (mkF m 54 #[.val (.ref a0), .val (.int p1), .val (.int p2), .val (.int p3)] [(.ref a0), (.ref a0), (.ref aF)])) rfl rfl (hb hby d25_54)
      refine .pre (fun _ kq => st3 _ kq) ?_
      show OwnEnds p e below _ (T3.setTop (mkF m 57 #[.val (.ref a0), .val (.int p1), .val (.int p2), .val (.int p3)] [(.int wc), (.ref a0), (.ref aF)]))
      refine .pre (fun _ kq => XS.iconst X3.here hx rfl (hb hby d25_57) kq) ?_
      show OwnEnds p e below _ (T3.setTop (mkF m 58 #[.val (.ref a0), .val (.int p1), .val (.int p2), .val (.int p3)] [(.int (1 : Int32)), (.int wc), (.ref a0), (.ref aF)]))
      refine .pre (fun _ kq => XS.iadd X3.here hx rfl (hb hby d25_58) rfl kq) ?_
      show OwnEnds p e below _ (T3.setTop (mkF m 59 #[.val (.ref a0), .val (.int p1), .val (.int p2), .val (.int p3)] [(.int (wc + (1 : Int32))), (.ref a0), (.ref aF)]))
      refine .pre (fun _ kq => XS.dupX1 X3.here hx rfl (hb hby d25_59) rfl rfl rfl kq) ?_
      show OwnEnds p e below _ (T3.setTop (mkF m 60 #[.val (.ref a0), .val (.int p1), .val (.int p2), .val (.int p3)] [(.int (wc + (1 : Int32))), (.ref a0), (.int (wc + (1 : Int32))), (.ref aF)]))
      obtain ⟨T4, h4, X4, e4, W4, st4⟩ := putF X3 hx hZ hown (host := "") (Or.inl (hw _ (List.mem_of_getElem? (i := 75) rfl))) Via.refl e3 G3 EG (Or.inl (hw _ (List.mem_of_getElem? (i := 76) rfl))) (hw _ (List.mem_of_getElem? (i := 19) rfl)) (ty := .int) (by decide) rfl rfl (g := (mkF m 60 #[.val (.ref a0), .val (.int p1), .val (.int p2), .val (.int p3)] [(.int (wc + (1 : Int32))), (.ref a0), (.int (wc + (1 : Int32))), (.ref aF)])) rfl rfl (hb hby d25_60)
      have Fw4 := G3.same W4
      have N4 := Fr.snoc X4 N g_a0
      have Kp4 : Keep h0 h4 [a0, aF, aE, aT, aA] := Kh.wr W4 (Or.inl (List.mem_of_getElem? (i := 0) rfl))
      refine .pre (fun _ kq => st4 _ kq) ?_
      show OwnEnds p e below _ (T4.setTop (mkF m 63 #[.val (.ref a0), .val (.int p1), .val (.int p2), .val (.int p3)] [(.int (wc + (1 : Int32))), (.ref aF)]))
      refine .pre (fun _ kq => XS.aloadN X4.here hx rfl (hb hby d25_63) rfl rfl kq) ?_
      show OwnEnds p e below _ (T4.setTop (mkF m 64 #[.val (.ref a0), .val (.int p1), .val (.int p2), .val (.int p3)] [(.ref a0), (.int (wc + (1 : Int32))), (.ref aF)]))
      obtain ⟨T5, X5, e5, st5⟩ := getF X4 hx hZ hown (host := "") (Or.inl (hw _ (List.mem_of_getElem? (i := 183) rfl))) Via.refl e4 (G10.other W4 (Or.inr (slot_ne (Or.inl (hw _ (List.mem_of_getElem? (i := 184) rfl))) (Or.inl (hw _ (List.mem_of_getElem? (i := 76) rfl))) (by decide) (t := .int) (t' := .int) (by decide) (by decide)))) (g := (mkF m 64 #[.val (.ref a0), .val (.int p1), .val (.int p2), .val (.int p3)] [(.ref a0), (.int (wc + (1 : Int32))), (.ref aF)])) rfl rfl (hb hby d25_64)
      refine .pre (fun _ kq => st5 _ kq) ?_
      show OwnEnds p e below _ (T5.setTop (mkF m 67 #[.val (.ref a0), .val (.int p1), .val (.int p2), .val (.int p3)] [(.int ed), (.int (wc + (1 : Int32))), (.ref aF)]))
      obtain ⟨cl6, Ar6, qs6, qh6⟩ := id (AF.other W4 (Ne.symm (own_nd D 0 4 rfl rfl (by decide))))
      have hj6 : 0 ≤ ((wc + (1 : Int32))).toInt ∧ ((wc + (1 : Int32))).toInt < 1024 := ⟨by rw [hs]; omega, by rw [hs]; omega⟩
      obtain ⟨T6, h6, X6, e6, W6, st6⟩ := stI X5 hx hZ e5 Ar6 (j := (wc + (1 : Int32))) (own_in1024 qs6 hj6) (g := (mkF m 67 #[.val (.ref a0), .val (.int p1), .val (.int p2), .val (.int p3)] [(.int ed), (.int (wc + (1 : Int32))), (.ref aF)])) rfl rfl (hb hby d25_67)
      have V6 : OwnA Z h6 aF (own_upd (own_fill FF wl wc ed) ((wc + (1 : Int32))).toNatClampNeg ed) := OwnA.set Ar6 qs6 qh6 W6
      have N6 := Fr.snoc X6 N4 g_aF
      have Kp6 : Keep h0 h6 [a0, aF, aE, aT, aA] := Kp4.wr W6 (Or.inl (List.mem_of_getElem? (i := 1) rfl))
      refine .pre (fun _ kq => st6 _ kq) ?_
      show OwnEnds p e below _ (T6.setTop (mkF m 68 #[.val (.ref a0), .val (.int p1), .val (.int p2), .val (.int p3)] []))
      refine .pre (fun _ kq => XS.goto X6.here hx rfl (pc0 := 68) (pc' := 40) rfl (hb hby d25_68) (by decide) (by decide) kq) ?_
      exact ih T6 _ _ X6 e6 N6 (Nat.le_trans (Nat.le_trans Zh (Keep.of_wr W4).1) (Keep.of_wr W6).1) Kp6 _ (by rw [← own_fill_step FF wl wc ed (by omega) (by omega) hs]; exact ⟨((EG.wr W4).wr W6), ((G0.other W4 (Or.inr (slot_ne (Or.inr (hw _ (List.mem_of_getElem? (i := 69) rfl))) (Or.inl (hw _ (List.mem_of_getElem? (i := 76) rfl))) (by decide) (t := (.object "java/util/List")) (t' := .int) (by decide) (by decide)))).other W6 (Or.inl (own_nd D 0 4 rfl rfl (by decide)))), ((G1.other W4 (Or.inr (slot_ne (Or.inl (hw _ (List.mem_of_getElem? (i := 72) rfl))) (Or.inl (hw _ (List.mem_of_getElem? (i := 76) rfl))) (by decide) (t := (.array .int)) (t' := .int) (by decide) (by decide)))).other W6 (Or.inl (own_nd D 0 4 rfl rfl (by decide)))), ((G2.other W4 (Or.inr (slot_ne (Or.inl (hw _ (List.mem_of_getElem? (i := 74) rfl))) (Or.inl (hw _ (List.mem_of_getElem? (i := 76) rfl))) (by decide) (t := (.array .int)) (t' := .int) (by decide) (by decide)))).other W6 (Or.inl (own_nd D 0 4 rfl rfl (by decide)))), (Fw4.other W6 (Or.inl (own_nd D 0 4 rfl rfl (by decide)))), ((G4.other W4 (Or.inr (slot_ne (Or.inr (hw _ (List.mem_of_getElem? (i := 80) rfl))) (Or.inl (hw _ (List.mem_of_getElem? (i := 76) rfl))) (by decide) (t := .boolean) (t' := .int) (by decide) (by decide)))).other W6 (Or.inl (own_nd D 0 4 rfl rfl (by decide)))), ((G5.other W4 (Or.inr (slot_ne (Or.inl (hw _ (List.mem_of_getElem? (i := 82) rfl))) (Or.inl (hw _ (List.mem_of_getElem? (i := 76) rfl))) (by decide) (t := (.array .int)) (t' := .int) (by decide) (by decide)))).other W6 (Or.inl (own_nd D 0 4 rfl rfl (by decide)))), ((G6.other W4 (Or.inr (slot_ne (Or.inl (hw _ (List.mem_of_getElem? (i := 84) rfl))) (Or.inl (hw _ (List.mem_of_getElem? (i := 76) rfl))) (by decide) (t := (.array .int)) (t' := .int) (by decide) (by decide)))).other W6 (Or.inl (own_nd D 0 4 rfl rfl (by decide)))), ((G7.other W4 (Or.inr (slot_ne (Or.inl (hw _ (List.mem_of_getElem? (i := 86) rfl))) (Or.inl (hw _ (List.mem_of_getElem? (i := 76) rfl))) (by decide) (t := (.array .int)) (t' := .int) (by decide) (by decide)))).other W6 (Or.inl (own_nd D 0 4 rfl rfl (by decide)))), ((G8.other W4 (Or.inr (slot_ne (Or.inl (hw _ (List.mem_of_getElem? (i := 88) rfl))) (Or.inl (hw _ (List.mem_of_getElem? (i := 76) rfl))) (by decide) (t := (.array .int)) (t' := .int) (by decide) (by decide)))).other W6 (Or.inl (own_nd D 0 4 rfl rfl (by decide)))), ((G9.other W4 (Or.inr (slot_ne (Or.inl (hw _ (List.mem_of_getElem? (i := 173) rfl))) (Or.inl (hw _ (List.mem_of_getElem? (i := 76) rfl))) (by decide) (t := .int) (t' := .int) (by decide) (by decide)))).other W6 (Or.inl (own_nd D 0 4 rfl rfl (by decide)))), ((G10.other W4 (Or.inr (slot_ne (Or.inl (hw _ (List.mem_of_getElem? (i := 184) rfl))) (Or.inl (hw _ (List.mem_of_getElem? (i := 76) rfl))) (by decide) (t := .int) (t' := .int) (by decide) (by decide)))).other W6 (Or.inl (own_nd D 0 4 rfl rfl (by decide)))), ⟨_, ((AP.other W4 (Ne.symm (own_nd D 0 2 rfl rfl (by decide)))).other W6 (own_nd D 2 4 rfl rfl (by decide)))⟩, ⟨_, ((AR.other W4 (Ne.symm (own_nd D 0 3 rfl rfl (by decide)))).other W6 (own_nd D 3 4 rfl rfl (by decide)))⟩, V6, ((AE.other W4 (Ne.symm (own_nd D 0 5 rfl rfl (by decide)))).other W6 (Ne.symm (own_nd D 4 5 rfl rfl (by decide)))), ⟨_, ((AT.other W4 (Ne.symm (own_nd D 0 6 rfl rfl (by decide)))).other W6 (Ne.symm (own_nd D 4 6 rfl rfl (by decide))))⟩, ⟨_, ((AA.other W4 (Ne.symm (own_nd D 0 7 rfl rfl (by decide)))).other W6 (Ne.symm (own_nd D 4 7 rfl rfl (by decide))))⟩⟩) (by rw [hs]; omega) (by rw [hs]; omega) (by rw [hs]; omega) hno
  obtain ⟨EG, G0, G1, G2, G3, G4, G5, G6, G7, G8, G9, G10, ⟨fP, AP⟩, ⟨fR, AR⟩, AF, AE, ⟨fT, AT⟩, ⟨fA, AA⟩⟩ := id HG
  show OwnEnds p e below _ (s₁.setTop (mkF m 0 #[.val (.ref a0), .val (.int p1), .val (.int p2), .val (.int p3)] []))
  refine .pre (fun _ kq => XS.iloadN X0.here hx rfl (hb hby d25_0) rfl kq) ?_
  show OwnEnds p e below _ (s₁.setTop (mkF m 1 #[.val (.ref a0), .val (.int p1), .val (.int p2), .val (.int p3)] [(.int p1)]))
  refine .pre (fun _ kq => XS.aloadN X0.here hx rfl (hb hby d25_1) rfl rfl kq) ?_
  show OwnEnds p e below _ (s₁.setTop (mkF m 2 #[.val (.ref a0), .val (.int p1), .val (.int p2), .val (.int p3)] [(.ref a0), (.int p1)]))
  obtain ⟨T1, X1, e1, st1⟩ := getF X0 hx hZ hown (host := "") (Or.inl (hw _ (List.mem_of_getElem? (i := 75) rfl))) Via.refl e0 G3 (g := (mkF m 2 #[.val (.ref a0), .val (.int p1), .val (.int p2), .val (.int p3)] [(.ref a0), (.int p1)])) rfl rfl (hb hby d25_2)
  refine .pre (fun _ kq => st1 _ kq) ?_
  show OwnEnds p e below _ (T1.setTop (mkF m 5 #[.val (.ref a0), .val (.int p1), .val (.int p2), .val (.int p3)] [(.int wl), (.int p1)]))
  have hc5 : ¬ (p1 < wl) := hge0
  refine .pre (fun _ kq => XS.icmpYes X1.here hx rfl (pc0 := 5) (pc' := 22) rfl (hb hby d25_5) rfl (flt hc5).2.1 (by decide) (by decide) kq) ?_
  show OwnEnds p e below _ (T1.setTop (mkF m 22 #[.val (.ref a0), .val (.int p1), .val (.int p2), .val (.int p3)] []))
  refine .pre (fun _ kq => XS.iloadN X1.here hx rfl (hb hby d25_22) rfl kq) ?_
  show OwnEnds p e below _ (T1.setTop (mkF m 23 #[.val (.ref a0), .val (.int p1), .val (.int p2), .val (.int p3)] [(.int p1)]))
  refine .pre (fun _ kq => XS.iloadN X1.here hx rfl (hb hby d25_23) rfl kq) ?_
  show OwnEnds p e below _ (T1.setTop (mkF m 24 #[.val (.ref a0), .val (.int p1), .val (.int p2), .val (.int p3)] [(.int p2), (.int p1)]))
  by_cases hc24 : p1 = p2
  · skip
    refine .pre (fun _ kq => XS.icmpYes X1.here hx rfl (pc0 := 24) (pc' := 39) rfl (hb hby d25_24) rfl (teq hc24).1 (by decide) (by decide) kq) ?_
    have own_hp : p1 = p2 ∨ EE p2.toNatClampNeg = p1 + 1 := by first | exact Or.inl hc24 | exact Or.inr hc36
    show OwnEnds p e below _ (T1.setTop (mkF m 39 #[.val (.ref a0), .val (.int p1), .val (.int p2), .val (.int p3)] []))
    exact own_endV X1 hx hlk Bd.returns (hb hby d25_39) (by decide) (by decide) ⟨rfl, N0, (by rw [e1]; exact (Keep.refl h0 [a0, aF, aE, aT, aA])), (by unfold OwnGx own_addE; rw [if_pos own_hp]; exact ⟨(by rw [e1]; exact EG), (by rw [e1]; exact G0), (by rw [e1]; exact G1), (by rw [e1]; exact G2), (by rw [e1]; exact G3), (by rw [e1]; exact G4), (by rw [e1]; exact G5), (by rw [e1]; exact G6), (by rw [e1]; exact G7), (by rw [e1]; exact G8), (by rw [e1]; exact G9), (by rw [e1]; exact G10), ⟨_, (by rw [e1]; exact AP)⟩, ⟨_, (by rw [e1]; exact AR)⟩, (by rw [e1]; exact AF), (by rw [e1]; exact AE), ⟨_, (by rw [e1]; exact AT)⟩, ⟨_, (by rw [e1]; exact AA)⟩⟩)⟩
  · skip
    refine .pre (fun _ kq => XS.icmpNo X1.here hx rfl (hb hby d25_24) rfl (feq hc24).1 kq) ?_
    show OwnEnds p e below _ (T1.setTop (mkF m 27 #[.val (.ref a0), .val (.int p1), .val (.int p2), .val (.int p3)] []))
    refine .pre (fun _ kq => XS.aloadN X1.here hx rfl (hb hby d25_27) rfl rfl kq) ?_
    show OwnEnds p e below _ (T1.setTop (mkF m 28 #[.val (.ref a0), .val (.int p1), .val (.int p2), .val (.int p3)] [(.ref a0)]))
    obtain ⟨T2, X2, e2, st2⟩ := getF X1 hx hZ hown (host := "") (Or.inl (hw _ (List.mem_of_getElem? (i := 83) rfl))) Via.refl e1 G6 (g := (mkF m 28 #[.val (.ref a0), .val (.int p1), .val (.int p2), .val (.int p3)] [(.ref a0)])) rfl rfl (hb hby d25_28)
    refine .pre (fun _ kq => st2 _ kq) ?_
    show OwnEnds p e below _ (T2.setTop (mkF m 31 #[.val (.ref a0), .val (.int p1), .val (.int p2), .val (.int p3)] [(.ref aE)]))
    refine .pre (fun _ kq => XS.iloadN X2.here hx rfl (hb hby d25_31) rfl kq) ?_
    show OwnEnds p e below _ (T2.setTop (mkF m 32 #[.val (.ref a0), .val (.int p1), .val (.int p2), .val (.int p3)] [(.int p2), (.ref aE)]))
    obtain ⟨cl3, Ar3, qs3, qh3⟩ := id AE
    have hj3 : 0 ≤ (p2).toInt ∧ (p2).toInt < 1024 := ⟨by omega, by omega⟩
    refine .pre (fun _ kq => X2.iaload hx (j := p2) (v := (.int (EE (p2).toNatClampNeg))) (by rw [e2]; exact Ar3.1) (State.isArrayOf_alike hZ.alike Ar3.2.1) Ar3.2.2 (own_in1024 qs3 hj3) (qh3 _ (own_lt1024 hj3)) (g := (mkF m 32 #[.val (.ref a0), .val (.int p1), .val (.int p2), .val (.int p3)] [(.int p2), (.ref aE)])) rfl rfl (hb hby d25_32) _ kq) ?_
    show OwnEnds p e below _ (T2.setTop (mkF m 33 #[.val (.ref a0), .val (.int p1), .val (.int p2), .val (.int p3)] [(.int (EE (p2).toNatClampNeg))]))
    refine .pre (fun _ kq => XS.iloadN X2.here hx rfl (hb hby d25_33) rfl kq) ?_
    show OwnEnds p e below _ (T2.setTop (mkF m 34 #[.val (.ref a0), .val (.int p1), .val (.int p2), .val (.int p3)] [(.int p1), (.int (EE (p2).toNatClampNeg))]))
    refine .pre (fun _ kq => XS.iconst X2.here hx rfl (hb hby d25_34) kq) ?_
    show OwnEnds p e below _ (T2.setTop (mkF m 35 #[.val (.ref a0), .val (.int p1), .val (.int p2), .val (.int p3)] [(.int (1 : Int32)), (.int p1), (.int (EE (p2).toNatClampNeg))]))
    refine .pre (fun _ kq => XS.iadd X2.here hx rfl (hb hby d25_35) rfl kq) ?_
    show OwnEnds p e below _ (T2.setTop (mkF m 36 #[.val (.ref a0), .val (.int p1), .val (.int p2), .val (.int p3)] [(.int (p1 + (1 : Int32))), (.int (EE (p2).toNatClampNeg))]))
    by_cases hc36 : (EE (p2).toNatClampNeg) = (p1 + (1 : Int32))
    · skip
      refine .pre (fun _ kq => XS.icmpNo X2.here hx rfl (hb hby d25_36) rfl (teq hc36).2 kq) ?_
      have own_hp : p1 = p2 ∨ EE p2.toNatClampNeg = p1 + 1 := by first | exact Or.inl hc24 | exact Or.inr hc36
      show OwnEnds p e below _ (T2.setTop (mkF m 39 #[.val (.ref a0), .val (.int p1), .val (.int p2), .val (.int p3)] []))
      exact own_endV X2 hx hlk Bd.returns (hb hby d25_39) (by decide) (by decide) ⟨rfl, N0, (by rw [e2]; exact (Keep.refl h0 [a0, aF, aE, aT, aA])), (by unfold OwnGx own_addE; rw [if_pos own_hp]; exact ⟨(by rw [e2]; exact EG), (by rw [e2]; exact G0), (by rw [e2]; exact G1), (by rw [e2]; exact G2), (by rw [e2]; exact G3), (by rw [e2]; exact G4), (by rw [e2]; exact G5), (by rw [e2]; exact G6), (by rw [e2]; exact G7), (by rw [e2]; exact G8), (by rw [e2]; exact G9), (by rw [e2]; exact G10), ⟨_, (by rw [e2]; exact AP)⟩, ⟨_, (by rw [e2]; exact AR)⟩, (by rw [e2]; exact AF), (by rw [e2]; exact AE), ⟨_, (by rw [e2]; exact AT)⟩, ⟨_, (by rw [e2]; exact AA)⟩⟩)⟩
    · skip
      refine .pre (fun _ kq => XS.icmpYes X2.here hx rfl (pc0 := 36) (pc' := 40) rfl (hb hby d25_36) rfl (feq hc36).2 (by decide) (by decide) kq) ?_
      exact B40 _ T2 _ _ X2 e2 N0 Z0 (Keep.refl h0 [a0, aF, aE, aT, aA]) wl (by rw [own_fill_self]; exact ⟨EG, G0, G1, G2, G3, G4, G5, G6, G7, G8, G9, G10, ⟨_, AP⟩, ⟨_, AR⟩, AF, AE, ⟨_, AT⟩, ⟨_, AA⟩⟩) (Int.le_refl _) (by omega) rfl (fun q => q.elim hc24 hc36)
theorem ef_16E (m : MethodId) (a0 : Addr) (a1 : Addr) (p2 : Int32) (p3 : Int32) : entryFrame m #[(.ref a0), (.ref a1), (.int p2), (.int p3)] 6 = mkF m 0 #[.val (.ref a0), .val (.ref a1), .val (.int p2), .val (.int p3), .unset, .unset] [] := by first | (simp [entryFrame, mkF, argsToLocals, Value.category]; done) | rfl
theorem pd_16 : parseMethodDescriptor "(III)V" = some ⟨[.int, .int, .int], none⟩ := by decide +kernel
def Q16E (Z : State) (a0 : Addr) (a1 : Addr) (p2 : Int32) (p3 : Int32) (aL : Addr) (aP : Addr) (aR : Addr) (aF : Addr) (aE : Addr) (aT : Addr) (aA : Addr) (wl : Int32) (ed : Int32) (ini : Int32) (FF : Nat → Int32) (EE : Nat → Int32) (t : Int32) (h0 : Heap) (n0 : Nat) (v : Option Value) (h : Heap) (L : List Loc) : Prop := v = some (.int 0) ∧ Fr n0 L ∧ Keep h0 h [a0, aF, aE, aT, aA] ∧ OwnGx Z h a0 aL aP aR aF aE aT aA ini (own_addE wl ed FF EE p2 t)
set_option maxRecDepth 65536 in
set_option maxHeartbeats 40000000 in
theorem rm16E (l : Launch) (Z : State) (aZ : Array Value) (hw : ∀ d ∈ tables_1, d.before aZ Z = true) (ws : List Jvm.Cond) (a0 : Addr) (a1 : Addr) (p2 : Int32) (p3 : Int32) (aL : Addr) (aP : Addr) (aR : Addr) (aF : Addr) (aE : Addr) (aT : Addr) (aA : Addr) (wl : Int32) (ed : Int32) (ini : Int32) (FF : Nat → Int32) (EE : Nat → Int32) (t : Int32) (h0 : Heap) (n0 : Nat) (Z0 : n0 ≤ h0.size) (HG : OwnG Z h0 a0 aL aP aR aF aE aT aA wl ed ini FF EE) (fsE : Exa Z h0 a1 "com/example/changeset/changeset/check/FoundState") (fsN : Fld Z h0 a1 "com/example/changeset/changeset/check/FoundState" "number" "I" (.int t)) (D : [a0, aL, aP, aR, aF, aE, aT, aA].Pairwise (· ≠ ·)) (GN : ∀ x ∈ [a0, aL, aP, aR, aF, aE, aT, aA], n0 ≤ x) (hbd : (-1 ≤ wl.toInt ∧ wl.toInt ≤ p2.toInt ∧ 0 ≤ p2.toInt ∧ p2.toInt ≤ 2) ∧ (0 ≤ t.toInt ∧ t.toInt ≤ 2 ∧ 0 ≤ ed.toInt ∧ ed.toInt ≤ 10)) :
    MetFree l (⟨"com/example/changeset/changeset/check/StateGraph", "add", "(Lcom/example/changeset/changeset/check/FoundState;II)Z"⟩ : MethodName) (head1 (Jvm.Cond.code (⟨"com/example/changeset/changeset/check/StateGraph", "add", "(Lcom/example/changeset/changeset/check/FoundState;II)Z"⟩ : MethodName) prog_39_method_3_code 6 (some .boolean) :: ws) ({ frames := 1, cells := 0, slots := 0, locals := 18 } : Room)) (fun a U => a = #[(.ref a0), (.ref a1), (.int p2), (.int p3)] ∧ Z.Warmed39 U.vm ∧ U.heap = h0) (fun _ _ _ _ _ => True) (fun _ U o U' => ∃ v L, o = .returned v ∧ Q16E Z a0 a1 p2 p3 aL aP aR aF aE aT aA wl ed ini FF EE t h0 n0 v U'.heap L ∧ FrameEnd U o U' L 0 0) := by
  refine MetFree.of_bodySF (plainFor_of_name pn_6) hisR ?_
  intro p e s m args below meth c s₁ Bd hml0 hP hK
  obtain ⟨rfl, hZ, hh⟩ := hP
  have hx := Bd.exec
  have hby := Bd.bytes
  have hml : c.maxLocals = 6 := hml0
  have hown : s.vm.findClass "com/example/changeset/changeset/check/StateGraph" = some m.cls := findClass_of_methodNamed Bd.named
  have hnm := (name_of_methodNamed Bd.named Bd.method).1
  have hlk := BodyLoose.notSynchronized Bd
  have X0 : Stand p l e ({ frames := 1, cells := 0, slots := 0, locals := 18 } : Room) s m #[(.ref a0), (.ref a1), (.int p2), (.int p3)] below meth c s₁ [] 0 0 := Stand.of_body Bd
  have e0 : s₁.heap = h0 := by rw [← hh, Bd.state]; rfl
  have N0 := Fr.nil n0
  have hk0 : 0 ≤ 0 := Nat.zero_le _
  have hn0 : 0 ≤ 0 := Nat.zero_le _
  show OwnEnds p e below (OwnQ s (Q16E Z a0 a1 p2 p3 aL aP aR aF aE aT aA wl ed ini FF EE t h0 n0) 0 0) (s₁.setTop (entryFrame m #[(.ref a0), (.ref a1), (.int p2), (.int p3)] 6))
  refine .pre (fun t k => castTop (ef_16E m a0 a1 p2 p3) k) ?_
  obtain ⟨EG, G0, G1, G2, G3, G4, G5, G6, G7, G8, G9, G10, ⟨fP, AP⟩, ⟨fR, AR⟩, AF, AE, ⟨fT, AT⟩, ⟨fA, AA⟩⟩ := id HG
  have g_a0 : n0 ≤ a0 := GN _ (List.mem_of_getElem? (i := 0) rfl)
  have g_aL : n0 ≤ aL := GN _ (List.mem_of_getElem? (i := 1) rfl)
  have g_aP : n0 ≤ aP := GN _ (List.mem_of_getElem? (i := 2) rfl)
  have g_aR : n0 ≤ aR := GN _ (List.mem_of_getElem? (i := 3) rfl)
  have g_aF : n0 ≤ aF := GN _ (List.mem_of_getElem? (i := 4) rfl)
  have g_aE : n0 ≤ aE := GN _ (List.mem_of_getElem? (i := 5) rfl)
  have g_aT : n0 ≤ aT := GN _ (List.mem_of_getElem? (i := 6) rfl)
  have g_aA : n0 ≤ aA := GN _ (List.mem_of_getElem? (i := 7) rfl)
  have ht0 : ¬ (t < (0 : Int32)) := by have z : (0 : Int32).toInt = 0 := rfl; rw [Int32.lt_iff_toInt_lt, z]; omega
  have hp0 : ¬ (p2 < (0 : Int32)) := by have z : (0 : Int32).toInt = 0 := rfl; rw [Int32.lt_iff_toInt_lt, z]; omega
  show OwnEnds p e below _ (s₁.setTop (mkF m 0 #[.val (.ref a0), .val (.ref a1), .val (.int p2), .val (.int p3), .unset, .unset] []))
  refine .pre (fun _ kq => XS.aloadN X0.here hx rfl (hb hby d16_0) rfl rfl kq) ?_
  show OwnEnds p e below _ (s₁.setTop (mkF m 1 #[.val (.ref a0), .val (.ref a1), .val (.int p2), .val (.int p3), .unset, .unset] [(.ref a1)]))
  obtain ⟨cq1, kq1, q1a, q1b, q1c⟩ := isOf hZ e0 fsE
  obtain ⟨_, _, ⟨T1, L1, k1, n1⟩, -, X1, ⟨Lc1, hQ1, l1, y1, z1⟩, st1⟩ := X0.virtualBack hx (y := (⟨"com/example/changeset/changeset/check/FoundState", "number", "()I"⟩ : MethodName)) (z := (⟨"com/example/changeset/changeset/check/FoundState", "number", "()I"⟩ : MethodName)) hown (mvT hZ (hw _ (List.mem_of_getElem? (i := 122) rfl))) (mvT hZ (hw _ (List.mem_of_getElem? (i := 123) rfl))) (notFace_of_selects (args := #[]) (mvT hZ (hw _ (List.mem_of_getElem? (i := 125) rfl)))) (mvT hZ (hw _ (List.mem_of_getElem? (i := 125) rfl))) (mvT hZ (hw _ (List.mem_of_getElem? (i := 124) rfl))) (by decide) (backOf (W := 0) (rm17 l Z aZ hw [] a1 t h0 n0 Z0 fsN) hZ (hw _ (List.mem_of_getElem? (i := 126) rfl)) (hw _ (List.mem_of_getElem? (i := 107) rfl)) (by decide) (by decide)) q1a q1c (g := (mkF m 1 #[.val (.ref a0), .val (.ref a1), .val (.int p2), .val (.int p3), .unset, .unset] [(.ref a1)])) rfl (by rw [hml]; rfl) (Steps.refl _) (argsL := []) (rest := []) (lenOf pd_12 rfl) rfl (by show 2 * 0 + _ ≤ _; exact Nat.le_of_eq rfl) (hb hby d16_1) (fun _ _ => ⟨rfl, e0, (by decide : 0 + 0 ≤ _), (by decide : 0 + 0 ≤ _)⟩)
  dsimp only [Pt.U, Pt.locs, Pt.cells, Pt.slots] at X1 l1 y1 z1 st1 hQ1
  try dsimp only [Nat.reduceAdd] at y1 z1
  subst y1 z1
  obtain ⟨rfl, N1q, e1⟩ := hQ1
  have N1 : Fr n0 L1 := by rw [l1]; exact Fr.app N0 N1q
  refine .pre (fun _ kq => st1.trans kq) ?_
  show OwnEnds p e below _ (T1.setTop (mkF m 4 #[.val (.ref a0), .val (.ref a1), .val (.int p2), .val (.int p3), .unset, .unset] [(.int t)]))
  have hc4 : ¬ (t < (0 : Int32)) := ht0
  refine .pre (fun _ kq => XS.ifYes X1.here hx rfl (pc0 := 4) (pc' := 11) rfl (hb hby d16_4) rfl ((if0 _ _).trans (flt hc4).2.1) (by decide) (by decide) kq) ?_
  show OwnEnds p e below _ (T1.setTop (mkF m 11 #[.val (.ref a0), .val (.ref a1), .val (.int p2), .val (.int p3), .unset, .unset] []))
  refine .pre (fun _ kq => XS.iconst X1.here hx rfl (hb hby d16_11) kq) ?_
  show OwnEnds p e below _ (T1.setTop (mkF m 12 #[.val (.ref a0), .val (.ref a1), .val (.int p2), .val (.int p3), .unset, .unset] [(.int (0 : Int32))]))
  refine .pre (fun _ kq => XS.istore X1.here hx rfl (hb hby d16_12) rfl (l' := #[.val (.ref a0), .val (.ref a1), .val (.int p2), .val (.int p3), .val (.int (0 : Int32)), .unset]) rfl kq) ?_
  show OwnEnds p e below _ (T1.setTop (mkF m 14 #[.val (.ref a0), .val (.ref a1), .val (.int p2), .val (.int p3), .val (.int (0 : Int32)), .unset] []))
  refine .pre (fun _ kq => XS.iload X1.here hx rfl (hb hby d16_14) rfl kq) ?_
  show OwnEnds p e below _ (T1.setTop (mkF m 16 #[.val (.ref a0), .val (.ref a1), .val (.int p2), .val (.int p3), .val (.int (0 : Int32)), .unset] [(.int (0 : Int32))]))
  have hc16 : ((0 : Int32) = (0 : Int32)) := by decide
  refine .pre (fun _ kq => XS.ifYes X1.here hx rfl (pc0 := 16) (pc' := 171) rfl (hb hby d16_16) rfl ((if0 _ _).trans (teq hc16).1) (by decide) (by decide) kq) ?_
  show OwnEnds p e below _ (T1.setTop (mkF m 171 #[.val (.ref a0), .val (.ref a1), .val (.int p2), .val (.int p3), .val (.int (0 : Int32)), .unset] []))
  refine .pre (fun _ kq => XS.aloadN X1.here hx rfl (hb hby d16_171) rfl rfl kq) ?_
  show OwnEnds p e below _ (T1.setTop (mkF m 172 #[.val (.ref a0), .val (.ref a1), .val (.int p2), .val (.int p3), .val (.int (0 : Int32)), .unset] [(.ref a0)]))
  obtain ⟨T2, X2, e2, st2⟩ := getF X1 hx hZ hown (host := "") (Or.inl (hw _ (List.mem_of_getElem? (i := 79) rfl))) Via.refl e1 G4 (g := (mkF m 172 #[.val (.ref a0), .val (.ref a1), .val (.int p2), .val (.int p3), .val (.int (0 : Int32)), .unset] [(.ref a0)])) rfl rfl (hb hby d16_172)
  refine .pre (fun _ kq => st2 _ kq) ?_
  show OwnEnds p e below _ (T2.setTop (mkF m 175 #[.val (.ref a0), .val (.ref a1), .val (.int p2), .val (.int p3), .val (.int (0 : Int32)), .unset] [(.int (1 : Int32))]))
  have hc175 : ¬ ((1 : Int32) = (0 : Int32)) := by decide
  refine .pre (fun _ kq => XS.ifNo X2.here hx rfl (hb hby d16_175) rfl ((if0 _ _).trans (feq hc175).1) kq) ?_
  show OwnEnds p e below _ (T2.setTop (mkF m 178 #[.val (.ref a0), .val (.ref a1), .val (.int p2), .val (.int p3), .val (.int (0 : Int32)), .unset] []))
  refine .pre (fun _ kq => XS.iloadN X2.here hx rfl (hb hby d16_178) rfl kq) ?_
  show OwnEnds p e below _ (T2.setTop (mkF m 179 #[.val (.ref a0), .val (.ref a1), .val (.int p2), .val (.int p3), .val (.int (0 : Int32)), .unset] [(.int p2)]))
  have hc179 : ¬ (p2 < (0 : Int32)) := hp0
  refine .pre (fun _ kq => XS.ifNo X2.here hx rfl (hb hby d16_179) rfl ((if0 _ _).trans (flt hc179).1) kq) ?_
  show OwnEnds p e below _ (T2.setTop (mkF m 182 #[.val (.ref a0), .val (.ref a1), .val (.int p2), .val (.int p3), .val (.int (0 : Int32)), .unset] []))
  refine .pre (fun _ kq => XS.aloadN X2.here hx rfl (hb hby d16_182) rfl rfl kq) ?_
  show OwnEnds p e below _ (T2.setTop (mkF m 183 #[.val (.ref a0), .val (.ref a1), .val (.int p2), .val (.int p3), .val (.int (0 : Int32)), .unset] [(.ref a0)]))
  refine .pre (fun _ kq => XS.iloadN X2.here hx rfl (hb hby d16_183) rfl kq) ?_
  show OwnEnds p e below _ (T2.setTop (mkF m 184 #[.val (.ref a0), .val (.ref a1), .val (.int p2), .val (.int p3), .val (.int (0 : Int32)), .unset] [(.int p2), (.ref a0)]))
  refine .pre (fun _ kq => XS.aloadN X2.here hx rfl (hb hby d16_184) rfl rfl kq) ?_
  show OwnEnds p e below _ (T2.setTop (mkF m 185 #[.val (.ref a0), .val (.ref a1), .val (.int p2), .val (.int p3), .val (.int (0 : Int32)), .unset] [(.ref a1), (.int p2), (.ref a0)]))
  obtain ⟨cq3, kq3, q3a, q3b, q3c⟩ := isOf hZ e2 fsE
  obtain ⟨_, _, ⟨T3, L3, k3, n3⟩, -, X3, ⟨Lc3, hQ3, l3, y3, z3⟩, st3⟩ := X2.virtualBack hx (y := (⟨"com/example/changeset/changeset/check/FoundState", "number", "()I"⟩ : MethodName)) (z := (⟨"com/example/changeset/changeset/check/FoundState", "number", "()I"⟩ : MethodName)) hown (mvT hZ (hw _ (List.mem_of_getElem? (i := 122) rfl))) (mvT hZ (hw _ (List.mem_of_getElem? (i := 123) rfl))) (notFace_of_selects (args := #[]) (mvT hZ (hw _ (List.mem_of_getElem? (i := 125) rfl)))) (mvT hZ (hw _ (List.mem_of_getElem? (i := 125) rfl))) (mvT hZ (hw _ (List.mem_of_getElem? (i := 124) rfl))) (by decide) (backOf (W := 2) (rm17 l Z aZ hw [] a1 t h0 n0 Z0 fsN) hZ (hw _ (List.mem_of_getElem? (i := 126) rfl)) (hw _ (List.mem_of_getElem? (i := 107) rfl)) (by decide) (by decide)) q3a q3c (g := (mkF m 185 #[.val (.ref a0), .val (.ref a1), .val (.int p2), .val (.int p3), .val (.int (0 : Int32)), .unset] [(.ref a1), (.int p2), (.ref a0)])) rfl (by rw [hml]; rfl) (Steps.refl _) (argsL := []) (rest := [(.int p2), (.ref a0)]) (lenOf pd_12 rfl) rfl (by show 2 * 0 + _ ≤ _; exact Nat.le_of_eq rfl) (hb hby d16_185) (fun _ _ => ⟨rfl, e2, (by decide : 0 + 0 ≤ _), (by decide : 0 + 0 ≤ _)⟩)
  dsimp only [Pt.U, Pt.locs, Pt.cells, Pt.slots] at X3 l3 y3 z3 st3 hQ3
  try dsimp only [Nat.reduceAdd] at y3 z3
  subst y3 z3
  obtain ⟨rfl, N3q, e3⟩ := hQ3
  have N3 : Fr n0 L3 := by rw [l3]; exact Fr.app N1 N3q
  refine .pre (fun _ kq => st3.trans kq) ?_
  show OwnEnds p e below _ (T3.setTop (mkF m 188 #[.val (.ref a0), .val (.ref a1), .val (.int p2), .val (.int p3), .val (.int (0 : Int32)), .unset] [(.int t), (.int p2), (.ref a0)]))
  refine .pre (fun _ kq => XS.iloadN X3.here hx rfl (hb hby d16_188) rfl kq) ?_
  show OwnEnds p e below _ (T3.setTop (mkF m 189 #[.val (.ref a0), .val (.ref a1), .val (.int p2), .val (.int p3), .val (.int (0 : Int32)), .unset] [(.int p3), (.int t), (.int p2), (.ref a0)]))
  obtain ⟨cq4, q4, q4'⟩ := EG.cell
  obtain ⟨_, _, ⟨T4, L4, k4, n4⟩, -, X4, ⟨Lc4, hQ4, l4, y4, z4⟩, st4⟩ := X3.privateBack hx (y := (⟨"com/example/changeset/changeset/check/StateGraph", "addEdge", "(III)V"⟩ : MethodName)) hown (mvT hZ (hw _ (List.mem_of_getElem? (i := 179) rfl))) (mvT hZ (hw _ (List.mem_of_getElem? (i := 180) rfl))) (own_selP (mvT hZ (hw _ (List.mem_of_getElem? (i := 19) rfl))) (Cond.privateMethod_at (mvP hZ (hw _ (List.mem_of_getElem? (i := 181) rfl)) (args := #[]))) (mvT hZ (hw _ (List.mem_of_getElem? (i := 180) rfl))) (by decide)) (Cond.privateMethod_at (mvP hZ (hw _ (List.mem_of_getElem? (i := 181) rfl)) (args := #[]))) (mvT hZ (hw _ (List.mem_of_getElem? (i := 182) rfl))) (by decide) (backOf (W := 0) (rm25 l Z aZ hw [] a0 p2 t p3 aL aP aR aF aE aT aA wl ed ini FF EE h0 n0 Z0 HG D GN hbd) hZ (hw _ (List.mem_of_getElem? (i := 182) rfl)) (hw _ (List.mem_of_getElem? (i := 20) rfl)) (by decide) (by decide)) (g := (mkF m 189 #[.val (.ref a0), .val (.ref a1), .val (.int p2), .val (.int p3), .val (.int (0 : Int32)), .unset] [(.int p3), (.int t), (.int p2), (.ref a0)])) rfl (by rw [hml]; rfl) (Steps.refl _) (a := a0) (by rw [e3]; exact q4) q4' (argsL := [(.int p2), (.int t), (.int p3)]) (rest := []) (lenOf pd_16 rfl) rfl (by show 2 * 0 + _ ≤ _; exact Nat.le_of_eq rfl) (hb hby d16_189) (fun _ _ => ⟨rfl, e3, (by decide : 0 + 0 ≤ _), (by decide : 0 + 0 ≤ _)⟩)
  dsimp only [Pt.U, Pt.locs, Pt.cells, Pt.slots] at X4 l4 y4 z4 st4 hQ4
  try dsimp only [Nat.reduceAdd] at y4 z4
  subst y4 z4
  obtain ⟨rfl, N4q, K4, Hx4⟩ := hQ4
  have N4 : Fr n0 L4 := by rw [l4]; exact Fr.app N3 N4q
  refine .pre (fun _ kq => st4.trans kq) ?_
  have Kp4 : Keep h0 T4.heap [a0, aF, aE, aT, aA] := (Keep.refl h0 [a0, aF, aE, aT, aA]).trans K4 (allS (Or.inl (List.mem_of_getElem? (i := 0) rfl)) (allS (Or.inl (List.mem_of_getElem? (i := 1) rfl)) (allS (Or.inl (List.mem_of_getElem? (i := 2) rfl)) (allS (Or.inl (List.mem_of_getElem? (i := 3) rfl)) (allS (Or.inl (List.mem_of_getElem? (i := 4) rfl)) all0)))))
  show OwnEnds p e below _ (T4.setTop (mkF m 192 #[.val (.ref a0), .val (.ref a1), .val (.int p2), .val (.int p3), .val (.int (0 : Int32)), .unset] []))
  refine .pre (fun _ kq => XS.iload X4.here hx rfl (hb hby d16_192) rfl kq) ?_
  show OwnEnds p e below _ (T4.setTop (mkF m 194 #[.val (.ref a0), .val (.ref a1), .val (.int p2), .val (.int p3), .val (.int (0 : Int32)), .unset] [(.int (0 : Int32))]))
  exact own_endN X4 hx hlk (t := .boolean) Bd.returns (by simp) (hb hby d16_194) rfl (by decide) (by decide) ⟨rfl, N4, Kp4, Hx4⟩
theorem own_p3 {n : Int32} (h : 0 ≤ n.toInt ∧ n.toInt ≤ 2) : 0 ≤ (n + (1 : Int32)).toInt ∧ (n + (1 : Int32)).toInt < 1024 := by
  have := own_plus1 n (by omega) (by omega)
  omega
theorem own_p2 {n : Int32} (h : 0 ≤ n.toInt ∧ n.toInt ≤ 2) : 0 ≤ n.toInt ∧ n.toInt < 1024 := by omega
theorem d26_0 : decode prog_39_method_8_code 0 = .ok (.iload_n 1, 1) := by decide +kernel
theorem d26_1 : decode prog_39_method_8_code 1 = .ok (.aload_n 0, 1) := by decide +kernel
theorem d26_2 : decode prog_39_method_8_code 2 = .ok (.getfield 30, 3) := by decide +kernel
theorem d26_5 : decode prog_39_method_8_code 5 = .ok (.if_icmp .ge 14, 3) := by decide +kernel
theorem d26_8 : decode prog_39_method_8_code 8 = .ok (.aload_n 0, 1) := by decide +kernel
theorem d26_9 : decode prog_39_method_8_code 9 = .ok (.getfield 41, 3) := by decide +kernel
theorem d26_12 : decode prog_39_method_8_code 12 = .ok (.iload_n 1, 1) := by decide +kernel
theorem d26_13 : decode prog_39_method_8_code 13 = .ok (.iconst 1, 1) := by decide +kernel
theorem d26_14 : decode prog_39_method_8_code 14 = .ok (.iadd, 1) := by decide +kernel
theorem d26_15 : decode prog_39_method_8_code 15 = .ok (.iaload, 1) := by decide +kernel
theorem d26_16 : decode prog_39_method_8_code 16 = .ok (.goto 7, 3) := by decide +kernel
theorem d26_19 : decode prog_39_method_8_code 19 = .ok (.aload_n 0, 1) := by decide +kernel
theorem d26_20 : decode prog_39_method_8_code 20 = .ok (.getfield 103, 3) := by decide +kernel
theorem d26_23 : decode prog_39_method_8_code 23 = .ok (.ireturn, 1) := by decide +kernel
theorem ef_26 (m : MethodId) (a0 : Addr) (p1 : Int32) : entryFrame m #[(.ref a0), (.int p1)] 2 = mkF m 0 #[.val (.ref a0), .val (.int p1)] [] := by first | (simp [entryFrame, mkF, argsToLocals, Value.category]; done) | rfl
def f26_0 (aF : Addr) (wl : Int32) (ed : Int32) (FF : Nat → Int32) (p1 : Int32) : Int32 := (if p1 < wl then (FF ((p1 + (1 : Int32))).toNatClampNeg) else ed)
def Q26 (Z : State) (a0 : Addr) (p1 : Int32) (aF : Addr) (wl : Int32) (ed : Int32) (FF : Nat → Int32) (h0 : Heap) (n0 : Nat) (v : Option Value) (h : Heap) (L : List Loc) : Prop := v = some (.int (f26_0 aF wl ed FF p1)) ∧ Fr n0 L ∧ h = h0
set_option maxRecDepth 65536 in
set_option maxHeartbeats 40000000 in
theorem rm26 (l : Launch) (Z : State) (aZ : Array Value) (hw : ∀ d ∈ tables_1, d.before aZ Z = true) (ws : List Jvm.Cond) (a0 : Addr) (p1 : Int32) (aF : Addr) (wl : Int32) (ed : Int32) (FF : Nat → Int32) (h0 : Heap) (n0 : Nat) (Z0 : n0 ≤ h0.size) (G3 : Fld Z h0 a0 "com/example/changeset/changeset/check/StateGraph" "lastWithEdges" "I" (.int wl)) (G5 : Fld Z h0 a0 "com/example/changeset/changeset/check/StateGraph" "firstEdges" "[I" (.ref aF)) (G10 : Fld Z h0 a0 "com/example/changeset/changeset/check/StateGraph" "edges" "I" (.int ed)) (AF : OwnA Z h0 aF FF) (hn : 0 ≤ p1.toInt ∧ p1.toInt ≤ 2) :
    MetFree l (⟨"com/example/changeset/changeset/check/StateGraph", "edgesEnd", "(I)I"⟩ : MethodName) (head1 (Jvm.Cond.code (⟨"com/example/changeset/changeset/check/StateGraph", "edgesEnd", "(I)I"⟩ : MethodName) prog_39_method_8_code 2 (some .int) :: ws) ({ frames := 0, cells := 0, slots := 0, locals := 0 } : Room)) (fun a U => a = #[(.ref a0), (.int p1)] ∧ Z.Warmed39 U.vm ∧ U.heap = h0) (fun _ _ _ _ _ => True) (fun _ U o U' => ∃ v L, o = .returned v ∧ Q26 Z a0 p1 aF wl ed FF h0 n0 v U'.heap L ∧ FrameEnd U o U' L 0 0) := by
  refine MetFree.of_bodySF (plainFor_of_name pn_6) hisR ?_
  intro p e s m args below meth c s₁ Bd hml0 hP hK
  obtain ⟨rfl, hZ, hh⟩ := hP
  have hx := Bd.exec
  have hby := Bd.bytes
  have hml : c.maxLocals = 2 := hml0
  have hown : s.vm.findClass "com/example/changeset/changeset/check/StateGraph" = some m.cls := findClass_of_methodNamed Bd.named
  have hnm := (name_of_methodNamed Bd.named Bd.method).1
  have hlk := BodyLoose.notSynchronized Bd
  have X0 : Stand p l e ({ frames := 0, cells := 0, slots := 0, locals := 0 } : Room) s m #[(.ref a0), (.int p1)] below meth c s₁ [] 0 0 := Stand.of_body Bd
  have e0 : s₁.heap = h0 := by rw [← hh, Bd.state]; rfl
  have N0 := Fr.nil n0
  have hk0 : 0 ≤ 0 := Nat.zero_le _
  have hn0 : 0 ≤ 0 := Nat.zero_le _
  show OwnEnds p e below (OwnQ s (Q26 Z a0 p1 aF wl ed FF h0 n0) 0 0) (s₁.setTop (entryFrame m #[(.ref a0), (.int p1)] 2))
  refine .pre (fun t k => castTop (ef_26 m a0 p1) k) ?_
  have hF : f26_0 aF wl ed FF p1 = f26_0 aF wl ed FF p1 := rfl
  change (if p1 < wl then (FF ((p1 + (1 : Int32))).toNatClampNeg) else ed) = _ at hF
  show OwnEnds p e below _ (s₁.setTop (mkF m 0 #[.val (.ref a0), .val (.int p1)] []))
  refine .pre (fun _ kq => XS.iloadN X0.here hx rfl (hb hby d26_0) rfl kq) ?_
  show OwnEnds p e below _ (s₁.setTop (mkF m 1 #[.val (.ref a0), .val (.int p1)] [(.int p1)]))
  refine .pre (fun _ kq => XS.aloadN X0.here hx rfl (hb hby d26_1) rfl rfl kq) ?_
  show OwnEnds p e below _ (s₁.setTop (mkF m 2 #[.val (.ref a0), .val (.int p1)] [(.ref a0), (.int p1)]))
  obtain ⟨T5, X5, e5, st5⟩ := getF X0 hx hZ hown (host := "") (Or.inl (hw _ (List.mem_of_getElem? (i := 75) rfl))) Via.refl e0 G3 (g := (mkF m 2 #[.val (.ref a0), .val (.int p1)] [(.ref a0), (.int p1)])) rfl rfl (hb hby d26_2)
  refine .pre (fun _ kq => st5 _ kq) ?_
  show OwnEnds p e below _ (T5.setTop (mkF m 5 #[.val (.ref a0), .val (.int p1)] [(.int wl), (.int p1)]))
  by_cases hc5 : p1 < wl
  · rw [if_pos hc5] at hF
    refine .pre (fun _ kq => XS.icmpNo X5.here hx rfl (hb hby d26_5) rfl (tlt hc5).2.1 kq) ?_
    show OwnEnds p e below _ (T5.setTop (mkF m 8 #[.val (.ref a0), .val (.int p1)] []))
    refine .pre (fun _ kq => XS.aloadN X5.here hx rfl (hb hby d26_8) rfl rfl kq) ?_
    show OwnEnds p e below _ (T5.setTop (mkF m 9 #[.val (.ref a0), .val (.int p1)] [(.ref a0)]))
    obtain ⟨T6, X6, e6, st6⟩ := getF X5 hx hZ hown (host := "") (Or.inl (hw _ (List.mem_of_getElem? (i := 81) rfl))) Via.refl e5 G5 (g := (mkF m 9 #[.val (.ref a0), .val (.int p1)] [(.ref a0)])) rfl rfl (hb hby d26_9)
    refine .pre (fun _ kq => st6 _ kq) ?_
    show OwnEnds p e below _ (T6.setTop (mkF m 12 #[.val (.ref a0), .val (.int p1)] [(.ref aF)]))
    refine .pre (fun _ kq => XS.iloadN X6.here hx rfl (hb hby d26_12) rfl kq) ?_
    show OwnEnds p e below _ (T6.setTop (mkF m 13 #[.val (.ref a0), .val (.int p1)] [(.int p1), (.ref aF)]))
    refine .pre (fun _ kq => XS.iconst X6.here hx rfl (hb hby d26_13) kq) ?_
    show OwnEnds p e below _ (T6.setTop (mkF m 14 #[.val (.ref a0), .val (.int p1)] [(.int (1 : Int32)), (.int p1), (.ref aF)]))
    refine .pre (fun _ kq => XS.iadd X6.here hx rfl (hb hby d26_14) rfl kq) ?_
    show OwnEnds p e below _ (T6.setTop (mkF m 15 #[.val (.ref a0), .val (.int p1)] [(.int (p1 + (1 : Int32))), (.ref aF)]))
    obtain ⟨cl7, Ar7, qs7, qh7⟩ := id AF
    have hj7 : 0 ≤ ((p1 + (1 : Int32))).toInt ∧ ((p1 + (1 : Int32))).toInt < 1024 := own_p3 hn
    refine .pre (fun _ kq => X6.iaload hx (j := (p1 + (1 : Int32))) (v := (.int (FF ((p1 + (1 : Int32))).toNatClampNeg))) (by rw [e6]; exact Ar7.1) (State.isArrayOf_alike hZ.alike Ar7.2.1) Ar7.2.2 (own_in1024 qs7 hj7) (qh7 _ (own_lt1024 hj7)) (g := (mkF m 15 #[.val (.ref a0), .val (.int p1)] [(.int (p1 + (1 : Int32))), (.ref aF)])) rfl rfl (hb hby d26_15) _ kq) ?_
    show OwnEnds p e below _ (T6.setTop (mkF m 16 #[.val (.ref a0), .val (.int p1)] [(.int (FF ((p1 + (1 : Int32))).toNatClampNeg))]))
    refine .pre (fun _ kq => XS.goto X6.here hx rfl (pc0 := 16) (pc' := 23) rfl (hb hby d26_16) (by decide) (by decide) kq) ?_
    show OwnEnds p e below _ (T6.setTop (mkF m 23 #[.val (.ref a0), .val (.int p1)] [(.int (FF ((p1 + (1 : Int32))).toNatClampNeg))]))
    exact own_endI X6 hx hlk Bd.returns (hb hby d26_23) hk0 hn0 ⟨congrArg (fun z => some (Value.int z)) hF, N0, e6⟩
  · rw [if_neg hc5] at hF
    refine .pre (fun _ kq => XS.icmpYes X5.here hx rfl (pc0 := 5) (pc' := 19) rfl (hb hby d26_5) rfl (flt hc5).2.1 (by decide) (by decide) kq) ?_
    show OwnEnds p e below _ (T5.setTop (mkF m 19 #[.val (.ref a0), .val (.int p1)] []))
    refine .pre (fun _ kq => XS.aloadN X5.here hx rfl (hb hby d26_19) rfl rfl kq) ?_
    show OwnEnds p e below _ (T5.setTop (mkF m 20 #[.val (.ref a0), .val (.int p1)] [(.ref a0)]))
    obtain ⟨T8, X8, e8, st8⟩ := getF X5 hx hZ hown (host := "") (Or.inl (hw _ (List.mem_of_getElem? (i := 183) rfl))) Via.refl e5 G10 (g := (mkF m 20 #[.val (.ref a0), .val (.int p1)] [(.ref a0)])) rfl rfl (hb hby d26_20)
    refine .pre (fun _ kq => st8 _ kq) ?_
    show OwnEnds p e below _ (T8.setTop (mkF m 23 #[.val (.ref a0), .val (.int p1)] [(.int ed)]))
    exact own_endI X8 hx hlk Bd.returns (hb hby d26_23) hk0 hn0 ⟨congrArg (fun z => some (Value.int z)) hF, N0, e8⟩
theorem d1_0 : decode method_2_code 0 = .ok (.iload_n 0, 1) := by decide +kernel
theorem d1_1 : decode method_2_code 1 = .ok (.ldc 7, 2) := by decide +kernel
theorem d1_3 : decode method_2_code 3 = .ok (.iand, 1) := by decide +kernel
theorem d1_4 : decode method_2_code 4 = .ok (.sipush 768, 3) := by decide +kernel
theorem d1_7 : decode method_2_code 7 = .ok (.irem, 1) := by decide +kernel
theorem d1_8 : decode method_2_code 8 = .ok (.ireturn, 1) := by decide +kernel
theorem ef_1 (m : MethodId) (p0 : Int32) : entryFrame m #[(.int p0)] 1 = mkF m 0 #[.val (.int p0)] [] := by first | (simp [entryFrame, mkF, argsToLocals, Value.category]; done) | rfl
theorem pn_17 : plainName "com/example/changeset/changeset/check/StateGraphEdgesEndPinLaw" = true := by first | (simp [plainName, overriddenIn]; done) | decide +kernel
def f1_0 (p0 : Int32) : Int32 := ((p0 &&& (2147483647 : Int32)) % (768 : Int32))
def Q1 (Z : State) (p0 : Int32) (h0 : Heap) (n0 : Nat) (v : Option Value) (h : Heap) (L : List Loc) : Prop := v = some (.int (f1_0 p0)) ∧ Fr n0 L ∧ h = h0
set_option maxRecDepth 65536 in
set_option maxHeartbeats 40000000 in
theorem rm1 (l : Launch) (Z : State) (aZ : Array Value) (hw : ∀ d ∈ tables_1, d.before aZ Z = true) (ws : List Jvm.Cond) (p0 : Int32) (h0 : Heap) (n0 : Nat) (Z0 : n0 ≤ h0.size) :
    MetFree l (⟨"com/example/changeset/changeset/check/StateGraphEdgesEndPinLaw", "key", "(I)I"⟩ : MethodName) (head1 (Jvm.Cond.code (⟨"com/example/changeset/changeset/check/StateGraphEdgesEndPinLaw", "key", "(I)I"⟩ : MethodName) method_2_code 1 (some .int) :: ws) ({ frames := 0, cells := 0, slots := 0, locals := 0 } : Room)) (fun a U => a = #[(.int p0)] ∧ Z.Warmed39 U.vm ∧ U.heap = h0) (fun _ _ _ _ _ => True) (fun _ U o U' => ∃ v L, o = .returned v ∧ Q1 Z p0 h0 n0 v U'.heap L ∧ FrameEnd U o U' L 0 0) := by
  refine MetFree.of_bodySF (plainFor_of_name pn_17) hisR ?_
  intro p e s m args below meth c s₁ Bd hml0 hP hK
  obtain ⟨rfl, hZ, hh⟩ := hP
  have hx := Bd.exec
  have hby := Bd.bytes
  have hml : c.maxLocals = 1 := hml0
  have hown : s.vm.findClass "com/example/changeset/changeset/check/StateGraphEdgesEndPinLaw" = some m.cls := findClass_of_methodNamed Bd.named
  have hnm := (name_of_methodNamed Bd.named Bd.method).1
  have hlk := BodyLoose.notSynchronized Bd
  have X0 : Stand p l e ({ frames := 0, cells := 0, slots := 0, locals := 0 } : Room) s m #[(.int p0)] below meth c s₁ [] 0 0 := Stand.of_body Bd
  have e0 : s₁.heap = h0 := by rw [← hh, Bd.state]; rfl
  have N0 := Fr.nil n0
  have hk0 : 0 ≤ 0 := Nat.zero_le _
  have hn0 : 0 ≤ 0 := Nat.zero_le _
  show OwnEnds p e below (OwnQ s (Q1 Z p0 h0 n0) 0 0) (s₁.setTop (entryFrame m #[(.int p0)] 1))
  refine .pre (fun t k => castTop (ef_1 m p0) k) ?_
  have hF : f1_0 p0 = f1_0 p0 := rfl
  change ((p0 &&& (2147483647 : Int32)) % (768 : Int32)) = _ at hF
  show OwnEnds p e below _ (s₁.setTop (mkF m 0 #[.val (.int p0)] []))
  refine .pre (fun _ kq => XS.iloadN X0.here hx rfl (hb hby d1_0) rfl kq) ?_
  show OwnEnds p e below _ (s₁.setTop (mkF m 1 #[.val (.int p0)] [(.int p0)]))
  refine .pre (fun _ kq => X0.ldcInt hx hown (mvT hZ (hw _ (List.mem_of_getElem? (i := 4) rfl))) (g := (mkF m 1 #[.val (.int p0)] [(.int p0)])) rfl (hb hby d1_1) _ kq) ?_
  show OwnEnds p e below _ (s₁.setTop (mkF m 3 #[.val (.int p0)] [(.int (2147483647 : Int32)), (.int p0)]))
  refine .pre (fun _ kq => XS.iand X0.here hx rfl (hb hby d1_3) rfl kq) ?_
  show OwnEnds p e below _ (s₁.setTop (mkF m 4 #[.val (.int p0)] [(.int (p0 &&& (2147483647 : Int32)))]))
  refine .pre (fun _ kq => XS.sipush X0.here hx rfl (hb hby d1_4) kq) ?_
  show OwnEnds p e below _ (s₁.setTop (mkF m 7 #[.val (.int p0)] [(.int (768 : Int32)), (.int (p0 &&& (2147483647 : Int32)))]))
  refine .pre (fun _ kq => iremM X0 hx rfl (hb hby d1_7) rfl (by decide) kq) ?_
  show OwnEnds p e below _ (s₁.setTop (mkF m 8 #[.val (.int p0)] [(.int ((p0 &&& (2147483647 : Int32)) % (768 : Int32)))]))
  exact own_endI X0 hx hlk Bd.returns (hb hby d1_8) hk0 hn0 ⟨congrArg (fun z => some (Value.int z)) hF, N0, e0⟩
theorem d2_0 : decode jdk_29_method_69_code 0 = .ok (.iload_n 0, 1) := by decide +kernel
theorem d2_1 : decode jdk_29_method_69_code 1 = .ok (.iload_n 1, 1) := by decide +kernel
theorem d2_2 : decode jdk_29_method_69_code 2 = .ok (.if_icmp .gt 7, 3) := by decide +kernel
theorem d2_5 : decode jdk_29_method_69_code 5 = .ok (.iload_n 0, 1) := by decide +kernel
theorem d2_6 : decode jdk_29_method_69_code 6 = .ok (.goto 4, 3) := by decide +kernel
theorem d2_9 : decode jdk_29_method_69_code 9 = .ok (.iload_n 1, 1) := by decide +kernel
theorem d2_10 : decode jdk_29_method_69_code 10 = .ok (.ireturn, 1) := by decide +kernel
theorem ef_2 (m : MethodId) (p0 : Int32) (p1 : Int32) : entryFrame m #[(.int p0), (.int p1)] 2 = mkF m 0 #[.val (.int p0), .val (.int p1)] [] := by first | (simp [entryFrame, mkF, argsToLocals, Value.category]; done) | rfl
def f2_0 (p0 : Int32) (p1 : Int32) : Int32 := (if p1 < p0 then p1 else p0)
def Q2 (Z : State) (p0 : Int32) (p1 : Int32) (h0 : Heap) (n0 : Nat) (v : Option Value) (h : Heap) (L : List Loc) : Prop := v = some (.int (f2_0 p0 p1)) ∧ Fr n0 L ∧ h = h0
set_option maxRecDepth 65536 in
set_option maxHeartbeats 40000000 in
theorem rm2 (l : Launch) (Z : State) (aZ : Array Value) (hw : ∀ d ∈ tables_1, d.before aZ Z = true) (ws : List Jvm.Cond) (p0 : Int32) (p1 : Int32) (h0 : Heap) (n0 : Nat) (Z0 : n0 ≤ h0.size) :
    MetFree l (⟨"java/lang/Math", "min", "(II)I"⟩ : MethodName) (head1 (Jvm.Cond.code (⟨"java/lang/Math", "min", "(II)I"⟩ : MethodName) jdk_29_method_69_code 2 (some .int) :: ws) ({ frames := 0, cells := 0, slots := 0, locals := 0 } : Room)) (fun a U => a = #[(.int p0), (.int p1)] ∧ Z.Warmed39 U.vm ∧ U.heap = h0) (fun _ _ _ _ _ => True) (fun _ U o U' => ∃ v L, o = .returned v ∧ Q2 Z p0 p1 h0 n0 v U'.heap L ∧ FrameEnd U o U' L 0 0) := by
  refine MetFree.of_bodySF (Jvm.Free.JP.mathPlain rfl (by decide +kernel)) hisR ?_
  intro p e s m args below meth c s₁ Bd hml0 hP hK
  obtain ⟨rfl, hZ, hh⟩ := hP
  have hx := Bd.exec
  have hby := Bd.bytes
  have hml : c.maxLocals = 2 := hml0
  have hown : s.vm.findClass "java/lang/Math" = some m.cls := findClass_of_methodNamed Bd.named
  have hnm := (name_of_methodNamed Bd.named Bd.method).1
  have hlk := BodyLoose.notSynchronized Bd
  have X0 : Stand p l e ({ frames := 0, cells := 0, slots := 0, locals := 0 } : Room) s m #[(.int p0), (.int p1)] below meth c s₁ [] 0 0 := Stand.of_body Bd
  have e0 : s₁.heap = h0 := by rw [← hh, Bd.state]; rfl
  have N0 := Fr.nil n0
  have hk0 : 0 ≤ 0 := Nat.zero_le _
  have hn0 : 0 ≤ 0 := Nat.zero_le _
  show OwnEnds p e below (OwnQ s (Q2 Z p0 p1 h0 n0) 0 0) (s₁.setTop (entryFrame m #[(.int p0), (.int p1)] 2))
  refine .pre (fun t k => castTop (ef_2 m p0 p1) k) ?_
  have hF : f2_0 p0 p1 = f2_0 p0 p1 := rfl
  change (if p1 < p0 then p1 else p0) = _ at hF
  show OwnEnds p e below _ (s₁.setTop (mkF m 0 #[.val (.int p0), .val (.int p1)] []))
  refine .pre (fun _ kq => XS.iloadN X0.here hx rfl (hb hby d2_0) rfl kq) ?_
  show OwnEnds p e below _ (s₁.setTop (mkF m 1 #[.val (.int p0), .val (.int p1)] [(.int p0)]))
  refine .pre (fun _ kq => XS.iloadN X0.here hx rfl (hb hby d2_1) rfl kq) ?_
  show OwnEnds p e below _ (s₁.setTop (mkF m 2 #[.val (.int p0), .val (.int p1)] [(.int p1), (.int p0)]))
  by_cases hc2 : p1 < p0
  · rw [if_pos hc2] at hF
    refine .pre (fun _ kq => XS.icmpYes X0.here hx rfl (pc0 := 2) (pc' := 9) rfl (hb hby d2_2) rfl (tlt hc2).2.2.1 (by decide) (by decide) kq) ?_
    show OwnEnds p e below _ (s₁.setTop (mkF m 9 #[.val (.int p0), .val (.int p1)] []))
    refine .pre (fun _ kq => XS.iloadN X0.here hx rfl (hb hby d2_9) rfl kq) ?_
    show OwnEnds p e below _ (s₁.setTop (mkF m 10 #[.val (.int p0), .val (.int p1)] [(.int p1)]))
    exact own_endI X0 hx hlk Bd.returns (hb hby d2_10) hk0 hn0 ⟨congrArg (fun z => some (Value.int z)) hF, N0, e0⟩
  · rw [if_neg hc2] at hF
    refine .pre (fun _ kq => XS.icmpNo X0.here hx rfl (hb hby d2_2) rfl (flt hc2).2.2.1 kq) ?_
    show OwnEnds p e below _ (s₁.setTop (mkF m 5 #[.val (.int p0), .val (.int p1)] []))
    refine .pre (fun _ kq => XS.iloadN X0.here hx rfl (hb hby d2_5) rfl kq) ?_
    show OwnEnds p e below _ (s₁.setTop (mkF m 6 #[.val (.int p0), .val (.int p1)] [(.int p0)]))
    refine .pre (fun _ kq => XS.goto X0.here hx rfl (pc0 := 6) (pc' := 10) rfl (hb hby d2_6) (by decide) (by decide) kq) ?_
    show OwnEnds p e below _ (s₁.setTop (mkF m 10 #[.val (.int p0), .val (.int p1)] [(.int p0)]))
    exact own_endI X0 hx hlk Bd.returns (hb hby d2_10) hk0 hn0 ⟨congrArg (fun z => some (Value.int z)) hF, N0, e0⟩
theorem d4_0 : decode method_3_code 0 = .ok (.iload_n 0, 1) := by decide +kernel
theorem d4_1 : decode method_3_code 1 = .ok (.sipush 256, 3) := by decide +kernel
theorem d4_4 : decode method_3_code 4 = .ok (.idiv, 1) := by decide +kernel
theorem d4_5 : decode method_3_code 5 = .ok (.ireturn, 1) := by decide +kernel
theorem ef_4 (m : MethodId) (p0 : Int32) : entryFrame m #[(.int p0)] 1 = mkF m 0 #[.val (.int p0)] [] := by first | (simp [entryFrame, mkF, argsToLocals, Value.category]; done) | rfl
def f4_0 (p0 : Int32) : Int32 := (p0 / (256 : Int32))
def Q4 (Z : State) (p0 : Int32) (h0 : Heap) (n0 : Nat) (v : Option Value) (h : Heap) (L : List Loc) : Prop := v = some (.int (f4_0 p0)) ∧ Fr n0 L ∧ h = h0
set_option maxRecDepth 65536 in
set_option maxHeartbeats 40000000 in
theorem rm4 (l : Launch) (Z : State) (aZ : Array Value) (hw : ∀ d ∈ tables_1, d.before aZ Z = true) (ws : List Jvm.Cond) (p0 : Int32) (h0 : Heap) (n0 : Nat) (Z0 : n0 ≤ h0.size) :
    MetFree l (⟨"com/example/changeset/changeset/check/StateGraphEdgesEndPinLaw", "from", "(I)I"⟩ : MethodName) (head1 (Jvm.Cond.code (⟨"com/example/changeset/changeset/check/StateGraphEdgesEndPinLaw", "from", "(I)I"⟩ : MethodName) method_3_code 1 (some .int) :: ws) ({ frames := 0, cells := 0, slots := 0, locals := 0 } : Room)) (fun a U => a = #[(.int p0)] ∧ Z.Warmed39 U.vm ∧ U.heap = h0) (fun _ _ _ _ _ => True) (fun _ U o U' => ∃ v L, o = .returned v ∧ Q4 Z p0 h0 n0 v U'.heap L ∧ FrameEnd U o U' L 0 0) := by
  refine MetFree.of_bodySF (plainFor_of_name pn_17) hisR ?_
  intro p e s m args below meth c s₁ Bd hml0 hP hK
  obtain ⟨rfl, hZ, hh⟩ := hP
  have hx := Bd.exec
  have hby := Bd.bytes
  have hml : c.maxLocals = 1 := hml0
  have hown : s.vm.findClass "com/example/changeset/changeset/check/StateGraphEdgesEndPinLaw" = some m.cls := findClass_of_methodNamed Bd.named
  have hnm := (name_of_methodNamed Bd.named Bd.method).1
  have hlk := BodyLoose.notSynchronized Bd
  have X0 : Stand p l e ({ frames := 0, cells := 0, slots := 0, locals := 0 } : Room) s m #[(.int p0)] below meth c s₁ [] 0 0 := Stand.of_body Bd
  have e0 : s₁.heap = h0 := by rw [← hh, Bd.state]; rfl
  have N0 := Fr.nil n0
  have hk0 : 0 ≤ 0 := Nat.zero_le _
  have hn0 : 0 ≤ 0 := Nat.zero_le _
  show OwnEnds p e below (OwnQ s (Q4 Z p0 h0 n0) 0 0) (s₁.setTop (entryFrame m #[(.int p0)] 1))
  refine .pre (fun t k => castTop (ef_4 m p0) k) ?_
  have hF : f4_0 p0 = f4_0 p0 := rfl
  change (p0 / (256 : Int32)) = _ at hF
  show OwnEnds p e below _ (s₁.setTop (mkF m 0 #[.val (.int p0)] []))
  refine .pre (fun _ kq => XS.iloadN X0.here hx rfl (hb hby d4_0) rfl kq) ?_
  show OwnEnds p e below _ (s₁.setTop (mkF m 1 #[.val (.int p0)] [(.int p0)]))
  refine .pre (fun _ kq => XS.sipush X0.here hx rfl (hb hby d4_1) kq) ?_
  show OwnEnds p e below _ (s₁.setTop (mkF m 4 #[.val (.int p0)] [(.int (256 : Int32)), (.int p0)]))
  refine .pre (fun _ kq => XS.idiv X0.here hx rfl (hb hby d4_4) rfl (by decide) kq) ?_
  show OwnEnds p e below _ (s₁.setTop (mkF m 5 #[.val (.int p0)] [(.int (p0 / (256 : Int32)))]))
  exact own_endI X0 hx hlk Bd.returns (hb hby d4_5) hk0 hn0 ⟨congrArg (fun z => some (Value.int z)) hF, N0, e0⟩
theorem d5_0 : decode method_4_code 0 = .ok (.iload_n 0, 1) := by decide +kernel
theorem d5_1 : decode method_4_code 1 = .ok (.sipush 256, 3) := by decide +kernel
theorem d5_4 : decode method_4_code 4 = .ok (.irem, 1) := by decide +kernel
theorem d5_5 : decode method_4_code 5 = .ok (.iconst 3, 1) := by decide +kernel
theorem d5_6 : decode method_4_code 6 = .ok (.irem, 1) := by decide +kernel
theorem d5_7 : decode method_4_code 7 = .ok (.ireturn, 1) := by decide +kernel
theorem ef_5 (m : MethodId) (p0 : Int32) : entryFrame m #[(.int p0)] 1 = mkF m 0 #[.val (.int p0)] [] := by first | (simp [entryFrame, mkF, argsToLocals, Value.category]; done) | rfl
def f5_0 (p0 : Int32) : Int32 := ((p0 % (256 : Int32)) % (3 : Int32))
def Q5 (Z : State) (p0 : Int32) (h0 : Heap) (n0 : Nat) (v : Option Value) (h : Heap) (L : List Loc) : Prop := v = some (.int (f5_0 p0)) ∧ Fr n0 L ∧ h = h0
set_option maxRecDepth 65536 in
set_option maxHeartbeats 40000000 in
theorem rm5 (l : Launch) (Z : State) (aZ : Array Value) (hw : ∀ d ∈ tables_1, d.before aZ Z = true) (ws : List Jvm.Cond) (p0 : Int32) (h0 : Heap) (n0 : Nat) (Z0 : n0 ≤ h0.size) :
    MetFree l (⟨"com/example/changeset/changeset/check/StateGraphEdgesEndPinLaw", "to", "(I)I"⟩ : MethodName) (head1 (Jvm.Cond.code (⟨"com/example/changeset/changeset/check/StateGraphEdgesEndPinLaw", "to", "(I)I"⟩ : MethodName) method_4_code 1 (some .int) :: ws) ({ frames := 0, cells := 0, slots := 0, locals := 0 } : Room)) (fun a U => a = #[(.int p0)] ∧ Z.Warmed39 U.vm ∧ U.heap = h0) (fun _ _ _ _ _ => True) (fun _ U o U' => ∃ v L, o = .returned v ∧ Q5 Z p0 h0 n0 v U'.heap L ∧ FrameEnd U o U' L 0 0) := by
  refine MetFree.of_bodySF (plainFor_of_name pn_17) hisR ?_
  intro p e s m args below meth c s₁ Bd hml0 hP hK
  obtain ⟨rfl, hZ, hh⟩ := hP
  have hx := Bd.exec
  have hby := Bd.bytes
  have hml : c.maxLocals = 1 := hml0
  have hown : s.vm.findClass "com/example/changeset/changeset/check/StateGraphEdgesEndPinLaw" = some m.cls := findClass_of_methodNamed Bd.named
  have hnm := (name_of_methodNamed Bd.named Bd.method).1
  have hlk := BodyLoose.notSynchronized Bd
  have X0 : Stand p l e ({ frames := 0, cells := 0, slots := 0, locals := 0 } : Room) s m #[(.int p0)] below meth c s₁ [] 0 0 := Stand.of_body Bd
  have e0 : s₁.heap = h0 := by rw [← hh, Bd.state]; rfl
  have N0 := Fr.nil n0
  have hk0 : 0 ≤ 0 := Nat.zero_le _
  have hn0 : 0 ≤ 0 := Nat.zero_le _
  show OwnEnds p e below (OwnQ s (Q5 Z p0 h0 n0) 0 0) (s₁.setTop (entryFrame m #[(.int p0)] 1))
  refine .pre (fun t k => castTop (ef_5 m p0) k) ?_
  have hF : f5_0 p0 = f5_0 p0 := rfl
  change ((p0 % (256 : Int32)) % (3 : Int32)) = _ at hF
  show OwnEnds p e below _ (s₁.setTop (mkF m 0 #[.val (.int p0)] []))
  refine .pre (fun _ kq => XS.iloadN X0.here hx rfl (hb hby d5_0) rfl kq) ?_
  show OwnEnds p e below _ (s₁.setTop (mkF m 1 #[.val (.int p0)] [(.int p0)]))
  refine .pre (fun _ kq => XS.sipush X0.here hx rfl (hb hby d5_1) kq) ?_
  show OwnEnds p e below _ (s₁.setTop (mkF m 4 #[.val (.int p0)] [(.int (256 : Int32)), (.int p0)]))
  refine .pre (fun _ kq => iremM X0 hx rfl (hb hby d5_4) rfl (by decide) kq) ?_
  show OwnEnds p e below _ (s₁.setTop (mkF m 5 #[.val (.int p0)] [(.int (p0 % (256 : Int32)))]))
  refine .pre (fun _ kq => XS.iconst X0.here hx rfl (hb hby d5_5) kq) ?_
  show OwnEnds p e below _ (s₁.setTop (mkF m 6 #[.val (.int p0)] [(.int (3 : Int32)), (.int (p0 % (256 : Int32)))]))
  refine .pre (fun _ kq => iremM X0 hx rfl (hb hby d5_6) rfl (by decide) kq) ?_
  show OwnEnds p e below _ (s₁.setTop (mkF m 7 #[.val (.int p0)] [(.int ((p0 % (256 : Int32)) % (3 : Int32)))]))
  exact own_endI X0 hx hlk Bd.returns (hb hby d5_7) hk0 hn0 ⟨congrArg (fun z => some (Value.int z)) hF, N0, e0⟩
theorem d14_0 : decode jdk_65_method_157_code 0 = .ok (.aload_n 0, 1) := by decide +kernel
theorem d14_1 : decode jdk_65_method_157_code 1 = .ok (.ifnonnull 5, 3) := by decide +kernel
theorem d14_4 : decode jdk_65_method_157_code 4 = .ok (.iconst 0, 1) := by decide +kernel
theorem d14_5 : decode jdk_65_method_157_code 5 = .ok (.ireturn, 1) := by decide +kernel
theorem d14_6 : decode jdk_65_method_157_code 6 = .ok (.iconst 1, 1) := by decide +kernel
theorem d14_7 : decode jdk_65_method_157_code 7 = .ok (.istore_n 1, 1) := by decide +kernel
theorem d14_8 : decode jdk_65_method_157_code 8 = .ok (.aload_n 0, 1) := by decide +kernel
theorem d14_9 : decode jdk_65_method_157_code 9 = .ok (.astore_n 2, 1) := by decide +kernel
theorem d14_10 : decode jdk_65_method_157_code 10 = .ok (.aload_n 2, 1) := by decide +kernel
theorem d14_11 : decode jdk_65_method_157_code 11 = .ok (.arraylength, 1) := by decide +kernel
theorem d14_12 : decode jdk_65_method_157_code 12 = .ok (.istore_n 3, 1) := by decide +kernel
theorem d14_13 : decode jdk_65_method_157_code 13 = .ok (.iconst 0, 1) := by decide +kernel
theorem d14_14 : decode jdk_65_method_157_code 14 = .ok (.istore 4, 2) := by decide +kernel
theorem d14_16 : decode jdk_65_method_157_code 16 = .ok (.iload 4, 2) := by decide +kernel
theorem d14_18 : decode jdk_65_method_157_code 18 = .ok (.iload_n 3, 1) := by decide +kernel
theorem d14_19 : decode jdk_65_method_157_code 19 = .ok (.if_icmp .ge 35, 3) := by decide +kernel
theorem d14_22 : decode jdk_65_method_157_code 22 = .ok (.aload_n 2, 1) := by decide +kernel
theorem d14_23 : decode jdk_65_method_157_code 23 = .ok (.iload 4, 2) := by decide +kernel
theorem d14_25 : decode jdk_65_method_157_code 25 = .ok (.aaload, 1) := by decide +kernel
theorem d14_26 : decode jdk_65_method_157_code 26 = .ok (.astore 5, 2) := by decide +kernel
theorem d14_28 : decode jdk_65_method_157_code 28 = .ok (.bipush 31, 2) := by decide +kernel
theorem d14_30 : decode jdk_65_method_157_code 30 = .ok (.iload_n 1, 1) := by decide +kernel
theorem d14_31 : decode jdk_65_method_157_code 31 = .ok (.imul, 1) := by decide +kernel
theorem d14_32 : decode jdk_65_method_157_code 32 = .ok (.aload 5, 2) := by decide +kernel
theorem d14_34 : decode jdk_65_method_157_code 34 = .ok (.ifnonnull 7, 3) := by decide +kernel
theorem d14_37 : decode jdk_65_method_157_code 37 = .ok (.iconst 0, 1) := by decide +kernel
theorem d14_38 : decode jdk_65_method_157_code 38 = .ok (.goto 8, 3) := by decide +kernel
theorem d14_41 : decode jdk_65_method_157_code 41 = .ok (.aload 5, 2) := by decide +kernel
theorem d14_43 : decode jdk_65_method_157_code 43 = .ok (.invokevirtual 383, 3) := by decide +kernel
theorem d14_46 : decode jdk_65_method_157_code 46 = .ok (.iadd, 1) := by decide +kernel
theorem d14_47 : decode jdk_65_method_157_code 47 = .ok (.istore_n 1, 1) := by decide +kernel
theorem d14_48 : decode jdk_65_method_157_code 48 = .ok (.iinc 4 1, 3) := by decide +kernel
theorem d14_51 : decode jdk_65_method_157_code 51 = .ok (.goto (-35), 3) := by decide +kernel
theorem d14_54 : decode jdk_65_method_157_code 54 = .ok (.iload_n 1, 1) := by decide +kernel
theorem d14_55 : decode jdk_65_method_157_code 55 = .ok (.ireturn, 1) := by decide +kernel
theorem ef_14 (m : MethodId)  : entryFrame m #[.null] 6 = mkF m 0 #[.val .null, .unset, .unset, .unset, .unset, .unset] [] := by first | (simp [entryFrame, mkF, argsToLocals, Value.category]; done) | rfl
theorem pn_18 : plainName "java/util/Arrays" = true := by first | (simp [plainName, overriddenIn]; done) | decide +kernel
def Q14 (Z : State)  (h0 : Heap) (n0 : Nat) (v : Option Value) (h : Heap) (L : List Loc) : Prop := v = some (.int (0 : Int32)) ∧ Fr n0 L ∧ h = h0
set_option maxRecDepth 65536 in
set_option maxHeartbeats 40000000 in
theorem rm14 (l : Launch) (Z : State) (aZ : Array Value) (hw : ∀ d ∈ tables_1, d.before aZ Z = true) (ws : List Jvm.Cond)  (h0 : Heap) (n0 : Nat) (Z0 : n0 ≤ h0.size) :
    MetFree l (⟨"java/util/Arrays", "hashCode", "([Ljava/lang/Object;)I"⟩ : MethodName) (head1 (Jvm.Cond.code (⟨"java/util/Arrays", "hashCode", "([Ljava/lang/Object;)I"⟩ : MethodName) jdk_65_method_157_code 6 (some .int) :: ws) ({ frames := 0, cells := 0, slots := 0, locals := 0 } : Room)) (fun a U => a = #[.null] ∧ Z.Warmed39 U.vm ∧ U.heap = h0) (fun _ _ _ _ _ => True) (fun _ U o U' => ∃ v L, o = .returned v ∧ Q14 Z  h0 n0 v U'.heap L ∧ FrameEnd U o U' L 0 0) := by
  refine MetFree.of_bodySF (plainFor_of_name pn_18) hisR ?_
  intro p e s m args below meth c s₁ Bd hml0 hP hK
  obtain ⟨rfl, hZ, hh⟩ := hP
  have hx := Bd.exec
  have hby := Bd.bytes
  have hml : c.maxLocals = 6 := hml0
  have hown : s.vm.findClass "java/util/Arrays" = some m.cls := findClass_of_methodNamed Bd.named
  have hnm := (name_of_methodNamed Bd.named Bd.method).1
  have hlk := BodyLoose.notSynchronized Bd
  have X0 : Stand p l e ({ frames := 0, cells := 0, slots := 0, locals := 0 } : Room) s m #[.null] below meth c s₁ [] 0 0 := Stand.of_body Bd
  have e0 : s₁.heap = h0 := by rw [← hh, Bd.state]; rfl
  have N0 := Fr.nil n0
  have hk0 : 0 ≤ 0 := Nat.zero_le _
  have hn0 : 0 ≤ 0 := Nat.zero_le _
  show OwnEnds p e below (OwnQ s (Q14 Z  h0 n0) 0 0) (s₁.setTop (entryFrame m #[.null] 6))
  refine .pre (fun t k => castTop (ef_14 m ) k) ?_
  show OwnEnds p e below _ (s₁.setTop (mkF m 0 #[.val .null, .unset, .unset, .unset, .unset, .unset] []))
  refine .pre (fun _ kq => XS.aloadN X0.here hx rfl (hb hby d14_0) rfl rfl kq) ?_
  show OwnEnds p e below _ (s₁.setTop (mkF m 1 #[.val .null, .unset, .unset, .unset, .unset, .unset] [.null]))
  refine .pre (fun _ kq => XS.ifnonnullNo X0.here hx rfl (hb hby d14_1) rfl kq) ?_
  show OwnEnds p e below _ (s₁.setTop (mkF m 4 #[.val .null, .unset, .unset, .unset, .unset, .unset] []))
  refine .pre (fun _ kq => XS.iconst X0.here hx rfl (hb hby d14_4) kq) ?_
  show OwnEnds p e below _ (s₁.setTop (mkF m 5 #[.val .null, .unset, .unset, .unset, .unset, .unset] [(.int (0 : Int32))]))
  exact own_endI X0 hx hlk Bd.returns (hb hby d14_5) (by decide) (by decide) ⟨rfl, N0, e0⟩
theorem d13_0 : decode prog_38_method_1_code 0 = .ok (.aload_n 0, 1) := by decide +kernel
theorem d13_1 : decode prog_38_method_1_code 1 = .ok (.invokespecial 1, 3) := by decide +kernel
theorem d13_4 : decode prog_38_method_1_code 4 = .ok (.aload_n 0, 1) := by decide +kernel
theorem d13_5 : decode prog_38_method_1_code 5 = .ok (.aload_n 1, 1) := by decide +kernel
theorem d13_6 : decode prog_38_method_1_code 6 = .ok (.putfield 7, 3) := by decide +kernel
theorem d13_9 : decode prog_38_method_1_code 9 = .ok (.aload_n 0, 1) := by decide +kernel
theorem d13_10 : decode prog_38_method_1_code 10 = .ok (.aload_n 1, 1) := by decide +kernel
theorem d13_11 : decode prog_38_method_1_code 11 = .ok (.invokestatic 13, 3) := by decide +kernel
theorem d13_14 : decode prog_38_method_1_code 14 = .ok (.putfield 19, 3) := by decide +kernel
theorem d13_17 : decode prog_38_method_1_code 17 = .ok (.return_, 1) := by decide +kernel
theorem ef_13 (m : MethodId) (a0 : Addr) : entryFrame m #[(.ref a0), .null] 2 = mkF m 0 #[.val (.ref a0), .val .null] [] := by first | (simp [entryFrame, mkF, argsToLocals, Value.category]; done) | rfl
theorem pn_19 : plainName "com/example/changeset/changeset/check/State" = true := by first | (simp [plainName, overriddenIn]; done) | decide +kernel
theorem pd_20 : parseMethodDescriptor "([Ljava/lang/Object;)I" = some ⟨[(.array (.object "java/lang/Object"))], some .int⟩ := by decide +kernel
def Q13 (Z : State) (a0 : Addr) (u_values : Value) (u_hash : Value) (h0 : Heap) (n0 : Nat) (v : Option Value) (h : Heap) (L : List Loc) : Prop := v = none ∧ Fr n0 L ∧ Keep h0 h [a0] ∧ Exa Z h a0 "com/example/changeset/changeset/check/State" ∧ Fld Z h a0 "com/example/changeset/changeset/check/State" "values" "[Lcom/example/changeset/changeset/value/Value;" .null ∧ Fld Z h a0 "com/example/changeset/changeset/check/State" "hash" "I" (.int (0 : Int32))
set_option maxRecDepth 65536 in
set_option maxHeartbeats 40000000 in
theorem rm13 (l : Launch) (Z : State) (aZ : Array Value) (hw : ∀ d ∈ tables_1, d.before aZ Z = true) (ws : List Jvm.Cond) (a0 : Addr) (u_values : Value) (u_hash : Value) (h0 : Heap) (n0 : Nat) (Z0 : n0 ≤ h0.size) (g_a0 : n0 ≤ a0) (E_a0 : Exa Z h0 a0 "com/example/changeset/changeset/check/State") (F_u_values : Fld Z h0 a0 "com/example/changeset/changeset/check/State" "values" "[Lcom/example/changeset/changeset/value/Value;" u_values) (F_u_hash : Fld Z h0 a0 "com/example/changeset/changeset/check/State" "hash" "I" u_hash) :
    MetFree l (⟨"com/example/changeset/changeset/check/State", "<init>", "([Lcom/example/changeset/changeset/value/Value;)V"⟩ : MethodName) (head1 (Jvm.Cond.code (⟨"com/example/changeset/changeset/check/State", "<init>", "([Lcom/example/changeset/changeset/value/Value;)V"⟩ : MethodName) prog_38_method_1_code 2 none :: ws) ({ frames := 1, cells := 0, slots := 0, locals := 20 } : Room)) (fun a U => a = #[(.ref a0), .null] ∧ Z.Warmed39 U.vm ∧ U.heap = h0) (fun _ _ _ _ _ => True) (fun _ U o U' => ∃ v L, o = .returned v ∧ Q13 Z a0 u_values u_hash h0 n0 v U'.heap L ∧ FrameEnd U o U' L 0 0) := by
  refine MetFree.of_bodySF (plainFor_of_name pn_19) hisR ?_
  intro p e s m args below meth c s₁ Bd hml0 hP hK
  obtain ⟨rfl, hZ, hh⟩ := hP
  have hx := Bd.exec
  have hby := Bd.bytes
  have hml : c.maxLocals = 2 := hml0
  have hown : s.vm.findClass "com/example/changeset/changeset/check/State" = some m.cls := findClass_of_methodNamed Bd.named
  have hnm := (name_of_methodNamed Bd.named Bd.method).1
  have hlk := BodyLoose.notSynchronized Bd
  have X0 : Stand p l e ({ frames := 1, cells := 0, slots := 0, locals := 20 } : Room) s m #[(.ref a0), .null] below meth c s₁ [] 0 0 := Stand.of_body Bd
  have e0 : s₁.heap = h0 := by rw [← hh, Bd.state]; rfl
  have N0 := Fr.nil n0
  have hk0 : 0 ≤ 0 := Nat.zero_le _
  have hn0 : 0 ≤ 0 := Nat.zero_le _
  show OwnEnds p e below (OwnQ s (Q13 Z a0 u_values u_hash h0 n0) 0 0) (s₁.setTop (entryFrame m #[(.ref a0), .null] 2))
  refine .pre (fun t k => castTop (ef_13 m a0) k) ?_
  show OwnEnds p e below _ (s₁.setTop (mkF m 0 #[.val (.ref a0), .val .null] []))
  refine .pre (fun _ kq => XS.aloadN X0.here hx rfl (hb hby d13_0) rfl rfl kq) ?_
  show OwnEnds p e below _ (s₁.setTop (mkF m 1 #[.val (.ref a0), .val .null] [(.ref a0)]))
  obtain ⟨T1, X1, e1, st1⟩ := initO X0 hx hZ hown (hw _ (List.mem_of_getElem? (i := 95) rfl)) (hw _ (List.mem_of_getElem? (i := 40) rfl)) (hw _ (List.mem_of_getElem? (i := 41) rfl)) e0 (g := (mkF m 1 #[.val (.ref a0), .val .null] [(.ref a0)])) rfl (by rw [hml]; rfl) rfl (hb hby d13_1) (by decide) (W := 0) (by show 2 * 0 + _ ≤ _; exact Nat.le_of_eq rfl) (by decide)
  refine .pre (fun _ kq => st1 _ kq) ?_
  show OwnEnds p e below _ (T1.setTop (mkF m 4 #[.val (.ref a0), .val .null] []))
  refine .pre (fun _ kq => XS.aloadN X1.here hx rfl (hb hby d13_4) rfl rfl kq) ?_
  show OwnEnds p e below _ (T1.setTop (mkF m 5 #[.val (.ref a0), .val .null] [(.ref a0)]))
  refine .pre (fun _ kq => XS.aloadN X1.here hx rfl (hb hby d13_5) rfl rfl kq) ?_
  show OwnEnds p e below _ (T1.setTop (mkF m 6 #[.val (.ref a0), .val .null] [.null, (.ref a0)]))
  obtain ⟨T2, h2, X2, e2, W2, st2⟩ := putF X1 hx hZ hown (host := "") (Or.inl (hw _ (List.mem_of_getElem? (i := 96) rfl))) Via.refl e1 F_u_values E_a0 (Or.inr ⟨(hw _ (List.mem_of_getElem? (i := 97) rfl)), rfl, hnm⟩) (hw _ (List.mem_of_getElem? (i := 90) rfl)) (ty := (.array (.object "com/example/changeset/changeset/value/Value"))) (by decide) rfl rfl (g := (mkF m 6 #[.val (.ref a0), .val .null] [.null, (.ref a0)])) rfl rfl (hb hby d13_6)
  have Fw2 := F_u_values.same W2
  have N2 := Fr.snoc X2 N0 g_a0
  have Kp2 : Keep h0 h2 [a0] := (Keep.refl h0 [a0]).wr W2 (Or.inl (List.mem_of_getElem? (i := 0) rfl))
  refine .pre (fun _ kq => st2 _ kq) ?_
  show OwnEnds p e below _ (T2.setTop (mkF m 9 #[.val (.ref a0), .val .null] []))
  refine .pre (fun _ kq => XS.aloadN X2.here hx rfl (hb hby d13_9) rfl rfl kq) ?_
  show OwnEnds p e below _ (T2.setTop (mkF m 10 #[.val (.ref a0), .val .null] [(.ref a0)]))
  refine .pre (fun _ kq => XS.aloadN X2.here hx rfl (hb hby d13_10) rfl rfl kq) ?_
  show OwnEnds p e below _ (T2.setTop (mkF m 11 #[.val (.ref a0), .val .null] [.null, (.ref a0)]))
  obtain ⟨_, _, ⟨T3, L3, k3, n3⟩, -, X3, ⟨Lc3, hQ3, l3, y3, z3⟩, st3⟩ := Jvm.LawKit.callS X2 hx (y := (⟨"java/util/Arrays", "hashCode", "([Ljava/lang/Object;)I"⟩ : MethodName)) hown (mvT hZ (hw _ (List.mem_of_getElem? (i := 98) rfl))) (mvT hZ (hw _ (List.mem_of_getElem? (i := 99) rfl))) (mvT hZ (hw _ (List.mem_of_getElem? (i := 100) rfl))) (mvT hZ (hw _ (List.mem_of_getElem? (i := 101) rfl))) (by decide) (backOf (W := 1) (rm14 l Z aZ hw [] h2 n0 (Nat.le_trans Z0 (Keep.of_wr W2).1)) hZ (hw _ (List.mem_of_getElem? (i := 101) rfl)) (hw _ (List.mem_of_getElem? (i := 100) rfl)) (by decide) (by decide)) (g := (mkF m 11 #[.val (.ref a0), .val .null] [.null, (.ref a0)])) rfl (by rw [hml]; rfl) (argsL := [.null]) (rest := [(.ref a0)]) (lenOf pd_20 rfl) rfl (by show 2 * 0 + _ ≤ _; exact Nat.le_of_eq rfl) (hb hby d13_11) (fun _ _ => ⟨rfl, e2, (by decide : 0 + 0 ≤ _), (by decide : 0 + 0 ≤ _)⟩)
  dsimp only [Pt.U, Pt.locs, Pt.cells, Pt.slots] at X3 l3 y3 z3 st3 hQ3
  try dsimp only [Nat.reduceAdd] at y3 z3
  subst y3 z3
  obtain ⟨rfl, N3q, e3⟩ := hQ3
  have N3 : Fr n0 L3 := by rw [l3]; exact Fr.app N2 N3q
  refine .pre (fun _ kq => st3 _ kq) ?_
  show OwnEnds p e below _ (T3.setTop (mkF m 14 #[.val (.ref a0), .val .null] [(.int (0 : Int32)), (.ref a0)]))
  obtain ⟨T4, h4, X4, e4, W4, st4⟩ := putF X3 hx hZ hown (host := "") (Or.inl (hw _ (List.mem_of_getElem? (i := 102) rfl))) Via.refl e3 (F_u_hash.other W2 (Or.inr (slot_ne (Or.inr (hw _ (List.mem_of_getElem? (i := 103) rfl))) (Or.inr (hw _ (List.mem_of_getElem? (i := 97) rfl))) (by decide) (t := .int) (t' := (.array (.object "com/example/changeset/changeset/value/Value"))) (by decide) (by decide)))) (E_a0.wr W2) (Or.inr ⟨(hw _ (List.mem_of_getElem? (i := 103) rfl)), rfl, hnm⟩) (hw _ (List.mem_of_getElem? (i := 90) rfl)) (ty := .int) (by decide) rfl rfl (g := (mkF m 14 #[.val (.ref a0), .val .null] [(.int (0 : Int32)), (.ref a0)])) rfl rfl (hb hby d13_14)
  have Fw4 := (F_u_hash.other W2 (Or.inr (slot_ne (Or.inr (hw _ (List.mem_of_getElem? (i := 103) rfl))) (Or.inr (hw _ (List.mem_of_getElem? (i := 97) rfl))) (by decide) (t := .int) (t' := (.array (.object "com/example/changeset/changeset/value/Value"))) (by decide) (by decide)))).same W4
  have N4 := Fr.snoc X4 N3 g_a0
  have Kp4 : Keep h0 h4 [a0] := Kp2.wr W4 (Or.inl (List.mem_of_getElem? (i := 0) rfl))
  refine .pre (fun _ kq => st4 _ kq) ?_
  show OwnEnds p e below _ (T4.setTop (mkF m 17 #[.val (.ref a0), .val .null] []))
  exact own_endV X4 hx hlk Bd.returns (hb hby d13_17) (by decide) (by decide) ⟨rfl, N4, (by rw [e4]; exact Kp4), (by rw [e4]; exact ((E_a0.wr W2).wr W4)), (by rw [e4]; exact (Fw2.other W4 (Or.inr (slot_ne (Or.inr (hw _ (List.mem_of_getElem? (i := 97) rfl))) (Or.inr (hw _ (List.mem_of_getElem? (i := 103) rfl))) (by decide) (t := (.array (.object "com/example/changeset/changeset/value/Value"))) (t' := .int) (by decide) (by decide))))), (by rw [e4]; exact Fw4)⟩
def own_sel (b0 b1 b2 : Addr) (j : Int32) : Addr := ([b0, b1, b2] : List Addr).getD j.toNatClampNeg b0
theorem own_three {j : Int32} (h : 0 ≤ j.toInt ∧ j.toInt ≤ 2) : j = 0 ∨ j = 1 ∨ j = 2 := by
  simp only [← Int32.toInt_inj, Int32.reduceToInt]
  omega
theorem own_selv (b0 b1 b2 : Addr) {j : Int32} (h : 0 ≤ j.toInt ∧ j.toInt ≤ 2) : ([.ref b0, .ref b1, .ref b2] : List Value).getD j.toNatClampNeg .null = .ref (own_sel b0 b1 b2 j) := by
  rcases own_three h with rfl | rfl | rfl <;> rfl
theorem own_sel3 {P : Addr → Int32 → Prop} {b0 b1 b2 : Addr} (h0 : P b0 0) (h1 : P b1 1) (h2 : P b2 2) {j : Int32} (h : 0 ≤ j.toInt ∧ j.toInt ≤ 2) : P (own_sel b0 b1 b2 j) j := by
  rcases own_three h with rfl | rfl | rfl
  · exact h0
  · exact h1
  · exact h2
theorem own_in3 {j : Int32} (h : 0 ≤ j.toInt ∧ j.toInt ≤ 2) : ¬ (j < 0) ∧ j < (3 : Int32) := by
  have z : (0 : Int32).toInt = 0 := rfl
  have t : (3 : Int32).toInt = 3 := rfl
  rw [Int32.lt_iff_toInt_lt, Int32.lt_iff_toInt_lt, z, t]
  omega
def own_g0 : OwnGT := (-1, 0, fun _ => 0, fun _ => 0)
def own_st (G : OwnGT) (f t : Int32) : OwnGT := own_addE G.1 G.2.1 G.2.2.1 G.2.2.2 f t
theorem own_inv {G : OwnGT} {f t f' : Int32} {m : Int} (h : -1 ≤ G.1.toInt ∧ G.1.toInt ≤ f.toInt ∧ 0 ≤ G.2.1.toInt ∧ G.2.1.toInt ≤ m) (hf : 0 ≤ f.toInt) (hff : f.toInt ≤ f'.toInt) (hm : m ≤ 50) :
    -1 ≤ (own_st G f t).1.toInt ∧ (own_st G f t).1.toInt ≤ f'.toInt ∧ 0 ≤ (own_st G f t).2.1.toInt ∧ (own_st G f t).2.1.toInt ≤ m + 1 := by
  unfold own_st own_addE
  split
  · exact ⟨h.1, by show G.1.toInt ≤ _; omega, h.2.2.1, by show G.2.1.toInt ≤ _; omega⟩
  · have e := own_plus1 G.2.1 (by omega) (by omega)
    exact ⟨by show -1 ≤ f.toInt; omega, hff, by show 0 ≤ (G.2.1 + 1).toInt; omega, by show (G.2.1 + 1).toInt ≤ m + 1; omega⟩
theorem own_key (x : Int32) : 0 ≤ (f1_0 x).toInt ∧ (f1_0 x).toInt ≤ 767 := by
  show 0 ≤ ((x &&& (2147483647 : Int32)) % (768 : Int32)).toInt ∧ ((x &&& (2147483647 : Int32)) % (768 : Int32)).toInt ≤ 767
  have e : (x &&& 2147483647).toInt = x.toInt % 2 ^ 31 := Jvm.Kit.i32_mask x 2147483647 (k := 31) (by decide) (by decide)
  have h0 : 0 ≤ (x &&& 2147483647).toInt := by rw [e]; omega
  have f : (768 : Int32).toInt = 768 := rfl
  have q := Jvm.Kit.i32_rem_nonneg (y := 768) h0
  rw [f] at q
  omega
theorem own_q3 (x : Int32) : 0 ≤ ((x &&& (2147483647 : Int32)) % (3 : Int32)).toInt ∧ ((x &&& (2147483647 : Int32)) % (3 : Int32)).toInt ≤ 2 := by
  have e : (x &&& 2147483647).toInt = x.toInt % 2 ^ 31 := Jvm.Kit.i32_mask x 2147483647 (k := 31) (by decide) (by decide)
  have h0 : 0 ≤ (x &&& 2147483647).toInt := by rw [e]; omega
  have f : (3 : Int32).toInt = 3 := rfl
  have q := Jvm.Kit.i32_rem_nonneg (y := 3) h0
  rw [f] at q
  omega
theorem own_min (x y : Int32) : (f2_0 x y).toInt = if x.toInt ≤ y.toInt then x.toInt else y.toInt := by
  unfold f2_0
  repeat' split
  all_goals (try (simp only [Int32.lt_iff_toInt_lt] at *))
  all_goals omega
theorem own_max (x y : Int32) : (f3_0 x y).toInt = if x.toInt ≤ y.toInt then y.toInt else x.toInt := by
  unfold f3_0
  repeat' split
  all_goals (try (simp only [Int32.lt_iff_toInt_lt] at *))
  all_goals omega
theorem own_fr (x : Int32) (h : 0 ≤ x.toInt) : (f4_0 x).toInt = x.toInt / 256 := by
  show (x / (256 : Int32)).toInt = _
  have f : (256 : Int32).toInt = 256 := rfl
  rw [Jvm.Kit.i32_div (by rw [f]; omega), f, Int.tdiv_eq_ediv_of_nonneg h]
theorem own_to (x : Int32) (h : 0 ≤ x.toInt) : 0 ≤ (f5_0 x).toInt ∧ (f5_0 x).toInt ≤ 2 := by
  show 0 ≤ ((x % (256 : Int32)) % (3 : Int32)).toInt ∧ ((x % (256 : Int32)) % (3 : Int32)).toInt ≤ 2
  have f : (256 : Int32).toInt = 256 := rfl
  have g : (3 : Int32).toInt = 3 := rfl
  have q := Jvm.Kit.i32_rem_nonneg (y := 256) h
  rw [f] at q
  have q2 := Jvm.Kit.i32_rem_nonneg (x := x % 256) (y := 3) (by omega)
  rw [g] at q2
  omega
theorem own_bd (p0 p1 p2 p3 : Int32) : (0 ≤ ((f4_0 (f2_0 (f2_0 (f1_0 p0) (f1_0 p1)) (f1_0 p2)))).toInt ∧ ((f4_0 (f2_0 (f2_0 (f1_0 p0) (f1_0 p1)) (f1_0 p2)))).toInt ≤ ((f4_0 (((((f1_0 p0) + (f1_0 p1)) + (f1_0 p2)) - (f2_0 (f2_0 (f1_0 p0) (f1_0 p1)) (f1_0 p2))) - (f3_0 (f3_0 (f1_0 p0) (f1_0 p1)) (f1_0 p2))))).toInt ∧ ((f4_0 (((((f1_0 p0) + (f1_0 p1)) + (f1_0 p2)) - (f2_0 (f2_0 (f1_0 p0) (f1_0 p1)) (f1_0 p2))) - (f3_0 (f3_0 (f1_0 p0) (f1_0 p1)) (f1_0 p2))))).toInt ≤ ((f4_0 (f3_0 (f3_0 (f1_0 p0) (f1_0 p1)) (f1_0 p2)))).toInt ∧ ((f4_0 (f3_0 (f3_0 (f1_0 p0) (f1_0 p1)) (f1_0 p2)))).toInt ≤ 2) ∧ (0 ≤ ((f5_0 (f2_0 (f2_0 (f1_0 p0) (f1_0 p1)) (f1_0 p2)))).toInt ∧ ((f5_0 (f2_0 (f2_0 (f1_0 p0) (f1_0 p1)) (f1_0 p2)))).toInt ≤ 2) ∧ (0 ≤ ((f5_0 (((((f1_0 p0) + (f1_0 p1)) + (f1_0 p2)) - (f2_0 (f2_0 (f1_0 p0) (f1_0 p1)) (f1_0 p2))) - (f3_0 (f3_0 (f1_0 p0) (f1_0 p1)) (f1_0 p2))))).toInt ∧ ((f5_0 (((((f1_0 p0) + (f1_0 p1)) + (f1_0 p2)) - (f2_0 (f2_0 (f1_0 p0) (f1_0 p1)) (f1_0 p2))) - (f3_0 (f3_0 (f1_0 p0) (f1_0 p1)) (f1_0 p2))))).toInt ≤ 2) ∧ (0 ≤ ((f5_0 (f3_0 (f3_0 (f1_0 p0) (f1_0 p1)) (f1_0 p2)))).toInt ∧ ((f5_0 (f3_0 (f3_0 (f1_0 p0) (f1_0 p1)) (f1_0 p2)))).toInt ≤ 2) ∧ (0 ≤ (((p3 &&& (2147483647 : Int32)) % (3 : Int32))).toInt ∧ (((p3 &&& (2147483647 : Int32)) % (3 : Int32))).toInt ≤ 2) := by
  have a1 := own_key p0
  have a2 := own_key p1
  have a3 := own_key p2
  generalize f1_0 p0 = A at *
  generalize f1_0 p1 = B at *
  generalize f1_0 p2 = C at *
  have l1 := own_min A B
  have l2 := own_min (f2_0 A B) C
  have m1 := own_max A B
  have m2 := own_max (f3_0 A B) C
  generalize f2_0 A B = L1 at *
  generalize f3_0 A B = M1 at *
  generalize f2_0 L1 C = lo at *
  generalize f3_0 M1 C = hi at *
  have hlo : 0 ≤ lo.toInt ∧ lo.toInt ≤ 767 := by (repeat' split at l1) <;> (repeat' split at l2) <;> omega
  have hhi : 0 ≤ hi.toInt ∧ hi.toInt ≤ 767 := by (repeat' split at m1) <;> (repeat' split at m2) <;> omega
  have s1 : (A + B).toInt = A.toInt + B.toInt := Jvm.Kit.i32_add (by omega) (by omega)
  have s2 : ((A + B) + C).toInt = A.toInt + B.toInt + C.toInt := by rw [Jvm.Kit.i32_add (by omega) (by omega), s1]
  have s3 : (((A + B) + C) - lo).toInt = A.toInt + B.toInt + C.toInt - lo.toInt := by rw [Jvm.Kit.i32_sub (by omega) (by omega), s2]
  have s4 : ((((A + B) + C) - lo) - hi).toInt = A.toInt + B.toInt + C.toInt - lo.toInt - hi.toInt := by rw [Jvm.Kit.i32_sub (by omega) (by omega), s3]
  generalize (((A + B) + C) - lo) - hi = mid at *
  have hm : lo.toInt ≤ mid.toInt ∧ mid.toInt ≤ hi.toInt := by
    split at l1 <;> split at l2 <;> split at m1 <;> split at m2 <;> omega
  have f1 := own_fr lo (by omega)
  have f2 := own_fr mid (by omega)
  have f3 := own_fr hi (by omega)
  have t1 := own_to lo (by omega)
  have t2 := own_to mid (by omega)
  have t3 := own_to hi (by omega)
  have q := own_q3 p3
  refine ⟨⟨by omega, by omega, by omega, by omega⟩, t1, t2, t3, q⟩
theorem ef_0 (m : MethodId) (p0 : Int32) (p1 : Int32) (p2 : Int32) (p3 : Int32) : entryFrame m #[(.int p0), (.int p1), (.int p2), (.int p3)] maxLocals = mkF m 0 #[.val (.int p0), .val (.int p1), .val (.int p2), .val (.int p3), .unset, .unset, .unset, .unset, .unset, .unset, .unset, .unset, .unset, .unset, .unset, .unset, .unset, .unset, .unset, .unset, .unset, .unset] [] := by first | (simp [entryFrame, mkF, argsToLocals, Value.category, maxLocals]; done) | rfl
theorem pd_21 : parseMethodDescriptor "(I)I" = some ⟨[.int], some .int⟩ := by decide +kernel
theorem pd_22 : parseMethodDescriptor "(Ljava/util/List;Z)V" = some ⟨[(.object "java/util/List"), .boolean], none⟩ := by decide +kernel
theorem pd_23 : parseMethodDescriptor "([Lcom/example/changeset/changeset/value/Value;)V" = some ⟨[(.array (.object "com/example/changeset/changeset/value/Value"))], none⟩ := by decide +kernel
theorem pd_24 : parseMethodDescriptor "(Lcom/example/changeset/changeset/check/State;)V" = some ⟨[(.object "com/example/changeset/changeset/check/State")], none⟩ := by decide +kernel
theorem pd_25 : parseMethodDescriptor "(Lcom/example/changeset/changeset/check/FoundState;II)Z" = some ⟨[(.object "com/example/changeset/changeset/check/FoundState"), .int, .int], some .boolean⟩ := by decide +kernel
def f0_367 (i20 : Int32) (i21 : Int32) : Int32 := (if i20 = i21 then (1 : Int32) else (0 : Int32))
def f0_364 (i20 : Int32) (i21 : Int32) : Int32 := (f0_367 i20 (i21 + (1 : Int32)))
def f0_350 (i12 : Int32) (i13 : Int32) (i14 : Int32) (i15 : Int32) (i20 : Int32) (i21 : Int32) : Int32 := (if i14 = i12 then (if i15 = i13 then (f0_367 i20 i21) else (f0_364 i20 i21)) else (f0_364 i20 i21))
def f0_322 (i10 : Int32) (i11 : Int32) (i12 : Int32) (i13 : Int32) (i14 : Int32) (i15 : Int32) (i16 : Int32) (i20 : Int32) (i21 : Int32) : Int32 := (if i14 = i15 then (f0_367 i20 i21) else (if i16 < i14 then (f0_367 i20 i21) else (if i14 = i10 then (if i15 = i11 then (f0_367 i20 i21) else (f0_350 i12 i13 i14 i15 i20 i21)) else (f0_350 i12 i13 i14 i15 i20 i21))))
def f0_319 (i10 : Int32) (i11 : Int32) (i12 : Int32) (i13 : Int32) (i14 : Int32) (i15 : Int32) (i16 : Int32) (i20 : Int32) (i21 : Int32) : Int32 := (f0_322 i10 i11 i12 i13 i14 i15 i16 i20 (i21 + (1 : Int32)))
def f0_291 (i10 : Int32) (i11 : Int32) (i12 : Int32) (i13 : Int32) (i14 : Int32) (i15 : Int32) (i16 : Int32) (i20 : Int32) (i21 : Int32) : Int32 := (if i12 = i13 then (f0_322 i10 i11 i12 i13 i14 i15 i16 i20 i21) else (if i16 < i12 then (f0_322 i10 i11 i12 i13 i14 i15 i16 i20 i21) else (if i12 = i10 then (if i13 = i11 then (f0_322 i10 i11 i12 i13 i14 i15 i16 i20 i21) else (f0_319 i10 i11 i12 i13 i14 i15 i16 i20 i21)) else (f0_319 i10 i11 i12 i13 i14 i15 i16 i20 i21))))
def f0_271 (i10 : Int32) (i11 : Int32) (i12 : Int32) (i13 : Int32) (i14 : Int32) (i15 : Int32) (i16 : Int32) (i20 : Int32) : Int32 := (if i10 = i11 then (f0_291 i10 i11 i12 i13 i14 i15 i16 i20 (0 : Int32)) else (if i16 < i10 then (f0_291 i10 i11 i12 i13 i14 i15 i16 i20 (0 : Int32)) else (f0_291 i10 i11 i12 i13 i14 i15 i16 i20 ((0 : Int32) + (1 : Int32)))))
def own_P (n10 n11 n12 n13 n14 n15 n16 : Nat) : Bool := decide (n10 ≤ n12 ∧ n12 ≤ n14 → f0_271 (Int32.ofNat n10) (Int32.ofNat n11) (Int32.ofNat n12) (Int32.ofNat n13) (Int32.ofNat n14) (Int32.ofNat n15) (Int32.ofNat n16) (f26_0 0 (own_st (own_st (own_st own_g0 (Int32.ofNat n10) (Int32.ofNat n11)) (Int32.ofNat n12) (Int32.ofNat n13)) (Int32.ofNat n14) (Int32.ofNat n15)).1 (own_st (own_st (own_st own_g0 (Int32.ofNat n10) (Int32.ofNat n11)) (Int32.ofNat n12) (Int32.ofNat n13)) (Int32.ofNat n14) (Int32.ofNat n15)).2.1 (own_st (own_st (own_st own_g0 (Int32.ofNat n10) (Int32.ofNat n11)) (Int32.ofNat n12) (Int32.ofNat n13)) (Int32.ofNat n14) (Int32.ofNat n15)).2.2.1 (Int32.ofNat n16)) = 1)
set_option maxRecDepth 65536 in
theorem own_dec : ((List.range 3).all fun a => (List.range 3).all fun b => (List.range 3).all fun c => (List.range 3).all fun t1 => (List.range 3).all fun t2 => (List.range 3).all fun t3 => (List.range 3).all fun n => own_P a t1 b t2 c t3 n) = true := by decide +kernel
theorem own_nat3 {r : Int32} (h : 0 ≤ r.toInt ∧ r.toInt ≤ 2) : ∃ n : Nat, n < 3 ∧ r = Int32.ofNat n ∧ r.toInt = n := by
  refine ⟨r.toInt.toNat, by omega, ?_, by omega⟩
  apply Int32.toInt_inj.mp
  rw [Int32.toInt_ofNat_of_lt (by omega)]
  omega
theorem own_law (aF : Addr) (y10 y11 y12 y13 y14 y15 y16 : Int32) (hb : (0 ≤ (y10).toInt ∧ (y10).toInt ≤ (y12).toInt ∧ (y12).toInt ≤ (y14).toInt ∧ (y14).toInt ≤ 2) ∧ (0 ≤ (y11).toInt ∧ (y11).toInt ≤ 2) ∧ (0 ≤ (y13).toInt ∧ (y13).toInt ≤ 2) ∧ (0 ≤ (y15).toInt ∧ (y15).toInt ≤ 2) ∧ (0 ≤ (y16).toInt ∧ (y16).toInt ≤ 2)) : f0_271 y10 y11 y12 y13 y14 y15 y16 (f26_0 aF (own_st (own_st (own_st own_g0 y10 y11) y12 y13) y14 y15).1 (own_st (own_st (own_st own_g0 y10 y11) y12 y13) y14 y15).2.1 (own_st (own_st (own_st own_g0 y10 y11) y12 y13) y14 y15).2.2.1 y16) = 1 := by
  obtain ⟨⟨bf0, bf1, bf2, bf3⟩, by11, by13, by15, bn⟩ := hb
  obtain ⟨a, ha, rfl, ea⟩ := own_nat3 (r := y10) ⟨by omega, by omega⟩
  obtain ⟨b, hb, rfl, eb⟩ := own_nat3 (r := y12) ⟨by omega, by omega⟩
  obtain ⟨c, hc, rfl, ec⟩ := own_nat3 (r := y14) ⟨by omega, by omega⟩
  obtain ⟨t1, h1, rfl, -⟩ := own_nat3 by11
  obtain ⟨t2, h2, rfl, -⟩ := own_nat3 by13
  obtain ⟨t3, h3, rfl, -⟩ := own_nat3 by15
  obtain ⟨n, hn, rfl, -⟩ := own_nat3 bn
  have q := own_dec
  simp only [List.all_eq_true, List.mem_range] at q
  exact of_decide_eq_true (q a ha b hb c hc t1 h1 t2 h2 t3 h3 n hn) ⟨by omega, by omega⟩
def Q0 (Z : State) (p0 : Int32) (p1 : Int32) (p2 : Int32) (p3 : Int32) (xD : Addr) (h0 : Heap) (n0 : Nat) (v : Option Value) (h : Heap) (L : List Loc) : Prop := v = some (.int 1) ∧ Fr n0 L ∧ True
set_option maxRecDepth 65536 in
set_option maxHeartbeats 40000000 in
theorem rm0 (l : Launch) (Z : State) (aZ : Array Value) (hw : ∀ d ∈ tables_1, d.before aZ Z = true) (ws : List Jvm.Cond) (p0 : Int32) (p1 : Int32) (p2 : Int32) (p3 : Int32) (xD : Addr) (h0 : Heap) (n0 : Nat) (Z0 : n0 ≤ h0.size) (SD : Sta Z h0 "java/util/ArrayList" "DEFAULTCAPACITY_EMPTY_ELEMENTDATA" "[Ljava/lang/Object;" (.ref xD)) (RX : OwnR Z h0 xD "java/lang/Object" (0 : Int32)) (xlt : xD < n0) :
    MetFree l x (head1 (Jvm.Cond.code x code maxLocals ret :: ws) room_1) (fun a U => a = #[(.int p0), (.int p1), (.int p2), (.int p3)] ∧ Z.Warmed39 U.vm ∧ U.heap = h0) (fun _ _ _ _ _ => True) (fun _ U o U' => ∃ v L, o = .returned v ∧ Q0 Z p0 p1 p2 p3 xD h0 n0 v U'.heap L ∧ FrameEnd U o U' L 40 12480) := by
  refine MetFree.of_bodySF (plainFor_of_name pn_17) hisR ?_
  intro p e s m args below meth c s₁ Bd hml0 hP hK
  obtain ⟨rfl, hZ, hh⟩ := hP
  have hx := Bd.exec
  have hby := Bd.bytes
  have hml : c.maxLocals = 22 := hml0
  have hown : s.vm.findClass "com/example/changeset/changeset/check/StateGraphEdgesEndPinLaw" = some m.cls := findClass_of_methodNamed Bd.named
  have hnm := (name_of_methodNamed Bd.named Bd.method).1
  have hlk := BodyLoose.notSynchronized Bd
  have X0 : Stand p l e room_1 s m #[(.int p0), (.int p1), (.int p2), (.int p3)] below meth c s₁ [] 0 0 := Stand.of_body Bd
  have e0 : s₁.heap = h0 := by rw [← hh, Bd.state]; rfl
  have N0 := Fr.nil n0
  have hk0 : 0 ≤ 40 := Nat.zero_le _
  have hn0 : 0 ≤ 12480 := Nat.zero_le _
  show OwnEnds p e below (OwnQ s (Q0 Z p0 p1 p2 p3 xD h0 n0) 40 12480) (s₁.setTop (entryFrame m #[(.int p0), (.int p1), (.int p2), (.int p3)] maxLocals))
  refine .pre (fun t k => castTop (ef_0 m p0 p1 p2 p3) k) ?_
  show OwnEnds p e below _ (s₁.setTop (mkF m 0 #[.val (.int p0), .val (.int p1), .val (.int p2), .val (.int p3), .unset, .unset, .unset, .unset, .unset, .unset, .unset, .unset, .unset, .unset, .unset, .unset, .unset, .unset, .unset, .unset, .unset, .unset] []))
  refine .pre (fun _ kq => XS.iloadN X0.here hx rfl (hb hby at_0) rfl kq) ?_
  show OwnEnds p e below _ (s₁.setTop (mkF m 1 #[.val (.int p0), .val (.int p1), .val (.int p2), .val (.int p3), .unset, .unset, .unset, .unset, .unset, .unset, .unset, .unset, .unset, .unset, .unset, .unset, .unset, .unset, .unset, .unset, .unset, .unset] [(.int p0)]))
  obtain ⟨_, _, ⟨T1, L1, k1, n1⟩, -, X1, ⟨Lc1, hQ1, l1, y1, z1⟩, st1⟩ := Jvm.LawKit.callS X0 hx (y := (⟨"com/example/changeset/changeset/check/StateGraphEdgesEndPinLaw", "key", "(I)I"⟩ : MethodName)) hown (mvT hZ (hw _ (List.mem_of_getElem? (i := 0) rfl))) (mvT hZ (hw _ (List.mem_of_getElem? (i := 1) rfl))) (mvT hZ (hw _ (List.mem_of_getElem? (i := 2) rfl))) (mvT hZ (hw _ (List.mem_of_getElem? (i := 3) rfl))) (by decide) (backOf (W := 0) (rm1 l Z aZ hw [] p0 h0 n0 Z0) hZ (hw _ (List.mem_of_getElem? (i := 3) rfl)) (hw _ (List.mem_of_getElem? (i := 2) rfl)) (by decide) (by decide)) (g := (mkF m 1 #[.val (.int p0), .val (.int p1), .val (.int p2), .val (.int p3), .unset, .unset, .unset, .unset, .unset, .unset, .unset, .unset, .unset, .unset, .unset, .unset, .unset, .unset, .unset, .unset, .unset, .unset] [(.int p0)])) rfl (by rw [hml]; rfl) (argsL := [(.int p0)]) (rest := []) (lenOf pd_21 rfl) rfl (by show 2 * 0 + _ ≤ _; exact Nat.le_of_eq rfl) (hb hby at_1) (fun _ _ => ⟨rfl, e0, (by decide : 0 + 0 ≤ _), (by decide : 0 + 0 ≤ _)⟩)
  dsimp only [Pt.U, Pt.locs, Pt.cells, Pt.slots] at X1 l1 y1 z1 st1 hQ1
  try dsimp only [Nat.reduceAdd] at y1 z1
  subst y1 z1
  obtain ⟨rfl, N1q, e1⟩ := hQ1
  have N1 : Fr n0 L1 := by rw [l1]; exact Fr.app N0 N1q
  refine .pre (fun _ kq => st1 _ kq) ?_
  show OwnEnds p e below _ (T1.setTop (mkF m 4 #[.val (.int p0), .val (.int p1), .val (.int p2), .val (.int p3), .unset, .unset, .unset, .unset, .unset, .unset, .unset, .unset, .unset, .unset, .unset, .unset, .unset, .unset, .unset, .unset, .unset, .unset] [(.int (f1_0 p0))]))
  refine .pre (fun _ kq => XS.istore X1.here hx rfl (hb hby at_4) rfl (l' := #[.val (.int p0), .val (.int p1), .val (.int p2), .val (.int p3), .val (.int (f1_0 p0)), .unset, .unset, .unset, .unset, .unset, .unset, .unset, .unset, .unset, .unset, .unset, .unset, .unset, .unset, .unset, .unset, .unset]) rfl kq) ?_
  show OwnEnds p e below _ (T1.setTop (mkF m 6 #[.val (.int p0), .val (.int p1), .val (.int p2), .val (.int p3), .val (.int (f1_0 p0)), .unset, .unset, .unset, .unset, .unset, .unset, .unset, .unset, .unset, .unset, .unset, .unset, .unset, .unset, .unset, .unset, .unset] []))
  refine .pre (fun _ kq => XS.iloadN X1.here hx rfl (hb hby at_6) rfl kq) ?_
  show OwnEnds p e below _ (T1.setTop (mkF m 7 #[.val (.int p0), .val (.int p1), .val (.int p2), .val (.int p3), .val (.int (f1_0 p0)), .unset, .unset, .unset, .unset, .unset, .unset, .unset, .unset, .unset, .unset, .unset, .unset, .unset, .unset, .unset, .unset, .unset] [(.int p1)]))
  obtain ⟨_, _, ⟨T2, L2, k2, n2⟩, -, X2, ⟨Lc2, hQ2, l2, y2, z2⟩, st2⟩ := Jvm.LawKit.callS X1 hx (y := (⟨"com/example/changeset/changeset/check/StateGraphEdgesEndPinLaw", "key", "(I)I"⟩ : MethodName)) hown (mvT hZ (hw _ (List.mem_of_getElem? (i := 0) rfl))) (mvT hZ (hw _ (List.mem_of_getElem? (i := 1) rfl))) (mvT hZ (hw _ (List.mem_of_getElem? (i := 2) rfl))) (mvT hZ (hw _ (List.mem_of_getElem? (i := 3) rfl))) (by decide) (backOf (W := 0) (rm1 l Z aZ hw [] p1 h0 n0 Z0) hZ (hw _ (List.mem_of_getElem? (i := 3) rfl)) (hw _ (List.mem_of_getElem? (i := 2) rfl)) (by decide) (by decide)) (g := (mkF m 7 #[.val (.int p0), .val (.int p1), .val (.int p2), .val (.int p3), .val (.int (f1_0 p0)), .unset, .unset, .unset, .unset, .unset, .unset, .unset, .unset, .unset, .unset, .unset, .unset, .unset, .unset, .unset, .unset, .unset] [(.int p1)])) rfl (by rw [hml]; rfl) (argsL := [(.int p1)]) (rest := []) (lenOf pd_21 rfl) rfl (by show 2 * 0 + _ ≤ _; exact Nat.le_of_eq rfl) (hb hby at_7) (fun _ _ => ⟨rfl, e1, (by decide : 0 + 0 ≤ _), (by decide : 0 + 0 ≤ _)⟩)
  dsimp only [Pt.U, Pt.locs, Pt.cells, Pt.slots] at X2 l2 y2 z2 st2 hQ2
  try dsimp only [Nat.reduceAdd] at y2 z2
  subst y2 z2
  obtain ⟨rfl, N2q, e2⟩ := hQ2
  have N2 : Fr n0 L2 := by rw [l2]; exact Fr.app N1 N2q
  refine .pre (fun _ kq => st2 _ kq) ?_
  show OwnEnds p e below _ (T2.setTop (mkF m 10 #[.val (.int p0), .val (.int p1), .val (.int p2), .val (.int p3), .val (.int (f1_0 p0)), .unset, .unset, .unset, .unset, .unset, .unset, .unset, .unset, .unset, .unset, .unset, .unset, .unset, .unset, .unset, .unset, .unset] [(.int (f1_0 p1))]))
  refine .pre (fun _ kq => XS.istore X2.here hx rfl (hb hby at_10) rfl (l' := #[.val (.int p0), .val (.int p1), .val (.int p2), .val (.int p3), .val (.int (f1_0 p0)), .val (.int (f1_0 p1)), .unset, .unset, .unset, .unset, .unset, .unset, .unset, .unset, .unset, .unset, .unset, .unset, .unset, .unset, .unset, .unset]) rfl kq) ?_
  show OwnEnds p e below _ (T2.setTop (mkF m 12 #[.val (.int p0), .val (.int p1), .val (.int p2), .val (.int p3), .val (.int (f1_0 p0)), .val (.int (f1_0 p1)), .unset, .unset, .unset, .unset, .unset, .unset, .unset, .unset, .unset, .unset, .unset, .unset, .unset, .unset, .unset, .unset] []))
  refine .pre (fun _ kq => XS.iloadN X2.here hx rfl (hb hby at_12) rfl kq) ?_
  show OwnEnds p e below _ (T2.setTop (mkF m 13 #[.val (.int p0), .val (.int p1), .val (.int p2), .val (.int p3), .val (.int (f1_0 p0)), .val (.int (f1_0 p1)), .unset, .unset, .unset, .unset, .unset, .unset, .unset, .unset, .unset, .unset, .unset, .unset, .unset, .unset, .unset, .unset] [(.int p2)]))
  obtain ⟨_, _, ⟨T3, L3, k3, n3⟩, -, X3, ⟨Lc3, hQ3, l3, y3, z3⟩, st3⟩ := Jvm.LawKit.callS X2 hx (y := (⟨"com/example/changeset/changeset/check/StateGraphEdgesEndPinLaw", "key", "(I)I"⟩ : MethodName)) hown (mvT hZ (hw _ (List.mem_of_getElem? (i := 0) rfl))) (mvT hZ (hw _ (List.mem_of_getElem? (i := 1) rfl))) (mvT hZ (hw _ (List.mem_of_getElem? (i := 2) rfl))) (mvT hZ (hw _ (List.mem_of_getElem? (i := 3) rfl))) (by decide) (backOf (W := 0) (rm1 l Z aZ hw [] p2 h0 n0 Z0) hZ (hw _ (List.mem_of_getElem? (i := 3) rfl)) (hw _ (List.mem_of_getElem? (i := 2) rfl)) (by decide) (by decide)) (g := (mkF m 13 #[.val (.int p0), .val (.int p1), .val (.int p2), .val (.int p3), .val (.int (f1_0 p0)), .val (.int (f1_0 p1)), .unset, .unset, .unset, .unset, .unset, .unset, .unset, .unset, .unset, .unset, .unset, .unset, .unset, .unset, .unset, .unset] [(.int p2)])) rfl (by rw [hml]; rfl) (argsL := [(.int p2)]) (rest := []) (lenOf pd_21 rfl) rfl (by show 2 * 0 + _ ≤ _; exact Nat.le_of_eq rfl) (hb hby at_13) (fun _ _ => ⟨rfl, e2, (by decide : 0 + 0 ≤ _), (by decide : 0 + 0 ≤ _)⟩)
  dsimp only [Pt.U, Pt.locs, Pt.cells, Pt.slots] at X3 l3 y3 z3 st3 hQ3
  try dsimp only [Nat.reduceAdd] at y3 z3
  subst y3 z3
  obtain ⟨rfl, N3q, e3⟩ := hQ3
  have N3 : Fr n0 L3 := by rw [l3]; exact Fr.app N2 N3q
  refine .pre (fun _ kq => st3 _ kq) ?_
  show OwnEnds p e below _ (T3.setTop (mkF m 16 #[.val (.int p0), .val (.int p1), .val (.int p2), .val (.int p3), .val (.int (f1_0 p0)), .val (.int (f1_0 p1)), .unset, .unset, .unset, .unset, .unset, .unset, .unset, .unset, .unset, .unset, .unset, .unset, .unset, .unset, .unset, .unset] [(.int (f1_0 p2))]))
  refine .pre (fun _ kq => XS.istore X3.here hx rfl (hb hby at_16) rfl (l' := #[.val (.int p0), .val (.int p1), .val (.int p2), .val (.int p3), .val (.int (f1_0 p0)), .val (.int (f1_0 p1)), .val (.int (f1_0 p2)), .unset, .unset, .unset, .unset, .unset, .unset, .unset, .unset, .unset, .unset, .unset, .unset, .unset, .unset, .unset]) rfl kq) ?_
  show OwnEnds p e below _ (T3.setTop (mkF m 18 #[.val (.int p0), .val (.int p1), .val (.int p2), .val (.int p3), .val (.int (f1_0 p0)), .val (.int (f1_0 p1)), .val (.int (f1_0 p2)), .unset, .unset, .unset, .unset, .unset, .unset, .unset, .unset, .unset, .unset, .unset, .unset, .unset, .unset, .unset] []))
  obtain ⟨y4, hy4⟩ : ∃ z, z = (f1_0 p0) := ⟨_, rfl⟩
  rw [← hy4]
  show OwnEnds p e below _ (T3.setTop (mkF m 18 #[.val (.int p0), .val (.int p1), .val (.int p2), .val (.int p3), .val (.int y4), .val (.int (f1_0 p1)), .val (.int (f1_0 p2)), .unset, .unset, .unset, .unset, .unset, .unset, .unset, .unset, .unset, .unset, .unset, .unset, .unset, .unset, .unset] []))
  obtain ⟨y5, hy5⟩ : ∃ z, z = (f1_0 p1) := ⟨_, rfl⟩
  rw [← hy5]
  show OwnEnds p e below _ (T3.setTop (mkF m 18 #[.val (.int p0), .val (.int p1), .val (.int p2), .val (.int p3), .val (.int y4), .val (.int y5), .val (.int (f1_0 p2)), .unset, .unset, .unset, .unset, .unset, .unset, .unset, .unset, .unset, .unset, .unset, .unset, .unset, .unset, .unset] []))
  obtain ⟨y6, hy6⟩ : ∃ z, z = (f1_0 p2) := ⟨_, rfl⟩
  rw [← hy6]
  show OwnEnds p e below _ (T3.setTop (mkF m 18 #[.val (.int p0), .val (.int p1), .val (.int p2), .val (.int p3), .val (.int y4), .val (.int y5), .val (.int y6), .unset, .unset, .unset, .unset, .unset, .unset, .unset, .unset, .unset, .unset, .unset, .unset, .unset, .unset, .unset] []))
  refine .pre (fun _ kq => XS.iload X3.here hx rfl (hb hby at_18) rfl kq) ?_
  show OwnEnds p e below _ (T3.setTop (mkF m 20 #[.val (.int p0), .val (.int p1), .val (.int p2), .val (.int p3), .val (.int y4), .val (.int y5), .val (.int y6), .unset, .unset, .unset, .unset, .unset, .unset, .unset, .unset, .unset, .unset, .unset, .unset, .unset, .unset, .unset] [(.int y4)]))
  refine .pre (fun _ kq => XS.iload X3.here hx rfl (hb hby at_20) rfl kq) ?_
  show OwnEnds p e below _ (T3.setTop (mkF m 22 #[.val (.int p0), .val (.int p1), .val (.int p2), .val (.int p3), .val (.int y4), .val (.int y5), .val (.int y6), .unset, .unset, .unset, .unset, .unset, .unset, .unset, .unset, .unset, .unset, .unset, .unset, .unset, .unset, .unset] [(.int y5), (.int y4)]))
  obtain ⟨_, _, ⟨T4, L4, k4, n4⟩, -, X4, ⟨Lc4, hQ4, l4, y4, z4⟩, st4⟩ := Jvm.LawKit.callS X3 hx (y := (⟨"java/lang/Math", "min", "(II)I"⟩ : MethodName)) hown (mvT hZ (hw _ (List.mem_of_getElem? (i := 5) rfl))) (mvT hZ (hw _ (List.mem_of_getElem? (i := 6) rfl))) (mvT hZ (hw _ (List.mem_of_getElem? (i := 7) rfl))) (mvT hZ (hw _ (List.mem_of_getElem? (i := 8) rfl))) (by decide) (backOf (W := 0) (rm2 l Z aZ hw [] y4 y5 h0 n0 Z0) hZ (hw _ (List.mem_of_getElem? (i := 8) rfl)) (hw _ (List.mem_of_getElem? (i := 7) rfl)) (by decide) (by decide)) (g := (mkF m 22 #[.val (.int p0), .val (.int p1), .val (.int p2), .val (.int p3), .val (.int y4), .val (.int y5), .val (.int y6), .unset, .unset, .unset, .unset, .unset, .unset, .unset, .unset, .unset, .unset, .unset, .unset, .unset, .unset, .unset] [(.int y5), (.int y4)])) rfl (by rw [hml]; rfl) (argsL := [(.int y4), (.int y5)]) (rest := []) (lenOf pd_8 rfl) rfl (by show 2 * 0 + _ ≤ _; exact Nat.le_of_eq rfl) (hb hby at_22) (fun _ _ => ⟨rfl, e3, (by decide : 0 + 0 ≤ _), (by decide : 0 + 0 ≤ _)⟩)
  dsimp only [Pt.U, Pt.locs, Pt.cells, Pt.slots] at X4 l4 y4 z4 st4 hQ4
  try dsimp only [Nat.reduceAdd] at y4 z4
  subst y4 z4
  obtain ⟨rfl, N4q, e4⟩ := hQ4
  have N4 : Fr n0 L4 := by rw [l4]; exact Fr.app N3 N4q
  refine .pre (fun _ kq => st4 _ kq) ?_
  show OwnEnds p e below _ (T4.setTop (mkF m 25 #[.val (.int p0), .val (.int p1), .val (.int p2), .val (.int p3), .val (.int y4), .val (.int y5), .val (.int y6), .unset, .unset, .unset, .unset, .unset, .unset, .unset, .unset, .unset, .unset, .unset, .unset, .unset, .unset, .unset] [(.int (f2_0 y4 y5))]))
  refine .pre (fun _ kq => XS.iload X4.here hx rfl (hb hby at_25) rfl kq) ?_
  show OwnEnds p e below _ (T4.setTop (mkF m 27 #[.val (.int p0), .val (.int p1), .val (.int p2), .val (.int p3), .val (.int y4), .val (.int y5), .val (.int y6), .unset, .unset, .unset, .unset, .unset, .unset, .unset, .unset, .unset, .unset, .unset, .unset, .unset, .unset, .unset] [(.int y6), (.int (f2_0 y4 y5))]))
  obtain ⟨_, _, ⟨T5, L5, k5, n5⟩, -, X5, ⟨Lc5, hQ5, l5, y5, z5⟩, st5⟩ := Jvm.LawKit.callS X4 hx (y := (⟨"java/lang/Math", "min", "(II)I"⟩ : MethodName)) hown (mvT hZ (hw _ (List.mem_of_getElem? (i := 5) rfl))) (mvT hZ (hw _ (List.mem_of_getElem? (i := 6) rfl))) (mvT hZ (hw _ (List.mem_of_getElem? (i := 7) rfl))) (mvT hZ (hw _ (List.mem_of_getElem? (i := 8) rfl))) (by decide) (backOf (W := 0) (rm2 l Z aZ hw [] (f2_0 y4 y5) y6 h0 n0 Z0) hZ (hw _ (List.mem_of_getElem? (i := 8) rfl)) (hw _ (List.mem_of_getElem? (i := 7) rfl)) (by decide) (by decide)) (g := (mkF m 27 #[.val (.int p0), .val (.int p1), .val (.int p2), .val (.int p3), .val (.int y4), .val (.int y5), .val (.int y6), .unset, .unset, .unset, .unset, .unset, .unset, .unset, .unset, .unset, .unset, .unset, .unset, .unset, .unset, .unset] [(.int y6), (.int (f2_0 y4 y5))])) rfl (by rw [hml]; rfl) (argsL := [(.int (f2_0 y4 y5)), (.int y6)]) (rest := []) (lenOf pd_8 rfl) rfl (by show 2 * 0 + _ ≤ _; exact Nat.le_of_eq rfl) (hb hby at_27) (fun _ _ => ⟨rfl, e4, (by decide : 0 + 0 ≤ _), (by decide : 0 + 0 ≤ _)⟩)
  dsimp only [Pt.U, Pt.locs, Pt.cells, Pt.slots] at X5 l5 y5 z5 st5 hQ5
  try dsimp only [Nat.reduceAdd] at y5 z5
  subst y5 z5
  obtain ⟨rfl, N5q, e5⟩ := hQ5
  have N5 : Fr n0 L5 := by rw [l5]; exact Fr.app N4 N5q
  refine .pre (fun _ kq => st5 _ kq) ?_
  show OwnEnds p e below _ (T5.setTop (mkF m 30 #[.val (.int p0), .val (.int p1), .val (.int p2), .val (.int p3), .val (.int y4), .val (.int y5), .val (.int y6), .unset, .unset, .unset, .unset, .unset, .unset, .unset, .unset, .unset, .unset, .unset, .unset, .unset, .unset, .unset] [(.int (f2_0 (f2_0 y4 y5) y6))]))
  refine .pre (fun _ kq => XS.istore X5.here hx rfl (hb hby at_30) rfl (l' := #[.val (.int p0), .val (.int p1), .val (.int p2), .val (.int p3), .val (.int y4), .val (.int y5), .val (.int y6), .val (.int (f2_0 (f2_0 y4 y5) y6)), .unset, .unset, .unset, .unset, .unset, .unset, .unset, .unset, .unset, .unset, .unset, .unset, .unset, .unset]) rfl kq) ?_
  show OwnEnds p e below _ (T5.setTop (mkF m 32 #[.val (.int p0), .val (.int p1), .val (.int p2), .val (.int p3), .val (.int y4), .val (.int y5), .val (.int y6), .val (.int (f2_0 (f2_0 y4 y5) y6)), .unset, .unset, .unset, .unset, .unset, .unset, .unset, .unset, .unset, .unset, .unset, .unset, .unset, .unset] []))
  refine .pre (fun _ kq => XS.iload X5.here hx rfl (hb hby at_32) rfl kq) ?_
  show OwnEnds p e below _ (T5.setTop (mkF m 34 #[.val (.int p0), .val (.int p1), .val (.int p2), .val (.int p3), .val (.int y4), .val (.int y5), .val (.int y6), .val (.int (f2_0 (f2_0 y4 y5) y6)), .unset, .unset, .unset, .unset, .unset, .unset, .unset, .unset, .unset, .unset, .unset, .unset, .unset, .unset] [(.int y4)]))
  refine .pre (fun _ kq => XS.iload X5.here hx rfl (hb hby at_34) rfl kq) ?_
  show OwnEnds p e below _ (T5.setTop (mkF m 36 #[.val (.int p0), .val (.int p1), .val (.int p2), .val (.int p3), .val (.int y4), .val (.int y5), .val (.int y6), .val (.int (f2_0 (f2_0 y4 y5) y6)), .unset, .unset, .unset, .unset, .unset, .unset, .unset, .unset, .unset, .unset, .unset, .unset, .unset, .unset] [(.int y5), (.int y4)]))
  obtain ⟨_, _, ⟨T6, L6, k6, n6⟩, -, X6, ⟨Lc6, hQ6, l6, y6, z6⟩, st6⟩ := Jvm.LawKit.callS X5 hx (y := (⟨"java/lang/Math", "max", "(II)I"⟩ : MethodName)) hown (mvT hZ (hw _ (List.mem_of_getElem? (i := 9) rfl))) (mvT hZ (hw _ (List.mem_of_getElem? (i := 10) rfl))) (mvT hZ (hw _ (List.mem_of_getElem? (i := 7) rfl))) (mvT hZ (hw _ (List.mem_of_getElem? (i := 11) rfl))) (by decide) (backOf (W := 0) (rm3 l Z aZ hw [] y4 y5 h0 n0 Z0) hZ (hw _ (List.mem_of_getElem? (i := 11) rfl)) (hw _ (List.mem_of_getElem? (i := 7) rfl)) (by decide) (by decide)) (g := (mkF m 36 #[.val (.int p0), .val (.int p1), .val (.int p2), .val (.int p3), .val (.int y4), .val (.int y5), .val (.int y6), .val (.int (f2_0 (f2_0 y4 y5) y6)), .unset, .unset, .unset, .unset, .unset, .unset, .unset, .unset, .unset, .unset, .unset, .unset, .unset, .unset] [(.int y5), (.int y4)])) rfl (by rw [hml]; rfl) (argsL := [(.int y4), (.int y5)]) (rest := []) (lenOf pd_8 rfl) rfl (by show 2 * 0 + _ ≤ _; exact Nat.le_of_eq rfl) (hb hby at_36) (fun _ _ => ⟨rfl, e5, (by decide : 0 + 0 ≤ _), (by decide : 0 + 0 ≤ _)⟩)
  dsimp only [Pt.U, Pt.locs, Pt.cells, Pt.slots] at X6 l6 y6 z6 st6 hQ6
  try dsimp only [Nat.reduceAdd] at y6 z6
  subst y6 z6
  obtain ⟨rfl, N6q, e6⟩ := hQ6
  have N6 : Fr n0 L6 := by rw [l6]; exact Fr.app N5 N6q
  refine .pre (fun _ kq => st6 _ kq) ?_
  show OwnEnds p e below _ (T6.setTop (mkF m 39 #[.val (.int p0), .val (.int p1), .val (.int p2), .val (.int p3), .val (.int y4), .val (.int y5), .val (.int y6), .val (.int (f2_0 (f2_0 y4 y5) y6)), .unset, .unset, .unset, .unset, .unset, .unset, .unset, .unset, .unset, .unset, .unset, .unset, .unset, .unset] [(.int (f3_0 y4 y5))]))
  refine .pre (fun _ kq => XS.iload X6.here hx rfl (hb hby at_39) rfl kq) ?_
  show OwnEnds p e below _ (T6.setTop (mkF m 41 #[.val (.int p0), .val (.int p1), .val (.int p2), .val (.int p3), .val (.int y4), .val (.int y5), .val (.int y6), .val (.int (f2_0 (f2_0 y4 y5) y6)), .unset, .unset, .unset, .unset, .unset, .unset, .unset, .unset, .unset, .unset, .unset, .unset, .unset, .unset] [(.int y6), (.int (f3_0 y4 y5))]))
  obtain ⟨_, _, ⟨T7, L7, k7, n7⟩, -, X7, ⟨Lc7, hQ7, l7, y7, z7⟩, st7⟩ := Jvm.LawKit.callS X6 hx (y := (⟨"java/lang/Math", "max", "(II)I"⟩ : MethodName)) hown (mvT hZ (hw _ (List.mem_of_getElem? (i := 9) rfl))) (mvT hZ (hw _ (List.mem_of_getElem? (i := 10) rfl))) (mvT hZ (hw _ (List.mem_of_getElem? (i := 7) rfl))) (mvT hZ (hw _ (List.mem_of_getElem? (i := 11) rfl))) (by decide) (backOf (W := 0) (rm3 l Z aZ hw [] (f3_0 y4 y5) y6 h0 n0 Z0) hZ (hw _ (List.mem_of_getElem? (i := 11) rfl)) (hw _ (List.mem_of_getElem? (i := 7) rfl)) (by decide) (by decide)) (g := (mkF m 41 #[.val (.int p0), .val (.int p1), .val (.int p2), .val (.int p3), .val (.int y4), .val (.int y5), .val (.int y6), .val (.int (f2_0 (f2_0 y4 y5) y6)), .unset, .unset, .unset, .unset, .unset, .unset, .unset, .unset, .unset, .unset, .unset, .unset, .unset, .unset] [(.int y6), (.int (f3_0 y4 y5))])) rfl (by rw [hml]; rfl) (argsL := [(.int (f3_0 y4 y5)), (.int y6)]) (rest := []) (lenOf pd_8 rfl) rfl (by show 2 * 0 + _ ≤ _; exact Nat.le_of_eq rfl) (hb hby at_41) (fun _ _ => ⟨rfl, e6, (by decide : 0 + 0 ≤ _), (by decide : 0 + 0 ≤ _)⟩)
  dsimp only [Pt.U, Pt.locs, Pt.cells, Pt.slots] at X7 l7 y7 z7 st7 hQ7
  try dsimp only [Nat.reduceAdd] at y7 z7
  subst y7 z7
  obtain ⟨rfl, N7q, e7⟩ := hQ7
  have N7 : Fr n0 L7 := by rw [l7]; exact Fr.app N6 N7q
  refine .pre (fun _ kq => st7 _ kq) ?_
  show OwnEnds p e below _ (T7.setTop (mkF m 44 #[.val (.int p0), .val (.int p1), .val (.int p2), .val (.int p3), .val (.int y4), .val (.int y5), .val (.int y6), .val (.int (f2_0 (f2_0 y4 y5) y6)), .unset, .unset, .unset, .unset, .unset, .unset, .unset, .unset, .unset, .unset, .unset, .unset, .unset, .unset] [(.int (f3_0 (f3_0 y4 y5) y6))]))
  refine .pre (fun _ kq => XS.istore X7.here hx rfl (hb hby at_44) rfl (l' := #[.val (.int p0), .val (.int p1), .val (.int p2), .val (.int p3), .val (.int y4), .val (.int y5), .val (.int y6), .val (.int (f2_0 (f2_0 y4 y5) y6)), .val (.int (f3_0 (f3_0 y4 y5) y6)), .unset, .unset, .unset, .unset, .unset, .unset, .unset, .unset, .unset, .unset, .unset, .unset, .unset]) rfl kq) ?_
  show OwnEnds p e below _ (T7.setTop (mkF m 46 #[.val (.int p0), .val (.int p1), .val (.int p2), .val (.int p3), .val (.int y4), .val (.int y5), .val (.int y6), .val (.int (f2_0 (f2_0 y4 y5) y6)), .val (.int (f3_0 (f3_0 y4 y5) y6)), .unset, .unset, .unset, .unset, .unset, .unset, .unset, .unset, .unset, .unset, .unset, .unset, .unset] []))
  obtain ⟨y7, hy7⟩ : ∃ z, z = (f2_0 (f2_0 y4 y5) y6) := ⟨_, rfl⟩
  rw [← hy7]
  show OwnEnds p e below _ (T7.setTop (mkF m 46 #[.val (.int p0), .val (.int p1), .val (.int p2), .val (.int p3), .val (.int y4), .val (.int y5), .val (.int y6), .val (.int y7), .val (.int (f3_0 (f3_0 y4 y5) y6)), .unset, .unset, .unset, .unset, .unset, .unset, .unset, .unset, .unset, .unset, .unset, .unset, .unset] []))
  obtain ⟨y8, hy8⟩ : ∃ z, z = (f3_0 (f3_0 y4 y5) y6) := ⟨_, rfl⟩
  rw [← hy8]
  show OwnEnds p e below _ (T7.setTop (mkF m 46 #[.val (.int p0), .val (.int p1), .val (.int p2), .val (.int p3), .val (.int y4), .val (.int y5), .val (.int y6), .val (.int y7), .val (.int y8), .unset, .unset, .unset, .unset, .unset, .unset, .unset, .unset, .unset, .unset, .unset, .unset, .unset] []))
  refine .pre (fun _ kq => XS.iload X7.here hx rfl (hb hby at_46) rfl kq) ?_
  show OwnEnds p e below _ (T7.setTop (mkF m 48 #[.val (.int p0), .val (.int p1), .val (.int p2), .val (.int p3), .val (.int y4), .val (.int y5), .val (.int y6), .val (.int y7), .val (.int y8), .unset, .unset, .unset, .unset, .unset, .unset, .unset, .unset, .unset, .unset, .unset, .unset, .unset] [(.int y4)]))
  refine .pre (fun _ kq => XS.iload X7.here hx rfl (hb hby at_48) rfl kq) ?_
  show OwnEnds p e below _ (T7.setTop (mkF m 50 #[.val (.int p0), .val (.int p1), .val (.int p2), .val (.int p3), .val (.int y4), .val (.int y5), .val (.int y6), .val (.int y7), .val (.int y8), .unset, .unset, .unset, .unset, .unset, .unset, .unset, .unset, .unset, .unset, .unset, .unset, .unset] [(.int y5), (.int y4)]))
  refine .pre (fun _ kq => XS.iadd X7.here hx rfl (hb hby at_50) rfl kq) ?_
  show OwnEnds p e below _ (T7.setTop (mkF m 51 #[.val (.int p0), .val (.int p1), .val (.int p2), .val (.int p3), .val (.int y4), .val (.int y5), .val (.int y6), .val (.int y7), .val (.int y8), .unset, .unset, .unset, .unset, .unset, .unset, .unset, .unset, .unset, .unset, .unset, .unset, .unset] [(.int (y4 + y5))]))
  refine .pre (fun _ kq => XS.iload X7.here hx rfl (hb hby at_51) rfl kq) ?_
  show OwnEnds p e below _ (T7.setTop (mkF m 53 #[.val (.int p0), .val (.int p1), .val (.int p2), .val (.int p3), .val (.int y4), .val (.int y5), .val (.int y6), .val (.int y7), .val (.int y8), .unset, .unset, .unset, .unset, .unset, .unset, .unset, .unset, .unset, .unset, .unset, .unset, .unset] [(.int y6), (.int (y4 + y5))]))
  refine .pre (fun _ kq => XS.iadd X7.here hx rfl (hb hby at_53) rfl kq) ?_
  show OwnEnds p e below _ (T7.setTop (mkF m 54 #[.val (.int p0), .val (.int p1), .val (.int p2), .val (.int p3), .val (.int y4), .val (.int y5), .val (.int y6), .val (.int y7), .val (.int y8), .unset, .unset, .unset, .unset, .unset, .unset, .unset, .unset, .unset, .unset, .unset, .unset, .unset] [(.int ((y4 + y5) + y6))]))
  refine .pre (fun _ kq => XS.iload X7.here hx rfl (hb hby at_54) rfl kq) ?_
  show OwnEnds p e below _ (T7.setTop (mkF m 56 #[.val (.int p0), .val (.int p1), .val (.int p2), .val (.int p3), .val (.int y4), .val (.int y5), .val (.int y6), .val (.int y7), .val (.int y8), .unset, .unset, .unset, .unset, .unset, .unset, .unset, .unset, .unset, .unset, .unset, .unset, .unset] [(.int y7), (.int ((y4 + y5) + y6))]))
  refine .pre (fun _ kq => XS.isub X7.here hx rfl (hb hby at_56) rfl kq) ?_
  show OwnEnds p e below _ (T7.setTop (mkF m 57 #[.val (.int p0), .val (.int p1), .val (.int p2), .val (.int p3), .val (.int y4), .val (.int y5), .val (.int y6), .val (.int y7), .val (.int y8), .unset, .unset, .unset, .unset, .unset, .unset, .unset, .unset, .unset, .unset, .unset, .unset, .unset] [(.int (((y4 + y5) + y6) - y7))]))
  refine .pre (fun _ kq => XS.iload X7.here hx rfl (hb hby at_57) rfl kq) ?_
  show OwnEnds p e below _ (T7.setTop (mkF m 59 #[.val (.int p0), .val (.int p1), .val (.int p2), .val (.int p3), .val (.int y4), .val (.int y5), .val (.int y6), .val (.int y7), .val (.int y8), .unset, .unset, .unset, .unset, .unset, .unset, .unset, .unset, .unset, .unset, .unset, .unset, .unset] [(.int y8), (.int (((y4 + y5) + y6) - y7))]))
  refine .pre (fun _ kq => XS.isub X7.here hx rfl (hb hby at_59) rfl kq) ?_
  show OwnEnds p e below _ (T7.setTop (mkF m 60 #[.val (.int p0), .val (.int p1), .val (.int p2), .val (.int p3), .val (.int y4), .val (.int y5), .val (.int y6), .val (.int y7), .val (.int y8), .unset, .unset, .unset, .unset, .unset, .unset, .unset, .unset, .unset, .unset, .unset, .unset, .unset] [(.int ((((y4 + y5) + y6) - y7) - y8))]))
  refine .pre (fun _ kq => XS.istore X7.here hx rfl (hb hby at_60) rfl (l' := #[.val (.int p0), .val (.int p1), .val (.int p2), .val (.int p3), .val (.int y4), .val (.int y5), .val (.int y6), .val (.int y7), .val (.int y8), .val (.int ((((y4 + y5) + y6) - y7) - y8)), .unset, .unset, .unset, .unset, .unset, .unset, .unset, .unset, .unset, .unset, .unset, .unset]) rfl kq) ?_
  show OwnEnds p e below _ (T7.setTop (mkF m 62 #[.val (.int p0), .val (.int p1), .val (.int p2), .val (.int p3), .val (.int y4), .val (.int y5), .val (.int y6), .val (.int y7), .val (.int y8), .val (.int ((((y4 + y5) + y6) - y7) - y8)), .unset, .unset, .unset, .unset, .unset, .unset, .unset, .unset, .unset, .unset, .unset, .unset] []))
  obtain ⟨y9, hy9⟩ : ∃ z, z = ((((y4 + y5) + y6) - y7) - y8) := ⟨_, rfl⟩
  rw [← hy9]
  show OwnEnds p e below _ (T7.setTop (mkF m 62 #[.val (.int p0), .val (.int p1), .val (.int p2), .val (.int p3), .val (.int y4), .val (.int y5), .val (.int y6), .val (.int y7), .val (.int y8), .val (.int y9), .unset, .unset, .unset, .unset, .unset, .unset, .unset, .unset, .unset, .unset, .unset, .unset] []))
  refine .pre (fun _ kq => XS.iload X7.here hx rfl (hb hby at_62) rfl kq) ?_
  show OwnEnds p e below _ (T7.setTop (mkF m 64 #[.val (.int p0), .val (.int p1), .val (.int p2), .val (.int p3), .val (.int y4), .val (.int y5), .val (.int y6), .val (.int y7), .val (.int y8), .val (.int y9), .unset, .unset, .unset, .unset, .unset, .unset, .unset, .unset, .unset, .unset, .unset, .unset] [(.int y7)]))
  obtain ⟨_, _, ⟨T8, L8, k8, n8⟩, -, X8, ⟨Lc8, hQ8, l8, y8, z8⟩, st8⟩ := Jvm.LawKit.callS X7 hx (y := (⟨"com/example/changeset/changeset/check/StateGraphEdgesEndPinLaw", "from", "(I)I"⟩ : MethodName)) hown (mvT hZ (hw _ (List.mem_of_getElem? (i := 12) rfl))) (mvT hZ (hw _ (List.mem_of_getElem? (i := 13) rfl))) (mvT hZ (hw _ (List.mem_of_getElem? (i := 2) rfl))) (mvT hZ (hw _ (List.mem_of_getElem? (i := 14) rfl))) (by decide) (backOf (W := 0) (rm4 l Z aZ hw [] y7 h0 n0 Z0) hZ (hw _ (List.mem_of_getElem? (i := 14) rfl)) (hw _ (List.mem_of_getElem? (i := 2) rfl)) (by decide) (by decide)) (g := (mkF m 64 #[.val (.int p0), .val (.int p1), .val (.int p2), .val (.int p3), .val (.int y4), .val (.int y5), .val (.int y6), .val (.int y7), .val (.int y8), .val (.int y9), .unset, .unset, .unset, .unset, .unset, .unset, .unset, .unset, .unset, .unset, .unset, .unset] [(.int y7)])) rfl (by rw [hml]; rfl) (argsL := [(.int y7)]) (rest := []) (lenOf pd_21 rfl) rfl (by show 2 * 0 + _ ≤ _; exact Nat.le_of_eq rfl) (hb hby at_64) (fun _ _ => ⟨rfl, e7, (by decide : 0 + 0 ≤ _), (by decide : 0 + 0 ≤ _)⟩)
  dsimp only [Pt.U, Pt.locs, Pt.cells, Pt.slots] at X8 l8 y8 z8 st8 hQ8
  try dsimp only [Nat.reduceAdd] at y8 z8
  subst y8 z8
  obtain ⟨rfl, N8q, e8⟩ := hQ8
  have N8 : Fr n0 L8 := by rw [l8]; exact Fr.app N7 N8q
  refine .pre (fun _ kq => st8 _ kq) ?_
  show OwnEnds p e below _ (T8.setTop (mkF m 67 #[.val (.int p0), .val (.int p1), .val (.int p2), .val (.int p3), .val (.int y4), .val (.int y5), .val (.int y6), .val (.int y7), .val (.int y8), .val (.int y9), .unset, .unset, .unset, .unset, .unset, .unset, .unset, .unset, .unset, .unset, .unset, .unset] [(.int (f4_0 y7))]))
  refine .pre (fun _ kq => XS.istore X8.here hx rfl (hb hby at_67) rfl (l' := #[.val (.int p0), .val (.int p1), .val (.int p2), .val (.int p3), .val (.int y4), .val (.int y5), .val (.int y6), .val (.int y7), .val (.int y8), .val (.int y9), .val (.int (f4_0 y7)), .unset, .unset, .unset, .unset, .unset, .unset, .unset, .unset, .unset, .unset, .unset]) rfl kq) ?_
  show OwnEnds p e below _ (T8.setTop (mkF m 69 #[.val (.int p0), .val (.int p1), .val (.int p2), .val (.int p3), .val (.int y4), .val (.int y5), .val (.int y6), .val (.int y7), .val (.int y8), .val (.int y9), .val (.int (f4_0 y7)), .unset, .unset, .unset, .unset, .unset, .unset, .unset, .unset, .unset, .unset, .unset] []))
  refine .pre (fun _ kq => XS.iload X8.here hx rfl (hb hby at_69) rfl kq) ?_
  show OwnEnds p e below _ (T8.setTop (mkF m 71 #[.val (.int p0), .val (.int p1), .val (.int p2), .val (.int p3), .val (.int y4), .val (.int y5), .val (.int y6), .val (.int y7), .val (.int y8), .val (.int y9), .val (.int (f4_0 y7)), .unset, .unset, .unset, .unset, .unset, .unset, .unset, .unset, .unset, .unset, .unset] [(.int y7)]))
  obtain ⟨_, _, ⟨T9, L9, k9, n9⟩, -, X9, ⟨Lc9, hQ9, l9, y9, z9⟩, st9⟩ := Jvm.LawKit.callS X8 hx (y := (⟨"com/example/changeset/changeset/check/StateGraphEdgesEndPinLaw", "to", "(I)I"⟩ : MethodName)) hown (mvT hZ (hw _ (List.mem_of_getElem? (i := 15) rfl))) (mvT hZ (hw _ (List.mem_of_getElem? (i := 16) rfl))) (mvT hZ (hw _ (List.mem_of_getElem? (i := 2) rfl))) (mvT hZ (hw _ (List.mem_of_getElem? (i := 17) rfl))) (by decide) (backOf (W := 0) (rm5 l Z aZ hw [] y7 h0 n0 Z0) hZ (hw _ (List.mem_of_getElem? (i := 17) rfl)) (hw _ (List.mem_of_getElem? (i := 2) rfl)) (by decide) (by decide)) (g := (mkF m 71 #[.val (.int p0), .val (.int p1), .val (.int p2), .val (.int p3), .val (.int y4), .val (.int y5), .val (.int y6), .val (.int y7), .val (.int y8), .val (.int y9), .val (.int (f4_0 y7)), .unset, .unset, .unset, .unset, .unset, .unset, .unset, .unset, .unset, .unset, .unset] [(.int y7)])) rfl (by rw [hml]; rfl) (argsL := [(.int y7)]) (rest := []) (lenOf pd_21 rfl) rfl (by show 2 * 0 + _ ≤ _; exact Nat.le_of_eq rfl) (hb hby at_71) (fun _ _ => ⟨rfl, e8, (by decide : 0 + 0 ≤ _), (by decide : 0 + 0 ≤ _)⟩)
  dsimp only [Pt.U, Pt.locs, Pt.cells, Pt.slots] at X9 l9 y9 z9 st9 hQ9
  try dsimp only [Nat.reduceAdd] at y9 z9
  subst y9 z9
  obtain ⟨rfl, N9q, e9⟩ := hQ9
  have N9 : Fr n0 L9 := by rw [l9]; exact Fr.app N8 N9q
  refine .pre (fun _ kq => st9 _ kq) ?_
  show OwnEnds p e below _ (T9.setTop (mkF m 74 #[.val (.int p0), .val (.int p1), .val (.int p2), .val (.int p3), .val (.int y4), .val (.int y5), .val (.int y6), .val (.int y7), .val (.int y8), .val (.int y9), .val (.int (f4_0 y7)), .unset, .unset, .unset, .unset, .unset, .unset, .unset, .unset, .unset, .unset, .unset] [(.int (f5_0 y7))]))
  refine .pre (fun _ kq => XS.istore X9.here hx rfl (hb hby at_74) rfl (l' := #[.val (.int p0), .val (.int p1), .val (.int p2), .val (.int p3), .val (.int y4), .val (.int y5), .val (.int y6), .val (.int y7), .val (.int y8), .val (.int y9), .val (.int (f4_0 y7)), .val (.int (f5_0 y7)), .unset, .unset, .unset, .unset, .unset, .unset, .unset, .unset, .unset, .unset]) rfl kq) ?_
  show OwnEnds p e below _ (T9.setTop (mkF m 76 #[.val (.int p0), .val (.int p1), .val (.int p2), .val (.int p3), .val (.int y4), .val (.int y5), .val (.int y6), .val (.int y7), .val (.int y8), .val (.int y9), .val (.int (f4_0 y7)), .val (.int (f5_0 y7)), .unset, .unset, .unset, .unset, .unset, .unset, .unset, .unset, .unset, .unset] []))
  refine .pre (fun _ kq => XS.iload X9.here hx rfl (hb hby at_76) rfl kq) ?_
  show OwnEnds p e below _ (T9.setTop (mkF m 78 #[.val (.int p0), .val (.int p1), .val (.int p2), .val (.int p3), .val (.int y4), .val (.int y5), .val (.int y6), .val (.int y7), .val (.int y8), .val (.int y9), .val (.int (f4_0 y7)), .val (.int (f5_0 y7)), .unset, .unset, .unset, .unset, .unset, .unset, .unset, .unset, .unset, .unset] [(.int y9)]))
  obtain ⟨_, _, ⟨T10, L10, k10, n10⟩, -, X10, ⟨Lc10, hQ10, l10, y10, z10⟩, st10⟩ := Jvm.LawKit.callS X9 hx (y := (⟨"com/example/changeset/changeset/check/StateGraphEdgesEndPinLaw", "from", "(I)I"⟩ : MethodName)) hown (mvT hZ (hw _ (List.mem_of_getElem? (i := 12) rfl))) (mvT hZ (hw _ (List.mem_of_getElem? (i := 13) rfl))) (mvT hZ (hw _ (List.mem_of_getElem? (i := 2) rfl))) (mvT hZ (hw _ (List.mem_of_getElem? (i := 14) rfl))) (by decide) (backOf (W := 0) (rm4 l Z aZ hw [] y9 h0 n0 Z0) hZ (hw _ (List.mem_of_getElem? (i := 14) rfl)) (hw _ (List.mem_of_getElem? (i := 2) rfl)) (by decide) (by decide)) (g := (mkF m 78 #[.val (.int p0), .val (.int p1), .val (.int p2), .val (.int p3), .val (.int y4), .val (.int y5), .val (.int y6), .val (.int y7), .val (.int y8), .val (.int y9), .val (.int (f4_0 y7)), .val (.int (f5_0 y7)), .unset, .unset, .unset, .unset, .unset, .unset, .unset, .unset, .unset, .unset] [(.int y9)])) rfl (by rw [hml]; rfl) (argsL := [(.int y9)]) (rest := []) (lenOf pd_21 rfl) rfl (by show 2 * 0 + _ ≤ _; exact Nat.le_of_eq rfl) (hb hby at_78) (fun _ _ => ⟨rfl, e9, (by decide : 0 + 0 ≤ _), (by decide : 0 + 0 ≤ _)⟩)
  dsimp only [Pt.U, Pt.locs, Pt.cells, Pt.slots] at X10 l10 y10 z10 st10 hQ10
  try dsimp only [Nat.reduceAdd] at y10 z10
  subst y10 z10
  obtain ⟨rfl, N10q, e10⟩ := hQ10
  have N10 : Fr n0 L10 := by rw [l10]; exact Fr.app N9 N10q
  refine .pre (fun _ kq => st10 _ kq) ?_
  show OwnEnds p e below _ (T10.setTop (mkF m 81 #[.val (.int p0), .val (.int p1), .val (.int p2), .val (.int p3), .val (.int y4), .val (.int y5), .val (.int y6), .val (.int y7), .val (.int y8), .val (.int y9), .val (.int (f4_0 y7)), .val (.int (f5_0 y7)), .unset, .unset, .unset, .unset, .unset, .unset, .unset, .unset, .unset, .unset] [(.int (f4_0 y9))]))
  refine .pre (fun _ kq => XS.istore X10.here hx rfl (hb hby at_81) rfl (l' := #[.val (.int p0), .val (.int p1), .val (.int p2), .val (.int p3), .val (.int y4), .val (.int y5), .val (.int y6), .val (.int y7), .val (.int y8), .val (.int y9), .val (.int (f4_0 y7)), .val (.int (f5_0 y7)), .val (.int (f4_0 y9)), .unset, .unset, .unset, .unset, .unset, .unset, .unset, .unset, .unset]) rfl kq) ?_
  show OwnEnds p e below _ (T10.setTop (mkF m 83 #[.val (.int p0), .val (.int p1), .val (.int p2), .val (.int p3), .val (.int y4), .val (.int y5), .val (.int y6), .val (.int y7), .val (.int y8), .val (.int y9), .val (.int (f4_0 y7)), .val (.int (f5_0 y7)), .val (.int (f4_0 y9)), .unset, .unset, .unset, .unset, .unset, .unset, .unset, .unset, .unset] []))
  refine .pre (fun _ kq => XS.iload X10.here hx rfl (hb hby at_83) rfl kq) ?_
  show OwnEnds p e below _ (T10.setTop (mkF m 85 #[.val (.int p0), .val (.int p1), .val (.int p2), .val (.int p3), .val (.int y4), .val (.int y5), .val (.int y6), .val (.int y7), .val (.int y8), .val (.int y9), .val (.int (f4_0 y7)), .val (.int (f5_0 y7)), .val (.int (f4_0 y9)), .unset, .unset, .unset, .unset, .unset, .unset, .unset, .unset, .unset] [(.int y9)]))
  obtain ⟨_, _, ⟨T11, L11, k11, n11⟩, -, X11, ⟨Lc11, hQ11, l11, y11, z11⟩, st11⟩ := Jvm.LawKit.callS X10 hx (y := (⟨"com/example/changeset/changeset/check/StateGraphEdgesEndPinLaw", "to", "(I)I"⟩ : MethodName)) hown (mvT hZ (hw _ (List.mem_of_getElem? (i := 15) rfl))) (mvT hZ (hw _ (List.mem_of_getElem? (i := 16) rfl))) (mvT hZ (hw _ (List.mem_of_getElem? (i := 2) rfl))) (mvT hZ (hw _ (List.mem_of_getElem? (i := 17) rfl))) (by decide) (backOf (W := 0) (rm5 l Z aZ hw [] y9 h0 n0 Z0) hZ (hw _ (List.mem_of_getElem? (i := 17) rfl)) (hw _ (List.mem_of_getElem? (i := 2) rfl)) (by decide) (by decide)) (g := (mkF m 85 #[.val (.int p0), .val (.int p1), .val (.int p2), .val (.int p3), .val (.int y4), .val (.int y5), .val (.int y6), .val (.int y7), .val (.int y8), .val (.int y9), .val (.int (f4_0 y7)), .val (.int (f5_0 y7)), .val (.int (f4_0 y9)), .unset, .unset, .unset, .unset, .unset, .unset, .unset, .unset, .unset] [(.int y9)])) rfl (by rw [hml]; rfl) (argsL := [(.int y9)]) (rest := []) (lenOf pd_21 rfl) rfl (by show 2 * 0 + _ ≤ _; exact Nat.le_of_eq rfl) (hb hby at_85) (fun _ _ => ⟨rfl, e10, (by decide : 0 + 0 ≤ _), (by decide : 0 + 0 ≤ _)⟩)
  dsimp only [Pt.U, Pt.locs, Pt.cells, Pt.slots] at X11 l11 y11 z11 st11 hQ11
  try dsimp only [Nat.reduceAdd] at y11 z11
  subst y11 z11
  obtain ⟨rfl, N11q, e11⟩ := hQ11
  have N11 : Fr n0 L11 := by rw [l11]; exact Fr.app N10 N11q
  refine .pre (fun _ kq => st11 _ kq) ?_
  show OwnEnds p e below _ (T11.setTop (mkF m 88 #[.val (.int p0), .val (.int p1), .val (.int p2), .val (.int p3), .val (.int y4), .val (.int y5), .val (.int y6), .val (.int y7), .val (.int y8), .val (.int y9), .val (.int (f4_0 y7)), .val (.int (f5_0 y7)), .val (.int (f4_0 y9)), .unset, .unset, .unset, .unset, .unset, .unset, .unset, .unset, .unset] [(.int (f5_0 y9))]))
  refine .pre (fun _ kq => XS.istore X11.here hx rfl (hb hby at_88) rfl (l' := #[.val (.int p0), .val (.int p1), .val (.int p2), .val (.int p3), .val (.int y4), .val (.int y5), .val (.int y6), .val (.int y7), .val (.int y8), .val (.int y9), .val (.int (f4_0 y7)), .val (.int (f5_0 y7)), .val (.int (f4_0 y9)), .val (.int (f5_0 y9)), .unset, .unset, .unset, .unset, .unset, .unset, .unset, .unset]) rfl kq) ?_
  show OwnEnds p e below _ (T11.setTop (mkF m 90 #[.val (.int p0), .val (.int p1), .val (.int p2), .val (.int p3), .val (.int y4), .val (.int y5), .val (.int y6), .val (.int y7), .val (.int y8), .val (.int y9), .val (.int (f4_0 y7)), .val (.int (f5_0 y7)), .val (.int (f4_0 y9)), .val (.int (f5_0 y9)), .unset, .unset, .unset, .unset, .unset, .unset, .unset, .unset] []))
  refine .pre (fun _ kq => XS.iload X11.here hx rfl (hb hby at_90) rfl kq) ?_
  show OwnEnds p e below _ (T11.setTop (mkF m 92 #[.val (.int p0), .val (.int p1), .val (.int p2), .val (.int p3), .val (.int y4), .val (.int y5), .val (.int y6), .val (.int y7), .val (.int y8), .val (.int y9), .val (.int (f4_0 y7)), .val (.int (f5_0 y7)), .val (.int (f4_0 y9)), .val (.int (f5_0 y9)), .unset, .unset, .unset, .unset, .unset, .unset, .unset, .unset] [(.int y8)]))
  obtain ⟨_, _, ⟨T12, L12, k12, n12⟩, -, X12, ⟨Lc12, hQ12, l12, y12, z12⟩, st12⟩ := Jvm.LawKit.callS X11 hx (y := (⟨"com/example/changeset/changeset/check/StateGraphEdgesEndPinLaw", "from", "(I)I"⟩ : MethodName)) hown (mvT hZ (hw _ (List.mem_of_getElem? (i := 12) rfl))) (mvT hZ (hw _ (List.mem_of_getElem? (i := 13) rfl))) (mvT hZ (hw _ (List.mem_of_getElem? (i := 2) rfl))) (mvT hZ (hw _ (List.mem_of_getElem? (i := 14) rfl))) (by decide) (backOf (W := 0) (rm4 l Z aZ hw [] y8 h0 n0 Z0) hZ (hw _ (List.mem_of_getElem? (i := 14) rfl)) (hw _ (List.mem_of_getElem? (i := 2) rfl)) (by decide) (by decide)) (g := (mkF m 92 #[.val (.int p0), .val (.int p1), .val (.int p2), .val (.int p3), .val (.int y4), .val (.int y5), .val (.int y6), .val (.int y7), .val (.int y8), .val (.int y9), .val (.int (f4_0 y7)), .val (.int (f5_0 y7)), .val (.int (f4_0 y9)), .val (.int (f5_0 y9)), .unset, .unset, .unset, .unset, .unset, .unset, .unset, .unset] [(.int y8)])) rfl (by rw [hml]; rfl) (argsL := [(.int y8)]) (rest := []) (lenOf pd_21 rfl) rfl (by show 2 * 0 + _ ≤ _; exact Nat.le_of_eq rfl) (hb hby at_92) (fun _ _ => ⟨rfl, e11, (by decide : 0 + 0 ≤ _), (by decide : 0 + 0 ≤ _)⟩)
  dsimp only [Pt.U, Pt.locs, Pt.cells, Pt.slots] at X12 l12 y12 z12 st12 hQ12
  try dsimp only [Nat.reduceAdd] at y12 z12
  subst y12 z12
  obtain ⟨rfl, N12q, e12⟩ := hQ12
  have N12 : Fr n0 L12 := by rw [l12]; exact Fr.app N11 N12q
  refine .pre (fun _ kq => st12 _ kq) ?_
  show OwnEnds p e below _ (T12.setTop (mkF m 95 #[.val (.int p0), .val (.int p1), .val (.int p2), .val (.int p3), .val (.int y4), .val (.int y5), .val (.int y6), .val (.int y7), .val (.int y8), .val (.int y9), .val (.int (f4_0 y7)), .val (.int (f5_0 y7)), .val (.int (f4_0 y9)), .val (.int (f5_0 y9)), .unset, .unset, .unset, .unset, .unset, .unset, .unset, .unset] [(.int (f4_0 y8))]))
  refine .pre (fun _ kq => XS.istore X12.here hx rfl (hb hby at_95) rfl (l' := #[.val (.int p0), .val (.int p1), .val (.int p2), .val (.int p3), .val (.int y4), .val (.int y5), .val (.int y6), .val (.int y7), .val (.int y8), .val (.int y9), .val (.int (f4_0 y7)), .val (.int (f5_0 y7)), .val (.int (f4_0 y9)), .val (.int (f5_0 y9)), .val (.int (f4_0 y8)), .unset, .unset, .unset, .unset, .unset, .unset, .unset]) rfl kq) ?_
  show OwnEnds p e below _ (T12.setTop (mkF m 97 #[.val (.int p0), .val (.int p1), .val (.int p2), .val (.int p3), .val (.int y4), .val (.int y5), .val (.int y6), .val (.int y7), .val (.int y8), .val (.int y9), .val (.int (f4_0 y7)), .val (.int (f5_0 y7)), .val (.int (f4_0 y9)), .val (.int (f5_0 y9)), .val (.int (f4_0 y8)), .unset, .unset, .unset, .unset, .unset, .unset, .unset] []))
  refine .pre (fun _ kq => XS.iload X12.here hx rfl (hb hby at_97) rfl kq) ?_
  show OwnEnds p e below _ (T12.setTop (mkF m 99 #[.val (.int p0), .val (.int p1), .val (.int p2), .val (.int p3), .val (.int y4), .val (.int y5), .val (.int y6), .val (.int y7), .val (.int y8), .val (.int y9), .val (.int (f4_0 y7)), .val (.int (f5_0 y7)), .val (.int (f4_0 y9)), .val (.int (f5_0 y9)), .val (.int (f4_0 y8)), .unset, .unset, .unset, .unset, .unset, .unset, .unset] [(.int y8)]))
  obtain ⟨_, _, ⟨T13, L13, k13, n13⟩, -, X13, ⟨Lc13, hQ13, l13, y13, z13⟩, st13⟩ := Jvm.LawKit.callS X12 hx (y := (⟨"com/example/changeset/changeset/check/StateGraphEdgesEndPinLaw", "to", "(I)I"⟩ : MethodName)) hown (mvT hZ (hw _ (List.mem_of_getElem? (i := 15) rfl))) (mvT hZ (hw _ (List.mem_of_getElem? (i := 16) rfl))) (mvT hZ (hw _ (List.mem_of_getElem? (i := 2) rfl))) (mvT hZ (hw _ (List.mem_of_getElem? (i := 17) rfl))) (by decide) (backOf (W := 0) (rm5 l Z aZ hw [] y8 h0 n0 Z0) hZ (hw _ (List.mem_of_getElem? (i := 17) rfl)) (hw _ (List.mem_of_getElem? (i := 2) rfl)) (by decide) (by decide)) (g := (mkF m 99 #[.val (.int p0), .val (.int p1), .val (.int p2), .val (.int p3), .val (.int y4), .val (.int y5), .val (.int y6), .val (.int y7), .val (.int y8), .val (.int y9), .val (.int (f4_0 y7)), .val (.int (f5_0 y7)), .val (.int (f4_0 y9)), .val (.int (f5_0 y9)), .val (.int (f4_0 y8)), .unset, .unset, .unset, .unset, .unset, .unset, .unset] [(.int y8)])) rfl (by rw [hml]; rfl) (argsL := [(.int y8)]) (rest := []) (lenOf pd_21 rfl) rfl (by show 2 * 0 + _ ≤ _; exact Nat.le_of_eq rfl) (hb hby at_99) (fun _ _ => ⟨rfl, e12, (by decide : 0 + 0 ≤ _), (by decide : 0 + 0 ≤ _)⟩)
  dsimp only [Pt.U, Pt.locs, Pt.cells, Pt.slots] at X13 l13 y13 z13 st13 hQ13
  try dsimp only [Nat.reduceAdd] at y13 z13
  subst y13 z13
  obtain ⟨rfl, N13q, e13⟩ := hQ13
  have N13 : Fr n0 L13 := by rw [l13]; exact Fr.app N12 N13q
  refine .pre (fun _ kq => st13 _ kq) ?_
  show OwnEnds p e below _ (T13.setTop (mkF m 102 #[.val (.int p0), .val (.int p1), .val (.int p2), .val (.int p3), .val (.int y4), .val (.int y5), .val (.int y6), .val (.int y7), .val (.int y8), .val (.int y9), .val (.int (f4_0 y7)), .val (.int (f5_0 y7)), .val (.int (f4_0 y9)), .val (.int (f5_0 y9)), .val (.int (f4_0 y8)), .unset, .unset, .unset, .unset, .unset, .unset, .unset] [(.int (f5_0 y8))]))
  refine .pre (fun _ kq => XS.istore X13.here hx rfl (hb hby at_102) rfl (l' := #[.val (.int p0), .val (.int p1), .val (.int p2), .val (.int p3), .val (.int y4), .val (.int y5), .val (.int y6), .val (.int y7), .val (.int y8), .val (.int y9), .val (.int (f4_0 y7)), .val (.int (f5_0 y7)), .val (.int (f4_0 y9)), .val (.int (f5_0 y9)), .val (.int (f4_0 y8)), .val (.int (f5_0 y8)), .unset, .unset, .unset, .unset, .unset, .unset]) rfl kq) ?_
  show OwnEnds p e below _ (T13.setTop (mkF m 104 #[.val (.int p0), .val (.int p1), .val (.int p2), .val (.int p3), .val (.int y4), .val (.int y5), .val (.int y6), .val (.int y7), .val (.int y8), .val (.int y9), .val (.int (f4_0 y7)), .val (.int (f5_0 y7)), .val (.int (f4_0 y9)), .val (.int (f5_0 y9)), .val (.int (f4_0 y8)), .val (.int (f5_0 y8)), .unset, .unset, .unset, .unset, .unset, .unset] []))
  refine .pre (fun _ kq => XS.iloadN X13.here hx rfl (hb hby at_104) rfl kq) ?_
  show OwnEnds p e below _ (T13.setTop (mkF m 105 #[.val (.int p0), .val (.int p1), .val (.int p2), .val (.int p3), .val (.int y4), .val (.int y5), .val (.int y6), .val (.int y7), .val (.int y8), .val (.int y9), .val (.int (f4_0 y7)), .val (.int (f5_0 y7)), .val (.int (f4_0 y9)), .val (.int (f5_0 y9)), .val (.int (f4_0 y8)), .val (.int (f5_0 y8)), .unset, .unset, .unset, .unset, .unset, .unset] [(.int p3)]))
  refine .pre (fun _ kq => X13.ldcInt hx hown (mvT hZ (hw _ (List.mem_of_getElem? (i := 4) rfl))) (g := (mkF m 105 #[.val (.int p0), .val (.int p1), .val (.int p2), .val (.int p3), .val (.int y4), .val (.int y5), .val (.int y6), .val (.int y7), .val (.int y8), .val (.int y9), .val (.int (f4_0 y7)), .val (.int (f5_0 y7)), .val (.int (f4_0 y9)), .val (.int (f5_0 y9)), .val (.int (f4_0 y8)), .val (.int (f5_0 y8)), .unset, .unset, .unset, .unset, .unset, .unset] [(.int p3)])) rfl (hb hby at_105) _ kq) ?_
  show OwnEnds p e below _ (T13.setTop (mkF m 107 #[.val (.int p0), .val (.int p1), .val (.int p2), .val (.int p3), .val (.int y4), .val (.int y5), .val (.int y6), .val (.int y7), .val (.int y8), .val (.int y9), .val (.int (f4_0 y7)), .val (.int (f5_0 y7)), .val (.int (f4_0 y9)), .val (.int (f5_0 y9)), .val (.int (f4_0 y8)), .val (.int (f5_0 y8)), .unset, .unset, .unset, .unset, .unset, .unset] [(.int (2147483647 : Int32)), (.int p3)]))
  refine .pre (fun _ kq => XS.iand X13.here hx rfl (hb hby at_107) rfl kq) ?_
  show OwnEnds p e below _ (T13.setTop (mkF m 108 #[.val (.int p0), .val (.int p1), .val (.int p2), .val (.int p3), .val (.int y4), .val (.int y5), .val (.int y6), .val (.int y7), .val (.int y8), .val (.int y9), .val (.int (f4_0 y7)), .val (.int (f5_0 y7)), .val (.int (f4_0 y9)), .val (.int (f5_0 y9)), .val (.int (f4_0 y8)), .val (.int (f5_0 y8)), .unset, .unset, .unset, .unset, .unset, .unset] [(.int (p3 &&& (2147483647 : Int32)))]))
  refine .pre (fun _ kq => XS.iconst X13.here hx rfl (hb hby at_108) kq) ?_
  show OwnEnds p e below _ (T13.setTop (mkF m 109 #[.val (.int p0), .val (.int p1), .val (.int p2), .val (.int p3), .val (.int y4), .val (.int y5), .val (.int y6), .val (.int y7), .val (.int y8), .val (.int y9), .val (.int (f4_0 y7)), .val (.int (f5_0 y7)), .val (.int (f4_0 y9)), .val (.int (f5_0 y9)), .val (.int (f4_0 y8)), .val (.int (f5_0 y8)), .unset, .unset, .unset, .unset, .unset, .unset] [(.int (3 : Int32)), (.int (p3 &&& (2147483647 : Int32)))]))
  refine .pre (fun _ kq => iremM X13 hx rfl (hb hby at_109) rfl (by decide) kq) ?_
  show OwnEnds p e below _ (T13.setTop (mkF m 110 #[.val (.int p0), .val (.int p1), .val (.int p2), .val (.int p3), .val (.int y4), .val (.int y5), .val (.int y6), .val (.int y7), .val (.int y8), .val (.int y9), .val (.int (f4_0 y7)), .val (.int (f5_0 y7)), .val (.int (f4_0 y9)), .val (.int (f5_0 y9)), .val (.int (f4_0 y8)), .val (.int (f5_0 y8)), .unset, .unset, .unset, .unset, .unset, .unset] [(.int ((p3 &&& (2147483647 : Int32)) % (3 : Int32)))]))
  refine .pre (fun _ kq => XS.istore X13.here hx rfl (hb hby at_110) rfl (l' := #[.val (.int p0), .val (.int p1), .val (.int p2), .val (.int p3), .val (.int y4), .val (.int y5), .val (.int y6), .val (.int y7), .val (.int y8), .val (.int y9), .val (.int (f4_0 y7)), .val (.int (f5_0 y7)), .val (.int (f4_0 y9)), .val (.int (f5_0 y9)), .val (.int (f4_0 y8)), .val (.int (f5_0 y8)), .val (.int ((p3 &&& (2147483647 : Int32)) % (3 : Int32))), .unset, .unset, .unset, .unset, .unset]) rfl kq) ?_
  show OwnEnds p e below _ (T13.setTop (mkF m 112 #[.val (.int p0), .val (.int p1), .val (.int p2), .val (.int p3), .val (.int y4), .val (.int y5), .val (.int y6), .val (.int y7), .val (.int y8), .val (.int y9), .val (.int (f4_0 y7)), .val (.int (f5_0 y7)), .val (.int (f4_0 y9)), .val (.int (f5_0 y9)), .val (.int (f4_0 y8)), .val (.int (f5_0 y8)), .val (.int ((p3 &&& (2147483647 : Int32)) % (3 : Int32))), .unset, .unset, .unset, .unset, .unset] []))
  obtain ⟨y10, hy10⟩ : ∃ z, z = (f4_0 y7) := ⟨_, rfl⟩
  rw [← hy10]
  show OwnEnds p e below _ (T13.setTop (mkF m 112 #[.val (.int p0), .val (.int p1), .val (.int p2), .val (.int p3), .val (.int y4), .val (.int y5), .val (.int y6), .val (.int y7), .val (.int y8), .val (.int y9), .val (.int y10), .val (.int (f5_0 y7)), .val (.int (f4_0 y9)), .val (.int (f5_0 y9)), .val (.int (f4_0 y8)), .val (.int (f5_0 y8)), .val (.int ((p3 &&& (2147483647 : Int32)) % (3 : Int32))), .unset, .unset, .unset, .unset, .unset] []))
  obtain ⟨y11, hy11⟩ : ∃ z, z = (f5_0 y7) := ⟨_, rfl⟩
  rw [← hy11]
  show OwnEnds p e below _ (T13.setTop (mkF m 112 #[.val (.int p0), .val (.int p1), .val (.int p2), .val (.int p3), .val (.int y4), .val (.int y5), .val (.int y6), .val (.int y7), .val (.int y8), .val (.int y9), .val (.int y10), .val (.int y11), .val (.int (f4_0 y9)), .val (.int (f5_0 y9)), .val (.int (f4_0 y8)), .val (.int (f5_0 y8)), .val (.int ((p3 &&& (2147483647 : Int32)) % (3 : Int32))), .unset, .unset, .unset, .unset, .unset] []))
  obtain ⟨y12, hy12⟩ : ∃ z, z = (f4_0 y9) := ⟨_, rfl⟩
  rw [← hy12]
  show OwnEnds p e below _ (T13.setTop (mkF m 112 #[.val (.int p0), .val (.int p1), .val (.int p2), .val (.int p3), .val (.int y4), .val (.int y5), .val (.int y6), .val (.int y7), .val (.int y8), .val (.int y9), .val (.int y10), .val (.int y11), .val (.int y12), .val (.int (f5_0 y9)), .val (.int (f4_0 y8)), .val (.int (f5_0 y8)), .val (.int ((p3 &&& (2147483647 : Int32)) % (3 : Int32))), .unset, .unset, .unset, .unset, .unset] []))
  obtain ⟨y13, hy13⟩ : ∃ z, z = (f5_0 y9) := ⟨_, rfl⟩
  rw [← hy13]
  show OwnEnds p e below _ (T13.setTop (mkF m 112 #[.val (.int p0), .val (.int p1), .val (.int p2), .val (.int p3), .val (.int y4), .val (.int y5), .val (.int y6), .val (.int y7), .val (.int y8), .val (.int y9), .val (.int y10), .val (.int y11), .val (.int y12), .val (.int y13), .val (.int (f4_0 y8)), .val (.int (f5_0 y8)), .val (.int ((p3 &&& (2147483647 : Int32)) % (3 : Int32))), .unset, .unset, .unset, .unset, .unset] []))
  obtain ⟨y14, hy14⟩ : ∃ z, z = (f4_0 y8) := ⟨_, rfl⟩
  rw [← hy14]
  show OwnEnds p e below _ (T13.setTop (mkF m 112 #[.val (.int p0), .val (.int p1), .val (.int p2), .val (.int p3), .val (.int y4), .val (.int y5), .val (.int y6), .val (.int y7), .val (.int y8), .val (.int y9), .val (.int y10), .val (.int y11), .val (.int y12), .val (.int y13), .val (.int y14), .val (.int (f5_0 y8)), .val (.int ((p3 &&& (2147483647 : Int32)) % (3 : Int32))), .unset, .unset, .unset, .unset, .unset] []))
  obtain ⟨y15, hy15⟩ : ∃ z, z = (f5_0 y8) := ⟨_, rfl⟩
  rw [← hy15]
  show OwnEnds p e below _ (T13.setTop (mkF m 112 #[.val (.int p0), .val (.int p1), .val (.int p2), .val (.int p3), .val (.int y4), .val (.int y5), .val (.int y6), .val (.int y7), .val (.int y8), .val (.int y9), .val (.int y10), .val (.int y11), .val (.int y12), .val (.int y13), .val (.int y14), .val (.int y15), .val (.int ((p3 &&& (2147483647 : Int32)) % (3 : Int32))), .unset, .unset, .unset, .unset, .unset] []))
  obtain ⟨y16, hy16⟩ : ∃ z, z = ((p3 &&& (2147483647 : Int32)) % (3 : Int32)) := ⟨_, rfl⟩
  rw [← hy16]
  obtain ⟨⟨bf0, bf1, bf2, bf3⟩, by11, by13, by15, bn⟩ : (0 ≤ (y10).toInt ∧ (y10).toInt ≤ (y12).toInt ∧ (y12).toInt ≤ (y14).toInt ∧ (y14).toInt ≤ 2) ∧ (0 ≤ (y11).toInt ∧ (y11).toInt ≤ 2) ∧ (0 ≤ (y13).toInt ∧ (y13).toInt ≤ 2) ∧ (0 ≤ (y15).toInt ∧ (y15).toInt ≤ 2) ∧ (0 ≤ (y16).toInt ∧ (y16).toInt ≤ 2) := by
    subst hy16 hy15 hy14 hy13 hy12 hy11 hy10 hy9 hy8 hy7 hy6 hy5 hy4
    exact own_bd p0 p1 p2 p3
  have i0 : -1 ≤ own_g0.1.toInt ∧ own_g0.1.toInt ≤ y10.toInt ∧ 0 ≤ own_g0.2.1.toInt ∧ own_g0.2.1.toInt ≤ 0 := ⟨by decide, by have : own_g0.1.toInt = -1 := rfl; omega, by decide, by decide⟩
  have i1 := own_inv (t := y11) (f' := y12) i0 (by omega) (by omega) (by decide)
  have i2 := own_inv (t := y13) (f' := y14) i1 (by omega) (by omega) (by decide)
  show OwnEnds p e below _ (T13.setTop (mkF m 112 #[.val (.int p0), .val (.int p1), .val (.int p2), .val (.int p3), .val (.int y4), .val (.int y5), .val (.int y6), .val (.int y7), .val (.int y8), .val (.int y9), .val (.int y10), .val (.int y11), .val (.int y12), .val (.int y13), .val (.int y14), .val (.int y15), .val (.int y16), .unset, .unset, .unset, .unset, .unset] []))
  obtain ⟨T14, h14, X14, e14, E14, A14, D14, U14, st14⟩ := newO X13 hx hZ hown (hw _ (List.mem_of_getElem? (i := 18) rfl)) (hw _ (List.mem_of_getElem? (i := 19) rfl)) (hw _ (List.mem_of_getElem? (i := 20) rfl)) e13 (g := (mkF m 112 #[.val (.int p0), .val (.int p1), .val (.int p2), .val (.int p3), .val (.int y4), .val (.int y5), .val (.int y6), .val (.int y7), .val (.int y8), .val (.int y9), .val (.int y10), .val (.int y11), .val (.int y12), .val (.int y13), .val (.int y14), .val (.int y15), .val (.int y16), .unset, .unset, .unset, .unset, .unset] [])) rfl (hb hby at_112) (by decide) (by decide)
  obtain ⟨b14, g14⟩ : ∃ z, z = h0.size := ⟨_, rfl⟩
  rw [← g14] at A14 D14 U14 st14
  have g_b14 : n0 ≤ b14 := Nat.le_trans Z0 (Nat.le_of_eq g14.symm)
  have F14_found : Fld Z h14 b14 "com/example/changeset/changeset/check/StateGraph" "found" "Ljava/util/Map;" .null := D14 (Or.inr (hw _ (List.mem_of_getElem? (i := 65) rfl))) (ty := (.object "java/util/Map")) (by decide)
  have F14_states : Fld Z h14 b14 "com/example/changeset/changeset/check/StateGraph" "states" "Ljava/util/List;" .null := D14 (Or.inr (hw _ (List.mem_of_getElem? (i := 69) rfl))) (ty := (.object "java/util/List")) (by decide)
  have F14_predecessors : Fld Z h14 b14 "com/example/changeset/changeset/check/StateGraph" "predecessors" "[I" .null := D14 (Or.inl (hw _ (List.mem_of_getElem? (i := 72) rfl))) (ty := (.array .int)) (by decide)
  have F14_reachedBy : Fld Z h14 b14 "com/example/changeset/changeset/check/StateGraph" "reachedBy" "[I" .null := D14 (Or.inl (hw _ (List.mem_of_getElem? (i := 74) rfl))) (ty := (.array .int)) (by decide)
  have F14_lastWithEdges : Fld Z h14 b14 "com/example/changeset/changeset/check/StateGraph" "lastWithEdges" "I" (.int (0 : Int32)) := D14 (Or.inl (hw _ (List.mem_of_getElem? (i := 76) rfl))) (ty := .int) (by decide)
  have F14_actions : Fld Z h14 b14 "com/example/changeset/changeset/check/StateGraph" "actions" "Ljava/util/List;" .null := D14 (Or.inr (hw _ (List.mem_of_getElem? (i := 78) rfl))) (ty := (.object "java/util/List")) (by decide)
  have F14_keepsEdges : Fld Z h14 b14 "com/example/changeset/changeset/check/StateGraph" "keepsEdges" "Z" (.int (0 : Int32)) := D14 (Or.inr (hw _ (List.mem_of_getElem? (i := 80) rfl))) (ty := .boolean) (by decide)
  have F14_firstEdges : Fld Z h14 b14 "com/example/changeset/changeset/check/StateGraph" "firstEdges" "[I" .null := D14 (Or.inl (hw _ (List.mem_of_getElem? (i := 82) rfl))) (ty := (.array .int)) (by decide)
  have F14_lastEdgeFrom : Fld Z h14 b14 "com/example/changeset/changeset/check/StateGraph" "lastEdgeFrom" "[I" .null := D14 (Or.inl (hw _ (List.mem_of_getElem? (i := 84) rfl))) (ty := (.array .int)) (by decide)
  have F14_edgeTargets : Fld Z h14 b14 "com/example/changeset/changeset/check/StateGraph" "edgeTargets" "[I" .null := D14 (Or.inl (hw _ (List.mem_of_getElem? (i := 86) rfl))) (ty := (.array .int)) (by decide)
  have F14_edgeActions : Fld Z h14 b14 "com/example/changeset/changeset/check/StateGraph" "edgeActions" "[I" .null := D14 (Or.inl (hw _ (List.mem_of_getElem? (i := 88) rfl))) (ty := (.array .int)) (by decide)
  have F14_initialStates : Fld Z h14 b14 "com/example/changeset/changeset/check/StateGraph" "initialStates" "I" (.int (0 : Int32)) := D14 (Or.inl (hw _ (List.mem_of_getElem? (i := 173) rfl))) (ty := .int) (by decide)
  have F14_edges : Fld Z h14 b14 "com/example/changeset/changeset/check/StateGraph" "edges" "I" (.int (0 : Int32)) := D14 (Or.inl (hw _ (List.mem_of_getElem? (i := 184) rfl))) (ty := .int) (by decide)
  refine .pre (fun _ kq => st14 _ kq) ?_
  show OwnEnds p e below _ (T14.setTop (mkF m 115 #[.val (.int p0), .val (.int p1), .val (.int p2), .val (.int p3), .val (.int y4), .val (.int y5), .val (.int y6), .val (.int y7), .val (.int y8), .val (.int y9), .val (.int y10), .val (.int y11), .val (.int y12), .val (.int y13), .val (.int y14), .val (.int y15), .val (.int y16), .unset, .unset, .unset, .unset, .unset] [(.ref b14)]))
  refine .pre (fun _ kq => XS.dup X14.here hx rfl (hb hby at_115) rfl rfl kq) ?_
  show OwnEnds p e below _ (T14.setTop (mkF m 116 #[.val (.int p0), .val (.int p1), .val (.int p2), .val (.int p3), .val (.int y4), .val (.int y5), .val (.int y6), .val (.int y7), .val (.int y8), .val (.int y9), .val (.int y10), .val (.int y11), .val (.int y12), .val (.int y13), .val (.int y14), .val (.int y15), .val (.int y16), .unset, .unset, .unset, .unset, .unset] [(.ref b14), (.ref b14)]))
  obtain ⟨T15, h15, X15, e15, E15, A15, D15, U15, st15⟩ := newO X14 hx hZ hown (hw _ (List.mem_of_getElem? (i := 21) rfl)) (hw _ (List.mem_of_getElem? (i := 22) rfl)) (hw _ (List.mem_of_getElem? (i := 23) rfl)) e14 (g := (mkF m 116 #[.val (.int p0), .val (.int p1), .val (.int p2), .val (.int p3), .val (.int y4), .val (.int y5), .val (.int y6), .val (.int y7), .val (.int y8), .val (.int y9), .val (.int y10), .val (.int y11), .val (.int y12), .val (.int y13), .val (.int y14), .val (.int y15), .val (.int y16), .unset, .unset, .unset, .unset, .unset] [(.ref b14), (.ref b14)])) rfl (hb hby at_116) (by decide) (by decide)
  obtain ⟨b15, g15⟩ : ∃ z, z = h14.size := ⟨_, rfl⟩
  rw [← g15] at A15 D15 U15 st15
  have g_b15 : n0 ≤ b15 := Nat.le_trans (Nat.le_trans Z0 E14.1) (Nat.le_of_eq g15.symm)
  have F15_modCount : Fld Z h15 b15 "java/util/AbstractList" "modCount" "I" (.int (0 : Int32)) := D15 (Or.inl (hw _ (List.mem_of_getElem? (i := 43) rfl))) (ty := .int) (by decide)
  have F15_elementData : Fld Z h15 b15 "java/util/ArrayList" "elementData" "[Ljava/lang/Object;" .null := D15 (Or.inl (hw _ (List.mem_of_getElem? (i := 46) rfl))) (ty := (.array (.object "java/lang/Object"))) (by decide)
  have F15_size : Fld Z h15 b15 "java/util/ArrayList" "size" "I" (.int (0 : Int32)) := D15 (Or.inl (hw _ (List.mem_of_getElem? (i := 137) rfl))) (ty := .int) (by decide)
  refine .pre (fun _ kq => st15 _ kq) ?_
  show OwnEnds p e below _ (T15.setTop (mkF m 119 #[.val (.int p0), .val (.int p1), .val (.int p2), .val (.int p3), .val (.int y4), .val (.int y5), .val (.int y6), .val (.int y7), .val (.int y8), .val (.int y9), .val (.int y10), .val (.int y11), .val (.int y12), .val (.int y13), .val (.int y14), .val (.int y15), .val (.int y16), .unset, .unset, .unset, .unset, .unset] [(.ref b15), (.ref b14), (.ref b14)]))
  refine .pre (fun _ kq => XS.dup X15.here hx rfl (hb hby at_119) rfl rfl kq) ?_
  show OwnEnds p e below _ (T15.setTop (mkF m 120 #[.val (.int p0), .val (.int p1), .val (.int p2), .val (.int p3), .val (.int y4), .val (.int y5), .val (.int y6), .val (.int y7), .val (.int y8), .val (.int y9), .val (.int y10), .val (.int y11), .val (.int y12), .val (.int y13), .val (.int y14), .val (.int y15), .val (.int y16), .unset, .unset, .unset, .unset, .unset] [(.ref b15), (.ref b15), (.ref b14), (.ref b14)]))
  obtain ⟨_, _, ⟨T16, L16, k16, n16⟩, -, X16, ⟨Lc16, hQ16, l16, y16, z16⟩, st16⟩ := X15.specialBack hx (y := (⟨"java/util/ArrayList", "<init>", "()V"⟩ : MethodName)) rfl hown (mvT hZ (hw _ (List.mem_of_getElem? (i := 24) rfl))) (mvT hZ (hw _ (List.mem_of_getElem? (i := 25) rfl))) (mvT hZ (hw _ (List.mem_of_getElem? (i := 26) rfl))) (by decide) (backOf (W := 3) (rm6 l Z aZ hw [] b15 xD (.int (0 : Int32)) .null (.int (0 : Int32)) h15 n0 (Nat.le_trans (Nat.le_trans Z0 E14.1) E15.1) (Sta.ext E15 (Sta.ext E14 SD)) g_b15 A15 F15_modCount F15_elementData F15_size) hZ (hw _ (List.mem_of_getElem? (i := 26) rfl)) (hw _ (List.mem_of_getElem? (i := 23) rfl)) (by decide) (by decide)) (g := (mkF m 120 #[.val (.int p0), .val (.int p1), .val (.int p2), .val (.int p3), .val (.int y4), .val (.int y5), .val (.int y6), .val (.int y7), .val (.int y8), .val (.int y9), .val (.int y10), .val (.int y11), .val (.int y12), .val (.int y13), .val (.int y14), .val (.int y15), .val (.int y16), .unset, .unset, .unset, .unset, .unset] [(.ref b15), (.ref b15), (.ref b14), (.ref b14)])) rfl (by rw [hml]; rfl) (Steps.refl _) (a := b15) (argsL := []) (rest := [(.ref b15), (.ref b14), (.ref b14)]) (lenOf pd_2 rfl) rfl (by show 2 * 0 + _ ≤ _; exact Nat.le_of_eq rfl) (hb hby at_120) (fun _ _ => ⟨rfl, e15, (by decide : 2 + 0 ≤ _), (by decide : 16 + 0 ≤ _)⟩)
  dsimp only [Pt.U, Pt.locs, Pt.cells, Pt.slots] at X16 l16 y16 z16 st16 hQ16
  try dsimp only [Nat.reduceAdd] at y16 z16
  subst y16 z16
  obtain ⟨rfl, N16q, K16, Ea16, Fa16_0, Fa16_1, Fa16_2⟩ := hQ16
  have N16 : Fr n0 L16 := by rw [l16]; exact Fr.app N13 N16q
  refine .pre (fun _ kq => st16.trans kq) ?_
  show OwnEnds p e below _ (T16.setTop (mkF m 123 #[.val (.int p0), .val (.int p1), .val (.int p2), .val (.int p3), .val (.int y4), .val (.int y5), .val (.int y6), .val (.int y7), .val (.int y8), .val (.int y9), .val (.int y10), .val (.int y11), .val (.int y12), .val (.int y13), .val (.int y14), .val (.int y15), .val (.int y16), .unset, .unset, .unset, .unset, .unset] [(.ref b15), (.ref b14), (.ref b14)]))
  refine .pre (fun _ kq => XS.iconst X16.here hx rfl (hb hby at_123) kq) ?_
  show OwnEnds p e below _ (T16.setTop (mkF m 124 #[.val (.int p0), .val (.int p1), .val (.int p2), .val (.int p3), .val (.int y4), .val (.int y5), .val (.int y6), .val (.int y7), .val (.int y8), .val (.int y9), .val (.int y10), .val (.int y11), .val (.int y12), .val (.int y13), .val (.int y14), .val (.int y15), .val (.int y16), .unset, .unset, .unset, .unset, .unset] [(.int (1 : Int32)), (.ref b15), (.ref b14), (.ref b14)]))
  obtain ⟨_, _, ⟨T17, L17, k17, n17⟩, -, X17, ⟨Lc17, hQ17, l17, y17, z17⟩, st17⟩ := X16.specialBack hx (y := (⟨"com/example/changeset/changeset/check/StateGraph", "<init>", "(Ljava/util/List;Z)V"⟩ : MethodName)) rfl hown (mvT hZ (hw _ (List.mem_of_getElem? (i := 47) rfl))) (mvT hZ (hw _ (List.mem_of_getElem? (i := 48) rfl))) (mvT hZ (hw _ (List.mem_of_getElem? (i := 49) rfl))) (by decide) (backOf (W := 1) (rm10 l Z aZ hw [] b14 b15 xD T16.heap n0 (Nat.le_trans (Nat.le_trans (Nat.le_trans Z0 E14.1) E15.1) K16.1) (own_staK1 (Sta.ext E15 (Sta.ext E14 SD)) K16 A15) (((RX.ext E14).ext E15).keep K16 (own_nin1 (Nat.ne_of_lt (Nat.lt_of_lt_of_le (RX.ext E14).lt (Nat.le_of_eq g15.symm))))) g_b14 ((A14.ext E15).keep K16) ((F14_found.ext E15).keep K16 (own_nin1 (Nat.ne_of_lt (Nat.lt_of_lt_of_le A14.lt (Nat.le_of_eq g15.symm))))) ((F14_states.ext E15).keep K16 (own_nin1 (Nat.ne_of_lt (Nat.lt_of_lt_of_le A14.lt (Nat.le_of_eq g15.symm))))) ((F14_predecessors.ext E15).keep K16 (own_nin1 (Nat.ne_of_lt (Nat.lt_of_lt_of_le A14.lt (Nat.le_of_eq g15.symm))))) ((F14_reachedBy.ext E15).keep K16 (own_nin1 (Nat.ne_of_lt (Nat.lt_of_lt_of_le A14.lt (Nat.le_of_eq g15.symm))))) ((F14_lastWithEdges.ext E15).keep K16 (own_nin1 (Nat.ne_of_lt (Nat.lt_of_lt_of_le A14.lt (Nat.le_of_eq g15.symm))))) ((F14_actions.ext E15).keep K16 (own_nin1 (Nat.ne_of_lt (Nat.lt_of_lt_of_le A14.lt (Nat.le_of_eq g15.symm))))) ((F14_keepsEdges.ext E15).keep K16 (own_nin1 (Nat.ne_of_lt (Nat.lt_of_lt_of_le A14.lt (Nat.le_of_eq g15.symm))))) ((F14_firstEdges.ext E15).keep K16 (own_nin1 (Nat.ne_of_lt (Nat.lt_of_lt_of_le A14.lt (Nat.le_of_eq g15.symm))))) ((F14_lastEdgeFrom.ext E15).keep K16 (own_nin1 (Nat.ne_of_lt (Nat.lt_of_lt_of_le A14.lt (Nat.le_of_eq g15.symm))))) ((F14_edgeTargets.ext E15).keep K16 (own_nin1 (Nat.ne_of_lt (Nat.lt_of_lt_of_le A14.lt (Nat.le_of_eq g15.symm))))) ((F14_edgeActions.ext E15).keep K16 (own_nin1 (Nat.ne_of_lt (Nat.lt_of_lt_of_le A14.lt (Nat.le_of_eq g15.symm))))) ((F14_initialStates.ext E15).keep K16 (own_nin1 (Nat.ne_of_lt (Nat.lt_of_lt_of_le A14.lt (Nat.le_of_eq g15.symm))))) ((F14_edges.ext E15).keep K16 (own_nin1 (Nat.ne_of_lt (Nat.lt_of_lt_of_le A14.lt (Nat.le_of_eq g15.symm))))) (Ne.symm (Nat.ne_of_lt (Nat.lt_of_lt_of_le xlt g_b14)))) hZ (hw _ (List.mem_of_getElem? (i := 49) rfl)) (hw _ (List.mem_of_getElem? (i := 20) rfl)) (by decide) (by decide)) (g := (mkF m 124 #[.val (.int p0), .val (.int p1), .val (.int p2), .val (.int p3), .val (.int y4), .val (.int y5), .val (.int y6), .val (.int y7), .val (.int y8), .val (.int y9), .val (.int y10), .val (.int y11), .val (.int y12), .val (.int y13), .val (.int y14), .val (.int y15), .val (.int y16), .unset, .unset, .unset, .unset, .unset] [(.int (1 : Int32)), (.ref b15), (.ref b14), (.ref b14)])) rfl (by rw [hml]; rfl) (Steps.refl _) (a := b14) (argsL := [(.ref b15), (.int (1 : Int32))]) (rest := [(.ref b14)]) (lenOf pd_22 rfl) rfl (by show 2 * 0 + _ ≤ _; exact Nat.le_of_eq rfl) (hb hby at_124) (fun _ _ => ⟨rfl, rfl, (by decide : 2 + 8 ≤ _), (by decide : 16 + 6159 ≤ _)⟩)
  dsimp only [Pt.U, Pt.locs, Pt.cells, Pt.slots] at X17 l17 y17 z17 st17 hQ17
  try dsimp only [Nat.reduceAdd] at y17 z17
  subst y17 z17
  obtain ⟨rfl, N17q, K17, aL17, aP17, aR17, aF17, aE17, aT17, aA17, HG17, HL17, D17, GN17⟩ := hQ17
  have N17 : Fr n0 L17 := by rw [l17]; exact Fr.app N16 N17q
  refine .pre (fun _ kq => st17.trans kq) ?_
  obtain ⟨EG17, G17_0, G17_1, G17_2, G17_3, G17_4, G17_5, G17_6, G17_7, G17_8, G17_9, G17_10, ⟨fP17, AP17⟩, ⟨fR17, AR17⟩, AF17, AE17, ⟨fT17, AT17⟩, ⟨fA17, AA17⟩⟩ := id HG17
  obtain ⟨EL17, ⟨mc17, Ly17_1⟩, Ly17_2, Ly17_3, Ly17_4⟩ := id HL17
  have g_aL17 : n0 ≤ aL17 := GN17 _ (List.mem_of_getElem? (i := 0) rfl)
  have g_aP17 : n0 ≤ aP17 := GN17 _ (List.mem_of_getElem? (i := 1) rfl)
  have g_aR17 : n0 ≤ aR17 := GN17 _ (List.mem_of_getElem? (i := 2) rfl)
  have g_aF17 : n0 ≤ aF17 := GN17 _ (List.mem_of_getElem? (i := 3) rfl)
  have g_aE17 : n0 ≤ aE17 := GN17 _ (List.mem_of_getElem? (i := 4) rfl)
  have g_aT17 : n0 ≤ aT17 := GN17 _ (List.mem_of_getElem? (i := 5) rfl)
  have g_aA17 : n0 ≤ aA17 := GN17 _ (List.mem_of_getElem? (i := 6) rfl)
  show OwnEnds p e below _ (T17.setTop (mkF m 127 #[.val (.int p0), .val (.int p1), .val (.int p2), .val (.int p3), .val (.int y4), .val (.int y5), .val (.int y6), .val (.int y7), .val (.int y8), .val (.int y9), .val (.int y10), .val (.int y11), .val (.int y12), .val (.int y13), .val (.int y14), .val (.int y15), .val (.int y16), .unset, .unset, .unset, .unset, .unset] [(.ref b14)]))
  refine .pre (fun _ kq => XS.astore X17.here hx rfl (hb hby at_127) rfl rfl (l' := #[.val (.int p0), .val (.int p1), .val (.int p2), .val (.int p3), .val (.int y4), .val (.int y5), .val (.int y6), .val (.int y7), .val (.int y8), .val (.int y9), .val (.int y10), .val (.int y11), .val (.int y12), .val (.int y13), .val (.int y14), .val (.int y15), .val (.int y16), .val (.ref b14), .unset, .unset, .unset, .unset]) rfl kq) ?_
  show OwnEnds p e below _ (T17.setTop (mkF m 129 #[.val (.int p0), .val (.int p1), .val (.int p2), .val (.int p3), .val (.int y4), .val (.int y5), .val (.int y6), .val (.int y7), .val (.int y8), .val (.int y9), .val (.int y10), .val (.int y11), .val (.int y12), .val (.int y13), .val (.int y14), .val (.int y15), .val (.int y16), .val (.ref b14), .unset, .unset, .unset, .unset] []))
  obtain ⟨T18, h18, X18, e18, E18, A18, D18, U18, st18⟩ := newO X17 hx hZ hown (hw _ (List.mem_of_getElem? (i := 89) rfl)) (hw _ (List.mem_of_getElem? (i := 90) rfl)) (hw _ (List.mem_of_getElem? (i := 91) rfl)) rfl (g := (mkF m 129 #[.val (.int p0), .val (.int p1), .val (.int p2), .val (.int p3), .val (.int y4), .val (.int y5), .val (.int y6), .val (.int y7), .val (.int y8), .val (.int y9), .val (.int y10), .val (.int y11), .val (.int y12), .val (.int y13), .val (.int y14), .val (.int y15), .val (.int y16), .val (.ref b14), .unset, .unset, .unset, .unset] [])) rfl (hb hby at_129) (by decide) (by decide)
  obtain ⟨b18, g18⟩ : ∃ z, z = T17.heap.size := ⟨_, rfl⟩
  rw [← g18] at A18 D18 U18 st18
  have g_b18 : n0 ≤ b18 := Nat.le_trans (Nat.le_trans (Nat.le_trans (Nat.le_trans (Nat.le_trans Z0 E14.1) E15.1) K16.1) K17.1) (Nat.le_of_eq g18.symm)
  have F18_values : Fld Z h18 b18 "com/example/changeset/changeset/check/State" "values" "[Lcom/example/changeset/changeset/value/Value;" .null := D18 (Or.inr (hw _ (List.mem_of_getElem? (i := 97) rfl))) (ty := (.array (.object "com/example/changeset/changeset/value/Value"))) (by decide)
  have F18_hash : Fld Z h18 b18 "com/example/changeset/changeset/check/State" "hash" "I" (.int (0 : Int32)) := D18 (Or.inr (hw _ (List.mem_of_getElem? (i := 103) rfl))) (ty := .int) (by decide)
  refine .pre (fun _ kq => st18 _ kq) ?_
  show OwnEnds p e below _ (T18.setTop (mkF m 132 #[.val (.int p0), .val (.int p1), .val (.int p2), .val (.int p3), .val (.int y4), .val (.int y5), .val (.int y6), .val (.int y7), .val (.int y8), .val (.int y9), .val (.int y10), .val (.int y11), .val (.int y12), .val (.int y13), .val (.int y14), .val (.int y15), .val (.int y16), .val (.ref b14), .unset, .unset, .unset, .unset] [(.ref b18)]))
  refine .pre (fun _ kq => XS.dup X18.here hx rfl (hb hby at_132) rfl rfl kq) ?_
  show OwnEnds p e below _ (T18.setTop (mkF m 133 #[.val (.int p0), .val (.int p1), .val (.int p2), .val (.int p3), .val (.int y4), .val (.int y5), .val (.int y6), .val (.int y7), .val (.int y8), .val (.int y9), .val (.int y10), .val (.int y11), .val (.int y12), .val (.int y13), .val (.int y14), .val (.int y15), .val (.int y16), .val (.ref b14), .unset, .unset, .unset, .unset] [(.ref b18), (.ref b18)]))
  refine .pre (fun _ kq => XS.aconstNull X18.here hx rfl (hb hby at_133) kq) ?_
  show OwnEnds p e below _ (T18.setTop (mkF m 134 #[.val (.int p0), .val (.int p1), .val (.int p2), .val (.int p3), .val (.int y4), .val (.int y5), .val (.int y6), .val (.int y7), .val (.int y8), .val (.int y9), .val (.int y10), .val (.int y11), .val (.int y12), .val (.int y13), .val (.int y14), .val (.int y15), .val (.int y16), .val (.ref b14), .unset, .unset, .unset, .unset] [.null, (.ref b18), (.ref b18)]))
  have rq1_0 := (Sta.ext E18 (own_staK1 (own_staK1 (Sta.ext E15 (Sta.ext E14 SD)) K16 A15) K17 ((A14.ext E15).keep K16)))
  have rq1_19 := ((Fa16_0.keep K17 (own_nin1 (Ne.symm (Nat.ne_of_lt (Nat.lt_of_lt_of_le A14.lt (Nat.le_of_eq g15.symm)))))).ext E18)
  have rq1_20 := ((Fa16_1.keep K17 (own_nin1 (Ne.symm (Nat.ne_of_lt (Nat.lt_of_lt_of_le A14.lt (Nat.le_of_eq g15.symm)))))).ext E18)
  have rq1_21 := ((Fa16_2.keep K17 (own_nin1 (Ne.symm (Nat.ne_of_lt (Nat.lt_of_lt_of_le A14.lt (Nat.le_of_eq g15.symm)))))).ext E18)
  obtain ⟨_, _, ⟨T19, L19, k19, n19⟩, -, X19, ⟨Lc19, hQ19, l19, y19, z19⟩, st19⟩ := X18.specialBack hx (y := (⟨"com/example/changeset/changeset/check/State", "<init>", "([Lcom/example/changeset/changeset/value/Value;)V"⟩ : MethodName)) rfl hown (mvT hZ (hw _ (List.mem_of_getElem? (i := 92) rfl))) (mvT hZ (hw _ (List.mem_of_getElem? (i := 93) rfl))) (mvT hZ (hw _ (List.mem_of_getElem? (i := 94) rfl))) (by decide) (backOf (W := 1) (rm13 l Z aZ hw [] b18 .null (.int (0 : Int32)) h18 n0 (Nat.le_trans (Nat.le_trans (Nat.le_trans (Nat.le_trans (Nat.le_trans Z0 E14.1) E15.1) K16.1) K17.1) E18.1) g_b18 A18 F18_values F18_hash) hZ (hw _ (List.mem_of_getElem? (i := 94) rfl)) (hw _ (List.mem_of_getElem? (i := 91) rfl)) (by decide) (by decide)) (g := (mkF m 134 #[.val (.int p0), .val (.int p1), .val (.int p2), .val (.int p3), .val (.int y4), .val (.int y5), .val (.int y6), .val (.int y7), .val (.int y8), .val (.int y9), .val (.int y10), .val (.int y11), .val (.int y12), .val (.int y13), .val (.int y14), .val (.int y15), .val (.int y16), .val (.ref b14), .unset, .unset, .unset, .unset] [.null, (.ref b18), (.ref b18)])) rfl (by rw [hml]; rfl) (Steps.refl _) (a := b18) (argsL := [.null]) (rest := [(.ref b18)]) (lenOf pd_23 rfl) rfl (by show 2 * 0 + _ ≤ _; exact Nat.le_of_eq rfl) (hb hby at_134) (fun _ _ => ⟨rfl, e18, (by decide : 11 + 0 ≤ _), (by decide : 6177 + 0 ≤ _)⟩)
  dsimp only [Pt.U, Pt.locs, Pt.cells, Pt.slots] at X19 l19 y19 z19 st19 hQ19
  try dsimp only [Nat.reduceAdd] at y19 z19
  subst y19 z19
  obtain ⟨rfl, N19q, K19, Ea19, Fa19_0, Fa19_1⟩ := hQ19
  have N19 : Fr n0 L19 := by rw [l19]; exact Fr.app N17 N19q
  refine .pre (fun _ kq => st19.trans kq) ?_
  show OwnEnds p e below _ (T19.setTop (mkF m 137 #[.val (.int p0), .val (.int p1), .val (.int p2), .val (.int p3), .val (.int y4), .val (.int y5), .val (.int y6), .val (.int y7), .val (.int y8), .val (.int y9), .val (.int y10), .val (.int y11), .val (.int y12), .val (.int y13), .val (.int y14), .val (.int y15), .val (.int y16), .val (.ref b14), .unset, .unset, .unset, .unset] [(.ref b18)]))
  refine .pre (fun _ kq => XS.astore X19.here hx rfl (hb hby at_137) rfl rfl (l' := #[.val (.int p0), .val (.int p1), .val (.int p2), .val (.int p3), .val (.int y4), .val (.int y5), .val (.int y6), .val (.int y7), .val (.int y8), .val (.int y9), .val (.int y10), .val (.int y11), .val (.int y12), .val (.int y13), .val (.int y14), .val (.int y15), .val (.int y16), .val (.ref b14), .val (.ref b18), .unset, .unset, .unset]) rfl kq) ?_
  show OwnEnds p e below _ (T19.setTop (mkF m 139 #[.val (.int p0), .val (.int p1), .val (.int p2), .val (.int p3), .val (.int y4), .val (.int y5), .val (.int y6), .val (.int y7), .val (.int y8), .val (.int y9), .val (.int y10), .val (.int y11), .val (.int y12), .val (.int y13), .val (.int y14), .val (.int y15), .val (.int y16), .val (.ref b14), .val (.ref b18), .unset, .unset, .unset] []))
  refine .pre (fun _ kq => XS.iconst X19.here hx rfl (hb hby at_139) kq) ?_
  show OwnEnds p e below _ (T19.setTop (mkF m 140 #[.val (.int p0), .val (.int p1), .val (.int p2), .val (.int p3), .val (.int y4), .val (.int y5), .val (.int y6), .val (.int y7), .val (.int y8), .val (.int y9), .val (.int y10), .val (.int y11), .val (.int y12), .val (.int y13), .val (.int y14), .val (.int y15), .val (.int y16), .val (.ref b14), .val (.ref b18), .unset, .unset, .unset] [(.int (3 : Int32))]))
  obtain ⟨T20, h20, kk20, X20, e20, E20, A20, O20, st20⟩ := newR X19 hx hZ hown (hw _ (List.mem_of_getElem? (i := 104) rfl)) (hw _ (List.mem_of_getElem? (i := 105) rfl)) rfl (g := (mkF m 140 #[.val (.int p0), .val (.int p1), .val (.int p2), .val (.int p3), .val (.int y4), .val (.int y5), .val (.int y6), .val (.int y7), .val (.int y8), .val (.int y9), .val (.int y10), .val (.int y11), .val (.int y12), .val (.int y13), .val (.int y14), .val (.int y15), .val (.int y16), .val (.ref b14), .val (.ref b18), .unset, .unset, .unset] [(.int (3 : Int32))])) rfl (hb hby at_140) rfl (by decide) (cap := 3) (by decide) (by decide) (by decide) (by decide)
  obtain ⟨b20, g20⟩ : ∃ z, z = T19.heap.size := ⟨_, rfl⟩
  rw [← g20] at A20 st20
  have V_b20 : OwnR Z h20 b20 "com/example/changeset/changeset/check/FoundState" (3 : Int32) := OwnR.new A20 O20 (by decide)
  have g_b20 : n0 ≤ b20 := Nat.le_trans (Nat.le_trans (Nat.le_trans (Nat.le_trans (Nat.le_trans (Nat.le_trans (Nat.le_trans Z0 E14.1) E15.1) K16.1) K17.1) E18.1) K19.1) (Nat.le_of_eq g20.symm)
  have VV_b20 : Arv Z h20 b20 kk20 (.object "com/example/changeset/changeset/check/FoundState") (3 : Int32) [.null, .null, .null] .null := (Arv.new A20 (by decide)).pad (pad_rep [] .null 3)
  refine .pre (fun _ kq => st20 _ kq) ?_
  show OwnEnds p e below _ (T20.setTop (mkF m 143 #[.val (.int p0), .val (.int p1), .val (.int p2), .val (.int p3), .val (.int y4), .val (.int y5), .val (.int y6), .val (.int y7), .val (.int y8), .val (.int y9), .val (.int y10), .val (.int y11), .val (.int y12), .val (.int y13), .val (.int y14), .val (.int y15), .val (.int y16), .val (.ref b14), .val (.ref b18), .unset, .unset, .unset] [(.ref b20)]))
  refine .pre (fun _ kq => XS.astore X20.here hx rfl (hb hby at_143) rfl rfl (l' := #[.val (.int p0), .val (.int p1), .val (.int p2), .val (.int p3), .val (.int y4), .val (.int y5), .val (.int y6), .val (.int y7), .val (.int y8), .val (.int y9), .val (.int y10), .val (.int y11), .val (.int y12), .val (.int y13), .val (.int y14), .val (.int y15), .val (.int y16), .val (.ref b14), .val (.ref b18), .val (.ref b20), .unset, .unset]) rfl kq) ?_
  show OwnEnds p e below _ (T20.setTop (mkF m 145 #[.val (.int p0), .val (.int p1), .val (.int p2), .val (.int p3), .val (.int y4), .val (.int y5), .val (.int y6), .val (.int y7), .val (.int y8), .val (.int y9), .val (.int y10), .val (.int y11), .val (.int y12), .val (.int y13), .val (.int y14), .val (.int y15), .val (.int y16), .val (.ref b14), .val (.ref b18), .val (.ref b20), .unset, .unset] []))
  refine .pre (fun _ kq => XS.aload X20.here hx rfl (hb hby at_145) rfl rfl kq) ?_
  show OwnEnds p e below _ (T20.setTop (mkF m 147 #[.val (.int p0), .val (.int p1), .val (.int p2), .val (.int p3), .val (.int y4), .val (.int y5), .val (.int y6), .val (.int y7), .val (.int y8), .val (.int y9), .val (.int y10), .val (.int y11), .val (.int y12), .val (.int y13), .val (.int y14), .val (.int y15), .val (.int y16), .val (.ref b14), .val (.ref b18), .val (.ref b20), .unset, .unset] [(.ref b20)]))
  refine .pre (fun _ kq => XS.iconst X20.here hx rfl (hb hby at_147) kq) ?_
  show OwnEnds p e below _ (T20.setTop (mkF m 148 #[.val (.int p0), .val (.int p1), .val (.int p2), .val (.int p3), .val (.int y4), .val (.int y5), .val (.int y6), .val (.int y7), .val (.int y8), .val (.int y9), .val (.int y10), .val (.int y11), .val (.int y12), .val (.int y13), .val (.int y14), .val (.int y15), .val (.int y16), .val (.ref b14), .val (.ref b18), .val (.ref b20), .unset, .unset] [(.int (0 : Int32)), (.ref b20)]))
  obtain ⟨T21, h21, X21, e21, E21, A21, D21, U21, st21⟩ := newO X20 hx hZ hown (hw _ (List.mem_of_getElem? (i := 104) rfl)) (hw _ (List.mem_of_getElem? (i := 106) rfl)) (hw _ (List.mem_of_getElem? (i := 107) rfl)) e20 (g := (mkF m 148 #[.val (.int p0), .val (.int p1), .val (.int p2), .val (.int p3), .val (.int y4), .val (.int y5), .val (.int y6), .val (.int y7), .val (.int y8), .val (.int y9), .val (.int y10), .val (.int y11), .val (.int y12), .val (.int y13), .val (.int y14), .val (.int y15), .val (.int y16), .val (.ref b14), .val (.ref b18), .val (.ref b20), .unset, .unset] [(.int (0 : Int32)), (.ref b20)])) rfl (hb hby at_148) (by decide) (by decide)
  obtain ⟨b21, g21⟩ : ∃ z, z = h20.size := ⟨_, rfl⟩
  rw [← g21] at A21 D21 U21 st21
  have g_b21 : n0 ≤ b21 := Nat.le_trans (Nat.le_trans (Nat.le_trans (Nat.le_trans (Nat.le_trans (Nat.le_trans (Nat.le_trans (Nat.le_trans Z0 E14.1) E15.1) K16.1) K17.1) E18.1) K19.1) E20.1) (Nat.le_of_eq g21.symm)
  have F21_number : Fld Z h21 b21 "com/example/changeset/changeset/check/FoundState" "number" "I" (.int (0 : Int32)) := D21 (Or.inl (hw _ (List.mem_of_getElem? (i := 113) rfl))) (ty := .int) (by decide)
  have F21_state : Fld Z h21 b21 "com/example/changeset/changeset/check/FoundState" "state" "Lcom/example/changeset/changeset/check/State;" .null := D21 (Or.inr (hw _ (List.mem_of_getElem? (i := 115) rfl))) (ty := (.object "com/example/changeset/changeset/check/State")) (by decide)
  refine .pre (fun _ kq => st21 _ kq) ?_
  show OwnEnds p e below _ (T21.setTop (mkF m 151 #[.val (.int p0), .val (.int p1), .val (.int p2), .val (.int p3), .val (.int y4), .val (.int y5), .val (.int y6), .val (.int y7), .val (.int y8), .val (.int y9), .val (.int y10), .val (.int y11), .val (.int y12), .val (.int y13), .val (.int y14), .val (.int y15), .val (.int y16), .val (.ref b14), .val (.ref b18), .val (.ref b20), .unset, .unset] [(.ref b21), (.int (0 : Int32)), (.ref b20)]))
  refine .pre (fun _ kq => XS.dup X21.here hx rfl (hb hby at_151) rfl rfl kq) ?_
  show OwnEnds p e below _ (T21.setTop (mkF m 152 #[.val (.int p0), .val (.int p1), .val (.int p2), .val (.int p3), .val (.int y4), .val (.int y5), .val (.int y6), .val (.int y7), .val (.int y8), .val (.int y9), .val (.int y10), .val (.int y11), .val (.int y12), .val (.int y13), .val (.int y14), .val (.int y15), .val (.int y16), .val (.ref b14), .val (.ref b18), .val (.ref b20), .unset, .unset] [(.ref b21), (.ref b21), (.int (0 : Int32)), (.ref b20)]))
  refine .pre (fun _ kq => XS.aload X21.here hx rfl (hb hby at_152) rfl rfl kq) ?_
  show OwnEnds p e below _ (T21.setTop (mkF m 154 #[.val (.int p0), .val (.int p1), .val (.int p2), .val (.int p3), .val (.int y4), .val (.int y5), .val (.int y6), .val (.int y7), .val (.int y8), .val (.int y9), .val (.int y10), .val (.int y11), .val (.int y12), .val (.int y13), .val (.int y14), .val (.int y15), .val (.int y16), .val (.ref b14), .val (.ref b18), .val (.ref b20), .unset, .unset] [(.ref b18), (.ref b21), (.ref b21), (.int (0 : Int32)), (.ref b20)]))
  have rq2_0 := (Sta.ext E21 (Sta.ext E20 (own_staK1 rq1_0 K19 A18)))
  have rq2_1 := ((((Ly17_4.ext E18).keep K19 (own_nin1 (Nat.ne_of_lt (Nat.lt_of_lt_of_le xlt g_b18)))).ext E20).ext E21)
  have rq2_2 := ((((EG17.ext E18).keep K19).ext E20).ext E21)
  have rq2_4 := ((((G17_0.ext E18).keep K19 (own_nin1 (Nat.ne_of_lt (Nat.lt_of_lt_of_le EG17.lt (Nat.le_of_eq g18.symm))))).ext E20).ext E21)
  have rq2_5 := ((((G17_1.ext E18).keep K19 (own_nin1 (Nat.ne_of_lt (Nat.lt_of_lt_of_le EG17.lt (Nat.le_of_eq g18.symm))))).ext E20).ext E21)
  have rq2_6 := ((((G17_2.ext E18).keep K19 (own_nin1 (Nat.ne_of_lt (Nat.lt_of_lt_of_le EG17.lt (Nat.le_of_eq g18.symm))))).ext E20).ext E21)
  have rq2_7 := ((((G17_3.ext E18).keep K19 (own_nin1 (Nat.ne_of_lt (Nat.lt_of_lt_of_le EG17.lt (Nat.le_of_eq g18.symm))))).ext E20).ext E21)
  have rq2_8 := ((((G17_4.ext E18).keep K19 (own_nin1 (Nat.ne_of_lt (Nat.lt_of_lt_of_le EG17.lt (Nat.le_of_eq g18.symm))))).ext E20).ext E21)
  have rq2_9 := ((((G17_5.ext E18).keep K19 (own_nin1 (Nat.ne_of_lt (Nat.lt_of_lt_of_le EG17.lt (Nat.le_of_eq g18.symm))))).ext E20).ext E21)
  have rq2_10 := ((((G17_6.ext E18).keep K19 (own_nin1 (Nat.ne_of_lt (Nat.lt_of_lt_of_le EG17.lt (Nat.le_of_eq g18.symm))))).ext E20).ext E21)
  have rq2_11 := ((((G17_7.ext E18).keep K19 (own_nin1 (Nat.ne_of_lt (Nat.lt_of_lt_of_le EG17.lt (Nat.le_of_eq g18.symm))))).ext E20).ext E21)
  have rq2_12 := ((((G17_8.ext E18).keep K19 (own_nin1 (Nat.ne_of_lt (Nat.lt_of_lt_of_le EG17.lt (Nat.le_of_eq g18.symm))))).ext E20).ext E21)
  have rq2_13 := ((((G17_9.ext E18).keep K19 (own_nin1 (Nat.ne_of_lt (Nat.lt_of_lt_of_le EG17.lt (Nat.le_of_eq g18.symm))))).ext E20).ext E21)
  have rq2_14 := ((((G17_10.ext E18).keep K19 (own_nin1 (Nat.ne_of_lt (Nat.lt_of_lt_of_le EG17.lt (Nat.le_of_eq g18.symm))))).ext E20).ext E21)
  have rq2_15 := (((((Ea16.keep K17).ext E18).keep K19).ext E20).ext E21)
  have rq2_17 := (((rq1_19.keep K19 (own_nin1 (Nat.ne_of_lt (Nat.lt_of_lt_of_le (Ea16.keep K17).lt (Nat.le_of_eq g18.symm))))).ext E20).ext E21)
  have rq2_18 := (((rq1_20.keep K19 (own_nin1 (Nat.ne_of_lt (Nat.lt_of_lt_of_le (Ea16.keep K17).lt (Nat.le_of_eq g18.symm))))).ext E20).ext E21)
  have rq2_19 := (((rq1_21.keep K19 (own_nin1 (Nat.ne_of_lt (Nat.lt_of_lt_of_le (Ea16.keep K17).lt (Nat.le_of_eq g18.symm))))).ext E20).ext E21)
  have rq2_20 := ((((AP17.ext E18).keep K19 (own_nin1 (Nat.ne_of_lt (Nat.lt_of_lt_of_le AP17.lt (Nat.le_of_eq g18.symm))))).ext E20).ext E21)
  have rq2_21 := ((((AR17.ext E18).keep K19 (own_nin1 (Nat.ne_of_lt (Nat.lt_of_lt_of_le AR17.lt (Nat.le_of_eq g18.symm))))).ext E20).ext E21)
  have rq2_22 := ((((AF17.ext E18).keep K19 (own_nin1 (Nat.ne_of_lt (Nat.lt_of_lt_of_le AF17.lt (Nat.le_of_eq g18.symm))))).ext E20).ext E21)
  have rq2_23 := ((((AE17.ext E18).keep K19 (own_nin1 (Nat.ne_of_lt (Nat.lt_of_lt_of_le AE17.lt (Nat.le_of_eq g18.symm))))).ext E20).ext E21)
  have rq2_24 := ((((AT17.ext E18).keep K19 (own_nin1 (Nat.ne_of_lt (Nat.lt_of_lt_of_le AT17.lt (Nat.le_of_eq g18.symm))))).ext E20).ext E21)
  have rq2_25 := ((((AA17.ext E18).keep K19 (own_nin1 (Nat.ne_of_lt (Nat.lt_of_lt_of_le AA17.lt (Nat.le_of_eq g18.symm))))).ext E20).ext E21)
  have rq2_26 := ((((EL17.ext E18).keep K19).ext E20).ext E21)
  have rq2_27 := ((((Ly17_1.ext E18).keep K19 (own_nin1 (Nat.ne_of_lt (Nat.lt_of_lt_of_le EL17.lt (Nat.le_of_eq g18.symm))))).ext E20).ext E21)
  have rq2_28 := ((((Ly17_2.ext E18).keep K19 (own_nin1 (Nat.ne_of_lt (Nat.lt_of_lt_of_le EL17.lt (Nat.le_of_eq g18.symm))))).ext E20).ext E21)
  have rq2_29 := ((((Ly17_3.ext E18).keep K19 (own_nin1 (Nat.ne_of_lt (Nat.lt_of_lt_of_le EL17.lt (Nat.le_of_eq g18.symm))))).ext E20).ext E21)
  obtain ⟨_, _, ⟨T22, L22, k22, n22⟩, -, X22, ⟨Lc22, hQ22, l22, y22, z22⟩, st22⟩ := X21.specialBack hx (y := (⟨"com/example/changeset/changeset/check/FoundState", "<init>", "(Lcom/example/changeset/changeset/check/State;)V"⟩ : MethodName)) rfl hown (mvT hZ (hw _ (List.mem_of_getElem? (i := 108) rfl))) (mvT hZ (hw _ (List.mem_of_getElem? (i := 109) rfl))) (mvT hZ (hw _ (List.mem_of_getElem? (i := 110) rfl))) (by decide) (backOf (W := 3) (rm15 l Z aZ hw [] b21 b18 (.int (0 : Int32)) .null h21 n0 (Nat.le_trans (Nat.le_trans (Nat.le_trans (Nat.le_trans (Nat.le_trans (Nat.le_trans (Nat.le_trans (Nat.le_trans Z0 E14.1) E15.1) K16.1) K17.1) E18.1) K19.1) E20.1) E21.1) g_b21 A21 F21_number F21_state) hZ (hw _ (List.mem_of_getElem? (i := 110) rfl)) (hw _ (List.mem_of_getElem? (i := 107) rfl)) (by decide) (by decide)) (g := (mkF m 154 #[.val (.int p0), .val (.int p1), .val (.int p2), .val (.int p3), .val (.int y4), .val (.int y5), .val (.int y6), .val (.int y7), .val (.int y8), .val (.int y9), .val (.int y10), .val (.int y11), .val (.int y12), .val (.int y13), .val (.int y14), .val (.int y15), .val (.int y16), .val (.ref b14), .val (.ref b18), .val (.ref b20), .unset, .unset] [(.ref b18), (.ref b21), (.ref b21), (.int (0 : Int32)), (.ref b20)])) rfl (by rw [hml]; rfl) (Steps.refl _) (a := b21) (argsL := [(.ref b18)]) (rest := [(.ref b21), (.int (0 : Int32)), (.ref b20)]) (lenOf pd_24 rfl) rfl (by show 2 * 0 + _ ≤ _; exact Nat.le_of_eq rfl) (hb hby at_154) (fun _ _ => ⟨rfl, e21, (by decide : 13 + 0 ≤ _), (by decide : 6183 + 0 ≤ _)⟩)
  dsimp only [Pt.U, Pt.locs, Pt.cells, Pt.slots] at X22 l22 y22 z22 st22 hQ22
  try dsimp only [Nat.reduceAdd] at y22 z22
  subst y22 z22
  obtain ⟨rfl, N22q, K22, Ea22, Fa22_0, Fa22_1⟩ := hQ22
  have N22 : Fr n0 L22 := by rw [l22]; exact Fr.app N19 N22q
  refine .pre (fun _ kq => st22.trans kq) ?_
  show OwnEnds p e below _ (T22.setTop (mkF m 157 #[.val (.int p0), .val (.int p1), .val (.int p2), .val (.int p3), .val (.int y4), .val (.int y5), .val (.int y6), .val (.int y7), .val (.int y8), .val (.int y9), .val (.int y10), .val (.int y11), .val (.int y12), .val (.int y13), .val (.int y14), .val (.int y15), .val (.int y16), .val (.ref b14), .val (.ref b18), .val (.ref b20), .unset, .unset] [(.ref b21), (.int (0 : Int32)), (.ref b20)]))
  obtain ⟨cl23, Ar23, qa23, qs23, qn23, qh23, qg23⟩ := id ((VV_b20.ext E21).keep K22 (own_nin1 (Nat.ne_of_lt (Nat.lt_of_lt_of_le VV_b20.lt (Nat.le_of_eq g21.symm)))))
  obtain ⟨T23, h23, X23, e23, W23, st23⟩ := stR X22 hx hZ rfl Ar23 (j := (0 : Int32)) (v := (.ref b21)) (inb_of qs23 ⟨by decide, by decide⟩) rfl (Sto.of Ar23 (by rw [qa23]; exact O20) (Ins.self Ea22)) (g := (mkF m 157 #[.val (.int p0), .val (.int p1), .val (.int p2), .val (.int p3), .val (.int y4), .val (.int y5), .val (.int y6), .val (.int y7), .val (.int y8), .val (.int y9), .val (.int y10), .val (.int y11), .val (.int y12), .val (.int y13), .val (.int y14), .val (.int y15), .val (.int y16), .val (.ref b14), .val (.ref b18), .val (.ref b20), .unset, .unset] [(.ref b21), (.int (0 : Int32)), (.ref b20)])) rfl rfl (hb hby at_157)
  have V23 : Arv Z h23 b20 kk20 (.object "com/example/changeset/changeset/check/FoundState") (3 : Int32) [(.ref b21), .null, .null] .null := Arv.set Ar23 qa23 qs23 qn23 qh23 qg23 rfl W23 0 rfl (Nat.le_of_ble_eq_true rfl)
  have N23 := Fr.snoc X23 N22 g_b20
  refine .pre (fun _ kq => st23 _ kq) ?_
  show OwnEnds p e below _ (T23.setTop (mkF m 158 #[.val (.int p0), .val (.int p1), .val (.int p2), .val (.int p3), .val (.int y4), .val (.int y5), .val (.int y6), .val (.int y7), .val (.int y8), .val (.int y9), .val (.int y10), .val (.int y11), .val (.int y12), .val (.int y13), .val (.int y14), .val (.int y15), .val (.int y16), .val (.ref b14), .val (.ref b18), .val (.ref b20), .unset, .unset] []))
  refine .pre (fun _ kq => XS.aload X23.here hx rfl (hb hby at_158) rfl rfl kq) ?_
  show OwnEnds p e below _ (T23.setTop (mkF m 160 #[.val (.int p0), .val (.int p1), .val (.int p2), .val (.int p3), .val (.int y4), .val (.int y5), .val (.int y6), .val (.int y7), .val (.int y8), .val (.int y9), .val (.int y10), .val (.int y11), .val (.int y12), .val (.int y13), .val (.int y14), .val (.int y15), .val (.int y16), .val (.ref b14), .val (.ref b18), .val (.ref b20), .unset, .unset] [(.ref b20)]))
  refine .pre (fun _ kq => XS.iconst X23.here hx rfl (hb hby at_160) kq) ?_
  show OwnEnds p e below _ (T23.setTop (mkF m 161 #[.val (.int p0), .val (.int p1), .val (.int p2), .val (.int p3), .val (.int y4), .val (.int y5), .val (.int y6), .val (.int y7), .val (.int y8), .val (.int y9), .val (.int y10), .val (.int y11), .val (.int y12), .val (.int y13), .val (.int y14), .val (.int y15), .val (.int y16), .val (.ref b14), .val (.ref b18), .val (.ref b20), .unset, .unset] [(.int (1 : Int32)), (.ref b20)]))
  obtain ⟨T24, h24, X24, e24, E24, A24, D24, U24, st24⟩ := newO X23 hx hZ hown (hw _ (List.mem_of_getElem? (i := 104) rfl)) (hw _ (List.mem_of_getElem? (i := 106) rfl)) (hw _ (List.mem_of_getElem? (i := 107) rfl)) e23 (g := (mkF m 161 #[.val (.int p0), .val (.int p1), .val (.int p2), .val (.int p3), .val (.int y4), .val (.int y5), .val (.int y6), .val (.int y7), .val (.int y8), .val (.int y9), .val (.int y10), .val (.int y11), .val (.int y12), .val (.int y13), .val (.int y14), .val (.int y15), .val (.int y16), .val (.ref b14), .val (.ref b18), .val (.ref b20), .unset, .unset] [(.int (1 : Int32)), (.ref b20)])) rfl (hb hby at_161) (by decide) (by decide)
  obtain ⟨b24, g24⟩ : ∃ z, z = h23.size := ⟨_, rfl⟩
  rw [← g24] at A24 D24 U24 st24
  have g_b24 : n0 ≤ b24 := Nat.le_trans (Nat.le_trans (Nat.le_trans (Nat.le_trans (Nat.le_trans (Nat.le_trans (Nat.le_trans (Nat.le_trans (Nat.le_trans (Nat.le_trans (Nat.le_trans Z0 E14.1) E15.1) K16.1) K17.1) E18.1) K19.1) E20.1) E21.1) K22.1) (Keep.of_wr W23).1) (Nat.le_of_eq g24.symm)
  have F24_number : Fld Z h24 b24 "com/example/changeset/changeset/check/FoundState" "number" "I" (.int (0 : Int32)) := D24 (Or.inl (hw _ (List.mem_of_getElem? (i := 113) rfl))) (ty := .int) (by decide)
  have F24_state : Fld Z h24 b24 "com/example/changeset/changeset/check/FoundState" "state" "Lcom/example/changeset/changeset/check/State;" .null := D24 (Or.inr (hw _ (List.mem_of_getElem? (i := 115) rfl))) (ty := (.object "com/example/changeset/changeset/check/State")) (by decide)
  refine .pre (fun _ kq => st24 _ kq) ?_
  show OwnEnds p e below _ (T24.setTop (mkF m 164 #[.val (.int p0), .val (.int p1), .val (.int p2), .val (.int p3), .val (.int y4), .val (.int y5), .val (.int y6), .val (.int y7), .val (.int y8), .val (.int y9), .val (.int y10), .val (.int y11), .val (.int y12), .val (.int y13), .val (.int y14), .val (.int y15), .val (.int y16), .val (.ref b14), .val (.ref b18), .val (.ref b20), .unset, .unset] [(.ref b24), (.int (1 : Int32)), (.ref b20)]))
  refine .pre (fun _ kq => XS.dup X24.here hx rfl (hb hby at_164) rfl rfl kq) ?_
  show OwnEnds p e below _ (T24.setTop (mkF m 165 #[.val (.int p0), .val (.int p1), .val (.int p2), .val (.int p3), .val (.int y4), .val (.int y5), .val (.int y6), .val (.int y7), .val (.int y8), .val (.int y9), .val (.int y10), .val (.int y11), .val (.int y12), .val (.int y13), .val (.int y14), .val (.int y15), .val (.int y16), .val (.ref b14), .val (.ref b18), .val (.ref b20), .unset, .unset] [(.ref b24), (.ref b24), (.int (1 : Int32)), (.ref b20)]))
  refine .pre (fun _ kq => XS.aload X24.here hx rfl (hb hby at_165) rfl rfl kq) ?_
  show OwnEnds p e below _ (T24.setTop (mkF m 167 #[.val (.int p0), .val (.int p1), .val (.int p2), .val (.int p3), .val (.int y4), .val (.int y5), .val (.int y6), .val (.int y7), .val (.int y8), .val (.int y9), .val (.int y10), .val (.int y11), .val (.int y12), .val (.int y13), .val (.int y14), .val (.int y15), .val (.int y16), .val (.ref b14), .val (.ref b18), .val (.ref b20), .unset, .unset] [(.ref b18), (.ref b24), (.ref b24), (.int (1 : Int32)), (.ref b20)]))
  have rq3_0 := (Sta.ext E24 (Sta.wr W23 (own_staK1 rq2_0 K22 A21)))
  have rq3_1 := (((rq2_1.keep K22 (own_nin1 (Nat.ne_of_lt (Nat.lt_of_lt_of_le xlt g_b21)))).other W23 (Nat.ne_of_lt (Nat.lt_of_lt_of_le xlt g_b20))).ext E24)
  have rq3_2 := (((rq2_2.keep K22).wr W23).ext E24)
  have rq3_4 := (((rq2_4.keep K22 (own_nin1 (Nat.ne_of_lt (Nat.lt_of_lt_of_le (((EG17.ext E18).keep K19).ext E20).lt (Nat.le_of_eq g21.symm))))).other W23 (Or.inl (Nat.ne_of_lt (Nat.lt_of_lt_of_le ((EG17.ext E18).keep K19).lt (Nat.le_of_eq g20.symm))))).ext E24)
  have rq3_5 := (((rq2_5.keep K22 (own_nin1 (Nat.ne_of_lt (Nat.lt_of_lt_of_le (((EG17.ext E18).keep K19).ext E20).lt (Nat.le_of_eq g21.symm))))).other W23 (Or.inl (Nat.ne_of_lt (Nat.lt_of_lt_of_le ((EG17.ext E18).keep K19).lt (Nat.le_of_eq g20.symm))))).ext E24)
  have rq3_6 := (((rq2_6.keep K22 (own_nin1 (Nat.ne_of_lt (Nat.lt_of_lt_of_le (((EG17.ext E18).keep K19).ext E20).lt (Nat.le_of_eq g21.symm))))).other W23 (Or.inl (Nat.ne_of_lt (Nat.lt_of_lt_of_le ((EG17.ext E18).keep K19).lt (Nat.le_of_eq g20.symm))))).ext E24)
  have rq3_7 := (((rq2_7.keep K22 (own_nin1 (Nat.ne_of_lt (Nat.lt_of_lt_of_le (((EG17.ext E18).keep K19).ext E20).lt (Nat.le_of_eq g21.symm))))).other W23 (Or.inl (Nat.ne_of_lt (Nat.lt_of_lt_of_le ((EG17.ext E18).keep K19).lt (Nat.le_of_eq g20.symm))))).ext E24)
  have rq3_8 := (((rq2_8.keep K22 (own_nin1 (Nat.ne_of_lt (Nat.lt_of_lt_of_le (((EG17.ext E18).keep K19).ext E20).lt (Nat.le_of_eq g21.symm))))).other W23 (Or.inl (Nat.ne_of_lt (Nat.lt_of_lt_of_le ((EG17.ext E18).keep K19).lt (Nat.le_of_eq g20.symm))))).ext E24)
  have rq3_9 := (((rq2_9.keep K22 (own_nin1 (Nat.ne_of_lt (Nat.lt_of_lt_of_le (((EG17.ext E18).keep K19).ext E20).lt (Nat.le_of_eq g21.symm))))).other W23 (Or.inl (Nat.ne_of_lt (Nat.lt_of_lt_of_le ((EG17.ext E18).keep K19).lt (Nat.le_of_eq g20.symm))))).ext E24)
  have rq3_10 := (((rq2_10.keep K22 (own_nin1 (Nat.ne_of_lt (Nat.lt_of_lt_of_le (((EG17.ext E18).keep K19).ext E20).lt (Nat.le_of_eq g21.symm))))).other W23 (Or.inl (Nat.ne_of_lt (Nat.lt_of_lt_of_le ((EG17.ext E18).keep K19).lt (Nat.le_of_eq g20.symm))))).ext E24)
  have rq3_11 := (((rq2_11.keep K22 (own_nin1 (Nat.ne_of_lt (Nat.lt_of_lt_of_le (((EG17.ext E18).keep K19).ext E20).lt (Nat.le_of_eq g21.symm))))).other W23 (Or.inl (Nat.ne_of_lt (Nat.lt_of_lt_of_le ((EG17.ext E18).keep K19).lt (Nat.le_of_eq g20.symm))))).ext E24)
  have rq3_12 := (((rq2_12.keep K22 (own_nin1 (Nat.ne_of_lt (Nat.lt_of_lt_of_le (((EG17.ext E18).keep K19).ext E20).lt (Nat.le_of_eq g21.symm))))).other W23 (Or.inl (Nat.ne_of_lt (Nat.lt_of_lt_of_le ((EG17.ext E18).keep K19).lt (Nat.le_of_eq g20.symm))))).ext E24)
  have rq3_13 := (((rq2_13.keep K22 (own_nin1 (Nat.ne_of_lt (Nat.lt_of_lt_of_le (((EG17.ext E18).keep K19).ext E20).lt (Nat.le_of_eq g21.symm))))).other W23 (Or.inl (Nat.ne_of_lt (Nat.lt_of_lt_of_le ((EG17.ext E18).keep K19).lt (Nat.le_of_eq g20.symm))))).ext E24)
  have rq3_14 := (((rq2_14.keep K22 (own_nin1 (Nat.ne_of_lt (Nat.lt_of_lt_of_le (((EG17.ext E18).keep K19).ext E20).lt (Nat.le_of_eq g21.symm))))).other W23 (Or.inl (Nat.ne_of_lt (Nat.lt_of_lt_of_le ((EG17.ext E18).keep K19).lt (Nat.le_of_eq g20.symm))))).ext E24)
  have rq3_15 := (((rq2_15.keep K22).wr W23).ext E24)
  have rq3_17 := (((rq2_17.keep K22 (own_nin1 (Nat.ne_of_lt (Nat.lt_of_lt_of_le ((((Ea16.keep K17).ext E18).keep K19).ext E20).lt (Nat.le_of_eq g21.symm))))).other W23 (Or.inl (Nat.ne_of_lt (Nat.lt_of_lt_of_le (((Ea16.keep K17).ext E18).keep K19).lt (Nat.le_of_eq g20.symm))))).ext E24)
  have rq3_18 := (((rq2_18.keep K22 (own_nin1 (Nat.ne_of_lt (Nat.lt_of_lt_of_le ((((Ea16.keep K17).ext E18).keep K19).ext E20).lt (Nat.le_of_eq g21.symm))))).other W23 (Or.inl (Nat.ne_of_lt (Nat.lt_of_lt_of_le (((Ea16.keep K17).ext E18).keep K19).lt (Nat.le_of_eq g20.symm))))).ext E24)
  have rq3_19 := (((rq2_19.keep K22 (own_nin1 (Nat.ne_of_lt (Nat.lt_of_lt_of_le ((((Ea16.keep K17).ext E18).keep K19).ext E20).lt (Nat.le_of_eq g21.symm))))).other W23 (Or.inl (Nat.ne_of_lt (Nat.lt_of_lt_of_le (((Ea16.keep K17).ext E18).keep K19).lt (Nat.le_of_eq g20.symm))))).ext E24)
  have rq3_20 := (((rq2_20.keep K22 (own_nin1 (Nat.ne_of_lt (Nat.lt_of_lt_of_le (((AP17.ext E18).keep K19 (own_nin1 (Nat.ne_of_lt (Nat.lt_of_lt_of_le AP17.lt (Nat.le_of_eq g18.symm))))).ext E20).lt (Nat.le_of_eq g21.symm))))).other W23 (Nat.ne_of_lt (Nat.lt_of_lt_of_le ((AP17.ext E18).keep K19 (own_nin1 (Nat.ne_of_lt (Nat.lt_of_lt_of_le AP17.lt (Nat.le_of_eq g18.symm))))).lt (Nat.le_of_eq g20.symm)))).ext E24)
  have rq3_21 := (((rq2_21.keep K22 (own_nin1 (Nat.ne_of_lt (Nat.lt_of_lt_of_le (((AR17.ext E18).keep K19 (own_nin1 (Nat.ne_of_lt (Nat.lt_of_lt_of_le AR17.lt (Nat.le_of_eq g18.symm))))).ext E20).lt (Nat.le_of_eq g21.symm))))).other W23 (Nat.ne_of_lt (Nat.lt_of_lt_of_le ((AR17.ext E18).keep K19 (own_nin1 (Nat.ne_of_lt (Nat.lt_of_lt_of_le AR17.lt (Nat.le_of_eq g18.symm))))).lt (Nat.le_of_eq g20.symm)))).ext E24)
  have rq3_22 := (((rq2_22.keep K22 (own_nin1 (Nat.ne_of_lt (Nat.lt_of_lt_of_le (((AF17.ext E18).keep K19 (own_nin1 (Nat.ne_of_lt (Nat.lt_of_lt_of_le AF17.lt (Nat.le_of_eq g18.symm))))).ext E20).lt (Nat.le_of_eq g21.symm))))).other W23 (Nat.ne_of_lt (Nat.lt_of_lt_of_le ((AF17.ext E18).keep K19 (own_nin1 (Nat.ne_of_lt (Nat.lt_of_lt_of_le AF17.lt (Nat.le_of_eq g18.symm))))).lt (Nat.le_of_eq g20.symm)))).ext E24)
  have rq3_23 := (((rq2_23.keep K22 (own_nin1 (Nat.ne_of_lt (Nat.lt_of_lt_of_le (((AE17.ext E18).keep K19 (own_nin1 (Nat.ne_of_lt (Nat.lt_of_lt_of_le AE17.lt (Nat.le_of_eq g18.symm))))).ext E20).lt (Nat.le_of_eq g21.symm))))).other W23 (Nat.ne_of_lt (Nat.lt_of_lt_of_le ((AE17.ext E18).keep K19 (own_nin1 (Nat.ne_of_lt (Nat.lt_of_lt_of_le AE17.lt (Nat.le_of_eq g18.symm))))).lt (Nat.le_of_eq g20.symm)))).ext E24)
  have rq3_24 := (((rq2_24.keep K22 (own_nin1 (Nat.ne_of_lt (Nat.lt_of_lt_of_le (((AT17.ext E18).keep K19 (own_nin1 (Nat.ne_of_lt (Nat.lt_of_lt_of_le AT17.lt (Nat.le_of_eq g18.symm))))).ext E20).lt (Nat.le_of_eq g21.symm))))).other W23 (Nat.ne_of_lt (Nat.lt_of_lt_of_le ((AT17.ext E18).keep K19 (own_nin1 (Nat.ne_of_lt (Nat.lt_of_lt_of_le AT17.lt (Nat.le_of_eq g18.symm))))).lt (Nat.le_of_eq g20.symm)))).ext E24)
  have rq3_25 := (((rq2_25.keep K22 (own_nin1 (Nat.ne_of_lt (Nat.lt_of_lt_of_le (((AA17.ext E18).keep K19 (own_nin1 (Nat.ne_of_lt (Nat.lt_of_lt_of_le AA17.lt (Nat.le_of_eq g18.symm))))).ext E20).lt (Nat.le_of_eq g21.symm))))).other W23 (Nat.ne_of_lt (Nat.lt_of_lt_of_le ((AA17.ext E18).keep K19 (own_nin1 (Nat.ne_of_lt (Nat.lt_of_lt_of_le AA17.lt (Nat.le_of_eq g18.symm))))).lt (Nat.le_of_eq g20.symm)))).ext E24)
  have rq3_26 := (((rq2_26.keep K22).wr W23).ext E24)
  have rq3_27 := (((rq2_27.keep K22 (own_nin1 (Nat.ne_of_lt (Nat.lt_of_lt_of_le (((EL17.ext E18).keep K19).ext E20).lt (Nat.le_of_eq g21.symm))))).other W23 (Or.inl (Nat.ne_of_lt (Nat.lt_of_lt_of_le ((EL17.ext E18).keep K19).lt (Nat.le_of_eq g20.symm))))).ext E24)
  have rq3_28 := (((rq2_28.keep K22 (own_nin1 (Nat.ne_of_lt (Nat.lt_of_lt_of_le (((EL17.ext E18).keep K19).ext E20).lt (Nat.le_of_eq g21.symm))))).other W23 (Or.inl (Nat.ne_of_lt (Nat.lt_of_lt_of_le ((EL17.ext E18).keep K19).lt (Nat.le_of_eq g20.symm))))).ext E24)
  have rq3_29 := (((rq2_29.keep K22 (own_nin1 (Nat.ne_of_lt (Nat.lt_of_lt_of_le (((EL17.ext E18).keep K19).ext E20).lt (Nat.le_of_eq g21.symm))))).other W23 (Or.inl (Nat.ne_of_lt (Nat.lt_of_lt_of_le ((EL17.ext E18).keep K19).lt (Nat.le_of_eq g20.symm))))).ext E24)
  have rq3_30 := (((((Ea19.ext E20).ext E21).keep K22).wr W23).ext E24)
  have rq3_32 := (((((Fa19_0.ext E20).ext E21).keep K22 (own_nin1 (Nat.ne_of_lt (Nat.lt_of_lt_of_le (Ea19.ext E20).lt (Nat.le_of_eq g21.symm))))).other W23 (Or.inl (Nat.ne_of_lt (Nat.lt_of_lt_of_le Ea19.lt (Nat.le_of_eq g20.symm))))).ext E24)
  have rq3_33 := (((((Fa19_1.ext E20).ext E21).keep K22 (own_nin1 (Nat.ne_of_lt (Nat.lt_of_lt_of_le (Ea19.ext E20).lt (Nat.le_of_eq g21.symm))))).other W23 (Or.inl (Nat.ne_of_lt (Nat.lt_of_lt_of_le Ea19.lt (Nat.le_of_eq g20.symm))))).ext E24)
  have rq3_37 := ((Fa22_0.other W23 (Or.inl (Ne.symm (Nat.ne_of_lt (Nat.lt_of_lt_of_le VV_b20.lt (Nat.le_of_eq g21.symm)))))).ext E24)
  have rq3_38 := ((Fa22_1.other W23 (Or.inl (Ne.symm (Nat.ne_of_lt (Nat.lt_of_lt_of_le VV_b20.lt (Nat.le_of_eq g21.symm)))))).ext E24)
  obtain ⟨_, _, ⟨T25, L25, k25, n25⟩, -, X25, ⟨Lc25, hQ25, l25, y25, z25⟩, st25⟩ := X24.specialBack hx (y := (⟨"com/example/changeset/changeset/check/FoundState", "<init>", "(Lcom/example/changeset/changeset/check/State;)V"⟩ : MethodName)) rfl hown (mvT hZ (hw _ (List.mem_of_getElem? (i := 108) rfl))) (mvT hZ (hw _ (List.mem_of_getElem? (i := 109) rfl))) (mvT hZ (hw _ (List.mem_of_getElem? (i := 110) rfl))) (by decide) (backOf (W := 3) (rm15 l Z aZ hw [] b24 b18 (.int (0 : Int32)) .null h24 n0 (Nat.le_trans (Nat.le_trans (Nat.le_trans (Nat.le_trans (Nat.le_trans (Nat.le_trans (Nat.le_trans (Nat.le_trans (Nat.le_trans (Nat.le_trans (Nat.le_trans Z0 E14.1) E15.1) K16.1) K17.1) E18.1) K19.1) E20.1) E21.1) K22.1) (Keep.of_wr W23).1) E24.1) g_b24 A24 F24_number F24_state) hZ (hw _ (List.mem_of_getElem? (i := 110) rfl)) (hw _ (List.mem_of_getElem? (i := 107) rfl)) (by decide) (by decide)) (g := (mkF m 167 #[.val (.int p0), .val (.int p1), .val (.int p2), .val (.int p3), .val (.int y4), .val (.int y5), .val (.int y6), .val (.int y7), .val (.int y8), .val (.int y9), .val (.int y10), .val (.int y11), .val (.int y12), .val (.int y13), .val (.int y14), .val (.int y15), .val (.int y16), .val (.ref b14), .val (.ref b18), .val (.ref b20), .unset, .unset] [(.ref b18), (.ref b24), (.ref b24), (.int (1 : Int32)), (.ref b20)])) rfl (by rw [hml]; rfl) (Steps.refl _) (a := b24) (argsL := [(.ref b18)]) (rest := [(.ref b24), (.int (1 : Int32)), (.ref b20)]) (lenOf pd_24 rfl) rfl (by show 2 * 0 + _ ≤ _; exact Nat.le_of_eq rfl) (hb hby at_167) (fun _ _ => ⟨rfl, e24, (by decide : 14 + 0 ≤ _), (by decide : 6186 + 0 ≤ _)⟩)
  dsimp only [Pt.U, Pt.locs, Pt.cells, Pt.slots] at X25 l25 y25 z25 st25 hQ25
  try dsimp only [Nat.reduceAdd] at y25 z25
  subst y25 z25
  obtain ⟨rfl, N25q, K25, Ea25, Fa25_0, Fa25_1⟩ := hQ25
  have N25 : Fr n0 L25 := by rw [l25]; exact Fr.app N23 N25q
  refine .pre (fun _ kq => st25.trans kq) ?_
  show OwnEnds p e below _ (T25.setTop (mkF m 170 #[.val (.int p0), .val (.int p1), .val (.int p2), .val (.int p3), .val (.int y4), .val (.int y5), .val (.int y6), .val (.int y7), .val (.int y8), .val (.int y9), .val (.int y10), .val (.int y11), .val (.int y12), .val (.int y13), .val (.int y14), .val (.int y15), .val (.int y16), .val (.ref b14), .val (.ref b18), .val (.ref b20), .unset, .unset] [(.ref b24), (.int (1 : Int32)), (.ref b20)]))
  obtain ⟨cl26, Ar26, qa26, qs26, qn26, qh26, qg26⟩ := id ((V23.ext E24).keep K25 (own_nin1 (Nat.ne_of_lt (Nat.lt_of_lt_of_le V23.lt (Nat.le_of_eq g24.symm)))))
  obtain ⟨T26, h26, X26, e26, W26, st26⟩ := stR X25 hx hZ rfl Ar26 (j := (1 : Int32)) (v := (.ref b24)) (inb_of qs26 ⟨by decide, by decide⟩) rfl (Sto.of Ar26 (by rw [qa26]; exact O20) (Ins.self Ea25)) (g := (mkF m 170 #[.val (.int p0), .val (.int p1), .val (.int p2), .val (.int p3), .val (.int y4), .val (.int y5), .val (.int y6), .val (.int y7), .val (.int y8), .val (.int y9), .val (.int y10), .val (.int y11), .val (.int y12), .val (.int y13), .val (.int y14), .val (.int y15), .val (.int y16), .val (.ref b14), .val (.ref b18), .val (.ref b20), .unset, .unset] [(.ref b24), (.int (1 : Int32)), (.ref b20)])) rfl rfl (hb hby at_170)
  have V26 : Arv Z h26 b20 kk20 (.object "com/example/changeset/changeset/check/FoundState") (3 : Int32) [(.ref b21), (.ref b24), .null] .null := Arv.set Ar26 qa26 qs26 qn26 qh26 qg26 rfl W26 1 rfl (Nat.le_of_ble_eq_true rfl)
  have N26 := Fr.snoc X26 N25 g_b20
  refine .pre (fun _ kq => st26 _ kq) ?_
  show OwnEnds p e below _ (T26.setTop (mkF m 171 #[.val (.int p0), .val (.int p1), .val (.int p2), .val (.int p3), .val (.int y4), .val (.int y5), .val (.int y6), .val (.int y7), .val (.int y8), .val (.int y9), .val (.int y10), .val (.int y11), .val (.int y12), .val (.int y13), .val (.int y14), .val (.int y15), .val (.int y16), .val (.ref b14), .val (.ref b18), .val (.ref b20), .unset, .unset] []))
  refine .pre (fun _ kq => XS.aload X26.here hx rfl (hb hby at_171) rfl rfl kq) ?_
  show OwnEnds p e below _ (T26.setTop (mkF m 173 #[.val (.int p0), .val (.int p1), .val (.int p2), .val (.int p3), .val (.int y4), .val (.int y5), .val (.int y6), .val (.int y7), .val (.int y8), .val (.int y9), .val (.int y10), .val (.int y11), .val (.int y12), .val (.int y13), .val (.int y14), .val (.int y15), .val (.int y16), .val (.ref b14), .val (.ref b18), .val (.ref b20), .unset, .unset] [(.ref b20)]))
  refine .pre (fun _ kq => XS.iconst X26.here hx rfl (hb hby at_173) kq) ?_
  show OwnEnds p e below _ (T26.setTop (mkF m 174 #[.val (.int p0), .val (.int p1), .val (.int p2), .val (.int p3), .val (.int y4), .val (.int y5), .val (.int y6), .val (.int y7), .val (.int y8), .val (.int y9), .val (.int y10), .val (.int y11), .val (.int y12), .val (.int y13), .val (.int y14), .val (.int y15), .val (.int y16), .val (.ref b14), .val (.ref b18), .val (.ref b20), .unset, .unset] [(.int (2 : Int32)), (.ref b20)]))
  obtain ⟨T27, h27, X27, e27, E27, A27, D27, U27, st27⟩ := newO X26 hx hZ hown (hw _ (List.mem_of_getElem? (i := 104) rfl)) (hw _ (List.mem_of_getElem? (i := 106) rfl)) (hw _ (List.mem_of_getElem? (i := 107) rfl)) e26 (g := (mkF m 174 #[.val (.int p0), .val (.int p1), .val (.int p2), .val (.int p3), .val (.int y4), .val (.int y5), .val (.int y6), .val (.int y7), .val (.int y8), .val (.int y9), .val (.int y10), .val (.int y11), .val (.int y12), .val (.int y13), .val (.int y14), .val (.int y15), .val (.int y16), .val (.ref b14), .val (.ref b18), .val (.ref b20), .unset, .unset] [(.int (2 : Int32)), (.ref b20)])) rfl (hb hby at_174) (by decide) (by decide)
  obtain ⟨b27, g27⟩ : ∃ z, z = h26.size := ⟨_, rfl⟩
  rw [← g27] at A27 D27 U27 st27
  have g_b27 : n0 ≤ b27 := Nat.le_trans (Nat.le_trans (Nat.le_trans (Nat.le_trans (Nat.le_trans (Nat.le_trans (Nat.le_trans (Nat.le_trans (Nat.le_trans (Nat.le_trans (Nat.le_trans (Nat.le_trans (Nat.le_trans (Nat.le_trans Z0 E14.1) E15.1) K16.1) K17.1) E18.1) K19.1) E20.1) E21.1) K22.1) (Keep.of_wr W23).1) E24.1) K25.1) (Keep.of_wr W26).1) (Nat.le_of_eq g27.symm)
  have F27_number : Fld Z h27 b27 "com/example/changeset/changeset/check/FoundState" "number" "I" (.int (0 : Int32)) := D27 (Or.inl (hw _ (List.mem_of_getElem? (i := 113) rfl))) (ty := .int) (by decide)
  have F27_state : Fld Z h27 b27 "com/example/changeset/changeset/check/FoundState" "state" "Lcom/example/changeset/changeset/check/State;" .null := D27 (Or.inr (hw _ (List.mem_of_getElem? (i := 115) rfl))) (ty := (.object "com/example/changeset/changeset/check/State")) (by decide)
  refine .pre (fun _ kq => st27 _ kq) ?_
  show OwnEnds p e below _ (T27.setTop (mkF m 177 #[.val (.int p0), .val (.int p1), .val (.int p2), .val (.int p3), .val (.int y4), .val (.int y5), .val (.int y6), .val (.int y7), .val (.int y8), .val (.int y9), .val (.int y10), .val (.int y11), .val (.int y12), .val (.int y13), .val (.int y14), .val (.int y15), .val (.int y16), .val (.ref b14), .val (.ref b18), .val (.ref b20), .unset, .unset] [(.ref b27), (.int (2 : Int32)), (.ref b20)]))
  refine .pre (fun _ kq => XS.dup X27.here hx rfl (hb hby at_177) rfl rfl kq) ?_
  show OwnEnds p e below _ (T27.setTop (mkF m 178 #[.val (.int p0), .val (.int p1), .val (.int p2), .val (.int p3), .val (.int y4), .val (.int y5), .val (.int y6), .val (.int y7), .val (.int y8), .val (.int y9), .val (.int y10), .val (.int y11), .val (.int y12), .val (.int y13), .val (.int y14), .val (.int y15), .val (.int y16), .val (.ref b14), .val (.ref b18), .val (.ref b20), .unset, .unset] [(.ref b27), (.ref b27), (.int (2 : Int32)), (.ref b20)]))
  refine .pre (fun _ kq => XS.aload X27.here hx rfl (hb hby at_178) rfl rfl kq) ?_
  show OwnEnds p e below _ (T27.setTop (mkF m 180 #[.val (.int p0), .val (.int p1), .val (.int p2), .val (.int p3), .val (.int y4), .val (.int y5), .val (.int y6), .val (.int y7), .val (.int y8), .val (.int y9), .val (.int y10), .val (.int y11), .val (.int y12), .val (.int y13), .val (.int y14), .val (.int y15), .val (.int y16), .val (.ref b14), .val (.ref b18), .val (.ref b20), .unset, .unset] [(.ref b18), (.ref b27), (.ref b27), (.int (2 : Int32)), (.ref b20)]))
  have rq4_0 := (Sta.ext E27 (Sta.wr W26 (own_staK1 rq3_0 K25 A24)))
  have rq4_1 := (((rq3_1.keep K25 (own_nin1 (Nat.ne_of_lt (Nat.lt_of_lt_of_le xlt g_b24)))).other W26 (Nat.ne_of_lt (Nat.lt_of_lt_of_le xlt g_b20))).ext E27)
  have rq4_2 := (((rq3_2.keep K25).wr W26).ext E27)
  have rq4_4 := (((rq3_4.keep K25 (own_nin1 (Nat.ne_of_lt (Nat.lt_of_lt_of_le ((rq2_2.keep K22).wr W23).lt (Nat.le_of_eq g24.symm))))).other W26 (Or.inl (Nat.ne_of_lt (Nat.lt_of_lt_of_le ((EG17.ext E18).keep K19).lt (Nat.le_of_eq g20.symm))))).ext E27)
  have rq4_5 := (((rq3_5.keep K25 (own_nin1 (Nat.ne_of_lt (Nat.lt_of_lt_of_le ((rq2_2.keep K22).wr W23).lt (Nat.le_of_eq g24.symm))))).other W26 (Or.inl (Nat.ne_of_lt (Nat.lt_of_lt_of_le ((EG17.ext E18).keep K19).lt (Nat.le_of_eq g20.symm))))).ext E27)
  have rq4_6 := (((rq3_6.keep K25 (own_nin1 (Nat.ne_of_lt (Nat.lt_of_lt_of_le ((rq2_2.keep K22).wr W23).lt (Nat.le_of_eq g24.symm))))).other W26 (Or.inl (Nat.ne_of_lt (Nat.lt_of_lt_of_le ((EG17.ext E18).keep K19).lt (Nat.le_of_eq g20.symm))))).ext E27)
  have rq4_7 := (((rq3_7.keep K25 (own_nin1 (Nat.ne_of_lt (Nat.lt_of_lt_of_le ((rq2_2.keep K22).wr W23).lt (Nat.le_of_eq g24.symm))))).other W26 (Or.inl (Nat.ne_of_lt (Nat.lt_of_lt_of_le ((EG17.ext E18).keep K19).lt (Nat.le_of_eq g20.symm))))).ext E27)
  have rq4_8 := (((rq3_8.keep K25 (own_nin1 (Nat.ne_of_lt (Nat.lt_of_lt_of_le ((rq2_2.keep K22).wr W23).lt (Nat.le_of_eq g24.symm))))).other W26 (Or.inl (Nat.ne_of_lt (Nat.lt_of_lt_of_le ((EG17.ext E18).keep K19).lt (Nat.le_of_eq g20.symm))))).ext E27)
  have rq4_9 := (((rq3_9.keep K25 (own_nin1 (Nat.ne_of_lt (Nat.lt_of_lt_of_le ((rq2_2.keep K22).wr W23).lt (Nat.le_of_eq g24.symm))))).other W26 (Or.inl (Nat.ne_of_lt (Nat.lt_of_lt_of_le ((EG17.ext E18).keep K19).lt (Nat.le_of_eq g20.symm))))).ext E27)
  have rq4_10 := (((rq3_10.keep K25 (own_nin1 (Nat.ne_of_lt (Nat.lt_of_lt_of_le ((rq2_2.keep K22).wr W23).lt (Nat.le_of_eq g24.symm))))).other W26 (Or.inl (Nat.ne_of_lt (Nat.lt_of_lt_of_le ((EG17.ext E18).keep K19).lt (Nat.le_of_eq g20.symm))))).ext E27)
  have rq4_11 := (((rq3_11.keep K25 (own_nin1 (Nat.ne_of_lt (Nat.lt_of_lt_of_le ((rq2_2.keep K22).wr W23).lt (Nat.le_of_eq g24.symm))))).other W26 (Or.inl (Nat.ne_of_lt (Nat.lt_of_lt_of_le ((EG17.ext E18).keep K19).lt (Nat.le_of_eq g20.symm))))).ext E27)
  have rq4_12 := (((rq3_12.keep K25 (own_nin1 (Nat.ne_of_lt (Nat.lt_of_lt_of_le ((rq2_2.keep K22).wr W23).lt (Nat.le_of_eq g24.symm))))).other W26 (Or.inl (Nat.ne_of_lt (Nat.lt_of_lt_of_le ((EG17.ext E18).keep K19).lt (Nat.le_of_eq g20.symm))))).ext E27)
  have rq4_13 := (((rq3_13.keep K25 (own_nin1 (Nat.ne_of_lt (Nat.lt_of_lt_of_le ((rq2_2.keep K22).wr W23).lt (Nat.le_of_eq g24.symm))))).other W26 (Or.inl (Nat.ne_of_lt (Nat.lt_of_lt_of_le ((EG17.ext E18).keep K19).lt (Nat.le_of_eq g20.symm))))).ext E27)
  have rq4_14 := (((rq3_14.keep K25 (own_nin1 (Nat.ne_of_lt (Nat.lt_of_lt_of_le ((rq2_2.keep K22).wr W23).lt (Nat.le_of_eq g24.symm))))).other W26 (Or.inl (Nat.ne_of_lt (Nat.lt_of_lt_of_le ((EG17.ext E18).keep K19).lt (Nat.le_of_eq g20.symm))))).ext E27)
  have rq4_15 := (((rq3_15.keep K25).wr W26).ext E27)
  have rq4_17 := (((rq3_17.keep K25 (own_nin1 (Nat.ne_of_lt (Nat.lt_of_lt_of_le ((rq2_15.keep K22).wr W23).lt (Nat.le_of_eq g24.symm))))).other W26 (Or.inl (Nat.ne_of_lt (Nat.lt_of_lt_of_le (((Ea16.keep K17).ext E18).keep K19).lt (Nat.le_of_eq g20.symm))))).ext E27)
  have rq4_18 := (((rq3_18.keep K25 (own_nin1 (Nat.ne_of_lt (Nat.lt_of_lt_of_le ((rq2_15.keep K22).wr W23).lt (Nat.le_of_eq g24.symm))))).other W26 (Or.inl (Nat.ne_of_lt (Nat.lt_of_lt_of_le (((Ea16.keep K17).ext E18).keep K19).lt (Nat.le_of_eq g20.symm))))).ext E27)
  have rq4_19 := (((rq3_19.keep K25 (own_nin1 (Nat.ne_of_lt (Nat.lt_of_lt_of_le ((rq2_15.keep K22).wr W23).lt (Nat.le_of_eq g24.symm))))).other W26 (Or.inl (Nat.ne_of_lt (Nat.lt_of_lt_of_le (((Ea16.keep K17).ext E18).keep K19).lt (Nat.le_of_eq g20.symm))))).ext E27)
  have rq4_20 := (((rq3_20.keep K25 (own_nin1 (Nat.ne_of_lt (Nat.lt_of_lt_of_le ((rq2_20.keep K22 (own_nin1 (Nat.ne_of_lt (Nat.lt_of_lt_of_le (((AP17.ext E18).keep K19 (own_nin1 (Nat.ne_of_lt (Nat.lt_of_lt_of_le AP17.lt (Nat.le_of_eq g18.symm))))).ext E20).lt (Nat.le_of_eq g21.symm))))).other W23 (Nat.ne_of_lt (Nat.lt_of_lt_of_le ((AP17.ext E18).keep K19 (own_nin1 (Nat.ne_of_lt (Nat.lt_of_lt_of_le AP17.lt (Nat.le_of_eq g18.symm))))).lt (Nat.le_of_eq g20.symm)))).lt (Nat.le_of_eq g24.symm))))).other W26 (Nat.ne_of_lt (Nat.lt_of_lt_of_le ((AP17.ext E18).keep K19 (own_nin1 (Nat.ne_of_lt (Nat.lt_of_lt_of_le AP17.lt (Nat.le_of_eq g18.symm))))).lt (Nat.le_of_eq g20.symm)))).ext E27)
  have rq4_21 := (((rq3_21.keep K25 (own_nin1 (Nat.ne_of_lt (Nat.lt_of_lt_of_le ((rq2_21.keep K22 (own_nin1 (Nat.ne_of_lt (Nat.lt_of_lt_of_le (((AR17.ext E18).keep K19 (own_nin1 (Nat.ne_of_lt (Nat.lt_of_lt_of_le AR17.lt (Nat.le_of_eq g18.symm))))).ext E20).lt (Nat.le_of_eq g21.symm))))).other W23 (Nat.ne_of_lt (Nat.lt_of_lt_of_le ((AR17.ext E18).keep K19 (own_nin1 (Nat.ne_of_lt (Nat.lt_of_lt_of_le AR17.lt (Nat.le_of_eq g18.symm))))).lt (Nat.le_of_eq g20.symm)))).lt (Nat.le_of_eq g24.symm))))).other W26 (Nat.ne_of_lt (Nat.lt_of_lt_of_le ((AR17.ext E18).keep K19 (own_nin1 (Nat.ne_of_lt (Nat.lt_of_lt_of_le AR17.lt (Nat.le_of_eq g18.symm))))).lt (Nat.le_of_eq g20.symm)))).ext E27)
  have rq4_22 := (((rq3_22.keep K25 (own_nin1 (Nat.ne_of_lt (Nat.lt_of_lt_of_le ((rq2_22.keep K22 (own_nin1 (Nat.ne_of_lt (Nat.lt_of_lt_of_le (((AF17.ext E18).keep K19 (own_nin1 (Nat.ne_of_lt (Nat.lt_of_lt_of_le AF17.lt (Nat.le_of_eq g18.symm))))).ext E20).lt (Nat.le_of_eq g21.symm))))).other W23 (Nat.ne_of_lt (Nat.lt_of_lt_of_le ((AF17.ext E18).keep K19 (own_nin1 (Nat.ne_of_lt (Nat.lt_of_lt_of_le AF17.lt (Nat.le_of_eq g18.symm))))).lt (Nat.le_of_eq g20.symm)))).lt (Nat.le_of_eq g24.symm))))).other W26 (Nat.ne_of_lt (Nat.lt_of_lt_of_le ((AF17.ext E18).keep K19 (own_nin1 (Nat.ne_of_lt (Nat.lt_of_lt_of_le AF17.lt (Nat.le_of_eq g18.symm))))).lt (Nat.le_of_eq g20.symm)))).ext E27)
  have rq4_23 := (((rq3_23.keep K25 (own_nin1 (Nat.ne_of_lt (Nat.lt_of_lt_of_le ((rq2_23.keep K22 (own_nin1 (Nat.ne_of_lt (Nat.lt_of_lt_of_le (((AE17.ext E18).keep K19 (own_nin1 (Nat.ne_of_lt (Nat.lt_of_lt_of_le AE17.lt (Nat.le_of_eq g18.symm))))).ext E20).lt (Nat.le_of_eq g21.symm))))).other W23 (Nat.ne_of_lt (Nat.lt_of_lt_of_le ((AE17.ext E18).keep K19 (own_nin1 (Nat.ne_of_lt (Nat.lt_of_lt_of_le AE17.lt (Nat.le_of_eq g18.symm))))).lt (Nat.le_of_eq g20.symm)))).lt (Nat.le_of_eq g24.symm))))).other W26 (Nat.ne_of_lt (Nat.lt_of_lt_of_le ((AE17.ext E18).keep K19 (own_nin1 (Nat.ne_of_lt (Nat.lt_of_lt_of_le AE17.lt (Nat.le_of_eq g18.symm))))).lt (Nat.le_of_eq g20.symm)))).ext E27)
  have rq4_24 := (((rq3_24.keep K25 (own_nin1 (Nat.ne_of_lt (Nat.lt_of_lt_of_le ((rq2_24.keep K22 (own_nin1 (Nat.ne_of_lt (Nat.lt_of_lt_of_le (((AT17.ext E18).keep K19 (own_nin1 (Nat.ne_of_lt (Nat.lt_of_lt_of_le AT17.lt (Nat.le_of_eq g18.symm))))).ext E20).lt (Nat.le_of_eq g21.symm))))).other W23 (Nat.ne_of_lt (Nat.lt_of_lt_of_le ((AT17.ext E18).keep K19 (own_nin1 (Nat.ne_of_lt (Nat.lt_of_lt_of_le AT17.lt (Nat.le_of_eq g18.symm))))).lt (Nat.le_of_eq g20.symm)))).lt (Nat.le_of_eq g24.symm))))).other W26 (Nat.ne_of_lt (Nat.lt_of_lt_of_le ((AT17.ext E18).keep K19 (own_nin1 (Nat.ne_of_lt (Nat.lt_of_lt_of_le AT17.lt (Nat.le_of_eq g18.symm))))).lt (Nat.le_of_eq g20.symm)))).ext E27)
  have rq4_25 := (((rq3_25.keep K25 (own_nin1 (Nat.ne_of_lt (Nat.lt_of_lt_of_le ((rq2_25.keep K22 (own_nin1 (Nat.ne_of_lt (Nat.lt_of_lt_of_le (((AA17.ext E18).keep K19 (own_nin1 (Nat.ne_of_lt (Nat.lt_of_lt_of_le AA17.lt (Nat.le_of_eq g18.symm))))).ext E20).lt (Nat.le_of_eq g21.symm))))).other W23 (Nat.ne_of_lt (Nat.lt_of_lt_of_le ((AA17.ext E18).keep K19 (own_nin1 (Nat.ne_of_lt (Nat.lt_of_lt_of_le AA17.lt (Nat.le_of_eq g18.symm))))).lt (Nat.le_of_eq g20.symm)))).lt (Nat.le_of_eq g24.symm))))).other W26 (Nat.ne_of_lt (Nat.lt_of_lt_of_le ((AA17.ext E18).keep K19 (own_nin1 (Nat.ne_of_lt (Nat.lt_of_lt_of_le AA17.lt (Nat.le_of_eq g18.symm))))).lt (Nat.le_of_eq g20.symm)))).ext E27)
  have rq4_26 := (((rq3_26.keep K25).wr W26).ext E27)
  have rq4_27 := (((rq3_27.keep K25 (own_nin1 (Nat.ne_of_lt (Nat.lt_of_lt_of_le ((rq2_26.keep K22).wr W23).lt (Nat.le_of_eq g24.symm))))).other W26 (Or.inl (Nat.ne_of_lt (Nat.lt_of_lt_of_le ((EL17.ext E18).keep K19).lt (Nat.le_of_eq g20.symm))))).ext E27)
  have rq4_28 := (((rq3_28.keep K25 (own_nin1 (Nat.ne_of_lt (Nat.lt_of_lt_of_le ((rq2_26.keep K22).wr W23).lt (Nat.le_of_eq g24.symm))))).other W26 (Or.inl (Nat.ne_of_lt (Nat.lt_of_lt_of_le ((EL17.ext E18).keep K19).lt (Nat.le_of_eq g20.symm))))).ext E27)
  have rq4_29 := (((rq3_29.keep K25 (own_nin1 (Nat.ne_of_lt (Nat.lt_of_lt_of_le ((rq2_26.keep K22).wr W23).lt (Nat.le_of_eq g24.symm))))).other W26 (Or.inl (Nat.ne_of_lt (Nat.lt_of_lt_of_le ((EL17.ext E18).keep K19).lt (Nat.le_of_eq g20.symm))))).ext E27)
  have rq4_30 := (((rq3_30.keep K25).wr W26).ext E27)
  have rq4_32 := (((rq3_32.keep K25 (own_nin1 (Nat.ne_of_lt (Nat.lt_of_lt_of_le ((((Ea19.ext E20).ext E21).keep K22).wr W23).lt (Nat.le_of_eq g24.symm))))).other W26 (Or.inl (Nat.ne_of_lt (Nat.lt_of_lt_of_le Ea19.lt (Nat.le_of_eq g20.symm))))).ext E27)
  have rq4_33 := (((rq3_33.keep K25 (own_nin1 (Nat.ne_of_lt (Nat.lt_of_lt_of_le ((((Ea19.ext E20).ext E21).keep K22).wr W23).lt (Nat.le_of_eq g24.symm))))).other W26 (Or.inl (Nat.ne_of_lt (Nat.lt_of_lt_of_le Ea19.lt (Nat.le_of_eq g20.symm))))).ext E27)
  have rq4_35 := (((((Ea22.wr W23).ext E24).keep K25).wr W26).ext E27)
  have rq4_37 := (((rq3_37.keep K25 (own_nin1 (Nat.ne_of_lt (Nat.lt_of_lt_of_le (Ea22.wr W23).lt (Nat.le_of_eq g24.symm))))).other W26 (Or.inl (Ne.symm (Nat.ne_of_lt (Nat.lt_of_lt_of_le VV_b20.lt (Nat.le_of_eq g21.symm)))))).ext E27)
  have rq4_38 := (((rq3_38.keep K25 (own_nin1 (Nat.ne_of_lt (Nat.lt_of_lt_of_le (Ea22.wr W23).lt (Nat.le_of_eq g24.symm))))).other W26 (Or.inl (Ne.symm (Nat.ne_of_lt (Nat.lt_of_lt_of_le VV_b20.lt (Nat.le_of_eq g21.symm)))))).ext E27)
  have rq4_41 := ((Fa25_0.other W26 (Or.inl (Ne.symm (Nat.ne_of_lt (Nat.lt_of_lt_of_le V23.lt (Nat.le_of_eq g24.symm)))))).ext E27)
  have rq4_42 := ((Fa25_1.other W26 (Or.inl (Ne.symm (Nat.ne_of_lt (Nat.lt_of_lt_of_le V23.lt (Nat.le_of_eq g24.symm)))))).ext E27)
  obtain ⟨_, _, ⟨T28, L28, k28, n28⟩, -, X28, ⟨Lc28, hQ28, l28, y28, z28⟩, st28⟩ := X27.specialBack hx (y := (⟨"com/example/changeset/changeset/check/FoundState", "<init>", "(Lcom/example/changeset/changeset/check/State;)V"⟩ : MethodName)) rfl hown (mvT hZ (hw _ (List.mem_of_getElem? (i := 108) rfl))) (mvT hZ (hw _ (List.mem_of_getElem? (i := 109) rfl))) (mvT hZ (hw _ (List.mem_of_getElem? (i := 110) rfl))) (by decide) (backOf (W := 3) (rm15 l Z aZ hw [] b27 b18 (.int (0 : Int32)) .null h27 n0 (Nat.le_trans (Nat.le_trans (Nat.le_trans (Nat.le_trans (Nat.le_trans (Nat.le_trans (Nat.le_trans (Nat.le_trans (Nat.le_trans (Nat.le_trans (Nat.le_trans (Nat.le_trans (Nat.le_trans (Nat.le_trans Z0 E14.1) E15.1) K16.1) K17.1) E18.1) K19.1) E20.1) E21.1) K22.1) (Keep.of_wr W23).1) E24.1) K25.1) (Keep.of_wr W26).1) E27.1) g_b27 A27 F27_number F27_state) hZ (hw _ (List.mem_of_getElem? (i := 110) rfl)) (hw _ (List.mem_of_getElem? (i := 107) rfl)) (by decide) (by decide)) (g := (mkF m 180 #[.val (.int p0), .val (.int p1), .val (.int p2), .val (.int p3), .val (.int y4), .val (.int y5), .val (.int y6), .val (.int y7), .val (.int y8), .val (.int y9), .val (.int y10), .val (.int y11), .val (.int y12), .val (.int y13), .val (.int y14), .val (.int y15), .val (.int y16), .val (.ref b14), .val (.ref b18), .val (.ref b20), .unset, .unset] [(.ref b18), (.ref b27), (.ref b27), (.int (2 : Int32)), (.ref b20)])) rfl (by rw [hml]; rfl) (Steps.refl _) (a := b27) (argsL := [(.ref b18)]) (rest := [(.ref b27), (.int (2 : Int32)), (.ref b20)]) (lenOf pd_24 rfl) rfl (by show 2 * 0 + _ ≤ _; exact Nat.le_of_eq rfl) (hb hby at_180) (fun _ _ => ⟨rfl, e27, (by decide : 15 + 0 ≤ _), (by decide : 6189 + 0 ≤ _)⟩)
  dsimp only [Pt.U, Pt.locs, Pt.cells, Pt.slots] at X28 l28 y28 z28 st28 hQ28
  try dsimp only [Nat.reduceAdd] at y28 z28
  subst y28 z28
  obtain ⟨rfl, N28q, K28, Ea28, Fa28_0, Fa28_1⟩ := hQ28
  have N28 : Fr n0 L28 := by rw [l28]; exact Fr.app N26 N28q
  refine .pre (fun _ kq => st28.trans kq) ?_
  show OwnEnds p e below _ (T28.setTop (mkF m 183 #[.val (.int p0), .val (.int p1), .val (.int p2), .val (.int p3), .val (.int y4), .val (.int y5), .val (.int y6), .val (.int y7), .val (.int y8), .val (.int y9), .val (.int y10), .val (.int y11), .val (.int y12), .val (.int y13), .val (.int y14), .val (.int y15), .val (.int y16), .val (.ref b14), .val (.ref b18), .val (.ref b20), .unset, .unset] [(.ref b27), (.int (2 : Int32)), (.ref b20)]))
  obtain ⟨cl29, Ar29, qa29, qs29, qn29, qh29, qg29⟩ := id ((V26.ext E27).keep K28 (own_nin1 (Nat.ne_of_lt (Nat.lt_of_lt_of_le V26.lt (Nat.le_of_eq g27.symm)))))
  obtain ⟨T29, h29, X29, e29, W29, st29⟩ := stR X28 hx hZ rfl Ar29 (j := (2 : Int32)) (v := (.ref b27)) (inb_of qs29 ⟨by decide, by decide⟩) rfl (Sto.of Ar29 (by rw [qa29]; exact O20) (Ins.self Ea28)) (g := (mkF m 183 #[.val (.int p0), .val (.int p1), .val (.int p2), .val (.int p3), .val (.int y4), .val (.int y5), .val (.int y6), .val (.int y7), .val (.int y8), .val (.int y9), .val (.int y10), .val (.int y11), .val (.int y12), .val (.int y13), .val (.int y14), .val (.int y15), .val (.int y16), .val (.ref b14), .val (.ref b18), .val (.ref b20), .unset, .unset] [(.ref b27), (.int (2 : Int32)), (.ref b20)])) rfl rfl (hb hby at_183)
  have V29 : Arv Z h29 b20 kk20 (.object "com/example/changeset/changeset/check/FoundState") (3 : Int32) [(.ref b21), (.ref b24), (.ref b27)] .null := Arv.set Ar29 qa29 qs29 qn29 qh29 qg29 rfl W29 2 rfl (Nat.le_of_ble_eq_true rfl)
  have N29 := Fr.snoc X29 N28 g_b20
  refine .pre (fun _ kq => st29 _ kq) ?_
  show OwnEnds p e below _ (T29.setTop (mkF m 184 #[.val (.int p0), .val (.int p1), .val (.int p2), .val (.int p3), .val (.int y4), .val (.int y5), .val (.int y6), .val (.int y7), .val (.int y8), .val (.int y9), .val (.int y10), .val (.int y11), .val (.int y12), .val (.int y13), .val (.int y14), .val (.int y15), .val (.int y16), .val (.ref b14), .val (.ref b18), .val (.ref b20), .unset, .unset] []))
  refine .pre (fun _ kq => XS.aload X29.here hx rfl (hb hby at_184) rfl rfl kq) ?_
  show OwnEnds p e below _ (T29.setTop (mkF m 186 #[.val (.int p0), .val (.int p1), .val (.int p2), .val (.int p3), .val (.int y4), .val (.int y5), .val (.int y6), .val (.int y7), .val (.int y8), .val (.int y9), .val (.int y10), .val (.int y11), .val (.int y12), .val (.int y13), .val (.int y14), .val (.int y15), .val (.int y16), .val (.ref b14), .val (.ref b18), .val (.ref b20), .unset, .unset] [(.ref b14)]))
  refine .pre (fun _ kq => XS.aload X29.here hx rfl (hb hby at_186) rfl rfl kq) ?_
  show OwnEnds p e below _ (T29.setTop (mkF m 188 #[.val (.int p0), .val (.int p1), .val (.int p2), .val (.int p3), .val (.int y4), .val (.int y5), .val (.int y6), .val (.int y7), .val (.int y8), .val (.int y9), .val (.int y10), .val (.int y11), .val (.int y12), .val (.int y13), .val (.int y14), .val (.int y15), .val (.int y16), .val (.ref b14), .val (.ref b18), .val (.ref b20), .unset, .unset] [(.ref b20), (.ref b14)]))
  refine .pre (fun _ kq => XS.iconst X29.here hx rfl (hb hby at_188) kq) ?_
  show OwnEnds p e below _ (T29.setTop (mkF m 189 #[.val (.int p0), .val (.int p1), .val (.int p2), .val (.int p3), .val (.int y4), .val (.int y5), .val (.int y6), .val (.int y7), .val (.int y8), .val (.int y9), .val (.int y10), .val (.int y11), .val (.int y12), .val (.int y13), .val (.int y14), .val (.int y15), .val (.int y16), .val (.ref b14), .val (.ref b18), .val (.ref b20), .unset, .unset] [(.int (0 : Int32)), (.ref b20), (.ref b14)]))
  obtain ⟨cl30, Ar30, qa30, qs30, qn30, qh30, qg30⟩ := id V29
  have hin30 : ¬ ((0 : Int32) < 0 ∨ cl30.slots.size ≤ ((0 : Int32)).toNatClampNeg) := inb_of qs30 ⟨by decide, by decide⟩
  have hat30 : cl30.slots[((0 : Int32)).toNatClampNeg]? = some (.ref b21) := (qh30 _ (Nat.lt_of_not_le fun y => hin30 (Or.inr y))).trans (congrArg some rfl)
  refine .pre (fun _ kq => X29.aaload hx (j := (0 : Int32)) (v := (.ref b21)) (by first | exact Ar30.1 | (rw [e29]; exact Ar30.1)) (State.isArrayOf_alike hZ.alike Ar30.2.1) rfl Ar30.2.2 hin30 hat30 (g := (mkF m 189 #[.val (.int p0), .val (.int p1), .val (.int p2), .val (.int p3), .val (.int y4), .val (.int y5), .val (.int y6), .val (.int y7), .val (.int y8), .val (.int y9), .val (.int y10), .val (.int y11), .val (.int y12), .val (.int y13), .val (.int y14), .val (.int y15), .val (.int y16), .val (.ref b14), .val (.ref b18), .val (.ref b20), .unset, .unset] [(.int (0 : Int32)), (.ref b20), (.ref b14)])) rfl rfl (hb hby at_189) _ kq) ?_
  show OwnEnds p e below _ (T29.setTop (mkF m 190 #[.val (.int p0), .val (.int p1), .val (.int p2), .val (.int p3), .val (.int y4), .val (.int y5), .val (.int y6), .val (.int y7), .val (.int y8), .val (.int y9), .val (.int y10), .val (.int y11), .val (.int y12), .val (.int y13), .val (.int y14), .val (.int y15), .val (.int y16), .val (.ref b14), .val (.ref b18), .val (.ref b20), .unset, .unset] [(.ref b21), (.ref b14)]))
  refine .pre (fun _ kq => XS.iconst X29.here hx rfl (hb hby at_190) kq) ?_
  show OwnEnds p e below _ (T29.setTop (mkF m 191 #[.val (.int p0), .val (.int p1), .val (.int p2), .val (.int p3), .val (.int y4), .val (.int y5), .val (.int y6), .val (.int y7), .val (.int y8), .val (.int y9), .val (.int y10), .val (.int y11), .val (.int y12), .val (.int y13), .val (.int y14), .val (.int y15), .val (.int y16), .val (.ref b14), .val (.ref b18), .val (.ref b20), .unset, .unset] [(.int (-1 : Int32)), (.ref b21), (.ref b14)]))
  refine .pre (fun _ kq => XS.iconst X29.here hx rfl (hb hby at_191) kq) ?_
  show OwnEnds p e below _ (T29.setTop (mkF m 192 #[.val (.int p0), .val (.int p1), .val (.int p2), .val (.int p3), .val (.int y4), .val (.int y5), .val (.int y6), .val (.int y7), .val (.int y8), .val (.int y9), .val (.int y10), .val (.int y11), .val (.int y12), .val (.int y13), .val (.int y14), .val (.int y15), .val (.int y16), .val (.ref b14), .val (.ref b18), .val (.ref b20), .unset, .unset] [(.int (-1 : Int32)), (.int (-1 : Int32)), (.ref b21), (.ref b14)]))
  have rq5_0 := (Sta.wr W29 (own_staK1 rq4_0 K28 A27))
  have rq5_1 := ((rq4_1.keep K28 (own_nin1 (Nat.ne_of_lt (Nat.lt_of_lt_of_le xlt g_b27)))).other W29 (Nat.ne_of_lt (Nat.lt_of_lt_of_le xlt g_b20)))
  have rq5_4 := ((rq4_4.keep K28 (own_nin1 (Nat.ne_of_lt (Nat.lt_of_lt_of_le ((rq3_2.keep K25).wr W26).lt (Nat.le_of_eq g27.symm))))).other W29 (Or.inl (Nat.ne_of_lt (Nat.lt_of_lt_of_le ((EG17.ext E18).keep K19).lt (Nat.le_of_eq g20.symm)))))
  have rq5_5 := ((rq4_5.keep K28 (own_nin1 (Nat.ne_of_lt (Nat.lt_of_lt_of_le ((rq3_2.keep K25).wr W26).lt (Nat.le_of_eq g27.symm))))).other W29 (Or.inl (Nat.ne_of_lt (Nat.lt_of_lt_of_le ((EG17.ext E18).keep K19).lt (Nat.le_of_eq g20.symm)))))
  have rq5_6 := ((rq4_6.keep K28 (own_nin1 (Nat.ne_of_lt (Nat.lt_of_lt_of_le ((rq3_2.keep K25).wr W26).lt (Nat.le_of_eq g27.symm))))).other W29 (Or.inl (Nat.ne_of_lt (Nat.lt_of_lt_of_le ((EG17.ext E18).keep K19).lt (Nat.le_of_eq g20.symm)))))
  have rq5_7 := ((rq4_7.keep K28 (own_nin1 (Nat.ne_of_lt (Nat.lt_of_lt_of_le ((rq3_2.keep K25).wr W26).lt (Nat.le_of_eq g27.symm))))).other W29 (Or.inl (Nat.ne_of_lt (Nat.lt_of_lt_of_le ((EG17.ext E18).keep K19).lt (Nat.le_of_eq g20.symm)))))
  have rq5_8 := ((rq4_8.keep K28 (own_nin1 (Nat.ne_of_lt (Nat.lt_of_lt_of_le ((rq3_2.keep K25).wr W26).lt (Nat.le_of_eq g27.symm))))).other W29 (Or.inl (Nat.ne_of_lt (Nat.lt_of_lt_of_le ((EG17.ext E18).keep K19).lt (Nat.le_of_eq g20.symm)))))
  have rq5_9 := ((rq4_9.keep K28 (own_nin1 (Nat.ne_of_lt (Nat.lt_of_lt_of_le ((rq3_2.keep K25).wr W26).lt (Nat.le_of_eq g27.symm))))).other W29 (Or.inl (Nat.ne_of_lt (Nat.lt_of_lt_of_le ((EG17.ext E18).keep K19).lt (Nat.le_of_eq g20.symm)))))
  have rq5_10 := ((rq4_10.keep K28 (own_nin1 (Nat.ne_of_lt (Nat.lt_of_lt_of_le ((rq3_2.keep K25).wr W26).lt (Nat.le_of_eq g27.symm))))).other W29 (Or.inl (Nat.ne_of_lt (Nat.lt_of_lt_of_le ((EG17.ext E18).keep K19).lt (Nat.le_of_eq g20.symm)))))
  have rq5_11 := ((rq4_11.keep K28 (own_nin1 (Nat.ne_of_lt (Nat.lt_of_lt_of_le ((rq3_2.keep K25).wr W26).lt (Nat.le_of_eq g27.symm))))).other W29 (Or.inl (Nat.ne_of_lt (Nat.lt_of_lt_of_le ((EG17.ext E18).keep K19).lt (Nat.le_of_eq g20.symm)))))
  have rq5_12 := ((rq4_12.keep K28 (own_nin1 (Nat.ne_of_lt (Nat.lt_of_lt_of_le ((rq3_2.keep K25).wr W26).lt (Nat.le_of_eq g27.symm))))).other W29 (Or.inl (Nat.ne_of_lt (Nat.lt_of_lt_of_le ((EG17.ext E18).keep K19).lt (Nat.le_of_eq g20.symm)))))
  have rq5_13 := ((rq4_13.keep K28 (own_nin1 (Nat.ne_of_lt (Nat.lt_of_lt_of_le ((rq3_2.keep K25).wr W26).lt (Nat.le_of_eq g27.symm))))).other W29 (Or.inl (Nat.ne_of_lt (Nat.lt_of_lt_of_le ((EG17.ext E18).keep K19).lt (Nat.le_of_eq g20.symm)))))
  have rq5_14 := ((rq4_14.keep K28 (own_nin1 (Nat.ne_of_lt (Nat.lt_of_lt_of_le ((rq3_2.keep K25).wr W26).lt (Nat.le_of_eq g27.symm))))).other W29 (Or.inl (Nat.ne_of_lt (Nat.lt_of_lt_of_le ((EG17.ext E18).keep K19).lt (Nat.le_of_eq g20.symm)))))
  have rq5_17 := ((rq4_17.keep K28 (own_nin1 (Nat.ne_of_lt (Nat.lt_of_lt_of_le ((rq3_15.keep K25).wr W26).lt (Nat.le_of_eq g27.symm))))).other W29 (Or.inl (Nat.ne_of_lt (Nat.lt_of_lt_of_le (((Ea16.keep K17).ext E18).keep K19).lt (Nat.le_of_eq g20.symm)))))
  have rq5_18 := ((rq4_18.keep K28 (own_nin1 (Nat.ne_of_lt (Nat.lt_of_lt_of_le ((rq3_15.keep K25).wr W26).lt (Nat.le_of_eq g27.symm))))).other W29 (Or.inl (Nat.ne_of_lt (Nat.lt_of_lt_of_le (((Ea16.keep K17).ext E18).keep K19).lt (Nat.le_of_eq g20.symm)))))
  have rq5_19 := ((rq4_19.keep K28 (own_nin1 (Nat.ne_of_lt (Nat.lt_of_lt_of_le ((rq3_15.keep K25).wr W26).lt (Nat.le_of_eq g27.symm))))).other W29 (Or.inl (Nat.ne_of_lt (Nat.lt_of_lt_of_le (((Ea16.keep K17).ext E18).keep K19).lt (Nat.le_of_eq g20.symm)))))
  have rq5_20 := ((rq4_20.keep K28 (own_nin1 (Nat.ne_of_lt (Nat.lt_of_lt_of_le ((rq3_20.keep K25 (own_nin1 (Nat.ne_of_lt (Nat.lt_of_lt_of_le ((rq2_20.keep K22 (own_nin1 (Nat.ne_of_lt (Nat.lt_of_lt_of_le (((AP17.ext E18).keep K19 (own_nin1 (Nat.ne_of_lt (Nat.lt_of_lt_of_le AP17.lt (Nat.le_of_eq g18.symm))))).ext E20).lt (Nat.le_of_eq g21.symm))))).other W23 (Nat.ne_of_lt (Nat.lt_of_lt_of_le ((AP17.ext E18).keep K19 (own_nin1 (Nat.ne_of_lt (Nat.lt_of_lt_of_le AP17.lt (Nat.le_of_eq g18.symm))))).lt (Nat.le_of_eq g20.symm)))).lt (Nat.le_of_eq g24.symm))))).other W26 (Nat.ne_of_lt (Nat.lt_of_lt_of_le ((AP17.ext E18).keep K19 (own_nin1 (Nat.ne_of_lt (Nat.lt_of_lt_of_le AP17.lt (Nat.le_of_eq g18.symm))))).lt (Nat.le_of_eq g20.symm)))).lt (Nat.le_of_eq g27.symm))))).other W29 (Nat.ne_of_lt (Nat.lt_of_lt_of_le ((AP17.ext E18).keep K19 (own_nin1 (Nat.ne_of_lt (Nat.lt_of_lt_of_le AP17.lt (Nat.le_of_eq g18.symm))))).lt (Nat.le_of_eq g20.symm))))
  have rq5_21 := ((rq4_21.keep K28 (own_nin1 (Nat.ne_of_lt (Nat.lt_of_lt_of_le ((rq3_21.keep K25 (own_nin1 (Nat.ne_of_lt (Nat.lt_of_lt_of_le ((rq2_21.keep K22 (own_nin1 (Nat.ne_of_lt (Nat.lt_of_lt_of_le (((AR17.ext E18).keep K19 (own_nin1 (Nat.ne_of_lt (Nat.lt_of_lt_of_le AR17.lt (Nat.le_of_eq g18.symm))))).ext E20).lt (Nat.le_of_eq g21.symm))))).other W23 (Nat.ne_of_lt (Nat.lt_of_lt_of_le ((AR17.ext E18).keep K19 (own_nin1 (Nat.ne_of_lt (Nat.lt_of_lt_of_le AR17.lt (Nat.le_of_eq g18.symm))))).lt (Nat.le_of_eq g20.symm)))).lt (Nat.le_of_eq g24.symm))))).other W26 (Nat.ne_of_lt (Nat.lt_of_lt_of_le ((AR17.ext E18).keep K19 (own_nin1 (Nat.ne_of_lt (Nat.lt_of_lt_of_le AR17.lt (Nat.le_of_eq g18.symm))))).lt (Nat.le_of_eq g20.symm)))).lt (Nat.le_of_eq g27.symm))))).other W29 (Nat.ne_of_lt (Nat.lt_of_lt_of_le ((AR17.ext E18).keep K19 (own_nin1 (Nat.ne_of_lt (Nat.lt_of_lt_of_le AR17.lt (Nat.le_of_eq g18.symm))))).lt (Nat.le_of_eq g20.symm))))
  have rq5_22 := ((rq4_22.keep K28 (own_nin1 (Nat.ne_of_lt (Nat.lt_of_lt_of_le ((rq3_22.keep K25 (own_nin1 (Nat.ne_of_lt (Nat.lt_of_lt_of_le ((rq2_22.keep K22 (own_nin1 (Nat.ne_of_lt (Nat.lt_of_lt_of_le (((AF17.ext E18).keep K19 (own_nin1 (Nat.ne_of_lt (Nat.lt_of_lt_of_le AF17.lt (Nat.le_of_eq g18.symm))))).ext E20).lt (Nat.le_of_eq g21.symm))))).other W23 (Nat.ne_of_lt (Nat.lt_of_lt_of_le ((AF17.ext E18).keep K19 (own_nin1 (Nat.ne_of_lt (Nat.lt_of_lt_of_le AF17.lt (Nat.le_of_eq g18.symm))))).lt (Nat.le_of_eq g20.symm)))).lt (Nat.le_of_eq g24.symm))))).other W26 (Nat.ne_of_lt (Nat.lt_of_lt_of_le ((AF17.ext E18).keep K19 (own_nin1 (Nat.ne_of_lt (Nat.lt_of_lt_of_le AF17.lt (Nat.le_of_eq g18.symm))))).lt (Nat.le_of_eq g20.symm)))).lt (Nat.le_of_eq g27.symm))))).other W29 (Nat.ne_of_lt (Nat.lt_of_lt_of_le ((AF17.ext E18).keep K19 (own_nin1 (Nat.ne_of_lt (Nat.lt_of_lt_of_le AF17.lt (Nat.le_of_eq g18.symm))))).lt (Nat.le_of_eq g20.symm))))
  have rq5_23 := ((rq4_23.keep K28 (own_nin1 (Nat.ne_of_lt (Nat.lt_of_lt_of_le ((rq3_23.keep K25 (own_nin1 (Nat.ne_of_lt (Nat.lt_of_lt_of_le ((rq2_23.keep K22 (own_nin1 (Nat.ne_of_lt (Nat.lt_of_lt_of_le (((AE17.ext E18).keep K19 (own_nin1 (Nat.ne_of_lt (Nat.lt_of_lt_of_le AE17.lt (Nat.le_of_eq g18.symm))))).ext E20).lt (Nat.le_of_eq g21.symm))))).other W23 (Nat.ne_of_lt (Nat.lt_of_lt_of_le ((AE17.ext E18).keep K19 (own_nin1 (Nat.ne_of_lt (Nat.lt_of_lt_of_le AE17.lt (Nat.le_of_eq g18.symm))))).lt (Nat.le_of_eq g20.symm)))).lt (Nat.le_of_eq g24.symm))))).other W26 (Nat.ne_of_lt (Nat.lt_of_lt_of_le ((AE17.ext E18).keep K19 (own_nin1 (Nat.ne_of_lt (Nat.lt_of_lt_of_le AE17.lt (Nat.le_of_eq g18.symm))))).lt (Nat.le_of_eq g20.symm)))).lt (Nat.le_of_eq g27.symm))))).other W29 (Nat.ne_of_lt (Nat.lt_of_lt_of_le ((AE17.ext E18).keep K19 (own_nin1 (Nat.ne_of_lt (Nat.lt_of_lt_of_le AE17.lt (Nat.le_of_eq g18.symm))))).lt (Nat.le_of_eq g20.symm))))
  have rq5_24 := ((rq4_24.keep K28 (own_nin1 (Nat.ne_of_lt (Nat.lt_of_lt_of_le ((rq3_24.keep K25 (own_nin1 (Nat.ne_of_lt (Nat.lt_of_lt_of_le ((rq2_24.keep K22 (own_nin1 (Nat.ne_of_lt (Nat.lt_of_lt_of_le (((AT17.ext E18).keep K19 (own_nin1 (Nat.ne_of_lt (Nat.lt_of_lt_of_le AT17.lt (Nat.le_of_eq g18.symm))))).ext E20).lt (Nat.le_of_eq g21.symm))))).other W23 (Nat.ne_of_lt (Nat.lt_of_lt_of_le ((AT17.ext E18).keep K19 (own_nin1 (Nat.ne_of_lt (Nat.lt_of_lt_of_le AT17.lt (Nat.le_of_eq g18.symm))))).lt (Nat.le_of_eq g20.symm)))).lt (Nat.le_of_eq g24.symm))))).other W26 (Nat.ne_of_lt (Nat.lt_of_lt_of_le ((AT17.ext E18).keep K19 (own_nin1 (Nat.ne_of_lt (Nat.lt_of_lt_of_le AT17.lt (Nat.le_of_eq g18.symm))))).lt (Nat.le_of_eq g20.symm)))).lt (Nat.le_of_eq g27.symm))))).other W29 (Nat.ne_of_lt (Nat.lt_of_lt_of_le ((AT17.ext E18).keep K19 (own_nin1 (Nat.ne_of_lt (Nat.lt_of_lt_of_le AT17.lt (Nat.le_of_eq g18.symm))))).lt (Nat.le_of_eq g20.symm))))
  have rq5_25 := ((rq4_25.keep K28 (own_nin1 (Nat.ne_of_lt (Nat.lt_of_lt_of_le ((rq3_25.keep K25 (own_nin1 (Nat.ne_of_lt (Nat.lt_of_lt_of_le ((rq2_25.keep K22 (own_nin1 (Nat.ne_of_lt (Nat.lt_of_lt_of_le (((AA17.ext E18).keep K19 (own_nin1 (Nat.ne_of_lt (Nat.lt_of_lt_of_le AA17.lt (Nat.le_of_eq g18.symm))))).ext E20).lt (Nat.le_of_eq g21.symm))))).other W23 (Nat.ne_of_lt (Nat.lt_of_lt_of_le ((AA17.ext E18).keep K19 (own_nin1 (Nat.ne_of_lt (Nat.lt_of_lt_of_le AA17.lt (Nat.le_of_eq g18.symm))))).lt (Nat.le_of_eq g20.symm)))).lt (Nat.le_of_eq g24.symm))))).other W26 (Nat.ne_of_lt (Nat.lt_of_lt_of_le ((AA17.ext E18).keep K19 (own_nin1 (Nat.ne_of_lt (Nat.lt_of_lt_of_le AA17.lt (Nat.le_of_eq g18.symm))))).lt (Nat.le_of_eq g20.symm)))).lt (Nat.le_of_eq g27.symm))))).other W29 (Nat.ne_of_lt (Nat.lt_of_lt_of_le ((AA17.ext E18).keep K19 (own_nin1 (Nat.ne_of_lt (Nat.lt_of_lt_of_le AA17.lt (Nat.le_of_eq g18.symm))))).lt (Nat.le_of_eq g20.symm))))
  have rq5_27 := ((rq4_27.keep K28 (own_nin1 (Nat.ne_of_lt (Nat.lt_of_lt_of_le ((rq3_26.keep K25).wr W26).lt (Nat.le_of_eq g27.symm))))).other W29 (Or.inl (Nat.ne_of_lt (Nat.lt_of_lt_of_le ((EL17.ext E18).keep K19).lt (Nat.le_of_eq g20.symm)))))
  have rq5_28 := ((rq4_28.keep K28 (own_nin1 (Nat.ne_of_lt (Nat.lt_of_lt_of_le ((rq3_26.keep K25).wr W26).lt (Nat.le_of_eq g27.symm))))).other W29 (Or.inl (Nat.ne_of_lt (Nat.lt_of_lt_of_le ((EL17.ext E18).keep K19).lt (Nat.le_of_eq g20.symm)))))
  have rq5_29 := ((rq4_29.keep K28 (own_nin1 (Nat.ne_of_lt (Nat.lt_of_lt_of_le ((rq3_26.keep K25).wr W26).lt (Nat.le_of_eq g27.symm))))).other W29 (Or.inl (Nat.ne_of_lt (Nat.lt_of_lt_of_le ((EL17.ext E18).keep K19).lt (Nat.le_of_eq g20.symm)))))
  have rq5_32 := ((rq4_32.keep K28 (own_nin1 (Nat.ne_of_lt (Nat.lt_of_lt_of_le ((rq3_30.keep K25).wr W26).lt (Nat.le_of_eq g27.symm))))).other W29 (Or.inl (Nat.ne_of_lt (Nat.lt_of_lt_of_le Ea19.lt (Nat.le_of_eq g20.symm)))))
  have rq5_33 := ((rq4_33.keep K28 (own_nin1 (Nat.ne_of_lt (Nat.lt_of_lt_of_le ((rq3_30.keep K25).wr W26).lt (Nat.le_of_eq g27.symm))))).other W29 (Or.inl (Nat.ne_of_lt (Nat.lt_of_lt_of_le Ea19.lt (Nat.le_of_eq g20.symm)))))
  have rq5_37 := ((rq4_37.keep K28 (own_nin1 (Nat.ne_of_lt (Nat.lt_of_lt_of_le ((((Ea22.wr W23).ext E24).keep K25).wr W26).lt (Nat.le_of_eq g27.symm))))).other W29 (Or.inl (Ne.symm (Nat.ne_of_lt (Nat.lt_of_lt_of_le VV_b20.lt (Nat.le_of_eq g21.symm))))))
  have rq5_38 := ((rq4_38.keep K28 (own_nin1 (Nat.ne_of_lt (Nat.lt_of_lt_of_le ((((Ea22.wr W23).ext E24).keep K25).wr W26).lt (Nat.le_of_eq g27.symm))))).other W29 (Or.inl (Ne.symm (Nat.ne_of_lt (Nat.lt_of_lt_of_le VV_b20.lt (Nat.le_of_eq g21.symm))))))
  have rq5_39 := ((((Ea25.wr W26).ext E27).keep K28).wr W29)
  have rq5_41 := ((rq4_41.keep K28 (own_nin1 (Nat.ne_of_lt (Nat.lt_of_lt_of_le (Ea25.wr W26).lt (Nat.le_of_eq g27.symm))))).other W29 (Or.inl (Ne.symm (Nat.ne_of_lt (Nat.lt_of_lt_of_le V23.lt (Nat.le_of_eq g24.symm))))))
  have rq5_42 := ((rq4_42.keep K28 (own_nin1 (Nat.ne_of_lt (Nat.lt_of_lt_of_le (Ea25.wr W26).lt (Nat.le_of_eq g27.symm))))).other W29 (Or.inl (Ne.symm (Nat.ne_of_lt (Nat.lt_of_lt_of_le V23.lt (Nat.le_of_eq g24.symm))))))
  have rq5_45 := (Fa28_0.other W29 (Or.inl (Ne.symm (Nat.ne_of_lt (Nat.lt_of_lt_of_le V26.lt (Nat.le_of_eq g27.symm))))))
  have rq5_46 := (Fa28_1.other W29 (Or.inl (Ne.symm (Nat.ne_of_lt (Nat.lt_of_lt_of_le V26.lt (Nat.le_of_eq g27.symm))))))
  have nq5_7 : b14 ≠ b21 := (Nat.ne_of_lt (Nat.lt_of_lt_of_le (((EG17.ext E18).keep K19).ext E20).lt (Nat.le_of_eq g21.symm)))
  have nq5_14 : aL17 ≠ b21 := (Nat.ne_of_lt (Nat.lt_of_lt_of_le (((EL17.ext E18).keep K19).ext E20).lt (Nat.le_of_eq g21.symm)))
  have nq5_20 : aP17 ≠ b21 := (Nat.ne_of_lt (Nat.lt_of_lt_of_le (((AP17.ext E18).keep K19 (own_nin1 (Nat.ne_of_lt (Nat.lt_of_lt_of_le AP17.lt (Nat.le_of_eq g18.symm))))).ext E20).lt (Nat.le_of_eq g21.symm)))
  have nq5_25 : aR17 ≠ b21 := (Nat.ne_of_lt (Nat.lt_of_lt_of_le (((AR17.ext E18).keep K19 (own_nin1 (Nat.ne_of_lt (Nat.lt_of_lt_of_le AR17.lt (Nat.le_of_eq g18.symm))))).ext E20).lt (Nat.le_of_eq g21.symm)))
  have nq5_29 : aF17 ≠ b21 := (Nat.ne_of_lt (Nat.lt_of_lt_of_le (((AF17.ext E18).keep K19 (own_nin1 (Nat.ne_of_lt (Nat.lt_of_lt_of_le AF17.lt (Nat.le_of_eq g18.symm))))).ext E20).lt (Nat.le_of_eq g21.symm)))
  have nq5_32 : aE17 ≠ b21 := (Nat.ne_of_lt (Nat.lt_of_lt_of_le (((AE17.ext E18).keep K19 (own_nin1 (Nat.ne_of_lt (Nat.lt_of_lt_of_le AE17.lt (Nat.le_of_eq g18.symm))))).ext E20).lt (Nat.le_of_eq g21.symm)))
  have nq5_34 : aT17 ≠ b21 := (Nat.ne_of_lt (Nat.lt_of_lt_of_le (((AT17.ext E18).keep K19 (own_nin1 (Nat.ne_of_lt (Nat.lt_of_lt_of_le AT17.lt (Nat.le_of_eq g18.symm))))).ext E20).lt (Nat.le_of_eq g21.symm)))
  have nq5_35 : aA17 ≠ b21 := (Nat.ne_of_lt (Nat.lt_of_lt_of_le (((AA17.ext E18).keep K19 (own_nin1 (Nat.ne_of_lt (Nat.lt_of_lt_of_le AA17.lt (Nat.le_of_eq g18.symm))))).ext E20).lt (Nat.le_of_eq g21.symm)))
  have Dn31 : [b14, aL17, aP17, aR17, aF17, aE17, aT17, aA17, b21, xD].Pairwise (· ≠ ·) := (List.Pairwise.cons (allS (own_nd D17 0 1 rfl rfl (by decide)) (allS (own_nd D17 0 2 rfl rfl (by decide)) (allS (own_nd D17 0 3 rfl rfl (by decide)) (allS (own_nd D17 0 4 rfl rfl (by decide)) (allS (own_nd D17 0 5 rfl rfl (by decide)) (allS (own_nd D17 0 6 rfl rfl (by decide)) (allS (own_nd D17 0 7 rfl rfl (by decide)) (allS nq5_7 (allS (Ne.symm (Nat.ne_of_lt (Nat.lt_of_lt_of_le xlt g_b14))) all0))))))))) (List.Pairwise.cons (allS (own_nd D17 1 2 rfl rfl (by decide)) (allS (own_nd D17 1 3 rfl rfl (by decide)) (allS (own_nd D17 1 4 rfl rfl (by decide)) (allS (own_nd D17 1 5 rfl rfl (by decide)) (allS (own_nd D17 1 6 rfl rfl (by decide)) (allS (own_nd D17 1 7 rfl rfl (by decide)) (allS nq5_14 (allS (Ne.symm (Nat.ne_of_lt (Nat.lt_of_lt_of_le xlt g_aL17))) all0)))))))) (List.Pairwise.cons (allS (own_nd D17 2 3 rfl rfl (by decide)) (allS (own_nd D17 2 4 rfl rfl (by decide)) (allS (own_nd D17 2 5 rfl rfl (by decide)) (allS (own_nd D17 2 6 rfl rfl (by decide)) (allS (own_nd D17 2 7 rfl rfl (by decide)) (allS nq5_20 (allS (Ne.symm (Nat.ne_of_lt (Nat.lt_of_lt_of_le xlt g_aP17))) all0))))))) (List.Pairwise.cons (allS (own_nd D17 3 4 rfl rfl (by decide)) (allS (own_nd D17 3 5 rfl rfl (by decide)) (allS (own_nd D17 3 6 rfl rfl (by decide)) (allS (own_nd D17 3 7 rfl rfl (by decide)) (allS nq5_25 (allS (Ne.symm (Nat.ne_of_lt (Nat.lt_of_lt_of_le xlt g_aR17))) all0)))))) (List.Pairwise.cons (allS (own_nd D17 4 5 rfl rfl (by decide)) (allS (own_nd D17 4 6 rfl rfl (by decide)) (allS (own_nd D17 4 7 rfl rfl (by decide)) (allS nq5_29 (allS (Ne.symm (Nat.ne_of_lt (Nat.lt_of_lt_of_le xlt g_aF17))) all0))))) (List.Pairwise.cons (allS (own_nd D17 5 6 rfl rfl (by decide)) (allS (own_nd D17 5 7 rfl rfl (by decide)) (allS nq5_32 (allS (Ne.symm (Nat.ne_of_lt (Nat.lt_of_lt_of_le xlt g_aE17))) all0)))) (List.Pairwise.cons (allS (own_nd D17 6 7 rfl rfl (by decide)) (allS nq5_34 (allS (Ne.symm (Nat.ne_of_lt (Nat.lt_of_lt_of_le xlt g_aT17))) all0))) (List.Pairwise.cons (allS nq5_35 (allS (Ne.symm (Nat.ne_of_lt (Nat.lt_of_lt_of_le xlt g_aA17))) all0)) (List.Pairwise.cons (allS (Ne.symm (Nat.ne_of_lt (Nat.lt_of_lt_of_le xlt g_b21))) all0) (List.Pairwise.cons all0 List.Pairwise.nil))))))))))
  have GNn31 : ∀ x ∈ [b14, aL17, aP17, aR17, aF17, aE17, aT17, aA17, b21], n0 ≤ x := (allS g_b14 (allS g_aL17 (allS g_aP17 (allS g_aR17 (allS g_aF17 (allS g_aE17 (allS g_aT17 (allS g_aA17 (allS g_b21 all0)))))))))
  obtain ⟨cq31, kq31, q31a, q31b, q31c⟩ := isOf hZ e29 ((rq4_2.keep K28).wr W29)
  obtain ⟨_, _, ⟨T31, L31, k31, n31⟩, -, X31, ⟨Lc31, hQ31, l31, y31, z31⟩, st31⟩ := X29.virtualBack hx (y := (⟨"com/example/changeset/changeset/check/StateGraph", "add", "(Lcom/example/changeset/changeset/check/FoundState;II)Z"⟩ : MethodName)) (z := (⟨"com/example/changeset/changeset/check/StateGraph", "add", "(Lcom/example/changeset/changeset/check/FoundState;II)Z"⟩ : MethodName)) hown (mvT hZ (hw _ (List.mem_of_getElem? (i := 117) rfl))) (mvT hZ (hw _ (List.mem_of_getElem? (i := 118) rfl))) (notFace_of_selects (args := #[]) (mvT hZ (hw _ (List.mem_of_getElem? (i := 120) rfl)))) (mvT hZ (hw _ (List.mem_of_getElem? (i := 120) rfl))) (mvT hZ (hw _ (List.mem_of_getElem? (i := 119) rfl))) (by decide) (backOf (W := 0) (rm16A l Z aZ hw [] b14 b21 aL17 aP17 aR17 aF17 aE17 aT17 aA17 (-1 : Int32) 0 0 (fun _ => 0) (fun _ => 0) xD b18 h29 n0 (Nat.le_trans (Nat.le_trans (Nat.le_trans (Nat.le_trans (Nat.le_trans (Nat.le_trans (Nat.le_trans (Nat.le_trans (Nat.le_trans (Nat.le_trans (Nat.le_trans (Nat.le_trans (Nat.le_trans (Nat.le_trans (Nat.le_trans (Nat.le_trans Z0 E14.1) E15.1) K16.1) K17.1) E18.1) K19.1) E20.1) E21.1) K22.1) (Keep.of_wr W23).1) E24.1) K25.1) (Keep.of_wr W26).1) E27.1) K28.1) (Keep.of_wr W29).1) rq5_0 ⟨((rq4_2.keep K28).wr W29), rq5_4, rq5_5, rq5_6, rq5_7, rq5_8, rq5_9, rq5_10, rq5_11, rq5_12, rq5_13, rq5_14, ⟨_, rq5_20⟩, ⟨_, rq5_21⟩, rq5_22, rq5_23, ⟨_, rq5_24⟩, ⟨_, rq5_25⟩⟩ ⟨((rq4_26.keep K28).wr W29), ⟨_, rq5_27⟩, rq5_28, rq5_29, rq5_1⟩ ((rq4_35.keep K28).wr W29) rq5_37 rq5_38 Dn31 GNn31 (Ins.of_exa ((rq4_30.keep K28).wr W29) (hw _ (List.mem_of_getElem? (i := 171) rfl)))) hZ (hw _ (List.mem_of_getElem? (i := 121) rfl)) (hw _ (List.mem_of_getElem? (i := 20) rfl)) (by decide) (by decide)) q31a q31c (g := (mkF m 192 #[.val (.int p0), .val (.int p1), .val (.int p2), .val (.int p3), .val (.int y4), .val (.int y5), .val (.int y6), .val (.int y7), .val (.int y8), .val (.int y9), .val (.int y10), .val (.int y11), .val (.int y12), .val (.int y13), .val (.int y14), .val (.int y15), .val (.int y16), .val (.ref b14), .val (.ref b18), .val (.ref b20), .unset, .unset] [(.int (-1 : Int32)), (.int (-1 : Int32)), (.ref b21), (.ref b14)])) rfl (by rw [hml]; rfl) (Steps.refl _) (argsL := [(.ref b21), (.int (-1 : Int32)), (.int (-1 : Int32))]) (rest := []) (lenOf pd_25 rfl) rfl (by show 2 * 0 + _ ≤ _; exact Nat.le_of_eq rfl) (hb hby at_192) (fun _ _ => ⟨rfl, e29, (by decide : 15 + 1 ≤ _), (by decide : 6189 + 10 ≤ _)⟩)
  dsimp only [Pt.U, Pt.locs, Pt.cells, Pt.slots] at X31 l31 y31 z31 st31 hQ31
  try dsimp only [Nat.reduceAdd] at y31 z31
  subst y31 z31
  obtain ⟨d31, rfl, N31q, K31, szd31, HG31, HL31, fsE31, fsN31, fsS31⟩ := hQ31
  have N31 : Fr n0 L31 := by rw [l31]; exact Fr.app N29 N31q
  refine .pre (fun _ kq => st31.trans kq) ?_
  have g_d31 : n0 ≤ d31 := Nat.le_trans (Nat.le_trans (Nat.le_trans (Nat.le_trans (Nat.le_trans (Nat.le_trans (Nat.le_trans (Nat.le_trans (Nat.le_trans (Nat.le_trans (Nat.le_trans (Nat.le_trans (Nat.le_trans (Nat.le_trans (Nat.le_trans (Nat.le_trans (Nat.le_trans Z0 E14.1) E15.1) K16.1) K17.1) E18.1) K19.1) E20.1) E21.1) K22.1) (Keep.of_wr W23).1) E24.1) K25.1) (Keep.of_wr W26).1) E27.1) K28.1) (Keep.of_wr W29).1) szd31
  show OwnEnds p e below _ (T31.setTop (mkF m 195 #[.val (.int p0), .val (.int p1), .val (.int p2), .val (.int p3), .val (.int y4), .val (.int y5), .val (.int y6), .val (.int y7), .val (.int y8), .val (.int y9), .val (.int y10), .val (.int y11), .val (.int y12), .val (.int y13), .val (.int y14), .val (.int y15), .val (.int y16), .val (.ref b14), .val (.ref b18), .val (.ref b20), .unset, .unset] [(.int (1 : Int32))]))
  refine .pre (fun _ kq => XS.pop X31.here hx rfl (hb hby at_195) rfl rfl kq) ?_
  show OwnEnds p e below _ (T31.setTop (mkF m 196 #[.val (.int p0), .val (.int p1), .val (.int p2), .val (.int p3), .val (.int y4), .val (.int y5), .val (.int y6), .val (.int y7), .val (.int y8), .val (.int y9), .val (.int y10), .val (.int y11), .val (.int y12), .val (.int y13), .val (.int y14), .val (.int y15), .val (.int y16), .val (.ref b14), .val (.ref b18), .val (.ref b20), .unset, .unset] []))
  refine .pre (fun _ kq => XS.aload X31.here hx rfl (hb hby at_196) rfl rfl kq) ?_
  show OwnEnds p e below _ (T31.setTop (mkF m 198 #[.val (.int p0), .val (.int p1), .val (.int p2), .val (.int p3), .val (.int y4), .val (.int y5), .val (.int y6), .val (.int y7), .val (.int y8), .val (.int y9), .val (.int y10), .val (.int y11), .val (.int y12), .val (.int y13), .val (.int y14), .val (.int y15), .val (.int y16), .val (.ref b14), .val (.ref b18), .val (.ref b20), .unset, .unset] [(.ref b14)]))
  refine .pre (fun _ kq => XS.aload X31.here hx rfl (hb hby at_198) rfl rfl kq) ?_
  show OwnEnds p e below _ (T31.setTop (mkF m 200 #[.val (.int p0), .val (.int p1), .val (.int p2), .val (.int p3), .val (.int y4), .val (.int y5), .val (.int y6), .val (.int y7), .val (.int y8), .val (.int y9), .val (.int y10), .val (.int y11), .val (.int y12), .val (.int y13), .val (.int y14), .val (.int y15), .val (.int y16), .val (.ref b14), .val (.ref b18), .val (.ref b20), .unset, .unset] [(.ref b20), (.ref b14)]))
  refine .pre (fun _ kq => XS.iconst X31.here hx rfl (hb hby at_200) kq) ?_
  show OwnEnds p e below _ (T31.setTop (mkF m 201 #[.val (.int p0), .val (.int p1), .val (.int p2), .val (.int p3), .val (.int y4), .val (.int y5), .val (.int y6), .val (.int y7), .val (.int y8), .val (.int y9), .val (.int y10), .val (.int y11), .val (.int y12), .val (.int y13), .val (.int y14), .val (.int y15), .val (.int y16), .val (.ref b14), .val (.ref b18), .val (.ref b20), .unset, .unset] [(.int (1 : Int32)), (.ref b20), (.ref b14)]))
  obtain ⟨cl32, Ar32, qa32, qs32, qn32, qh32, qg32⟩ := id (V29.keep K31 (own_nin5 (Ne.symm (Nat.ne_of_lt (Nat.lt_of_lt_of_le ((EG17.ext E18).keep K19).lt (Nat.le_of_eq g20.symm)))) (Ne.symm (Nat.ne_of_lt (Nat.lt_of_lt_of_le ((EL17.ext E18).keep K19).lt (Nat.le_of_eq g20.symm)))) (Ne.symm (Nat.ne_of_lt (Nat.lt_of_lt_of_le ((AP17.ext E18).keep K19 (own_nin1 (Nat.ne_of_lt (Nat.lt_of_lt_of_le AP17.lt (Nat.le_of_eq g18.symm))))).lt (Nat.le_of_eq g20.symm)))) (Ne.symm (Nat.ne_of_lt (Nat.lt_of_lt_of_le ((AR17.ext E18).keep K19 (own_nin1 (Nat.ne_of_lt (Nat.lt_of_lt_of_le AR17.lt (Nat.le_of_eq g18.symm))))).lt (Nat.le_of_eq g20.symm)))) (Nat.ne_of_lt (Nat.lt_of_lt_of_le VV_b20.lt (Nat.le_of_eq g21.symm)))))
  have hin32 : ¬ ((1 : Int32) < 0 ∨ cl32.slots.size ≤ ((1 : Int32)).toNatClampNeg) := inb_of qs32 ⟨by decide, by decide⟩
  have hat32 : cl32.slots[((1 : Int32)).toNatClampNeg]? = some (.ref b24) := (qh32 _ (Nat.lt_of_not_le fun y => hin32 (Or.inr y))).trans (congrArg some rfl)
  refine .pre (fun _ kq => X31.aaload hx (j := (1 : Int32)) (v := (.ref b24)) (by first | exact Ar32.1 | (rw [rfl]; exact Ar32.1)) (State.isArrayOf_alike hZ.alike Ar32.2.1) rfl Ar32.2.2 hin32 hat32 (g := (mkF m 201 #[.val (.int p0), .val (.int p1), .val (.int p2), .val (.int p3), .val (.int y4), .val (.int y5), .val (.int y6), .val (.int y7), .val (.int y8), .val (.int y9), .val (.int y10), .val (.int y11), .val (.int y12), .val (.int y13), .val (.int y14), .val (.int y15), .val (.int y16), .val (.ref b14), .val (.ref b18), .val (.ref b20), .unset, .unset] [(.int (1 : Int32)), (.ref b20), (.ref b14)])) rfl rfl (hb hby at_201) _ kq) ?_
  show OwnEnds p e below _ (T31.setTop (mkF m 202 #[.val (.int p0), .val (.int p1), .val (.int p2), .val (.int p3), .val (.int y4), .val (.int y5), .val (.int y6), .val (.int y7), .val (.int y8), .val (.int y9), .val (.int y10), .val (.int y11), .val (.int y12), .val (.int y13), .val (.int y14), .val (.int y15), .val (.int y16), .val (.ref b14), .val (.ref b18), .val (.ref b20), .unset, .unset] [(.ref b24), (.ref b14)]))
  refine .pre (fun _ kq => XS.iconst X31.here hx rfl (hb hby at_202) kq) ?_
  show OwnEnds p e below _ (T31.setTop (mkF m 203 #[.val (.int p0), .val (.int p1), .val (.int p2), .val (.int p3), .val (.int y4), .val (.int y5), .val (.int y6), .val (.int y7), .val (.int y8), .val (.int y9), .val (.int y10), .val (.int y11), .val (.int y12), .val (.int y13), .val (.int y14), .val (.int y15), .val (.int y16), .val (.ref b14), .val (.ref b18), .val (.ref b20), .unset, .unset] [(.int (-1 : Int32)), (.ref b24), (.ref b14)]))
  refine .pre (fun _ kq => XS.iconst X31.here hx rfl (hb hby at_203) kq) ?_
  show OwnEnds p e below _ (T31.setTop (mkF m 204 #[.val (.int p0), .val (.int p1), .val (.int p2), .val (.int p3), .val (.int y4), .val (.int y5), .val (.int y6), .val (.int y7), .val (.int y8), .val (.int y9), .val (.int y10), .val (.int y11), .val (.int y12), .val (.int y13), .val (.int y14), .val (.int y15), .val (.int y16), .val (.ref b14), .val (.ref b18), .val (.ref b20), .unset, .unset] [(.int (-1 : Int32)), (.int (-1 : Int32)), (.ref b24), (.ref b14)]))
  have rq6_0 := (((rq4_2.keep K28).wr W29).keep K31)
  have rq6_2 := (((rq4_15.keep K28).wr W29).keep K31)
  have rq6_7 := (((rq4_26.keep K28).wr W29).keep K31)
  have rq6_8 := (((rq4_30.keep K28).wr W29).keep K31)
  have rq6_10 := (rq5_32.keep K31 (own_nin5 (Ne.symm (Nat.ne_of_lt (Nat.lt_of_lt_of_le EG17.lt (Nat.le_of_eq g18.symm)))) (Ne.symm (Nat.ne_of_lt (Nat.lt_of_lt_of_le EL17.lt (Nat.le_of_eq g18.symm)))) (Ne.symm (Nat.ne_of_lt (Nat.lt_of_lt_of_le AP17.lt (Nat.le_of_eq g18.symm)))) (Ne.symm (Nat.ne_of_lt (Nat.lt_of_lt_of_le AR17.lt (Nat.le_of_eq g18.symm)))) (Nat.ne_of_lt (Nat.lt_of_lt_of_le (Ea19.ext E20).lt (Nat.le_of_eq g21.symm)))))
  have rq6_11 := (rq5_33.keep K31 (own_nin5 (Ne.symm (Nat.ne_of_lt (Nat.lt_of_lt_of_le EG17.lt (Nat.le_of_eq g18.symm)))) (Ne.symm (Nat.ne_of_lt (Nat.lt_of_lt_of_le EL17.lt (Nat.le_of_eq g18.symm)))) (Ne.symm (Nat.ne_of_lt (Nat.lt_of_lt_of_le AP17.lt (Nat.le_of_eq g18.symm)))) (Ne.symm (Nat.ne_of_lt (Nat.lt_of_lt_of_le AR17.lt (Nat.le_of_eq g18.symm)))) (Nat.ne_of_lt (Nat.lt_of_lt_of_le (Ea19.ext E20).lt (Nat.le_of_eq g21.symm)))))
  have rq6_12 := (V29.keep K31 (own_nin5 (Ne.symm (Nat.ne_of_lt (Nat.lt_of_lt_of_le ((EG17.ext E18).keep K19).lt (Nat.le_of_eq g20.symm)))) (Ne.symm (Nat.ne_of_lt (Nat.lt_of_lt_of_le ((EL17.ext E18).keep K19).lt (Nat.le_of_eq g20.symm)))) (Ne.symm (Nat.ne_of_lt (Nat.lt_of_lt_of_le ((AP17.ext E18).keep K19 (own_nin1 (Nat.ne_of_lt (Nat.lt_of_lt_of_le AP17.lt (Nat.le_of_eq g18.symm))))).lt (Nat.le_of_eq g20.symm)))) (Ne.symm (Nat.ne_of_lt (Nat.lt_of_lt_of_le ((AR17.ext E18).keep K19 (own_nin1 (Nat.ne_of_lt (Nat.lt_of_lt_of_le AR17.lt (Nat.le_of_eq g18.symm))))).lt (Nat.le_of_eq g20.symm)))) (Nat.ne_of_lt (Nat.lt_of_lt_of_le VV_b20.lt (Nat.le_of_eq g21.symm)))))
  have rq6_19 := (rq5_41.keep K31 (own_nin5 (Ne.symm (Nat.ne_of_lt (Nat.lt_of_lt_of_le ((rq2_2.keep K22).wr W23).lt (Nat.le_of_eq g24.symm)))) (Ne.symm (Nat.ne_of_lt (Nat.lt_of_lt_of_le ((rq2_26.keep K22).wr W23).lt (Nat.le_of_eq g24.symm)))) (Ne.symm (Nat.ne_of_lt (Nat.lt_of_lt_of_le ((rq2_20.keep K22 (own_nin1 nq5_20)).other W23 (Nat.ne_of_lt (Nat.lt_of_lt_of_le ((AP17.ext E18).keep K19 (own_nin1 (Nat.ne_of_lt (Nat.lt_of_lt_of_le AP17.lt (Nat.le_of_eq g18.symm))))).lt (Nat.le_of_eq g20.symm)))).lt (Nat.le_of_eq g24.symm)))) (Ne.symm (Nat.ne_of_lt (Nat.lt_of_lt_of_le ((rq2_21.keep K22 (own_nin1 nq5_25)).other W23 (Nat.ne_of_lt (Nat.lt_of_lt_of_le ((AR17.ext E18).keep K19 (own_nin1 (Nat.ne_of_lt (Nat.lt_of_lt_of_le AR17.lt (Nat.le_of_eq g18.symm))))).lt (Nat.le_of_eq g20.symm)))).lt (Nat.le_of_eq g24.symm)))) (Ne.symm (Nat.ne_of_lt (Nat.lt_of_lt_of_le (Ea22.wr W23).lt (Nat.le_of_eq g24.symm))))))
  have rq6_20 := (rq5_42.keep K31 (own_nin5 (Ne.symm (Nat.ne_of_lt (Nat.lt_of_lt_of_le ((rq2_2.keep K22).wr W23).lt (Nat.le_of_eq g24.symm)))) (Ne.symm (Nat.ne_of_lt (Nat.lt_of_lt_of_le ((rq2_26.keep K22).wr W23).lt (Nat.le_of_eq g24.symm)))) (Ne.symm (Nat.ne_of_lt (Nat.lt_of_lt_of_le ((rq2_20.keep K22 (own_nin1 nq5_20)).other W23 (Nat.ne_of_lt (Nat.lt_of_lt_of_le ((AP17.ext E18).keep K19 (own_nin1 (Nat.ne_of_lt (Nat.lt_of_lt_of_le AP17.lt (Nat.le_of_eq g18.symm))))).lt (Nat.le_of_eq g20.symm)))).lt (Nat.le_of_eq g24.symm)))) (Ne.symm (Nat.ne_of_lt (Nat.lt_of_lt_of_le ((rq2_21.keep K22 (own_nin1 nq5_25)).other W23 (Nat.ne_of_lt (Nat.lt_of_lt_of_le ((AR17.ext E18).keep K19 (own_nin1 (Nat.ne_of_lt (Nat.lt_of_lt_of_le AR17.lt (Nat.le_of_eq g18.symm))))).lt (Nat.le_of_eq g20.symm)))).lt (Nat.le_of_eq g24.symm)))) (Ne.symm (Nat.ne_of_lt (Nat.lt_of_lt_of_le (Ea22.wr W23).lt (Nat.le_of_eq g24.symm))))))
  have rq6_23 := (rq5_45.keep K31 (own_nin5 (Ne.symm (Nat.ne_of_lt (Nat.lt_of_lt_of_le ((rq3_2.keep K25).wr W26).lt (Nat.le_of_eq g27.symm)))) (Ne.symm (Nat.ne_of_lt (Nat.lt_of_lt_of_le ((rq3_26.keep K25).wr W26).lt (Nat.le_of_eq g27.symm)))) (Ne.symm (Nat.ne_of_lt (Nat.lt_of_lt_of_le ((rq3_20.keep K25 (own_nin1 (Nat.ne_of_lt (Nat.lt_of_lt_of_le ((rq2_20.keep K22 (own_nin1 nq5_20)).other W23 (Nat.ne_of_lt (Nat.lt_of_lt_of_le ((AP17.ext E18).keep K19 (own_nin1 (Nat.ne_of_lt (Nat.lt_of_lt_of_le AP17.lt (Nat.le_of_eq g18.symm))))).lt (Nat.le_of_eq g20.symm)))).lt (Nat.le_of_eq g24.symm))))).other W26 (Nat.ne_of_lt (Nat.lt_of_lt_of_le ((AP17.ext E18).keep K19 (own_nin1 (Nat.ne_of_lt (Nat.lt_of_lt_of_le AP17.lt (Nat.le_of_eq g18.symm))))).lt (Nat.le_of_eq g20.symm)))).lt (Nat.le_of_eq g27.symm)))) (Ne.symm (Nat.ne_of_lt (Nat.lt_of_lt_of_le ((rq3_21.keep K25 (own_nin1 (Nat.ne_of_lt (Nat.lt_of_lt_of_le ((rq2_21.keep K22 (own_nin1 nq5_25)).other W23 (Nat.ne_of_lt (Nat.lt_of_lt_of_le ((AR17.ext E18).keep K19 (own_nin1 (Nat.ne_of_lt (Nat.lt_of_lt_of_le AR17.lt (Nat.le_of_eq g18.symm))))).lt (Nat.le_of_eq g20.symm)))).lt (Nat.le_of_eq g24.symm))))).other W26 (Nat.ne_of_lt (Nat.lt_of_lt_of_le ((AR17.ext E18).keep K19 (own_nin1 (Nat.ne_of_lt (Nat.lt_of_lt_of_le AR17.lt (Nat.le_of_eq g18.symm))))).lt (Nat.le_of_eq g20.symm)))).lt (Nat.le_of_eq g27.symm)))) (Ne.symm (Nat.ne_of_lt (Nat.lt_of_lt_of_le ((((Ea22.wr W23).ext E24).keep K25).wr W26).lt (Nat.le_of_eq g27.symm))))))
  have rq6_24 := (rq5_46.keep K31 (own_nin5 (Ne.symm (Nat.ne_of_lt (Nat.lt_of_lt_of_le ((rq3_2.keep K25).wr W26).lt (Nat.le_of_eq g27.symm)))) (Ne.symm (Nat.ne_of_lt (Nat.lt_of_lt_of_le ((rq3_26.keep K25).wr W26).lt (Nat.le_of_eq g27.symm)))) (Ne.symm (Nat.ne_of_lt (Nat.lt_of_lt_of_le ((rq3_20.keep K25 (own_nin1 (Nat.ne_of_lt (Nat.lt_of_lt_of_le ((rq2_20.keep K22 (own_nin1 nq5_20)).other W23 (Nat.ne_of_lt (Nat.lt_of_lt_of_le ((AP17.ext E18).keep K19 (own_nin1 (Nat.ne_of_lt (Nat.lt_of_lt_of_le AP17.lt (Nat.le_of_eq g18.symm))))).lt (Nat.le_of_eq g20.symm)))).lt (Nat.le_of_eq g24.symm))))).other W26 (Nat.ne_of_lt (Nat.lt_of_lt_of_le ((AP17.ext E18).keep K19 (own_nin1 (Nat.ne_of_lt (Nat.lt_of_lt_of_le AP17.lt (Nat.le_of_eq g18.symm))))).lt (Nat.le_of_eq g20.symm)))).lt (Nat.le_of_eq g27.symm)))) (Ne.symm (Nat.ne_of_lt (Nat.lt_of_lt_of_le ((rq3_21.keep K25 (own_nin1 (Nat.ne_of_lt (Nat.lt_of_lt_of_le ((rq2_21.keep K22 (own_nin1 nq5_25)).other W23 (Nat.ne_of_lt (Nat.lt_of_lt_of_le ((AR17.ext E18).keep K19 (own_nin1 (Nat.ne_of_lt (Nat.lt_of_lt_of_le AR17.lt (Nat.le_of_eq g18.symm))))).lt (Nat.le_of_eq g20.symm)))).lt (Nat.le_of_eq g24.symm))))).other W26 (Nat.ne_of_lt (Nat.lt_of_lt_of_le ((AR17.ext E18).keep K19 (own_nin1 (Nat.ne_of_lt (Nat.lt_of_lt_of_le AR17.lt (Nat.le_of_eq g18.symm))))).lt (Nat.le_of_eq g20.symm)))).lt (Nat.le_of_eq g27.symm)))) (Ne.symm (Nat.ne_of_lt (Nat.lt_of_lt_of_le ((((Ea22.wr W23).ext E24).keep K25).wr W26).lt (Nat.le_of_eq g27.symm))))))
  have nq6_7 : b14 ≠ b24 := (Nat.ne_of_lt (Nat.lt_of_lt_of_le ((rq2_2.keep K22).wr W23).lt (Nat.le_of_eq g24.symm)))
  have nq6_8 : b14 ≠ d31 := (Nat.ne_of_lt (Nat.lt_of_lt_of_le ((rq4_2.keep K28).wr W29).lt szd31))
  have nq6_15 : aL17 ≠ b24 := (Nat.ne_of_lt (Nat.lt_of_lt_of_le ((rq2_26.keep K22).wr W23).lt (Nat.le_of_eq g24.symm)))
  have nq6_16 : aL17 ≠ d31 := (Nat.ne_of_lt (Nat.lt_of_lt_of_le ((rq4_26.keep K28).wr W29).lt szd31))
  have nq6_22 : aP17 ≠ b24 := (Nat.ne_of_lt (Nat.lt_of_lt_of_le ((rq2_20.keep K22 (own_nin1 nq5_20)).other W23 (Nat.ne_of_lt (Nat.lt_of_lt_of_le ((AP17.ext E18).keep K19 (own_nin1 (Nat.ne_of_lt (Nat.lt_of_lt_of_le AP17.lt (Nat.le_of_eq g18.symm))))).lt (Nat.le_of_eq g20.symm)))).lt (Nat.le_of_eq g24.symm)))
  have nq6_23 : aP17 ≠ d31 := (Nat.ne_of_lt (Nat.lt_of_lt_of_le rq5_20.lt szd31))
  have nq6_28 : aR17 ≠ b24 := (Nat.ne_of_lt (Nat.lt_of_lt_of_le ((rq2_21.keep K22 (own_nin1 nq5_25)).other W23 (Nat.ne_of_lt (Nat.lt_of_lt_of_le ((AR17.ext E18).keep K19 (own_nin1 (Nat.ne_of_lt (Nat.lt_of_lt_of_le AR17.lt (Nat.le_of_eq g18.symm))))).lt (Nat.le_of_eq g20.symm)))).lt (Nat.le_of_eq g24.symm)))
  have nq6_29 : aR17 ≠ d31 := (Nat.ne_of_lt (Nat.lt_of_lt_of_le rq5_21.lt szd31))
  have nq6_33 : aF17 ≠ b24 := (Nat.ne_of_lt (Nat.lt_of_lt_of_le ((rq2_22.keep K22 (own_nin1 nq5_29)).other W23 (Nat.ne_of_lt (Nat.lt_of_lt_of_le ((AF17.ext E18).keep K19 (own_nin1 (Nat.ne_of_lt (Nat.lt_of_lt_of_le AF17.lt (Nat.le_of_eq g18.symm))))).lt (Nat.le_of_eq g20.symm)))).lt (Nat.le_of_eq g24.symm)))
  have nq6_34 : aF17 ≠ d31 := (Nat.ne_of_lt (Nat.lt_of_lt_of_le rq5_22.lt szd31))
  have nq6_37 : aE17 ≠ b24 := (Nat.ne_of_lt (Nat.lt_of_lt_of_le ((rq2_23.keep K22 (own_nin1 nq5_32)).other W23 (Nat.ne_of_lt (Nat.lt_of_lt_of_le ((AE17.ext E18).keep K19 (own_nin1 (Nat.ne_of_lt (Nat.lt_of_lt_of_le AE17.lt (Nat.le_of_eq g18.symm))))).lt (Nat.le_of_eq g20.symm)))).lt (Nat.le_of_eq g24.symm)))
  have nq6_38 : aE17 ≠ d31 := (Nat.ne_of_lt (Nat.lt_of_lt_of_le rq5_23.lt szd31))
  have nq6_40 : aT17 ≠ b24 := (Nat.ne_of_lt (Nat.lt_of_lt_of_le ((rq2_24.keep K22 (own_nin1 nq5_34)).other W23 (Nat.ne_of_lt (Nat.lt_of_lt_of_le ((AT17.ext E18).keep K19 (own_nin1 (Nat.ne_of_lt (Nat.lt_of_lt_of_le AT17.lt (Nat.le_of_eq g18.symm))))).lt (Nat.le_of_eq g20.symm)))).lt (Nat.le_of_eq g24.symm)))
  have nq6_41 : aT17 ≠ d31 := (Nat.ne_of_lt (Nat.lt_of_lt_of_le rq5_24.lt szd31))
  have nq6_42 : aA17 ≠ b24 := (Nat.ne_of_lt (Nat.lt_of_lt_of_le ((rq2_25.keep K22 (own_nin1 nq5_35)).other W23 (Nat.ne_of_lt (Nat.lt_of_lt_of_le ((AA17.ext E18).keep K19 (own_nin1 (Nat.ne_of_lt (Nat.lt_of_lt_of_le AA17.lt (Nat.le_of_eq g18.symm))))).lt (Nat.le_of_eq g20.symm)))).lt (Nat.le_of_eq g24.symm)))
  have nq6_43 : aA17 ≠ d31 := (Nat.ne_of_lt (Nat.lt_of_lt_of_le rq5_25.lt szd31))
  have nq6_44 : b24 ≠ d31 := (Nat.ne_of_lt (Nat.lt_of_lt_of_le rq5_39.lt szd31))
  have Dn33 : [b14, aL17, aP17, aR17, aF17, aE17, aT17, aA17, b24, d31].Pairwise (· ≠ ·) := (List.Pairwise.cons (allS (own_nd D17 0 1 rfl rfl (by decide)) (allS (own_nd D17 0 2 rfl rfl (by decide)) (allS (own_nd D17 0 3 rfl rfl (by decide)) (allS (own_nd D17 0 4 rfl rfl (by decide)) (allS (own_nd D17 0 5 rfl rfl (by decide)) (allS (own_nd D17 0 6 rfl rfl (by decide)) (allS (own_nd D17 0 7 rfl rfl (by decide)) (allS nq6_7 (allS nq6_8 all0))))))))) (List.Pairwise.cons (allS (own_nd D17 1 2 rfl rfl (by decide)) (allS (own_nd D17 1 3 rfl rfl (by decide)) (allS (own_nd D17 1 4 rfl rfl (by decide)) (allS (own_nd D17 1 5 rfl rfl (by decide)) (allS (own_nd D17 1 6 rfl rfl (by decide)) (allS (own_nd D17 1 7 rfl rfl (by decide)) (allS nq6_15 (allS nq6_16 all0)))))))) (List.Pairwise.cons (allS (own_nd D17 2 3 rfl rfl (by decide)) (allS (own_nd D17 2 4 rfl rfl (by decide)) (allS (own_nd D17 2 5 rfl rfl (by decide)) (allS (own_nd D17 2 6 rfl rfl (by decide)) (allS (own_nd D17 2 7 rfl rfl (by decide)) (allS nq6_22 (allS nq6_23 all0))))))) (List.Pairwise.cons (allS (own_nd D17 3 4 rfl rfl (by decide)) (allS (own_nd D17 3 5 rfl rfl (by decide)) (allS (own_nd D17 3 6 rfl rfl (by decide)) (allS (own_nd D17 3 7 rfl rfl (by decide)) (allS nq6_28 (allS nq6_29 all0)))))) (List.Pairwise.cons (allS (own_nd D17 4 5 rfl rfl (by decide)) (allS (own_nd D17 4 6 rfl rfl (by decide)) (allS (own_nd D17 4 7 rfl rfl (by decide)) (allS nq6_33 (allS nq6_34 all0))))) (List.Pairwise.cons (allS (own_nd D17 5 6 rfl rfl (by decide)) (allS (own_nd D17 5 7 rfl rfl (by decide)) (allS nq6_37 (allS nq6_38 all0)))) (List.Pairwise.cons (allS (own_nd D17 6 7 rfl rfl (by decide)) (allS nq6_40 (allS nq6_41 all0))) (List.Pairwise.cons (allS nq6_42 (allS nq6_43 all0)) (List.Pairwise.cons (allS nq6_44 all0) (List.Pairwise.cons all0 List.Pairwise.nil))))))))))
  have GNn33 : ∀ x ∈ [b14, aL17, aP17, aR17, aF17, aE17, aT17, aA17, b24, d31], n0 ≤ x := (allS g_b14 (allS g_aL17 (allS g_aP17 (allS g_aR17 (allS g_aF17 (allS g_aE17 (allS g_aT17 (allS g_aA17 (allS g_b24 (allS g_d31 all0))))))))))
  obtain ⟨cq33, kq33, q33a, q33b, q33c⟩ := isOf hZ rfl rq6_0
  obtain ⟨_, _, ⟨T33, L33, k33, n33⟩, -, X33, ⟨Lc33, hQ33, l33, y33, z33⟩, st33⟩ := X31.virtualBack hx (y := (⟨"com/example/changeset/changeset/check/StateGraph", "add", "(Lcom/example/changeset/changeset/check/FoundState;II)Z"⟩ : MethodName)) (z := (⟨"com/example/changeset/changeset/check/StateGraph", "add", "(Lcom/example/changeset/changeset/check/FoundState;II)Z"⟩ : MethodName)) hown (mvT hZ (hw _ (List.mem_of_getElem? (i := 117) rfl))) (mvT hZ (hw _ (List.mem_of_getElem? (i := 118) rfl))) (notFace_of_selects (args := #[]) (mvT hZ (hw _ (List.mem_of_getElem? (i := 120) rfl)))) (mvT hZ (hw _ (List.mem_of_getElem? (i := 120) rfl))) (mvT hZ (hw _ (List.mem_of_getElem? (i := 119) rfl))) (by decide) (backOf (W := 0) (rm16B l Z aZ hw [] b14 b24 aL17 aP17 aR17 aF17 aE17 aT17 aA17 (-1 : Int32) 0 (0 + 1) (fun _ => 0) (fun _ => 0) d31 (1 : Int32) b18 T31.heap n0 (Nat.le_trans (Nat.le_trans (Nat.le_trans (Nat.le_trans (Nat.le_trans (Nat.le_trans (Nat.le_trans (Nat.le_trans (Nat.le_trans (Nat.le_trans (Nat.le_trans (Nat.le_trans (Nat.le_trans (Nat.le_trans (Nat.le_trans (Nat.le_trans (Nat.le_trans Z0 E14.1) E15.1) K16.1) K17.1) E18.1) K19.1) E20.1) E21.1) K22.1) (Keep.of_wr W23).1) E24.1) K25.1) (Keep.of_wr W26).1) E27.1) K28.1) (Keep.of_wr W29).1) K31.1) HG31 HL31 (rq5_39.keep K31) rq6_19 rq6_20 Dn33 GNn33 (by decide) (Ins.of_exa rq6_8 (hw _ (List.mem_of_getElem? (i := 171) rfl)))) hZ (hw _ (List.mem_of_getElem? (i := 121) rfl)) (hw _ (List.mem_of_getElem? (i := 20) rfl)) (by decide) (by decide)) q33a q33c (g := (mkF m 204 #[.val (.int p0), .val (.int p1), .val (.int p2), .val (.int p3), .val (.int y4), .val (.int y5), .val (.int y6), .val (.int y7), .val (.int y8), .val (.int y9), .val (.int y10), .val (.int y11), .val (.int y12), .val (.int y13), .val (.int y14), .val (.int y15), .val (.int y16), .val (.ref b14), .val (.ref b18), .val (.ref b20), .unset, .unset] [(.int (-1 : Int32)), (.int (-1 : Int32)), (.ref b24), (.ref b14)])) rfl (by rw [hml]; rfl) (Steps.refl _) (argsL := [(.ref b24), (.int (-1 : Int32)), (.int (-1 : Int32))]) (rest := []) (lenOf pd_25 rfl) rfl (by show 2 * 0 + _ ≤ _; exact Nat.le_of_eq rfl) (hb hby at_204) (fun _ _ => ⟨rfl, rfl, (by decide : 16 + 0 ≤ _), (by decide : 6199 + 0 ≤ _)⟩)
  dsimp only [Pt.U, Pt.locs, Pt.cells, Pt.slots] at X33 l33 y33 z33 st33 hQ33
  try dsimp only [Nat.reduceAdd] at y33 z33
  subst y33 z33
  obtain ⟨rfl, N33q, K33, HG33, HL33, fsE33, fsN33, fsS33⟩ := hQ33
  have N33 : Fr n0 L33 := by rw [l33]; exact Fr.app N31 N33q
  refine .pre (fun _ kq => st33.trans kq) ?_
  show OwnEnds p e below _ (T33.setTop (mkF m 207 #[.val (.int p0), .val (.int p1), .val (.int p2), .val (.int p3), .val (.int y4), .val (.int y5), .val (.int y6), .val (.int y7), .val (.int y8), .val (.int y9), .val (.int y10), .val (.int y11), .val (.int y12), .val (.int y13), .val (.int y14), .val (.int y15), .val (.int y16), .val (.ref b14), .val (.ref b18), .val (.ref b20), .unset, .unset] [(.int (1 : Int32))]))
  refine .pre (fun _ kq => XS.pop X33.here hx rfl (hb hby at_207) rfl rfl kq) ?_
  show OwnEnds p e below _ (T33.setTop (mkF m 208 #[.val (.int p0), .val (.int p1), .val (.int p2), .val (.int p3), .val (.int y4), .val (.int y5), .val (.int y6), .val (.int y7), .val (.int y8), .val (.int y9), .val (.int y10), .val (.int y11), .val (.int y12), .val (.int y13), .val (.int y14), .val (.int y15), .val (.int y16), .val (.ref b14), .val (.ref b18), .val (.ref b20), .unset, .unset] []))
  refine .pre (fun _ kq => XS.aload X33.here hx rfl (hb hby at_208) rfl rfl kq) ?_
  show OwnEnds p e below _ (T33.setTop (mkF m 210 #[.val (.int p0), .val (.int p1), .val (.int p2), .val (.int p3), .val (.int y4), .val (.int y5), .val (.int y6), .val (.int y7), .val (.int y8), .val (.int y9), .val (.int y10), .val (.int y11), .val (.int y12), .val (.int y13), .val (.int y14), .val (.int y15), .val (.int y16), .val (.ref b14), .val (.ref b18), .val (.ref b20), .unset, .unset] [(.ref b14)]))
  refine .pre (fun _ kq => XS.aload X33.here hx rfl (hb hby at_210) rfl rfl kq) ?_
  show OwnEnds p e below _ (T33.setTop (mkF m 212 #[.val (.int p0), .val (.int p1), .val (.int p2), .val (.int p3), .val (.int y4), .val (.int y5), .val (.int y6), .val (.int y7), .val (.int y8), .val (.int y9), .val (.int y10), .val (.int y11), .val (.int y12), .val (.int y13), .val (.int y14), .val (.int y15), .val (.int y16), .val (.ref b14), .val (.ref b18), .val (.ref b20), .unset, .unset] [(.ref b20), (.ref b14)]))
  refine .pre (fun _ kq => XS.iconst X33.here hx rfl (hb hby at_212) kq) ?_
  show OwnEnds p e below _ (T33.setTop (mkF m 213 #[.val (.int p0), .val (.int p1), .val (.int p2), .val (.int p3), .val (.int y4), .val (.int y5), .val (.int y6), .val (.int y7), .val (.int y8), .val (.int y9), .val (.int y10), .val (.int y11), .val (.int y12), .val (.int y13), .val (.int y14), .val (.int y15), .val (.int y16), .val (.ref b14), .val (.ref b18), .val (.ref b20), .unset, .unset] [(.int (2 : Int32)), (.ref b20), (.ref b14)]))
  obtain ⟨cl34, Ar34, qa34, qs34, qn34, qh34, qg34⟩ := id (rq6_12.keep K33 (own_nin6 (Ne.symm (Nat.ne_of_lt (Nat.lt_of_lt_of_le ((EG17.ext E18).keep K19).lt (Nat.le_of_eq g20.symm)))) (Ne.symm (Nat.ne_of_lt (Nat.lt_of_lt_of_le ((EL17.ext E18).keep K19).lt (Nat.le_of_eq g20.symm)))) (Ne.symm (Nat.ne_of_lt (Nat.lt_of_lt_of_le ((AP17.ext E18).keep K19 (own_nin1 (Nat.ne_of_lt (Nat.lt_of_lt_of_le AP17.lt (Nat.le_of_eq g18.symm))))).lt (Nat.le_of_eq g20.symm)))) (Ne.symm (Nat.ne_of_lt (Nat.lt_of_lt_of_le ((AR17.ext E18).keep K19 (own_nin1 (Nat.ne_of_lt (Nat.lt_of_lt_of_le AR17.lt (Nat.le_of_eq g18.symm))))).lt (Nat.le_of_eq g20.symm)))) (Nat.ne_of_lt (Nat.lt_of_lt_of_le V23.lt (Nat.le_of_eq g24.symm))) (Nat.ne_of_lt (Nat.lt_of_lt_of_le V29.lt szd31))))
  have hin34 : ¬ ((2 : Int32) < 0 ∨ cl34.slots.size ≤ ((2 : Int32)).toNatClampNeg) := inb_of qs34 ⟨by decide, by decide⟩
  have hat34 : cl34.slots[((2 : Int32)).toNatClampNeg]? = some (.ref b27) := (qh34 _ (Nat.lt_of_not_le fun y => hin34 (Or.inr y))).trans (congrArg some rfl)
  refine .pre (fun _ kq => X33.aaload hx (j := (2 : Int32)) (v := (.ref b27)) (by first | exact Ar34.1 | (rw [rfl]; exact Ar34.1)) (State.isArrayOf_alike hZ.alike Ar34.2.1) rfl Ar34.2.2 hin34 hat34 (g := (mkF m 213 #[.val (.int p0), .val (.int p1), .val (.int p2), .val (.int p3), .val (.int y4), .val (.int y5), .val (.int y6), .val (.int y7), .val (.int y8), .val (.int y9), .val (.int y10), .val (.int y11), .val (.int y12), .val (.int y13), .val (.int y14), .val (.int y15), .val (.int y16), .val (.ref b14), .val (.ref b18), .val (.ref b20), .unset, .unset] [(.int (2 : Int32)), (.ref b20), (.ref b14)])) rfl rfl (hb hby at_213) _ kq) ?_
  show OwnEnds p e below _ (T33.setTop (mkF m 214 #[.val (.int p0), .val (.int p1), .val (.int p2), .val (.int p3), .val (.int y4), .val (.int y5), .val (.int y6), .val (.int y7), .val (.int y8), .val (.int y9), .val (.int y10), .val (.int y11), .val (.int y12), .val (.int y13), .val (.int y14), .val (.int y15), .val (.int y16), .val (.ref b14), .val (.ref b18), .val (.ref b20), .unset, .unset] [(.ref b27), (.ref b14)]))
  refine .pre (fun _ kq => XS.iconst X33.here hx rfl (hb hby at_214) kq) ?_
  show OwnEnds p e below _ (T33.setTop (mkF m 215 #[.val (.int p0), .val (.int p1), .val (.int p2), .val (.int p3), .val (.int y4), .val (.int y5), .val (.int y6), .val (.int y7), .val (.int y8), .val (.int y9), .val (.int y10), .val (.int y11), .val (.int y12), .val (.int y13), .val (.int y14), .val (.int y15), .val (.int y16), .val (.ref b14), .val (.ref b18), .val (.ref b20), .unset, .unset] [(.int (-1 : Int32)), (.ref b27), (.ref b14)]))
  refine .pre (fun _ kq => XS.iconst X33.here hx rfl (hb hby at_215) kq) ?_
  show OwnEnds p e below _ (T33.setTop (mkF m 216 #[.val (.int p0), .val (.int p1), .val (.int p2), .val (.int p3), .val (.int y4), .val (.int y5), .val (.int y6), .val (.int y7), .val (.int y8), .val (.int y9), .val (.int y10), .val (.int y11), .val (.int y12), .val (.int y13), .val (.int y14), .val (.int y15), .val (.int y16), .val (.ref b14), .val (.ref b18), .val (.ref b20), .unset, .unset] [(.int (-1 : Int32)), (.int (-1 : Int32)), (.ref b27), (.ref b14)]))
  have rq7_7 := (rq6_10.keep K33 (own_nin6 (Ne.symm (Nat.ne_of_lt (Nat.lt_of_lt_of_le EG17.lt (Nat.le_of_eq g18.symm)))) (Ne.symm (Nat.ne_of_lt (Nat.lt_of_lt_of_le EL17.lt (Nat.le_of_eq g18.symm)))) (Ne.symm (Nat.ne_of_lt (Nat.lt_of_lt_of_le AP17.lt (Nat.le_of_eq g18.symm)))) (Ne.symm (Nat.ne_of_lt (Nat.lt_of_lt_of_le AR17.lt (Nat.le_of_eq g18.symm)))) (Nat.ne_of_lt (Nat.lt_of_lt_of_le ((((Ea19.ext E20).ext E21).keep K22).wr W23).lt (Nat.le_of_eq g24.symm))) (Nat.ne_of_lt (Nat.lt_of_lt_of_le ((rq4_30.keep K28).wr W29).lt szd31))))
  have rq7_8 := (rq6_11.keep K33 (own_nin6 (Ne.symm (Nat.ne_of_lt (Nat.lt_of_lt_of_le EG17.lt (Nat.le_of_eq g18.symm)))) (Ne.symm (Nat.ne_of_lt (Nat.lt_of_lt_of_le EL17.lt (Nat.le_of_eq g18.symm)))) (Ne.symm (Nat.ne_of_lt (Nat.lt_of_lt_of_le AP17.lt (Nat.le_of_eq g18.symm)))) (Ne.symm (Nat.ne_of_lt (Nat.lt_of_lt_of_le AR17.lt (Nat.le_of_eq g18.symm)))) (Nat.ne_of_lt (Nat.lt_of_lt_of_le ((((Ea19.ext E20).ext E21).keep K22).wr W23).lt (Nat.le_of_eq g24.symm))) (Nat.ne_of_lt (Nat.lt_of_lt_of_le ((rq4_30.keep K28).wr W29).lt szd31))))
  have rq7_9 := (rq6_12.keep K33 (own_nin6 (Ne.symm (Nat.ne_of_lt (Nat.lt_of_lt_of_le ((EG17.ext E18).keep K19).lt (Nat.le_of_eq g20.symm)))) (Ne.symm (Nat.ne_of_lt (Nat.lt_of_lt_of_le ((EL17.ext E18).keep K19).lt (Nat.le_of_eq g20.symm)))) (Ne.symm (Nat.ne_of_lt (Nat.lt_of_lt_of_le ((AP17.ext E18).keep K19 (own_nin1 (Nat.ne_of_lt (Nat.lt_of_lt_of_le AP17.lt (Nat.le_of_eq g18.symm))))).lt (Nat.le_of_eq g20.symm)))) (Ne.symm (Nat.ne_of_lt (Nat.lt_of_lt_of_le ((AR17.ext E18).keep K19 (own_nin1 (Nat.ne_of_lt (Nat.lt_of_lt_of_le AR17.lt (Nat.le_of_eq g18.symm))))).lt (Nat.le_of_eq g20.symm)))) (Nat.ne_of_lt (Nat.lt_of_lt_of_le V23.lt (Nat.le_of_eq g24.symm))) (Nat.ne_of_lt (Nat.lt_of_lt_of_le V29.lt szd31))))
  have rq7_12 := (fsN31.keep K33 (own_nin6 (Ne.symm nq5_7) (Ne.symm nq5_14) (Ne.symm nq5_20) (Ne.symm nq5_25) (Nat.ne_of_lt (Nat.lt_of_lt_of_le (Ea22.wr W23).lt (Nat.le_of_eq g24.symm))) (Nat.ne_of_lt (Nat.lt_of_lt_of_le ((rq4_35.keep K28).wr W29).lt szd31))))
  have rq7_13 := (fsS31.keep K33 (own_nin6 (Ne.symm nq5_7) (Ne.symm nq5_14) (Ne.symm nq5_20) (Ne.symm nq5_25) (Nat.ne_of_lt (Nat.lt_of_lt_of_le (Ea22.wr W23).lt (Nat.le_of_eq g24.symm))) (Nat.ne_of_lt (Nat.lt_of_lt_of_le ((rq4_35.keep K28).wr W29).lt szd31))))
  have rq7_18 := (((Ea28.wr W29).keep K31).keep K33)
  have rq7_20 := (rq6_23.keep K33 (own_nin6 (Ne.symm (Nat.ne_of_lt (Nat.lt_of_lt_of_le ((rq3_2.keep K25).wr W26).lt (Nat.le_of_eq g27.symm)))) (Ne.symm (Nat.ne_of_lt (Nat.lt_of_lt_of_le ((rq3_26.keep K25).wr W26).lt (Nat.le_of_eq g27.symm)))) (Ne.symm (Nat.ne_of_lt (Nat.lt_of_lt_of_le ((rq3_20.keep K25 (own_nin1 nq6_22)).other W26 (Nat.ne_of_lt (Nat.lt_of_lt_of_le ((AP17.ext E18).keep K19 (own_nin1 (Nat.ne_of_lt (Nat.lt_of_lt_of_le AP17.lt (Nat.le_of_eq g18.symm))))).lt (Nat.le_of_eq g20.symm)))).lt (Nat.le_of_eq g27.symm)))) (Ne.symm (Nat.ne_of_lt (Nat.lt_of_lt_of_le ((rq3_21.keep K25 (own_nin1 nq6_28)).other W26 (Nat.ne_of_lt (Nat.lt_of_lt_of_le ((AR17.ext E18).keep K19 (own_nin1 (Nat.ne_of_lt (Nat.lt_of_lt_of_le AR17.lt (Nat.le_of_eq g18.symm))))).lt (Nat.le_of_eq g20.symm)))).lt (Nat.le_of_eq g27.symm)))) (Ne.symm (Nat.ne_of_lt (Nat.lt_of_lt_of_le (Ea25.wr W26).lt (Nat.le_of_eq g27.symm)))) (Nat.ne_of_lt (Nat.lt_of_lt_of_le (Ea28.wr W29).lt szd31))))
  have rq7_21 := (rq6_24.keep K33 (own_nin6 (Ne.symm (Nat.ne_of_lt (Nat.lt_of_lt_of_le ((rq3_2.keep K25).wr W26).lt (Nat.le_of_eq g27.symm)))) (Ne.symm (Nat.ne_of_lt (Nat.lt_of_lt_of_le ((rq3_26.keep K25).wr W26).lt (Nat.le_of_eq g27.symm)))) (Ne.symm (Nat.ne_of_lt (Nat.lt_of_lt_of_le ((rq3_20.keep K25 (own_nin1 nq6_22)).other W26 (Nat.ne_of_lt (Nat.lt_of_lt_of_le ((AP17.ext E18).keep K19 (own_nin1 (Nat.ne_of_lt (Nat.lt_of_lt_of_le AP17.lt (Nat.le_of_eq g18.symm))))).lt (Nat.le_of_eq g20.symm)))).lt (Nat.le_of_eq g27.symm)))) (Ne.symm (Nat.ne_of_lt (Nat.lt_of_lt_of_le ((rq3_21.keep K25 (own_nin1 nq6_28)).other W26 (Nat.ne_of_lt (Nat.lt_of_lt_of_le ((AR17.ext E18).keep K19 (own_nin1 (Nat.ne_of_lt (Nat.lt_of_lt_of_le AR17.lt (Nat.le_of_eq g18.symm))))).lt (Nat.le_of_eq g20.symm)))).lt (Nat.le_of_eq g27.symm)))) (Ne.symm (Nat.ne_of_lt (Nat.lt_of_lt_of_le (Ea25.wr W26).lt (Nat.le_of_eq g27.symm)))) (Nat.ne_of_lt (Nat.lt_of_lt_of_le (Ea28.wr W29).lt szd31))))
  have nq7_7 : b14 ≠ b27 := (Nat.ne_of_lt (Nat.lt_of_lt_of_le ((rq3_2.keep K25).wr W26).lt (Nat.le_of_eq g27.symm)))
  have nq7_15 : aL17 ≠ b27 := (Nat.ne_of_lt (Nat.lt_of_lt_of_le ((rq3_26.keep K25).wr W26).lt (Nat.le_of_eq g27.symm)))
  have nq7_22 : aP17 ≠ b27 := (Nat.ne_of_lt (Nat.lt_of_lt_of_le ((rq3_20.keep K25 (own_nin1 nq6_22)).other W26 (Nat.ne_of_lt (Nat.lt_of_lt_of_le ((AP17.ext E18).keep K19 (own_nin1 (Nat.ne_of_lt (Nat.lt_of_lt_of_le AP17.lt (Nat.le_of_eq g18.symm))))).lt (Nat.le_of_eq g20.symm)))).lt (Nat.le_of_eq g27.symm)))
  have nq7_28 : aR17 ≠ b27 := (Nat.ne_of_lt (Nat.lt_of_lt_of_le ((rq3_21.keep K25 (own_nin1 nq6_28)).other W26 (Nat.ne_of_lt (Nat.lt_of_lt_of_le ((AR17.ext E18).keep K19 (own_nin1 (Nat.ne_of_lt (Nat.lt_of_lt_of_le AR17.lt (Nat.le_of_eq g18.symm))))).lt (Nat.le_of_eq g20.symm)))).lt (Nat.le_of_eq g27.symm)))
  have nq7_33 : aF17 ≠ b27 := (Nat.ne_of_lt (Nat.lt_of_lt_of_le ((rq3_22.keep K25 (own_nin1 nq6_33)).other W26 (Nat.ne_of_lt (Nat.lt_of_lt_of_le ((AF17.ext E18).keep K19 (own_nin1 (Nat.ne_of_lt (Nat.lt_of_lt_of_le AF17.lt (Nat.le_of_eq g18.symm))))).lt (Nat.le_of_eq g20.symm)))).lt (Nat.le_of_eq g27.symm)))
  have nq7_37 : aE17 ≠ b27 := (Nat.ne_of_lt (Nat.lt_of_lt_of_le ((rq3_23.keep K25 (own_nin1 nq6_37)).other W26 (Nat.ne_of_lt (Nat.lt_of_lt_of_le ((AE17.ext E18).keep K19 (own_nin1 (Nat.ne_of_lt (Nat.lt_of_lt_of_le AE17.lt (Nat.le_of_eq g18.symm))))).lt (Nat.le_of_eq g20.symm)))).lt (Nat.le_of_eq g27.symm)))
  have nq7_40 : aT17 ≠ b27 := (Nat.ne_of_lt (Nat.lt_of_lt_of_le ((rq3_24.keep K25 (own_nin1 nq6_40)).other W26 (Nat.ne_of_lt (Nat.lt_of_lt_of_le ((AT17.ext E18).keep K19 (own_nin1 (Nat.ne_of_lt (Nat.lt_of_lt_of_le AT17.lt (Nat.le_of_eq g18.symm))))).lt (Nat.le_of_eq g20.symm)))).lt (Nat.le_of_eq g27.symm)))
  have nq7_42 : aA17 ≠ b27 := (Nat.ne_of_lt (Nat.lt_of_lt_of_le ((rq3_25.keep K25 (own_nin1 nq6_42)).other W26 (Nat.ne_of_lt (Nat.lt_of_lt_of_le ((AA17.ext E18).keep K19 (own_nin1 (Nat.ne_of_lt (Nat.lt_of_lt_of_le AA17.lt (Nat.le_of_eq g18.symm))))).lt (Nat.le_of_eq g20.symm)))).lt (Nat.le_of_eq g27.symm)))
  have nq7_44 : b27 ≠ d31 := (Nat.ne_of_lt (Nat.lt_of_lt_of_le (Ea28.wr W29).lt szd31))
  have Dn35 : [b14, aL17, aP17, aR17, aF17, aE17, aT17, aA17, b27, d31].Pairwise (· ≠ ·) := (List.Pairwise.cons (allS (own_nd D17 0 1 rfl rfl (by decide)) (allS (own_nd D17 0 2 rfl rfl (by decide)) (allS (own_nd D17 0 3 rfl rfl (by decide)) (allS (own_nd D17 0 4 rfl rfl (by decide)) (allS (own_nd D17 0 5 rfl rfl (by decide)) (allS (own_nd D17 0 6 rfl rfl (by decide)) (allS (own_nd D17 0 7 rfl rfl (by decide)) (allS nq7_7 (allS nq6_8 all0))))))))) (List.Pairwise.cons (allS (own_nd D17 1 2 rfl rfl (by decide)) (allS (own_nd D17 1 3 rfl rfl (by decide)) (allS (own_nd D17 1 4 rfl rfl (by decide)) (allS (own_nd D17 1 5 rfl rfl (by decide)) (allS (own_nd D17 1 6 rfl rfl (by decide)) (allS (own_nd D17 1 7 rfl rfl (by decide)) (allS nq7_15 (allS nq6_16 all0)))))))) (List.Pairwise.cons (allS (own_nd D17 2 3 rfl rfl (by decide)) (allS (own_nd D17 2 4 rfl rfl (by decide)) (allS (own_nd D17 2 5 rfl rfl (by decide)) (allS (own_nd D17 2 6 rfl rfl (by decide)) (allS (own_nd D17 2 7 rfl rfl (by decide)) (allS nq7_22 (allS nq6_23 all0))))))) (List.Pairwise.cons (allS (own_nd D17 3 4 rfl rfl (by decide)) (allS (own_nd D17 3 5 rfl rfl (by decide)) (allS (own_nd D17 3 6 rfl rfl (by decide)) (allS (own_nd D17 3 7 rfl rfl (by decide)) (allS nq7_28 (allS nq6_29 all0)))))) (List.Pairwise.cons (allS (own_nd D17 4 5 rfl rfl (by decide)) (allS (own_nd D17 4 6 rfl rfl (by decide)) (allS (own_nd D17 4 7 rfl rfl (by decide)) (allS nq7_33 (allS nq6_34 all0))))) (List.Pairwise.cons (allS (own_nd D17 5 6 rfl rfl (by decide)) (allS (own_nd D17 5 7 rfl rfl (by decide)) (allS nq7_37 (allS nq6_38 all0)))) (List.Pairwise.cons (allS (own_nd D17 6 7 rfl rfl (by decide)) (allS nq7_40 (allS nq6_41 all0))) (List.Pairwise.cons (allS nq7_42 (allS nq6_43 all0)) (List.Pairwise.cons (allS nq7_44 all0) (List.Pairwise.cons all0 List.Pairwise.nil))))))))))
  have GNn35 : ∀ x ∈ [b14, aL17, aP17, aR17, aF17, aE17, aT17, aA17, b27, d31], n0 ≤ x := (allS g_b14 (allS g_aL17 (allS g_aP17 (allS g_aR17 (allS g_aF17 (allS g_aE17 (allS g_aT17 (allS g_aA17 (allS g_b27 (allS g_d31 all0))))))))))
  obtain ⟨cq35, kq35, q35a, q35b, q35c⟩ := isOf hZ rfl (rq6_0.keep K33)
  obtain ⟨_, _, ⟨T35, L35, k35, n35⟩, -, X35, ⟨Lc35, hQ35, l35, y35, z35⟩, st35⟩ := X33.virtualBack hx (y := (⟨"com/example/changeset/changeset/check/StateGraph", "add", "(Lcom/example/changeset/changeset/check/FoundState;II)Z"⟩ : MethodName)) (z := (⟨"com/example/changeset/changeset/check/StateGraph", "add", "(Lcom/example/changeset/changeset/check/FoundState;II)Z"⟩ : MethodName)) hown (mvT hZ (hw _ (List.mem_of_getElem? (i := 117) rfl))) (mvT hZ (hw _ (List.mem_of_getElem? (i := 118) rfl))) (notFace_of_selects (args := #[]) (mvT hZ (hw _ (List.mem_of_getElem? (i := 120) rfl)))) (mvT hZ (hw _ (List.mem_of_getElem? (i := 120) rfl))) (mvT hZ (hw _ (List.mem_of_getElem? (i := 119) rfl))) (by decide) (backOf (W := 0) (rm16B l Z aZ hw [] b14 b27 aL17 aP17 aR17 aF17 aE17 aT17 aA17 (-1 : Int32) 0 (0 + 1 + 1) (fun _ => 0) (fun _ => 0) d31 ((1 : Int32) + 1) b18 T33.heap n0 (Nat.le_trans (Nat.le_trans (Nat.le_trans (Nat.le_trans (Nat.le_trans (Nat.le_trans (Nat.le_trans (Nat.le_trans (Nat.le_trans (Nat.le_trans (Nat.le_trans (Nat.le_trans (Nat.le_trans (Nat.le_trans (Nat.le_trans (Nat.le_trans (Nat.le_trans (Nat.le_trans Z0 E14.1) E15.1) K16.1) K17.1) E18.1) K19.1) E20.1) E21.1) K22.1) (Keep.of_wr W23).1) E24.1) K25.1) (Keep.of_wr W26).1) E27.1) K28.1) (Keep.of_wr W29).1) K31.1) K33.1) HG33 HL33 rq7_18 rq7_20 rq7_21 Dn35 GNn35 (by decide) (Ins.of_exa (rq6_8.keep K33) (hw _ (List.mem_of_getElem? (i := 171) rfl)))) hZ (hw _ (List.mem_of_getElem? (i := 121) rfl)) (hw _ (List.mem_of_getElem? (i := 20) rfl)) (by decide) (by decide)) q35a q35c (g := (mkF m 216 #[.val (.int p0), .val (.int p1), .val (.int p2), .val (.int p3), .val (.int y4), .val (.int y5), .val (.int y6), .val (.int y7), .val (.int y8), .val (.int y9), .val (.int y10), .val (.int y11), .val (.int y12), .val (.int y13), .val (.int y14), .val (.int y15), .val (.int y16), .val (.ref b14), .val (.ref b18), .val (.ref b20), .unset, .unset] [(.int (-1 : Int32)), (.int (-1 : Int32)), (.ref b27), (.ref b14)])) rfl (by rw [hml]; rfl) (Steps.refl _) (argsL := [(.ref b27), (.int (-1 : Int32)), (.int (-1 : Int32))]) (rest := []) (lenOf pd_25 rfl) rfl (by show 2 * 0 + _ ≤ _; exact Nat.le_of_eq rfl) (hb hby at_216) (fun _ _ => ⟨rfl, rfl, (by decide : 16 + 0 ≤ _), (by decide : 6199 + 0 ≤ _)⟩)
  dsimp only [Pt.U, Pt.locs, Pt.cells, Pt.slots] at X35 l35 y35 z35 st35 hQ35
  try dsimp only [Nat.reduceAdd] at y35 z35
  subst y35 z35
  obtain ⟨rfl, N35q, K35, HG35, HL35, fsE35, fsN35, fsS35⟩ := hQ35
  have N35 : Fr n0 L35 := by rw [l35]; exact Fr.app N33 N35q
  refine .pre (fun _ kq => st35.trans kq) ?_
  show OwnEnds p e below _ (T35.setTop (mkF m 219 #[.val (.int p0), .val (.int p1), .val (.int p2), .val (.int p3), .val (.int y4), .val (.int y5), .val (.int y6), .val (.int y7), .val (.int y8), .val (.int y9), .val (.int y10), .val (.int y11), .val (.int y12), .val (.int y13), .val (.int y14), .val (.int y15), .val (.int y16), .val (.ref b14), .val (.ref b18), .val (.ref b20), .unset, .unset] [(.int (1 : Int32))]))
  refine .pre (fun _ kq => XS.pop X35.here hx rfl (hb hby at_219) rfl rfl kq) ?_
  show OwnEnds p e below _ (T35.setTop (mkF m 220 #[.val (.int p0), .val (.int p1), .val (.int p2), .val (.int p3), .val (.int y4), .val (.int y5), .val (.int y6), .val (.int y7), .val (.int y8), .val (.int y9), .val (.int y10), .val (.int y11), .val (.int y12), .val (.int y13), .val (.int y14), .val (.int y15), .val (.int y16), .val (.ref b14), .val (.ref b18), .val (.ref b20), .unset, .unset] []))
  refine .pre (fun _ kq => XS.aload X35.here hx rfl (hb hby at_220) rfl rfl kq) ?_
  show OwnEnds p e below _ (T35.setTop (mkF m 222 #[.val (.int p0), .val (.int p1), .val (.int p2), .val (.int p3), .val (.int y4), .val (.int y5), .val (.int y6), .val (.int y7), .val (.int y8), .val (.int y9), .val (.int y10), .val (.int y11), .val (.int y12), .val (.int y13), .val (.int y14), .val (.int y15), .val (.int y16), .val (.ref b14), .val (.ref b18), .val (.ref b20), .unset, .unset] [(.ref b14)]))
  refine .pre (fun _ kq => XS.aload X35.here hx rfl (hb hby at_222) rfl rfl kq) ?_
  show OwnEnds p e below _ (T35.setTop (mkF m 224 #[.val (.int p0), .val (.int p1), .val (.int p2), .val (.int p3), .val (.int y4), .val (.int y5), .val (.int y6), .val (.int y7), .val (.int y8), .val (.int y9), .val (.int y10), .val (.int y11), .val (.int y12), .val (.int y13), .val (.int y14), .val (.int y15), .val (.int y16), .val (.ref b14), .val (.ref b18), .val (.ref b20), .unset, .unset] [(.ref b20), (.ref b14)]))
  refine .pre (fun _ kq => XS.iload X35.here hx rfl (hb hby at_224) rfl kq) ?_
  show OwnEnds p e below _ (T35.setTop (mkF m 226 #[.val (.int p0), .val (.int p1), .val (.int p2), .val (.int p3), .val (.int y4), .val (.int y5), .val (.int y6), .val (.int y7), .val (.int y8), .val (.int y9), .val (.int y10), .val (.int y11), .val (.int y12), .val (.int y13), .val (.int y14), .val (.int y15), .val (.int y16), .val (.ref b14), .val (.ref b18), .val (.ref b20), .unset, .unset] [(.int y11), (.ref b20), (.ref b14)]))
  obtain ⟨cl36, Ar36, qa36, qs36, qn36, qh36, qg36⟩ := id (rq7_9.keep K35 (own_nin6 (Ne.symm (Nat.ne_of_lt (Nat.lt_of_lt_of_le ((EG17.ext E18).keep K19).lt (Nat.le_of_eq g20.symm)))) (Ne.symm (Nat.ne_of_lt (Nat.lt_of_lt_of_le ((EL17.ext E18).keep K19).lt (Nat.le_of_eq g20.symm)))) (Ne.symm (Nat.ne_of_lt (Nat.lt_of_lt_of_le ((AP17.ext E18).keep K19 (own_nin1 (Nat.ne_of_lt (Nat.lt_of_lt_of_le AP17.lt (Nat.le_of_eq g18.symm))))).lt (Nat.le_of_eq g20.symm)))) (Ne.symm (Nat.ne_of_lt (Nat.lt_of_lt_of_le ((AR17.ext E18).keep K19 (own_nin1 (Nat.ne_of_lt (Nat.lt_of_lt_of_le AR17.lt (Nat.le_of_eq g18.symm))))).lt (Nat.le_of_eq g20.symm)))) (Nat.ne_of_lt (Nat.lt_of_lt_of_le V26.lt (Nat.le_of_eq g27.symm))) (Nat.ne_of_lt (Nat.lt_of_lt_of_le V29.lt szd31))))
  have hin36 : ¬ (y11 < 0 ∨ cl36.slots.size ≤ (y11).toNatClampNeg) := inb_of qs36 (own_in3 by11)
  have hat36 : cl36.slots[(y11).toNatClampNeg]? = some (.ref (own_sel b21 b24 b27 y11)) := (qh36 _ (Nat.lt_of_not_le fun y => hin36 (Or.inr y))).trans (congrArg some (own_selv b21 b24 b27 by11))
  refine .pre (fun _ kq => X35.aaload hx (j := y11) (v := (.ref (own_sel b21 b24 b27 y11))) (by first | exact Ar36.1 | (rw [rfl]; exact Ar36.1)) (State.isArrayOf_alike hZ.alike Ar36.2.1) rfl Ar36.2.2 hin36 hat36 (g := (mkF m 226 #[.val (.int p0), .val (.int p1), .val (.int p2), .val (.int p3), .val (.int y4), .val (.int y5), .val (.int y6), .val (.int y7), .val (.int y8), .val (.int y9), .val (.int y10), .val (.int y11), .val (.int y12), .val (.int y13), .val (.int y14), .val (.int y15), .val (.int y16), .val (.ref b14), .val (.ref b18), .val (.ref b20), .unset, .unset] [(.int y11), (.ref b20), (.ref b14)])) rfl rfl (hb hby at_226) _ kq) ?_
  show OwnEnds p e below _ (T35.setTop (mkF m 227 #[.val (.int p0), .val (.int p1), .val (.int p2), .val (.int p3), .val (.int y4), .val (.int y5), .val (.int y6), .val (.int y7), .val (.int y8), .val (.int y9), .val (.int y10), .val (.int y11), .val (.int y12), .val (.int y13), .val (.int y14), .val (.int y15), .val (.int y16), .val (.ref b14), .val (.ref b18), .val (.ref b20), .unset, .unset] [(.ref (own_sel b21 b24 b27 y11)), (.ref b14)]))
  refine .pre (fun _ kq => XS.iload X35.here hx rfl (hb hby at_227) rfl kq) ?_
  show OwnEnds p e below _ (T35.setTop (mkF m 229 #[.val (.int p0), .val (.int p1), .val (.int p2), .val (.int p3), .val (.int y4), .val (.int y5), .val (.int y6), .val (.int y7), .val (.int y8), .val (.int y9), .val (.int y10), .val (.int y11), .val (.int y12), .val (.int y13), .val (.int y14), .val (.int y15), .val (.int y16), .val (.ref b14), .val (.ref b18), .val (.ref b20), .unset, .unset] [(.int y10), (.ref (own_sel b21 b24 b27 y11)), (.ref b14)]))
  refine .pre (fun _ kq => XS.iconst X35.here hx rfl (hb hby at_229) kq) ?_
  show OwnEnds p e below _ (T35.setTop (mkF m 230 #[.val (.int p0), .val (.int p1), .val (.int p2), .val (.int p3), .val (.int y4), .val (.int y5), .val (.int y6), .val (.int y7), .val (.int y8), .val (.int y9), .val (.int y10), .val (.int y11), .val (.int y12), .val (.int y13), .val (.int y14), .val (.int y15), .val (.int y16), .val (.ref b14), .val (.ref b18), .val (.ref b20), .unset, .unset] [(.int (0 : Int32)), (.int y10), (.ref (own_sel b21 b24 b27 y11)), (.ref b14)]))
  have rq8_7 := (rq7_7.keep K35 (own_nin6 (Ne.symm (Nat.ne_of_lt (Nat.lt_of_lt_of_le EG17.lt (Nat.le_of_eq g18.symm)))) (Ne.symm (Nat.ne_of_lt (Nat.lt_of_lt_of_le EL17.lt (Nat.le_of_eq g18.symm)))) (Ne.symm (Nat.ne_of_lt (Nat.lt_of_lt_of_le AP17.lt (Nat.le_of_eq g18.symm)))) (Ne.symm (Nat.ne_of_lt (Nat.lt_of_lt_of_le AR17.lt (Nat.le_of_eq g18.symm)))) (Nat.ne_of_lt (Nat.lt_of_lt_of_le ((rq3_30.keep K25).wr W26).lt (Nat.le_of_eq g27.symm))) (Nat.ne_of_lt (Nat.lt_of_lt_of_le ((rq4_30.keep K28).wr W29).lt szd31))))
  have rq8_8 := (rq7_8.keep K35 (own_nin6 (Ne.symm (Nat.ne_of_lt (Nat.lt_of_lt_of_le EG17.lt (Nat.le_of_eq g18.symm)))) (Ne.symm (Nat.ne_of_lt (Nat.lt_of_lt_of_le EL17.lt (Nat.le_of_eq g18.symm)))) (Ne.symm (Nat.ne_of_lt (Nat.lt_of_lt_of_le AP17.lt (Nat.le_of_eq g18.symm)))) (Ne.symm (Nat.ne_of_lt (Nat.lt_of_lt_of_le AR17.lt (Nat.le_of_eq g18.symm)))) (Nat.ne_of_lt (Nat.lt_of_lt_of_le ((rq3_30.keep K25).wr W26).lt (Nat.le_of_eq g27.symm))) (Nat.ne_of_lt (Nat.lt_of_lt_of_le ((rq4_30.keep K28).wr W29).lt szd31))))
  have rq8_9 := (rq7_9.keep K35 (own_nin6 (Ne.symm (Nat.ne_of_lt (Nat.lt_of_lt_of_le ((EG17.ext E18).keep K19).lt (Nat.le_of_eq g20.symm)))) (Ne.symm (Nat.ne_of_lt (Nat.lt_of_lt_of_le ((EL17.ext E18).keep K19).lt (Nat.le_of_eq g20.symm)))) (Ne.symm (Nat.ne_of_lt (Nat.lt_of_lt_of_le ((AP17.ext E18).keep K19 (own_nin1 (Nat.ne_of_lt (Nat.lt_of_lt_of_le AP17.lt (Nat.le_of_eq g18.symm))))).lt (Nat.le_of_eq g20.symm)))) (Ne.symm (Nat.ne_of_lt (Nat.lt_of_lt_of_le ((AR17.ext E18).keep K19 (own_nin1 (Nat.ne_of_lt (Nat.lt_of_lt_of_le AR17.lt (Nat.le_of_eq g18.symm))))).lt (Nat.le_of_eq g20.symm)))) (Nat.ne_of_lt (Nat.lt_of_lt_of_le V26.lt (Nat.le_of_eq g27.symm))) (Nat.ne_of_lt (Nat.lt_of_lt_of_le V29.lt szd31))))
  have rq8_12 := (rq7_12.keep K35 (own_nin6 (Ne.symm nq5_7) (Ne.symm nq5_14) (Ne.symm nq5_20) (Ne.symm nq5_25) (Nat.ne_of_lt (Nat.lt_of_lt_of_le ((((Ea22.wr W23).ext E24).keep K25).wr W26).lt (Nat.le_of_eq g27.symm))) (Nat.ne_of_lt (Nat.lt_of_lt_of_le ((rq4_35.keep K28).wr W29).lt szd31))))
  have rq8_13 := (rq7_13.keep K35 (own_nin6 (Ne.symm nq5_7) (Ne.symm nq5_14) (Ne.symm nq5_20) (Ne.symm nq5_25) (Nat.ne_of_lt (Nat.lt_of_lt_of_le ((((Ea22.wr W23).ext E24).keep K25).wr W26).lt (Nat.le_of_eq g27.symm))) (Nat.ne_of_lt (Nat.lt_of_lt_of_le ((rq4_35.keep K28).wr W29).lt szd31))))
  have rq8_16 := (fsN33.keep K35 (own_nin6 (Ne.symm nq6_7) (Ne.symm nq6_15) (Ne.symm nq6_22) (Ne.symm nq6_28) (Nat.ne_of_lt (Nat.lt_of_lt_of_le (Ea25.wr W26).lt (Nat.le_of_eq g27.symm))) nq6_44))
  have rq8_17 := (fsS33.keep K35 (own_nin6 (Ne.symm nq6_7) (Ne.symm nq6_15) (Ne.symm nq6_22) (Ne.symm nq6_28) (Nat.ne_of_lt (Nat.lt_of_lt_of_le (Ea25.wr W26).lt (Nat.le_of_eq g27.symm))) nq6_44))
  obtain ⟨cq37, kq37, q37a, q37b, q37c⟩ := isOf hZ rfl HG35.1
  obtain ⟨_, _, ⟨T37, L37, k37, n37⟩, -, X37, ⟨Lc37, hQ37, l37, y37, z37⟩, st37⟩ := X35.virtualBack hx (y := (⟨"com/example/changeset/changeset/check/StateGraph", "add", "(Lcom/example/changeset/changeset/check/FoundState;II)Z"⟩ : MethodName)) (z := (⟨"com/example/changeset/changeset/check/StateGraph", "add", "(Lcom/example/changeset/changeset/check/FoundState;II)Z"⟩ : MethodName)) hown (mvT hZ (hw _ (List.mem_of_getElem? (i := 117) rfl))) (mvT hZ (hw _ (List.mem_of_getElem? (i := 118) rfl))) (notFace_of_selects (args := #[]) (mvT hZ (hw _ (List.mem_of_getElem? (i := 120) rfl)))) (mvT hZ (hw _ (List.mem_of_getElem? (i := 120) rfl))) (mvT hZ (hw _ (List.mem_of_getElem? (i := 119) rfl))) (by decide) (backOf (W := 0) (rm16E l Z aZ hw [] b14 (own_sel b21 b24 b27 y11) y10 (0 : Int32) aL17 aP17 aR17 aF17 aE17 aT17 aA17 own_g0.1 own_g0.2.1 (0 + 1 + 1 + 1) own_g0.2.2.1 own_g0.2.2.2 y11 T35.heap n0 (Nat.le_trans (Nat.le_trans (Nat.le_trans (Nat.le_trans (Nat.le_trans (Nat.le_trans (Nat.le_trans (Nat.le_trans (Nat.le_trans (Nat.le_trans (Nat.le_trans (Nat.le_trans (Nat.le_trans (Nat.le_trans (Nat.le_trans (Nat.le_trans (Nat.le_trans (Nat.le_trans (Nat.le_trans Z0 E14.1) E15.1) K16.1) K17.1) E18.1) K19.1) E20.1) E21.1) K22.1) (Keep.of_wr W23).1) E24.1) K25.1) (Keep.of_wr W26).1) E27.1) K28.1) (Keep.of_wr W29).1) K31.1) K33.1) K35.1) HG35 (own_sel3 (P := fun b _ => Exa Z T35.heap b "com/example/changeset/changeset/check/FoundState") ((fsE31.keep K33).keep K35) (fsE33.keep K35) fsE35 by11) (own_sel3 (P := fun b j => Fld Z T35.heap b "com/example/changeset/changeset/check/FoundState" "number" "I" (.int j)) rq8_12 rq8_16 fsN35 by11) D17 (allS g_b14 GN17) ⟨⟨i0.1, i0.2.1, by omega, by omega⟩, by11.1, by11.2, i0.2.2.1, by have := i0.2.2.2; omega⟩) hZ (hw _ (List.mem_of_getElem? (i := 121) rfl)) (hw _ (List.mem_of_getElem? (i := 20) rfl)) (by decide) (by decide)) q37a q37c (g := (mkF m 230 #[.val (.int p0), .val (.int p1), .val (.int p2), .val (.int p3), .val (.int y4), .val (.int y5), .val (.int y6), .val (.int y7), .val (.int y8), .val (.int y9), .val (.int y10), .val (.int y11), .val (.int y12), .val (.int y13), .val (.int y14), .val (.int y15), .val (.int y16), .val (.ref b14), .val (.ref b18), .val (.ref b20), .unset, .unset] [(.int (0 : Int32)), (.int y10), (.ref (own_sel b21 b24 b27 y11)), (.ref b14)])) rfl (by rw [hml]; rfl) (Steps.refl _) (argsL := [(.ref (own_sel b21 b24 b27 y11)), (.int y10), (.int (0 : Int32))]) (rest := []) (lenOf pd_25 rfl) rfl (by show 2 * 0 + _ ≤ _; exact Nat.le_of_eq rfl) (hb hby at_230) (fun _ _ => ⟨rfl, rfl, (by decide : 16 + 0 ≤ _), (by decide : 6199 + 0 ≤ _)⟩)
  dsimp only [Pt.U, Pt.locs, Pt.cells, Pt.slots] at X37 l37 y37 z37 st37 hQ37
  try dsimp only [Nat.reduceAdd] at y37 z37
  subst y37 z37
  obtain ⟨rfl, N37q, K37, Hx37⟩ := hQ37
  have N37 : Fr n0 L37 := by rw [l37]; exact Fr.app N35 N37q
  refine .pre (fun _ kq => st37.trans kq) ?_
  show OwnEnds p e below _ (T37.setTop (mkF m 233 #[.val (.int p0), .val (.int p1), .val (.int p2), .val (.int p3), .val (.int y4), .val (.int y5), .val (.int y6), .val (.int y7), .val (.int y8), .val (.int y9), .val (.int y10), .val (.int y11), .val (.int y12), .val (.int y13), .val (.int y14), .val (.int y15), .val (.int y16), .val (.ref b14), .val (.ref b18), .val (.ref b20), .unset, .unset] [(.int (0 : Int32))]))
  refine .pre (fun _ kq => XS.pop X37.here hx rfl (hb hby at_233) rfl rfl kq) ?_
  show OwnEnds p e below _ (T37.setTop (mkF m 234 #[.val (.int p0), .val (.int p1), .val (.int p2), .val (.int p3), .val (.int y4), .val (.int y5), .val (.int y6), .val (.int y7), .val (.int y8), .val (.int y9), .val (.int y10), .val (.int y11), .val (.int y12), .val (.int y13), .val (.int y14), .val (.int y15), .val (.int y16), .val (.ref b14), .val (.ref b18), .val (.ref b20), .unset, .unset] []))
  refine .pre (fun _ kq => XS.aload X37.here hx rfl (hb hby at_234) rfl rfl kq) ?_
  show OwnEnds p e below _ (T37.setTop (mkF m 236 #[.val (.int p0), .val (.int p1), .val (.int p2), .val (.int p3), .val (.int y4), .val (.int y5), .val (.int y6), .val (.int y7), .val (.int y8), .val (.int y9), .val (.int y10), .val (.int y11), .val (.int y12), .val (.int y13), .val (.int y14), .val (.int y15), .val (.int y16), .val (.ref b14), .val (.ref b18), .val (.ref b20), .unset, .unset] [(.ref b14)]))
  refine .pre (fun _ kq => XS.aload X37.here hx rfl (hb hby at_236) rfl rfl kq) ?_
  show OwnEnds p e below _ (T37.setTop (mkF m 238 #[.val (.int p0), .val (.int p1), .val (.int p2), .val (.int p3), .val (.int y4), .val (.int y5), .val (.int y6), .val (.int y7), .val (.int y8), .val (.int y9), .val (.int y10), .val (.int y11), .val (.int y12), .val (.int y13), .val (.int y14), .val (.int y15), .val (.int y16), .val (.ref b14), .val (.ref b18), .val (.ref b20), .unset, .unset] [(.ref b20), (.ref b14)]))
  refine .pre (fun _ kq => XS.iload X37.here hx rfl (hb hby at_238) rfl kq) ?_
  show OwnEnds p e below _ (T37.setTop (mkF m 240 #[.val (.int p0), .val (.int p1), .val (.int p2), .val (.int p3), .val (.int y4), .val (.int y5), .val (.int y6), .val (.int y7), .val (.int y8), .val (.int y9), .val (.int y10), .val (.int y11), .val (.int y12), .val (.int y13), .val (.int y14), .val (.int y15), .val (.int y16), .val (.ref b14), .val (.ref b18), .val (.ref b20), .unset, .unset] [(.int y13), (.ref b20), (.ref b14)]))
  obtain ⟨cl38, Ar38, qa38, qs38, qn38, qh38, qg38⟩ := id (rq8_9.keep K37 (own_nin5 (Ne.symm (Nat.ne_of_lt (Nat.lt_of_lt_of_le ((EG17.ext E18).keep K19).lt (Nat.le_of_eq g20.symm)))) (Ne.symm (Nat.ne_of_lt (Nat.lt_of_lt_of_le ((AF17.ext E18).keep K19 (own_nin1 (Nat.ne_of_lt (Nat.lt_of_lt_of_le AF17.lt (Nat.le_of_eq g18.symm))))).lt (Nat.le_of_eq g20.symm)))) (Ne.symm (Nat.ne_of_lt (Nat.lt_of_lt_of_le ((AE17.ext E18).keep K19 (own_nin1 (Nat.ne_of_lt (Nat.lt_of_lt_of_le AE17.lt (Nat.le_of_eq g18.symm))))).lt (Nat.le_of_eq g20.symm)))) (Ne.symm (Nat.ne_of_lt (Nat.lt_of_lt_of_le ((AT17.ext E18).keep K19 (own_nin1 (Nat.ne_of_lt (Nat.lt_of_lt_of_le AT17.lt (Nat.le_of_eq g18.symm))))).lt (Nat.le_of_eq g20.symm)))) (Ne.symm (Nat.ne_of_lt (Nat.lt_of_lt_of_le ((AA17.ext E18).keep K19 (own_nin1 (Nat.ne_of_lt (Nat.lt_of_lt_of_le AA17.lt (Nat.le_of_eq g18.symm))))).lt (Nat.le_of_eq g20.symm))))))
  have hin38 : ¬ (y13 < 0 ∨ cl38.slots.size ≤ (y13).toNatClampNeg) := inb_of qs38 (own_in3 by13)
  have hat38 : cl38.slots[(y13).toNatClampNeg]? = some (.ref (own_sel b21 b24 b27 y13)) := (qh38 _ (Nat.lt_of_not_le fun y => hin38 (Or.inr y))).trans (congrArg some (own_selv b21 b24 b27 by13))
  refine .pre (fun _ kq => X37.aaload hx (j := y13) (v := (.ref (own_sel b21 b24 b27 y13))) (by first | exact Ar38.1 | (rw [rfl]; exact Ar38.1)) (State.isArrayOf_alike hZ.alike Ar38.2.1) rfl Ar38.2.2 hin38 hat38 (g := (mkF m 240 #[.val (.int p0), .val (.int p1), .val (.int p2), .val (.int p3), .val (.int y4), .val (.int y5), .val (.int y6), .val (.int y7), .val (.int y8), .val (.int y9), .val (.int y10), .val (.int y11), .val (.int y12), .val (.int y13), .val (.int y14), .val (.int y15), .val (.int y16), .val (.ref b14), .val (.ref b18), .val (.ref b20), .unset, .unset] [(.int y13), (.ref b20), (.ref b14)])) rfl rfl (hb hby at_240) _ kq) ?_
  show OwnEnds p e below _ (T37.setTop (mkF m 241 #[.val (.int p0), .val (.int p1), .val (.int p2), .val (.int p3), .val (.int y4), .val (.int y5), .val (.int y6), .val (.int y7), .val (.int y8), .val (.int y9), .val (.int y10), .val (.int y11), .val (.int y12), .val (.int y13), .val (.int y14), .val (.int y15), .val (.int y16), .val (.ref b14), .val (.ref b18), .val (.ref b20), .unset, .unset] [(.ref (own_sel b21 b24 b27 y13)), (.ref b14)]))
  refine .pre (fun _ kq => XS.iload X37.here hx rfl (hb hby at_241) rfl kq) ?_
  show OwnEnds p e below _ (T37.setTop (mkF m 243 #[.val (.int p0), .val (.int p1), .val (.int p2), .val (.int p3), .val (.int y4), .val (.int y5), .val (.int y6), .val (.int y7), .val (.int y8), .val (.int y9), .val (.int y10), .val (.int y11), .val (.int y12), .val (.int y13), .val (.int y14), .val (.int y15), .val (.int y16), .val (.ref b14), .val (.ref b18), .val (.ref b20), .unset, .unset] [(.int y12), (.ref (own_sel b21 b24 b27 y13)), (.ref b14)]))
  refine .pre (fun _ kq => XS.iconst X37.here hx rfl (hb hby at_243) kq) ?_
  show OwnEnds p e below _ (T37.setTop (mkF m 244 #[.val (.int p0), .val (.int p1), .val (.int p2), .val (.int p3), .val (.int y4), .val (.int y5), .val (.int y6), .val (.int y7), .val (.int y8), .val (.int y9), .val (.int y10), .val (.int y11), .val (.int y12), .val (.int y13), .val (.int y14), .val (.int y15), .val (.int y16), .val (.ref b14), .val (.ref b18), .val (.ref b20), .unset, .unset] [(.int (0 : Int32)), (.int y12), (.ref (own_sel b21 b24 b27 y13)), (.ref b14)]))
  have rq9_0 := (((rq6_0.keep K33).keep K35).keep K37)
  have rq9_2 := (((rq6_2.keep K33).keep K35).keep K37)
  have rq9_4 := (((rq6_7.keep K33).keep K35).keep K37)
  have rq9_5 := (((rq6_8.keep K33).keep K35).keep K37)
  have rq9_7 := (rq8_7.keep K37 (own_nin5 (Ne.symm (Nat.ne_of_lt (Nat.lt_of_lt_of_le EG17.lt (Nat.le_of_eq g18.symm)))) (Ne.symm (Nat.ne_of_lt (Nat.lt_of_lt_of_le AF17.lt (Nat.le_of_eq g18.symm)))) (Ne.symm (Nat.ne_of_lt (Nat.lt_of_lt_of_le AE17.lt (Nat.le_of_eq g18.symm)))) (Ne.symm (Nat.ne_of_lt (Nat.lt_of_lt_of_le AT17.lt (Nat.le_of_eq g18.symm)))) (Ne.symm (Nat.ne_of_lt (Nat.lt_of_lt_of_le AA17.lt (Nat.le_of_eq g18.symm))))))
  have rq9_8 := (rq8_8.keep K37 (own_nin5 (Ne.symm (Nat.ne_of_lt (Nat.lt_of_lt_of_le EG17.lt (Nat.le_of_eq g18.symm)))) (Ne.symm (Nat.ne_of_lt (Nat.lt_of_lt_of_le AF17.lt (Nat.le_of_eq g18.symm)))) (Ne.symm (Nat.ne_of_lt (Nat.lt_of_lt_of_le AE17.lt (Nat.le_of_eq g18.symm)))) (Ne.symm (Nat.ne_of_lt (Nat.lt_of_lt_of_le AT17.lt (Nat.le_of_eq g18.symm)))) (Ne.symm (Nat.ne_of_lt (Nat.lt_of_lt_of_le AA17.lt (Nat.le_of_eq g18.symm))))))
  have rq9_9 := (rq8_9.keep K37 (own_nin5 (Ne.symm (Nat.ne_of_lt (Nat.lt_of_lt_of_le ((EG17.ext E18).keep K19).lt (Nat.le_of_eq g20.symm)))) (Ne.symm (Nat.ne_of_lt (Nat.lt_of_lt_of_le ((AF17.ext E18).keep K19 (own_nin1 (Nat.ne_of_lt (Nat.lt_of_lt_of_le AF17.lt (Nat.le_of_eq g18.symm))))).lt (Nat.le_of_eq g20.symm)))) (Ne.symm (Nat.ne_of_lt (Nat.lt_of_lt_of_le ((AE17.ext E18).keep K19 (own_nin1 (Nat.ne_of_lt (Nat.lt_of_lt_of_le AE17.lt (Nat.le_of_eq g18.symm))))).lt (Nat.le_of_eq g20.symm)))) (Ne.symm (Nat.ne_of_lt (Nat.lt_of_lt_of_le ((AT17.ext E18).keep K19 (own_nin1 (Nat.ne_of_lt (Nat.lt_of_lt_of_le AT17.lt (Nat.le_of_eq g18.symm))))).lt (Nat.le_of_eq g20.symm)))) (Ne.symm (Nat.ne_of_lt (Nat.lt_of_lt_of_le ((AA17.ext E18).keep K19 (own_nin1 (Nat.ne_of_lt (Nat.lt_of_lt_of_le AA17.lt (Nat.le_of_eq g18.symm))))).lt (Nat.le_of_eq g20.symm))))))
  have rq9_10 := (((fsE31.keep K33).keep K35).keep K37)
  have rq9_12 := (rq8_12.keep K37 (own_nin5 (Ne.symm nq5_7) (Ne.symm nq5_29) (Ne.symm nq5_32) (Ne.symm nq5_34) (Ne.symm nq5_35)))
  have rq9_13 := (rq8_13.keep K37 (own_nin5 (Ne.symm nq5_7) (Ne.symm nq5_29) (Ne.symm nq5_32) (Ne.symm nq5_34) (Ne.symm nq5_35)))
  have rq9_16 := (rq8_16.keep K37 (own_nin5 (Ne.symm nq6_7) (Ne.symm nq6_33) (Ne.symm nq6_37) (Ne.symm nq6_40) (Ne.symm nq6_42)))
  have rq9_17 := (rq8_17.keep K37 (own_nin5 (Ne.symm nq6_7) (Ne.symm nq6_33) (Ne.symm nq6_37) (Ne.symm nq6_40) (Ne.symm nq6_42)))
  have rq9_20 := (fsN35.keep K37 (own_nin5 (Ne.symm nq7_7) (Ne.symm nq7_33) (Ne.symm nq7_37) (Ne.symm nq7_40) (Ne.symm nq7_42)))
  have rq9_21 := (fsS35.keep K37 (own_nin5 (Ne.symm nq7_7) (Ne.symm nq7_33) (Ne.symm nq7_37) (Ne.symm nq7_40) (Ne.symm nq7_42)))
  obtain ⟨cq39, kq39, q39a, q39b, q39c⟩ := isOf hZ rfl Hx37.1
  obtain ⟨_, _, ⟨T39, L39, k39, n39⟩, -, X39, ⟨Lc39, hQ39, l39, y39, z39⟩, st39⟩ := X37.virtualBack hx (y := (⟨"com/example/changeset/changeset/check/StateGraph", "add", "(Lcom/example/changeset/changeset/check/FoundState;II)Z"⟩ : MethodName)) (z := (⟨"com/example/changeset/changeset/check/StateGraph", "add", "(Lcom/example/changeset/changeset/check/FoundState;II)Z"⟩ : MethodName)) hown (mvT hZ (hw _ (List.mem_of_getElem? (i := 117) rfl))) (mvT hZ (hw _ (List.mem_of_getElem? (i := 118) rfl))) (notFace_of_selects (args := #[]) (mvT hZ (hw _ (List.mem_of_getElem? (i := 120) rfl)))) (mvT hZ (hw _ (List.mem_of_getElem? (i := 120) rfl))) (mvT hZ (hw _ (List.mem_of_getElem? (i := 119) rfl))) (by decide) (backOf (W := 0) (rm16E l Z aZ hw [] b14 (own_sel b21 b24 b27 y13) y12 (0 : Int32) aL17 aP17 aR17 aF17 aE17 aT17 aA17 (own_st own_g0 y10 y11).1 (own_st own_g0 y10 y11).2.1 (0 + 1 + 1 + 1) (own_st own_g0 y10 y11).2.2.1 (own_st own_g0 y10 y11).2.2.2 y13 T37.heap n0 (Nat.le_trans (Nat.le_trans (Nat.le_trans (Nat.le_trans (Nat.le_trans (Nat.le_trans (Nat.le_trans (Nat.le_trans (Nat.le_trans (Nat.le_trans (Nat.le_trans (Nat.le_trans (Nat.le_trans (Nat.le_trans (Nat.le_trans (Nat.le_trans (Nat.le_trans (Nat.le_trans (Nat.le_trans (Nat.le_trans Z0 E14.1) E15.1) K16.1) K17.1) E18.1) K19.1) E20.1) E21.1) K22.1) (Keep.of_wr W23).1) E24.1) K25.1) (Keep.of_wr W26).1) E27.1) K28.1) (Keep.of_wr W29).1) K31.1) K33.1) K35.1) K37.1) Hx37 (own_sel3 (P := fun b _ => Exa Z T37.heap b "com/example/changeset/changeset/check/FoundState") rq9_10 ((fsE33.keep K35).keep K37) (fsE35.keep K37) by13) (own_sel3 (P := fun b j => Fld Z T37.heap b "com/example/changeset/changeset/check/FoundState" "number" "I" (.int j)) rq9_12 rq9_16 rq9_20 by13) D17 (allS g_b14 GN17) ⟨⟨i1.1, i1.2.1, by omega, by omega⟩, by13.1, by13.2, i1.2.2.1, by have := i1.2.2.2; omega⟩) hZ (hw _ (List.mem_of_getElem? (i := 121) rfl)) (hw _ (List.mem_of_getElem? (i := 20) rfl)) (by decide) (by decide)) q39a q39c (g := (mkF m 244 #[.val (.int p0), .val (.int p1), .val (.int p2), .val (.int p3), .val (.int y4), .val (.int y5), .val (.int y6), .val (.int y7), .val (.int y8), .val (.int y9), .val (.int y10), .val (.int y11), .val (.int y12), .val (.int y13), .val (.int y14), .val (.int y15), .val (.int y16), .val (.ref b14), .val (.ref b18), .val (.ref b20), .unset, .unset] [(.int (0 : Int32)), (.int y12), (.ref (own_sel b21 b24 b27 y13)), (.ref b14)])) rfl (by rw [hml]; rfl) (Steps.refl _) (argsL := [(.ref (own_sel b21 b24 b27 y13)), (.int y12), (.int (0 : Int32))]) (rest := []) (lenOf pd_25 rfl) rfl (by show 2 * 0 + _ ≤ _; exact Nat.le_of_eq rfl) (hb hby at_244) (fun _ _ => ⟨rfl, rfl, (by decide : 16 + 0 ≤ _), (by decide : 6199 + 0 ≤ _)⟩)
  dsimp only [Pt.U, Pt.locs, Pt.cells, Pt.slots] at X39 l39 y39 z39 st39 hQ39
  try dsimp only [Nat.reduceAdd] at y39 z39
  subst y39 z39
  obtain ⟨rfl, N39q, K39, Hx39⟩ := hQ39
  have N39 : Fr n0 L39 := by rw [l39]; exact Fr.app N37 N39q
  refine .pre (fun _ kq => st39.trans kq) ?_
  show OwnEnds p e below _ (T39.setTop (mkF m 247 #[.val (.int p0), .val (.int p1), .val (.int p2), .val (.int p3), .val (.int y4), .val (.int y5), .val (.int y6), .val (.int y7), .val (.int y8), .val (.int y9), .val (.int y10), .val (.int y11), .val (.int y12), .val (.int y13), .val (.int y14), .val (.int y15), .val (.int y16), .val (.ref b14), .val (.ref b18), .val (.ref b20), .unset, .unset] [(.int (0 : Int32))]))
  refine .pre (fun _ kq => XS.pop X39.here hx rfl (hb hby at_247) rfl rfl kq) ?_
  show OwnEnds p e below _ (T39.setTop (mkF m 248 #[.val (.int p0), .val (.int p1), .val (.int p2), .val (.int p3), .val (.int y4), .val (.int y5), .val (.int y6), .val (.int y7), .val (.int y8), .val (.int y9), .val (.int y10), .val (.int y11), .val (.int y12), .val (.int y13), .val (.int y14), .val (.int y15), .val (.int y16), .val (.ref b14), .val (.ref b18), .val (.ref b20), .unset, .unset] []))
  refine .pre (fun _ kq => XS.aload X39.here hx rfl (hb hby at_248) rfl rfl kq) ?_
  show OwnEnds p e below _ (T39.setTop (mkF m 250 #[.val (.int p0), .val (.int p1), .val (.int p2), .val (.int p3), .val (.int y4), .val (.int y5), .val (.int y6), .val (.int y7), .val (.int y8), .val (.int y9), .val (.int y10), .val (.int y11), .val (.int y12), .val (.int y13), .val (.int y14), .val (.int y15), .val (.int y16), .val (.ref b14), .val (.ref b18), .val (.ref b20), .unset, .unset] [(.ref b14)]))
  refine .pre (fun _ kq => XS.aload X39.here hx rfl (hb hby at_250) rfl rfl kq) ?_
  show OwnEnds p e below _ (T39.setTop (mkF m 252 #[.val (.int p0), .val (.int p1), .val (.int p2), .val (.int p3), .val (.int y4), .val (.int y5), .val (.int y6), .val (.int y7), .val (.int y8), .val (.int y9), .val (.int y10), .val (.int y11), .val (.int y12), .val (.int y13), .val (.int y14), .val (.int y15), .val (.int y16), .val (.ref b14), .val (.ref b18), .val (.ref b20), .unset, .unset] [(.ref b20), (.ref b14)]))
  refine .pre (fun _ kq => XS.iload X39.here hx rfl (hb hby at_252) rfl kq) ?_
  show OwnEnds p e below _ (T39.setTop (mkF m 254 #[.val (.int p0), .val (.int p1), .val (.int p2), .val (.int p3), .val (.int y4), .val (.int y5), .val (.int y6), .val (.int y7), .val (.int y8), .val (.int y9), .val (.int y10), .val (.int y11), .val (.int y12), .val (.int y13), .val (.int y14), .val (.int y15), .val (.int y16), .val (.ref b14), .val (.ref b18), .val (.ref b20), .unset, .unset] [(.int y15), (.ref b20), (.ref b14)]))
  obtain ⟨cl40, Ar40, qa40, qs40, qn40, qh40, qg40⟩ := id (rq9_9.keep K39 (own_nin5 (Ne.symm (Nat.ne_of_lt (Nat.lt_of_lt_of_le ((EG17.ext E18).keep K19).lt (Nat.le_of_eq g20.symm)))) (Ne.symm (Nat.ne_of_lt (Nat.lt_of_lt_of_le ((AF17.ext E18).keep K19 (own_nin1 (Nat.ne_of_lt (Nat.lt_of_lt_of_le AF17.lt (Nat.le_of_eq g18.symm))))).lt (Nat.le_of_eq g20.symm)))) (Ne.symm (Nat.ne_of_lt (Nat.lt_of_lt_of_le ((AE17.ext E18).keep K19 (own_nin1 (Nat.ne_of_lt (Nat.lt_of_lt_of_le AE17.lt (Nat.le_of_eq g18.symm))))).lt (Nat.le_of_eq g20.symm)))) (Ne.symm (Nat.ne_of_lt (Nat.lt_of_lt_of_le ((AT17.ext E18).keep K19 (own_nin1 (Nat.ne_of_lt (Nat.lt_of_lt_of_le AT17.lt (Nat.le_of_eq g18.symm))))).lt (Nat.le_of_eq g20.symm)))) (Ne.symm (Nat.ne_of_lt (Nat.lt_of_lt_of_le ((AA17.ext E18).keep K19 (own_nin1 (Nat.ne_of_lt (Nat.lt_of_lt_of_le AA17.lt (Nat.le_of_eq g18.symm))))).lt (Nat.le_of_eq g20.symm))))))
  have hin40 : ¬ (y15 < 0 ∨ cl40.slots.size ≤ (y15).toNatClampNeg) := inb_of qs40 (own_in3 by15)
  have hat40 : cl40.slots[(y15).toNatClampNeg]? = some (.ref (own_sel b21 b24 b27 y15)) := (qh40 _ (Nat.lt_of_not_le fun y => hin40 (Or.inr y))).trans (congrArg some (own_selv b21 b24 b27 by15))
  refine .pre (fun _ kq => X39.aaload hx (j := y15) (v := (.ref (own_sel b21 b24 b27 y15))) (by first | exact Ar40.1 | (rw [rfl]; exact Ar40.1)) (State.isArrayOf_alike hZ.alike Ar40.2.1) rfl Ar40.2.2 hin40 hat40 (g := (mkF m 254 #[.val (.int p0), .val (.int p1), .val (.int p2), .val (.int p3), .val (.int y4), .val (.int y5), .val (.int y6), .val (.int y7), .val (.int y8), .val (.int y9), .val (.int y10), .val (.int y11), .val (.int y12), .val (.int y13), .val (.int y14), .val (.int y15), .val (.int y16), .val (.ref b14), .val (.ref b18), .val (.ref b20), .unset, .unset] [(.int y15), (.ref b20), (.ref b14)])) rfl rfl (hb hby at_254) _ kq) ?_
  show OwnEnds p e below _ (T39.setTop (mkF m 255 #[.val (.int p0), .val (.int p1), .val (.int p2), .val (.int p3), .val (.int y4), .val (.int y5), .val (.int y6), .val (.int y7), .val (.int y8), .val (.int y9), .val (.int y10), .val (.int y11), .val (.int y12), .val (.int y13), .val (.int y14), .val (.int y15), .val (.int y16), .val (.ref b14), .val (.ref b18), .val (.ref b20), .unset, .unset] [(.ref (own_sel b21 b24 b27 y15)), (.ref b14)]))
  refine .pre (fun _ kq => XS.iload X39.here hx rfl (hb hby at_255) rfl kq) ?_
  show OwnEnds p e below _ (T39.setTop (mkF m 257 #[.val (.int p0), .val (.int p1), .val (.int p2), .val (.int p3), .val (.int y4), .val (.int y5), .val (.int y6), .val (.int y7), .val (.int y8), .val (.int y9), .val (.int y10), .val (.int y11), .val (.int y12), .val (.int y13), .val (.int y14), .val (.int y15), .val (.int y16), .val (.ref b14), .val (.ref b18), .val (.ref b20), .unset, .unset] [(.int y14), (.ref (own_sel b21 b24 b27 y15)), (.ref b14)]))
  refine .pre (fun _ kq => XS.iconst X39.here hx rfl (hb hby at_257) kq) ?_
  show OwnEnds p e below _ (T39.setTop (mkF m 258 #[.val (.int p0), .val (.int p1), .val (.int p2), .val (.int p3), .val (.int y4), .val (.int y5), .val (.int y6), .val (.int y7), .val (.int y8), .val (.int y9), .val (.int y10), .val (.int y11), .val (.int y12), .val (.int y13), .val (.int y14), .val (.int y15), .val (.int y16), .val (.ref b14), .val (.ref b18), .val (.ref b20), .unset, .unset] [(.int (0 : Int32)), (.int y14), (.ref (own_sel b21 b24 b27 y15)), (.ref b14)]))
  have rq10_7 := (rq9_7.keep K39 (own_nin5 (Ne.symm (Nat.ne_of_lt (Nat.lt_of_lt_of_le EG17.lt (Nat.le_of_eq g18.symm)))) (Ne.symm (Nat.ne_of_lt (Nat.lt_of_lt_of_le AF17.lt (Nat.le_of_eq g18.symm)))) (Ne.symm (Nat.ne_of_lt (Nat.lt_of_lt_of_le AE17.lt (Nat.le_of_eq g18.symm)))) (Ne.symm (Nat.ne_of_lt (Nat.lt_of_lt_of_le AT17.lt (Nat.le_of_eq g18.symm)))) (Ne.symm (Nat.ne_of_lt (Nat.lt_of_lt_of_le AA17.lt (Nat.le_of_eq g18.symm))))))
  have rq10_8 := (rq9_8.keep K39 (own_nin5 (Ne.symm (Nat.ne_of_lt (Nat.lt_of_lt_of_le EG17.lt (Nat.le_of_eq g18.symm)))) (Ne.symm (Nat.ne_of_lt (Nat.lt_of_lt_of_le AF17.lt (Nat.le_of_eq g18.symm)))) (Ne.symm (Nat.ne_of_lt (Nat.lt_of_lt_of_le AE17.lt (Nat.le_of_eq g18.symm)))) (Ne.symm (Nat.ne_of_lt (Nat.lt_of_lt_of_le AT17.lt (Nat.le_of_eq g18.symm)))) (Ne.symm (Nat.ne_of_lt (Nat.lt_of_lt_of_le AA17.lt (Nat.le_of_eq g18.symm))))))
  have rq10_9 := (rq9_9.keep K39 (own_nin5 (Ne.symm (Nat.ne_of_lt (Nat.lt_of_lt_of_le ((EG17.ext E18).keep K19).lt (Nat.le_of_eq g20.symm)))) (Ne.symm (Nat.ne_of_lt (Nat.lt_of_lt_of_le ((AF17.ext E18).keep K19 (own_nin1 (Nat.ne_of_lt (Nat.lt_of_lt_of_le AF17.lt (Nat.le_of_eq g18.symm))))).lt (Nat.le_of_eq g20.symm)))) (Ne.symm (Nat.ne_of_lt (Nat.lt_of_lt_of_le ((AE17.ext E18).keep K19 (own_nin1 (Nat.ne_of_lt (Nat.lt_of_lt_of_le AE17.lt (Nat.le_of_eq g18.symm))))).lt (Nat.le_of_eq g20.symm)))) (Ne.symm (Nat.ne_of_lt (Nat.lt_of_lt_of_le ((AT17.ext E18).keep K19 (own_nin1 (Nat.ne_of_lt (Nat.lt_of_lt_of_le AT17.lt (Nat.le_of_eq g18.symm))))).lt (Nat.le_of_eq g20.symm)))) (Ne.symm (Nat.ne_of_lt (Nat.lt_of_lt_of_le ((AA17.ext E18).keep K19 (own_nin1 (Nat.ne_of_lt (Nat.lt_of_lt_of_le AA17.lt (Nat.le_of_eq g18.symm))))).lt (Nat.le_of_eq g20.symm))))))
  have rq10_12 := (rq9_12.keep K39 (own_nin5 (Ne.symm nq5_7) (Ne.symm nq5_29) (Ne.symm nq5_32) (Ne.symm nq5_34) (Ne.symm nq5_35)))
  have rq10_13 := (rq9_13.keep K39 (own_nin5 (Ne.symm nq5_7) (Ne.symm nq5_29) (Ne.symm nq5_32) (Ne.symm nq5_34) (Ne.symm nq5_35)))
  have rq10_14 := (((fsE33.keep K35).keep K37).keep K39)
  have rq10_16 := (rq9_16.keep K39 (own_nin5 (Ne.symm nq6_7) (Ne.symm nq6_33) (Ne.symm nq6_37) (Ne.symm nq6_40) (Ne.symm nq6_42)))
  have rq10_17 := (rq9_17.keep K39 (own_nin5 (Ne.symm nq6_7) (Ne.symm nq6_33) (Ne.symm nq6_37) (Ne.symm nq6_40) (Ne.symm nq6_42)))
  have rq10_20 := (rq9_20.keep K39 (own_nin5 (Ne.symm nq7_7) (Ne.symm nq7_33) (Ne.symm nq7_37) (Ne.symm nq7_40) (Ne.symm nq7_42)))
  have rq10_21 := (rq9_21.keep K39 (own_nin5 (Ne.symm nq7_7) (Ne.symm nq7_33) (Ne.symm nq7_37) (Ne.symm nq7_40) (Ne.symm nq7_42)))
  obtain ⟨cq41, kq41, q41a, q41b, q41c⟩ := isOf hZ rfl Hx39.1
  obtain ⟨_, _, ⟨T41, L41, k41, n41⟩, -, X41, ⟨Lc41, hQ41, l41, y41, z41⟩, st41⟩ := X39.virtualBack hx (y := (⟨"com/example/changeset/changeset/check/StateGraph", "add", "(Lcom/example/changeset/changeset/check/FoundState;II)Z"⟩ : MethodName)) (z := (⟨"com/example/changeset/changeset/check/StateGraph", "add", "(Lcom/example/changeset/changeset/check/FoundState;II)Z"⟩ : MethodName)) hown (mvT hZ (hw _ (List.mem_of_getElem? (i := 117) rfl))) (mvT hZ (hw _ (List.mem_of_getElem? (i := 118) rfl))) (notFace_of_selects (args := #[]) (mvT hZ (hw _ (List.mem_of_getElem? (i := 120) rfl)))) (mvT hZ (hw _ (List.mem_of_getElem? (i := 120) rfl))) (mvT hZ (hw _ (List.mem_of_getElem? (i := 119) rfl))) (by decide) (backOf (W := 0) (rm16E l Z aZ hw [] b14 (own_sel b21 b24 b27 y15) y14 (0 : Int32) aL17 aP17 aR17 aF17 aE17 aT17 aA17 (own_st (own_st own_g0 y10 y11) y12 y13).1 (own_st (own_st own_g0 y10 y11) y12 y13).2.1 (0 + 1 + 1 + 1) (own_st (own_st own_g0 y10 y11) y12 y13).2.2.1 (own_st (own_st own_g0 y10 y11) y12 y13).2.2.2 y15 T39.heap n0 (Nat.le_trans (Nat.le_trans (Nat.le_trans (Nat.le_trans (Nat.le_trans (Nat.le_trans (Nat.le_trans (Nat.le_trans (Nat.le_trans (Nat.le_trans (Nat.le_trans (Nat.le_trans (Nat.le_trans (Nat.le_trans (Nat.le_trans (Nat.le_trans (Nat.le_trans (Nat.le_trans (Nat.le_trans (Nat.le_trans (Nat.le_trans Z0 E14.1) E15.1) K16.1) K17.1) E18.1) K19.1) E20.1) E21.1) K22.1) (Keep.of_wr W23).1) E24.1) K25.1) (Keep.of_wr W26).1) E27.1) K28.1) (Keep.of_wr W29).1) K31.1) K33.1) K35.1) K37.1) K39.1) Hx39 (own_sel3 (P := fun b _ => Exa Z T39.heap b "com/example/changeset/changeset/check/FoundState") (rq9_10.keep K39) rq10_14 ((fsE35.keep K37).keep K39) by15) (own_sel3 (P := fun b j => Fld Z T39.heap b "com/example/changeset/changeset/check/FoundState" "number" "I" (.int j)) rq10_12 rq10_16 rq10_20 by15) D17 (allS g_b14 GN17) ⟨⟨i2.1, i2.2.1, by omega, by omega⟩, by15.1, by15.2, i2.2.2.1, by have := i2.2.2.2; omega⟩) hZ (hw _ (List.mem_of_getElem? (i := 121) rfl)) (hw _ (List.mem_of_getElem? (i := 20) rfl)) (by decide) (by decide)) q41a q41c (g := (mkF m 258 #[.val (.int p0), .val (.int p1), .val (.int p2), .val (.int p3), .val (.int y4), .val (.int y5), .val (.int y6), .val (.int y7), .val (.int y8), .val (.int y9), .val (.int y10), .val (.int y11), .val (.int y12), .val (.int y13), .val (.int y14), .val (.int y15), .val (.int y16), .val (.ref b14), .val (.ref b18), .val (.ref b20), .unset, .unset] [(.int (0 : Int32)), (.int y14), (.ref (own_sel b21 b24 b27 y15)), (.ref b14)])) rfl (by rw [hml]; rfl) (Steps.refl _) (argsL := [(.ref (own_sel b21 b24 b27 y15)), (.int y14), (.int (0 : Int32))]) (rest := []) (lenOf pd_25 rfl) rfl (by show 2 * 0 + _ ≤ _; exact Nat.le_of_eq rfl) (hb hby at_258) (fun _ _ => ⟨rfl, rfl, (by decide : 16 + 0 ≤ _), (by decide : 6199 + 0 ≤ _)⟩)
  dsimp only [Pt.U, Pt.locs, Pt.cells, Pt.slots] at X41 l41 y41 z41 st41 hQ41
  try dsimp only [Nat.reduceAdd] at y41 z41
  subst y41 z41
  obtain ⟨rfl, N41q, K41, Hx41⟩ := hQ41
  have N41 : Fr n0 L41 := by rw [l41]; exact Fr.app N39 N41q
  refine .pre (fun _ kq => st41.trans kq) ?_
  show OwnEnds p e below _ (T41.setTop (mkF m 261 #[.val (.int p0), .val (.int p1), .val (.int p2), .val (.int p3), .val (.int y4), .val (.int y5), .val (.int y6), .val (.int y7), .val (.int y8), .val (.int y9), .val (.int y10), .val (.int y11), .val (.int y12), .val (.int y13), .val (.int y14), .val (.int y15), .val (.int y16), .val (.ref b14), .val (.ref b18), .val (.ref b20), .unset, .unset] [(.int (0 : Int32))]))
  refine .pre (fun _ kq => XS.pop X41.here hx rfl (hb hby at_261) rfl rfl kq) ?_
  show OwnEnds p e below _ (T41.setTop (mkF m 262 #[.val (.int p0), .val (.int p1), .val (.int p2), .val (.int p3), .val (.int y4), .val (.int y5), .val (.int y6), .val (.int y7), .val (.int y8), .val (.int y9), .val (.int y10), .val (.int y11), .val (.int y12), .val (.int y13), .val (.int y14), .val (.int y15), .val (.int y16), .val (.ref b14), .val (.ref b18), .val (.ref b20), .unset, .unset] []))
  refine .pre (fun _ kq => XS.aload X41.here hx rfl (hb hby at_262) rfl rfl kq) ?_
  show OwnEnds p e below _ (T41.setTop (mkF m 264 #[.val (.int p0), .val (.int p1), .val (.int p2), .val (.int p3), .val (.int y4), .val (.int y5), .val (.int y6), .val (.int y7), .val (.int y8), .val (.int y9), .val (.int y10), .val (.int y11), .val (.int y12), .val (.int y13), .val (.int y14), .val (.int y15), .val (.int y16), .val (.ref b14), .val (.ref b18), .val (.ref b20), .unset, .unset] [(.ref b14)]))
  refine .pre (fun _ kq => XS.iload X41.here hx rfl (hb hby at_264) rfl kq) ?_
  show OwnEnds p e below _ (T41.setTop (mkF m 266 #[.val (.int p0), .val (.int p1), .val (.int p2), .val (.int p3), .val (.int y4), .val (.int y5), .val (.int y6), .val (.int y7), .val (.int y8), .val (.int y9), .val (.int y10), .val (.int y11), .val (.int y12), .val (.int y13), .val (.int y14), .val (.int y15), .val (.int y16), .val (.ref b14), .val (.ref b18), .val (.ref b20), .unset, .unset] [(.int y16), (.ref b14)]))
  obtain ⟨cq42, kq42, q42a, q42b, q42c⟩ := isOf hZ rfl Hx41.1
  obtain ⟨_, _, ⟨T42, L42, k42, n42⟩, -, X42, ⟨Lc42, hQ42, l42, y42, z42⟩, st42⟩ := X41.virtualBack hx (y := (⟨"com/example/changeset/changeset/check/StateGraph", "edgesEnd", "(I)I"⟩ : MethodName)) (z := (⟨"com/example/changeset/changeset/check/StateGraph", "edgesEnd", "(I)I"⟩ : MethodName)) hown (mvT hZ (hw _ (List.mem_of_getElem? (i := 185) rfl))) (mvT hZ (hw _ (List.mem_of_getElem? (i := 186) rfl))) (notFace_of_selects (args := #[]) (mvT hZ (hw _ (List.mem_of_getElem? (i := 188) rfl)))) (mvT hZ (hw _ (List.mem_of_getElem? (i := 188) rfl))) (mvT hZ (hw _ (List.mem_of_getElem? (i := 187) rfl))) (by decide) (backOf (W := 0) (rm26 l Z aZ hw [] b14 y16 aF17 (own_st (own_st (own_st own_g0 y10 y11) y12 y13) y14 y15).1 (own_st (own_st (own_st own_g0 y10 y11) y12 y13) y14 y15).2.1 (own_st (own_st (own_st own_g0 y10 y11) y12 y13) y14 y15).2.2.1 T41.heap n0 (Nat.le_trans (Nat.le_trans (Nat.le_trans (Nat.le_trans (Nat.le_trans (Nat.le_trans (Nat.le_trans (Nat.le_trans (Nat.le_trans (Nat.le_trans (Nat.le_trans (Nat.le_trans (Nat.le_trans (Nat.le_trans (Nat.le_trans (Nat.le_trans (Nat.le_trans (Nat.le_trans (Nat.le_trans (Nat.le_trans (Nat.le_trans (Nat.le_trans Z0 E14.1) E15.1) K16.1) K17.1) E18.1) K19.1) E20.1) E21.1) K22.1) (Keep.of_wr W23).1) E24.1) K25.1) (Keep.of_wr W26).1) E27.1) K28.1) (Keep.of_wr W29).1) K31.1) K33.1) K35.1) K37.1) K39.1) K41.1) Hx41.2.2.2.2.1 Hx41.2.2.2.2.2.2.1 Hx41.2.2.2.2.2.2.2.2.2.2.2.1 Hx41.2.2.2.2.2.2.2.2.2.2.2.2.2.2.1 bn) hZ (hw _ (List.mem_of_getElem? (i := 189) rfl)) (hw _ (List.mem_of_getElem? (i := 20) rfl)) (by decide) (by decide)) q42a q42c (g := (mkF m 266 #[.val (.int p0), .val (.int p1), .val (.int p2), .val (.int p3), .val (.int y4), .val (.int y5), .val (.int y6), .val (.int y7), .val (.int y8), .val (.int y9), .val (.int y10), .val (.int y11), .val (.int y12), .val (.int y13), .val (.int y14), .val (.int y15), .val (.int y16), .val (.ref b14), .val (.ref b18), .val (.ref b20), .unset, .unset] [(.int y16), (.ref b14)])) rfl (by rw [hml]; rfl) (Steps.refl _) (argsL := [(.int y16)]) (rest := []) (lenOf pd_21 rfl) rfl (by show 2 * 0 + _ ≤ _; exact Nat.le_of_eq rfl) (hb hby at_266) (fun _ _ => ⟨rfl, rfl, (by decide : 16 + 0 ≤ _), (by decide : 6199 + 0 ≤ _)⟩)
  dsimp only [Pt.U, Pt.locs, Pt.cells, Pt.slots] at X42 l42 y42 z42 st42 hQ42
  try dsimp only [Nat.reduceAdd] at y42 z42
  subst y42 z42
  obtain ⟨rfl, N42q, e42⟩ := hQ42
  have N42 : Fr n0 L42 := by rw [l42]; exact Fr.app N41 N42q
  refine .pre (fun _ kq => st42.trans kq) ?_
  show OwnEnds p e below _ (T42.setTop (mkF m 269 #[.val (.int p0), .val (.int p1), .val (.int p2), .val (.int p3), .val (.int y4), .val (.int y5), .val (.int y6), .val (.int y7), .val (.int y8), .val (.int y9), .val (.int y10), .val (.int y11), .val (.int y12), .val (.int y13), .val (.int y14), .val (.int y15), .val (.int y16), .val (.ref b14), .val (.ref b18), .val (.ref b20), .unset, .unset] [(.int (f26_0 aF17 (own_st (own_st (own_st own_g0 y10 y11) y12 y13) y14 y15).1 (own_st (own_st (own_st own_g0 y10 y11) y12 y13) y14 y15).2.1 (own_st (own_st (own_st own_g0 y10 y11) y12 y13) y14 y15).2.2.1 y16))]))
  refine .pre (fun _ kq => XS.istore X42.here hx rfl (hb hby at_269) rfl (l' := #[.val (.int p0), .val (.int p1), .val (.int p2), .val (.int p3), .val (.int y4), .val (.int y5), .val (.int y6), .val (.int y7), .val (.int y8), .val (.int y9), .val (.int y10), .val (.int y11), .val (.int y12), .val (.int y13), .val (.int y14), .val (.int y15), .val (.int y16), .val (.ref b14), .val (.ref b18), .val (.ref b20), .val (.int (f26_0 aF17 (own_st (own_st (own_st own_g0 y10 y11) y12 y13) y14 y15).1 (own_st (own_st (own_st own_g0 y10 y11) y12 y13) y14 y15).2.1 (own_st (own_st (own_st own_g0 y10 y11) y12 y13) y14 y15).2.2.1 y16)), .unset]) rfl kq) ?_
  show OwnEnds p e below _ (T42.setTop (mkF m 271 #[.val (.int p0), .val (.int p1), .val (.int p2), .val (.int p3), .val (.int y4), .val (.int y5), .val (.int y6), .val (.int y7), .val (.int y8), .val (.int y9), .val (.int y10), .val (.int y11), .val (.int y12), .val (.int y13), .val (.int y14), .val (.int y15), .val (.int y16), .val (.ref b14), .val (.ref b18), .val (.ref b20), .val (.int (f26_0 aF17 (own_st (own_st (own_st own_g0 y10 y11) y12 y13) y14 y15).1 (own_st (own_st (own_st own_g0 y10 y11) y12 y13) y14 y15).2.1 (own_st (own_st (own_st own_g0 y10 y11) y12 y13) y14 y15).2.2.1 y16)), .unset] []))
  obtain ⟨y20, hy20⟩ : ∃ z, z = (f26_0 aF17 (own_st (own_st (own_st own_g0 y10 y11) y12 y13) y14 y15).1 (own_st (own_st (own_st own_g0 y10 y11) y12 y13) y14 y15).2.1 (own_st (own_st (own_st own_g0 y10 y11) y12 y13) y14 y15).2.2.1 y16) := ⟨_, rfl⟩
  rw [← hy20]
  have hlaw : f0_271 y10 y11 y12 y13 y14 y15 y16 y20 = 1 := by rw [hy20]; exact own_law _ _ _ _ _ _ _ _ ⟨⟨bf0, bf1, bf2, bf3⟩, by11, by13, by15, bn⟩
  have B367 : ∀ (T : State) (L : List Loc) (k n : Nat) (X : Stand p l e room_1 s m #[(.int p0), (.int p1), (.int p2), (.int p3)] below meth c T L k n) (eT : T.heap = T41.heap) (N : Fr n0 L) (hk : k ≤ 40) (hn : n ≤ 12480) (i0 : Int32) (i1 : Int32) (i2 : Int32) (i3 : Int32) (i4 : Int32) (i5 : Int32) (i6 : Int32) (i7 : Int32) (i8 : Int32) (i9 : Int32) (i10 : Int32) (i11 : Int32) (i12 : Int32) (i13 : Int32) (i14 : Int32) (i15 : Int32) (i16 : Int32) (i20 : Int32) (i21 : Int32), f0_367 i20 i21 = (1 : Int32) → OwnEnds p e below (OwnQ s (Q0 Z p0 p1 p2 p3 xD h0 n0) 40 12480) (T.setTop (mkF m 367 #[.val (.int i0), .val (.int i1), .val (.int i2), .val (.int i3), .val (.int i4), .val (.int i5), .val (.int i6), .val (.int i7), .val (.int i8), .val (.int i9), .val (.int i10), .val (.int i11), .val (.int i12), .val (.int i13), .val (.int i14), .val (.int i15), .val (.int i16), .val (.ref b14), .val (.ref b18), .val (.ref b20), .val (.int i20), .val (.int i21)] [])) := by
    intro T L k n X eT N hk hn i0 i1 i2 i3 i4 i5 i6 i7 i8 i9 i10 i11 i12 i13 i14 i15 i16 i20 i21 hF
    change (if i20 = i21 then (1 : Int32) else (0 : Int32)) = _ at hF
    show OwnEnds p e below _ (T.setTop (mkF m 367 #[.val (.int i0), .val (.int i1), .val (.int i2), .val (.int i3), .val (.int i4), .val (.int i5), .val (.int i6), .val (.int i7), .val (.int i8), .val (.int i9), .val (.int i10), .val (.int i11), .val (.int i12), .val (.int i13), .val (.int i14), .val (.int i15), .val (.int i16), .val (.ref b14), .val (.ref b18), .val (.ref b20), .val (.int i20), .val (.int i21)] []))
    refine .pre (fun _ kq => XS.iload X.here hx rfl (hb hby at_367) rfl kq) ?_
    show OwnEnds p e below _ (T.setTop (mkF m 369 #[.val (.int i0), .val (.int i1), .val (.int i2), .val (.int i3), .val (.int i4), .val (.int i5), .val (.int i6), .val (.int i7), .val (.int i8), .val (.int i9), .val (.int i10), .val (.int i11), .val (.int i12), .val (.int i13), .val (.int i14), .val (.int i15), .val (.int i16), .val (.ref b14), .val (.ref b18), .val (.ref b20), .val (.int i20), .val (.int i21)] [(.int i20)]))
    refine .pre (fun _ kq => XS.iload X.here hx rfl (hb hby at_369) rfl kq) ?_
    show OwnEnds p e below _ (T.setTop (mkF m 371 #[.val (.int i0), .val (.int i1), .val (.int i2), .val (.int i3), .val (.int i4), .val (.int i5), .val (.int i6), .val (.int i7), .val (.int i8), .val (.int i9), .val (.int i10), .val (.int i11), .val (.int i12), .val (.int i13), .val (.int i14), .val (.int i15), .val (.int i16), .val (.ref b14), .val (.ref b18), .val (.ref b20), .val (.int i20), .val (.int i21)] [(.int i21), (.int i20)]))
    by_cases hc371 : i20 = i21
    · rw [if_pos hc371] at hF
      refine .pre (fun _ kq => XS.icmpNo X.here hx rfl (hb hby at_371) rfl (teq hc371).2 kq) ?_
      show OwnEnds p e below _ (T.setTop (mkF m 374 #[.val (.int i0), .val (.int i1), .val (.int i2), .val (.int i3), .val (.int i4), .val (.int i5), .val (.int i6), .val (.int i7), .val (.int i8), .val (.int i9), .val (.int i10), .val (.int i11), .val (.int i12), .val (.int i13), .val (.int i14), .val (.int i15), .val (.int i16), .val (.ref b14), .val (.ref b18), .val (.ref b20), .val (.int i20), .val (.int i21)] []))
      refine .pre (fun _ kq => XS.iconst X.here hx rfl (hb hby at_374) kq) ?_
      show OwnEnds p e below _ (T.setTop (mkF m 375 #[.val (.int i0), .val (.int i1), .val (.int i2), .val (.int i3), .val (.int i4), .val (.int i5), .val (.int i6), .val (.int i7), .val (.int i8), .val (.int i9), .val (.int i10), .val (.int i11), .val (.int i12), .val (.int i13), .val (.int i14), .val (.int i15), .val (.int i16), .val (.ref b14), .val (.ref b18), .val (.ref b20), .val (.int i20), .val (.int i21)] [(.int (1 : Int32))]))
      refine .pre (fun _ kq => XS.goto X.here hx rfl (pc0 := 375) (pc' := 379) rfl (hb hby at_375) (by decide) (by decide) kq) ?_
      show OwnEnds p e below _ (T.setTop (mkF m 379 #[.val (.int i0), .val (.int i1), .val (.int i2), .val (.int i3), .val (.int i4), .val (.int i5), .val (.int i6), .val (.int i7), .val (.int i8), .val (.int i9), .val (.int i10), .val (.int i11), .val (.int i12), .val (.int i13), .val (.int i14), .val (.int i15), .val (.int i16), .val (.ref b14), .val (.ref b18), .val (.ref b20), .val (.int i20), .val (.int i21)] [(.int (1 : Int32))]))
      exact own_endN X hx hlk (t := .boolean) Bd.returns (by simp) (hb hby at_379) rfl hk hn ⟨congrArg (fun z => some (Value.int z)) hF, N, trivial⟩
    · rw [if_neg hc371] at hF
      refine .pre (fun _ kq => XS.icmpYes X.here hx rfl (pc0 := 371) (pc' := 378) rfl (hb hby at_371) rfl (feq hc371).2 (by decide) (by decide) kq) ?_
      show OwnEnds p e below _ (T.setTop (mkF m 378 #[.val (.int i0), .val (.int i1), .val (.int i2), .val (.int i3), .val (.int i4), .val (.int i5), .val (.int i6), .val (.int i7), .val (.int i8), .val (.int i9), .val (.int i10), .val (.int i11), .val (.int i12), .val (.int i13), .val (.int i14), .val (.int i15), .val (.int i16), .val (.ref b14), .val (.ref b18), .val (.ref b20), .val (.int i20), .val (.int i21)] []))
      refine .pre (fun _ kq => XS.iconst X.here hx rfl (hb hby at_378) kq) ?_
      show OwnEnds p e below _ (T.setTop (mkF m 379 #[.val (.int i0), .val (.int i1), .val (.int i2), .val (.int i3), .val (.int i4), .val (.int i5), .val (.int i6), .val (.int i7), .val (.int i8), .val (.int i9), .val (.int i10), .val (.int i11), .val (.int i12), .val (.int i13), .val (.int i14), .val (.int i15), .val (.int i16), .val (.ref b14), .val (.ref b18), .val (.ref b20), .val (.int i20), .val (.int i21)] [(.int (0 : Int32))]))
      exact own_endN X hx hlk (t := .boolean) Bd.returns (by simp) (hb hby at_379) rfl hk hn ⟨congrArg (fun z => some (Value.int z)) hF, N, trivial⟩
  have B364 : ∀ (T : State) (L : List Loc) (k n : Nat) (X : Stand p l e room_1 s m #[(.int p0), (.int p1), (.int p2), (.int p3)] below meth c T L k n) (eT : T.heap = T41.heap) (N : Fr n0 L) (hk : k ≤ 40) (hn : n ≤ 12480) (i0 : Int32) (i1 : Int32) (i2 : Int32) (i3 : Int32) (i4 : Int32) (i5 : Int32) (i6 : Int32) (i7 : Int32) (i8 : Int32) (i9 : Int32) (i10 : Int32) (i11 : Int32) (i12 : Int32) (i13 : Int32) (i14 : Int32) (i15 : Int32) (i16 : Int32) (i20 : Int32) (i21 : Int32), f0_364 i20 i21 = (1 : Int32) → OwnEnds p e below (OwnQ s (Q0 Z p0 p1 p2 p3 xD h0 n0) 40 12480) (T.setTop (mkF m 364 #[.val (.int i0), .val (.int i1), .val (.int i2), .val (.int i3), .val (.int i4), .val (.int i5), .val (.int i6), .val (.int i7), .val (.int i8), .val (.int i9), .val (.int i10), .val (.int i11), .val (.int i12), .val (.int i13), .val (.int i14), .val (.int i15), .val (.int i16), .val (.ref b14), .val (.ref b18), .val (.ref b20), .val (.int i20), .val (.int i21)] [])) := by
    intro T L k n X eT N hk hn i0 i1 i2 i3 i4 i5 i6 i7 i8 i9 i10 i11 i12 i13 i14 i15 i16 i20 i21 hF
    change (f0_367 i20 (i21 + (1 : Int32))) = _ at hF
    show OwnEnds p e below _ (T.setTop (mkF m 364 #[.val (.int i0), .val (.int i1), .val (.int i2), .val (.int i3), .val (.int i4), .val (.int i5), .val (.int i6), .val (.int i7), .val (.int i8), .val (.int i9), .val (.int i10), .val (.int i11), .val (.int i12), .val (.int i13), .val (.int i14), .val (.int i15), .val (.int i16), .val (.ref b14), .val (.ref b18), .val (.ref b20), .val (.int i20), .val (.int i21)] []))
    refine .pre (fun _ kq => XS.iinc X.here hx rfl (hb hby at_364) rfl (l' := #[.val (.int i0), .val (.int i1), .val (.int i2), .val (.int i3), .val (.int i4), .val (.int i5), .val (.int i6), .val (.int i7), .val (.int i8), .val (.int i9), .val (.int i10), .val (.int i11), .val (.int i12), .val (.int i13), .val (.int i14), .val (.int i15), .val (.int i16), .val (.ref b14), .val (.ref b18), .val (.ref b20), .val (.int i20), .val (.int (i21 + (1 : Int32)))]) rfl kq) ?_
    exact B367 T _ _ _ X eT N hk hn i0 i1 i2 i3 i4 i5 i6 i7 i8 i9 i10 i11 i12 i13 i14 i15 i16 i20 (i21 + (1 : Int32)) hF
  have B350 : ∀ (T : State) (L : List Loc) (k n : Nat) (X : Stand p l e room_1 s m #[(.int p0), (.int p1), (.int p2), (.int p3)] below meth c T L k n) (eT : T.heap = T41.heap) (N : Fr n0 L) (hk : k ≤ 40) (hn : n ≤ 12480) (i0 : Int32) (i1 : Int32) (i2 : Int32) (i3 : Int32) (i4 : Int32) (i5 : Int32) (i6 : Int32) (i7 : Int32) (i8 : Int32) (i9 : Int32) (i10 : Int32) (i11 : Int32) (i12 : Int32) (i13 : Int32) (i14 : Int32) (i15 : Int32) (i16 : Int32) (i20 : Int32) (i21 : Int32), f0_350 i12 i13 i14 i15 i20 i21 = (1 : Int32) → OwnEnds p e below (OwnQ s (Q0 Z p0 p1 p2 p3 xD h0 n0) 40 12480) (T.setTop (mkF m 350 #[.val (.int i0), .val (.int i1), .val (.int i2), .val (.int i3), .val (.int i4), .val (.int i5), .val (.int i6), .val (.int i7), .val (.int i8), .val (.int i9), .val (.int i10), .val (.int i11), .val (.int i12), .val (.int i13), .val (.int i14), .val (.int i15), .val (.int i16), .val (.ref b14), .val (.ref b18), .val (.ref b20), .val (.int i20), .val (.int i21)] [])) := by
    intro T L k n X eT N hk hn i0 i1 i2 i3 i4 i5 i6 i7 i8 i9 i10 i11 i12 i13 i14 i15 i16 i20 i21 hF
    change (if i14 = i12 then (if i15 = i13 then (f0_367 i20 i21) else (f0_364 i20 i21)) else (f0_364 i20 i21)) = _ at hF
    show OwnEnds p e below _ (T.setTop (mkF m 350 #[.val (.int i0), .val (.int i1), .val (.int i2), .val (.int i3), .val (.int i4), .val (.int i5), .val (.int i6), .val (.int i7), .val (.int i8), .val (.int i9), .val (.int i10), .val (.int i11), .val (.int i12), .val (.int i13), .val (.int i14), .val (.int i15), .val (.int i16), .val (.ref b14), .val (.ref b18), .val (.ref b20), .val (.int i20), .val (.int i21)] []))
    refine .pre (fun _ kq => XS.iload X.here hx rfl (hb hby at_350) rfl kq) ?_
    show OwnEnds p e below _ (T.setTop (mkF m 352 #[.val (.int i0), .val (.int i1), .val (.int i2), .val (.int i3), .val (.int i4), .val (.int i5), .val (.int i6), .val (.int i7), .val (.int i8), .val (.int i9), .val (.int i10), .val (.int i11), .val (.int i12), .val (.int i13), .val (.int i14), .val (.int i15), .val (.int i16), .val (.ref b14), .val (.ref b18), .val (.ref b20), .val (.int i20), .val (.int i21)] [(.int i14)]))
    refine .pre (fun _ kq => XS.iload X.here hx rfl (hb hby at_352) rfl kq) ?_
    show OwnEnds p e below _ (T.setTop (mkF m 354 #[.val (.int i0), .val (.int i1), .val (.int i2), .val (.int i3), .val (.int i4), .val (.int i5), .val (.int i6), .val (.int i7), .val (.int i8), .val (.int i9), .val (.int i10), .val (.int i11), .val (.int i12), .val (.int i13), .val (.int i14), .val (.int i15), .val (.int i16), .val (.ref b14), .val (.ref b18), .val (.ref b20), .val (.int i20), .val (.int i21)] [(.int i12), (.int i14)]))
    by_cases hc354 : i14 = i12
    · rw [if_pos hc354] at hF
      refine .pre (fun _ kq => XS.icmpNo X.here hx rfl (hb hby at_354) rfl (teq hc354).2 kq) ?_
      show OwnEnds p e below _ (T.setTop (mkF m 357 #[.val (.int i0), .val (.int i1), .val (.int i2), .val (.int i3), .val (.int i4), .val (.int i5), .val (.int i6), .val (.int i7), .val (.int i8), .val (.int i9), .val (.int i10), .val (.int i11), .val (.int i12), .val (.int i13), .val (.int i14), .val (.int i15), .val (.int i16), .val (.ref b14), .val (.ref b18), .val (.ref b20), .val (.int i20), .val (.int i21)] []))
      refine .pre (fun _ kq => XS.iload X.here hx rfl (hb hby at_357) rfl kq) ?_
      show OwnEnds p e below _ (T.setTop (mkF m 359 #[.val (.int i0), .val (.int i1), .val (.int i2), .val (.int i3), .val (.int i4), .val (.int i5), .val (.int i6), .val (.int i7), .val (.int i8), .val (.int i9), .val (.int i10), .val (.int i11), .val (.int i12), .val (.int i13), .val (.int i14), .val (.int i15), .val (.int i16), .val (.ref b14), .val (.ref b18), .val (.ref b20), .val (.int i20), .val (.int i21)] [(.int i15)]))
      refine .pre (fun _ kq => XS.iload X.here hx rfl (hb hby at_359) rfl kq) ?_
      show OwnEnds p e below _ (T.setTop (mkF m 361 #[.val (.int i0), .val (.int i1), .val (.int i2), .val (.int i3), .val (.int i4), .val (.int i5), .val (.int i6), .val (.int i7), .val (.int i8), .val (.int i9), .val (.int i10), .val (.int i11), .val (.int i12), .val (.int i13), .val (.int i14), .val (.int i15), .val (.int i16), .val (.ref b14), .val (.ref b18), .val (.ref b20), .val (.int i20), .val (.int i21)] [(.int i13), (.int i15)]))
      by_cases hc361 : i15 = i13
      · rw [if_pos hc361] at hF
        refine .pre (fun _ kq => XS.icmpYes X.here hx rfl (pc0 := 361) (pc' := 367) rfl (hb hby at_361) rfl (teq hc361).1 (by decide) (by decide) kq) ?_
        exact B367 T _ _ _ X eT N hk hn i0 i1 i2 i3 i4 i5 i6 i7 i8 i9 i10 i11 i12 i13 i14 i15 i16 i20 i21 hF
      · rw [if_neg hc361] at hF
        refine .pre (fun _ kq => XS.icmpNo X.here hx rfl (hb hby at_361) rfl (feq hc361).1 kq) ?_
        exact B364 T _ _ _ X eT N hk hn i0 i1 i2 i3 i4 i5 i6 i7 i8 i9 i10 i11 i12 i13 i14 i15 i16 i20 i21 hF
    · rw [if_neg hc354] at hF
      refine .pre (fun _ kq => XS.icmpYes X.here hx rfl (pc0 := 354) (pc' := 364) rfl (hb hby at_354) rfl (feq hc354).2 (by decide) (by decide) kq) ?_
      exact B364 T _ _ _ X eT N hk hn i0 i1 i2 i3 i4 i5 i6 i7 i8 i9 i10 i11 i12 i13 i14 i15 i16 i20 i21 hF
  have B322 : ∀ (T : State) (L : List Loc) (k n : Nat) (X : Stand p l e room_1 s m #[(.int p0), (.int p1), (.int p2), (.int p3)] below meth c T L k n) (eT : T.heap = T41.heap) (N : Fr n0 L) (hk : k ≤ 40) (hn : n ≤ 12480) (i0 : Int32) (i1 : Int32) (i2 : Int32) (i3 : Int32) (i4 : Int32) (i5 : Int32) (i6 : Int32) (i7 : Int32) (i8 : Int32) (i9 : Int32) (i10 : Int32) (i11 : Int32) (i12 : Int32) (i13 : Int32) (i14 : Int32) (i15 : Int32) (i16 : Int32) (i20 : Int32) (i21 : Int32), f0_322 i10 i11 i12 i13 i14 i15 i16 i20 i21 = (1 : Int32) → OwnEnds p e below (OwnQ s (Q0 Z p0 p1 p2 p3 xD h0 n0) 40 12480) (T.setTop (mkF m 322 #[.val (.int i0), .val (.int i1), .val (.int i2), .val (.int i3), .val (.int i4), .val (.int i5), .val (.int i6), .val (.int i7), .val (.int i8), .val (.int i9), .val (.int i10), .val (.int i11), .val (.int i12), .val (.int i13), .val (.int i14), .val (.int i15), .val (.int i16), .val (.ref b14), .val (.ref b18), .val (.ref b20), .val (.int i20), .val (.int i21)] [])) := by
    intro T L k n X eT N hk hn i0 i1 i2 i3 i4 i5 i6 i7 i8 i9 i10 i11 i12 i13 i14 i15 i16 i20 i21 hF
    change (if i14 = i15 then (f0_367 i20 i21) else (if i16 < i14 then (f0_367 i20 i21) else (if i14 = i10 then (if i15 = i11 then (f0_367 i20 i21) else (f0_350 i12 i13 i14 i15 i20 i21)) else (f0_350 i12 i13 i14 i15 i20 i21)))) = _ at hF
    show OwnEnds p e below _ (T.setTop (mkF m 322 #[.val (.int i0), .val (.int i1), .val (.int i2), .val (.int i3), .val (.int i4), .val (.int i5), .val (.int i6), .val (.int i7), .val (.int i8), .val (.int i9), .val (.int i10), .val (.int i11), .val (.int i12), .val (.int i13), .val (.int i14), .val (.int i15), .val (.int i16), .val (.ref b14), .val (.ref b18), .val (.ref b20), .val (.int i20), .val (.int i21)] []))
    refine .pre (fun _ kq => XS.iload X.here hx rfl (hb hby at_322) rfl kq) ?_
    show OwnEnds p e below _ (T.setTop (mkF m 324 #[.val (.int i0), .val (.int i1), .val (.int i2), .val (.int i3), .val (.int i4), .val (.int i5), .val (.int i6), .val (.int i7), .val (.int i8), .val (.int i9), .val (.int i10), .val (.int i11), .val (.int i12), .val (.int i13), .val (.int i14), .val (.int i15), .val (.int i16), .val (.ref b14), .val (.ref b18), .val (.ref b20), .val (.int i20), .val (.int i21)] [(.int i14)]))
    refine .pre (fun _ kq => XS.iload X.here hx rfl (hb hby at_324) rfl kq) ?_
    show OwnEnds p e below _ (T.setTop (mkF m 326 #[.val (.int i0), .val (.int i1), .val (.int i2), .val (.int i3), .val (.int i4), .val (.int i5), .val (.int i6), .val (.int i7), .val (.int i8), .val (.int i9), .val (.int i10), .val (.int i11), .val (.int i12), .val (.int i13), .val (.int i14), .val (.int i15), .val (.int i16), .val (.ref b14), .val (.ref b18), .val (.ref b20), .val (.int i20), .val (.int i21)] [(.int i15), (.int i14)]))
    by_cases hc326 : i14 = i15
    · rw [if_pos hc326] at hF
      refine .pre (fun _ kq => XS.icmpYes X.here hx rfl (pc0 := 326) (pc' := 367) rfl (hb hby at_326) rfl (teq hc326).1 (by decide) (by decide) kq) ?_
      exact B367 T _ _ _ X eT N hk hn i0 i1 i2 i3 i4 i5 i6 i7 i8 i9 i10 i11 i12 i13 i14 i15 i16 i20 i21 hF
    · rw [if_neg hc326] at hF
      refine .pre (fun _ kq => XS.icmpNo X.here hx rfl (hb hby at_326) rfl (feq hc326).1 kq) ?_
      show OwnEnds p e below _ (T.setTop (mkF m 329 #[.val (.int i0), .val (.int i1), .val (.int i2), .val (.int i3), .val (.int i4), .val (.int i5), .val (.int i6), .val (.int i7), .val (.int i8), .val (.int i9), .val (.int i10), .val (.int i11), .val (.int i12), .val (.int i13), .val (.int i14), .val (.int i15), .val (.int i16), .val (.ref b14), .val (.ref b18), .val (.ref b20), .val (.int i20), .val (.int i21)] []))
      refine .pre (fun _ kq => XS.iload X.here hx rfl (hb hby at_329) rfl kq) ?_
      show OwnEnds p e below _ (T.setTop (mkF m 331 #[.val (.int i0), .val (.int i1), .val (.int i2), .val (.int i3), .val (.int i4), .val (.int i5), .val (.int i6), .val (.int i7), .val (.int i8), .val (.int i9), .val (.int i10), .val (.int i11), .val (.int i12), .val (.int i13), .val (.int i14), .val (.int i15), .val (.int i16), .val (.ref b14), .val (.ref b18), .val (.ref b20), .val (.int i20), .val (.int i21)] [(.int i14)]))
      refine .pre (fun _ kq => XS.iload X.here hx rfl (hb hby at_331) rfl kq) ?_
      show OwnEnds p e below _ (T.setTop (mkF m 333 #[.val (.int i0), .val (.int i1), .val (.int i2), .val (.int i3), .val (.int i4), .val (.int i5), .val (.int i6), .val (.int i7), .val (.int i8), .val (.int i9), .val (.int i10), .val (.int i11), .val (.int i12), .val (.int i13), .val (.int i14), .val (.int i15), .val (.int i16), .val (.ref b14), .val (.ref b18), .val (.ref b20), .val (.int i20), .val (.int i21)] [(.int i16), (.int i14)]))
      by_cases hc333 : i16 < i14
      · rw [if_pos hc333] at hF
        refine .pre (fun _ kq => XS.icmpYes X.here hx rfl (pc0 := 333) (pc' := 367) rfl (hb hby at_333) rfl (tlt hc333).2.2.1 (by decide) (by decide) kq) ?_
        exact B367 T _ _ _ X eT N hk hn i0 i1 i2 i3 i4 i5 i6 i7 i8 i9 i10 i11 i12 i13 i14 i15 i16 i20 i21 hF
      · rw [if_neg hc333] at hF
        refine .pre (fun _ kq => XS.icmpNo X.here hx rfl (hb hby at_333) rfl (flt hc333).2.2.1 kq) ?_
        show OwnEnds p e below _ (T.setTop (mkF m 336 #[.val (.int i0), .val (.int i1), .val (.int i2), .val (.int i3), .val (.int i4), .val (.int i5), .val (.int i6), .val (.int i7), .val (.int i8), .val (.int i9), .val (.int i10), .val (.int i11), .val (.int i12), .val (.int i13), .val (.int i14), .val (.int i15), .val (.int i16), .val (.ref b14), .val (.ref b18), .val (.ref b20), .val (.int i20), .val (.int i21)] []))
        refine .pre (fun _ kq => XS.iload X.here hx rfl (hb hby at_336) rfl kq) ?_
        show OwnEnds p e below _ (T.setTop (mkF m 338 #[.val (.int i0), .val (.int i1), .val (.int i2), .val (.int i3), .val (.int i4), .val (.int i5), .val (.int i6), .val (.int i7), .val (.int i8), .val (.int i9), .val (.int i10), .val (.int i11), .val (.int i12), .val (.int i13), .val (.int i14), .val (.int i15), .val (.int i16), .val (.ref b14), .val (.ref b18), .val (.ref b20), .val (.int i20), .val (.int i21)] [(.int i14)]))
        refine .pre (fun _ kq => XS.iload X.here hx rfl (hb hby at_338) rfl kq) ?_
        show OwnEnds p e below _ (T.setTop (mkF m 340 #[.val (.int i0), .val (.int i1), .val (.int i2), .val (.int i3), .val (.int i4), .val (.int i5), .val (.int i6), .val (.int i7), .val (.int i8), .val (.int i9), .val (.int i10), .val (.int i11), .val (.int i12), .val (.int i13), .val (.int i14), .val (.int i15), .val (.int i16), .val (.ref b14), .val (.ref b18), .val (.ref b20), .val (.int i20), .val (.int i21)] [(.int i10), (.int i14)]))
        by_cases hc340 : i14 = i10
        · rw [if_pos hc340] at hF
          refine .pre (fun _ kq => XS.icmpNo X.here hx rfl (hb hby at_340) rfl (teq hc340).2 kq) ?_
          show OwnEnds p e below _ (T.setTop (mkF m 343 #[.val (.int i0), .val (.int i1), .val (.int i2), .val (.int i3), .val (.int i4), .val (.int i5), .val (.int i6), .val (.int i7), .val (.int i8), .val (.int i9), .val (.int i10), .val (.int i11), .val (.int i12), .val (.int i13), .val (.int i14), .val (.int i15), .val (.int i16), .val (.ref b14), .val (.ref b18), .val (.ref b20), .val (.int i20), .val (.int i21)] []))
          refine .pre (fun _ kq => XS.iload X.here hx rfl (hb hby at_343) rfl kq) ?_
          show OwnEnds p e below _ (T.setTop (mkF m 345 #[.val (.int i0), .val (.int i1), .val (.int i2), .val (.int i3), .val (.int i4), .val (.int i5), .val (.int i6), .val (.int i7), .val (.int i8), .val (.int i9), .val (.int i10), .val (.int i11), .val (.int i12), .val (.int i13), .val (.int i14), .val (.int i15), .val (.int i16), .val (.ref b14), .val (.ref b18), .val (.ref b20), .val (.int i20), .val (.int i21)] [(.int i15)]))
          refine .pre (fun _ kq => XS.iload X.here hx rfl (hb hby at_345) rfl kq) ?_
          show OwnEnds p e below _ (T.setTop (mkF m 347 #[.val (.int i0), .val (.int i1), .val (.int i2), .val (.int i3), .val (.int i4), .val (.int i5), .val (.int i6), .val (.int i7), .val (.int i8), .val (.int i9), .val (.int i10), .val (.int i11), .val (.int i12), .val (.int i13), .val (.int i14), .val (.int i15), .val (.int i16), .val (.ref b14), .val (.ref b18), .val (.ref b20), .val (.int i20), .val (.int i21)] [(.int i11), (.int i15)]))
          by_cases hc347 : i15 = i11
          · rw [if_pos hc347] at hF
            refine .pre (fun _ kq => XS.icmpYes X.here hx rfl (pc0 := 347) (pc' := 367) rfl (hb hby at_347) rfl (teq hc347).1 (by decide) (by decide) kq) ?_
            exact B367 T _ _ _ X eT N hk hn i0 i1 i2 i3 i4 i5 i6 i7 i8 i9 i10 i11 i12 i13 i14 i15 i16 i20 i21 hF
          · rw [if_neg hc347] at hF
            refine .pre (fun _ kq => XS.icmpNo X.here hx rfl (hb hby at_347) rfl (feq hc347).1 kq) ?_
            exact B350 T _ _ _ X eT N hk hn i0 i1 i2 i3 i4 i5 i6 i7 i8 i9 i10 i11 i12 i13 i14 i15 i16 i20 i21 hF
        · rw [if_neg hc340] at hF
          refine .pre (fun _ kq => XS.icmpYes X.here hx rfl (pc0 := 340) (pc' := 350) rfl (hb hby at_340) rfl (feq hc340).2 (by decide) (by decide) kq) ?_
          exact B350 T _ _ _ X eT N hk hn i0 i1 i2 i3 i4 i5 i6 i7 i8 i9 i10 i11 i12 i13 i14 i15 i16 i20 i21 hF
  have B319 : ∀ (T : State) (L : List Loc) (k n : Nat) (X : Stand p l e room_1 s m #[(.int p0), (.int p1), (.int p2), (.int p3)] below meth c T L k n) (eT : T.heap = T41.heap) (N : Fr n0 L) (hk : k ≤ 40) (hn : n ≤ 12480) (i0 : Int32) (i1 : Int32) (i2 : Int32) (i3 : Int32) (i4 : Int32) (i5 : Int32) (i6 : Int32) (i7 : Int32) (i8 : Int32) (i9 : Int32) (i10 : Int32) (i11 : Int32) (i12 : Int32) (i13 : Int32) (i14 : Int32) (i15 : Int32) (i16 : Int32) (i20 : Int32) (i21 : Int32), f0_319 i10 i11 i12 i13 i14 i15 i16 i20 i21 = (1 : Int32) → OwnEnds p e below (OwnQ s (Q0 Z p0 p1 p2 p3 xD h0 n0) 40 12480) (T.setTop (mkF m 319 #[.val (.int i0), .val (.int i1), .val (.int i2), .val (.int i3), .val (.int i4), .val (.int i5), .val (.int i6), .val (.int i7), .val (.int i8), .val (.int i9), .val (.int i10), .val (.int i11), .val (.int i12), .val (.int i13), .val (.int i14), .val (.int i15), .val (.int i16), .val (.ref b14), .val (.ref b18), .val (.ref b20), .val (.int i20), .val (.int i21)] [])) := by
    intro T L k n X eT N hk hn i0 i1 i2 i3 i4 i5 i6 i7 i8 i9 i10 i11 i12 i13 i14 i15 i16 i20 i21 hF
    change (f0_322 i10 i11 i12 i13 i14 i15 i16 i20 (i21 + (1 : Int32))) = _ at hF
    show OwnEnds p e below _ (T.setTop (mkF m 319 #[.val (.int i0), .val (.int i1), .val (.int i2), .val (.int i3), .val (.int i4), .val (.int i5), .val (.int i6), .val (.int i7), .val (.int i8), .val (.int i9), .val (.int i10), .val (.int i11), .val (.int i12), .val (.int i13), .val (.int i14), .val (.int i15), .val (.int i16), .val (.ref b14), .val (.ref b18), .val (.ref b20), .val (.int i20), .val (.int i21)] []))
    refine .pre (fun _ kq => XS.iinc X.here hx rfl (hb hby at_319) rfl (l' := #[.val (.int i0), .val (.int i1), .val (.int i2), .val (.int i3), .val (.int i4), .val (.int i5), .val (.int i6), .val (.int i7), .val (.int i8), .val (.int i9), .val (.int i10), .val (.int i11), .val (.int i12), .val (.int i13), .val (.int i14), .val (.int i15), .val (.int i16), .val (.ref b14), .val (.ref b18), .val (.ref b20), .val (.int i20), .val (.int (i21 + (1 : Int32)))]) rfl kq) ?_
    exact B322 T _ _ _ X eT N hk hn i0 i1 i2 i3 i4 i5 i6 i7 i8 i9 i10 i11 i12 i13 i14 i15 i16 i20 (i21 + (1 : Int32)) hF
  have B291 : ∀ (T : State) (L : List Loc) (k n : Nat) (X : Stand p l e room_1 s m #[(.int p0), (.int p1), (.int p2), (.int p3)] below meth c T L k n) (eT : T.heap = T41.heap) (N : Fr n0 L) (hk : k ≤ 40) (hn : n ≤ 12480) (i0 : Int32) (i1 : Int32) (i2 : Int32) (i3 : Int32) (i4 : Int32) (i5 : Int32) (i6 : Int32) (i7 : Int32) (i8 : Int32) (i9 : Int32) (i10 : Int32) (i11 : Int32) (i12 : Int32) (i13 : Int32) (i14 : Int32) (i15 : Int32) (i16 : Int32) (i20 : Int32) (i21 : Int32), f0_291 i10 i11 i12 i13 i14 i15 i16 i20 i21 = (1 : Int32) → OwnEnds p e below (OwnQ s (Q0 Z p0 p1 p2 p3 xD h0 n0) 40 12480) (T.setTop (mkF m 291 #[.val (.int i0), .val (.int i1), .val (.int i2), .val (.int i3), .val (.int i4), .val (.int i5), .val (.int i6), .val (.int i7), .val (.int i8), .val (.int i9), .val (.int i10), .val (.int i11), .val (.int i12), .val (.int i13), .val (.int i14), .val (.int i15), .val (.int i16), .val (.ref b14), .val (.ref b18), .val (.ref b20), .val (.int i20), .val (.int i21)] [])) := by
    intro T L k n X eT N hk hn i0 i1 i2 i3 i4 i5 i6 i7 i8 i9 i10 i11 i12 i13 i14 i15 i16 i20 i21 hF
    change (if i12 = i13 then (f0_322 i10 i11 i12 i13 i14 i15 i16 i20 i21) else (if i16 < i12 then (f0_322 i10 i11 i12 i13 i14 i15 i16 i20 i21) else (if i12 = i10 then (if i13 = i11 then (f0_322 i10 i11 i12 i13 i14 i15 i16 i20 i21) else (f0_319 i10 i11 i12 i13 i14 i15 i16 i20 i21)) else (f0_319 i10 i11 i12 i13 i14 i15 i16 i20 i21)))) = _ at hF
    show OwnEnds p e below _ (T.setTop (mkF m 291 #[.val (.int i0), .val (.int i1), .val (.int i2), .val (.int i3), .val (.int i4), .val (.int i5), .val (.int i6), .val (.int i7), .val (.int i8), .val (.int i9), .val (.int i10), .val (.int i11), .val (.int i12), .val (.int i13), .val (.int i14), .val (.int i15), .val (.int i16), .val (.ref b14), .val (.ref b18), .val (.ref b20), .val (.int i20), .val (.int i21)] []))
    refine .pre (fun _ kq => XS.iload X.here hx rfl (hb hby at_291) rfl kq) ?_
    show OwnEnds p e below _ (T.setTop (mkF m 293 #[.val (.int i0), .val (.int i1), .val (.int i2), .val (.int i3), .val (.int i4), .val (.int i5), .val (.int i6), .val (.int i7), .val (.int i8), .val (.int i9), .val (.int i10), .val (.int i11), .val (.int i12), .val (.int i13), .val (.int i14), .val (.int i15), .val (.int i16), .val (.ref b14), .val (.ref b18), .val (.ref b20), .val (.int i20), .val (.int i21)] [(.int i12)]))
    refine .pre (fun _ kq => XS.iload X.here hx rfl (hb hby at_293) rfl kq) ?_
    show OwnEnds p e below _ (T.setTop (mkF m 295 #[.val (.int i0), .val (.int i1), .val (.int i2), .val (.int i3), .val (.int i4), .val (.int i5), .val (.int i6), .val (.int i7), .val (.int i8), .val (.int i9), .val (.int i10), .val (.int i11), .val (.int i12), .val (.int i13), .val (.int i14), .val (.int i15), .val (.int i16), .val (.ref b14), .val (.ref b18), .val (.ref b20), .val (.int i20), .val (.int i21)] [(.int i13), (.int i12)]))
    by_cases hc295 : i12 = i13
    · rw [if_pos hc295] at hF
      refine .pre (fun _ kq => XS.icmpYes X.here hx rfl (pc0 := 295) (pc' := 322) rfl (hb hby at_295) rfl (teq hc295).1 (by decide) (by decide) kq) ?_
      exact B322 T _ _ _ X eT N hk hn i0 i1 i2 i3 i4 i5 i6 i7 i8 i9 i10 i11 i12 i13 i14 i15 i16 i20 i21 hF
    · rw [if_neg hc295] at hF
      refine .pre (fun _ kq => XS.icmpNo X.here hx rfl (hb hby at_295) rfl (feq hc295).1 kq) ?_
      show OwnEnds p e below _ (T.setTop (mkF m 298 #[.val (.int i0), .val (.int i1), .val (.int i2), .val (.int i3), .val (.int i4), .val (.int i5), .val (.int i6), .val (.int i7), .val (.int i8), .val (.int i9), .val (.int i10), .val (.int i11), .val (.int i12), .val (.int i13), .val (.int i14), .val (.int i15), .val (.int i16), .val (.ref b14), .val (.ref b18), .val (.ref b20), .val (.int i20), .val (.int i21)] []))
      refine .pre (fun _ kq => XS.iload X.here hx rfl (hb hby at_298) rfl kq) ?_
      show OwnEnds p e below _ (T.setTop (mkF m 300 #[.val (.int i0), .val (.int i1), .val (.int i2), .val (.int i3), .val (.int i4), .val (.int i5), .val (.int i6), .val (.int i7), .val (.int i8), .val (.int i9), .val (.int i10), .val (.int i11), .val (.int i12), .val (.int i13), .val (.int i14), .val (.int i15), .val (.int i16), .val (.ref b14), .val (.ref b18), .val (.ref b20), .val (.int i20), .val (.int i21)] [(.int i12)]))
      refine .pre (fun _ kq => XS.iload X.here hx rfl (hb hby at_300) rfl kq) ?_
      show OwnEnds p e below _ (T.setTop (mkF m 302 #[.val (.int i0), .val (.int i1), .val (.int i2), .val (.int i3), .val (.int i4), .val (.int i5), .val (.int i6), .val (.int i7), .val (.int i8), .val (.int i9), .val (.int i10), .val (.int i11), .val (.int i12), .val (.int i13), .val (.int i14), .val (.int i15), .val (.int i16), .val (.ref b14), .val (.ref b18), .val (.ref b20), .val (.int i20), .val (.int i21)] [(.int i16), (.int i12)]))
      by_cases hc302 : i16 < i12
      · rw [if_pos hc302] at hF
        refine .pre (fun _ kq => XS.icmpYes X.here hx rfl (pc0 := 302) (pc' := 322) rfl (hb hby at_302) rfl (tlt hc302).2.2.1 (by decide) (by decide) kq) ?_
        exact B322 T _ _ _ X eT N hk hn i0 i1 i2 i3 i4 i5 i6 i7 i8 i9 i10 i11 i12 i13 i14 i15 i16 i20 i21 hF
      · rw [if_neg hc302] at hF
        refine .pre (fun _ kq => XS.icmpNo X.here hx rfl (hb hby at_302) rfl (flt hc302).2.2.1 kq) ?_
        show OwnEnds p e below _ (T.setTop (mkF m 305 #[.val (.int i0), .val (.int i1), .val (.int i2), .val (.int i3), .val (.int i4), .val (.int i5), .val (.int i6), .val (.int i7), .val (.int i8), .val (.int i9), .val (.int i10), .val (.int i11), .val (.int i12), .val (.int i13), .val (.int i14), .val (.int i15), .val (.int i16), .val (.ref b14), .val (.ref b18), .val (.ref b20), .val (.int i20), .val (.int i21)] []))
        refine .pre (fun _ kq => XS.iload X.here hx rfl (hb hby at_305) rfl kq) ?_
        show OwnEnds p e below _ (T.setTop (mkF m 307 #[.val (.int i0), .val (.int i1), .val (.int i2), .val (.int i3), .val (.int i4), .val (.int i5), .val (.int i6), .val (.int i7), .val (.int i8), .val (.int i9), .val (.int i10), .val (.int i11), .val (.int i12), .val (.int i13), .val (.int i14), .val (.int i15), .val (.int i16), .val (.ref b14), .val (.ref b18), .val (.ref b20), .val (.int i20), .val (.int i21)] [(.int i12)]))
        refine .pre (fun _ kq => XS.iload X.here hx rfl (hb hby at_307) rfl kq) ?_
        show OwnEnds p e below _ (T.setTop (mkF m 309 #[.val (.int i0), .val (.int i1), .val (.int i2), .val (.int i3), .val (.int i4), .val (.int i5), .val (.int i6), .val (.int i7), .val (.int i8), .val (.int i9), .val (.int i10), .val (.int i11), .val (.int i12), .val (.int i13), .val (.int i14), .val (.int i15), .val (.int i16), .val (.ref b14), .val (.ref b18), .val (.ref b20), .val (.int i20), .val (.int i21)] [(.int i10), (.int i12)]))
        by_cases hc309 : i12 = i10
        · rw [if_pos hc309] at hF
          refine .pre (fun _ kq => XS.icmpNo X.here hx rfl (hb hby at_309) rfl (teq hc309).2 kq) ?_
          show OwnEnds p e below _ (T.setTop (mkF m 312 #[.val (.int i0), .val (.int i1), .val (.int i2), .val (.int i3), .val (.int i4), .val (.int i5), .val (.int i6), .val (.int i7), .val (.int i8), .val (.int i9), .val (.int i10), .val (.int i11), .val (.int i12), .val (.int i13), .val (.int i14), .val (.int i15), .val (.int i16), .val (.ref b14), .val (.ref b18), .val (.ref b20), .val (.int i20), .val (.int i21)] []))
          refine .pre (fun _ kq => XS.iload X.here hx rfl (hb hby at_312) rfl kq) ?_
          show OwnEnds p e below _ (T.setTop (mkF m 314 #[.val (.int i0), .val (.int i1), .val (.int i2), .val (.int i3), .val (.int i4), .val (.int i5), .val (.int i6), .val (.int i7), .val (.int i8), .val (.int i9), .val (.int i10), .val (.int i11), .val (.int i12), .val (.int i13), .val (.int i14), .val (.int i15), .val (.int i16), .val (.ref b14), .val (.ref b18), .val (.ref b20), .val (.int i20), .val (.int i21)] [(.int i13)]))
          refine .pre (fun _ kq => XS.iload X.here hx rfl (hb hby at_314) rfl kq) ?_
          show OwnEnds p e below _ (T.setTop (mkF m 316 #[.val (.int i0), .val (.int i1), .val (.int i2), .val (.int i3), .val (.int i4), .val (.int i5), .val (.int i6), .val (.int i7), .val (.int i8), .val (.int i9), .val (.int i10), .val (.int i11), .val (.int i12), .val (.int i13), .val (.int i14), .val (.int i15), .val (.int i16), .val (.ref b14), .val (.ref b18), .val (.ref b20), .val (.int i20), .val (.int i21)] [(.int i11), (.int i13)]))
          by_cases hc316 : i13 = i11
          · rw [if_pos hc316] at hF
            refine .pre (fun _ kq => XS.icmpYes X.here hx rfl (pc0 := 316) (pc' := 322) rfl (hb hby at_316) rfl (teq hc316).1 (by decide) (by decide) kq) ?_
            exact B322 T _ _ _ X eT N hk hn i0 i1 i2 i3 i4 i5 i6 i7 i8 i9 i10 i11 i12 i13 i14 i15 i16 i20 i21 hF
          · rw [if_neg hc316] at hF
            refine .pre (fun _ kq => XS.icmpNo X.here hx rfl (hb hby at_316) rfl (feq hc316).1 kq) ?_
            exact B319 T _ _ _ X eT N hk hn i0 i1 i2 i3 i4 i5 i6 i7 i8 i9 i10 i11 i12 i13 i14 i15 i16 i20 i21 hF
        · rw [if_neg hc309] at hF
          refine .pre (fun _ kq => XS.icmpYes X.here hx rfl (pc0 := 309) (pc' := 319) rfl (hb hby at_309) rfl (feq hc309).2 (by decide) (by decide) kq) ?_
          exact B319 T _ _ _ X eT N hk hn i0 i1 i2 i3 i4 i5 i6 i7 i8 i9 i10 i11 i12 i13 i14 i15 i16 i20 i21 hF
  have B271 : ∀ (T : State) (L : List Loc) (k n : Nat) (X : Stand p l e room_1 s m #[(.int p0), (.int p1), (.int p2), (.int p3)] below meth c T L k n) (eT : T.heap = T41.heap) (N : Fr n0 L) (hk : k ≤ 40) (hn : n ≤ 12480) (i0 : Int32) (i1 : Int32) (i2 : Int32) (i3 : Int32) (i4 : Int32) (i5 : Int32) (i6 : Int32) (i7 : Int32) (i8 : Int32) (i9 : Int32) (i10 : Int32) (i11 : Int32) (i12 : Int32) (i13 : Int32) (i14 : Int32) (i15 : Int32) (i16 : Int32) (i20 : Int32), f0_271 i10 i11 i12 i13 i14 i15 i16 i20 = (1 : Int32) → OwnEnds p e below (OwnQ s (Q0 Z p0 p1 p2 p3 xD h0 n0) 40 12480) (T.setTop (mkF m 271 #[.val (.int i0), .val (.int i1), .val (.int i2), .val (.int i3), .val (.int i4), .val (.int i5), .val (.int i6), .val (.int i7), .val (.int i8), .val (.int i9), .val (.int i10), .val (.int i11), .val (.int i12), .val (.int i13), .val (.int i14), .val (.int i15), .val (.int i16), .val (.ref b14), .val (.ref b18), .val (.ref b20), .val (.int i20), .unset] [])) := by
    intro T L k n X eT N hk hn i0 i1 i2 i3 i4 i5 i6 i7 i8 i9 i10 i11 i12 i13 i14 i15 i16 i20 hF
    change (if i10 = i11 then (f0_291 i10 i11 i12 i13 i14 i15 i16 i20 (0 : Int32)) else (if i16 < i10 then (f0_291 i10 i11 i12 i13 i14 i15 i16 i20 (0 : Int32)) else (f0_291 i10 i11 i12 i13 i14 i15 i16 i20 ((0 : Int32) + (1 : Int32))))) = _ at hF
    show OwnEnds p e below _ (T.setTop (mkF m 271 #[.val (.int i0), .val (.int i1), .val (.int i2), .val (.int i3), .val (.int i4), .val (.int i5), .val (.int i6), .val (.int i7), .val (.int i8), .val (.int i9), .val (.int i10), .val (.int i11), .val (.int i12), .val (.int i13), .val (.int i14), .val (.int i15), .val (.int i16), .val (.ref b14), .val (.ref b18), .val (.ref b20), .val (.int i20), .unset] []))
    refine .pre (fun _ kq => XS.iconst X.here hx rfl (hb hby at_271) kq) ?_
    show OwnEnds p e below _ (T.setTop (mkF m 272 #[.val (.int i0), .val (.int i1), .val (.int i2), .val (.int i3), .val (.int i4), .val (.int i5), .val (.int i6), .val (.int i7), .val (.int i8), .val (.int i9), .val (.int i10), .val (.int i11), .val (.int i12), .val (.int i13), .val (.int i14), .val (.int i15), .val (.int i16), .val (.ref b14), .val (.ref b18), .val (.ref b20), .val (.int i20), .unset] [(.int (0 : Int32))]))
    refine .pre (fun _ kq => XS.istore X.here hx rfl (hb hby at_272) rfl (l' := #[.val (.int i0), .val (.int i1), .val (.int i2), .val (.int i3), .val (.int i4), .val (.int i5), .val (.int i6), .val (.int i7), .val (.int i8), .val (.int i9), .val (.int i10), .val (.int i11), .val (.int i12), .val (.int i13), .val (.int i14), .val (.int i15), .val (.int i16), .val (.ref b14), .val (.ref b18), .val (.ref b20), .val (.int i20), .val (.int (0 : Int32))]) rfl kq) ?_
    show OwnEnds p e below _ (T.setTop (mkF m 274 #[.val (.int i0), .val (.int i1), .val (.int i2), .val (.int i3), .val (.int i4), .val (.int i5), .val (.int i6), .val (.int i7), .val (.int i8), .val (.int i9), .val (.int i10), .val (.int i11), .val (.int i12), .val (.int i13), .val (.int i14), .val (.int i15), .val (.int i16), .val (.ref b14), .val (.ref b18), .val (.ref b20), .val (.int i20), .val (.int (0 : Int32))] []))
    refine .pre (fun _ kq => XS.iload X.here hx rfl (hb hby at_274) rfl kq) ?_
    show OwnEnds p e below _ (T.setTop (mkF m 276 #[.val (.int i0), .val (.int i1), .val (.int i2), .val (.int i3), .val (.int i4), .val (.int i5), .val (.int i6), .val (.int i7), .val (.int i8), .val (.int i9), .val (.int i10), .val (.int i11), .val (.int i12), .val (.int i13), .val (.int i14), .val (.int i15), .val (.int i16), .val (.ref b14), .val (.ref b18), .val (.ref b20), .val (.int i20), .val (.int (0 : Int32))] [(.int i10)]))
    refine .pre (fun _ kq => XS.iload X.here hx rfl (hb hby at_276) rfl kq) ?_
    show OwnEnds p e below _ (T.setTop (mkF m 278 #[.val (.int i0), .val (.int i1), .val (.int i2), .val (.int i3), .val (.int i4), .val (.int i5), .val (.int i6), .val (.int i7), .val (.int i8), .val (.int i9), .val (.int i10), .val (.int i11), .val (.int i12), .val (.int i13), .val (.int i14), .val (.int i15), .val (.int i16), .val (.ref b14), .val (.ref b18), .val (.ref b20), .val (.int i20), .val (.int (0 : Int32))] [(.int i11), (.int i10)]))
    by_cases hc278 : i10 = i11
    · rw [if_pos hc278] at hF
      refine .pre (fun _ kq => XS.icmpYes X.here hx rfl (pc0 := 278) (pc' := 291) rfl (hb hby at_278) rfl (teq hc278).1 (by decide) (by decide) kq) ?_
      exact B291 T _ _ _ X eT N hk hn i0 i1 i2 i3 i4 i5 i6 i7 i8 i9 i10 i11 i12 i13 i14 i15 i16 i20 (0 : Int32) hF
    · rw [if_neg hc278] at hF
      refine .pre (fun _ kq => XS.icmpNo X.here hx rfl (hb hby at_278) rfl (feq hc278).1 kq) ?_
      show OwnEnds p e below _ (T.setTop (mkF m 281 #[.val (.int i0), .val (.int i1), .val (.int i2), .val (.int i3), .val (.int i4), .val (.int i5), .val (.int i6), .val (.int i7), .val (.int i8), .val (.int i9), .val (.int i10), .val (.int i11), .val (.int i12), .val (.int i13), .val (.int i14), .val (.int i15), .val (.int i16), .val (.ref b14), .val (.ref b18), .val (.ref b20), .val (.int i20), .val (.int (0 : Int32))] []))
      refine .pre (fun _ kq => XS.iload X.here hx rfl (hb hby at_281) rfl kq) ?_
      show OwnEnds p e below _ (T.setTop (mkF m 283 #[.val (.int i0), .val (.int i1), .val (.int i2), .val (.int i3), .val (.int i4), .val (.int i5), .val (.int i6), .val (.int i7), .val (.int i8), .val (.int i9), .val (.int i10), .val (.int i11), .val (.int i12), .val (.int i13), .val (.int i14), .val (.int i15), .val (.int i16), .val (.ref b14), .val (.ref b18), .val (.ref b20), .val (.int i20), .val (.int (0 : Int32))] [(.int i10)]))
      refine .pre (fun _ kq => XS.iload X.here hx rfl (hb hby at_283) rfl kq) ?_
      show OwnEnds p e below _ (T.setTop (mkF m 285 #[.val (.int i0), .val (.int i1), .val (.int i2), .val (.int i3), .val (.int i4), .val (.int i5), .val (.int i6), .val (.int i7), .val (.int i8), .val (.int i9), .val (.int i10), .val (.int i11), .val (.int i12), .val (.int i13), .val (.int i14), .val (.int i15), .val (.int i16), .val (.ref b14), .val (.ref b18), .val (.ref b20), .val (.int i20), .val (.int (0 : Int32))] [(.int i16), (.int i10)]))
      by_cases hc285 : i16 < i10
      · rw [if_pos hc285] at hF
        refine .pre (fun _ kq => XS.icmpYes X.here hx rfl (pc0 := 285) (pc' := 291) rfl (hb hby at_285) rfl (tlt hc285).2.2.1 (by decide) (by decide) kq) ?_
        exact B291 T _ _ _ X eT N hk hn i0 i1 i2 i3 i4 i5 i6 i7 i8 i9 i10 i11 i12 i13 i14 i15 i16 i20 (0 : Int32) hF
      · rw [if_neg hc285] at hF
        refine .pre (fun _ kq => XS.icmpNo X.here hx rfl (hb hby at_285) rfl (flt hc285).2.2.1 kq) ?_
        show OwnEnds p e below _ (T.setTop (mkF m 288 #[.val (.int i0), .val (.int i1), .val (.int i2), .val (.int i3), .val (.int i4), .val (.int i5), .val (.int i6), .val (.int i7), .val (.int i8), .val (.int i9), .val (.int i10), .val (.int i11), .val (.int i12), .val (.int i13), .val (.int i14), .val (.int i15), .val (.int i16), .val (.ref b14), .val (.ref b18), .val (.ref b20), .val (.int i20), .val (.int (0 : Int32))] []))
        refine .pre (fun _ kq => XS.iinc X.here hx rfl (hb hby at_288) rfl (l' := #[.val (.int i0), .val (.int i1), .val (.int i2), .val (.int i3), .val (.int i4), .val (.int i5), .val (.int i6), .val (.int i7), .val (.int i8), .val (.int i9), .val (.int i10), .val (.int i11), .val (.int i12), .val (.int i13), .val (.int i14), .val (.int i15), .val (.int i16), .val (.ref b14), .val (.ref b18), .val (.ref b20), .val (.int i20), .val (.int ((0 : Int32) + (1 : Int32)))]) rfl kq) ?_
        exact B291 T _ _ _ X eT N hk hn i0 i1 i2 i3 i4 i5 i6 i7 i8 i9 i10 i11 i12 i13 i14 i15 i16 i20 ((0 : Int32) + (1 : Int32)) hF
  exact B271 T42 _ _ _ X42 e42 N42 (by decide) (by decide) p0 p1 p2 p3 y4 y5 y6 y7 y8 y9 y10 y11 y12 y13 y14 y15 y16 y20 hlaw
theorem own_len31 {t : Term} {args : Array Value} {s : State} {x : Addr} {cl : Cell} {v : Value} (vc : t.eval args s none [] s = some (.ref x)) (ha : s.arrayAt? x = some cl) (w : (Term.length t).eval args s none [] s = some v) : cl.slots.size < 2 ^ 31 := by
  by_cases q : cl.slots.size < 2 ^ 31
  · exact q
  · exfalso
    simp [Term.eval, vc, ha, q] at w
set_option maxRecDepth 65536 in
set_option maxHeartbeats 40000000 in
theorem comes_1 {Post : Tables → Env → Array Value → State → Outcome → State → Prop} (hpost : ∀ tb e args s v u, (limb_1_1.after args s (.returned v) u = true ∧ limb_1_2.after args s (.returned v) u = true ∧ True) → FrameEnd s (.returned v) u (Jvm.fieldLocs frame_1_writes args s ++ Jvm.arrayLocs frame_1_arrays args s ++ Jvm.staticLocs frame_1_statics s) 40 12480 → Post tb e args s (.returned v) u) :
    ArmFor flags0 classFile x code maxLocals ret World_1 tables_1 room_1 Calls_1 rest_1 Pre_1 Post := by
  intro l hfl _ _ p e ha hc hk s m args below hf hA hF happ hP
  obtain ⟨hcalls, hrest, hpre⟩ := hP
  obtain ⟨-, -, -, hnamed, -, -, -, hat⟩ := (Spec.applies_iff hf).mp happ
  obtain ⟨hg, hn⟩ := and_e (Cond.before_iff.mp (show (Jvm.Cond.and given_1 narrow_1).before args s = true from hpre))
  obtain ⟨hcount, hg0⟩ := and_e hg
  obtain ⟨ha0, hg1⟩ := and_e hg0
  obtain ⟨ha1, hg2⟩ := and_e hg1
  obtain ⟨ha2, hg3⟩ := and_e hg2
  have ha3 := hg3
  obtain ⟨w0, w1, w2, w3, rfl⟩ : ∃ w0 w1 w2 w3 : Value, args = #[w0, w1, w2, w3] := by
    have hs : args.size = 4 := by simpa [Cond.value, given_1] using hcount
    obtain ⟨L⟩ := args
    match L, hs with
    | [w0, w1, w2, w3], _ => exact ⟨w0, w1, w2, w3, rfl⟩
  have hw := fun d (hd : d ∈ tables_1) => atoms_spec (ws := Jvm.Cond.code x code maxLocals ret :: tables_1) hat d (List.mem_cons_of_mem _ hd)
  have hfit : Fit s := fun {y c} hc i hi => by
    obtain ⟨ha, rfl⟩ := Array.getElem?_eq_some_iff.mp hc
    have q := List.all_eq_true.mp ((Array.all_eq_true_iff_forall_mem.mp hF) _ (Array.getElem_mem ha)) i (List.mem_range.mpr hi)
    simpa [Array.getElem?_eq_getElem hi] using q
  obtain ⟨hsets, hown0⟩ := atoms_of _ (rest_1_c_eq ▸ (show rest_1_c.before _ s = true from hrest))
  have hr0 := Cond.before_iff.mp hown0
  obtain ⟨i0, ei0⟩ := is_v ha0
  obtain rfl : w0 = (.int i0) := Option.some.inj ei0
  obtain ⟨i1, ei1⟩ := is_v ha1
  obtain rfl : w1 = (.int i1) := Option.some.inj ei1
  obtain ⟨i2, ei2⟩ := is_v ha2
  obtain rfl : w2 = (.int i2) := Option.some.inj ei2
  obtain ⟨i3, ei3⟩ := is_v ha3
  obtain rfl : w3 = (.int i3) := Option.some.inj ei3
  have w6 := Cond.before_iff.mp (hsets _ (List.mem_of_getElem? (i := 6) rfl))
  obtain ⟨xD, vD⟩ := arr_v w6
  obtain ⟨cl, AC⟩ := Arr.start vD w6
  have SD := Sta.start vD (Or.inr ⟨(hw _ (List.mem_of_getElem? (i := 23) rfl)), hsets _ (List.mem_of_getElem? (i := 2) rfl)⟩)
  have w8 := eqv_i (Term.int_eval _) (Cond.before_iff.mp (hsets _ (List.mem_of_getElem? (i := 8) rfl)))
  have q31 := own_len31 vD (AC.fin (Vm.Alike.refl _)) w8
  have e8 : cl.slots.size.toInt32 = 0 := by have := (len_f vD (AC.fin (Vm.Alike.refl _)) q31).symm.trans w8; simpa using this
  have z8 : cl.slots.size = 0 := by have := congrArg Int32.toInt e8; rw [len_toInt q31] at this; have z : (0 : Int32).toInt = 0 := rfl; omega
  obtain ⟨a', c', cell, kk, x1, x2, x3, x4, x5, x6, x7⟩ := Cond.exactly_spec (hsets _ (List.mem_of_getElem? (i := 7) rfl))
  cases vD.symm.trans x1
  cases AC.1.symm.trans x3
  obtain ⟨comp, cO, kO, y1, y2, y3, y4, y5⟩ := Cond.arrayOver_spec (hw _ (List.mem_of_getElem? (i := 170) rfl))
  have y6 : s.vm.findClass "[Ljava/lang/Object;" = some cO := y5
  have own_cl : cl.cls = cO := by have q := Option.some.inj (x2.symm.trans y6); first | exact x6.trans q | exact x6.symm.trans q
  have RX : OwnR s s.heap xD "java/lang/Object" (0 : Int32) := ⟨cl, AC, ⟨kO, comp, by rw [own_cl]; exact y3, y4, y1⟩, by rw [z8]; rfl, by decide⟩
  obtain ⟨n, o, h1, h2, h3, _, L, rfl, ⟨hv, N, -⟩, hq⟩ := rm0 l s _ hw tables_1 i0 i1 i2 i3 xD s.heap s.heap.size (Nat.le_refl _) SD RX AC.lt p e ha hc hk s m _ below hf ((Spec.applies_iff_loose hf).mp happ).1 ⟨rfl, State.Warmed39.refl s, rfl⟩ trivial
  subst hv
  refine ⟨n, _, h1, h2, h3, hpost _ _ _ _ _ _ ⟨Cond.after_iff.mpr rfl, Cond.after_iff.mpr (eq_i res_at (Term.int_eval (1)) rfl), trivial⟩ ⟨hq.1, hq.2.1, (hq.2.2.sift fun y hy => Or.inr (N y hy)).mono (by decide) (by decide)⟩⟩
theorem main_1_1 : Claimed_1_1 := comes_1 fun _ _ _ _ _ _ h hF => ⟨h.1, hF⟩
theorem main_1_2 : Claimed_1_2 := comes_1 fun _ _ _ _ _ _ h hF => ⟨h.2.1, hF⟩
end Jvm.Pilot.@@N@@
namespace Jvm.Pilot.@@N@@
open Jvm Jvm.ClassFile Sem Op Lib Jvm.Free Jvm.Stand Jvm.Pilot.@@N@@.Jvm.D
/-! MADE BY PROGRAM (witnessworld.py) out of the Statement's table words and the real class files: 27 classes; the members and pool entries that the words name. The judged class is class 1, her method 4. -/
namespace start1
open Jvm.ClassFile
def u (s : String) : CpInfo := .utf8 (stringToUtf16 s)
/-- a pool by its gaps: so many unusable entries, then the entry; so many at the end -/
def gap : Nat → List CpInfo → List CpInfo
  | 0, r => r
  | n + 1, r => .unusable :: gap n r
def poolList (es : List (Nat × CpInfo)) (last : Nat) : List CpInfo := es.foldr (fun e r => gap e.1 (e.2 :: r)) (gap last [])
def pool (es : List (Nat × CpInfo)) (last : Nat) : Array CpInfo := ⟨poolList es last⟩
def fileOf (pool : Array CpInfo) (this : Nat) (attrs : Array Attribute := #[]) (ms : Array MethodInfo := #[]) (fl : Nat := 33) (sup : Nat := 0) (ifs : Array Nat := #[]) (fds : Array FieldInfo := #[]) : ClassFile where
  minorVersion := 0
  majorVersion := 65
  constantPool := pool
  accessFlags := fl
  thisClass := this
  superClass := sup
  interfaces := ifs
  fields := fds
  methods := ms
  attributes := attrs
def plain (name : String) (sup : Option ClassId) : Class where
  name := name
  kind := .ordinary
  loader := none
  accessFlags := 33
  super := sup
  interfaces := #[]
  cf := none
  fields := #[]
  methods := #[]
  instanceTypes := #[]
  staticTypes := #[]
  resolved := #[]
  callSites := []
  init := .initialized
  statics := none
  mirror := none

def pool0 : Array CpInfo := pool [(5, u "<init>"), (0, u "()V"), (1, .class_ 10), (1, u "java/lang/Object")] 113

def k0c0 : Code := { maxStack := 0, maxLocals := 1, code := object_method_1_code, exceptionTable := #[], attributes := #[] }
def k0m0 : Method := { name := "<init>", desc := "()V", sig := { parameters := [], returnType := none }, accessFlags := 1, code := some k0c0 }
/-- java/lang/Object -/
def k0 : Class := { plain "java/lang/Object" none with
  accessFlags := 33
  interfaces := #[]
  cf := some (fileOf pool0 8 #[] #[{ accessFlags := 1, nameIndex := 5, descriptorIndex := 6, attributes := #[] }] 33 0 #[] #[])
  fields := #[]
  methods := #[k0m0]
  instanceTypes := #[]
  staticTypes := #[]
  resolved := Array.replicate 124 none
  statics := none }

def pool1 : Array CpInfo := pool [(2, .class_ 4), (0, .nameAndType 5 6), (0, u "java/lang/Object"), (0, u "<init>"), (0, u "()V"), (0, .integer 2147483647), (0, .methodref 9 10), (0, .class_ 11), (0, .nameAndType 12 13), (0, u "com/example/changeset/changeset/check/StateGraphEdgesEndPinLaw"), (0, u "key"), (0, u "(I)I"), (0, .methodref 15 16), (0, .class_ 17), (0, .nameAndType 18 19), (0, u "java/lang/Math"), (0, u "min"), (0, u "(II)I"), (0, .methodref 15 21), (0, .nameAndType 22 19), (0, u "max"), (0, .methodref 9 24), (0, .nameAndType 25 13), (0, u "from"), (0, .methodref 9 27), (0, .nameAndType 28 13), (0, u "to"), (0, .class_ 30), (0, u "com/example/changeset/changeset/check/StateGraph"), (0, .class_ 32), (0, u "java/util/ArrayList"), (0, .methodref 31 3), (0, .methodref 29 35), (0, .nameAndType 5 36), (0, u "(Ljava/util/List;Z)V"), (0, .class_ 38), (0, u "com/example/changeset/changeset/check/State"), (0, .methodref 37 40), (0, .nameAndType 5 41), (0, u "([Lcom/example/changeset/changeset/value/Value;)V"), (0, .class_ 43), (0, u "com/example/changeset/changeset/check/FoundState"), (0, .methodref 42 45), (0, .nameAndType 5 46), (0, u "(Lcom/example/changeset/changeset/check/State;)V"), (0, .methodref 29 48), (0, .nameAndType 49 50), (0, u "add"), (0, u "(Lcom/example/changeset/changeset/check/FoundState;II)Z"), (0, .methodref 29 52), (0, .nameAndType 53 13), (0, u "edgesEnd"), (2, u "law"), (0, u "(IIII)Z")] 5

def k1m0 : Method := { name := "<init>", desc := "()V", sig := { parameters := [], returnType := none }, accessFlags := 1, code := none }
def k1c1 : Code := { maxStack := 2, maxLocals := 1, code := method_2_code, exceptionTable := #[], attributes := #[] }
def k1m1 : Method := { name := "key", desc := "(I)I", sig := { parameters := [.int], returnType := some .int }, accessFlags := 10, code := some k1c1 }
def k1c2 : Code := { maxStack := 2, maxLocals := 1, code := method_3_code, exceptionTable := #[], attributes := #[] }
def k1m2 : Method := { name := "from", desc := "(I)I", sig := { parameters := [.int], returnType := some .int }, accessFlags := 10, code := some k1c2 }
def k1c3 : Code := { maxStack := 2, maxLocals := 1, code := method_4_code, exceptionTable := #[], attributes := #[] }
def k1m3 : Method := { name := "to", desc := "(I)I", sig := { parameters := [.int], returnType := some .int }, accessFlags := 10, code := some k1c3 }
def k1c4 : Code := { maxStack := 5, maxLocals := 22, code := code, exceptionTable := #[], attributes := #[] }
def k1m4 : Method := { name := "law", desc := "(IIII)Z", sig := { parameters := [.int, .int, .int, .int], returnType := some .boolean }, accessFlags := 9, code := some k1c4 }
/-- com/example/changeset/changeset/check/StateGraphEdgesEndPinLaw -/
def k1 : Class := { plain "com/example/changeset/changeset/check/StateGraphEdgesEndPinLaw" (some 0) with
  accessFlags := 49
  interfaces := #[]
  cf := some (fileOf pool1 9 #[] #[{ accessFlags := 1, nameIndex := 5, descriptorIndex := 6, attributes := #[] }, { accessFlags := 10, nameIndex := 12, descriptorIndex := 13, attributes := #[] }, { accessFlags := 10, nameIndex := 25, descriptorIndex := 13, attributes := #[] }, { accessFlags := 10, nameIndex := 28, descriptorIndex := 13, attributes := #[] }, { accessFlags := 9, nameIndex := 56, descriptorIndex := 57, attributes := #[] }] 49 2 #[] #[])
  fields := #[]
  methods := #[k1m0, k1m1, k1m2, k1m3, k1m4]
  instanceTypes := #[]
  staticTypes := #[]
  resolved := Array.replicate 63 none
  statics := none }

def pool2 : Array CpInfo := pool [(1, .class_ 2), (0, u "java/lang/Math"), (1, .class_ 6), (1, u "java/lang/Object"), (0, u "<init>"), (0, u "()V"), (89, .class_ 100), (1, u "java/lang/Math$RandomNumberGeneratorHolder"), (71, u "negativeZeroFloatBits"), (0, u "J"), (2, u "negativeZeroDoubleBits"), (21, u "max"), (2, u "min"), (43, u "$assertionsDisabled"), (0, u "Z"), (88, u "(II)I"), (2, u "twoToTheDoubleScaleDown"), (0, u "D"), (4, u "twoToTheDoubleScaleUp"), (9, u "E"), (3, u "PI"), (2, u "TAU"), (2, u "DEGREES_TO_RADIANS"), (0, u "RADIANS_TO_DEGREES")] 94

def k2m0 : Method := { name := "<init>", desc := "()V", sig := { parameters := [], returnType := none }, accessFlags := 2, code := none }
def k2c1 : Code := { maxStack := 2, maxLocals := 2, code := jdk_29_method_65_code, exceptionTable := #[], attributes := #[] }
def k2m1 : Method := { name := "max", desc := "(II)I", sig := { parameters := [.int, .int], returnType := some .int }, accessFlags := 9, code := some k2c1 }
def k2c2 : Code := { maxStack := 2, maxLocals := 2, code := jdk_29_method_69_code, exceptionTable := #[], attributes := #[] }
def k2m2 : Method := { name := "min", desc := "(II)I", sig := { parameters := [.int, .int], returnType := some .int }, accessFlags := 9, code := some k2c2 }
/-- java/lang/Math -/
def k2 : Class := { plain "java/lang/Math" (some 0) with
  accessFlags := 49
  interfaces := #[]
  cf := some (fileOf pool2 1 #[.nestMembers #[98]] #[{ accessFlags := 2, nameIndex := 7, descriptorIndex := 8, attributes := #[] }, { accessFlags := 9, nameIndex := 198, descriptorIndex := 335, attributes := #[] }, { accessFlags := 9, nameIndex := 201, descriptorIndex := 335, attributes := #[] }] 49 4 #[] #[{ accessFlags := 25, nameIndex := 354, descriptorIndex := 339, attributes := #[] }, { accessFlags := 25, nameIndex := 358, descriptorIndex := 339, attributes := #[] }, { accessFlags := 25, nameIndex := 361, descriptorIndex := 339, attributes := #[] }, { accessFlags := 26, nameIndex := 364, descriptorIndex := 339, attributes := #[] }, { accessFlags := 26, nameIndex := 365, descriptorIndex := 339, attributes := #[] }, { accessFlags := 26, nameIndex := 172, descriptorIndex := 173, attributes := #[] }, { accessFlags := 26, nameIndex := 176, descriptorIndex := 173, attributes := #[] }, { accessFlags := 8, nameIndex := 344, descriptorIndex := 339, attributes := #[] }, { accessFlags := 8, nameIndex := 338, descriptorIndex := 339, attributes := #[] }, { accessFlags := 4120, nameIndex := 245, descriptorIndex := 246, attributes := #[] }])
  fields := #[{ name := "E", type := .double, accessFlags := 25, slot := 0, constantValue := 0 }, { name := "PI", type := .double, accessFlags := 25, slot := 1, constantValue := 0 }, { name := "TAU", type := .double, accessFlags := 25, slot := 2, constantValue := 0 }, { name := "DEGREES_TO_RADIANS", type := .double, accessFlags := 26, slot := 3, constantValue := 0 }, { name := "RADIANS_TO_DEGREES", type := .double, accessFlags := 26, slot := 4, constantValue := 0 }, { name := "negativeZeroFloatBits", type := .long, accessFlags := 26, slot := 5, constantValue := 0 }, { name := "negativeZeroDoubleBits", type := .long, accessFlags := 26, slot := 6, constantValue := 0 }, { name := "twoToTheDoubleScaleUp", type := .double, accessFlags := 8, slot := 7, constantValue := 0 }, { name := "twoToTheDoubleScaleDown", type := .double, accessFlags := 8, slot := 8, constantValue := 0 }, { name := "$assertionsDisabled", type := .boolean, accessFlags := 4120, slot := 9, constantValue := 0 }]
  methods := #[k2m0, k2m1, k2m2]
  instanceTypes := #[]
  staticTypes := #[.double, .double, .double, .double, .double, .long, .long, .double, .double, .boolean]
  resolved := Array.replicate 460 none
  statics := none }

def pool3 : Array CpInfo := pool [(1, .methodref 2 3), (0, .class_ 4), (0, .nameAndType 5 6), (0, u "java/lang/Object"), (0, u "<init>"), (0, u "()V"), (0, .class_ 8), (0, u "java/util/concurrent/ConcurrentHashMap"), (0, .methodref 7 3), (0, .fieldref 11 12), (0, .class_ 13), (0, .nameAndType 14 15), (0, u "com/example/changeset/changeset/check/StateGraph"), (0, u "found"), (0, u "Ljava/util/Map;"), (0, .class_ 17), (0, u "java/util/ArrayList"), (0, .methodref 16 3), (0, .fieldref 11 20), (0, .nameAndType 21 22), (0, u "states"), (0, u "Ljava/util/List;"), (0, .fieldref 11 24), (0, .nameAndType 25 26), (0, u "predecessors"), (0, u "[I"), (0, .fieldref 11 28), (0, .nameAndType 29 26), (0, u "reachedBy"), (0, .fieldref 11 31), (0, .nameAndType 32 33), (0, u "lastWithEdges"), (0, u "I"), (0, .fieldref 11 35), (0, .nameAndType 36 22), (0, u "actions"), (0, .fieldref 11 38), (0, .nameAndType 39 40), (0, u "keepsEdges"), (0, u "Z"), (0, .fieldref 11 42), (0, .nameAndType 43 26), (0, u "firstEdges"), (0, .fieldref 11 45), (0, .nameAndType 46 26), (0, u "lastEdgeFrom"), (0, .fieldref 11 48), (0, .nameAndType 49 26), (0, u "edgeTargets"), (0, .fieldref 11 51), (0, .nameAndType 52 26), (0, u "edgeActions"), (0, .methodref 54 55), (0, .class_ 56), (0, .nameAndType 57 58), (0, u "com/example/changeset/changeset/check/FoundState"), (0, u "state"), (0, u "()Lcom/example/changeset/changeset/check/State;"), (6, .methodref 54 66), (0, .nameAndType 67 68), (0, u "number"), (0, u "()I"), (0, .interfaceMethodref 70 71), (0, .class_ 72), (0, .nameAndType 73 68), (0, u "java/util/List"), (0, u "size"), (6, .interfaceMethodref 70 81), (0, .nameAndType 82 83), (0, u "add"), (0, u "(Ljava/lang/Object;)Z"), (0, .fieldref 11 85), (0, .nameAndType 86 33), (0, u "initialStates"), (0, .methodref 54 88), (0, .nameAndType 67 89), (0, u "(I)V"), (0, .methodref 11 91), (0, .nameAndType 92 93), (0, u "addEdge"), (0, u "(III)V"), (9, .fieldref 11 104), (0, .nameAndType 105 33), (0, u "edges"), (3, u "(I)I"), (2, u "edgesEnd"), (33, u "INITIAL_LABEL"), (0, u "Ljava/lang/String;"), (5, u "(Ljava/util/List;Z)V"), (6, u "(Lcom/example/changeset/changeset/check/FoundState;II)Z")] 27

def k3c0 : Code := { maxStack := 3, maxLocals := 4, code := prog_39_method_1_code, exceptionTable := #[], attributes := #[] }
def k3m0 : Method := { name := "<init>", desc := "(Ljava/util/List;Z)V", sig := { parameters := [(.object "java/util/List"), .boolean], returnType := none }, accessFlags := 0, code := some k3c0 }
def k3c1 : Code := { maxStack := 4, maxLocals := 6, code := prog_39_method_3_code, exceptionTable := #[], attributes := #[] }
def k3m1 : Method := { name := "add", desc := "(Lcom/example/changeset/changeset/check/FoundState;II)Z", sig := { parameters := [(.object "com/example/changeset/changeset/check/FoundState"), .int, .int], returnType := some .boolean }, accessFlags := 0, code := some k3c1 }
def k3c2 : Code := { maxStack := 4, maxLocals := 4, code := prog_39_method_4_code, exceptionTable := #[], attributes := #[] }
def k3m2 : Method := { name := "addEdge", desc := "(III)V", sig := { parameters := [.int, .int, .int], returnType := none }, accessFlags := 2, code := some k3c2 }
def k3c3 : Code := { maxStack := 3, maxLocals := 2, code := prog_39_method_8_code, exceptionTable := #[], attributes := #[] }
def k3m3 : Method := { name := "edgesEnd", desc := "(I)I", sig := { parameters := [.int], returnType := some .int }, accessFlags := 0, code := some k3c3 }
/-- com/example/changeset/changeset/check/StateGraph -/
def k3 : Class := { plain "com/example/changeset/changeset/check/StateGraph" (some 0) with
  accessFlags := 32
  interfaces := #[]
  cf := some (fileOf pool3 11 #[] #[{ accessFlags := 0, nameIndex := 5, descriptorIndex := 153, attributes := #[] }, { accessFlags := 0, nameIndex := 82, descriptorIndex := 160, attributes := #[] }, { accessFlags := 2, nameIndex := 92, descriptorIndex := 93, attributes := #[] }, { accessFlags := 0, nameIndex := 112, descriptorIndex := 109, attributes := #[] }] 32 2 #[] #[{ accessFlags := 26, nameIndex := 146, descriptorIndex := 147, attributes := #[] }, { accessFlags := 18, nameIndex := 36, descriptorIndex := 22, attributes := #[] }, { accessFlags := 18, nameIndex := 39, descriptorIndex := 40, attributes := #[] }, { accessFlags := 18, nameIndex := 14, descriptorIndex := 15, attributes := #[] }, { accessFlags := 18, nameIndex := 21, descriptorIndex := 22, attributes := #[] }, { accessFlags := 2, nameIndex := 86, descriptorIndex := 33, attributes := #[] }, { accessFlags := 2, nameIndex := 25, descriptorIndex := 26, attributes := #[] }, { accessFlags := 2, nameIndex := 29, descriptorIndex := 26, attributes := #[] }, { accessFlags := 2, nameIndex := 43, descriptorIndex := 26, attributes := #[] }, { accessFlags := 2, nameIndex := 46, descriptorIndex := 26, attributes := #[] }, { accessFlags := 2, nameIndex := 49, descriptorIndex := 26, attributes := #[] }, { accessFlags := 2, nameIndex := 52, descriptorIndex := 26, attributes := #[] }, { accessFlags := 2, nameIndex := 105, descriptorIndex := 33, attributes := #[] }, { accessFlags := 2, nameIndex := 32, descriptorIndex := 33, attributes := #[] }])
  fields := #[{ name := "INITIAL_LABEL", type := (.object "java/lang/String"), accessFlags := 26, slot := 0, constantValue := 0 }, { name := "actions", type := (.object "java/util/List"), accessFlags := 18, slot := 0, constantValue := 0 }, { name := "keepsEdges", type := .boolean, accessFlags := 18, slot := 1, constantValue := 0 }, { name := "found", type := (.object "java/util/Map"), accessFlags := 18, slot := 2, constantValue := 0 }, { name := "states", type := (.object "java/util/List"), accessFlags := 18, slot := 3, constantValue := 0 }, { name := "initialStates", type := .int, accessFlags := 2, slot := 4, constantValue := 0 }, { name := "predecessors", type := (.array .int), accessFlags := 2, slot := 5, constantValue := 0 }, { name := "reachedBy", type := (.array .int), accessFlags := 2, slot := 6, constantValue := 0 }, { name := "firstEdges", type := (.array .int), accessFlags := 2, slot := 7, constantValue := 0 }, { name := "lastEdgeFrom", type := (.array .int), accessFlags := 2, slot := 8, constantValue := 0 }, { name := "edgeTargets", type := (.array .int), accessFlags := 2, slot := 9, constantValue := 0 }, { name := "edgeActions", type := (.array .int), accessFlags := 2, slot := 10, constantValue := 0 }, { name := "edges", type := .int, accessFlags := 2, slot := 11, constantValue := 0 }, { name := "lastWithEdges", type := .int, accessFlags := 2, slot := 12, constantValue := 0 }]
  methods := #[k3m0, k3m1, k3m2, k3m3]
  instanceTypes := #[(.object "java/util/List"), .boolean, (.object "java/util/Map"), (.object "java/util/List"), .int, (.array .int), (.array .int), (.array .int), (.array .int), (.array .int), (.array .int), .int, .int]
  staticTypes := #[(.object "java/lang/String")]
  resolved := Array.replicate 188 none
  statics := none }

def pool4 : Array CpInfo := pool [(8, .class_ 10), (1, u "java/lang/Iterable"), (24, .class_ 36), (0, u "java/lang/Object")] 25

/-- java/lang/Iterable -/
def k4 : Class := { plain "java/lang/Iterable" (some 0) with
  accessFlags := 1537
  interfaces := #[]
  cf := some (fileOf pool4 8 #[] #[] 1537 35 #[] #[])
  fields := #[]
  methods := #[]
  instanceTypes := #[]
  staticTypes := #[]
  resolved := Array.replicate 62 none
  statics := none }

def pool5 : Array CpInfo := pool [(10, .class_ 12), (1, u "java/util/Collection"), (47, .class_ 61), (0, u "java/lang/Object"), (0, .class_ 63), (0, u "java/lang/Iterable")] 51

/-- java/util/Collection -/
def k5 : Class := { plain "java/util/Collection" (some 0) with
  accessFlags := 1537
  interfaces := #[4]
  cf := some (fileOf pool5 10 #[] #[] 1537 60 #[62] #[])
  fields := #[]
  methods := #[]
  instanceTypes := #[]
  staticTypes := #[]
  resolved := Array.replicate 115 none
  statics := none }

def pool6 : Array CpInfo := pool [(1, .methodref 2 3), (0, .class_ 4), (0, .nameAndType 5 6), (0, u "java/lang/Object"), (0, u "<init>"), (0, u "()V"), (1, .class_ 10), (1, u "java/util/AbstractCollection"), (66, .class_ 78), (0, u "java/util/Collection")] 81

def k6c0 : Code := { maxStack := 1, maxLocals := 1, code := jdk_22_method_1_code, exceptionTable := #[], attributes := #[] }
def k6m0 : Method := { name := "<init>", desc := "()V", sig := { parameters := [], returnType := none }, accessFlags := 4, code := some k6c0 }
/-- java/util/AbstractCollection -/
def k6 : Class := { plain "java/util/AbstractCollection" (some 0) with
  accessFlags := 1057
  interfaces := #[5]
  cf := some (fileOf pool6 8 #[] #[{ accessFlags := 4, nameIndex := 5, descriptorIndex := 6, attributes := #[] }] 1057 2 #[77] #[])
  fields := #[]
  methods := #[k6m0]
  instanceTypes := #[]
  staticTypes := #[]
  resolved := Array.replicate 160 none
  statics := none }

def pool7 : Array CpInfo := pool [(8, .class_ 10), (1, u "java/util/SequencedCollection"), (15, .class_ 27), (0, u "java/lang/Object"), (0, .class_ 29), (0, u "java/util/Collection")] 27

/-- java/util/SequencedCollection -/
def k7 : Class := { plain "java/util/SequencedCollection" (some 0) with
  accessFlags := 1537
  interfaces := #[5]
  cf := some (fileOf pool7 8 #[] #[] 1537 26 #[28] #[])
  fields := #[]
  methods := #[]
  instanceTypes := #[]
  staticTypes := #[]
  resolved := Array.replicate 57 none
  statics := none }

def pool8 : Array CpInfo := pool [(8, .class_ 10), (1, u "java/util/List"), (49, u "add"), (3, u "(Ljava/lang/Object;)Z"), (14, u "size"), (0, u "()I"), (22, .class_ 104), (0, u "java/lang/Object"), (15, .class_ 121), (0, u "java/util/SequencedCollection")] 129

def k8m0 : Method := { name := "size", desc := "()I", sig := { parameters := [], returnType := some .int }, accessFlags := 1025, code := none }
def k8m1 : Method := { name := "add", desc := "(Ljava/lang/Object;)Z", sig := { parameters := [(.object "java/lang/Object")], returnType := some .boolean }, accessFlags := 1025, code := none }
/-- java/util/List -/
def k8 : Class := { plain "java/util/List" (some 0) with
  accessFlags := 1537
  interfaces := #[7]
  cf := some (fileOf pool8 8 #[] #[{ accessFlags := 1025, nameIndex := 79, descriptorIndex := 80, attributes := #[] }, { accessFlags := 1025, nameIndex := 60, descriptorIndex := 64, attributes := #[] }] 1537 103 #[120] #[])
  fields := #[]
  methods := #[k8m0, k8m1]
  instanceTypes := #[]
  staticTypes := #[]
  resolved := Array.replicate 251 none
  statics := none }

def pool9 : Array CpInfo := pool [(1, .methodref 2 3), (0, .class_ 4), (0, .nameAndType 5 6), (0, u "java/util/AbstractCollection"), (0, u "<init>"), (0, u "()V"), (0, .fieldref 8 9), (0, .class_ 10), (0, .nameAndType 11 12), (0, u "java/util/AbstractList"), (0, u "modCount"), (0, u "I"), (64, .class_ 78), (0, u "java/util/AbstractList$Itr"), (3, .class_ 83), (0, u "java/util/AbstractList$ListItr"), (9, .class_ 94), (0, u "java/util/AbstractList$RandomAccessSubList"), (3, .class_ 99), (0, u "java/util/AbstractList$SubList"), (33, .class_ 134), (0, u "java/util/List"), (73, .class_ 209), (0, u "java/util/AbstractList$SubList$1"), (0, .class_ 211), (0, u "java/util/AbstractList$RandomAccessSpliterator")] 6

def k9c0 : Code := { maxStack := 2, maxLocals := 1, code := jdk_39_method_1_code, exceptionTable := #[], attributes := #[] }
def k9m0 : Method := { name := "<init>", desc := "()V", sig := { parameters := [], returnType := none }, accessFlags := 4, code := some k9c0 }
/-- java/util/AbstractList -/
def k9 : Class := { plain "java/util/AbstractList" (some 6) with
  accessFlags := 1057
  interfaces := #[8]
  cf := some (fileOf pool9 8 #[.nestMembers #[93, 98, 208, 210, 82, 77]] #[{ accessFlags := 4, nameIndex := 5, descriptorIndex := 6, attributes := #[] }] 1057 2 #[133] #[{ accessFlags := 132, nameIndex := 11, descriptorIndex := 12, attributes := #[] }])
  fields := #[{ name := "modCount", type := .int, accessFlags := 132, slot := 0, constantValue := 0 }]
  methods := #[k9m0]
  instanceTypes := #[.int]
  staticTypes := #[]
  resolved := Array.replicate 218 none
  statics := none }

def pool10 : Array CpInfo := pool [(1, .class_ 2), (0, u "java/util/RandomAccess"), (0, .class_ 4), (0, u "java/lang/Object")] 2

/-- java/util/RandomAccess -/
def k10 : Class := { plain "java/util/RandomAccess" (some 0) with
  accessFlags := 1537
  interfaces := #[]
  cf := some (fileOf pool10 1 #[] #[] 1537 3 #[] #[])
  fields := #[]
  methods := #[]
  instanceTypes := #[]
  staticTypes := #[]
  resolved := Array.replicate 7 none
  statics := none }

def pool11 : Array CpInfo := pool [(1, .class_ 2), (0, u "java/lang/Cloneable"), (0, .class_ 4), (0, u "java/lang/Object")] 2

/-- java/lang/Cloneable -/
def k11 : Class := { plain "java/lang/Cloneable" (some 0) with
  accessFlags := 1537
  interfaces := #[]
  cf := some (fileOf pool11 1 #[] #[] 1537 3 #[] #[])
  fields := #[]
  methods := #[]
  instanceTypes := #[]
  staticTypes := #[]
  resolved := Array.replicate 7 none
  statics := none }

def pool12 : Array CpInfo := pool [(1, .class_ 2), (0, u "java/io/Serializable"), (0, .class_ 4), (0, u "java/lang/Object")] 2

/-- java/io/Serializable -/
def k12 : Class := { plain "java/io/Serializable" (some 0) with
  accessFlags := 1537
  interfaces := #[]
  cf := some (fileOf pool12 1 #[] #[] 1537 3 #[] #[])
  fields := #[]
  methods := #[]
  instanceTypes := #[]
  staticTypes := #[]
  resolved := Array.replicate 7 none
  statics := none }

def pool13 : Array CpInfo := pool [(1, .methodref 2 3), (0, .class_ 4), (0, .nameAndType 5 6), (0, u "java/util/AbstractList"), (0, u "<init>"), (0, u "()V"), (0, .class_ 8), (0, u "java/lang/Object"), (0, .fieldref 10 11), (0, .class_ 12), (0, .nameAndType 13 14), (0, u "java/util/ArrayList"), (0, u "elementData"), (0, u "[Ljava/lang/Object;"), (2, u "EMPTY_ELEMENTDATA"), (21, .fieldref 10 40), (0, .nameAndType 41 14), (0, u "DEFAULTCAPACITY_EMPTY_ELEMENTDATA"), (5, u "()[Ljava/lang/Object;"), (0, .fieldref 10 49), (0, .nameAndType 50 51), (0, u "size"), (0, u "I"), (11, .fieldref 10 64), (0, .nameAndType 65 51), (0, u "modCount"), (3, .methodref 10 70), (0, .nameAndType 71 72), (0, u "grow"), (0, u "(I)[Ljava/lang/Object;"), (6, .methodref 80 81), (0, .class_ 82), (0, .nameAndType 83 84), (0, u "java/lang/Math"), (0, u "max"), (0, u "(II)I"), (11, u "(Ljava/lang/Object;)Z"), (32, .methodref 10 130), (0, .nameAndType 71 47), (0, .methodref 10 132), (0, .nameAndType 133 134), (0, u "add"), (0, u "(Ljava/lang/Object;[Ljava/lang/Object;I)V"), (13, .class_ 149), (0, u "java/util/List"), (36, u "()I"), (75, .class_ 263), (0, u "java/util/ArrayList$ListItr"), (3, .class_ 268), (0, u "java/util/ArrayList$Itr"), (7, .class_ 277), (0, u "java/util/ArrayList$SubList"), (12, .class_ 291), (0, u "java/util/ArrayList$ArrayListSpliterator"), (37, .class_ 330), (0, u "java/util/RandomAccess"), (0, .class_ 332), (0, u "java/lang/Cloneable"), (0, .class_ 334), (0, u "java/io/Serializable"), (0, u "serialVersionUID"), (0, u "J"), (3, u "DEFAULT_CAPACITY"), (159, .class_ 501), (0, u "java/util/ArrayList$SubList$2"), (0, .class_ 503), (0, u "java/util/ArrayList$SubList$1")] 5

def k13c0 : Code := { maxStack := 2, maxLocals := 1, code := jdk_38_method_2_code, exceptionTable := #[], attributes := #[] }
def k13m0 : Method := { name := "<init>", desc := "()V", sig := { parameters := [], returnType := none }, accessFlags := 1, code := some k13c0 }
def k13c1 : Code := { maxStack := 4, maxLocals := 4, code := jdk_38_method_6_code, exceptionTable := #[], attributes := #[] }
def k13m1 : Method := { name := "grow", desc := "(I)[Ljava/lang/Object;", sig := { parameters := [.int], returnType := some (.array (.object "java/lang/Object")) }, accessFlags := 2, code := some k13c1 }
def k13c2 : Code := { maxStack := 3, maxLocals := 1, code := jdk_38_method_7_code, exceptionTable := #[], attributes := #[] }
def k13m2 : Method := { name := "grow", desc := "()[Ljava/lang/Object;", sig := { parameters := [], returnType := some (.array (.object "java/lang/Object")) }, accessFlags := 2, code := some k13c2 }
def k13c3 : Code := { maxStack := 1, maxLocals := 1, code := jdk_38_method_8_code, exceptionTable := #[], attributes := #[] }
def k13m3 : Method := { name := "size", desc := "()I", sig := { parameters := [], returnType := some .int }, accessFlags := 1, code := some k13c3 }
def k13c4 : Code := { maxStack := 3, maxLocals := 4, code := jdk_38_method_24_code, exceptionTable := #[], attributes := #[] }
def k13m4 : Method := { name := "add", desc := "(Ljava/lang/Object;[Ljava/lang/Object;I)V", sig := { parameters := [(.object "java/lang/Object"), (.array (.object "java/lang/Object")), .int], returnType := none }, accessFlags := 2, code := some k13c4 }
def k13c5 : Code := { maxStack := 4, maxLocals := 2, code := jdk_38_method_25_code, exceptionTable := #[], attributes := #[] }
def k13m5 : Method := { name := "add", desc := "(Ljava/lang/Object;)Z", sig := { parameters := [(.object "java/lang/Object")], returnType := some .boolean }, accessFlags := 1, code := some k13c5 }
/-- java/util/ArrayList -/
def k13 : Class := { plain "java/util/ArrayList" (some 9) with
  accessFlags := 33
  interfaces := #[8, 10, 11, 12]
  cf := some (fileOf pool13 10 #[.nestMembers #[290, 276, 500, 502, 262, 267]] #[{ accessFlags := 1, nameIndex := 5, descriptorIndex := 6, attributes := #[] }, { accessFlags := 2, nameIndex := 71, descriptorIndex := 72, attributes := #[] }, { accessFlags := 2, nameIndex := 71, descriptorIndex := 47, attributes := #[] }, { accessFlags := 1, nameIndex := 50, descriptorIndex := 186, attributes := #[] }, { accessFlags := 2, nameIndex := 133, descriptorIndex := 134, attributes := #[] }, { accessFlags := 1, nameIndex := 133, descriptorIndex := 96, attributes := #[] }] 33 2 #[148, 329, 331, 333] #[{ accessFlags := 26, nameIndex := 335, descriptorIndex := 336, attributes := #[] }, { accessFlags := 26, nameIndex := 340, descriptorIndex := 51, attributes := #[] }, { accessFlags := 26, nameIndex := 17, descriptorIndex := 14, attributes := #[] }, { accessFlags := 26, nameIndex := 41, descriptorIndex := 14, attributes := #[] }, { accessFlags := 128, nameIndex := 13, descriptorIndex := 14, attributes := #[] }, { accessFlags := 2, nameIndex := 50, descriptorIndex := 51, attributes := #[] }])
  fields := #[{ name := "serialVersionUID", type := .long, accessFlags := 26, slot := 0, constantValue := 0 }, { name := "DEFAULT_CAPACITY", type := .int, accessFlags := 26, slot := 1, constantValue := 0 }, { name := "EMPTY_ELEMENTDATA", type := (.array (.object "java/lang/Object")), accessFlags := 26, slot := 2, constantValue := 0 }, { name := "DEFAULTCAPACITY_EMPTY_ELEMENTDATA", type := (.array (.object "java/lang/Object")), accessFlags := 26, slot := 3, constantValue := 0 }, { name := "elementData", type := (.array (.object "java/lang/Object")), accessFlags := 128, slot := 1, constantValue := 0 }, { name := "size", type := .int, accessFlags := 2, slot := 2, constantValue := 0 }]
  methods := #[k13m0, k13m1, k13m2, k13m3, k13m4, k13m5]
  instanceTypes := #[.int, (.array (.object "java/lang/Object")), .int]
  staticTypes := #[.long, .int, (.array (.object "java/lang/Object")), (.array (.object "java/lang/Object"))]
  resolved := Array.replicate 509 none
  statics := some 0 }

def pool14 : Array CpInfo := pool [(2, .class_ 4), (1, u "java/util/Map"), (31, .class_ 37), (0, u "java/util/Map$Entry"), (55, .class_ 94), (0, u "java/lang/Object")] 168

/-- java/util/Map -/
def k14 : Class := { plain "java/util/Map" (some 0) with
  accessFlags := 1537
  interfaces := #[]
  cf := some (fileOf pool14 2 #[.nestMembers #[36]] #[] 1537 93 #[] #[])
  fields := #[]
  methods := #[]
  instanceTypes := #[]
  staticTypes := #[]
  resolved := Array.replicate 263 none
  statics := none }

def pool15 : Array CpInfo := pool [(1, .methodref 2 3), (0, .class_ 4), (0, .nameAndType 5 6), (0, u "java/lang/Object"), (0, u "<init>"), (0, u "()V"), (1, .class_ 10), (1, u "java/util/AbstractMap"), (42, .class_ 54), (0, u "java/util/Map"), (9, u "keySet"), (0, u "Ljava/util/Set;"), (0, .class_ 67), (0, u "java/util/AbstractMap$1"), (5, u "values"), (0, u "Ljava/util/Collection;"), (0, .class_ 76), (0, u "java/util/AbstractMap$2"), (104, .class_ 182), (0, u "java/util/AbstractMap$ViewCollection"), (0, .class_ 184), (0, u "java/util/AbstractMap$SimpleImmutableEntry"), (0, .class_ 186), (0, u "java/util/AbstractMap$SimpleEntry"), (0, .class_ 188), (0, u "java/util/AbstractMap$2$1"), (0, .class_ 190), (0, u "java/util/AbstractMap$1$1")] 5

def k15c0 : Code := { maxStack := 1, maxLocals := 1, code := jdk_71_method_1_code, exceptionTable := #[], attributes := #[] }
def k15m0 : Method := { name := "<init>", desc := "()V", sig := { parameters := [], returnType := none }, accessFlags := 4, code := some k15c0 }
/-- java/util/AbstractMap -/
def k15 : Class := { plain "java/util/AbstractMap" (some 0) with
  accessFlags := 1057
  interfaces := #[14]
  cf := some (fileOf pool15 8 #[.nestMembers #[181, 183, 185, 75, 187, 66, 189]] #[{ accessFlags := 4, nameIndex := 5, descriptorIndex := 6, attributes := #[] }] 1057 2 #[53] #[{ accessFlags := 128, nameIndex := 64, descriptorIndex := 65, attributes := #[] }, { accessFlags := 128, nameIndex := 73, descriptorIndex := 74, attributes := #[] }])
  fields := #[{ name := "keySet", type := (.object "java/util/Set"), accessFlags := 128, slot := 0, constantValue := 0 }, { name := "values", type := (.object "java/util/Collection"), accessFlags := 128, slot := 1, constantValue := 0 }]
  methods := #[k15m0]
  instanceTypes := #[(.object "java/util/Set"), (.object "java/util/Collection")]
  staticTypes := #[]
  resolved := Array.replicate 196 none
  statics := none }

def pool16 : Array CpInfo := pool [(2, .class_ 4), (1, u "java/util/concurrent/ConcurrentMap"), (71, .class_ 77), (0, u "java/lang/Object"), (0, .class_ 79), (0, u "java/util/Map")] 77

/-- java/util/concurrent/ConcurrentMap -/
def k16 : Class := { plain "java/util/concurrent/ConcurrentMap" (some 0) with
  accessFlags := 1537
  interfaces := #[14]
  cf := some (fileOf pool16 2 #[] #[] 1537 76 #[78] #[])
  fields := #[]
  methods := #[]
  instanceTypes := #[]
  staticTypes := #[]
  resolved := Array.replicate 157 none
  statics := none }

def pool17 : Array CpInfo := pool [(3, .class_ 4), (0, u "java/util/concurrent/ConcurrentHashMap"), (37, u "U"), (0, u "Ljdk/internal/misc/Unsafe;"), (2, u "ASHIFT"), (0, u "I"), (2, u "ABASE"), (6, .class_ 58), (0, u "java/util/concurrent/ConcurrentHashMap$Node"), (8, .methodref 68 69), (0, .class_ 70), (0, .nameAndType 71 72), (0, u "java/util/AbstractMap"), (0, u "<init>"), (0, u "()V"), (6, u "sizeCtl"), (27, u "table"), (0, u "[Ljava/util/concurrent/ConcurrentHashMap$Node;"), (33, .class_ 143), (0, u "java/util/concurrent/ConcurrentHashMap$Traverser"), (26, .class_ 171), (0, u "java/util/concurrent/ConcurrentHashMap$TreeBin"), (4, .class_ 177), (0, u "java/util/concurrent/ConcurrentHashMap$ReservationNode"), (26, u "entrySet"), (37, .class_ 244), (1, u "java/util/concurrent/ConcurrentHashMap$TreeNode"), (18, u "keySet"), (0, u "Ljava/util/concurrent/ConcurrentHashMap$KeySetView;"), (0, .class_ 266), (0, u "java/util/concurrent/ConcurrentHashMap$KeySetView"), (5, u "values"), (0, u "Ljava/util/concurrent/ConcurrentHashMap$ValuesView;"), (0, .class_ 275), (0, u "java/util/concurrent/ConcurrentHashMap$ValuesView"), (5, u "Ljava/util/concurrent/ConcurrentHashMap$EntrySetView;"), (0, .class_ 283), (0, u "java/util/concurrent/ConcurrentHashMap$EntrySetView"), (18, .class_ 303), (0, u "java/util/concurrent/ConcurrentHashMap$Segment"), (54, u "baseCount"), (0, u "J"), (29, .class_ 390), (0, u "java/util/concurrent/ConcurrentHashMap$KeyIterator"), (3, .class_ 395), (0, u "java/util/concurrent/ConcurrentHashMap$ValueIterator"), (18, u "SIZECTL"), (6, u "counterCells"), (0, u "[Ljava/util/concurrent/ConcurrentHashMap$CounterCell;"), (2, u "BASECOUNT"), (11, u "CELLVALUE"), (1, .class_ 441), (1, u "java/util/concurrent/ConcurrentHashMap$CounterCell"), (11, u "nextTable"), (2, u "transferIndex"), (4, .class_ 462), (0, u "java/util/concurrent/ConcurrentHashMap$ForwardingNode"), (4, u "NCPU"), (7, u "TRANSFERINDEX"), (5, u "cellsBusy"), (5, u "CELLSBUSY"), (19, .class_ 508), (0, u "java/util/concurrent/ConcurrentHashMap$ForEachMappingTask"), (10, .class_ 520), (0, u "java/util/concurrent/ConcurrentHashMap$ForEachTransformedMappingTask"), (4, .class_ 526), (0, u "java/util/concurrent/ConcurrentHashMap$SearchMappingsTask"), (7, .class_ 535), (0, u "java/util/concurrent/ConcurrentHashMap$MapReduceMappingsTask"), (4, .class_ 541), (0, u "java/util/concurrent/ConcurrentHashMap$MapReduceMappingsToDoubleTask"), (10, .class_ 553), (0, u "java/util/concurrent/ConcurrentHashMap$MapReduceMappingsToLongTask"), (7, .class_ 562), (0, u "java/util/concurrent/ConcurrentHashMap$MapReduceMappingsToIntTask"), (7, .class_ 571), (0, u "java/util/concurrent/ConcurrentHashMap$ForEachKeyTask"), (4, .class_ 577), (0, u "java/util/concurrent/ConcurrentHashMap$ForEachTransformedKeyTask"), (4, .class_ 583), (0, u "java/util/concurrent/ConcurrentHashMap$SearchKeysTask"), (4, .class_ 589), (0, u "java/util/concurrent/ConcurrentHashMap$ReduceKeysTask"), (4, .class_ 595), (0, u "java/util/concurrent/ConcurrentHashMap$MapReduceKeysTask"), (4, .class_ 601), (0, u "java/util/concurrent/ConcurrentHashMap$MapReduceKeysToDoubleTask"), (4, .class_ 607), (0, u "java/util/concurrent/ConcurrentHashMap$MapReduceKeysToLongTask"), (4, .class_ 613), (0, u "java/util/concurrent/ConcurrentHashMap$MapReduceKeysToIntTask"), (4, .class_ 619), (0, u "java/util/concurrent/ConcurrentHashMap$ForEachValueTask"), (2, .class_ 623), (0, u "java/util/concurrent/ConcurrentHashMap$ForEachTransformedValueTask"), (2, .class_ 627), (0, u "java/util/concurrent/ConcurrentHashMap$SearchValuesTask"), (2, .class_ 631), (0, u "java/util/concurrent/ConcurrentHashMap$ReduceValuesTask"), (4, .class_ 637), (0, u "java/util/concurrent/ConcurrentHashMap$MapReduceValuesTask"), (4, .class_ 643), (0, u "java/util/concurrent/ConcurrentHashMap$MapReduceValuesToDoubleTask"), (4, .class_ 649), (0, u "java/util/concurrent/ConcurrentHashMap$MapReduceValuesToLongTask"), (4, .class_ 655), (0, u "java/util/concurrent/ConcurrentHashMap$MapReduceValuesToIntTask"), (4, .class_ 661), (0, u "java/util/concurrent/ConcurrentHashMap$ForEachEntryTask"), (2, .class_ 665), (0, u "java/util/concurrent/ConcurrentHashMap$ForEachTransformedEntryTask"), (2, .class_ 669), (0, u "java/util/concurrent/ConcurrentHashMap$SearchEntriesTask"), (2, .class_ 673), (0, u "java/util/concurrent/ConcurrentHashMap$ReduceEntriesTask"), (4, .class_ 679), (0, u "java/util/concurrent/ConcurrentHashMap$MapReduceEntriesTask"), (4, .class_ 685), (0, u "java/util/concurrent/ConcurrentHashMap$MapReduceEntriesToDoubleTask"), (4, .class_ 691), (0, u "java/util/concurrent/ConcurrentHashMap$MapReduceEntriesToLongTask"), (4, .class_ 697), (0, u "java/util/concurrent/ConcurrentHashMap$MapReduceEntriesToIntTask"), (29, u "serialPersistentFields"), (0, u "[Ljava/io/ObjectStreamField;"), (28, .class_ 758), (0, u "java/util/concurrent/ConcurrentMap"), (0, .class_ 760), (0, u "java/io/Serializable"), (0, u "serialVersionUID"), (3, u "MAXIMUM_CAPACITY"), (0, u "DEFAULT_CAPACITY"), (1, u "MAX_ARRAY_SIZE"), (1, u "DEFAULT_CONCURRENCY_LEVEL"), (0, u "LOAD_FACTOR"), (0, u "F"), (0, u "TREEIFY_THRESHOLD"), (1, u "UNTREEIFY_THRESHOLD"), (1, u "MIN_TREEIFY_CAPACITY"), (1, u "MIN_TRANSFER_STRIDE"), (0, u "RESIZE_STAMP_BITS"), (0, u "MAX_RESIZERS"), (0, u "RESIZE_STAMP_SHIFT"), (0, u "MOVED"), (1, u "TREEBIN"), (1, u "RESERVED"), (1, u "HASH_BITS"), (345, .class_ 1136), (0, u "java/util/concurrent/ConcurrentHashMap$BulkTask"), (0, .class_ 1138), (0, u "java/util/concurrent/ConcurrentHashMap$CollectionView"), (0, .class_ 1140), (0, u "java/util/concurrent/ConcurrentHashMap$EntrySpliterator"), (0, .class_ 1142), (0, u "java/util/concurrent/ConcurrentHashMap$ValueSpliterator"), (0, .class_ 1144), (0, u "java/util/concurrent/ConcurrentHashMap$KeySpliterator"), (0, .class_ 1146), (0, u "java/util/concurrent/ConcurrentHashMap$MapEntry"), (0, .class_ 1148), (0, u "java/util/concurrent/ConcurrentHashMap$EntryIterator"), (0, .class_ 1150), (0, u "java/util/concurrent/ConcurrentHashMap$BaseIterator"), (0, .class_ 1152), (0, u "java/util/concurrent/ConcurrentHashMap$TableStack")] 57

def k17c0 : Code := { maxStack := 1, maxLocals := 1, code := jdk_2776_method_8_code, exceptionTable := #[], attributes := #[] }
def k17m0 : Method := { name := "<init>", desc := "()V", sig := { parameters := [], returnType := none }, accessFlags := 1, code := some k17c0 }
/-- java/util/concurrent/ConcurrentHashMap -/
def k17 : Class := { plain "java/util/concurrent/ConcurrentHashMap" (some 15) with
  accessFlags := 33
  interfaces := #[16, 12]
  cf := some (fileOf pool17 3 #[.nestMembers #[561, 696, 654, 612, 552, 690, 648, 606, 540, 684, 642, 600, 534, 678, 636, 594, 672, 630, 588, 525, 668, 626, 582, 519, 664, 622, 576, 507, 660, 618, 570, 1135, 282, 274, 265, 1137, 1139, 1141, 1143, 1145, 1147, 394, 389, 1149, 142, 1151, 170, 242, 439, 176, 461, 302, 57]] #[{ accessFlags := 1, nameIndex := 71, descriptorIndex := 72, attributes := #[] }] 33 68 #[757, 759] #[{ accessFlags := 26, nameIndex := 761, descriptorIndex := 359, attributes := #[] }, { accessFlags := 26, nameIndex := 765, descriptorIndex := 47, attributes := #[] }, { accessFlags := 26, nameIndex := 766, descriptorIndex := 47, attributes := #[] }, { accessFlags := 24, nameIndex := 768, descriptorIndex := 47, attributes := #[] }, { accessFlags := 26, nameIndex := 770, descriptorIndex := 47, attributes := #[] }, { accessFlags := 26, nameIndex := 771, descriptorIndex := 772, attributes := #[] }, { accessFlags := 24, nameIndex := 773, descriptorIndex := 47, attributes := #[] }, { accessFlags := 24, nameIndex := 775, descriptorIndex := 47, attributes := #[] }, { accessFlags := 24, nameIndex := 777, descriptorIndex := 47, attributes := #[] }, { accessFlags := 26, nameIndex := 779, descriptorIndex := 47, attributes := #[] }, { accessFlags := 26, nameIndex := 780, descriptorIndex := 47, attributes := #[] }, { accessFlags := 26, nameIndex := 781, descriptorIndex := 47, attributes := #[] }, { accessFlags := 26, nameIndex := 782, descriptorIndex := 47, attributes := #[] }, { accessFlags := 24, nameIndex := 783, descriptorIndex := 47, attributes := #[] }, { accessFlags := 24, nameIndex := 785, descriptorIndex := 47, attributes := #[] }, { accessFlags := 24, nameIndex := 787, descriptorIndex := 47, attributes := #[] }, { accessFlags := 24, nameIndex := 789, descriptorIndex := 47, attributes := #[] }, { accessFlags := 24, nameIndex := 467, descriptorIndex := 47, attributes := #[] }, { accessFlags := 26, nameIndex := 727, descriptorIndex := 728, attributes := #[] }, { accessFlags := 192, nameIndex := 107, descriptorIndex := 108, attributes := #[] }, { accessFlags := 194, nameIndex := 453, descriptorIndex := 108, attributes := #[] }, { accessFlags := 194, nameIndex := 358, descriptorIndex := 359, attributes := #[] }, { accessFlags := 194, nameIndex := 79, descriptorIndex := 47, attributes := #[] }, { accessFlags := 194, nameIndex := 456, descriptorIndex := 47, attributes := #[] }, { accessFlags := 194, nameIndex := 481, descriptorIndex := 47, attributes := #[] }, { accessFlags := 194, nameIndex := 421, descriptorIndex := 422, attributes := #[] }, { accessFlags := 130, nameIndex := 263, descriptorIndex := 264, attributes := #[] }, { accessFlags := 130, nameIndex := 272, descriptorIndex := 273, attributes := #[] }, { accessFlags := 130, nameIndex := 204, descriptorIndex := 281, attributes := #[] }, { accessFlags := 26, nameIndex := 42, descriptorIndex := 43, attributes := #[] }, { accessFlags := 26, nameIndex := 414, descriptorIndex := 359, attributes := #[] }, { accessFlags := 26, nameIndex := 475, descriptorIndex := 359, attributes := #[] }, { accessFlags := 26, nameIndex := 425, descriptorIndex := 359, attributes := #[] }, { accessFlags := 26, nameIndex := 487, descriptorIndex := 359, attributes := #[] }, { accessFlags := 26, nameIndex := 437, descriptorIndex := 359, attributes := #[] }, { accessFlags := 26, nameIndex := 50, descriptorIndex := 47, attributes := #[] }, { accessFlags := 26, nameIndex := 46, descriptorIndex := 47, attributes := #[] }])
  fields := #[{ name := "serialVersionUID", type := .long, accessFlags := 26, slot := 0, constantValue := 0 }, { name := "MAXIMUM_CAPACITY", type := .int, accessFlags := 26, slot := 1, constantValue := 0 }, { name := "DEFAULT_CAPACITY", type := .int, accessFlags := 26, slot := 2, constantValue := 0 }, { name := "MAX_ARRAY_SIZE", type := .int, accessFlags := 24, slot := 3, constantValue := 0 }, { name := "DEFAULT_CONCURRENCY_LEVEL", type := .int, accessFlags := 26, slot := 4, constantValue := 0 }, { name := "LOAD_FACTOR", type := .float, accessFlags := 26, slot := 5, constantValue := 0 }, { name := "TREEIFY_THRESHOLD", type := .int, accessFlags := 24, slot := 6, constantValue := 0 }, { name := "UNTREEIFY_THRESHOLD", type := .int, accessFlags := 24, slot := 7, constantValue := 0 }, { name := "MIN_TREEIFY_CAPACITY", type := .int, accessFlags := 24, slot := 8, constantValue := 0 }, { name := "MIN_TRANSFER_STRIDE", type := .int, accessFlags := 26, slot := 9, constantValue := 0 }, { name := "RESIZE_STAMP_BITS", type := .int, accessFlags := 26, slot := 10, constantValue := 0 }, { name := "MAX_RESIZERS", type := .int, accessFlags := 26, slot := 11, constantValue := 0 }, { name := "RESIZE_STAMP_SHIFT", type := .int, accessFlags := 26, slot := 12, constantValue := 0 }, { name := "MOVED", type := .int, accessFlags := 24, slot := 13, constantValue := 0 }, { name := "TREEBIN", type := .int, accessFlags := 24, slot := 14, constantValue := 0 }, { name := "RESERVED", type := .int, accessFlags := 24, slot := 15, constantValue := 0 }, { name := "HASH_BITS", type := .int, accessFlags := 24, slot := 16, constantValue := 0 }, { name := "NCPU", type := .int, accessFlags := 24, slot := 17, constantValue := 0 }, { name := "serialPersistentFields", type := (.array (.object "java/io/ObjectStreamField")), accessFlags := 26, slot := 18, constantValue := 0 }, { name := "table", type := (.array (.object "java/util/concurrent/ConcurrentHashMap$Node")), accessFlags := 192, slot := 2, constantValue := 0 }, { name := "nextTable", type := (.array (.object "java/util/concurrent/ConcurrentHashMap$Node")), accessFlags := 194, slot := 3, constantValue := 0 }, { name := "baseCount", type := .long, accessFlags := 194, slot := 4, constantValue := 0 }, { name := "sizeCtl", type := .int, accessFlags := 194, slot := 5, constantValue := 0 }, { name := "transferIndex", type := .int, accessFlags := 194, slot := 6, constantValue := 0 }, { name := "cellsBusy", type := .int, accessFlags := 194, slot := 7, constantValue := 0 }, { name := "counterCells", type := (.array (.object "java/util/concurrent/ConcurrentHashMap$CounterCell")), accessFlags := 194, slot := 8, constantValue := 0 }, { name := "keySet", type := (.object "java/util/concurrent/ConcurrentHashMap$KeySetView"), accessFlags := 130, slot := 9, constantValue := 0 }, { name := "values", type := (.object "java/util/concurrent/ConcurrentHashMap$ValuesView"), accessFlags := 130, slot := 10, constantValue := 0 }, { name := "entrySet", type := (.object "java/util/concurrent/ConcurrentHashMap$EntrySetView"), accessFlags := 130, slot := 11, constantValue := 0 }, { name := "U", type := (.object "jdk/internal/misc/Unsafe"), accessFlags := 26, slot := 19, constantValue := 0 }, { name := "SIZECTL", type := .long, accessFlags := 26, slot := 20, constantValue := 0 }, { name := "TRANSFERINDEX", type := .long, accessFlags := 26, slot := 21, constantValue := 0 }, { name := "BASECOUNT", type := .long, accessFlags := 26, slot := 22, constantValue := 0 }, { name := "CELLSBUSY", type := .long, accessFlags := 26, slot := 23, constantValue := 0 }, { name := "CELLVALUE", type := .long, accessFlags := 26, slot := 24, constantValue := 0 }, { name := "ABASE", type := .int, accessFlags := 26, slot := 25, constantValue := 0 }, { name := "ASHIFT", type := .int, accessFlags := 26, slot := 26, constantValue := 0 }]
  methods := #[k17m0]
  instanceTypes := #[(.object "java/util/Set"), (.object "java/util/Collection"), (.array (.object "java/util/concurrent/ConcurrentHashMap$Node")), (.array (.object "java/util/concurrent/ConcurrentHashMap$Node")), .long, .int, .int, .int, (.array (.object "java/util/concurrent/ConcurrentHashMap$CounterCell")), (.object "java/util/concurrent/ConcurrentHashMap$KeySetView"), (.object "java/util/concurrent/ConcurrentHashMap$ValuesView"), (.object "java/util/concurrent/ConcurrentHashMap$EntrySetView")]
  staticTypes := #[.long, .int, .int, .int, .int, .float, .int, .int, .int, .int, .int, .int, .int, .int, .int, .int, .int, .int, (.array (.object "java/io/ObjectStreamField")), (.object "jdk/internal/misc/Unsafe"), .long, .long, .long, .long, .long, .int, .int]
  resolved := Array.replicate 1210 none
  statics := none }

def pool18 : Array CpInfo := pool [(1, .methodref 2 3), (0, .class_ 4), (0, .nameAndType 5 6), (0, u "java/lang/Object"), (0, u "<init>"), (0, u "()V"), (0, .fieldref 8 9), (0, .class_ 10), (0, .nameAndType 11 12), (0, u "com/example/changeset/changeset/check/State"), (0, u "values"), (0, u "[Lcom/example/changeset/changeset/value/Value;"), (0, .methodref 14 15), (0, .class_ 16), (0, .nameAndType 17 18), (0, u "java/util/Arrays"), (0, u "hashCode"), (0, u "([Ljava/lang/Object;)I"), (0, .fieldref 8 20), (0, .nameAndType 21 22), (0, u "hash"), (0, u "I"), (4, u "([Lcom/example/changeset/changeset/value/Value;)V")] 10

def k18c0 : Code := { maxStack := 2, maxLocals := 2, code := prog_38_method_1_code, exceptionTable := #[], attributes := #[] }
def k18m0 : Method := { name := "<init>", desc := "([Lcom/example/changeset/changeset/value/Value;)V", sig := { parameters := [(.array (.object "com/example/changeset/changeset/value/Value"))], returnType := none }, accessFlags := 1, code := some k18c0 }
/-- com/example/changeset/changeset/check/State -/
def k18 : Class := { plain "com/example/changeset/changeset/check/State" (some 0) with
  accessFlags := 33
  interfaces := #[]
  cf := some (fileOf pool18 8 #[] #[{ accessFlags := 1, nameIndex := 5, descriptorIndex := 27, attributes := #[] }] 33 2 #[] #[{ accessFlags := 18, nameIndex := 11, descriptorIndex := 12, attributes := #[] }, { accessFlags := 18, nameIndex := 21, descriptorIndex := 22, attributes := #[] }])
  fields := #[{ name := "values", type := (.array (.object "com/example/changeset/changeset/value/Value")), accessFlags := 18, slot := 0, constantValue := 0 }, { name := "hash", type := .int, accessFlags := 18, slot := 1, constantValue := 0 }]
  methods := #[k18m0]
  instanceTypes := #[(.array (.object "com/example/changeset/changeset/value/Value")), .int]
  staticTypes := #[]
  resolved := Array.replicate 38 none
  statics := none }

def pool19 : Array CpInfo := pool [(2, .class_ 4), (1, u "java/lang/Object"), (0, u "<init>"), (0, u "()V"), (7, .class_ 16), (1, u "java/util/Arrays"), (57, .class_ 76), (1, u "java/util/Arrays$NaturalOrder"), (36, .class_ 115), (1, u "java/util/Arrays$LegacyMergeSort"), (1, u "Z"), (257, .class_ 376), (0, u "java/util/Arrays$ArrayList"), (8, u "hashCode"), (3, u "([Ljava/lang/Object;)I"), (55, u "$assertionsDisabled"), (269, u "MIN_ARRAY_SORT_GRAN"), (0, u "I"), (2, u "INSERTIONSORT_THRESHOLD"), (255, .class_ 976), (0, u "java/util/Arrays$ArrayItr")] 52

def k19m0 : Method := { name := "<init>", desc := "()V", sig := { parameters := [], returnType := none }, accessFlags := 2, code := none }
def k19c1 : Code := { maxStack := 2, maxLocals := 6, code := jdk_65_method_157_code, exceptionTable := #[], attributes := #[] }
def k19m1 : Method := { name := "hashCode", desc := "([Ljava/lang/Object;)I", sig := { parameters := [(.array (.object "java/lang/Object"))], returnType := some .int }, accessFlags := 9, code := some k19c1 }
/-- java/util/Arrays -/
def k19 : Class := { plain "java/util/Arrays" (some 0) with
  accessFlags := 49
  interfaces := #[]
  cf := some (fileOf pool19 14 #[.nestMembers #[975, 375, 113, 74]] #[{ accessFlags := 2, nameIndex := 5, descriptorIndex := 6, attributes := #[] }, { accessFlags := 9, nameIndex := 385, descriptorIndex := 389, attributes := #[] }] 49 2 #[] #[{ accessFlags := 26, nameIndex := 715, descriptorIndex := 716, attributes := #[] }, { accessFlags := 26, nameIndex := 719, descriptorIndex := 716, attributes := #[] }, { accessFlags := 4120, nameIndex := 445, descriptorIndex := 117, attributes := #[] }])
  fields := #[{ name := "MIN_ARRAY_SORT_GRAN", type := .int, accessFlags := 26, slot := 0, constantValue := 0 }, { name := "INSERTIONSORT_THRESHOLD", type := .int, accessFlags := 26, slot := 1, constantValue := 0 }, { name := "$assertionsDisabled", type := .boolean, accessFlags := 4120, slot := 2, constantValue := 0 }]
  methods := #[k19m0, k19m1]
  instanceTypes := #[]
  staticTypes := #[.int, .int, .boolean]
  resolved := Array.replicate 1029 none
  statics := none }

def pool20 : Array CpInfo := pool [(1, .methodref 2 3), (0, .class_ 4), (0, .nameAndType 5 6), (0, u "java/lang/Object"), (0, u "<init>"), (0, u "()V"), (0, .fieldref 8 9), (0, .class_ 10), (0, .nameAndType 11 12), (0, u "com/example/changeset/changeset/check/FoundState"), (0, u "number"), (0, u "I"), (0, .fieldref 8 14), (0, .nameAndType 15 16), (0, u "state"), (0, u "Lcom/example/changeset/changeset/check/State;"), (2, u "fault"), (0, u "Lcom/example/changeset/changeset/check/Fault;"), (26, u "(Lcom/example/changeset/changeset/check/State;)V"), (2, u "()Lcom/example/changeset/changeset/check/State;"), (0, u "()I"), (0, u "(I)V")] 8

def k20c0 : Code := { maxStack := 2, maxLocals := 2, code := prog_19_method_1_code, exceptionTable := #[], attributes := #[] }
def k20m0 : Method := { name := "<init>", desc := "(Lcom/example/changeset/changeset/check/State;)V", sig := { parameters := [(.object "com/example/changeset/changeset/check/State")], returnType := none }, accessFlags := 0, code := some k20c0 }
def k20c1 : Code := { maxStack := 1, maxLocals := 1, code := prog_19_method_2_code, exceptionTable := #[], attributes := #[] }
def k20m1 : Method := { name := "state", desc := "()Lcom/example/changeset/changeset/check/State;", sig := { parameters := [], returnType := some (.object "com/example/changeset/changeset/check/State") }, accessFlags := 0, code := some k20c1 }
def k20c2 : Code := { maxStack := 1, maxLocals := 1, code := prog_19_method_3_code, exceptionTable := #[], attributes := #[] }
def k20m2 : Method := { name := "number", desc := "()I", sig := { parameters := [], returnType := some .int }, accessFlags := 0, code := some k20c2 }
def k20c3 : Code := { maxStack := 2, maxLocals := 2, code := prog_19_method_4_code, exceptionTable := #[], attributes := #[] }
def k20m3 : Method := { name := "number", desc := "(I)V", sig := { parameters := [.int], returnType := none }, accessFlags := 0, code := some k20c3 }
/-- com/example/changeset/changeset/check/FoundState -/
def k20 : Class := { plain "com/example/changeset/changeset/check/FoundState" (some 0) with
  accessFlags := 32
  interfaces := #[]
  cf := some (fileOf pool20 8 #[] #[{ accessFlags := 0, nameIndex := 5, descriptorIndex := 47, attributes := #[] }, { accessFlags := 0, nameIndex := 15, descriptorIndex := 50, attributes := #[] }, { accessFlags := 0, nameIndex := 11, descriptorIndex := 51, attributes := #[] }, { accessFlags := 0, nameIndex := 11, descriptorIndex := 52, attributes := #[] }] 32 2 #[] #[{ accessFlags := 18, nameIndex := 15, descriptorIndex := 16, attributes := #[] }, { accessFlags := 2, nameIndex := 11, descriptorIndex := 12, attributes := #[] }, { accessFlags := 66, nameIndex := 19, descriptorIndex := 20, attributes := #[] }])
  fields := #[{ name := "state", type := (.object "com/example/changeset/changeset/check/State"), accessFlags := 18, slot := 0, constantValue := 0 }, { name := "number", type := .int, accessFlags := 2, slot := 1, constantValue := 0 }, { name := "fault", type := (.object "com/example/changeset/changeset/check/Fault"), accessFlags := 66, slot := 2, constantValue := 0 }]
  methods := #[k20m0, k20m1, k20m2, k20m3]
  instanceTypes := #[(.object "com/example/changeset/changeset/check/State"), .int, (.object "com/example/changeset/changeset/check/Fault")]
  staticTypes := #[]
  resolved := Array.replicate 61 none
  statics := none }

/-- the primitive byte -/
def k21 : Class := { plain "byte" none with kind := .primitive 'B', accessFlags := 0x411 }
/-- [B -/
def k22 : Class := { plain "[B" (some 0) with kind := .array 21 .byte, interfaces := #[11, 12], accessFlags := 1041 }

/-- the primitive int -/
def k23 : Class := { plain "int" none with kind := .primitive 'I', accessFlags := 0x411 }
/-- [I -/
def k24 : Class := { plain "[I" (some 0) with kind := .array 23 .int, interfaces := #[11, 12], accessFlags := 1041 }

/-- [Lcom/example/changeset/changeset/check/FoundState; -/
def k25 : Class := { plain "[Lcom/example/changeset/changeset/check/FoundState;" (some 0) with kind := .array 20 (.object "com/example/changeset/changeset/check/FoundState"), interfaces := #[11, 12], accessFlags := 1041 }

/-- [Ljava/lang/Object; -/
def k26 : Class := { plain "[Ljava/lang/Object;" (some 0) with kind := .array 0 (.object "java/lang/Object"), interfaces := #[11, 12], accessFlags := 1041 }

def heap : Heap := #[{ cls := 13, slots := #[.long 0, .int 0, .ref 1, .ref 2], vm := .statics 13 },
  { cls := 26, slots := #[], vm := .none },
  { cls := 26, slots := #[], vm := .none }]
def classes : Array Class := #[k0, k1, k2, k3, k4, k5, k6, k7, k8, k9, k10, k11, k12, k13, k14, k15, k16, k17, k18, k19, k20, k21, k22, k23, k24, k25, k26]
def interned : List (Array UInt16 × Addr) := []
def slotsUsed : Nat := 4
def theMethod : MethodId := ⟨1, 4⟩
def args0 : Array Value := #[.int 3, .int 300, .int 600, .int 1]
def aboutOver (below : List Frame) : State where
  vm := { classes := classes, interned := interned.toArray }
  heap := heap
  slotsUsed := slotsUsed
  threads := #[{ frames := .invoking theMethod args0 :: below }]
def below0 : List Frame := [.native { method := ⟨0, 0⟩, args := #[] }]
def about1 : State := aboutOver below0
def p0 : Program := .bare "" "" ""
def e0 : Env := launch0.env 0 0 0
theorem w_frames : about1.frames = Frame.invoking theMethod args0 :: below0 := rfl
set_option maxRecDepth 65536 in
theorem w_args : argsFit about1.vm theMethod args0 = true := by decide +kernel
set_option maxRecDepth 65536 in
theorem w_heap : heapFits about1 = true := by decide +kernel
set_option maxRecDepth 65536 in
theorem w_runnable : about1.curStatus? = some .runnable := by decide +kernel
set_option maxRecDepth 65536 in
theorem w_alone : about1.alone = true := by decide +kernel
set_option maxRecDepth 65536 in
theorem w_named : about1.methodNamed? x = some theMethod := by decide +kernel
set_option maxRecDepth 65536 in
theorem w_hears : about1.hears theMethod below0 = true := by decide +kernel
set_option maxRecDepth 65536 in
theorem w_ripe : about1.ripe theMethod args0 below0 = true := by decide +kernel
theorem w_running : about1.status = .running := rfl
set_option maxRecDepth 65536 in
theorem w_room : about1.hasRoom e0.platform room_1 = true :=
  launch0.hasRoom_least _ room_1 (by decide +kernel) (by decide +kernel) (by decide +kernel) (by decide +kernel) (by decide +kernel) (by decide +kernel)
theorem allAtoms_all (ts : List Jvm.Cond) (a : Array Jvm.Value) (st : Jvm.State) : (allAtoms ts).before a st = ts.all (fun c => c.before a st) := by
  induction ts with
  | nil => rfl
  | cons c t ih =>
    show (Jvm.Cond.and c (allAtoms t)).before a st = _
    rw [Jvm.Cond.before_and, ih, List.all_cons]
def words1 : List Jvm.Cond := Jvm.Cond.code x code maxLocals ret :: tables_1
/-- a 'code' word, met by the world's own term for the bytes: nothing is compared byte by byte -/
theorem code_word {y : MethodName} {bytes : ByteArray} {mx : Nat} {rt : Option FieldType} {a : Array Value} {s : State} {m : MethodId} {meth : Method} {c : Code} (h1 : s.methodNamed? y = some m) (h2 : s.vm.method? m = some meth) (h3 : meth.code = some c) (h4 : c.code = bytes)
    (h5 : (c.maxLocals == mx && c.exceptionTable.isEmpty && decide (c.maxStack ≤ mostOperands) && decide (meth.sig.returnType = rt) && !meth.locks && decide (parseMethodDescriptor y.desc = some meth.sig)) = true) : (Jvm.Cond.code y bytes mx rt).before a s = true := by
  simp only [Bool.and_eq_true, beq_iff_eq, Bool.not_eq_true', decide_eq_true_eq] at h5
  obtain ⟨⟨⟨⟨⟨g1, g2⟩, g3⟩, g4⟩, g5⟩, g6⟩ := h5
  simp [Cond.before, Cond.holds, Cond.value, h1, h2, h3, h4, g1, g2, g3, g4, g5, g6]
def isCode : Jvm.Cond → Bool
  | .code _ _ _ _ => true
  | _ => false
theorem all_split {L : List Jvm.Cond} {P : Jvm.Cond → Bool} (h1 : L.all (fun c => isCode c || P c) = true) (h2 : ∀ c ∈ L.filter isCode, P c = true) : L.all P = true := by
  refine List.all_eq_true.mpr fun c hc => ?_
  have h := List.all_eq_true.mp h1 c hc
  rcases Bool.eq_false_or_eq_true (isCode c) with hi | hi
  · exact h2 c (List.mem_filter.mpr ⟨hc, hi⟩)
  · simpa [hi] using h
set_option maxRecDepth 65536 in
theorem w_c0 : (Jvm.Cond.code x code maxLocals ret).before args0 about1 = true := code_word (m := ⟨1, 4⟩) (meth := k1m4) (c := k1c4) (by decide +kernel) rfl rfl rfl (by decide +kernel)
set_option maxRecDepth 65536 in
theorem w_c1 : (Jvm.Cond.code ({ cls := "com/example/changeset/changeset/check/StateGraphEdgesEndPinLaw", name := "key", desc := "(I)I" } : Jvm.MethodName) method_2_code (1 : Nat) (Option.some Jvm.ClassFile.FieldType.int)).before args0 about1 = true := code_word (m := ⟨1, 1⟩) (meth := k1m1) (c := k1c1) (by decide +kernel) rfl rfl rfl (by decide +kernel)
set_option maxRecDepth 65536 in
theorem w_c2 : (Jvm.Cond.code ({ cls := "java/lang/Math", name := "min", desc := "(II)I" } : Jvm.MethodName) jdk_29_method_69_code (2 : Nat) (Option.some Jvm.ClassFile.FieldType.int)).before args0 about1 = true := code_word (m := ⟨2, 2⟩) (meth := k2m2) (c := k2c2) (by decide +kernel) rfl rfl rfl (by decide +kernel)
set_option maxRecDepth 65536 in
theorem w_c3 : (Jvm.Cond.code ({ cls := "java/lang/Math", name := "max", desc := "(II)I" } : Jvm.MethodName) jdk_29_method_65_code (2 : Nat) (Option.some Jvm.ClassFile.FieldType.int)).before args0 about1 = true := code_word (m := ⟨2, 1⟩) (meth := k2m1) (c := k2c1) (by decide +kernel) rfl rfl rfl (by decide +kernel)
set_option maxRecDepth 65536 in
theorem w_c4 : (Jvm.Cond.code ({ cls := "com/example/changeset/changeset/check/StateGraphEdgesEndPinLaw", name := "from", desc := "(I)I" } : Jvm.MethodName) method_3_code (1 : Nat) (Option.some Jvm.ClassFile.FieldType.int)).before args0 about1 = true := code_word (m := ⟨1, 2⟩) (meth := k1m2) (c := k1c2) (by decide +kernel) rfl rfl rfl (by decide +kernel)
set_option maxRecDepth 65536 in
theorem w_c5 : (Jvm.Cond.code ({ cls := "com/example/changeset/changeset/check/StateGraphEdgesEndPinLaw", name := "to", desc := "(I)I" } : Jvm.MethodName) method_4_code (1 : Nat) (Option.some Jvm.ClassFile.FieldType.int)).before args0 about1 = true := code_word (m := ⟨1, 3⟩) (meth := k1m3) (c := k1c3) (by decide +kernel) rfl rfl rfl (by decide +kernel)
set_option maxRecDepth 65536 in
theorem w_c6 : (Jvm.Cond.code ({ cls := "java/util/ArrayList", name := "<init>", desc := "()V" } : Jvm.MethodName) jdk_38_method_2_code (1 : Nat) (Option.none : Option Jvm.ClassFile.FieldType)).before args0 about1 = true := code_word (m := ⟨13, 0⟩) (meth := k13m0) (c := k13c0) (by decide +kernel) rfl rfl rfl (by decide +kernel)
set_option maxRecDepth 65536 in
theorem w_c7 : (Jvm.Cond.code ({ cls := "java/util/AbstractList", name := "<init>", desc := "()V" } : Jvm.MethodName) jdk_39_method_1_code (1 : Nat) (Option.none : Option Jvm.ClassFile.FieldType)).before args0 about1 = true := code_word (m := ⟨9, 0⟩) (meth := k9m0) (c := k9c0) (by decide +kernel) rfl rfl rfl (by decide +kernel)
set_option maxRecDepth 65536 in
theorem w_c8 : (Jvm.Cond.code ({ cls := "java/util/AbstractCollection", name := "<init>", desc := "()V" } : Jvm.MethodName) jdk_22_method_1_code (1 : Nat) (Option.none : Option Jvm.ClassFile.FieldType)).before args0 about1 = true := code_word (m := ⟨6, 0⟩) (meth := k6m0) (c := k6c0) (by decide +kernel) rfl rfl rfl (by decide +kernel)
set_option maxRecDepth 65536 in
theorem w_c9 : (Jvm.Cond.code ({ cls := "java/lang/Object", name := "<init>", desc := "()V" } : Jvm.MethodName) object_method_1_code (1 : Nat) (Option.none : Option Jvm.ClassFile.FieldType)).before args0 about1 = true := code_word (m := ⟨0, 0⟩) (meth := k0m0) (c := k0c0) (by decide +kernel) rfl rfl rfl (by decide +kernel)
set_option maxRecDepth 65536 in
theorem w_c10 : (Jvm.Cond.code ({ cls := "com/example/changeset/changeset/check/StateGraph", name := "<init>", desc := "(Ljava/util/List;Z)V" } : Jvm.MethodName) prog_39_method_1_code (4 : Nat) (Option.none : Option Jvm.ClassFile.FieldType)).before args0 about1 = true := code_word (m := ⟨3, 0⟩) (meth := k3m0) (c := k3c0) (by decide +kernel) rfl rfl rfl (by decide +kernel)
set_option maxRecDepth 65536 in
theorem w_c11 : (Jvm.Cond.code ({ cls := "java/util/concurrent/ConcurrentHashMap", name := "<init>", desc := "()V" } : Jvm.MethodName) jdk_2776_method_8_code (1 : Nat) (Option.none : Option Jvm.ClassFile.FieldType)).before args0 about1 = true := code_word (m := ⟨17, 0⟩) (meth := k17m0) (c := k17c0) (by decide +kernel) rfl rfl rfl (by decide +kernel)
set_option maxRecDepth 65536 in
theorem w_c12 : (Jvm.Cond.code ({ cls := "java/util/AbstractMap", name := "<init>", desc := "()V" } : Jvm.MethodName) jdk_71_method_1_code (1 : Nat) (Option.none : Option Jvm.ClassFile.FieldType)).before args0 about1 = true := code_word (m := ⟨15, 0⟩) (meth := k15m0) (c := k15c0) (by decide +kernel) rfl rfl rfl (by decide +kernel)
set_option maxRecDepth 65536 in
theorem w_c13 : (Jvm.Cond.code ({ cls := "com/example/changeset/changeset/check/State", name := "<init>", desc := "([Lcom/example/changeset/changeset/value/Value;)V" } : Jvm.MethodName) prog_38_method_1_code (2 : Nat) (Option.none : Option Jvm.ClassFile.FieldType)).before args0 about1 = true := code_word (m := ⟨18, 0⟩) (meth := k18m0) (c := k18c0) (by decide +kernel) rfl rfl rfl (by decide +kernel)
set_option maxRecDepth 65536 in
theorem w_c14 : (Jvm.Cond.code ({ cls := "java/util/Arrays", name := "hashCode", desc := "([Ljava/lang/Object;)I" } : Jvm.MethodName) jdk_65_method_157_code (6 : Nat) (Option.some Jvm.ClassFile.FieldType.int)).before args0 about1 = true := code_word (m := ⟨19, 1⟩) (meth := k19m1) (c := k19c1) (by decide +kernel) rfl rfl rfl (by decide +kernel)
set_option maxRecDepth 65536 in
theorem w_c15 : (Jvm.Cond.code ({ cls := "com/example/changeset/changeset/check/FoundState", name := "<init>", desc := "(Lcom/example/changeset/changeset/check/State;)V" } : Jvm.MethodName) prog_19_method_1_code (2 : Nat) (Option.none : Option Jvm.ClassFile.FieldType)).before args0 about1 = true := code_word (m := ⟨20, 0⟩) (meth := k20m0) (c := k20c0) (by decide +kernel) rfl rfl rfl (by decide +kernel)
set_option maxRecDepth 65536 in
theorem w_c16 : (Jvm.Cond.code ({ cls := "com/example/changeset/changeset/check/StateGraph", name := "add", desc := "(Lcom/example/changeset/changeset/check/FoundState;II)Z" } : Jvm.MethodName) prog_39_method_3_code (6 : Nat) (Option.some Jvm.ClassFile.FieldType.boolean)).before args0 about1 = true := code_word (m := ⟨3, 1⟩) (meth := k3m1) (c := k3c1) (by decide +kernel) rfl rfl rfl (by decide +kernel)
set_option maxRecDepth 65536 in
theorem w_c17 : (Jvm.Cond.code ({ cls := "com/example/changeset/changeset/check/FoundState", name := "number", desc := "()I" } : Jvm.MethodName) prog_19_method_3_code (1 : Nat) (Option.some Jvm.ClassFile.FieldType.int)).before args0 about1 = true := code_word (m := ⟨20, 2⟩) (meth := k20m2) (c := k20c2) (by decide +kernel) rfl rfl rfl (by decide +kernel)
set_option maxRecDepth 65536 in
theorem w_c18 : (Jvm.Cond.code ({ cls := "java/util/ArrayList", name := "size", desc := "()I" } : Jvm.MethodName) jdk_38_method_8_code (1 : Nat) (Option.some Jvm.ClassFile.FieldType.int)).before args0 about1 = true := code_word (m := ⟨13, 3⟩) (meth := k13m3) (c := k13c3) (by decide +kernel) rfl rfl rfl (by decide +kernel)
set_option maxRecDepth 65536 in
theorem w_c19 : (Jvm.Cond.code ({ cls := "com/example/changeset/changeset/check/FoundState", name := "state", desc := "()Lcom/example/changeset/changeset/check/State;" } : Jvm.MethodName) prog_19_method_2_code (1 : Nat) (Option.some (Jvm.ClassFile.FieldType.object "com/example/changeset/changeset/check/State"))).before args0 about1 = true := code_word (m := ⟨20, 1⟩) (meth := k20m1) (c := k20c1) (by decide +kernel) rfl rfl rfl (by decide +kernel)
set_option maxRecDepth 65536 in
theorem w_c20 : (Jvm.Cond.code ({ cls := "java/util/ArrayList", name := "add", desc := "(Ljava/lang/Object;)Z" } : Jvm.MethodName) jdk_38_method_25_code (2 : Nat) (Option.some Jvm.ClassFile.FieldType.boolean)).before args0 about1 = true := code_word (m := ⟨13, 5⟩) (meth := k13m5) (c := k13c5) (by decide +kernel) rfl rfl rfl (by decide +kernel)
set_option maxRecDepth 65536 in
theorem w_c21 : (Jvm.Cond.code ({ cls := "java/util/ArrayList", name := "add", desc := "(Ljava/lang/Object;[Ljava/lang/Object;I)V" } : Jvm.MethodName) jdk_38_method_24_code (4 : Nat) (Option.none : Option Jvm.ClassFile.FieldType)).before args0 about1 = true := code_word (m := ⟨13, 4⟩) (meth := k13m4) (c := k13c4) (by decide +kernel) rfl rfl rfl (by decide +kernel)
set_option maxRecDepth 65536 in
theorem w_c22 : (Jvm.Cond.code ({ cls := "java/util/ArrayList", name := "grow", desc := "()[Ljava/lang/Object;" } : Jvm.MethodName) jdk_38_method_7_code (1 : Nat) (Option.some (Jvm.ClassFile.FieldType.array (Jvm.ClassFile.FieldType.object "java/lang/Object")))).before args0 about1 = true := code_word (m := ⟨13, 2⟩) (meth := k13m2) (c := k13c2) (by decide +kernel) rfl rfl rfl (by decide +kernel)
set_option maxRecDepth 65536 in
theorem w_c23 : (Jvm.Cond.code ({ cls := "java/util/ArrayList", name := "grow", desc := "(I)[Ljava/lang/Object;" } : Jvm.MethodName) jdk_38_method_6_code (4 : Nat) (Option.some (Jvm.ClassFile.FieldType.array (Jvm.ClassFile.FieldType.object "java/lang/Object")))).before args0 about1 = true := code_word (m := ⟨13, 1⟩) (meth := k13m1) (c := k13c1) (by decide +kernel) rfl rfl rfl (by decide +kernel)
set_option maxRecDepth 65536 in
theorem w_c24 : (Jvm.Cond.code ({ cls := "com/example/changeset/changeset/check/FoundState", name := "number", desc := "(I)V" } : Jvm.MethodName) prog_19_method_4_code (2 : Nat) (Option.none : Option Jvm.ClassFile.FieldType)).before args0 about1 = true := code_word (m := ⟨20, 3⟩) (meth := k20m3) (c := k20c3) (by decide +kernel) rfl rfl rfl (by decide +kernel)
set_option maxRecDepth 65536 in
theorem w_c25 : (Jvm.Cond.code ({ cls := "com/example/changeset/changeset/check/StateGraph", name := "addEdge", desc := "(III)V" } : Jvm.MethodName) prog_39_method_4_code (4 : Nat) (Option.none : Option Jvm.ClassFile.FieldType)).before args0 about1 = true := code_word (m := ⟨3, 2⟩) (meth := k3m2) (c := k3c2) (by decide +kernel) rfl rfl rfl (by decide +kernel)
set_option maxRecDepth 65536 in
theorem w_c26 : (Jvm.Cond.code ({ cls := "com/example/changeset/changeset/check/StateGraph", name := "edgesEnd", desc := "(I)I" } : Jvm.MethodName) prog_39_method_8_code (2 : Nat) (Option.some Jvm.ClassFile.FieldType.int)).before args0 about1 = true := code_word (m := ⟨3, 3⟩) (meth := k3m3) (c := k3c3) (by decide +kernel) rfl rfl rfl (by decide +kernel)
def codes1 : List Jvm.Cond := [Jvm.Cond.code x code maxLocals ret, Jvm.Cond.code ({ cls := "com/example/changeset/changeset/check/StateGraphEdgesEndPinLaw", name := "key", desc := "(I)I" } : Jvm.MethodName) method_2_code (1 : Nat) (Option.some Jvm.ClassFile.FieldType.int), Jvm.Cond.code ({ cls := "java/lang/Math", name := "min", desc := "(II)I" } : Jvm.MethodName) jdk_29_method_69_code (2 : Nat) (Option.some Jvm.ClassFile.FieldType.int), Jvm.Cond.code ({ cls := "java/lang/Math", name := "max", desc := "(II)I" } : Jvm.MethodName) jdk_29_method_65_code (2 : Nat) (Option.some Jvm.ClassFile.FieldType.int), Jvm.Cond.code ({ cls := "com/example/changeset/changeset/check/StateGraphEdgesEndPinLaw", name := "from", desc := "(I)I" } : Jvm.MethodName) method_3_code (1 : Nat) (Option.some Jvm.ClassFile.FieldType.int), Jvm.Cond.code ({ cls := "com/example/changeset/changeset/check/StateGraphEdgesEndPinLaw", name := "to", desc := "(I)I" } : Jvm.MethodName) method_4_code (1 : Nat) (Option.some Jvm.ClassFile.FieldType.int), Jvm.Cond.code ({ cls := "java/util/ArrayList", name := "<init>", desc := "()V" } : Jvm.MethodName) jdk_38_method_2_code (1 : Nat) (Option.none : Option Jvm.ClassFile.FieldType), Jvm.Cond.code ({ cls := "java/util/AbstractList", name := "<init>", desc := "()V" } : Jvm.MethodName) jdk_39_method_1_code (1 : Nat) (Option.none : Option Jvm.ClassFile.FieldType), Jvm.Cond.code ({ cls := "java/util/AbstractCollection", name := "<init>", desc := "()V" } : Jvm.MethodName) jdk_22_method_1_code (1 : Nat) (Option.none : Option Jvm.ClassFile.FieldType), Jvm.Cond.code ({ cls := "java/lang/Object", name := "<init>", desc := "()V" } : Jvm.MethodName) object_method_1_code (1 : Nat) (Option.none : Option Jvm.ClassFile.FieldType), Jvm.Cond.code ({ cls := "com/example/changeset/changeset/check/StateGraph", name := "<init>", desc := "(Ljava/util/List;Z)V" } : Jvm.MethodName) prog_39_method_1_code (4 : Nat) (Option.none : Option Jvm.ClassFile.FieldType), Jvm.Cond.code ({ cls := "java/util/concurrent/ConcurrentHashMap", name := "<init>", desc := "()V" } : Jvm.MethodName) jdk_2776_method_8_code (1 : Nat) (Option.none : Option Jvm.ClassFile.FieldType), Jvm.Cond.code ({ cls := "java/util/AbstractMap", name := "<init>", desc := "()V" } : Jvm.MethodName) jdk_71_method_1_code (1 : Nat) (Option.none : Option Jvm.ClassFile.FieldType), Jvm.Cond.code ({ cls := "com/example/changeset/changeset/check/State", name := "<init>", desc := "([Lcom/example/changeset/changeset/value/Value;)V" } : Jvm.MethodName) prog_38_method_1_code (2 : Nat) (Option.none : Option Jvm.ClassFile.FieldType), Jvm.Cond.code ({ cls := "java/util/Arrays", name := "hashCode", desc := "([Ljava/lang/Object;)I" } : Jvm.MethodName) jdk_65_method_157_code (6 : Nat) (Option.some Jvm.ClassFile.FieldType.int), Jvm.Cond.code ({ cls := "com/example/changeset/changeset/check/FoundState", name := "<init>", desc := "(Lcom/example/changeset/changeset/check/State;)V" } : Jvm.MethodName) prog_19_method_1_code (2 : Nat) (Option.none : Option Jvm.ClassFile.FieldType), Jvm.Cond.code ({ cls := "com/example/changeset/changeset/check/StateGraph", name := "add", desc := "(Lcom/example/changeset/changeset/check/FoundState;II)Z" } : Jvm.MethodName) prog_39_method_3_code (6 : Nat) (Option.some Jvm.ClassFile.FieldType.boolean), Jvm.Cond.code ({ cls := "com/example/changeset/changeset/check/FoundState", name := "number", desc := "()I" } : Jvm.MethodName) prog_19_method_3_code (1 : Nat) (Option.some Jvm.ClassFile.FieldType.int), Jvm.Cond.code ({ cls := "java/util/ArrayList", name := "size", desc := "()I" } : Jvm.MethodName) jdk_38_method_8_code (1 : Nat) (Option.some Jvm.ClassFile.FieldType.int), Jvm.Cond.code ({ cls := "com/example/changeset/changeset/check/FoundState", name := "state", desc := "()Lcom/example/changeset/changeset/check/State;" } : Jvm.MethodName) prog_19_method_2_code (1 : Nat) (Option.some (Jvm.ClassFile.FieldType.object "com/example/changeset/changeset/check/State")), Jvm.Cond.code ({ cls := "java/util/ArrayList", name := "add", desc := "(Ljava/lang/Object;)Z" } : Jvm.MethodName) jdk_38_method_25_code (2 : Nat) (Option.some Jvm.ClassFile.FieldType.boolean), Jvm.Cond.code ({ cls := "java/util/ArrayList", name := "add", desc := "(Ljava/lang/Object;[Ljava/lang/Object;I)V" } : Jvm.MethodName) jdk_38_method_24_code (4 : Nat) (Option.none : Option Jvm.ClassFile.FieldType), Jvm.Cond.code ({ cls := "java/util/ArrayList", name := "grow", desc := "()[Ljava/lang/Object;" } : Jvm.MethodName) jdk_38_method_7_code (1 : Nat) (Option.some (Jvm.ClassFile.FieldType.array (Jvm.ClassFile.FieldType.object "java/lang/Object"))), Jvm.Cond.code ({ cls := "java/util/ArrayList", name := "grow", desc := "(I)[Ljava/lang/Object;" } : Jvm.MethodName) jdk_38_method_6_code (4 : Nat) (Option.some (Jvm.ClassFile.FieldType.array (Jvm.ClassFile.FieldType.object "java/lang/Object"))), Jvm.Cond.code ({ cls := "com/example/changeset/changeset/check/FoundState", name := "number", desc := "(I)V" } : Jvm.MethodName) prog_19_method_4_code (2 : Nat) (Option.none : Option Jvm.ClassFile.FieldType), Jvm.Cond.code ({ cls := "com/example/changeset/changeset/check/StateGraph", name := "addEdge", desc := "(III)V" } : Jvm.MethodName) prog_39_method_4_code (4 : Nat) (Option.none : Option Jvm.ClassFile.FieldType), Jvm.Cond.code ({ cls := "com/example/changeset/changeset/check/StateGraph", name := "edgesEnd", desc := "(I)I" } : Jvm.MethodName) prog_39_method_8_code (2 : Nat) (Option.some Jvm.ClassFile.FieldType.int)]
set_option maxRecDepth 65536 in
theorem codes_eq : words1.filter isCode = codes1 := rfl
theorem w_codes : ∀ c ∈ words1.filter isCode, c.before args0 about1 = true := by
  rw [codes_eq]
  intro c hc
  simp only [codes1, List.mem_cons, List.not_mem_nil, or_false] at hc
  rcases hc with rfl | rfl | rfl | rfl | rfl | rfl | rfl | rfl | rfl | rfl | rfl | rfl | rfl | rfl | rfl | rfl | rfl | rfl | rfl | rfl | rfl | rfl | rfl | rfl | rfl | rfl | rfl
  · exact w_c0
  · exact w_c1
  · exact w_c2
  · exact w_c3
  · exact w_c4
  · exact w_c5
  · exact w_c6
  · exact w_c7
  · exact w_c8
  · exact w_c9
  · exact w_c10
  · exact w_c11
  · exact w_c12
  · exact w_c13
  · exact w_c14
  · exact w_c15
  · exact w_c16
  · exact w_c17
  · exact w_c18
  · exact w_c19
  · exact w_c20
  · exact w_c21
  · exact w_c22
  · exact w_c23
  · exact w_c24
  · exact w_c25
  · exact w_c26
set_option maxRecDepth 65536 in
theorem w_t1 : (words1.take 24).all (fun c => isCode c || c.before args0 about1) = true := by decide +kernel
set_option maxRecDepth 65536 in
theorem w_t2 : ((words1.drop 24).take 24).all (fun c => isCode c || c.before args0 about1) = true := by decide +kernel
set_option maxRecDepth 65536 in
theorem w_t3 : (((words1.drop 24).drop 24).take 24).all (fun c => isCode c || c.before args0 about1) = true := by decide +kernel
set_option maxRecDepth 65536 in
theorem w_t4 : ((((words1.drop 24).drop 24).drop 24).take 24).all (fun c => isCode c || c.before args0 about1) = true := by decide +kernel
set_option maxRecDepth 65536 in
theorem w_t5 : (((((words1.drop 24).drop 24).drop 24).drop 24).take 24).all (fun c => isCode c || c.before args0 about1) = true := by decide +kernel
set_option maxRecDepth 65536 in
theorem w_t6 : ((((((words1.drop 24).drop 24).drop 24).drop 24).drop 24).take 24).all (fun c => isCode c || c.before args0 about1) = true := by decide +kernel
set_option maxRecDepth 65536 in
theorem w_t7 : (((((((words1.drop 24).drop 24).drop 24).drop 24).drop 24).drop 24).take 24).all (fun c => isCode c || c.before args0 about1) = true := by decide +kernel
set_option maxRecDepth 65536 in
theorem w_t8 : (((((((words1.drop 24).drop 24).drop 24).drop 24).drop 24).drop 24).drop 24).all (fun c => isCode c || c.before args0 about1) = true := by decide +kernel
theorem w_tables : (allAtoms (Jvm.Cond.code x code maxLocals ret :: tables_1)).before args0 about1 = true := by
  rw [allAtoms_all]
  show words1.all (fun c => c.before args0 about1) = true
  refine all_split ?_ w_codes
  rw [← List.take_append_drop 24 words1, List.all_append, w_t1, ← List.take_append_drop 24 (words1.drop 24), List.all_append, w_t2, ← List.take_append_drop 24 ((words1.drop 24).drop 24), List.all_append, w_t3, ← List.take_append_drop 24 (((words1.drop 24).drop 24).drop 24), List.all_append, w_t4, ← List.take_append_drop 24 ((((words1.drop 24).drop 24).drop 24).drop 24), List.all_append, w_t5, ← List.take_append_drop 24 (((((words1.drop 24).drop 24).drop 24).drop 24).drop 24), List.all_append, w_t6, ← List.take_append_drop 24 ((((((words1.drop 24).drop 24).drop 24).drop 24).drop 24).drop 24), List.all_append, w_t7, w_t8]
  rfl
set_option maxRecDepth 65536 in
theorem w_rest : rest_1_c.before args0 about1 = true := by decide +kernel
set_option maxRecDepth 65536 in
theorem w_case : (Jvm.Cond.and given_1 narrow_1).before args0 about1 = true := by decide +kernel
theorem w_applies : (headSpec (Jvm.Cond.code x code maxLocals ret :: tables_1) room_1).applies x e0.platform about1 = true :=
  (Spec.applies_iff w_frames).mpr ⟨w_running, w_runnable, w_alone, w_named, w_hears, w_ripe, w_room, w_tables⟩
theorem atStart : AtStart classFile x code maxLocals ret World_1 tables_1 room_1 Calls_1 rest_1 Pre_1 launch0 p0 e0 about1 theMethod args0 below0 :=
  ⟨lists_1, trivial, launch0.admits_env _ _ _, launch0.least_env, fairChoices_fair.cas, fairChoices_fair.clock, w_frames, w_args, w_heap, w_applies, trivial, w_rest, w_case⟩
end start1
theorem witness_1 : WitnessClaimed_1 := ⟨start1.p0, start1.e0, start1.about1, start1.theMethod, start1.args0, start1.below0, start1.atStart⟩
end Jvm.Pilot.@@N@@
