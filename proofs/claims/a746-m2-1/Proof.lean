import JvmDerived
import JvmDerived.Pilot.@@N@@Statement
import JvmDerived.Pilot.@@N@@Code
set_option linter.unusedVariables false
set_option linter.unusedSimpArgs false
@@BLOCK:NumsL.lean.txt@@
namespace Jvm.RoadKit
open Sem ClassFile Op Lib Jvm.Stand Jvm.Free Jvm.LawKit
section New
variable {p : Program} {l : Launch} {e : Env} {R : Room} {s : State} {m : MethodId} {args : Array Value} {below : List Frame} {meth : Method} {c : Code} {T : State} {locs : List Loc} {cells slots : Nat}
theorem retI (X : Stand p l e R s m args below meth c T locs cells slots) (hx : p.tables.exec = Jvm.exec) {pc : Nat} {Ls : Array Slot} {z : Int32} {rest : List Value} (hret : meth.sig.returnType = some .int) (hd : decode c.code pc = .ok (.ireturn, 1)) {fs : List Frame}
    (hl : ∀ (f : JFrame) (acts : List Action), f.method = m → f.locked = none → f.entered = [] → (doReturn e (T.setTop f) acts (some (.int z))).1 = T.setFrames fs) : Steps p.tables e below (T.setTop (mkF m pc Ls (.int z :: rest))) (T.setFrames fs) := by
  have hm' : T.vm.method? m = some meth := X.method'
  have hn : narrow .int (.int z) = .int z := rfl
  show Steps p.tables e below (T.setTop { method := m, pc := pc, locals := Ls, stack := _ :: rest, locked := none }) _
  jvm_step X.here [X.here.top, hx, hd, hm', hret, hn]
  first | (intro acts; rw [hl _ acts rfl rfl rfl]) | rw [hl _ _ rfl rfl rfl]
  exact Steps.refl _
/-- from U the run comes to its end, and Q holds there -/
def OwnEnds (p : Program) (e : Env) (below : List Frame) (Q : Outcome → State → Prop) (U : State) : Prop := ∃ s₂ o, Steps p.tables e below U s₂ ∧ s₂.status = .running ∧ Ended s₂ below o ∧ Q o s₂
theorem OwnEnds.pre {Q : Outcome → State → Prop} {U U' : State} (h : ∀ t, Steps p.tables e below U' t → Steps p.tables e below U t) (k : OwnEnds p e below Q U') : OwnEnds p e below Q U := by
  obtain ⟨s₂, o, h1, h2⟩ := k
  exact ⟨s₂, o, h _ h1, h2⟩
def OwnQ (s : State) (Q : Option Value → Heap → List Loc → Prop) (C S : Nat) : Outcome → State → Prop := fun o U' => ∃ v L, o = .returned v ∧ Q v U'.heap L ∧ FrameEnd s o U' L C S
theorem own_endI (X : Stand p l e R s m args below meth c T locs cells slots) (hx : p.tables.exec = Jvm.exec) (hlocks : meth.locks = false) {pc : Nat} {Ls : Array Slot} {z : Int32} {rest : List Value} (hret : meth.sig.returnType = some .int) (hd : decode c.code pc = .ok (.ireturn, 1))
    {Q : Option Value → Heap → List Loc → Prop} {C S : Nat} (hC : cells ≤ C) (hS : slots ≤ S) (hQ : Q (some (.int z)) T.heap locs) : OwnEnds p e below (OwnQ s Q C S) (T.setTop (mkF m pc Ls (.int z :: rest))) := by
  obtain ⟨fs, hr, hrun, hended, hW, hsame⟩ := X.leave (v := some (.int z)) (fun h => by rw [hret] at h; cases h) hlocks
  exact ⟨_, _, retI X hx hret hd hr, hrun, hended, _, _, rfl, hQ, ⟨_, rfl⟩, hW, hsame.mono hC hS⟩
theorem own_endN (X : Stand p l e R s m args below meth c T locs cells slots) (hx : p.tables.exec = Jvm.exec) (hlocks : meth.locks = false) {pc : Nat} {Ls : Array Slot} {z z' : Int32} {t : FieldType} {rest : List Value} (hret : meth.sig.returnType = some t) (ht : t = .boolean ∨ t = .byte ∨ t = .char ∨ t = .short) (hd : decode c.code pc = .ok (.ireturn, 1)) (hz : nar t z = z')
    {Q : Option Value → Heap → List Loc → Prop} {C S : Nat} (hC : cells ≤ C) (hS : slots ≤ S) (hQ : Q (some (.int z')) T.heap locs) : OwnEnds p e below (OwnQ s Q C S) (T.setTop (mkF m pc Ls (.int z :: rest))) := by
  subst hz
  obtain ⟨fs, hr, hrun, hended, hW, hsame⟩ := X.leave (v := some (.int (nar t z))) (fun h => by rw [hret] at h; cases h) hlocks
  exact ⟨_, _, retN X hx hret ht hd hr, hrun, hended, _, _, rfl, hQ, ⟨_, rfl⟩, hW, hsame.mono hC hS⟩
theorem own_endJ (X : Stand p l e R s m args below meth c T locs cells slots) (hx : p.tables.exec = Jvm.exec) (hlocks : meth.locks = false) {pc : Nat} {Ls : Array Slot} {z : Int64} (hret : meth.sig.returnType = some .long) (hd : decode c.code pc = .ok (.lreturn, 1))
    {Q : Option Value → Heap → List Loc → Prop} {C S : Nat} (hC : cells ≤ C) (hS : slots ≤ S) (hQ : Q (some (.long z)) T.heap locs) : OwnEnds p e below (OwnQ s Q C S) (T.setTop (mkF m pc Ls [.long z])) := by
  obtain ⟨fs, hr, hrun, hended, hW, hsame⟩ := X.leave (v := some (.long z)) (fun h => by rw [hret] at h; cases h) hlocks
  exact ⟨_, _, X.lreturnOut hx hret hd hr, hrun, hended, _, _, rfl, hQ, ⟨_, rfl⟩, hW, hsame.mono hC hS⟩
theorem own_endV (X : Stand p l e R s m args below meth c T locs cells slots) (hx : p.tables.exec = Jvm.exec) (hlocks : meth.locks = false) {pc : Nat} {Ls : Array Slot} (hret : meth.sig.returnType = none) (hd : decode c.code pc = .ok (.return_, 1))
    {Q : Option Value → Heap → List Loc → Prop} {C S : Nat} (hC : cells ≤ C) (hS : slots ≤ S) (hQ : Q none T.heap locs) : OwnEnds p e below (OwnQ s Q C S) (T.setTop (mkF m pc Ls [])) := by
  obtain ⟨fs, hr, hrun, hended, hW, hsame⟩ := X.leave (v := none) (fun _ => rfl) hlocks
  exact ⟨_, _, X.returnOut hx hret hd hr, hrun, hended, _, _, rfl, hQ, ⟨_, rfl⟩, hW, hsame.mono hC hS⟩
theorem own_endR (X : Stand p l e R s m args below meth c T locs cells slots) (hx : p.tables.exec = Jvm.exec) (hlocks : meth.locks = false) {pc : Nat} {Ls : Array Slot} {w : Value} {t : FieldType} {rest : List Value} (hret : meth.sig.returnType = some t) (ht : t.isReference = true) (hw : w.isRef = true) (hd : decode c.code pc = .ok (.areturn, 1))
    {Q : Option Value → Heap → List Loc → Prop} {C S : Nat} (hC : cells ≤ C) (hS : slots ≤ S) (hQ : Q (some w) T.heap locs) : OwnEnds p e below (OwnQ s Q C S) (T.setTop (mkF m pc Ls (w :: rest))) := by
  obtain ⟨fs, hr, hrun, hended, hW, hsame⟩ := X.leave (v := some w) (fun h => by rw [hret] at h; cases h) hlocks
  have hn : narrow t w = w := by cases t <;> first | rfl | (cases ht)
  exact ⟨_, _, retOut X hx hret hn (Or.inr (Or.inr (Or.inr (Or.inr ⟨rfl, ht, hw⟩)))) hd hr, hrun, hended, _, _, rfl, hQ, ⟨_, rfl⟩, hW, hsame.mono hC hS⟩
theorem own_getI (l : List Int32) (i : Nat) : (l.map Value.int).getD i (.int 0) = .int (l.getD i 0) := by
  simp only [List.getD_eq_getElem?_getD, List.getElem?_map]
  cases l[i]? <;> rfl
theorem own_getJ (l : List Int64) (i : Nat) : (l.map Value.long).getD i (.long 0) = .long (l.getD i 0) := by
  simp only [List.getD_eq_getElem?_getD, List.getElem?_map]
  cases l[i]? <;> rfl
theorem own_nin0 {a : Addr} : a ∉ ([] : List Addr) := List.not_mem_nil
theorem own_nin1 {a b : Addr} (h : a ≠ b) : a ∉ [b] := by simpa using h
theorem own_nin2 {a b c : Addr} (h : a ≠ b) (h' : a ≠ c) : a ∉ [b, c] := by simpa using ⟨h, h'⟩
theorem own_staK0 {Z : State} {h h' : Heap} {C n d : String} {v : Value} (F : Sta Z h C n d v) (K : Keep h h' []) : Sta Z h' C n d v := by
  obtain ⟨cf, i, k, f, st, cell, h1, h2, h3, h4, h5, h6, h7⟩ := F
  exact ⟨cf, i, k, f, st, cell, h1, h2, h3, h4, K.2.1 st cell h5 own_nin0, h6, h7⟩
theorem own_staK1 {Z : State} {h h' : Heap} {C n d D : String} {v : Value} {x : Addr} (F : Sta Z h C n d v) (K : Keep h h' [x]) (E : Exa Z h x D) : Sta Z h' C n d v := by
  obtain ⟨cf, i, k, f, st, cell, h1, h2, h3, h4, h5, h6, h7⟩ := F
  obtain ⟨cl, kk, e1, e2, e3, e4, e5⟩ := E
  refine ⟨cf, i, k, f, st, cell, h1, h2, h3, h4, K.2.1 st cell h5 (own_nin1 fun q => ?_), h6, h7⟩
  subst q
  cases h5.symm.trans e1
  rw [h6] at e4
  cases e4
theorem own_nsroot {Z : State} {a0 : Array Value} {O K : String} {n : Nat} (w : (Cond.noSuperclass O).before a0 Z = true) (wk : (Cond.instantiable K n).before a0 Z = true) (hn : O ≠ K) : NS Z O K := by
  obtain ⟨c, k, h1, h2, h3, -, -⟩ := Cond.noSuperclass_spec w
  obtain ⟨t, kt, g1, -⟩ := Cond.instantiable_spec wk
  have ne := ids_ne h1 g1 hn
  refine ⟨c, t, h1, g1, fun fuel => ?_⟩
  cases fuel with
  | zero => rfl
  | succ f => simp [Vm.isSubclassAux, ne, h2, h3]
theorem own_nsno {Z : State} {a0 : Array Value} {C S K : String} {n : Nat} (w : (Cond.superclass C S).before a0 Z = true) (wk : (Cond.instantiable K n).before a0 Z = true) (ns : NS Z C K) (hn : C ≠ K) : ∃ c t, Z.vm.findClass C = some c ∧ Z.vm.findClass K = some t ∧ Z.vm.assignable c t = false := by
  obtain ⟨c, t, h0, g0, n3⟩ := ns
  obtain ⟨p, k, kp, h1, h2, h3, h4, h5, -, h7⟩ := Cond.superclass_spec h0 w
  obtain ⟨t', kt, g1, g2, g3, g4, -⟩ := Cond.instantiable_spec wk
  cases g0.symm.trans g1
  have g7 : kt.isInterface = false := by simp only [Bool.or_eq_false_iff] at g4; exact g4.1
  have ne := ids_ne h0 g0 hn
  refine ⟨c, t, h0, g0, ?_⟩
  show Z.vm.assignableAux (255 + 1) c t = false
  simp [Vm.assignableAux, ne, h2, g2, h5, g3, g7, Vm.isSubclass, n3]
end New
end Jvm.RoadKit
namespace Jvm.RoadKit
open Sem ClassFile Op Lib Jvm.Stand Jvm.Free Jvm.LawKit
/-- an int[1024] and what it holds -/
def OwnA (Z : State) (h : Heap) (a : Addr) (F : Nat → Int32) : Prop := ∃ c : Cell, Arr Z h a c .int ∧ c.slots.size = 1024 ∧ ∀ i, i < 1024 → c.slots[i]? = some (.int (F i))
/-- an array of references over C, of length n; what lies in it isn't said -/
def OwnR (Z : State) (h : Heap) (a : Addr) (C : String) (n : Int32) : Prop := ∃ c : Cell, Arr Z h a c (.object C) ∧ Ovr Z c.cls C ∧ c.slots.size = n.toNatClampNeg ∧ ¬ n < 0
def own_upd (F : Nat → Int32) (j : Nat) (v : Int32) : Nat → Int32 := fun i => if i = j then v else F i
section
variable {Z : State} {h h' : Heap} {a b : Addr} {F : Nat → Int32} {ws : List Addr} {sl : Nat} {v : Value} {C : String} {n : Int32}
theorem OwnA.lt (A : OwnA Z h a F) : a < h.size := by obtain ⟨c, A, -⟩ := A; exact A.lt
theorem OwnA.ext (A : OwnA Z h a F) (E : Ext h h') : OwnA Z h' a F := by obtain ⟨c, A, r⟩ := A; exact ⟨c, A.ext E, r⟩
theorem OwnA.other (A : OwnA Z h b F) (W : Wr h h' a sl v) (q : b ≠ a) : OwnA Z h' b F := by obtain ⟨c, A, r⟩ := A; exact ⟨c, A.other W q, r⟩
theorem OwnA.keep (A : OwnA Z h a F) (K : Keep h h' ws) (q : a ∉ ws) : OwnA Z h' a F := by obtain ⟨c, A, r⟩ := A; exact ⟨c, ⟨K.2.1 a c A.1 q, A.2⟩, r⟩
theorem OwnA.nostat (A : OwnA Z h a F) : ∀ cell : Cell, h[a]? = some cell → cell.vm.isStatics = false := by obtain ⟨c, A, -⟩ := A; exact A.nostat
theorem OwnA.new {k : ClassId} (A : Arr Z h a (newA k .int 1024) .int) : OwnA Z h a (fun _ => 0) := by
  refine ⟨_, A, sz_new _ _ _, fun i hi => ?_⟩
  have hs : (newA k .int 1024).slots.size = 1024 := sz_new _ _ _
  have : (1024 : Int32).toNatClampNeg = 1024 := by decide
  simp [newA, this, hi, defaultValue]
theorem OwnA.set {c : Cell} {j x : Int32} (A : Arr Z h a c .int) (S : c.slots.size = 1024) (H : ∀ i, i < 1024 → c.slots[i]? = some (.int (F i))) (W : Wr h h' a j.toNatClampNeg (.int x)) : OwnA Z h' a (own_upd F j.toNatClampNeg x) := by
  refine ⟨_, A.same W, by rw [sz_set]; exact S, fun i hi => ?_⟩
  show (c.slots.setIfInBounds j.toNatClampNeg (.int x))[i]? = _
  by_cases q : i = j.toNatClampNeg
  · subst q
    rw [Array.getElem?_setIfInBounds_self_of_lt (by rw [S]; exact hi)]
    simp [own_upd]
  · rw [Array.getElem?_setIfInBounds_ne (fun z => q z.symm), H i hi]
    simp [own_upd, q]
theorem own_in1024 {c : Cell} {j : Int32} (S : c.slots.size = 1024) (q : 0 ≤ j.toInt ∧ j.toInt < 1024) : ¬ (j < 0 ∨ c.slots.size ≤ j.toNatClampNeg) := by
  have e0 : (0 : Int32).toInt = 0 := rfl
  rw [S, Int32.lt_iff_toInt_lt, e0]
  show ¬ (j.toInt < 0 ∨ 1024 ≤ j.toInt.toNat)
  omega
theorem own_lt1024 {j : Int32} (q : 0 ≤ j.toInt ∧ j.toInt < 1024) : j.toNatClampNeg < 1024 := by
  show j.toInt.toNat < 1024
  omega
theorem own_len1024 {c : Cell} (S : c.slots.size = 1024) : c.slots.size.toInt32 = (1024 : Int32) := by rw [S]; rfl
theorem OwnR.lt (A : OwnR Z h a C n) : a < h.size := by obtain ⟨c, A, -⟩ := A; exact A.lt
theorem OwnR.ext (A : OwnR Z h a C n) (E : Ext h h') : OwnR Z h' a C n := by obtain ⟨c, A, r⟩ := A; exact ⟨c, A.ext E, r⟩
theorem OwnR.other (A : OwnR Z h b C n) (W : Wr h h' a sl v) (q : b ≠ a) : OwnR Z h' b C n := by obtain ⟨c, A, r⟩ := A; exact ⟨c, A.other W q, r⟩
theorem OwnR.keep (A : OwnR Z h a C n) (K : Keep h h' ws) (q : a ∉ ws) : OwnR Z h' a C n := by obtain ⟨c, A, r⟩ := A; exact ⟨c, ⟨K.2.1 a c A.1 q, A.2⟩, r⟩
theorem OwnR.nostat (A : OwnR Z h a C n) : ∀ cell : Cell, h[a]? = some cell → cell.vm.isStatics = false := by obtain ⟨c, A, -⟩ := A; exact A.nostat
theorem OwnR.new {k : ClassId} (A : Arr Z h a (newA k (.object C) n) (.object C)) (O : Ovr Z k C) (q : ¬ n < 0) : OwnR Z h a C n := ⟨_, A, O, sz_new _ _ _, q⟩
theorem OwnR.set (A : OwnR Z h a C n) (W : Wr h h' a sl v) : OwnR Z h' a C n := by
  obtain ⟨c, A, O, S, N⟩ := A
  exact ⟨_, A.same W, O, by rw [sz_set]; exact S, N⟩
theorem own_nd {l : List Addr} (D : l.Pairwise (· ≠ ·)) (i j : Nat) {x y : Addr} (hx : l[i]? = some x) (hy : l[j]? = some y) (h : i < j) : x ≠ y := by
  obtain ⟨h1, rfl⟩ := List.getElem?_eq_some_iff.mp hx
  obtain ⟨h2, rfl⟩ := List.getElem?_eq_some_iff.mp hy
  exact List.pairwise_iff_getElem.mp D i j h1 h2 h
theorem own_insK {K : String} (Kp : Keep h h' ws) (F : Ins Z h a K true) : Ins Z h' a K true := by
  obtain ⟨cell, cT, h1, h2, h3⟩ := F
  obtain ⟨c', q, r1, r2, -⟩ := Kp.2.2 a cell h1
  exact ⟨c', cT, q, h2, by rw [r1, r2]; exact h3⟩
theorem own_selP {s : State} {args : Array Value} {y : MethodName} {k : Nat} (wi : (Cond.instantiable y.cls k).before args s = true) (hpriv : s.PrivateAt y) (hinst : (Cond.instanceMethod y).before args s = true) (hy : y.cls ≠ "java/lang/invoke/MethodHandle" ∧ y.cls ≠ "java/lang/invoke/VarHandle") : (Cond.selects y.cls y y).before args s = true := by
  obtain ⟨c, k, h1, h2, h3, h4, -⟩ := Cond.instantiable_spec wi
  have h7 : k.isInterface = false := by simp only [Bool.or_eq_false_iff] at h4; exact h4.1
  exact Jvm.Stand.selects_self_of_private h1 h2 h7 hpriv hinst hy
theorem own_nin3 {a b c d : Addr} (h1 : a ≠ b) (h2 : a ≠ c) (h3 : a ≠ d) : a ∉ [b, c, d] := ninS h1 (ninS h2 (ninS h3 nin0))
theorem own_nin4 {a b c d e : Addr} (h1 : a ≠ b) (h2 : a ≠ c) (h3 : a ≠ d) (h4 : a ≠ e) : a ∉ [b, c, d, e] := ninS h1 (own_nin3 h2 h3 h4)
theorem own_nin5 {a b c d e f : Addr} (h1 : a ≠ b) (h2 : a ≠ c) (h3 : a ≠ d) (h4 : a ≠ e) (h5 : a ≠ f) : a ∉ [b, c, d, e, f] := ninS h1 (own_nin4 h2 h3 h4 h5)
theorem own_nin6 {a b c d e f g : Addr} (h1 : a ≠ b) (h2 : a ≠ c) (h3 : a ≠ d) (h4 : a ≠ e) (h5 : a ≠ f) (h6 : a ≠ g) : a ∉ [b, c, d, e, f, g] := ninS h1 (own_nin5 h2 h3 h4 h5 h6)
theorem own_nin7 {a b c d e f g i : Addr} (h1 : a ≠ b) (h2 : a ≠ c) (h3 : a ≠ d) (h4 : a ≠ e) (h5 : a ≠ f) (h6 : a ≠ g) (h7 : a ≠ i) : a ∉ [b, c, d, e, f, g, i] := ninS h1 (own_nin6 h2 h3 h4 h5 h6 h7)
end
end Jvm.RoadKit
namespace Jvm.Pilot.@@N@@
open Jvm Jvm.ClassFile Sem Op Lib Jvm.Free Jvm.Stand Jvm.LawKit Jvm.RoadKit Bundle Jvm.Pilot.@@N@@.Jvm.D
def OwnG (Z : State) (h : Heap) (g aL aP aR aF aE aT aA : Addr) (w e ini : Int32) (F E : Nat → Int32) : Prop :=
  Exa Z h g "com/example/changeset/changeset/check/StateGraph" ∧ Fld Z h g "com/example/changeset/changeset/check/StateGraph" "states" "Ljava/util/List;" (.ref aL) ∧ Fld Z h g "com/example/changeset/changeset/check/StateGraph" "predecessors" "[I" (.ref aP) ∧ Fld Z h g "com/example/changeset/changeset/check/StateGraph" "reachedBy" "[I" (.ref aR) ∧ Fld Z h g "com/example/changeset/changeset/check/StateGraph" "lastWithEdges" "I" (.int w) ∧ Fld Z h g "com/example/changeset/changeset/check/StateGraph" "keepsEdges" "Z" (.int 1) ∧ Fld Z h g "com/example/changeset/changeset/check/StateGraph" "firstEdges" "[I" (.ref aF) ∧ Fld Z h g "com/example/changeset/changeset/check/StateGraph" "lastEdgeFrom" "[I" (.ref aE) ∧ Fld Z h g "com/example/changeset/changeset/check/StateGraph" "edgeTargets" "[I" (.ref aT) ∧ Fld Z h g "com/example/changeset/changeset/check/StateGraph" "edgeActions" "[I" (.ref aA) ∧ Fld Z h g "com/example/changeset/changeset/check/StateGraph" "initialStates" "I" (.int ini) ∧ Fld Z h g "com/example/changeset/changeset/check/StateGraph" "edges" "I" (.int e) ∧ (∃ f, OwnA Z h aP f) ∧ (∃ f, OwnA Z h aR f) ∧ OwnA Z h aF F ∧ OwnA Z h aE E ∧ (∃ f, OwnA Z h aT f) ∧ (∃ f, OwnA Z h aA f)
def OwnL (Z : State) (h : Heap) (l d : Addr) (k n : Int32) : Prop :=
  Exa Z h l "java/util/ArrayList" ∧ (∃ mc : Int32, Fld Z h l "java/util/AbstractList" "modCount" "I" (.int mc)) ∧ Fld Z h l "java/util/ArrayList" "elementData" "[Ljava/lang/Object;" (.ref d) ∧ Fld Z h l "java/util/ArrayList" "size" "I" (.int k) ∧ OwnR Z h d "java/lang/Object" n
theorem d18_0 : decode jdk_29_method_65_code 0 = .ok (.iload_n 0, 1) := by decide +kernel
theorem d18_1 : decode jdk_29_method_65_code 1 = .ok (.iload_n 1, 1) := by decide +kernel
theorem d18_2 : decode jdk_29_method_65_code 2 = .ok (.if_icmp .lt 7, 3) := by decide +kernel
theorem d18_5 : decode jdk_29_method_65_code 5 = .ok (.iload_n 0, 1) := by decide +kernel
theorem d18_6 : decode jdk_29_method_65_code 6 = .ok (.goto 4, 3) := by decide +kernel
theorem d18_9 : decode jdk_29_method_65_code 9 = .ok (.iload_n 1, 1) := by decide +kernel
theorem d18_10 : decode jdk_29_method_65_code 10 = .ok (.ireturn, 1) := by decide +kernel
theorem ef_18 (m : MethodId) (p0 : Int32) (p1 : Int32) : entryFrame m #[(.int p0), (.int p1)] 2 = mkF m 0 #[.val (.int p0), .val (.int p1)] [] := by first | (simp [entryFrame, mkF, argsToLocals, Value.category]; done) | rfl
def f18_0 (p0 : Int32) (p1 : Int32) : Int32 := (if p0 < p1 then p1 else p0)
def Q18 (Z : State) (p0 : Int32) (p1 : Int32) (h0 : Heap) (n0 : Nat) (v : Option Value) (h : Heap) (L : List Loc) : Prop := v = some (.int (f18_0 p0 p1)) ∧ Fr n0 L ∧ h = h0
set_option maxRecDepth 65536 in
set_option maxHeartbeats 40000000 in
theorem rm18 (l : Launch) (Z : State) (aZ : Array Value) (hw : ∀ d ∈ tables_1, d.before aZ Z = true) (ws : List Jvm.Cond) (p0 : Int32) (p1 : Int32) (h0 : Heap) (n0 : Nat) (Z0 : n0 ≤ h0.size) :
    MetFree l (⟨"java/lang/Math", "max", "(II)I"⟩ : MethodName) (head1 (Jvm.Cond.code (⟨"java/lang/Math", "max", "(II)I"⟩ : MethodName) jdk_29_method_65_code 2 (some .int) :: ws) ({ frames := 0, cells := 0, slots := 0, locals := 0 } : Room)) (fun a U => a = #[(.int p0), (.int p1)] ∧ Z.Warmed39 U.vm ∧ U.heap = h0) (fun _ _ _ _ _ => True) (fun _ U o U' => ∃ v L, o = .returned v ∧ Q18 Z p0 p1 h0 n0 v U'.heap L ∧ FrameEnd U o U' L 0 0) := by
  refine MetFree.of_bodySF (Jvm.Free.JP.mathPlain rfl (by decide +kernel)) hisR ?_
  intro p e s m args below meth c s₁ Bd hml0 hP hK
  obtain ⟨rfl, hZ, hh⟩ := hP
  have hx := Bd.exec
  have hby := Bd.bytes
  have hml : c.maxLocals = 2 := hml0
  have hown : s.vm.findClass "java/lang/Math" = some m.cls := findClass_of_methodNamed Bd.named
  have hnm := (name_of_methodNamed Bd.named Bd.method).1
  have hlk := BodyLoose.notSynchronized Bd
  have X0 : Stand p l e ({ frames := 0, cells := 0, slots := 0, locals := 0 } : Room) s m #[(.int p0), (.int p1)] below meth c s₁ [] 0 0 := Stand.of_body Bd
  have e0 : s₁.heap = h0 := by rw [← hh, Bd.state]; rfl
  have N0 := Fr.nil n0
  have hk0 : 0 ≤ 0 := Nat.zero_le _
  have hn0 : 0 ≤ 0 := Nat.zero_le _
  show OwnEnds p e below (OwnQ s (Q18 Z p0 p1 h0 n0) 0 0) (s₁.setTop (entryFrame m #[(.int p0), (.int p1)] 2))
  refine .pre (fun t k => castTop (ef_18 m p0 p1) k) ?_
  have hF : f18_0 p0 p1 = f18_0 p0 p1 := rfl
  change (if p0 < p1 then p1 else p0) = _ at hF
  show OwnEnds p e below _ (s₁.setTop (mkF m 0 #[.val (.int p0), .val (.int p1)] []))
  refine .pre (fun _ kq => XS.iloadN X0.here hx rfl (hb hby d18_0) rfl kq) ?_
  show OwnEnds p e below _ (s₁.setTop (mkF m 1 #[.val (.int p0), .val (.int p1)] [(.int p0)]))
  refine .pre (fun _ kq => XS.iloadN X0.here hx rfl (hb hby d18_1) rfl kq) ?_
  show OwnEnds p e below _ (s₁.setTop (mkF m 2 #[.val (.int p0), .val (.int p1)] [(.int p1), (.int p0)]))
  by_cases hc2 : p0 < p1
  · rw [if_pos hc2] at hF
    refine .pre (fun _ kq => XS.icmpYes X0.here hx rfl (pc0 := 2) (pc' := 9) rfl (hb hby d18_2) rfl (tlt hc2).1 (by decide) (by decide) kq) ?_
    show OwnEnds p e below _ (s₁.setTop (mkF m 9 #[.val (.int p0), .val (.int p1)] []))
    refine .pre (fun _ kq => XS.iloadN X0.here hx rfl (hb hby d18_9) rfl kq) ?_
    show OwnEnds p e below _ (s₁.setTop (mkF m 10 #[.val (.int p0), .val (.int p1)] [(.int p1)]))
    exact own_endI X0 hx hlk Bd.returns (hb hby d18_10) hk0 hn0 ⟨congrArg (fun z => some (Value.int z)) hF, N0, e0⟩
  · rw [if_neg hc2] at hF
    refine .pre (fun _ kq => XS.icmpNo X0.here hx rfl (hb hby d18_2) rfl (flt hc2).1 kq) ?_
    show OwnEnds p e below _ (s₁.setTop (mkF m 5 #[.val (.int p0), .val (.int p1)] []))
    refine .pre (fun _ kq => XS.iloadN X0.here hx rfl (hb hby d18_5) rfl kq) ?_
    show OwnEnds p e below _ (s₁.setTop (mkF m 6 #[.val (.int p0), .val (.int p1)] [(.int p0)]))
    refine .pre (fun _ kq => XS.goto X0.here hx rfl (pc0 := 6) (pc' := 10) rfl (hb hby d18_6) (by decide) (by decide) kq) ?_
    show OwnEnds p e below _ (s₁.setTop (mkF m 10 #[.val (.int p0), .val (.int p1)] [(.int p0)]))
    exact own_endI X0 hx hlk Bd.returns (hb hby d18_10) hk0 hn0 ⟨congrArg (fun z => some (Value.int z)) hF, N0, e0⟩
theorem d4_0 : decode jdk_22_method_1_code 0 = .ok (.aload_n 0, 1) := by decide +kernel
theorem d4_1 : decode jdk_22_method_1_code 1 = .ok (.invokespecial 1, 3) := by decide +kernel
theorem d4_4 : decode jdk_22_method_1_code 4 = .ok (.return_, 1) := by decide +kernel
theorem ef_4 (m : MethodId) (a0 : Addr) : entryFrame m #[(.ref a0)] 1 = mkF m 0 #[.val (.ref a0)] [] := by first | (simp [entryFrame, mkF, argsToLocals, Value.category]; done) | rfl
theorem pn_0 : plainName "java/util/AbstractCollection" = true := by first | (simp [plainName, overriddenIn]; done) | decide +kernel
def Q4 (Z : State) (a0 : Addr) (h0 : Heap) (n0 : Nat) (v : Option Value) (h : Heap) (L : List Loc) : Prop := v = none ∧ Fr n0 L ∧ h = h0
set_option maxRecDepth 65536 in
set_option maxHeartbeats 40000000 in
theorem rm4 (l : Launch) (Z : State) (aZ : Array Value) (hw : ∀ d ∈ tables_1, d.before aZ Z = true) (ws : List Jvm.Cond) (a0 : Addr) (h0 : Heap) (n0 : Nat) (Z0 : n0 ≤ h0.size) :
    MetFree l (⟨"java/util/AbstractCollection", "<init>", "()V"⟩ : MethodName) (head1 (Jvm.Cond.code (⟨"java/util/AbstractCollection", "<init>", "()V"⟩ : MethodName) jdk_22_method_1_code 1 none :: ws) ({ frames := 1, cells := 0, slots := 0, locals := 12 } : Room)) (fun a U => a = #[(.ref a0)] ∧ Z.Warmed39 U.vm ∧ U.heap = h0) (fun _ _ _ _ _ => True) (fun _ U o U' => ∃ v L, o = .returned v ∧ Q4 Z a0 h0 n0 v U'.heap L ∧ FrameEnd U o U' L 0 0) := by
  refine MetFree.of_bodySF (plainFor_of_name pn_0) hisR ?_
  intro p e s m args below meth c s₁ Bd hml0 hP hK
  obtain ⟨rfl, hZ, hh⟩ := hP
  have hx := Bd.exec
  have hby := Bd.bytes
  have hml : c.maxLocals = 1 := hml0
  have hown : s.vm.findClass "java/util/AbstractCollection" = some m.cls := findClass_of_methodNamed Bd.named
  have hnm := (name_of_methodNamed Bd.named Bd.method).1
  have hlk := BodyLoose.notSynchronized Bd
  have X0 : Stand p l e ({ frames := 1, cells := 0, slots := 0, locals := 12 } : Room) s m #[(.ref a0)] below meth c s₁ [] 0 0 := Stand.of_body Bd
  have e0 : s₁.heap = h0 := by rw [← hh, Bd.state]; rfl
  have N0 := Fr.nil n0
  have hk0 : 0 ≤ 0 := Nat.zero_le _
  have hn0 : 0 ≤ 0 := Nat.zero_le _
  show OwnEnds p e below (OwnQ s (Q4 Z a0 h0 n0) 0 0) (s₁.setTop (entryFrame m #[(.ref a0)] 1))
  refine .pre (fun t k => castTop (ef_4 m a0) k) ?_
  show OwnEnds p e below _ (s₁.setTop (mkF m 0 #[.val (.ref a0)] []))
  refine .pre (fun _ kq => XS.aloadN X0.here hx rfl (hb hby d4_0) rfl rfl kq) ?_
  show OwnEnds p e below _ (s₁.setTop (mkF m 1 #[.val (.ref a0)] [(.ref a0)]))
  obtain ⟨T1, X1, e1, st1⟩ := initO X0 hx hZ hown (hw _ (List.mem_of_getElem? (i := 25) rfl)) (hw _ (List.mem_of_getElem? (i := 26) rfl)) (hw _ (List.mem_of_getElem? (i := 27) rfl)) e0 (g := (mkF m 1 #[.val (.ref a0)] [(.ref a0)])) rfl (by rw [hml]; rfl) rfl (hb hby d4_1) (by decide) (W := 0) (by show 2 * 0 + _ ≤ _; exact Nat.le_of_eq rfl) (by decide)
  refine .pre (fun _ kq => st1 _ kq) ?_
  show OwnEnds p e below _ (T1.setTop (mkF m 4 #[.val (.ref a0)] []))
  exact own_endV X1 hx hlk Bd.returns (hb hby d4_4) (by decide) (by decide) ⟨rfl, N0, e1⟩
theorem d3_0 : decode jdk_39_method_1_code 0 = .ok (.aload_n 0, 1) := by decide +kernel
theorem d3_1 : decode jdk_39_method_1_code 1 = .ok (.invokespecial 1, 3) := by decide +kernel
theorem d3_4 : decode jdk_39_method_1_code 4 = .ok (.aload_n 0, 1) := by decide +kernel
theorem d3_5 : decode jdk_39_method_1_code 5 = .ok (.iconst 0, 1) := by decide +kernel
theorem d3_6 : decode jdk_39_method_1_code 6 = .ok (.putfield 7, 3) := by decide +kernel
theorem d3_9 : decode jdk_39_method_1_code 9 = .ok (.return_, 1) := by decide +kernel
theorem ef_3 (m : MethodId) (a0 : Addr) : entryFrame m #[(.ref a0)] 1 = mkF m 0 #[.val (.ref a0)] [] := by first | (simp [entryFrame, mkF, argsToLocals, Value.category]; done) | rfl
theorem pn_1 : plainName "java/util/AbstractList" = true := by first | (simp [plainName, overriddenIn]; done) | decide +kernel
theorem pd_2 : parseMethodDescriptor "()V" = some ⟨[], none⟩ := by decide +kernel
def Q3 (Z : State) (a0 : Addr) (u_modCount : Value) (u_elementData : Value) (u_size : Value) (h0 : Heap) (n0 : Nat) (v : Option Value) (h : Heap) (L : List Loc) : Prop := v = none ∧ Fr n0 L ∧ Keep h0 h [a0] ∧ Exa Z h a0 "java/util/ArrayList" ∧ Fld Z h a0 "java/util/AbstractList" "modCount" "I" (.int (0 : Int32)) ∧ Fld Z h a0 "java/util/ArrayList" "elementData" "[Ljava/lang/Object;" u_elementData ∧ Fld Z h a0 "java/util/ArrayList" "size" "I" u_size
set_option maxRecDepth 65536 in
set_option maxHeartbeats 40000000 in
theorem rm3 (l : Launch) (Z : State) (aZ : Array Value) (hw : ∀ d ∈ tables_1, d.before aZ Z = true) (ws : List Jvm.Cond) (a0 : Addr) (u_modCount : Value) (u_elementData : Value) (u_size : Value) (h0 : Heap) (n0 : Nat) (Z0 : n0 ≤ h0.size) (g_a0 : n0 ≤ a0) (E_a0 : Exa Z h0 a0 "java/util/ArrayList") (F_u_modCount : Fld Z h0 a0 "java/util/AbstractList" "modCount" "I" u_modCount) (F_u_elementData : Fld Z h0 a0 "java/util/ArrayList" "elementData" "[Ljava/lang/Object;" u_elementData) (F_u_size : Fld Z h0 a0 "java/util/ArrayList" "size" "I" u_size) :
    MetFree l (⟨"java/util/AbstractList", "<init>", "()V"⟩ : MethodName) (head1 (Jvm.Cond.code (⟨"java/util/AbstractList", "<init>", "()V"⟩ : MethodName) jdk_39_method_1_code 1 none :: ws) ({ frames := 2, cells := 0, slots := 0, locals := 24 } : Room)) (fun a U => a = #[(.ref a0)] ∧ Z.Warmed39 U.vm ∧ U.heap = h0) (fun _ _ _ _ _ => True) (fun _ U o U' => ∃ v L, o = .returned v ∧ Q3 Z a0 u_modCount u_elementData u_size h0 n0 v U'.heap L ∧ FrameEnd U o U' L 0 0) := by
  refine MetFree.of_bodySF (plainFor_of_name pn_1) hisR ?_
  intro p e s m args below meth c s₁ Bd hml0 hP hK
  obtain ⟨rfl, hZ, hh⟩ := hP
  have hx := Bd.exec
  have hby := Bd.bytes
  have hml : c.maxLocals = 1 := hml0
  have hown : s.vm.findClass "java/util/AbstractList" = some m.cls := findClass_of_methodNamed Bd.named
  have hnm := (name_of_methodNamed Bd.named Bd.method).1
  have hlk := BodyLoose.notSynchronized Bd
  have X0 : Stand p l e ({ frames := 2, cells := 0, slots := 0, locals := 24 } : Room) s m #[(.ref a0)] below meth c s₁ [] 0 0 := Stand.of_body Bd
  have e0 : s₁.heap = h0 := by rw [← hh, Bd.state]; rfl
  have N0 := Fr.nil n0
  have hk0 : 0 ≤ 0 := Nat.zero_le _
  have hn0 : 0 ≤ 0 := Nat.zero_le _
  show OwnEnds p e below (OwnQ s (Q3 Z a0 u_modCount u_elementData u_size h0 n0) 0 0) (s₁.setTop (entryFrame m #[(.ref a0)] 1))
  refine .pre (fun t k => castTop (ef_3 m a0) k) ?_
  show OwnEnds p e below _ (s₁.setTop (mkF m 0 #[.val (.ref a0)] []))
  refine .pre (fun _ kq => XS.aloadN X0.here hx rfl (hb hby d3_0) rfl rfl kq) ?_
  show OwnEnds p e below _ (s₁.setTop (mkF m 1 #[.val (.ref a0)] [(.ref a0)]))
  obtain ⟨_, _, ⟨T1, L1, k1, n1⟩, -, X1, ⟨Lc1, hQ1, l1, y1, z1⟩, st1⟩ := X0.specialBack hx (y := (⟨"java/util/AbstractCollection", "<init>", "()V"⟩ : MethodName)) rfl hown (mvT hZ (hw _ (List.mem_of_getElem? (i := 19) rfl))) (mvT hZ (hw _ (List.mem_of_getElem? (i := 20) rfl))) (mvT hZ (hw _ (List.mem_of_getElem? (i := 24) rfl))) (by decide) (backOf (W := 0) (rm4 l Z aZ hw [] a0 h0 n0 Z0) hZ (hw _ (List.mem_of_getElem? (i := 24) rfl)) (hw _ (List.mem_of_getElem? (i := 23) rfl)) (by decide) (by decide)) (g := (mkF m 1 #[.val (.ref a0)] [(.ref a0)])) rfl (by rw [hml]; rfl) (Steps.refl _) (a := a0) (argsL := []) (rest := []) (lenOf pd_2 rfl) rfl (by show 2 * 0 + _ ≤ _; exact Nat.le_of_eq rfl) (hb hby d3_1) (fun _ _ => ⟨rfl, e0, (by decide : 0 + 0 ≤ _), (by decide : 0 + 0 ≤ _)⟩)
  dsimp only [Pt.U, Pt.locs, Pt.cells, Pt.slots] at X1 l1 y1 z1 st1 hQ1
  try dsimp only [Nat.reduceAdd] at y1 z1
  subst y1 z1
  obtain ⟨rfl, N1q, e1⟩ := hQ1
  have N1 : Fr n0 L1 := by rw [l1]; exact Fr.app N0 N1q
  refine .pre (fun _ kq => st1.trans kq) ?_
  show OwnEnds p e below _ (T1.setTop (mkF m 4 #[.val (.ref a0)] []))
  refine .pre (fun _ kq => XS.aloadN X1.here hx rfl (hb hby d3_4) rfl rfl kq) ?_
  show OwnEnds p e below _ (T1.setTop (mkF m 5 #[.val (.ref a0)] [(.ref a0)]))
  refine .pre (fun _ kq => XS.iconst X1.here hx rfl (hb hby d3_5) kq) ?_
  show OwnEnds p e below _ (T1.setTop (mkF m 6 #[.val (.ref a0)] [(.int (0 : Int32)), (.ref a0)]))
  obtain ⟨T2, h2, X2, e2, W2, st2⟩ := putF X1 hx hZ hown (host := "") (Or.inl (hw _ (List.mem_of_getElem? (i := 28) rfl))) Via.refl e1 F_u_modCount E_a0 (Or.inl (hw _ (List.mem_of_getElem? (i := 29) rfl))) (hw _ (List.mem_of_getElem? (i := 8) rfl)) (ty := .int) (by decide) rfl rfl (g := (mkF m 6 #[.val (.ref a0)] [(.int (0 : Int32)), (.ref a0)])) rfl rfl (hb hby d3_6)
  have Fw2 := F_u_modCount.same W2
  have N2 := Fr.snoc X2 N1 g_a0
  have Kp2 : Keep h0 h2 [a0] := (Keep.refl h0 [a0]).wr W2 (Or.inl (List.mem_of_getElem? (i := 0) rfl))
  refine .pre (fun _ kq => st2 _ kq) ?_
  show OwnEnds p e below _ (T2.setTop (mkF m 9 #[.val (.ref a0)] []))
  exact own_endV X2 hx hlk Bd.returns (hb hby d3_9) (by decide) (by decide) ⟨rfl, N2, (by rw [e2]; exact Kp2), (by rw [e2]; exact (E_a0.wr W2)), (by rw [e2]; exact Fw2), (by rw [e2]; exact (F_u_elementData.other W2 (Or.inr (slot_ne (Or.inl (hw _ (List.mem_of_getElem? (i := 32) rfl))) (Or.inl (hw _ (List.mem_of_getElem? (i := 29) rfl))) (by decide) (t := (.array (.object "java/lang/Object"))) (t' := .int) (by decide) (by decide))))), (by rw [e2]; exact (F_u_size.other W2 (Or.inr (slot_ne (Or.inl (hw _ (List.mem_of_getElem? (i := 108) rfl))) (Or.inl (hw _ (List.mem_of_getElem? (i := 29) rfl))) (by decide) (t := .int) (t' := .int) (by decide) (by decide)))))⟩
theorem d2_0 : decode jdk_38_method_2_code 0 = .ok (.aload_n 0, 1) := by decide +kernel
theorem d2_1 : decode jdk_38_method_2_code 1 = .ok (.invokespecial 1, 3) := by decide +kernel
theorem d2_4 : decode jdk_38_method_2_code 4 = .ok (.aload_n 0, 1) := by decide +kernel
theorem d2_5 : decode jdk_38_method_2_code 5 = .ok (.getstatic 39, 3) := by decide +kernel
theorem d2_8 : decode jdk_38_method_2_code 8 = .ok (.putfield 9, 3) := by decide +kernel
theorem d2_11 : decode jdk_38_method_2_code 11 = .ok (.return_, 1) := by decide +kernel
theorem ef_2 (m : MethodId) (a0 : Addr) : entryFrame m #[(.ref a0)] 1 = mkF m 0 #[.val (.ref a0)] [] := by first | (simp [entryFrame, mkF, argsToLocals, Value.category]; done) | rfl
theorem pn_3 : plainName "java/util/ArrayList" = true := by first | (simp [plainName, overriddenIn]; done) | decide +kernel
def Q2 (Z : State) (a0 : Addr) (xD : Addr) (u_modCount : Value) (u_elementData : Value) (u_size : Value) (h0 : Heap) (n0 : Nat) (v : Option Value) (h : Heap) (L : List Loc) : Prop := v = none ∧ Fr n0 L ∧ Keep h0 h [a0] ∧ Exa Z h a0 "java/util/ArrayList" ∧ Fld Z h a0 "java/util/AbstractList" "modCount" "I" (.int (0 : Int32)) ∧ Fld Z h a0 "java/util/ArrayList" "elementData" "[Ljava/lang/Object;" (.ref xD) ∧ Fld Z h a0 "java/util/ArrayList" "size" "I" u_size
set_option maxRecDepth 65536 in
set_option maxHeartbeats 40000000 in
theorem rm2 (l : Launch) (Z : State) (aZ : Array Value) (hw : ∀ d ∈ tables_1, d.before aZ Z = true) (ws : List Jvm.Cond) (a0 : Addr) (xD : Addr) (u_modCount : Value) (u_elementData : Value) (u_size : Value) (h0 : Heap) (n0 : Nat) (Z0 : n0 ≤ h0.size) (SD : Sta Z h0 "java/util/ArrayList" "DEFAULTCAPACITY_EMPTY_ELEMENTDATA" "[Ljava/lang/Object;" (.ref xD)) (g_a0 : n0 ≤ a0) (E_a0 : Exa Z h0 a0 "java/util/ArrayList") (F_u_modCount : Fld Z h0 a0 "java/util/AbstractList" "modCount" "I" u_modCount) (F_u_elementData : Fld Z h0 a0 "java/util/ArrayList" "elementData" "[Ljava/lang/Object;" u_elementData) (F_u_size : Fld Z h0 a0 "java/util/ArrayList" "size" "I" u_size) :
    MetFree l (⟨"java/util/ArrayList", "<init>", "()V"⟩ : MethodName) (head1 (Jvm.Cond.code (⟨"java/util/ArrayList", "<init>", "()V"⟩ : MethodName) jdk_38_method_2_code 1 none :: ws) ({ frames := 3, cells := 0, slots := 0, locals := 36 } : Room)) (fun a U => a = #[(.ref a0)] ∧ Z.Warmed39 U.vm ∧ U.heap = h0) (fun _ _ _ _ _ => True) (fun _ U o U' => ∃ v L, o = .returned v ∧ Q2 Z a0 xD u_modCount u_elementData u_size h0 n0 v U'.heap L ∧ FrameEnd U o U' L 0 0) := by
  refine MetFree.of_bodySF (plainFor_of_name pn_3) hisR ?_
  intro p e s m args below meth c s₁ Bd hml0 hP hK
  obtain ⟨rfl, hZ, hh⟩ := hP
  have hx := Bd.exec
  have hby := Bd.bytes
  have hml : c.maxLocals = 1 := hml0
  have hown : s.vm.findClass "java/util/ArrayList" = some m.cls := findClass_of_methodNamed Bd.named
  have hnm := (name_of_methodNamed Bd.named Bd.method).1
  have hlk := BodyLoose.notSynchronized Bd
  have X0 : Stand p l e ({ frames := 3, cells := 0, slots := 0, locals := 36 } : Room) s m #[(.ref a0)] below meth c s₁ [] 0 0 := Stand.of_body Bd
  have e0 : s₁.heap = h0 := by rw [← hh, Bd.state]; rfl
  have N0 := Fr.nil n0
  have hk0 : 0 ≤ 0 := Nat.zero_le _
  have hn0 : 0 ≤ 0 := Nat.zero_le _
  show OwnEnds p e below (OwnQ s (Q2 Z a0 xD u_modCount u_elementData u_size h0 n0) 0 0) (s₁.setTop (entryFrame m #[(.ref a0)] 1))
  refine .pre (fun t k => castTop (ef_2 m a0) k) ?_
  show OwnEnds p e below _ (s₁.setTop (mkF m 0 #[.val (.ref a0)] []))
  refine .pre (fun _ kq => XS.aloadN X0.here hx rfl (hb hby d2_0) rfl rfl kq) ?_
  show OwnEnds p e below _ (s₁.setTop (mkF m 1 #[.val (.ref a0)] [(.ref a0)]))
  obtain ⟨_, _, ⟨T1, L1, k1, n1⟩, -, X1, ⟨Lc1, hQ1, l1, y1, z1⟩, st1⟩ := X0.specialBack hx (y := (⟨"java/util/AbstractList", "<init>", "()V"⟩ : MethodName)) rfl hown (mvT hZ (hw _ (List.mem_of_getElem? (i := 13) rfl))) (mvT hZ (hw _ (List.mem_of_getElem? (i := 14) rfl))) (mvT hZ (hw _ (List.mem_of_getElem? (i := 18) rfl))) (by decide) (backOf (W := 0) (rm3 l Z aZ hw [] a0 u_modCount u_elementData u_size h0 n0 Z0 g_a0 E_a0 F_u_modCount F_u_elementData F_u_size) hZ (hw _ (List.mem_of_getElem? (i := 18) rfl)) (hw _ (List.mem_of_getElem? (i := 17) rfl)) (by decide) (by decide)) (g := (mkF m 1 #[.val (.ref a0)] [(.ref a0)])) rfl (by rw [hml]; rfl) (Steps.refl _) (a := a0) (argsL := []) (rest := []) (lenOf pd_2 rfl) rfl (by show 2 * 0 + _ ≤ _; exact Nat.le_of_eq rfl) (hb hby d2_1) (fun _ _ => ⟨rfl, e0, (by decide : 0 + 0 ≤ _), (by decide : 0 + 0 ≤ _)⟩)
  dsimp only [Pt.U, Pt.locs, Pt.cells, Pt.slots] at X1 l1 y1 z1 st1 hQ1
  try dsimp only [Nat.reduceAdd] at y1 z1
  subst y1 z1
  obtain ⟨rfl, N1q, K1, Ea1, Fa1_0, Fa1_1, Fa1_2⟩ := hQ1
  have N1 : Fr n0 L1 := by rw [l1]; exact Fr.app N0 N1q
  refine .pre (fun _ kq => st1.trans kq) ?_
  have Kp1 : Keep h0 T1.heap [a0] := (Keep.refl h0 [a0]).trans K1 (allS (Or.inl (List.mem_of_getElem? (i := 0) rfl)) all0)
  show OwnEnds p e below _ (T1.setTop (mkF m 4 #[.val (.ref a0)] []))
  refine .pre (fun _ kq => XS.aloadN X1.here hx rfl (hb hby d2_4) rfl rfl kq) ?_
  show OwnEnds p e below _ (T1.setTop (mkF m 5 #[.val (.ref a0)] [(.ref a0)]))
  obtain ⟨T2, X2, e2, st2⟩ := getS2 X1 hx hZ hown (host := "") (Or.inl (hw _ (List.mem_of_getElem? (i := 30) rfl))) Via.refl rfl (own_staK1 SD K1 E_a0) (g := (mkF m 5 #[.val (.ref a0)] [(.ref a0)])) rfl (hb hby d2_5)
  refine .pre (fun _ kq => st2 _ kq) ?_
  show OwnEnds p e below _ (T2.setTop (mkF m 8 #[.val (.ref a0)] [(.ref xD), (.ref a0)]))
  obtain ⟨T3, h3, X3, e3, W3, st3⟩ := putF X2 hx hZ hown (host := "") (Or.inl (hw _ (List.mem_of_getElem? (i := 31) rfl))) Via.refl e2 Fa1_1 Ea1 (Or.inl (hw _ (List.mem_of_getElem? (i := 32) rfl))) (hw _ (List.mem_of_getElem? (i := 8) rfl)) (ty := (.array (.object "java/lang/Object"))) (by decide) rfl rfl (g := (mkF m 8 #[.val (.ref a0)] [(.ref xD), (.ref a0)])) rfl rfl (hb hby d2_8)
  have Fw3 := Fa1_1.same W3
  have N3 := Fr.snoc X3 N1 g_a0
  have Kp3 : Keep h0 h3 [a0] := Kp1.wr W3 (Or.inl (List.mem_of_getElem? (i := 0) rfl))
  refine .pre (fun _ kq => st3 _ kq) ?_
  show OwnEnds p e below _ (T3.setTop (mkF m 11 #[.val (.ref a0)] []))
  exact own_endV X3 hx hlk Bd.returns (hb hby d2_11) (by decide) (by decide) ⟨rfl, N3, (by rw [e3]; exact Kp3), (by rw [e3]; exact (Ea1.wr W3)), (by rw [e3]; exact (Fa1_0.other W3 (Or.inr (slot_ne (Or.inl (hw _ (List.mem_of_getElem? (i := 29) rfl))) (Or.inl (hw _ (List.mem_of_getElem? (i := 32) rfl))) (by decide) (t := .int) (t' := (.array (.object "java/lang/Object"))) (by decide) (by decide))))), (by rw [e3]; exact Fw3), (by rw [e3]; exact (Fa1_2.other W3 (Or.inr (slot_ne (Or.inl (hw _ (List.mem_of_getElem? (i := 108) rfl))) (Or.inl (hw _ (List.mem_of_getElem? (i := 32) rfl))) (by decide) (t := .int) (t' := (.array (.object "java/lang/Object"))) (by decide) (by decide)))))⟩
theorem d8_0 : decode jdk_71_method_1_code 0 = .ok (.aload_n 0, 1) := by decide +kernel
theorem d8_1 : decode jdk_71_method_1_code 1 = .ok (.invokespecial 1, 3) := by decide +kernel
theorem d8_4 : decode jdk_71_method_1_code 4 = .ok (.return_, 1) := by decide +kernel
theorem ef_8 (m : MethodId) (a0 : Addr) : entryFrame m #[(.ref a0)] 1 = mkF m 0 #[.val (.ref a0)] [] := by first | (simp [entryFrame, mkF, argsToLocals, Value.category]; done) | rfl
theorem pn_4 : plainName "java/util/AbstractMap" = true := by first | (simp [plainName, overriddenIn]; done) | decide +kernel
def Q8 (Z : State) (a0 : Addr) (h0 : Heap) (n0 : Nat) (v : Option Value) (h : Heap) (L : List Loc) : Prop := v = none ∧ Fr n0 L ∧ h = h0
set_option maxRecDepth 65536 in
set_option maxHeartbeats 40000000 in
theorem rm8 (l : Launch) (Z : State) (aZ : Array Value) (hw : ∀ d ∈ tables_1, d.before aZ Z = true) (ws : List Jvm.Cond) (a0 : Addr) (h0 : Heap) (n0 : Nat) (Z0 : n0 ≤ h0.size) :
    MetFree l (⟨"java/util/AbstractMap", "<init>", "()V"⟩ : MethodName) (head1 (Jvm.Cond.code (⟨"java/util/AbstractMap", "<init>", "()V"⟩ : MethodName) jdk_71_method_1_code 1 none :: ws) ({ frames := 1, cells := 0, slots := 0, locals := 12 } : Room)) (fun a U => a = #[(.ref a0)] ∧ Z.Warmed39 U.vm ∧ U.heap = h0) (fun _ _ _ _ _ => True) (fun _ U o U' => ∃ v L, o = .returned v ∧ Q8 Z a0 h0 n0 v U'.heap L ∧ FrameEnd U o U' L 0 0) := by
  refine MetFree.of_bodySF (plainFor_of_name pn_4) hisR ?_
  intro p e s m args below meth c s₁ Bd hml0 hP hK
  obtain ⟨rfl, hZ, hh⟩ := hP
  have hx := Bd.exec
  have hby := Bd.bytes
  have hml : c.maxLocals = 1 := hml0
  have hown : s.vm.findClass "java/util/AbstractMap" = some m.cls := findClass_of_methodNamed Bd.named
  have hnm := (name_of_methodNamed Bd.named Bd.method).1
  have hlk := BodyLoose.notSynchronized Bd
  have X0 : Stand p l e ({ frames := 1, cells := 0, slots := 0, locals := 12 } : Room) s m #[(.ref a0)] below meth c s₁ [] 0 0 := Stand.of_body Bd
  have e0 : s₁.heap = h0 := by rw [← hh, Bd.state]; rfl
  have N0 := Fr.nil n0
  have hk0 : 0 ≤ 0 := Nat.zero_le _
  have hn0 : 0 ≤ 0 := Nat.zero_le _
  show OwnEnds p e below (OwnQ s (Q8 Z a0 h0 n0) 0 0) (s₁.setTop (entryFrame m #[(.ref a0)] 1))
  refine .pre (fun t k => castTop (ef_8 m a0) k) ?_
  show OwnEnds p e below _ (s₁.setTop (mkF m 0 #[.val (.ref a0)] []))
  refine .pre (fun _ kq => XS.aloadN X0.here hx rfl (hb hby d8_0) rfl rfl kq) ?_
  show OwnEnds p e below _ (s₁.setTop (mkF m 1 #[.val (.ref a0)] [(.ref a0)]))
  obtain ⟨T1, X1, e1, st1⟩ := initO X0 hx hZ hown (hw _ (List.mem_of_getElem? (i := 49) rfl)) (hw _ (List.mem_of_getElem? (i := 26) rfl)) (hw _ (List.mem_of_getElem? (i := 27) rfl)) e0 (g := (mkF m 1 #[.val (.ref a0)] [(.ref a0)])) rfl (by rw [hml]; rfl) rfl (hb hby d8_1) (by decide) (W := 0) (by show 2 * 0 + _ ≤ _; exact Nat.le_of_eq rfl) (by decide)
  refine .pre (fun _ kq => st1 _ kq) ?_
  show OwnEnds p e below _ (T1.setTop (mkF m 4 #[.val (.ref a0)] []))
  exact own_endV X1 hx hlk Bd.returns (hb hby d8_4) (by decide) (by decide) ⟨rfl, N0, e1⟩
theorem d7_0 : decode jdk_2776_method_8_code 0 = .ok (.aload_n 0, 1) := by decide +kernel
theorem d7_1 : decode jdk_2776_method_8_code 1 = .ok (.invokespecial 67, 3) := by decide +kernel
theorem d7_4 : decode jdk_2776_method_8_code 4 = .ok (.return_, 1) := by decide +kernel
theorem ef_7 (m : MethodId) (a0 : Addr) : entryFrame m #[(.ref a0)] 1 = mkF m 0 #[.val (.ref a0)] [] := by first | (simp [entryFrame, mkF, argsToLocals, Value.category]; done) | rfl
theorem pn_5 : plainName "java/util/concurrent/ConcurrentHashMap" = true := by first | (simp [plainName, overriddenIn]; done) | decide +kernel
def Q7 (Z : State) (a0 : Addr) (h0 : Heap) (n0 : Nat) (v : Option Value) (h : Heap) (L : List Loc) : Prop := v = none ∧ Fr n0 L ∧ h = h0
set_option maxRecDepth 65536 in
set_option maxHeartbeats 40000000 in
theorem rm7 (l : Launch) (Z : State) (aZ : Array Value) (hw : ∀ d ∈ tables_1, d.before aZ Z = true) (ws : List Jvm.Cond) (a0 : Addr) (h0 : Heap) (n0 : Nat) (Z0 : n0 ≤ h0.size) :
    MetFree l (⟨"java/util/concurrent/ConcurrentHashMap", "<init>", "()V"⟩ : MethodName) (head1 (Jvm.Cond.code (⟨"java/util/concurrent/ConcurrentHashMap", "<init>", "()V"⟩ : MethodName) jdk_2776_method_8_code 1 none :: ws) ({ frames := 2, cells := 0, slots := 0, locals := 24 } : Room)) (fun a U => a = #[(.ref a0)] ∧ Z.Warmed39 U.vm ∧ U.heap = h0) (fun _ _ _ _ _ => True) (fun _ U o U' => ∃ v L, o = .returned v ∧ Q7 Z a0 h0 n0 v U'.heap L ∧ FrameEnd U o U' L 0 0) := by
  refine MetFree.of_bodySF (plainFor_of_name pn_5) hisR ?_
  intro p e s m args below meth c s₁ Bd hml0 hP hK
  obtain ⟨rfl, hZ, hh⟩ := hP
  have hx := Bd.exec
  have hby := Bd.bytes
  have hml : c.maxLocals = 1 := hml0
  have hown : s.vm.findClass "java/util/concurrent/ConcurrentHashMap" = some m.cls := findClass_of_methodNamed Bd.named
  have hnm := (name_of_methodNamed Bd.named Bd.method).1
  have hlk := BodyLoose.notSynchronized Bd
  have X0 : Stand p l e ({ frames := 2, cells := 0, slots := 0, locals := 24 } : Room) s m #[(.ref a0)] below meth c s₁ [] 0 0 := Stand.of_body Bd
  have e0 : s₁.heap = h0 := by rw [← hh, Bd.state]; rfl
  have N0 := Fr.nil n0
  have hk0 : 0 ≤ 0 := Nat.zero_le _
  have hn0 : 0 ≤ 0 := Nat.zero_le _
  show OwnEnds p e below (OwnQ s (Q7 Z a0 h0 n0) 0 0) (s₁.setTop (entryFrame m #[(.ref a0)] 1))
  refine .pre (fun t k => castTop (ef_7 m a0) k) ?_
  show OwnEnds p e below _ (s₁.setTop (mkF m 0 #[.val (.ref a0)] []))
  refine .pre (fun _ kq => XS.aloadN X0.here hx rfl (hb hby d7_0) rfl rfl kq) ?_
  show OwnEnds p e below _ (s₁.setTop (mkF m 1 #[.val (.ref a0)] [(.ref a0)]))
  obtain ⟨_, _, ⟨T1, L1, k1, n1⟩, -, X1, ⟨Lc1, hQ1, l1, y1, z1⟩, st1⟩ := X0.specialBack hx (y := (⟨"java/util/AbstractMap", "<init>", "()V"⟩ : MethodName)) rfl hown (mvT hZ (hw _ (List.mem_of_getElem? (i := 43) rfl))) (mvT hZ (hw _ (List.mem_of_getElem? (i := 44) rfl))) (mvT hZ (hw _ (List.mem_of_getElem? (i := 48) rfl))) (by decide) (backOf (W := 0) (rm8 l Z aZ hw [] a0 h0 n0 Z0) hZ (hw _ (List.mem_of_getElem? (i := 48) rfl)) (hw _ (List.mem_of_getElem? (i := 47) rfl)) (by decide) (by decide)) (g := (mkF m 1 #[.val (.ref a0)] [(.ref a0)])) rfl (by rw [hml]; rfl) (Steps.refl _) (a := a0) (argsL := []) (rest := []) (lenOf pd_2 rfl) rfl (by show 2 * 0 + _ ≤ _; exact Nat.le_of_eq rfl) (hb hby d7_1) (fun _ _ => ⟨rfl, e0, (by decide : 0 + 0 ≤ _), (by decide : 0 + 0 ≤ _)⟩)
  dsimp only [Pt.U, Pt.locs, Pt.cells, Pt.slots] at X1 l1 y1 z1 st1 hQ1
  try dsimp only [Nat.reduceAdd] at y1 z1
  subst y1 z1
  obtain ⟨rfl, N1q, e1⟩ := hQ1
  have N1 : Fr n0 L1 := by rw [l1]; exact Fr.app N0 N1q
  refine .pre (fun _ kq => st1.trans kq) ?_
  show OwnEnds p e below _ (T1.setTop (mkF m 4 #[.val (.ref a0)] []))
  exact own_endV X1 hx hlk Bd.returns (hb hby d7_4) (by decide) (by decide) ⟨rfl, N1, e1⟩
theorem d6_0 : decode prog_39_method_1_code 0 = .ok (.aload_n 0, 1) := by decide +kernel
theorem d6_1 : decode prog_39_method_1_code 1 = .ok (.invokespecial 1, 3) := by decide +kernel
theorem d6_4 : decode prog_39_method_1_code 4 = .ok (.aload_n 0, 1) := by decide +kernel
theorem d6_5 : decode prog_39_method_1_code 5 = .ok (.new 7, 3) := by decide +kernel
theorem d6_8 : decode prog_39_method_1_code 8 = .ok (.dup, 1) := by decide +kernel
theorem d6_9 : decode prog_39_method_1_code 9 = .ok (.invokespecial 9, 3) := by decide +kernel
theorem d6_12 : decode prog_39_method_1_code 12 = .ok (.putfield 10, 3) := by decide +kernel
theorem d6_15 : decode prog_39_method_1_code 15 = .ok (.aload_n 0, 1) := by decide +kernel
theorem d6_16 : decode prog_39_method_1_code 16 = .ok (.new 16, 3) := by decide +kernel
theorem d6_19 : decode prog_39_method_1_code 19 = .ok (.dup, 1) := by decide +kernel
theorem d6_20 : decode prog_39_method_1_code 20 = .ok (.invokespecial 18, 3) := by decide +kernel
theorem d6_23 : decode prog_39_method_1_code 23 = .ok (.putfield 19, 3) := by decide +kernel
theorem d6_26 : decode prog_39_method_1_code 26 = .ok (.aload_n 0, 1) := by decide +kernel
theorem d6_27 : decode prog_39_method_1_code 27 = .ok (.sipush 1024, 3) := by decide +kernel
theorem d6_30 : decode prog_39_method_1_code 30 = .ok (.newarray .int, 2) := by decide +kernel
theorem d6_32 : decode prog_39_method_1_code 32 = .ok (.putfield 23, 3) := by decide +kernel
theorem d6_35 : decode prog_39_method_1_code 35 = .ok (.aload_n 0, 1) := by decide +kernel
theorem d6_36 : decode prog_39_method_1_code 36 = .ok (.sipush 1024, 3) := by decide +kernel
theorem d6_39 : decode prog_39_method_1_code 39 = .ok (.newarray .int, 2) := by decide +kernel
theorem d6_41 : decode prog_39_method_1_code 41 = .ok (.putfield 27, 3) := by decide +kernel
theorem d6_44 : decode prog_39_method_1_code 44 = .ok (.aload_n 0, 1) := by decide +kernel
theorem d6_45 : decode prog_39_method_1_code 45 = .ok (.iconst (-1), 1) := by decide +kernel
theorem d6_46 : decode prog_39_method_1_code 46 = .ok (.putfield 30, 3) := by decide +kernel
theorem d6_49 : decode prog_39_method_1_code 49 = .ok (.aload_n 0, 1) := by decide +kernel
theorem d6_50 : decode prog_39_method_1_code 50 = .ok (.aload_n 1, 1) := by decide +kernel
theorem d6_51 : decode prog_39_method_1_code 51 = .ok (.putfield 34, 3) := by decide +kernel
theorem d6_54 : decode prog_39_method_1_code 54 = .ok (.aload_n 0, 1) := by decide +kernel
theorem d6_55 : decode prog_39_method_1_code 55 = .ok (.iload_n 2, 1) := by decide +kernel
theorem d6_56 : decode prog_39_method_1_code 56 = .ok (.putfield 37, 3) := by decide +kernel
theorem d6_59 : decode prog_39_method_1_code 59 = .ok (.iload_n 2, 1) := by decide +kernel
theorem d6_60 : decode prog_39_method_1_code 60 = .ok (.ifCond .eq 9, 3) := by decide +kernel
theorem d6_63 : decode prog_39_method_1_code 63 = .ok (.sipush 1024, 3) := by decide +kernel
theorem d6_66 : decode prog_39_method_1_code 66 = .ok (.goto 4, 3) := by decide +kernel
theorem d6_69 : decode prog_39_method_1_code 69 = .ok (.iconst 0, 1) := by decide +kernel
theorem d6_70 : decode prog_39_method_1_code 70 = .ok (.istore_n 3, 1) := by decide +kernel
theorem d6_71 : decode prog_39_method_1_code 71 = .ok (.aload_n 0, 1) := by decide +kernel
theorem d6_72 : decode prog_39_method_1_code 72 = .ok (.iload_n 3, 1) := by decide +kernel
theorem d6_73 : decode prog_39_method_1_code 73 = .ok (.newarray .int, 2) := by decide +kernel
theorem d6_75 : decode prog_39_method_1_code 75 = .ok (.putfield 41, 3) := by decide +kernel
theorem d6_78 : decode prog_39_method_1_code 78 = .ok (.aload_n 0, 1) := by decide +kernel
theorem d6_79 : decode prog_39_method_1_code 79 = .ok (.iload_n 3, 1) := by decide +kernel
theorem d6_80 : decode prog_39_method_1_code 80 = .ok (.newarray .int, 2) := by decide +kernel
theorem d6_82 : decode prog_39_method_1_code 82 = .ok (.putfield 44, 3) := by decide +kernel
theorem d6_85 : decode prog_39_method_1_code 85 = .ok (.aload_n 0, 1) := by decide +kernel
theorem d6_86 : decode prog_39_method_1_code 86 = .ok (.iload_n 3, 1) := by decide +kernel
theorem d6_87 : decode prog_39_method_1_code 87 = .ok (.newarray .int, 2) := by decide +kernel
theorem d6_89 : decode prog_39_method_1_code 89 = .ok (.putfield 47, 3) := by decide +kernel
theorem d6_92 : decode prog_39_method_1_code 92 = .ok (.aload_n 0, 1) := by decide +kernel
theorem d6_93 : decode prog_39_method_1_code 93 = .ok (.iload_n 3, 1) := by decide +kernel
theorem d6_94 : decode prog_39_method_1_code 94 = .ok (.newarray .int, 2) := by decide +kernel
theorem d6_96 : decode prog_39_method_1_code 96 = .ok (.putfield 50, 3) := by decide +kernel
theorem d6_99 : decode prog_39_method_1_code 99 = .ok (.return_, 1) := by decide +kernel
theorem ef_6 (m : MethodId) (a0 : Addr) (a1 : Addr) : entryFrame m #[(.ref a0), (.ref a1), (.int (1 : Int32))] 4 = mkF m 0 #[.val (.ref a0), .val (.ref a1), .val (.int (1 : Int32)), .unset] [] := by first | (simp [entryFrame, mkF, argsToLocals, Value.category]; done) | rfl
theorem pn_6 : plainName "com/example/changeset/changeset/check/StateGraph" = true := by first | (simp [plainName, overriddenIn]; done) | decide +kernel
def Q6 (Z : State) (a0 : Addr) (a1 : Addr) (xD : Addr) (h0 : Heap) (n0 : Nat) (v : Option Value) (h : Heap) (L : List Loc) : Prop := v = none ∧ Fr n0 L ∧ Keep h0 h [a0] ∧ ∃ aL aP aR aF aE aT aA : Addr, OwnG Z h a0 aL aP aR aF aE aT aA (-1) 0 0 (fun _ => 0) (fun _ => 0) ∧ OwnL Z h aL xD 0 0 ∧ [a0, aL, aP, aR, aF, aE, aT, aA].Pairwise (· ≠ ·) ∧ ∀ x ∈ [aL, aP, aR, aF, aE, aT, aA], n0 ≤ x
set_option maxRecDepth 65536 in
set_option maxHeartbeats 40000000 in
theorem rm6 (l : Launch) (Z : State) (aZ : Array Value) (hw : ∀ d ∈ tables_1, d.before aZ Z = true) (ws : List Jvm.Cond) (a0 : Addr) (a1 : Addr) (xD : Addr) (h0 : Heap) (n0 : Nat) (Z0 : n0 ≤ h0.size) (SD : Sta Z h0 "java/util/ArrayList" "DEFAULTCAPACITY_EMPTY_ELEMENTDATA" "[Ljava/lang/Object;" (.ref xD)) (RX : OwnR Z h0 xD "java/lang/Object" (0 : Int32)) (g_a0 : n0 ≤ a0) (EG : Exa Z h0 a0 "com/example/changeset/changeset/check/StateGraph") (G0 : Fld Z h0 a0 "com/example/changeset/changeset/check/StateGraph" "found" "Ljava/util/Map;" .null) (G1 : Fld Z h0 a0 "com/example/changeset/changeset/check/StateGraph" "states" "Ljava/util/List;" .null) (G2 : Fld Z h0 a0 "com/example/changeset/changeset/check/StateGraph" "predecessors" "[I" .null) (G3 : Fld Z h0 a0 "com/example/changeset/changeset/check/StateGraph" "reachedBy" "[I" .null) (G4 : Fld Z h0 a0 "com/example/changeset/changeset/check/StateGraph" "lastWithEdges" "I" (.int (0 : Int32))) (G5 : Fld Z h0 a0 "com/example/changeset/changeset/check/StateGraph" "actions" "Ljava/util/List;" .null) (G6 : Fld Z h0 a0 "com/example/changeset/changeset/check/StateGraph" "keepsEdges" "Z" (.int (0 : Int32))) (G7 : Fld Z h0 a0 "com/example/changeset/changeset/check/StateGraph" "firstEdges" "[I" .null) (G8 : Fld Z h0 a0 "com/example/changeset/changeset/check/StateGraph" "lastEdgeFrom" "[I" .null) (G9 : Fld Z h0 a0 "com/example/changeset/changeset/check/StateGraph" "edgeTargets" "[I" .null) (G10 : Fld Z h0 a0 "com/example/changeset/changeset/check/StateGraph" "edgeActions" "[I" .null) (G11 : Fld Z h0 a0 "com/example/changeset/changeset/check/StateGraph" "initialStates" "I" (.int (0 : Int32))) (G12 : Fld Z h0 a0 "com/example/changeset/changeset/check/StateGraph" "edges" "I" (.int (0 : Int32))) (x0 : a0 ≠ xD) :
    MetFree l (⟨"com/example/changeset/changeset/check/StateGraph", "<init>", "(Ljava/util/List;Z)V"⟩ : MethodName) (head1 (Jvm.Cond.code (⟨"com/example/changeset/changeset/check/StateGraph", "<init>", "(Ljava/util/List;Z)V"⟩ : MethodName) prog_39_method_1_code 4 none :: ws) ({ frames := 4, cells := 8, slots := 6159, locals := 64 } : Room)) (fun a U => a = #[(.ref a0), (.ref a1), (.int (1 : Int32))] ∧ Z.Warmed39 U.vm ∧ U.heap = h0) (fun _ _ _ _ _ => True) (fun _ U o U' => ∃ v L, o = .returned v ∧ Q6 Z a0 a1 xD h0 n0 v U'.heap L ∧ FrameEnd U o U' L 8 6159) := by
  refine MetFree.of_bodySF (plainFor_of_name pn_6) hisR ?_
  intro p e s m args below meth c s₁ Bd hml0 hP hK
  obtain ⟨rfl, hZ, hh⟩ := hP
  have hx := Bd.exec
  have hby := Bd.bytes
  have hml : c.maxLocals = 4 := hml0
  have hown : s.vm.findClass "com/example/changeset/changeset/check/StateGraph" = some m.cls := findClass_of_methodNamed Bd.named
  have hnm := (name_of_methodNamed Bd.named Bd.method).1
  have hlk := BodyLoose.notSynchronized Bd
  have X0 : Stand p l e ({ frames := 4, cells := 8, slots := 6159, locals := 64 } : Room) s m #[(.ref a0), (.ref a1), (.int (1 : Int32))] below meth c s₁ [] 0 0 := Stand.of_body Bd
  have e0 : s₁.heap = h0 := by rw [← hh, Bd.state]; rfl
  have N0 := Fr.nil n0
  have hk0 : 0 ≤ 8 := Nat.zero_le _
  have hn0 : 0 ≤ 6159 := Nat.zero_le _
  show OwnEnds p e below (OwnQ s (Q6 Z a0 a1 xD h0 n0) 8 6159) (s₁.setTop (entryFrame m #[(.ref a0), (.ref a1), (.int (1 : Int32))] 4))
  refine .pre (fun t k => castTop (ef_6 m a0 a1) k) ?_
  show OwnEnds p e below _ (s₁.setTop (mkF m 0 #[.val (.ref a0), .val (.ref a1), .val (.int (1 : Int32)), .unset] []))
  refine .pre (fun _ kq => XS.aloadN X0.here hx rfl (hb hby d6_0) rfl rfl kq) ?_
  show OwnEnds p e below _ (s₁.setTop (mkF m 1 #[.val (.ref a0), .val (.ref a1), .val (.int (1 : Int32)), .unset] [(.ref a0)]))
  obtain ⟨T1, X1, e1, st1⟩ := initO X0 hx hZ hown (hw _ (List.mem_of_getElem? (i := 36) rfl)) (hw _ (List.mem_of_getElem? (i := 26) rfl)) (hw _ (List.mem_of_getElem? (i := 27) rfl)) e0 (g := (mkF m 1 #[.val (.ref a0), .val (.ref a1), .val (.int (1 : Int32)), .unset] [(.ref a0)])) rfl (by rw [hml]; rfl) rfl (hb hby d6_1) (by decide) (W := 0) (by show 2 * 0 + _ ≤ _; exact Nat.le_of_eq rfl) (by decide)
  refine .pre (fun _ kq => st1 _ kq) ?_
  show OwnEnds p e below _ (T1.setTop (mkF m 4 #[.val (.ref a0), .val (.ref a1), .val (.int (1 : Int32)), .unset] []))
  refine .pre (fun _ kq => XS.aloadN X1.here hx rfl (hb hby d6_4) rfl rfl kq) ?_
  show OwnEnds p e below _ (T1.setTop (mkF m 5 #[.val (.ref a0), .val (.ref a1), .val (.int (1 : Int32)), .unset] [(.ref a0)]))
  obtain ⟨T2, h2, X2, e2, E2, A2, D2, U2, st2⟩ := newO X1 hx hZ hown (hw _ (List.mem_of_getElem? (i := 37) rfl)) (hw _ (List.mem_of_getElem? (i := 38) rfl)) (hw _ (List.mem_of_getElem? (i := 39) rfl)) e1 (g := (mkF m 5 #[.val (.ref a0), .val (.ref a1), .val (.int (1 : Int32)), .unset] [(.ref a0)])) rfl (hb hby d6_5) (by decide) (by decide)
  obtain ⟨b2, g2⟩ : ∃ z, z = h0.size := ⟨_, rfl⟩
  rw [← g2] at A2 D2 U2 st2
  have g_b2 : n0 ≤ b2 := Nat.le_trans Z0 (Nat.le_of_eq g2.symm)
  have sz_b2 : h0.size ≤ b2 := Nat.le_trans (Keep.refl h0 [a0]).1 (Nat.le_of_eq g2.symm)
  have Kp2 : Keep h0 h2 [a0] := (Keep.refl h0 [a0]).ext E2
  refine .pre (fun _ kq => st2 _ kq) ?_
  show OwnEnds p e below _ (T2.setTop (mkF m 8 #[.val (.ref a0), .val (.ref a1), .val (.int (1 : Int32)), .unset] [(.ref b2), (.ref a0)]))
  refine .pre (fun _ kq => XS.dup X2.here hx rfl (hb hby d6_8) rfl rfl kq) ?_
  show OwnEnds p e below _ (T2.setTop (mkF m 9 #[.val (.ref a0), .val (.ref a1), .val (.int (1 : Int32)), .unset] [(.ref b2), (.ref b2), (.ref a0)]))
  obtain ⟨_, _, ⟨T3, L3, k3, n3⟩, -, X3, ⟨Lc3, hQ3, l3, y3, z3⟩, st3⟩ := X2.specialBack hx (y := (⟨"java/util/concurrent/ConcurrentHashMap", "<init>", "()V"⟩ : MethodName)) rfl hown (mvT hZ (hw _ (List.mem_of_getElem? (i := 40) rfl))) (mvT hZ (hw _ (List.mem_of_getElem? (i := 41) rfl))) (mvT hZ (hw _ (List.mem_of_getElem? (i := 42) rfl))) (by decide) (backOf (W := 2) (rm7 l Z aZ hw [] b2 h2 n0 (Nat.le_trans Z0 E2.1)) hZ (hw _ (List.mem_of_getElem? (i := 42) rfl)) (hw _ (List.mem_of_getElem? (i := 39) rfl)) (by decide) (by decide)) (g := (mkF m 9 #[.val (.ref a0), .val (.ref a1), .val (.int (1 : Int32)), .unset] [(.ref b2), (.ref b2), (.ref a0)])) rfl (by rw [hml]; rfl) (Steps.refl _) (a := b2) (argsL := []) (rest := [(.ref b2), (.ref a0)]) (lenOf pd_2 rfl) rfl (by show 2 * 0 + _ ≤ _; exact Nat.le_of_eq rfl) (hb hby d6_9) (fun _ _ => ⟨rfl, e2, (by decide : 1 + 0 ≤ _), (by decide : 12 + 0 ≤ _)⟩)
  dsimp only [Pt.U, Pt.locs, Pt.cells, Pt.slots] at X3 l3 y3 z3 st3 hQ3
  try dsimp only [Nat.reduceAdd] at y3 z3
  subst y3 z3
  obtain ⟨rfl, N3q, e3⟩ := hQ3
  have N3 : Fr n0 L3 := by rw [l3]; exact Fr.app N0 N3q
  refine .pre (fun _ kq => st3.trans kq) ?_
  show OwnEnds p e below _ (T3.setTop (mkF m 12 #[.val (.ref a0), .val (.ref a1), .val (.int (1 : Int32)), .unset] [(.ref b2), (.ref a0)]))
  obtain ⟨T4, h4, X4, e4, W4, st4⟩ := putF X3 hx hZ hown (host := "") (Or.inl (hw _ (List.mem_of_getElem? (i := 50) rfl))) Via.refl e3 (G0.ext E2) (EG.ext E2) (Or.inr ⟨(hw _ (List.mem_of_getElem? (i := 51) rfl)), rfl, hnm⟩) (hw _ (List.mem_of_getElem? (i := 5) rfl)) (ty := (.object "java/util/Map")) (by decide) rfl rfl (g := (mkF m 12 #[.val (.ref a0), .val (.ref a1), .val (.int (1 : Int32)), .unset] [(.ref b2), (.ref a0)])) rfl rfl (hb hby d6_12)
  have Fw4 := (G0.ext E2).same W4
  have N4 := Fr.snoc X4 N3 g_a0
  have Kp4 : Keep h0 h4 [a0] := Kp2.wr W4 (Or.inl (List.mem_of_getElem? (i := 0) rfl))
  refine .pre (fun _ kq => st4 _ kq) ?_
  show OwnEnds p e below _ (T4.setTop (mkF m 15 #[.val (.ref a0), .val (.ref a1), .val (.int (1 : Int32)), .unset] []))
  refine .pre (fun _ kq => XS.aloadN X4.here hx rfl (hb hby d6_15) rfl rfl kq) ?_
  show OwnEnds p e below _ (T4.setTop (mkF m 16 #[.val (.ref a0), .val (.ref a1), .val (.int (1 : Int32)), .unset] [(.ref a0)]))
  obtain ⟨T5, h5, X5, e5, E5, A5, D5, U5, st5⟩ := newO X4 hx hZ hown (hw _ (List.mem_of_getElem? (i := 52) rfl)) (hw _ (List.mem_of_getElem? (i := 8) rfl)) (hw _ (List.mem_of_getElem? (i := 9) rfl)) e4 (g := (mkF m 16 #[.val (.ref a0), .val (.ref a1), .val (.int (1 : Int32)), .unset] [(.ref a0)])) rfl (hb hby d6_16) (by decide) (by decide)
  obtain ⟨b5, g5⟩ : ∃ z, z = h4.size := ⟨_, rfl⟩
  rw [← g5] at A5 D5 U5 st5
  have g_b5 : n0 ≤ b5 := Nat.le_trans (Nat.le_trans (Nat.le_trans Z0 E2.1) (Keep.of_wr W4).1) (Nat.le_of_eq g5.symm)
  have sz_b5 : h0.size ≤ b5 := Nat.le_trans Kp4.1 (Nat.le_of_eq g5.symm)
  have Kp5 : Keep h0 h5 [a0] := Kp4.ext E5
  have F5_modCount : Fld Z h5 b5 "java/util/AbstractList" "modCount" "I" (.int (0 : Int32)) := D5 (Or.inl (hw _ (List.mem_of_getElem? (i := 29) rfl))) (ty := .int) (by decide)
  have F5_elementData : Fld Z h5 b5 "java/util/ArrayList" "elementData" "[Ljava/lang/Object;" .null := D5 (Or.inl (hw _ (List.mem_of_getElem? (i := 32) rfl))) (ty := (.array (.object "java/lang/Object"))) (by decide)
  have F5_size : Fld Z h5 b5 "java/util/ArrayList" "size" "I" (.int (0 : Int32)) := D5 (Or.inl (hw _ (List.mem_of_getElem? (i := 108) rfl))) (ty := .int) (by decide)
  refine .pre (fun _ kq => st5 _ kq) ?_
  show OwnEnds p e below _ (T5.setTop (mkF m 19 #[.val (.ref a0), .val (.ref a1), .val (.int (1 : Int32)), .unset] [(.ref b5), (.ref a0)]))
  refine .pre (fun _ kq => XS.dup X5.here hx rfl (hb hby d6_19) rfl rfl kq) ?_
  show OwnEnds p e below _ (T5.setTop (mkF m 20 #[.val (.ref a0), .val (.ref a1), .val (.int (1 : Int32)), .unset] [(.ref b5), (.ref b5), (.ref a0)]))
  obtain ⟨_, _, ⟨T6, L6, k6, n6⟩, -, X6, ⟨Lc6, hQ6, l6, y6, z6⟩, st6⟩ := X5.specialBack hx (y := (⟨"java/util/ArrayList", "<init>", "()V"⟩ : MethodName)) rfl hown (mvT hZ (hw _ (List.mem_of_getElem? (i := 53) rfl))) (mvT hZ (hw _ (List.mem_of_getElem? (i := 11) rfl))) (mvT hZ (hw _ (List.mem_of_getElem? (i := 12) rfl))) (by decide) (backOf (W := 2) (rm2 l Z aZ hw [] b5 xD (.int (0 : Int32)) .null (.int (0 : Int32)) h5 n0 (Nat.le_trans (Nat.le_trans (Nat.le_trans Z0 E2.1) (Keep.of_wr W4).1) E5.1) (Sta.ext E5 (Sta.wr W4 (Sta.ext E2 SD))) g_b5 A5 F5_modCount F5_elementData F5_size) hZ (hw _ (List.mem_of_getElem? (i := 12) rfl)) (hw _ (List.mem_of_getElem? (i := 9) rfl)) (by decide) (by decide)) (g := (mkF m 20 #[.val (.ref a0), .val (.ref a1), .val (.int (1 : Int32)), .unset] [(.ref b5), (.ref b5), (.ref a0)])) rfl (by rw [hml]; rfl) (Steps.refl _) (a := b5) (argsL := []) (rest := [(.ref b5), (.ref a0)]) (lenOf pd_2 rfl) rfl (by show 2 * 0 + _ ≤ _; exact Nat.le_of_eq rfl) (hb hby d6_20) (fun _ _ => ⟨rfl, e5, (by decide : 2 + 0 ≤ _), (by decide : 15 + 0 ≤ _)⟩)
  dsimp only [Pt.U, Pt.locs, Pt.cells, Pt.slots] at X6 l6 y6 z6 st6 hQ6
  try dsimp only [Nat.reduceAdd] at y6 z6
  subst y6 z6
  obtain ⟨rfl, N6q, K6, Ea6, Fa6_0, Fa6_1, Fa6_2⟩ := hQ6
  have N6 : Fr n0 L6 := by rw [l6]; exact Fr.app N4 N6q
  refine .pre (fun _ kq => st6.trans kq) ?_
  have Kp6 : Keep h0 T6.heap [a0] := Kp5.trans K6 (allS (Or.inr sz_b5) all0)
  show OwnEnds p e below _ (T6.setTop (mkF m 23 #[.val (.ref a0), .val (.ref a1), .val (.int (1 : Int32)), .unset] [(.ref b5), (.ref a0)]))
  obtain ⟨T7, h7, X7, e7, W7, st7⟩ := putF X6 hx hZ hown (host := "") (Or.inl (hw _ (List.mem_of_getElem? (i := 54) rfl))) Via.refl rfl ((((G1.ext E2).other W4 (Or.inr (slot_ne (Or.inr (hw _ (List.mem_of_getElem? (i := 55) rfl))) (Or.inr (hw _ (List.mem_of_getElem? (i := 51) rfl))) (by decide) (t := (.object "java/util/List")) (t' := (.object "java/util/Map")) (by decide) (by decide)))).ext E5).keep K6 (own_nin1 (Nat.ne_of_lt (Nat.lt_of_lt_of_le ((EG.ext E2).wr W4).lt (Nat.le_of_eq g5.symm))))) ((((EG.ext E2).wr W4).ext E5).keep K6) (Or.inr ⟨(hw _ (List.mem_of_getElem? (i := 55) rfl)), rfl, hnm⟩) (hw _ (List.mem_of_getElem? (i := 5) rfl)) (ty := (.object "java/util/List")) (by decide) rfl rfl (g := (mkF m 23 #[.val (.ref a0), .val (.ref a1), .val (.int (1 : Int32)), .unset] [(.ref b5), (.ref a0)])) rfl rfl (hb hby d6_23)
  have Fw7 := ((((G1.ext E2).other W4 (Or.inr (slot_ne (Or.inr (hw _ (List.mem_of_getElem? (i := 55) rfl))) (Or.inr (hw _ (List.mem_of_getElem? (i := 51) rfl))) (by decide) (t := (.object "java/util/List")) (t' := (.object "java/util/Map")) (by decide) (by decide)))).ext E5).keep K6 (own_nin1 (Nat.ne_of_lt (Nat.lt_of_lt_of_le ((EG.ext E2).wr W4).lt (Nat.le_of_eq g5.symm))))).same W7
  have N7 := Fr.snoc X7 N6 g_a0
  have Kp7 : Keep h0 h7 [a0] := Kp6.wr W7 (Or.inl (List.mem_of_getElem? (i := 0) rfl))
  refine .pre (fun _ kq => st7 _ kq) ?_
  show OwnEnds p e below _ (T7.setTop (mkF m 26 #[.val (.ref a0), .val (.ref a1), .val (.int (1 : Int32)), .unset] []))
  refine .pre (fun _ kq => XS.aloadN X7.here hx rfl (hb hby d6_26) rfl rfl kq) ?_
  show OwnEnds p e below _ (T7.setTop (mkF m 27 #[.val (.ref a0), .val (.ref a1), .val (.int (1 : Int32)), .unset] [(.ref a0)]))
  refine .pre (fun _ kq => XS.sipush X7.here hx rfl (hb hby d6_27) kq) ?_
  show OwnEnds p e below _ (T7.setTop (mkF m 30 #[.val (.ref a0), .val (.ref a1), .val (.int (1 : Int32)), .unset] [(.int (1024 : Int32)), (.ref a0)]))
  obtain ⟨T8, h8, kk8, X8, e8, E8, A8, st8⟩ := newP X7 hx hZ (hw _ (List.mem_of_getElem? (i := 56) rfl)) e7 (g := (mkF m 30 #[.val (.ref a0), .val (.ref a1), .val (.int (1 : Int32)), .unset] [(.int (1024 : Int32)), (.ref a0)])) rfl (hb hby d6_30) rfl (by decide) (cap := 1024) (by decide) (by decide) (by decide) (by decide)
  obtain ⟨b8, g8⟩ : ∃ z, z = h7.size := ⟨_, rfl⟩
  rw [← g8] at A8 st8
  have V_b8 : Arv Z h8 b8 kk8 .int (1024 : Int32) [] (.int (0 : Int32)) := Arv.new A8 (by decide)
  have g_b8 : n0 ≤ b8 := Nat.le_trans (Nat.le_trans (Nat.le_trans (Nat.le_trans (Nat.le_trans (Nat.le_trans Z0 E2.1) (Keep.of_wr W4).1) E5.1) K6.1) (Keep.of_wr W7).1) (Nat.le_of_eq g8.symm)
  have sz_b8 : h0.size ≤ b8 := Nat.le_trans Kp7.1 (Nat.le_of_eq g8.symm)
  have Kp8 : Keep h0 h8 [a0] := Kp7.ext E8
  have VA_b8 : OwnA Z h8 b8 (fun _ => 0) := OwnA.new A8
  refine .pre (fun _ kq => st8 _ kq) ?_
  show OwnEnds p e below _ (T8.setTop (mkF m 32 #[.val (.ref a0), .val (.ref a1), .val (.int (1 : Int32)), .unset] [(.ref b8), (.ref a0)]))
  obtain ⟨T9, h9, X9, e9, W9, st9⟩ := putF X8 hx hZ hown (host := "") (Or.inl (hw _ (List.mem_of_getElem? (i := 57) rfl))) Via.refl e8 ((((((G2.ext E2).other W4 (Or.inr (slot_ne (Or.inl (hw _ (List.mem_of_getElem? (i := 58) rfl))) (Or.inr (hw _ (List.mem_of_getElem? (i := 51) rfl))) (by decide) (t := (.array .int)) (t' := (.object "java/util/Map")) (by decide) (by decide)))).ext E5).keep K6 (own_nin1 (Nat.ne_of_lt (Nat.lt_of_lt_of_le ((EG.ext E2).wr W4).lt (Nat.le_of_eq g5.symm))))).other W7 (Or.inr (slot_ne (Or.inl (hw _ (List.mem_of_getElem? (i := 58) rfl))) (Or.inr (hw _ (List.mem_of_getElem? (i := 55) rfl))) (by decide) (t := (.array .int)) (t' := (.object "java/util/List")) (by decide) (by decide)))).ext E8) ((((((EG.ext E2).wr W4).ext E5).keep K6).wr W7).ext E8) (Or.inl (hw _ (List.mem_of_getElem? (i := 58) rfl))) (hw _ (List.mem_of_getElem? (i := 5) rfl)) (ty := (.array .int)) (by decide) rfl rfl (g := (mkF m 32 #[.val (.ref a0), .val (.ref a1), .val (.int (1 : Int32)), .unset] [(.ref b8), (.ref a0)])) rfl rfl (hb hby d6_32)
  have Fw9 := ((((((G2.ext E2).other W4 (Or.inr (slot_ne (Or.inl (hw _ (List.mem_of_getElem? (i := 58) rfl))) (Or.inr (hw _ (List.mem_of_getElem? (i := 51) rfl))) (by decide) (t := (.array .int)) (t' := (.object "java/util/Map")) (by decide) (by decide)))).ext E5).keep K6 (own_nin1 (Nat.ne_of_lt (Nat.lt_of_lt_of_le ((EG.ext E2).wr W4).lt (Nat.le_of_eq g5.symm))))).other W7 (Or.inr (slot_ne (Or.inl (hw _ (List.mem_of_getElem? (i := 58) rfl))) (Or.inr (hw _ (List.mem_of_getElem? (i := 55) rfl))) (by decide) (t := (.array .int)) (t' := (.object "java/util/List")) (by decide) (by decide)))).ext E8).same W9
  have N9 := Fr.snoc X9 N7 g_a0
  have Kp9 : Keep h0 h9 [a0] := Kp8.wr W9 (Or.inl (List.mem_of_getElem? (i := 0) rfl))
  refine .pre (fun _ kq => st9 _ kq) ?_
  show OwnEnds p e below _ (T9.setTop (mkF m 35 #[.val (.ref a0), .val (.ref a1), .val (.int (1 : Int32)), .unset] []))
  refine .pre (fun _ kq => XS.aloadN X9.here hx rfl (hb hby d6_35) rfl rfl kq) ?_
  show OwnEnds p e below _ (T9.setTop (mkF m 36 #[.val (.ref a0), .val (.ref a1), .val (.int (1 : Int32)), .unset] [(.ref a0)]))
  refine .pre (fun _ kq => XS.sipush X9.here hx rfl (hb hby d6_36) kq) ?_
  show OwnEnds p e below _ (T9.setTop (mkF m 39 #[.val (.ref a0), .val (.ref a1), .val (.int (1 : Int32)), .unset] [(.int (1024 : Int32)), (.ref a0)]))
  obtain ⟨T10, h10, kk10, X10, e10, E10, A10, st10⟩ := newP X9 hx hZ (hw _ (List.mem_of_getElem? (i := 56) rfl)) e9 (g := (mkF m 39 #[.val (.ref a0), .val (.ref a1), .val (.int (1 : Int32)), .unset] [(.int (1024 : Int32)), (.ref a0)])) rfl (hb hby d6_39) rfl (by decide) (cap := 1024) (by decide) (by decide) (by decide) (by decide)
  obtain ⟨b10, g10⟩ : ∃ z, z = h9.size := ⟨_, rfl⟩
  rw [← g10] at A10 st10
  have V_b10 : Arv Z h10 b10 kk10 .int (1024 : Int32) [] (.int (0 : Int32)) := Arv.new A10 (by decide)
  have g_b10 : n0 ≤ b10 := Nat.le_trans (Nat.le_trans (Nat.le_trans (Nat.le_trans (Nat.le_trans (Nat.le_trans (Nat.le_trans (Nat.le_trans Z0 E2.1) (Keep.of_wr W4).1) E5.1) K6.1) (Keep.of_wr W7).1) E8.1) (Keep.of_wr W9).1) (Nat.le_of_eq g10.symm)
  have sz_b10 : h0.size ≤ b10 := Nat.le_trans Kp9.1 (Nat.le_of_eq g10.symm)
  have Kp10 : Keep h0 h10 [a0] := Kp9.ext E10
  have VA_b10 : OwnA Z h10 b10 (fun _ => 0) := OwnA.new A10
  refine .pre (fun _ kq => st10 _ kq) ?_
  show OwnEnds p e below _ (T10.setTop (mkF m 41 #[.val (.ref a0), .val (.ref a1), .val (.int (1 : Int32)), .unset] [(.ref b10), (.ref a0)]))
  obtain ⟨T11, h11, X11, e11, W11, st11⟩ := putF X10 hx hZ hown (host := "") (Or.inl (hw _ (List.mem_of_getElem? (i := 59) rfl))) Via.refl e10 ((((((((G3.ext E2).other W4 (Or.inr (slot_ne (Or.inl (hw _ (List.mem_of_getElem? (i := 60) rfl))) (Or.inr (hw _ (List.mem_of_getElem? (i := 51) rfl))) (by decide) (t := (.array .int)) (t' := (.object "java/util/Map")) (by decide) (by decide)))).ext E5).keep K6 (own_nin1 (Nat.ne_of_lt (Nat.lt_of_lt_of_le ((EG.ext E2).wr W4).lt (Nat.le_of_eq g5.symm))))).other W7 (Or.inr (slot_ne (Or.inl (hw _ (List.mem_of_getElem? (i := 60) rfl))) (Or.inr (hw _ (List.mem_of_getElem? (i := 55) rfl))) (by decide) (t := (.array .int)) (t' := (.object "java/util/List")) (by decide) (by decide)))).ext E8).other W9 (Or.inr (slot_ne (Or.inl (hw _ (List.mem_of_getElem? (i := 60) rfl))) (Or.inl (hw _ (List.mem_of_getElem? (i := 58) rfl))) (by decide) (t := (.array .int)) (t' := (.array .int)) (by decide) (by decide)))).ext E10) ((((((((EG.ext E2).wr W4).ext E5).keep K6).wr W7).ext E8).wr W9).ext E10) (Or.inl (hw _ (List.mem_of_getElem? (i := 60) rfl))) (hw _ (List.mem_of_getElem? (i := 5) rfl)) (ty := (.array .int)) (by decide) rfl rfl (g := (mkF m 41 #[.val (.ref a0), .val (.ref a1), .val (.int (1 : Int32)), .unset] [(.ref b10), (.ref a0)])) rfl rfl (hb hby d6_41)
  have Fw11 := ((((((((G3.ext E2).other W4 (Or.inr (slot_ne (Or.inl (hw _ (List.mem_of_getElem? (i := 60) rfl))) (Or.inr (hw _ (List.mem_of_getElem? (i := 51) rfl))) (by decide) (t := (.array .int)) (t' := (.object "java/util/Map")) (by decide) (by decide)))).ext E5).keep K6 (own_nin1 (Nat.ne_of_lt (Nat.lt_of_lt_of_le ((EG.ext E2).wr W4).lt (Nat.le_of_eq g5.symm))))).other W7 (Or.inr (slot_ne (Or.inl (hw _ (List.mem_of_getElem? (i := 60) rfl))) (Or.inr (hw _ (List.mem_of_getElem? (i := 55) rfl))) (by decide) (t := (.array .int)) (t' := (.object "java/util/List")) (by decide) (by decide)))).ext E8).other W9 (Or.inr (slot_ne (Or.inl (hw _ (List.mem_of_getElem? (i := 60) rfl))) (Or.inl (hw _ (List.mem_of_getElem? (i := 58) rfl))) (by decide) (t := (.array .int)) (t' := (.array .int)) (by decide) (by decide)))).ext E10).same W11
  have N11 := Fr.snoc X11 N9 g_a0
  have Kp11 : Keep h0 h11 [a0] := Kp10.wr W11 (Or.inl (List.mem_of_getElem? (i := 0) rfl))
  refine .pre (fun _ kq => st11 _ kq) ?_
  show OwnEnds p e below _ (T11.setTop (mkF m 44 #[.val (.ref a0), .val (.ref a1), .val (.int (1 : Int32)), .unset] []))
  refine .pre (fun _ kq => XS.aloadN X11.here hx rfl (hb hby d6_44) rfl rfl kq) ?_
  show OwnEnds p e below _ (T11.setTop (mkF m 45 #[.val (.ref a0), .val (.ref a1), .val (.int (1 : Int32)), .unset] [(.ref a0)]))
  refine .pre (fun _ kq => XS.iconst X11.here hx rfl (hb hby d6_45) kq) ?_
  show OwnEnds p e below _ (T11.setTop (mkF m 46 #[.val (.ref a0), .val (.ref a1), .val (.int (1 : Int32)), .unset] [(.int (-1 : Int32)), (.ref a0)]))
  obtain ⟨T12, h12, X12, e12, W12, st12⟩ := putF X11 hx hZ hown (host := "") (Or.inl (hw _ (List.mem_of_getElem? (i := 61) rfl))) Via.refl e11 (((((((((G4.ext E2).other W4 (Or.inr (slot_ne (Or.inl (hw _ (List.mem_of_getElem? (i := 62) rfl))) (Or.inr (hw _ (List.mem_of_getElem? (i := 51) rfl))) (by decide) (t := .int) (t' := (.object "java/util/Map")) (by decide) (by decide)))).ext E5).keep K6 (own_nin1 (Nat.ne_of_lt (Nat.lt_of_lt_of_le ((EG.ext E2).wr W4).lt (Nat.le_of_eq g5.symm))))).other W7 (Or.inr (slot_ne (Or.inl (hw _ (List.mem_of_getElem? (i := 62) rfl))) (Or.inr (hw _ (List.mem_of_getElem? (i := 55) rfl))) (by decide) (t := .int) (t' := (.object "java/util/List")) (by decide) (by decide)))).ext E8).other W9 (Or.inr (slot_ne (Or.inl (hw _ (List.mem_of_getElem? (i := 62) rfl))) (Or.inl (hw _ (List.mem_of_getElem? (i := 58) rfl))) (by decide) (t := .int) (t' := (.array .int)) (by decide) (by decide)))).ext E10).other W11 (Or.inr (slot_ne (Or.inl (hw _ (List.mem_of_getElem? (i := 62) rfl))) (Or.inl (hw _ (List.mem_of_getElem? (i := 60) rfl))) (by decide) (t := .int) (t' := (.array .int)) (by decide) (by decide)))) (((((((((EG.ext E2).wr W4).ext E5).keep K6).wr W7).ext E8).wr W9).ext E10).wr W11) (Or.inl (hw _ (List.mem_of_getElem? (i := 62) rfl))) (hw _ (List.mem_of_getElem? (i := 5) rfl)) (ty := .int) (by decide) rfl rfl (g := (mkF m 46 #[.val (.ref a0), .val (.ref a1), .val (.int (1 : Int32)), .unset] [(.int (-1 : Int32)), (.ref a0)])) rfl rfl (hb hby d6_46)
  have Fw12 := (((((((((G4.ext E2).other W4 (Or.inr (slot_ne (Or.inl (hw _ (List.mem_of_getElem? (i := 62) rfl))) (Or.inr (hw _ (List.mem_of_getElem? (i := 51) rfl))) (by decide) (t := .int) (t' := (.object "java/util/Map")) (by decide) (by decide)))).ext E5).keep K6 (own_nin1 (Nat.ne_of_lt (Nat.lt_of_lt_of_le ((EG.ext E2).wr W4).lt (Nat.le_of_eq g5.symm))))).other W7 (Or.inr (slot_ne (Or.inl (hw _ (List.mem_of_getElem? (i := 62) rfl))) (Or.inr (hw _ (List.mem_of_getElem? (i := 55) rfl))) (by decide) (t := .int) (t' := (.object "java/util/List")) (by decide) (by decide)))).ext E8).other W9 (Or.inr (slot_ne (Or.inl (hw _ (List.mem_of_getElem? (i := 62) rfl))) (Or.inl (hw _ (List.mem_of_getElem? (i := 58) rfl))) (by decide) (t := .int) (t' := (.array .int)) (by decide) (by decide)))).ext E10).other W11 (Or.inr (slot_ne (Or.inl (hw _ (List.mem_of_getElem? (i := 62) rfl))) (Or.inl (hw _ (List.mem_of_getElem? (i := 60) rfl))) (by decide) (t := .int) (t' := (.array .int)) (by decide) (by decide)))).same W12
  have N12 := Fr.snoc X12 N11 g_a0
  have Kp12 : Keep h0 h12 [a0] := Kp11.wr W12 (Or.inl (List.mem_of_getElem? (i := 0) rfl))
  refine .pre (fun _ kq => st12 _ kq) ?_
  show OwnEnds p e below _ (T12.setTop (mkF m 49 #[.val (.ref a0), .val (.ref a1), .val (.int (1 : Int32)), .unset] []))
  refine .pre (fun _ kq => XS.aloadN X12.here hx rfl (hb hby d6_49) rfl rfl kq) ?_
  show OwnEnds p e below _ (T12.setTop (mkF m 50 #[.val (.ref a0), .val (.ref a1), .val (.int (1 : Int32)), .unset] [(.ref a0)]))
  refine .pre (fun _ kq => XS.aloadN X12.here hx rfl (hb hby d6_50) rfl rfl kq) ?_
  show OwnEnds p e below _ (T12.setTop (mkF m 51 #[.val (.ref a0), .val (.ref a1), .val (.int (1 : Int32)), .unset] [(.ref a1), (.ref a0)]))
  obtain ⟨T13, h13, X13, e13, W13, st13⟩ := putF X12 hx hZ hown (host := "") (Or.inl (hw _ (List.mem_of_getElem? (i := 63) rfl))) Via.refl e12 ((((((((((G5.ext E2).other W4 (Or.inr (slot_ne (Or.inr (hw _ (List.mem_of_getElem? (i := 64) rfl))) (Or.inr (hw _ (List.mem_of_getElem? (i := 51) rfl))) (by decide) (t := (.object "java/util/List")) (t' := (.object "java/util/Map")) (by decide) (by decide)))).ext E5).keep K6 (own_nin1 (Nat.ne_of_lt (Nat.lt_of_lt_of_le ((EG.ext E2).wr W4).lt (Nat.le_of_eq g5.symm))))).other W7 (Or.inr (slot_ne (Or.inr (hw _ (List.mem_of_getElem? (i := 64) rfl))) (Or.inr (hw _ (List.mem_of_getElem? (i := 55) rfl))) (by decide) (t := (.object "java/util/List")) (t' := (.object "java/util/List")) (by decide) (by decide)))).ext E8).other W9 (Or.inr (slot_ne (Or.inr (hw _ (List.mem_of_getElem? (i := 64) rfl))) (Or.inl (hw _ (List.mem_of_getElem? (i := 58) rfl))) (by decide) (t := (.object "java/util/List")) (t' := (.array .int)) (by decide) (by decide)))).ext E10).other W11 (Or.inr (slot_ne (Or.inr (hw _ (List.mem_of_getElem? (i := 64) rfl))) (Or.inl (hw _ (List.mem_of_getElem? (i := 60) rfl))) (by decide) (t := (.object "java/util/List")) (t' := (.array .int)) (by decide) (by decide)))).other W12 (Or.inr (slot_ne (Or.inr (hw _ (List.mem_of_getElem? (i := 64) rfl))) (Or.inl (hw _ (List.mem_of_getElem? (i := 62) rfl))) (by decide) (t := (.object "java/util/List")) (t' := .int) (by decide) (by decide)))) ((((((((((EG.ext E2).wr W4).ext E5).keep K6).wr W7).ext E8).wr W9).ext E10).wr W11).wr W12) (Or.inr ⟨(hw _ (List.mem_of_getElem? (i := 64) rfl)), rfl, hnm⟩) (hw _ (List.mem_of_getElem? (i := 5) rfl)) (ty := (.object "java/util/List")) (by decide) rfl rfl (g := (mkF m 51 #[.val (.ref a0), .val (.ref a1), .val (.int (1 : Int32)), .unset] [(.ref a1), (.ref a0)])) rfl rfl (hb hby d6_51)
  have Fw13 := ((((((((((G5.ext E2).other W4 (Or.inr (slot_ne (Or.inr (hw _ (List.mem_of_getElem? (i := 64) rfl))) (Or.inr (hw _ (List.mem_of_getElem? (i := 51) rfl))) (by decide) (t := (.object "java/util/List")) (t' := (.object "java/util/Map")) (by decide) (by decide)))).ext E5).keep K6 (own_nin1 (Nat.ne_of_lt (Nat.lt_of_lt_of_le ((EG.ext E2).wr W4).lt (Nat.le_of_eq g5.symm))))).other W7 (Or.inr (slot_ne (Or.inr (hw _ (List.mem_of_getElem? (i := 64) rfl))) (Or.inr (hw _ (List.mem_of_getElem? (i := 55) rfl))) (by decide) (t := (.object "java/util/List")) (t' := (.object "java/util/List")) (by decide) (by decide)))).ext E8).other W9 (Or.inr (slot_ne (Or.inr (hw _ (List.mem_of_getElem? (i := 64) rfl))) (Or.inl (hw _ (List.mem_of_getElem? (i := 58) rfl))) (by decide) (t := (.object "java/util/List")) (t' := (.array .int)) (by decide) (by decide)))).ext E10).other W11 (Or.inr (slot_ne (Or.inr (hw _ (List.mem_of_getElem? (i := 64) rfl))) (Or.inl (hw _ (List.mem_of_getElem? (i := 60) rfl))) (by decide) (t := (.object "java/util/List")) (t' := (.array .int)) (by decide) (by decide)))).other W12 (Or.inr (slot_ne (Or.inr (hw _ (List.mem_of_getElem? (i := 64) rfl))) (Or.inl (hw _ (List.mem_of_getElem? (i := 62) rfl))) (by decide) (t := (.object "java/util/List")) (t' := .int) (by decide) (by decide)))).same W13
  have N13 := Fr.snoc X13 N12 g_a0
  have Kp13 : Keep h0 h13 [a0] := Kp12.wr W13 (Or.inl (List.mem_of_getElem? (i := 0) rfl))
  refine .pre (fun _ kq => st13 _ kq) ?_
  show OwnEnds p e below _ (T13.setTop (mkF m 54 #[.val (.ref a0), .val (.ref a1), .val (.int (1 : Int32)), .unset] []))
  refine .pre (fun _ kq => XS.aloadN X13.here hx rfl (hb hby d6_54) rfl rfl kq) ?_
  show OwnEnds p e below _ (T13.setTop (mkF m 55 #[.val (.ref a0), .val (.ref a1), .val (.int (1 : Int32)), .unset] [(.ref a0)]))
  refine .pre (fun _ kq => XS.iloadN X13.here hx rfl (hb hby d6_55) rfl kq) ?_
  show OwnEnds p e below _ (T13.setTop (mkF m 56 #[.val (.ref a0), .val (.ref a1), .val (.int (1 : Int32)), .unset] [(.int (1 : Int32)), (.ref a0)]))
  obtain ⟨T14, h14, X14, e14, W14, st14⟩ := putFN X13 hx hZ hown (hw _ (List.mem_of_getElem? (i := 65) rfl)) Via.refl e13 (((((((((((G6.ext E2).other W4 (Or.inr (slot_ne (Or.inr (hw _ (List.mem_of_getElem? (i := 66) rfl))) (Or.inr (hw _ (List.mem_of_getElem? (i := 51) rfl))) (by decide) (t := .boolean) (t' := (.object "java/util/Map")) (by decide) (by decide)))).ext E5).keep K6 (own_nin1 (Nat.ne_of_lt (Nat.lt_of_lt_of_le ((EG.ext E2).wr W4).lt (Nat.le_of_eq g5.symm))))).other W7 (Or.inr (slot_ne (Or.inr (hw _ (List.mem_of_getElem? (i := 66) rfl))) (Or.inr (hw _ (List.mem_of_getElem? (i := 55) rfl))) (by decide) (t := .boolean) (t' := (.object "java/util/List")) (by decide) (by decide)))).ext E8).other W9 (Or.inr (slot_ne (Or.inr (hw _ (List.mem_of_getElem? (i := 66) rfl))) (Or.inl (hw _ (List.mem_of_getElem? (i := 58) rfl))) (by decide) (t := .boolean) (t' := (.array .int)) (by decide) (by decide)))).ext E10).other W11 (Or.inr (slot_ne (Or.inr (hw _ (List.mem_of_getElem? (i := 66) rfl))) (Or.inl (hw _ (List.mem_of_getElem? (i := 60) rfl))) (by decide) (t := .boolean) (t' := (.array .int)) (by decide) (by decide)))).other W12 (Or.inr (slot_ne (Or.inr (hw _ (List.mem_of_getElem? (i := 66) rfl))) (Or.inl (hw _ (List.mem_of_getElem? (i := 62) rfl))) (by decide) (t := .boolean) (t' := .int) (by decide) (by decide)))).other W13 (Or.inr (slot_ne (Or.inr (hw _ (List.mem_of_getElem? (i := 66) rfl))) (Or.inr (hw _ (List.mem_of_getElem? (i := 64) rfl))) (by decide) (t := .boolean) (t' := (.object "java/util/List")) (by decide) (by decide)))) (((((((((((EG.ext E2).wr W4).ext E5).keep K6).wr W7).ext E8).wr W9).ext E10).wr W11).wr W12).wr W13) (Or.inr ⟨(hw _ (List.mem_of_getElem? (i := 66) rfl)), rfl, hnm⟩) (hw _ (List.mem_of_getElem? (i := 5) rfl)) (ty := .boolean) (v' := (.int (1 : Int32))) (by decide) rfl (fits_nar_bool (1 : Int32)) (g := (mkF m 56 #[.val (.ref a0), .val (.ref a1), .val (.int (1 : Int32)), .unset] [(.int (1 : Int32)), (.ref a0)])) rfl rfl (hb hby d6_56)
  have Fw14 := (((((((((((G6.ext E2).other W4 (Or.inr (slot_ne (Or.inr (hw _ (List.mem_of_getElem? (i := 66) rfl))) (Or.inr (hw _ (List.mem_of_getElem? (i := 51) rfl))) (by decide) (t := .boolean) (t' := (.object "java/util/Map")) (by decide) (by decide)))).ext E5).keep K6 (own_nin1 (Nat.ne_of_lt (Nat.lt_of_lt_of_le ((EG.ext E2).wr W4).lt (Nat.le_of_eq g5.symm))))).other W7 (Or.inr (slot_ne (Or.inr (hw _ (List.mem_of_getElem? (i := 66) rfl))) (Or.inr (hw _ (List.mem_of_getElem? (i := 55) rfl))) (by decide) (t := .boolean) (t' := (.object "java/util/List")) (by decide) (by decide)))).ext E8).other W9 (Or.inr (slot_ne (Or.inr (hw _ (List.mem_of_getElem? (i := 66) rfl))) (Or.inl (hw _ (List.mem_of_getElem? (i := 58) rfl))) (by decide) (t := .boolean) (t' := (.array .int)) (by decide) (by decide)))).ext E10).other W11 (Or.inr (slot_ne (Or.inr (hw _ (List.mem_of_getElem? (i := 66) rfl))) (Or.inl (hw _ (List.mem_of_getElem? (i := 60) rfl))) (by decide) (t := .boolean) (t' := (.array .int)) (by decide) (by decide)))).other W12 (Or.inr (slot_ne (Or.inr (hw _ (List.mem_of_getElem? (i := 66) rfl))) (Or.inl (hw _ (List.mem_of_getElem? (i := 62) rfl))) (by decide) (t := .boolean) (t' := .int) (by decide) (by decide)))).other W13 (Or.inr (slot_ne (Or.inr (hw _ (List.mem_of_getElem? (i := 66) rfl))) (Or.inr (hw _ (List.mem_of_getElem? (i := 64) rfl))) (by decide) (t := .boolean) (t' := (.object "java/util/List")) (by decide) (by decide)))).same W14
  have N14 := Fr.snoc X14 N13 g_a0
  have Kp14 : Keep h0 h14 [a0] := Kp13.wr W14 (Or.inl (List.mem_of_getElem? (i := 0) rfl))
  refine .pre (fun _ kq => st14 _ kq) ?_
  show OwnEnds p e below _ (T14.setTop (mkF m 59 #[.val (.ref a0), .val (.ref a1), .val (.int (1 : Int32)), .unset] []))
  refine .pre (fun _ kq => XS.iloadN X14.here hx rfl (hb hby d6_59) rfl kq) ?_
  show OwnEnds p e below _ (T14.setTop (mkF m 60 #[.val (.ref a0), .val (.ref a1), .val (.int (1 : Int32)), .unset] [(.int (1 : Int32))]))
  have hc60 : ¬ ((1 : Int32) = (0 : Int32)) := by decide
  refine .pre (fun _ kq => XS.ifNo X14.here hx rfl (hb hby d6_60) rfl ((if0 _ _).trans (feq hc60).1) kq) ?_
  show OwnEnds p e below _ (T14.setTop (mkF m 63 #[.val (.ref a0), .val (.ref a1), .val (.int (1 : Int32)), .unset] []))
  refine .pre (fun _ kq => XS.sipush X14.here hx rfl (hb hby d6_63) kq) ?_
  show OwnEnds p e below _ (T14.setTop (mkF m 66 #[.val (.ref a0), .val (.ref a1), .val (.int (1 : Int32)), .unset] [(.int (1024 : Int32))]))
  refine .pre (fun _ kq => XS.goto X14.here hx rfl (pc0 := 66) (pc' := 70) rfl (hb hby d6_66) (by decide) (by decide) kq) ?_
  show OwnEnds p e below _ (T14.setTop (mkF m 70 #[.val (.ref a0), .val (.ref a1), .val (.int (1 : Int32)), .unset] [(.int (1024 : Int32))]))
  refine .pre (fun _ kq => XS.istoreN X14.here hx rfl (hb hby d6_70) rfl (l' := #[.val (.ref a0), .val (.ref a1), .val (.int (1 : Int32)), .val (.int (1024 : Int32))]) rfl kq) ?_
  show OwnEnds p e below _ (T14.setTop (mkF m 71 #[.val (.ref a0), .val (.ref a1), .val (.int (1 : Int32)), .val (.int (1024 : Int32))] []))
  refine .pre (fun _ kq => XS.aloadN X14.here hx rfl (hb hby d6_71) rfl rfl kq) ?_
  show OwnEnds p e below _ (T14.setTop (mkF m 72 #[.val (.ref a0), .val (.ref a1), .val (.int (1 : Int32)), .val (.int (1024 : Int32))] [(.ref a0)]))
  refine .pre (fun _ kq => XS.iloadN X14.here hx rfl (hb hby d6_72) rfl kq) ?_
  show OwnEnds p e below _ (T14.setTop (mkF m 73 #[.val (.ref a0), .val (.ref a1), .val (.int (1 : Int32)), .val (.int (1024 : Int32))] [(.int (1024 : Int32)), (.ref a0)]))
  obtain ⟨T15, h15, kk15, X15, e15, E15, A15, st15⟩ := newP X14 hx hZ (hw _ (List.mem_of_getElem? (i := 56) rfl)) e14 (g := (mkF m 73 #[.val (.ref a0), .val (.ref a1), .val (.int (1 : Int32)), .val (.int (1024 : Int32))] [(.int (1024 : Int32)), (.ref a0)])) rfl (hb hby d6_73) rfl (by decide) (cap := 1024) (by decide) (by decide) (by decide) (by decide)
  obtain ⟨b15, g15⟩ : ∃ z, z = h14.size := ⟨_, rfl⟩
  rw [← g15] at A15 st15
  have V_b15 : Arv Z h15 b15 kk15 .int (1024 : Int32) [] (.int (0 : Int32)) := Arv.new A15 (by decide)
  have g_b15 : n0 ≤ b15 := Nat.le_trans (Nat.le_trans (Nat.le_trans (Nat.le_trans (Nat.le_trans (Nat.le_trans (Nat.le_trans (Nat.le_trans (Nat.le_trans (Nat.le_trans (Nat.le_trans (Nat.le_trans (Nat.le_trans Z0 E2.1) (Keep.of_wr W4).1) E5.1) K6.1) (Keep.of_wr W7).1) E8.1) (Keep.of_wr W9).1) E10.1) (Keep.of_wr W11).1) (Keep.of_wr W12).1) (Keep.of_wr W13).1) (Keep.of_wr W14).1) (Nat.le_of_eq g15.symm)
  have sz_b15 : h0.size ≤ b15 := Nat.le_trans Kp14.1 (Nat.le_of_eq g15.symm)
  have Kp15 : Keep h0 h15 [a0] := Kp14.ext E15
  have VA_b15 : OwnA Z h15 b15 (fun _ => 0) := OwnA.new A15
  refine .pre (fun _ kq => st15 _ kq) ?_
  show OwnEnds p e below _ (T15.setTop (mkF m 75 #[.val (.ref a0), .val (.ref a1), .val (.int (1 : Int32)), .val (.int (1024 : Int32))] [(.ref b15), (.ref a0)]))
  obtain ⟨T16, h16, X16, e16, W16, st16⟩ := putF X15 hx hZ hown (host := "") (Or.inl (hw _ (List.mem_of_getElem? (i := 67) rfl))) Via.refl e15 (((((((((((((G7.ext E2).other W4 (Or.inr (slot_ne (Or.inl (hw _ (List.mem_of_getElem? (i := 68) rfl))) (Or.inr (hw _ (List.mem_of_getElem? (i := 51) rfl))) (by decide) (t := (.array .int)) (t' := (.object "java/util/Map")) (by decide) (by decide)))).ext E5).keep K6 (own_nin1 (Nat.ne_of_lt (Nat.lt_of_lt_of_le ((EG.ext E2).wr W4).lt (Nat.le_of_eq g5.symm))))).other W7 (Or.inr (slot_ne (Or.inl (hw _ (List.mem_of_getElem? (i := 68) rfl))) (Or.inr (hw _ (List.mem_of_getElem? (i := 55) rfl))) (by decide) (t := (.array .int)) (t' := (.object "java/util/List")) (by decide) (by decide)))).ext E8).other W9 (Or.inr (slot_ne (Or.inl (hw _ (List.mem_of_getElem? (i := 68) rfl))) (Or.inl (hw _ (List.mem_of_getElem? (i := 58) rfl))) (by decide) (t := (.array .int)) (t' := (.array .int)) (by decide) (by decide)))).ext E10).other W11 (Or.inr (slot_ne (Or.inl (hw _ (List.mem_of_getElem? (i := 68) rfl))) (Or.inl (hw _ (List.mem_of_getElem? (i := 60) rfl))) (by decide) (t := (.array .int)) (t' := (.array .int)) (by decide) (by decide)))).other W12 (Or.inr (slot_ne (Or.inl (hw _ (List.mem_of_getElem? (i := 68) rfl))) (Or.inl (hw _ (List.mem_of_getElem? (i := 62) rfl))) (by decide) (t := (.array .int)) (t' := .int) (by decide) (by decide)))).other W13 (Or.inr (slot_ne (Or.inl (hw _ (List.mem_of_getElem? (i := 68) rfl))) (Or.inr (hw _ (List.mem_of_getElem? (i := 64) rfl))) (by decide) (t := (.array .int)) (t' := (.object "java/util/List")) (by decide) (by decide)))).other W14 (Or.inr (slot_ne (Or.inl (hw _ (List.mem_of_getElem? (i := 68) rfl))) (Or.inr (hw _ (List.mem_of_getElem? (i := 66) rfl))) (by decide) (t := (.array .int)) (t' := .boolean) (by decide) (by decide)))).ext E15) (((((((((((((EG.ext E2).wr W4).ext E5).keep K6).wr W7).ext E8).wr W9).ext E10).wr W11).wr W12).wr W13).wr W14).ext E15) (Or.inl (hw _ (List.mem_of_getElem? (i := 68) rfl))) (hw _ (List.mem_of_getElem? (i := 5) rfl)) (ty := (.array .int)) (by decide) rfl rfl (g := (mkF m 75 #[.val (.ref a0), .val (.ref a1), .val (.int (1 : Int32)), .val (.int (1024 : Int32))] [(.ref b15), (.ref a0)])) rfl rfl (hb hby d6_75)
  have Fw16 := (((((((((((((G7.ext E2).other W4 (Or.inr (slot_ne (Or.inl (hw _ (List.mem_of_getElem? (i := 68) rfl))) (Or.inr (hw _ (List.mem_of_getElem? (i := 51) rfl))) (by decide) (t := (.array .int)) (t' := (.object "java/util/Map")) (by decide) (by decide)))).ext E5).keep K6 (own_nin1 (Nat.ne_of_lt (Nat.lt_of_lt_of_le ((EG.ext E2).wr W4).lt (Nat.le_of_eq g5.symm))))).other W7 (Or.inr (slot_ne (Or.inl (hw _ (List.mem_of_getElem? (i := 68) rfl))) (Or.inr (hw _ (List.mem_of_getElem? (i := 55) rfl))) (by decide) (t := (.array .int)) (t' := (.object "java/util/List")) (by decide) (by decide)))).ext E8).other W9 (Or.inr (slot_ne (Or.inl (hw _ (List.mem_of_getElem? (i := 68) rfl))) (Or.inl (hw _ (List.mem_of_getElem? (i := 58) rfl))) (by decide) (t := (.array .int)) (t' := (.array .int)) (by decide) (by decide)))).ext E10).other W11 (Or.inr (slot_ne (Or.inl (hw _ (List.mem_of_getElem? (i := 68) rfl))) (Or.inl (hw _ (List.mem_of_getElem? (i := 60) rfl))) (by decide) (t := (.array .int)) (t' := (.array .int)) (by decide) (by decide)))).other W12 (Or.inr (slot_ne (Or.inl (hw _ (List.mem_of_getElem? (i := 68) rfl))) (Or.inl (hw _ (List.mem_of_getElem? (i := 62) rfl))) (by decide) (t := (.array .int)) (t' := .int) (by decide) (by decide)))).other W13 (Or.inr (slot_ne (Or.inl (hw _ (List.mem_of_getElem? (i := 68) rfl))) (Or.inr (hw _ (List.mem_of_getElem? (i := 64) rfl))) (by decide) (t := (.array .int)) (t' := (.object "java/util/List")) (by decide) (by decide)))).other W14 (Or.inr (slot_ne (Or.inl (hw _ (List.mem_of_getElem? (i := 68) rfl))) (Or.inr (hw _ (List.mem_of_getElem? (i := 66) rfl))) (by decide) (t := (.array .int)) (t' := .boolean) (by decide) (by decide)))).ext E15).same W16
  have N16 := Fr.snoc X16 N14 g_a0
  have Kp16 : Keep h0 h16 [a0] := Kp15.wr W16 (Or.inl (List.mem_of_getElem? (i := 0) rfl))
  refine .pre (fun _ kq => st16 _ kq) ?_
  show OwnEnds p e below _ (T16.setTop (mkF m 78 #[.val (.ref a0), .val (.ref a1), .val (.int (1 : Int32)), .val (.int (1024 : Int32))] []))
  refine .pre (fun _ kq => XS.aloadN X16.here hx rfl (hb hby d6_78) rfl rfl kq) ?_
  show OwnEnds p e below _ (T16.setTop (mkF m 79 #[.val (.ref a0), .val (.ref a1), .val (.int (1 : Int32)), .val (.int (1024 : Int32))] [(.ref a0)]))
  refine .pre (fun _ kq => XS.iloadN X16.here hx rfl (hb hby d6_79) rfl kq) ?_
  show OwnEnds p e below _ (T16.setTop (mkF m 80 #[.val (.ref a0), .val (.ref a1), .val (.int (1 : Int32)), .val (.int (1024 : Int32))] [(.int (1024 : Int32)), (.ref a0)]))
  obtain ⟨T17, h17, kk17, X17, e17, E17, A17, st17⟩ := newP X16 hx hZ (hw _ (List.mem_of_getElem? (i := 56) rfl)) e16 (g := (mkF m 80 #[.val (.ref a0), .val (.ref a1), .val (.int (1 : Int32)), .val (.int (1024 : Int32))] [(.int (1024 : Int32)), (.ref a0)])) rfl (hb hby d6_80) rfl (by decide) (cap := 1024) (by decide) (by decide) (by decide) (by decide)
  obtain ⟨b17, g17⟩ : ∃ z, z = h16.size := ⟨_, rfl⟩
  rw [← g17] at A17 st17
  have V_b17 : Arv Z h17 b17 kk17 .int (1024 : Int32) [] (.int (0 : Int32)) := Arv.new A17 (by decide)
  have g_b17 : n0 ≤ b17 := Nat.le_trans (Nat.le_trans (Nat.le_trans (Nat.le_trans (Nat.le_trans (Nat.le_trans (Nat.le_trans (Nat.le_trans (Nat.le_trans (Nat.le_trans (Nat.le_trans (Nat.le_trans (Nat.le_trans (Nat.le_trans (Nat.le_trans Z0 E2.1) (Keep.of_wr W4).1) E5.1) K6.1) (Keep.of_wr W7).1) E8.1) (Keep.of_wr W9).1) E10.1) (Keep.of_wr W11).1) (Keep.of_wr W12).1) (Keep.of_wr W13).1) (Keep.of_wr W14).1) E15.1) (Keep.of_wr W16).1) (Nat.le_of_eq g17.symm)
  have sz_b17 : h0.size ≤ b17 := Nat.le_trans Kp16.1 (Nat.le_of_eq g17.symm)
  have Kp17 : Keep h0 h17 [a0] := Kp16.ext E17
  have VA_b17 : OwnA Z h17 b17 (fun _ => 0) := OwnA.new A17
  refine .pre (fun _ kq => st17 _ kq) ?_
  show OwnEnds p e below _ (T17.setTop (mkF m 82 #[.val (.ref a0), .val (.ref a1), .val (.int (1 : Int32)), .val (.int (1024 : Int32))] [(.ref b17), (.ref a0)]))
  obtain ⟨T18, h18, X18, e18, W18, st18⟩ := putF X17 hx hZ hown (host := "") (Or.inl (hw _ (List.mem_of_getElem? (i := 69) rfl))) Via.refl e17 (((((((((((((((G8.ext E2).other W4 (Or.inr (slot_ne (Or.inl (hw _ (List.mem_of_getElem? (i := 70) rfl))) (Or.inr (hw _ (List.mem_of_getElem? (i := 51) rfl))) (by decide) (t := (.array .int)) (t' := (.object "java/util/Map")) (by decide) (by decide)))).ext E5).keep K6 (own_nin1 (Nat.ne_of_lt (Nat.lt_of_lt_of_le ((EG.ext E2).wr W4).lt (Nat.le_of_eq g5.symm))))).other W7 (Or.inr (slot_ne (Or.inl (hw _ (List.mem_of_getElem? (i := 70) rfl))) (Or.inr (hw _ (List.mem_of_getElem? (i := 55) rfl))) (by decide) (t := (.array .int)) (t' := (.object "java/util/List")) (by decide) (by decide)))).ext E8).other W9 (Or.inr (slot_ne (Or.inl (hw _ (List.mem_of_getElem? (i := 70) rfl))) (Or.inl (hw _ (List.mem_of_getElem? (i := 58) rfl))) (by decide) (t := (.array .int)) (t' := (.array .int)) (by decide) (by decide)))).ext E10).other W11 (Or.inr (slot_ne (Or.inl (hw _ (List.mem_of_getElem? (i := 70) rfl))) (Or.inl (hw _ (List.mem_of_getElem? (i := 60) rfl))) (by decide) (t := (.array .int)) (t' := (.array .int)) (by decide) (by decide)))).other W12 (Or.inr (slot_ne (Or.inl (hw _ (List.mem_of_getElem? (i := 70) rfl))) (Or.inl (hw _ (List.mem_of_getElem? (i := 62) rfl))) (by decide) (t := (.array .int)) (t' := .int) (by decide) (by decide)))).other W13 (Or.inr (slot_ne (Or.inl (hw _ (List.mem_of_getElem? (i := 70) rfl))) (Or.inr (hw _ (List.mem_of_getElem? (i := 64) rfl))) (by decide) (t := (.array .int)) (t' := (.object "java/util/List")) (by decide) (by decide)))).other W14 (Or.inr (slot_ne (Or.inl (hw _ (List.mem_of_getElem? (i := 70) rfl))) (Or.inr (hw _ (List.mem_of_getElem? (i := 66) rfl))) (by decide) (t := (.array .int)) (t' := .boolean) (by decide) (by decide)))).ext E15).other W16 (Or.inr (slot_ne (Or.inl (hw _ (List.mem_of_getElem? (i := 70) rfl))) (Or.inl (hw _ (List.mem_of_getElem? (i := 68) rfl))) (by decide) (t := (.array .int)) (t' := (.array .int)) (by decide) (by decide)))).ext E17) (((((((((((((((EG.ext E2).wr W4).ext E5).keep K6).wr W7).ext E8).wr W9).ext E10).wr W11).wr W12).wr W13).wr W14).ext E15).wr W16).ext E17) (Or.inl (hw _ (List.mem_of_getElem? (i := 70) rfl))) (hw _ (List.mem_of_getElem? (i := 5) rfl)) (ty := (.array .int)) (by decide) rfl rfl (g := (mkF m 82 #[.val (.ref a0), .val (.ref a1), .val (.int (1 : Int32)), .val (.int (1024 : Int32))] [(.ref b17), (.ref a0)])) rfl rfl (hb hby d6_82)
  have Fw18 := (((((((((((((((G8.ext E2).other W4 (Or.inr (slot_ne (Or.inl (hw _ (List.mem_of_getElem? (i := 70) rfl))) (Or.inr (hw _ (List.mem_of_getElem? (i := 51) rfl))) (by decide) (t := (.array .int)) (t' := (.object "java/util/Map")) (by decide) (by decide)))).ext E5).keep K6 (own_nin1 (Nat.ne_of_lt (Nat.lt_of_lt_of_le ((EG.ext E2).wr W4).lt (Nat.le_of_eq g5.symm))))).other W7 (Or.inr (slot_ne (Or.inl (hw _ (List.mem_of_getElem? (i := 70) rfl))) (Or.inr (hw _ (List.mem_of_getElem? (i := 55) rfl))) (by decide) (t := (.array .int)) (t' := (.object "java/util/List")) (by decide) (by decide)))).ext E8).other W9 (Or.inr (slot_ne (Or.inl (hw _ (List.mem_of_getElem? (i := 70) rfl))) (Or.inl (hw _ (List.mem_of_getElem? (i := 58) rfl))) (by decide) (t := (.array .int)) (t' := (.array .int)) (by decide) (by decide)))).ext E10).other W11 (Or.inr (slot_ne (Or.inl (hw _ (List.mem_of_getElem? (i := 70) rfl))) (Or.inl (hw _ (List.mem_of_getElem? (i := 60) rfl))) (by decide) (t := (.array .int)) (t' := (.array .int)) (by decide) (by decide)))).other W12 (Or.inr (slot_ne (Or.inl (hw _ (List.mem_of_getElem? (i := 70) rfl))) (Or.inl (hw _ (List.mem_of_getElem? (i := 62) rfl))) (by decide) (t := (.array .int)) (t' := .int) (by decide) (by decide)))).other W13 (Or.inr (slot_ne (Or.inl (hw _ (List.mem_of_getElem? (i := 70) rfl))) (Or.inr (hw _ (List.mem_of_getElem? (i := 64) rfl))) (by decide) (t := (.array .int)) (t' := (.object "java/util/List")) (by decide) (by decide)))).other W14 (Or.inr (slot_ne (Or.inl (hw _ (List.mem_of_getElem? (i := 70) rfl))) (Or.inr (hw _ (List.mem_of_getElem? (i := 66) rfl))) (by decide) (t := (.array .int)) (t' := .boolean) (by decide) (by decide)))).ext E15).other W16 (Or.inr (slot_ne (Or.inl (hw _ (List.mem_of_getElem? (i := 70) rfl))) (Or.inl (hw _ (List.mem_of_getElem? (i := 68) rfl))) (by decide) (t := (.array .int)) (t' := (.array .int)) (by decide) (by decide)))).ext E17).same W18
  have N18 := Fr.snoc X18 N16 g_a0
  have Kp18 : Keep h0 h18 [a0] := Kp17.wr W18 (Or.inl (List.mem_of_getElem? (i := 0) rfl))
  refine .pre (fun _ kq => st18 _ kq) ?_
  show OwnEnds p e below _ (T18.setTop (mkF m 85 #[.val (.ref a0), .val (.ref a1), .val (.int (1 : Int32)), .val (.int (1024 : Int32))] []))
  refine .pre (fun _ kq => XS.aloadN X18.here hx rfl (hb hby d6_85) rfl rfl kq) ?_
  show OwnEnds p e below _ (T18.setTop (mkF m 86 #[.val (.ref a0), .val (.ref a1), .val (.int (1 : Int32)), .val (.int (1024 : Int32))] [(.ref a0)]))
  refine .pre (fun _ kq => XS.iloadN X18.here hx rfl (hb hby d6_86) rfl kq) ?_
  show OwnEnds p e below _ (T18.setTop (mkF m 87 #[.val (.ref a0), .val (.ref a1), .val (.int (1 : Int32)), .val (.int (1024 : Int32))] [(.int (1024 : Int32)), (.ref a0)]))
  obtain ⟨T19, h19, kk19, X19, e19, E19, A19, st19⟩ := newP X18 hx hZ (hw _ (List.mem_of_getElem? (i := 56) rfl)) e18 (g := (mkF m 87 #[.val (.ref a0), .val (.ref a1), .val (.int (1 : Int32)), .val (.int (1024 : Int32))] [(.int (1024 : Int32)), (.ref a0)])) rfl (hb hby d6_87) rfl (by decide) (cap := 1024) (by decide) (by decide) (by decide) (by decide)
  obtain ⟨b19, g19⟩ : ∃ z, z = h18.size := ⟨_, rfl⟩
  rw [← g19] at A19 st19
  have V_b19 : Arv Z h19 b19 kk19 .int (1024 : Int32) [] (.int (0 : Int32)) := Arv.new A19 (by decide)
  have g_b19 : n0 ≤ b19 := Nat.le_trans (Nat.le_trans (Nat.le_trans (Nat.le_trans (Nat.le_trans (Nat.le_trans (Nat.le_trans (Nat.le_trans (Nat.le_trans (Nat.le_trans (Nat.le_trans (Nat.le_trans (Nat.le_trans (Nat.le_trans (Nat.le_trans (Nat.le_trans (Nat.le_trans Z0 E2.1) (Keep.of_wr W4).1) E5.1) K6.1) (Keep.of_wr W7).1) E8.1) (Keep.of_wr W9).1) E10.1) (Keep.of_wr W11).1) (Keep.of_wr W12).1) (Keep.of_wr W13).1) (Keep.of_wr W14).1) E15.1) (Keep.of_wr W16).1) E17.1) (Keep.of_wr W18).1) (Nat.le_of_eq g19.symm)
  have sz_b19 : h0.size ≤ b19 := Nat.le_trans Kp18.1 (Nat.le_of_eq g19.symm)
  have Kp19 : Keep h0 h19 [a0] := Kp18.ext E19
  have VA_b19 : OwnA Z h19 b19 (fun _ => 0) := OwnA.new A19
  refine .pre (fun _ kq => st19 _ kq) ?_
  show OwnEnds p e below _ (T19.setTop (mkF m 89 #[.val (.ref a0), .val (.ref a1), .val (.int (1 : Int32)), .val (.int (1024 : Int32))] [(.ref b19), (.ref a0)]))
  obtain ⟨T20, h20, X20, e20, W20, st20⟩ := putF X19 hx hZ hown (host := "") (Or.inl (hw _ (List.mem_of_getElem? (i := 71) rfl))) Via.refl e19 (((((((((((((((((G9.ext E2).other W4 (Or.inr (slot_ne (Or.inl (hw _ (List.mem_of_getElem? (i := 72) rfl))) (Or.inr (hw _ (List.mem_of_getElem? (i := 51) rfl))) (by decide) (t := (.array .int)) (t' := (.object "java/util/Map")) (by decide) (by decide)))).ext E5).keep K6 (own_nin1 (Nat.ne_of_lt (Nat.lt_of_lt_of_le ((EG.ext E2).wr W4).lt (Nat.le_of_eq g5.symm))))).other W7 (Or.inr (slot_ne (Or.inl (hw _ (List.mem_of_getElem? (i := 72) rfl))) (Or.inr (hw _ (List.mem_of_getElem? (i := 55) rfl))) (by decide) (t := (.array .int)) (t' := (.object "java/util/List")) (by decide) (by decide)))).ext E8).other W9 (Or.inr (slot_ne (Or.inl (hw _ (List.mem_of_getElem? (i := 72) rfl))) (Or.inl (hw _ (List.mem_of_getElem? (i := 58) rfl))) (by decide) (t := (.array .int)) (t' := (.array .int)) (by decide) (by decide)))).ext E10).other W11 (Or.inr (slot_ne (Or.inl (hw _ (List.mem_of_getElem? (i := 72) rfl))) (Or.inl (hw _ (List.mem_of_getElem? (i := 60) rfl))) (by decide) (t := (.array .int)) (t' := (.array .int)) (by decide) (by decide)))).other W12 (Or.inr (slot_ne (Or.inl (hw _ (List.mem_of_getElem? (i := 72) rfl))) (Or.inl (hw _ (List.mem_of_getElem? (i := 62) rfl))) (by decide) (t := (.array .int)) (t' := .int) (by decide) (by decide)))).other W13 (Or.inr (slot_ne (Or.inl (hw _ (List.mem_of_getElem? (i := 72) rfl))) (Or.inr (hw _ (List.mem_of_getElem? (i := 64) rfl))) (by decide) (t := (.array .int)) (t' := (.object "java/util/List")) (by decide) (by decide)))).other W14 (Or.inr (slot_ne (Or.inl (hw _ (List.mem_of_getElem? (i := 72) rfl))) (Or.inr (hw _ (List.mem_of_getElem? (i := 66) rfl))) (by decide) (t := (.array .int)) (t' := .boolean) (by decide) (by decide)))).ext E15).other W16 (Or.inr (slot_ne (Or.inl (hw _ (List.mem_of_getElem? (i := 72) rfl))) (Or.inl (hw _ (List.mem_of_getElem? (i := 68) rfl))) (by decide) (t := (.array .int)) (t' := (.array .int)) (by decide) (by decide)))).ext E17).other W18 (Or.inr (slot_ne (Or.inl (hw _ (List.mem_of_getElem? (i := 72) rfl))) (Or.inl (hw _ (List.mem_of_getElem? (i := 70) rfl))) (by decide) (t := (.array .int)) (t' := (.array .int)) (by decide) (by decide)))).ext E19) (((((((((((((((((EG.ext E2).wr W4).ext E5).keep K6).wr W7).ext E8).wr W9).ext E10).wr W11).wr W12).wr W13).wr W14).ext E15).wr W16).ext E17).wr W18).ext E19) (Or.inl (hw _ (List.mem_of_getElem? (i := 72) rfl))) (hw _ (List.mem_of_getElem? (i := 5) rfl)) (ty := (.array .int)) (by decide) rfl rfl (g := (mkF m 89 #[.val (.ref a0), .val (.ref a1), .val (.int (1 : Int32)), .val (.int (1024 : Int32))] [(.ref b19), (.ref a0)])) rfl rfl (hb hby d6_89)
  have Fw20 := (((((((((((((((((G9.ext E2).other W4 (Or.inr (slot_ne (Or.inl (hw _ (List.mem_of_getElem? (i := 72) rfl))) (Or.inr (hw _ (List.mem_of_getElem? (i := 51) rfl))) (by decide) (t := (.array .int)) (t' := (.object "java/util/Map")) (by decide) (by decide)))).ext E5).keep K6 (own_nin1 (Nat.ne_of_lt (Nat.lt_of_lt_of_le ((EG.ext E2).wr W4).lt (Nat.le_of_eq g5.symm))))).other W7 (Or.inr (slot_ne (Or.inl (hw _ (List.mem_of_getElem? (i := 72) rfl))) (Or.inr (hw _ (List.mem_of_getElem? (i := 55) rfl))) (by decide) (t := (.array .int)) (t' := (.object "java/util/List")) (by decide) (by decide)))).ext E8).other W9 (Or.inr (slot_ne (Or.inl (hw _ (List.mem_of_getElem? (i := 72) rfl))) (Or.inl (hw _ (List.mem_of_getElem? (i := 58) rfl))) (by decide) (t := (.array .int)) (t' := (.array .int)) (by decide) (by decide)))).ext E10).other W11 (Or.inr (slot_ne (Or.inl (hw _ (List.mem_of_getElem? (i := 72) rfl))) (Or.inl (hw _ (List.mem_of_getElem? (i := 60) rfl))) (by decide) (t := (.array .int)) (t' := (.array .int)) (by decide) (by decide)))).other W12 (Or.inr (slot_ne (Or.inl (hw _ (List.mem_of_getElem? (i := 72) rfl))) (Or.inl (hw _ (List.mem_of_getElem? (i := 62) rfl))) (by decide) (t := (.array .int)) (t' := .int) (by decide) (by decide)))).other W13 (Or.inr (slot_ne (Or.inl (hw _ (List.mem_of_getElem? (i := 72) rfl))) (Or.inr (hw _ (List.mem_of_getElem? (i := 64) rfl))) (by decide) (t := (.array .int)) (t' := (.object "java/util/List")) (by decide) (by decide)))).other W14 (Or.inr (slot_ne (Or.inl (hw _ (List.mem_of_getElem? (i := 72) rfl))) (Or.inr (hw _ (List.mem_of_getElem? (i := 66) rfl))) (by decide) (t := (.array .int)) (t' := .boolean) (by decide) (by decide)))).ext E15).other W16 (Or.inr (slot_ne (Or.inl (hw _ (List.mem_of_getElem? (i := 72) rfl))) (Or.inl (hw _ (List.mem_of_getElem? (i := 68) rfl))) (by decide) (t := (.array .int)) (t' := (.array .int)) (by decide) (by decide)))).ext E17).other W18 (Or.inr (slot_ne (Or.inl (hw _ (List.mem_of_getElem? (i := 72) rfl))) (Or.inl (hw _ (List.mem_of_getElem? (i := 70) rfl))) (by decide) (t := (.array .int)) (t' := (.array .int)) (by decide) (by decide)))).ext E19).same W20
  have N20 := Fr.snoc X20 N18 g_a0
  have Kp20 : Keep h0 h20 [a0] := Kp19.wr W20 (Or.inl (List.mem_of_getElem? (i := 0) rfl))
  refine .pre (fun _ kq => st20 _ kq) ?_
  show OwnEnds p e below _ (T20.setTop (mkF m 92 #[.val (.ref a0), .val (.ref a1), .val (.int (1 : Int32)), .val (.int (1024 : Int32))] []))
  refine .pre (fun _ kq => XS.aloadN X20.here hx rfl (hb hby d6_92) rfl rfl kq) ?_
  show OwnEnds p e below _ (T20.setTop (mkF m 93 #[.val (.ref a0), .val (.ref a1), .val (.int (1 : Int32)), .val (.int (1024 : Int32))] [(.ref a0)]))
  refine .pre (fun _ kq => XS.iloadN X20.here hx rfl (hb hby d6_93) rfl kq) ?_
  show OwnEnds p e below _ (T20.setTop (mkF m 94 #[.val (.ref a0), .val (.ref a1), .val (.int (1 : Int32)), .val (.int (1024 : Int32))] [(.int (1024 : Int32)), (.ref a0)]))
  obtain ⟨T21, h21, kk21, X21, e21, E21, A21, st21⟩ := newP X20 hx hZ (hw _ (List.mem_of_getElem? (i := 56) rfl)) e20 (g := (mkF m 94 #[.val (.ref a0), .val (.ref a1), .val (.int (1 : Int32)), .val (.int (1024 : Int32))] [(.int (1024 : Int32)), (.ref a0)])) rfl (hb hby d6_94) rfl (by decide) (cap := 1024) (by decide) (by decide) (by decide) (by decide)
  obtain ⟨b21, g21⟩ : ∃ z, z = h20.size := ⟨_, rfl⟩
  rw [← g21] at A21 st21
  have V_b21 : Arv Z h21 b21 kk21 .int (1024 : Int32) [] (.int (0 : Int32)) := Arv.new A21 (by decide)
  have g_b21 : n0 ≤ b21 := Nat.le_trans (Nat.le_trans (Nat.le_trans (Nat.le_trans (Nat.le_trans (Nat.le_trans (Nat.le_trans (Nat.le_trans (Nat.le_trans (Nat.le_trans (Nat.le_trans (Nat.le_trans (Nat.le_trans (Nat.le_trans (Nat.le_trans (Nat.le_trans (Nat.le_trans (Nat.le_trans (Nat.le_trans Z0 E2.1) (Keep.of_wr W4).1) E5.1) K6.1) (Keep.of_wr W7).1) E8.1) (Keep.of_wr W9).1) E10.1) (Keep.of_wr W11).1) (Keep.of_wr W12).1) (Keep.of_wr W13).1) (Keep.of_wr W14).1) E15.1) (Keep.of_wr W16).1) E17.1) (Keep.of_wr W18).1) E19.1) (Keep.of_wr W20).1) (Nat.le_of_eq g21.symm)
  have sz_b21 : h0.size ≤ b21 := Nat.le_trans Kp20.1 (Nat.le_of_eq g21.symm)
  have Kp21 : Keep h0 h21 [a0] := Kp20.ext E21
  have VA_b21 : OwnA Z h21 b21 (fun _ => 0) := OwnA.new A21
  refine .pre (fun _ kq => st21 _ kq) ?_
  show OwnEnds p e below _ (T21.setTop (mkF m 96 #[.val (.ref a0), .val (.ref a1), .val (.int (1 : Int32)), .val (.int (1024 : Int32))] [(.ref b21), (.ref a0)]))
  obtain ⟨T22, h22, X22, e22, W22, st22⟩ := putF X21 hx hZ hown (host := "") (Or.inl (hw _ (List.mem_of_getElem? (i := 73) rfl))) Via.refl e21 (((((((((((((((((((G10.ext E2).other W4 (Or.inr (slot_ne (Or.inl (hw _ (List.mem_of_getElem? (i := 74) rfl))) (Or.inr (hw _ (List.mem_of_getElem? (i := 51) rfl))) (by decide) (t := (.array .int)) (t' := (.object "java/util/Map")) (by decide) (by decide)))).ext E5).keep K6 (own_nin1 (Nat.ne_of_lt (Nat.lt_of_lt_of_le ((EG.ext E2).wr W4).lt (Nat.le_of_eq g5.symm))))).other W7 (Or.inr (slot_ne (Or.inl (hw _ (List.mem_of_getElem? (i := 74) rfl))) (Or.inr (hw _ (List.mem_of_getElem? (i := 55) rfl))) (by decide) (t := (.array .int)) (t' := (.object "java/util/List")) (by decide) (by decide)))).ext E8).other W9 (Or.inr (slot_ne (Or.inl (hw _ (List.mem_of_getElem? (i := 74) rfl))) (Or.inl (hw _ (List.mem_of_getElem? (i := 58) rfl))) (by decide) (t := (.array .int)) (t' := (.array .int)) (by decide) (by decide)))).ext E10).other W11 (Or.inr (slot_ne (Or.inl (hw _ (List.mem_of_getElem? (i := 74) rfl))) (Or.inl (hw _ (List.mem_of_getElem? (i := 60) rfl))) (by decide) (t := (.array .int)) (t' := (.array .int)) (by decide) (by decide)))).other W12 (Or.inr (slot_ne (Or.inl (hw _ (List.mem_of_getElem? (i := 74) rfl))) (Or.inl (hw _ (List.mem_of_getElem? (i := 62) rfl))) (by decide) (t := (.array .int)) (t' := .int) (by decide) (by decide)))).other W13 (Or.inr (slot_ne (Or.inl (hw _ (List.mem_of_getElem? (i := 74) rfl))) (Or.inr (hw _ (List.mem_of_getElem? (i := 64) rfl))) (by decide) (t := (.array .int)) (t' := (.object "java/util/List")) (by decide) (by decide)))).other W14 (Or.inr (slot_ne (Or.inl (hw _ (List.mem_of_getElem? (i := 74) rfl))) (Or.inr (hw _ (List.mem_of_getElem? (i := 66) rfl))) (by decide) (t := (.array .int)) (t' := .boolean) (by decide) (by decide)))).ext E15).other W16 (Or.inr (slot_ne (Or.inl (hw _ (List.mem_of_getElem? (i := 74) rfl))) (Or.inl (hw _ (List.mem_of_getElem? (i := 68) rfl))) (by decide) (t := (.array .int)) (t' := (.array .int)) (by decide) (by decide)))).ext E17).other W18 (Or.inr (slot_ne (Or.inl (hw _ (List.mem_of_getElem? (i := 74) rfl))) (Or.inl (hw _ (List.mem_of_getElem? (i := 70) rfl))) (by decide) (t := (.array .int)) (t' := (.array .int)) (by decide) (by decide)))).ext E19).other W20 (Or.inr (slot_ne (Or.inl (hw _ (List.mem_of_getElem? (i := 74) rfl))) (Or.inl (hw _ (List.mem_of_getElem? (i := 72) rfl))) (by decide) (t := (.array .int)) (t' := (.array .int)) (by decide) (by decide)))).ext E21) (((((((((((((((((((EG.ext E2).wr W4).ext E5).keep K6).wr W7).ext E8).wr W9).ext E10).wr W11).wr W12).wr W13).wr W14).ext E15).wr W16).ext E17).wr W18).ext E19).wr W20).ext E21) (Or.inl (hw _ (List.mem_of_getElem? (i := 74) rfl))) (hw _ (List.mem_of_getElem? (i := 5) rfl)) (ty := (.array .int)) (by decide) rfl rfl (g := (mkF m 96 #[.val (.ref a0), .val (.ref a1), .val (.int (1 : Int32)), .val (.int (1024 : Int32))] [(.ref b21), (.ref a0)])) rfl rfl (hb hby d6_96)
  have Fw22 := (((((((((((((((((((G10.ext E2).other W4 (Or.inr (slot_ne (Or.inl (hw _ (List.mem_of_getElem? (i := 74) rfl))) (Or.inr (hw _ (List.mem_of_getElem? (i := 51) rfl))) (by decide) (t := (.array .int)) (t' := (.object "java/util/Map")) (by decide) (by decide)))).ext E5).keep K6 (own_nin1 (Nat.ne_of_lt (Nat.lt_of_lt_of_le ((EG.ext E2).wr W4).lt (Nat.le_of_eq g5.symm))))).other W7 (Or.inr (slot_ne (Or.inl (hw _ (List.mem_of_getElem? (i := 74) rfl))) (Or.inr (hw _ (List.mem_of_getElem? (i := 55) rfl))) (by decide) (t := (.array .int)) (t' := (.object "java/util/List")) (by decide) (by decide)))).ext E8).other W9 (Or.inr (slot_ne (Or.inl (hw _ (List.mem_of_getElem? (i := 74) rfl))) (Or.inl (hw _ (List.mem_of_getElem? (i := 58) rfl))) (by decide) (t := (.array .int)) (t' := (.array .int)) (by decide) (by decide)))).ext E10).other W11 (Or.inr (slot_ne (Or.inl (hw _ (List.mem_of_getElem? (i := 74) rfl))) (Or.inl (hw _ (List.mem_of_getElem? (i := 60) rfl))) (by decide) (t := (.array .int)) (t' := (.array .int)) (by decide) (by decide)))).other W12 (Or.inr (slot_ne (Or.inl (hw _ (List.mem_of_getElem? (i := 74) rfl))) (Or.inl (hw _ (List.mem_of_getElem? (i := 62) rfl))) (by decide) (t := (.array .int)) (t' := .int) (by decide) (by decide)))).other W13 (Or.inr (slot_ne (Or.inl (hw _ (List.mem_of_getElem? (i := 74) rfl))) (Or.inr (hw _ (List.mem_of_getElem? (i := 64) rfl))) (by decide) (t := (.array .int)) (t' := (.object "java/util/List")) (by decide) (by decide)))).other W14 (Or.inr (slot_ne (Or.inl (hw _ (List.mem_of_getElem? (i := 74) rfl))) (Or.inr (hw _ (List.mem_of_getElem? (i := 66) rfl))) (by decide) (t := (.array .int)) (t' := .boolean) (by decide) (by decide)))).ext E15).other W16 (Or.inr (slot_ne (Or.inl (hw _ (List.mem_of_getElem? (i := 74) rfl))) (Or.inl (hw _ (List.mem_of_getElem? (i := 68) rfl))) (by decide) (t := (.array .int)) (t' := (.array .int)) (by decide) (by decide)))).ext E17).other W18 (Or.inr (slot_ne (Or.inl (hw _ (List.mem_of_getElem? (i := 74) rfl))) (Or.inl (hw _ (List.mem_of_getElem? (i := 70) rfl))) (by decide) (t := (.array .int)) (t' := (.array .int)) (by decide) (by decide)))).ext E19).other W20 (Or.inr (slot_ne (Or.inl (hw _ (List.mem_of_getElem? (i := 74) rfl))) (Or.inl (hw _ (List.mem_of_getElem? (i := 72) rfl))) (by decide) (t := (.array .int)) (t' := (.array .int)) (by decide) (by decide)))).ext E21).same W22
  have N22 := Fr.snoc X22 N20 g_a0
  have Kp22 : Keep h0 h22 [a0] := Kp21.wr W22 (Or.inl (List.mem_of_getElem? (i := 0) rfl))
  refine .pre (fun _ kq => st22 _ kq) ?_
  show OwnEnds p e below _ (T22.setTop (mkF m 99 #[.val (.ref a0), .val (.ref a1), .val (.int (1 : Int32)), .val (.int (1024 : Int32))] []))
  exact own_endV X22 hx hlk Bd.returns (hb hby d6_99) (by decide) (by decide) ⟨rfl, N22, (by rw [e22]; exact Kp22), b5, b8, b10, b15, b17, b19, b21, ⟨(by rw [e22]; exact ((((((((((((((((((((EG.ext E2).wr W4).ext E5).keep K6).wr W7).ext E8).wr W9).ext E10).wr W11).wr W12).wr W13).wr W14).ext E15).wr W16).ext E17).wr W18).ext E19).wr W20).ext E21).wr W22)), (by rw [e22]; exact (((((((((((((((Fw7.ext E8).other W9 (Or.inr (slot_ne (Or.inr (hw _ (List.mem_of_getElem? (i := 55) rfl))) (Or.inl (hw _ (List.mem_of_getElem? (i := 58) rfl))) (by decide) (t := (.object "java/util/List")) (t' := (.array .int)) (by decide) (by decide)))).ext E10).other W11 (Or.inr (slot_ne (Or.inr (hw _ (List.mem_of_getElem? (i := 55) rfl))) (Or.inl (hw _ (List.mem_of_getElem? (i := 60) rfl))) (by decide) (t := (.object "java/util/List")) (t' := (.array .int)) (by decide) (by decide)))).other W12 (Or.inr (slot_ne (Or.inr (hw _ (List.mem_of_getElem? (i := 55) rfl))) (Or.inl (hw _ (List.mem_of_getElem? (i := 62) rfl))) (by decide) (t := (.object "java/util/List")) (t' := .int) (by decide) (by decide)))).other W13 (Or.inr (slot_ne (Or.inr (hw _ (List.mem_of_getElem? (i := 55) rfl))) (Or.inr (hw _ (List.mem_of_getElem? (i := 64) rfl))) (by decide) (t := (.object "java/util/List")) (t' := (.object "java/util/List")) (by decide) (by decide)))).other W14 (Or.inr (slot_ne (Or.inr (hw _ (List.mem_of_getElem? (i := 55) rfl))) (Or.inr (hw _ (List.mem_of_getElem? (i := 66) rfl))) (by decide) (t := (.object "java/util/List")) (t' := .boolean) (by decide) (by decide)))).ext E15).other W16 (Or.inr (slot_ne (Or.inr (hw _ (List.mem_of_getElem? (i := 55) rfl))) (Or.inl (hw _ (List.mem_of_getElem? (i := 68) rfl))) (by decide) (t := (.object "java/util/List")) (t' := (.array .int)) (by decide) (by decide)))).ext E17).other W18 (Or.inr (slot_ne (Or.inr (hw _ (List.mem_of_getElem? (i := 55) rfl))) (Or.inl (hw _ (List.mem_of_getElem? (i := 70) rfl))) (by decide) (t := (.object "java/util/List")) (t' := (.array .int)) (by decide) (by decide)))).ext E19).other W20 (Or.inr (slot_ne (Or.inr (hw _ (List.mem_of_getElem? (i := 55) rfl))) (Or.inl (hw _ (List.mem_of_getElem? (i := 72) rfl))) (by decide) (t := (.object "java/util/List")) (t' := (.array .int)) (by decide) (by decide)))).ext E21).other W22 (Or.inr (slot_ne (Or.inr (hw _ (List.mem_of_getElem? (i := 55) rfl))) (Or.inl (hw _ (List.mem_of_getElem? (i := 74) rfl))) (by decide) (t := (.object "java/util/List")) (t' := (.array .int)) (by decide) (by decide))))), (by rw [e22]; exact (((((((((((((Fw9.ext E10).other W11 (Or.inr (slot_ne (Or.inl (hw _ (List.mem_of_getElem? (i := 58) rfl))) (Or.inl (hw _ (List.mem_of_getElem? (i := 60) rfl))) (by decide) (t := (.array .int)) (t' := (.array .int)) (by decide) (by decide)))).other W12 (Or.inr (slot_ne (Or.inl (hw _ (List.mem_of_getElem? (i := 58) rfl))) (Or.inl (hw _ (List.mem_of_getElem? (i := 62) rfl))) (by decide) (t := (.array .int)) (t' := .int) (by decide) (by decide)))).other W13 (Or.inr (slot_ne (Or.inl (hw _ (List.mem_of_getElem? (i := 58) rfl))) (Or.inr (hw _ (List.mem_of_getElem? (i := 64) rfl))) (by decide) (t := (.array .int)) (t' := (.object "java/util/List")) (by decide) (by decide)))).other W14 (Or.inr (slot_ne (Or.inl (hw _ (List.mem_of_getElem? (i := 58) rfl))) (Or.inr (hw _ (List.mem_of_getElem? (i := 66) rfl))) (by decide) (t := (.array .int)) (t' := .boolean) (by decide) (by decide)))).ext E15).other W16 (Or.inr (slot_ne (Or.inl (hw _ (List.mem_of_getElem? (i := 58) rfl))) (Or.inl (hw _ (List.mem_of_getElem? (i := 68) rfl))) (by decide) (t := (.array .int)) (t' := (.array .int)) (by decide) (by decide)))).ext E17).other W18 (Or.inr (slot_ne (Or.inl (hw _ (List.mem_of_getElem? (i := 58) rfl))) (Or.inl (hw _ (List.mem_of_getElem? (i := 70) rfl))) (by decide) (t := (.array .int)) (t' := (.array .int)) (by decide) (by decide)))).ext E19).other W20 (Or.inr (slot_ne (Or.inl (hw _ (List.mem_of_getElem? (i := 58) rfl))) (Or.inl (hw _ (List.mem_of_getElem? (i := 72) rfl))) (by decide) (t := (.array .int)) (t' := (.array .int)) (by decide) (by decide)))).ext E21).other W22 (Or.inr (slot_ne (Or.inl (hw _ (List.mem_of_getElem? (i := 58) rfl))) (Or.inl (hw _ (List.mem_of_getElem? (i := 74) rfl))) (by decide) (t := (.array .int)) (t' := (.array .int)) (by decide) (by decide))))), (by rw [e22]; exact (((((((((((Fw11.other W12 (Or.inr (slot_ne (Or.inl (hw _ (List.mem_of_getElem? (i := 60) rfl))) (Or.inl (hw _ (List.mem_of_getElem? (i := 62) rfl))) (by decide) (t := (.array .int)) (t' := .int) (by decide) (by decide)))).other W13 (Or.inr (slot_ne (Or.inl (hw _ (List.mem_of_getElem? (i := 60) rfl))) (Or.inr (hw _ (List.mem_of_getElem? (i := 64) rfl))) (by decide) (t := (.array .int)) (t' := (.object "java/util/List")) (by decide) (by decide)))).other W14 (Or.inr (slot_ne (Or.inl (hw _ (List.mem_of_getElem? (i := 60) rfl))) (Or.inr (hw _ (List.mem_of_getElem? (i := 66) rfl))) (by decide) (t := (.array .int)) (t' := .boolean) (by decide) (by decide)))).ext E15).other W16 (Or.inr (slot_ne (Or.inl (hw _ (List.mem_of_getElem? (i := 60) rfl))) (Or.inl (hw _ (List.mem_of_getElem? (i := 68) rfl))) (by decide) (t := (.array .int)) (t' := (.array .int)) (by decide) (by decide)))).ext E17).other W18 (Or.inr (slot_ne (Or.inl (hw _ (List.mem_of_getElem? (i := 60) rfl))) (Or.inl (hw _ (List.mem_of_getElem? (i := 70) rfl))) (by decide) (t := (.array .int)) (t' := (.array .int)) (by decide) (by decide)))).ext E19).other W20 (Or.inr (slot_ne (Or.inl (hw _ (List.mem_of_getElem? (i := 60) rfl))) (Or.inl (hw _ (List.mem_of_getElem? (i := 72) rfl))) (by decide) (t := (.array .int)) (t' := (.array .int)) (by decide) (by decide)))).ext E21).other W22 (Or.inr (slot_ne (Or.inl (hw _ (List.mem_of_getElem? (i := 60) rfl))) (Or.inl (hw _ (List.mem_of_getElem? (i := 74) rfl))) (by decide) (t := (.array .int)) (t' := (.array .int)) (by decide) (by decide))))), (by rw [e22]; exact ((((((((((Fw12.other W13 (Or.inr (slot_ne (Or.inl (hw _ (List.mem_of_getElem? (i := 62) rfl))) (Or.inr (hw _ (List.mem_of_getElem? (i := 64) rfl))) (by decide) (t := .int) (t' := (.object "java/util/List")) (by decide) (by decide)))).other W14 (Or.inr (slot_ne (Or.inl (hw _ (List.mem_of_getElem? (i := 62) rfl))) (Or.inr (hw _ (List.mem_of_getElem? (i := 66) rfl))) (by decide) (t := .int) (t' := .boolean) (by decide) (by decide)))).ext E15).other W16 (Or.inr (slot_ne (Or.inl (hw _ (List.mem_of_getElem? (i := 62) rfl))) (Or.inl (hw _ (List.mem_of_getElem? (i := 68) rfl))) (by decide) (t := .int) (t' := (.array .int)) (by decide) (by decide)))).ext E17).other W18 (Or.inr (slot_ne (Or.inl (hw _ (List.mem_of_getElem? (i := 62) rfl))) (Or.inl (hw _ (List.mem_of_getElem? (i := 70) rfl))) (by decide) (t := .int) (t' := (.array .int)) (by decide) (by decide)))).ext E19).other W20 (Or.inr (slot_ne (Or.inl (hw _ (List.mem_of_getElem? (i := 62) rfl))) (Or.inl (hw _ (List.mem_of_getElem? (i := 72) rfl))) (by decide) (t := .int) (t' := (.array .int)) (by decide) (by decide)))).ext E21).other W22 (Or.inr (slot_ne (Or.inl (hw _ (List.mem_of_getElem? (i := 62) rfl))) (Or.inl (hw _ (List.mem_of_getElem? (i := 74) rfl))) (by decide) (t := .int) (t' := (.array .int)) (by decide) (by decide))))), (by rw [e22]; exact ((((((((Fw14.ext E15).other W16 (Or.inr (slot_ne (Or.inr (hw _ (List.mem_of_getElem? (i := 66) rfl))) (Or.inl (hw _ (List.mem_of_getElem? (i := 68) rfl))) (by decide) (t := .boolean) (t' := (.array .int)) (by decide) (by decide)))).ext E17).other W18 (Or.inr (slot_ne (Or.inr (hw _ (List.mem_of_getElem? (i := 66) rfl))) (Or.inl (hw _ (List.mem_of_getElem? (i := 70) rfl))) (by decide) (t := .boolean) (t' := (.array .int)) (by decide) (by decide)))).ext E19).other W20 (Or.inr (slot_ne (Or.inr (hw _ (List.mem_of_getElem? (i := 66) rfl))) (Or.inl (hw _ (List.mem_of_getElem? (i := 72) rfl))) (by decide) (t := .boolean) (t' := (.array .int)) (by decide) (by decide)))).ext E21).other W22 (Or.inr (slot_ne (Or.inr (hw _ (List.mem_of_getElem? (i := 66) rfl))) (Or.inl (hw _ (List.mem_of_getElem? (i := 74) rfl))) (by decide) (t := .boolean) (t' := (.array .int)) (by decide) (by decide))))), (by rw [e22]; exact ((((((Fw16.ext E17).other W18 (Or.inr (slot_ne (Or.inl (hw _ (List.mem_of_getElem? (i := 68) rfl))) (Or.inl (hw _ (List.mem_of_getElem? (i := 70) rfl))) (by decide) (t := (.array .int)) (t' := (.array .int)) (by decide) (by decide)))).ext E19).other W20 (Or.inr (slot_ne (Or.inl (hw _ (List.mem_of_getElem? (i := 68) rfl))) (Or.inl (hw _ (List.mem_of_getElem? (i := 72) rfl))) (by decide) (t := (.array .int)) (t' := (.array .int)) (by decide) (by decide)))).ext E21).other W22 (Or.inr (slot_ne (Or.inl (hw _ (List.mem_of_getElem? (i := 68) rfl))) (Or.inl (hw _ (List.mem_of_getElem? (i := 74) rfl))) (by decide) (t := (.array .int)) (t' := (.array .int)) (by decide) (by decide))))), (by rw [e22]; exact ((((Fw18.ext E19).other W20 (Or.inr (slot_ne (Or.inl (hw _ (List.mem_of_getElem? (i := 70) rfl))) (Or.inl (hw _ (List.mem_of_getElem? (i := 72) rfl))) (by decide) (t := (.array .int)) (t' := (.array .int)) (by decide) (by decide)))).ext E21).other W22 (Or.inr (slot_ne (Or.inl (hw _ (List.mem_of_getElem? (i := 70) rfl))) (Or.inl (hw _ (List.mem_of_getElem? (i := 74) rfl))) (by decide) (t := (.array .int)) (t' := (.array .int)) (by decide) (by decide))))), (by rw [e22]; exact ((Fw20.ext E21).other W22 (Or.inr (slot_ne (Or.inl (hw _ (List.mem_of_getElem? (i := 72) rfl))) (Or.inl (hw _ (List.mem_of_getElem? (i := 74) rfl))) (by decide) (t := (.array .int)) (t' := (.array .int)) (by decide) (by decide))))), (by rw [e22]; exact Fw22), (by rw [e22]; exact ((((((((((((((((((((G11.ext E2).other W4 (Or.inr (slot_ne (Or.inl (hw _ (List.mem_of_getElem? (i := 145) rfl))) (Or.inr (hw _ (List.mem_of_getElem? (i := 51) rfl))) (by decide) (t := .int) (t' := (.object "java/util/Map")) (by decide) (by decide)))).ext E5).keep K6 (own_nin1 (Nat.ne_of_lt (Nat.lt_of_lt_of_le ((EG.ext E2).wr W4).lt (Nat.le_of_eq g5.symm))))).other W7 (Or.inr (slot_ne (Or.inl (hw _ (List.mem_of_getElem? (i := 145) rfl))) (Or.inr (hw _ (List.mem_of_getElem? (i := 55) rfl))) (by decide) (t := .int) (t' := (.object "java/util/List")) (by decide) (by decide)))).ext E8).other W9 (Or.inr (slot_ne (Or.inl (hw _ (List.mem_of_getElem? (i := 145) rfl))) (Or.inl (hw _ (List.mem_of_getElem? (i := 58) rfl))) (by decide) (t := .int) (t' := (.array .int)) (by decide) (by decide)))).ext E10).other W11 (Or.inr (slot_ne (Or.inl (hw _ (List.mem_of_getElem? (i := 145) rfl))) (Or.inl (hw _ (List.mem_of_getElem? (i := 60) rfl))) (by decide) (t := .int) (t' := (.array .int)) (by decide) (by decide)))).other W12 (Or.inr (slot_ne (Or.inl (hw _ (List.mem_of_getElem? (i := 145) rfl))) (Or.inl (hw _ (List.mem_of_getElem? (i := 62) rfl))) (by decide) (t := .int) (t' := .int) (by decide) (by decide)))).other W13 (Or.inr (slot_ne (Or.inl (hw _ (List.mem_of_getElem? (i := 145) rfl))) (Or.inr (hw _ (List.mem_of_getElem? (i := 64) rfl))) (by decide) (t := .int) (t' := (.object "java/util/List")) (by decide) (by decide)))).other W14 (Or.inr (slot_ne (Or.inl (hw _ (List.mem_of_getElem? (i := 145) rfl))) (Or.inr (hw _ (List.mem_of_getElem? (i := 66) rfl))) (by decide) (t := .int) (t' := .boolean) (by decide) (by decide)))).ext E15).other W16 (Or.inr (slot_ne (Or.inl (hw _ (List.mem_of_getElem? (i := 145) rfl))) (Or.inl (hw _ (List.mem_of_getElem? (i := 68) rfl))) (by decide) (t := .int) (t' := (.array .int)) (by decide) (by decide)))).ext E17).other W18 (Or.inr (slot_ne (Or.inl (hw _ (List.mem_of_getElem? (i := 145) rfl))) (Or.inl (hw _ (List.mem_of_getElem? (i := 70) rfl))) (by decide) (t := .int) (t' := (.array .int)) (by decide) (by decide)))).ext E19).other W20 (Or.inr (slot_ne (Or.inl (hw _ (List.mem_of_getElem? (i := 145) rfl))) (Or.inl (hw _ (List.mem_of_getElem? (i := 72) rfl))) (by decide) (t := .int) (t' := (.array .int)) (by decide) (by decide)))).ext E21).other W22 (Or.inr (slot_ne (Or.inl (hw _ (List.mem_of_getElem? (i := 145) rfl))) (Or.inl (hw _ (List.mem_of_getElem? (i := 74) rfl))) (by decide) (t := .int) (t' := (.array .int)) (by decide) (by decide))))), (by rw [e22]; exact ((((((((((((((((((((G12.ext E2).other W4 (Or.inr (slot_ne (Or.inl (hw _ (List.mem_of_getElem? (i := 161) rfl))) (Or.inr (hw _ (List.mem_of_getElem? (i := 51) rfl))) (by decide) (t := .int) (t' := (.object "java/util/Map")) (by decide) (by decide)))).ext E5).keep K6 (own_nin1 (Nat.ne_of_lt (Nat.lt_of_lt_of_le ((EG.ext E2).wr W4).lt (Nat.le_of_eq g5.symm))))).other W7 (Or.inr (slot_ne (Or.inl (hw _ (List.mem_of_getElem? (i := 161) rfl))) (Or.inr (hw _ (List.mem_of_getElem? (i := 55) rfl))) (by decide) (t := .int) (t' := (.object "java/util/List")) (by decide) (by decide)))).ext E8).other W9 (Or.inr (slot_ne (Or.inl (hw _ (List.mem_of_getElem? (i := 161) rfl))) (Or.inl (hw _ (List.mem_of_getElem? (i := 58) rfl))) (by decide) (t := .int) (t' := (.array .int)) (by decide) (by decide)))).ext E10).other W11 (Or.inr (slot_ne (Or.inl (hw _ (List.mem_of_getElem? (i := 161) rfl))) (Or.inl (hw _ (List.mem_of_getElem? (i := 60) rfl))) (by decide) (t := .int) (t' := (.array .int)) (by decide) (by decide)))).other W12 (Or.inr (slot_ne (Or.inl (hw _ (List.mem_of_getElem? (i := 161) rfl))) (Or.inl (hw _ (List.mem_of_getElem? (i := 62) rfl))) (by decide) (t := .int) (t' := .int) (by decide) (by decide)))).other W13 (Or.inr (slot_ne (Or.inl (hw _ (List.mem_of_getElem? (i := 161) rfl))) (Or.inr (hw _ (List.mem_of_getElem? (i := 64) rfl))) (by decide) (t := .int) (t' := (.object "java/util/List")) (by decide) (by decide)))).other W14 (Or.inr (slot_ne (Or.inl (hw _ (List.mem_of_getElem? (i := 161) rfl))) (Or.inr (hw _ (List.mem_of_getElem? (i := 66) rfl))) (by decide) (t := .int) (t' := .boolean) (by decide) (by decide)))).ext E15).other W16 (Or.inr (slot_ne (Or.inl (hw _ (List.mem_of_getElem? (i := 161) rfl))) (Or.inl (hw _ (List.mem_of_getElem? (i := 68) rfl))) (by decide) (t := .int) (t' := (.array .int)) (by decide) (by decide)))).ext E17).other W18 (Or.inr (slot_ne (Or.inl (hw _ (List.mem_of_getElem? (i := 161) rfl))) (Or.inl (hw _ (List.mem_of_getElem? (i := 70) rfl))) (by decide) (t := .int) (t' := (.array .int)) (by decide) (by decide)))).ext E19).other W20 (Or.inr (slot_ne (Or.inl (hw _ (List.mem_of_getElem? (i := 161) rfl))) (Or.inl (hw _ (List.mem_of_getElem? (i := 72) rfl))) (by decide) (t := .int) (t' := (.array .int)) (by decide) (by decide)))).ext E21).other W22 (Or.inr (slot_ne (Or.inl (hw _ (List.mem_of_getElem? (i := 161) rfl))) (Or.inl (hw _ (List.mem_of_getElem? (i := 74) rfl))) (by decide) (t := .int) (t' := (.array .int)) (by decide) (by decide))))), ⟨_, (by rw [e22]; exact ((((((((((((((VA_b8.other W9 (Ne.symm (Nat.ne_of_lt (Nat.lt_of_lt_of_le (((((EG.ext E2).wr W4).ext E5).keep K6).wr W7).lt (Nat.le_of_eq g8.symm))))).ext E10).other W11 (Ne.symm (Nat.ne_of_lt (Nat.lt_of_lt_of_le (((((EG.ext E2).wr W4).ext E5).keep K6).wr W7).lt (Nat.le_of_eq g8.symm))))).other W12 (Ne.symm (Nat.ne_of_lt (Nat.lt_of_lt_of_le (((((EG.ext E2).wr W4).ext E5).keep K6).wr W7).lt (Nat.le_of_eq g8.symm))))).other W13 (Ne.symm (Nat.ne_of_lt (Nat.lt_of_lt_of_le (((((EG.ext E2).wr W4).ext E5).keep K6).wr W7).lt (Nat.le_of_eq g8.symm))))).other W14 (Ne.symm (Nat.ne_of_lt (Nat.lt_of_lt_of_le (((((EG.ext E2).wr W4).ext E5).keep K6).wr W7).lt (Nat.le_of_eq g8.symm))))).ext E15).other W16 (Ne.symm (Nat.ne_of_lt (Nat.lt_of_lt_of_le (((((EG.ext E2).wr W4).ext E5).keep K6).wr W7).lt (Nat.le_of_eq g8.symm))))).ext E17).other W18 (Ne.symm (Nat.ne_of_lt (Nat.lt_of_lt_of_le (((((EG.ext E2).wr W4).ext E5).keep K6).wr W7).lt (Nat.le_of_eq g8.symm))))).ext E19).other W20 (Ne.symm (Nat.ne_of_lt (Nat.lt_of_lt_of_le (((((EG.ext E2).wr W4).ext E5).keep K6).wr W7).lt (Nat.le_of_eq g8.symm))))).ext E21).other W22 (Ne.symm (Nat.ne_of_lt (Nat.lt_of_lt_of_le (((((EG.ext E2).wr W4).ext E5).keep K6).wr W7).lt (Nat.le_of_eq g8.symm))))))⟩, ⟨_, (by rw [e22]; exact ((((((((((((VA_b10.other W11 (Ne.symm (Nat.ne_of_lt (Nat.lt_of_lt_of_le (((((((EG.ext E2).wr W4).ext E5).keep K6).wr W7).ext E8).wr W9).lt (Nat.le_of_eq g10.symm))))).other W12 (Ne.symm (Nat.ne_of_lt (Nat.lt_of_lt_of_le (((((((EG.ext E2).wr W4).ext E5).keep K6).wr W7).ext E8).wr W9).lt (Nat.le_of_eq g10.symm))))).other W13 (Ne.symm (Nat.ne_of_lt (Nat.lt_of_lt_of_le (((((((EG.ext E2).wr W4).ext E5).keep K6).wr W7).ext E8).wr W9).lt (Nat.le_of_eq g10.symm))))).other W14 (Ne.symm (Nat.ne_of_lt (Nat.lt_of_lt_of_le (((((((EG.ext E2).wr W4).ext E5).keep K6).wr W7).ext E8).wr W9).lt (Nat.le_of_eq g10.symm))))).ext E15).other W16 (Ne.symm (Nat.ne_of_lt (Nat.lt_of_lt_of_le (((((((EG.ext E2).wr W4).ext E5).keep K6).wr W7).ext E8).wr W9).lt (Nat.le_of_eq g10.symm))))).ext E17).other W18 (Ne.symm (Nat.ne_of_lt (Nat.lt_of_lt_of_le (((((((EG.ext E2).wr W4).ext E5).keep K6).wr W7).ext E8).wr W9).lt (Nat.le_of_eq g10.symm))))).ext E19).other W20 (Ne.symm (Nat.ne_of_lt (Nat.lt_of_lt_of_le (((((((EG.ext E2).wr W4).ext E5).keep K6).wr W7).ext E8).wr W9).lt (Nat.le_of_eq g10.symm))))).ext E21).other W22 (Ne.symm (Nat.ne_of_lt (Nat.lt_of_lt_of_le (((((((EG.ext E2).wr W4).ext E5).keep K6).wr W7).ext E8).wr W9).lt (Nat.le_of_eq g10.symm))))))⟩, (by rw [e22]; exact (((((((VA_b15.other W16 (Ne.symm (Nat.ne_of_lt (Nat.lt_of_lt_of_le ((((((((((((EG.ext E2).wr W4).ext E5).keep K6).wr W7).ext E8).wr W9).ext E10).wr W11).wr W12).wr W13).wr W14).lt (Nat.le_of_eq g15.symm))))).ext E17).other W18 (Ne.symm (Nat.ne_of_lt (Nat.lt_of_lt_of_le ((((((((((((EG.ext E2).wr W4).ext E5).keep K6).wr W7).ext E8).wr W9).ext E10).wr W11).wr W12).wr W13).wr W14).lt (Nat.le_of_eq g15.symm))))).ext E19).other W20 (Ne.symm (Nat.ne_of_lt (Nat.lt_of_lt_of_le ((((((((((((EG.ext E2).wr W4).ext E5).keep K6).wr W7).ext E8).wr W9).ext E10).wr W11).wr W12).wr W13).wr W14).lt (Nat.le_of_eq g15.symm))))).ext E21).other W22 (Ne.symm (Nat.ne_of_lt (Nat.lt_of_lt_of_le ((((((((((((EG.ext E2).wr W4).ext E5).keep K6).wr W7).ext E8).wr W9).ext E10).wr W11).wr W12).wr W13).wr W14).lt (Nat.le_of_eq g15.symm)))))), (by rw [e22]; exact (((((VA_b17.other W18 (Ne.symm (Nat.ne_of_lt (Nat.lt_of_lt_of_le ((((((((((((((EG.ext E2).wr W4).ext E5).keep K6).wr W7).ext E8).wr W9).ext E10).wr W11).wr W12).wr W13).wr W14).ext E15).wr W16).lt (Nat.le_of_eq g17.symm))))).ext E19).other W20 (Ne.symm (Nat.ne_of_lt (Nat.lt_of_lt_of_le ((((((((((((((EG.ext E2).wr W4).ext E5).keep K6).wr W7).ext E8).wr W9).ext E10).wr W11).wr W12).wr W13).wr W14).ext E15).wr W16).lt (Nat.le_of_eq g17.symm))))).ext E21).other W22 (Ne.symm (Nat.ne_of_lt (Nat.lt_of_lt_of_le ((((((((((((((EG.ext E2).wr W4).ext E5).keep K6).wr W7).ext E8).wr W9).ext E10).wr W11).wr W12).wr W13).wr W14).ext E15).wr W16).lt (Nat.le_of_eq g17.symm)))))), ⟨_, (by rw [e22]; exact (((VA_b19.other W20 (Ne.symm (Nat.ne_of_lt (Nat.lt_of_lt_of_le ((((((((((((((((EG.ext E2).wr W4).ext E5).keep K6).wr W7).ext E8).wr W9).ext E10).wr W11).wr W12).wr W13).wr W14).ext E15).wr W16).ext E17).wr W18).lt (Nat.le_of_eq g19.symm))))).ext E21).other W22 (Ne.symm (Nat.ne_of_lt (Nat.lt_of_lt_of_le ((((((((((((((((EG.ext E2).wr W4).ext E5).keep K6).wr W7).ext E8).wr W9).ext E10).wr W11).wr W12).wr W13).wr W14).ext E15).wr W16).ext E17).wr W18).lt (Nat.le_of_eq g19.symm))))))⟩, ⟨_, (by rw [e22]; exact (VA_b21.other W22 (Ne.symm (Nat.ne_of_lt (Nat.lt_of_lt_of_le ((((((((((((((((((EG.ext E2).wr W4).ext E5).keep K6).wr W7).ext E8).wr W9).ext E10).wr W11).wr W12).wr W13).wr W14).ext E15).wr W16).ext E17).wr W18).ext E19).wr W20).lt (Nat.le_of_eq g21.symm))))))⟩⟩, ⟨(by rw [e22]; exact ((((((((((((((((Ea6.wr W7).ext E8).wr W9).ext E10).wr W11).wr W12).wr W13).wr W14).ext E15).wr W16).ext E17).wr W18).ext E19).wr W20).ext E21).wr W22)), ⟨_, (by rw [e22]; exact ((((((((((((((((Fa6_0.other W7 (Or.inl (Ne.symm (Nat.ne_of_lt (Nat.lt_of_lt_of_le ((EG.ext E2).wr W4).lt (Nat.le_of_eq g5.symm)))))).ext E8).other W9 (Or.inl (Ne.symm (Nat.ne_of_lt (Nat.lt_of_lt_of_le ((EG.ext E2).wr W4).lt (Nat.le_of_eq g5.symm)))))).ext E10).other W11 (Or.inl (Ne.symm (Nat.ne_of_lt (Nat.lt_of_lt_of_le ((EG.ext E2).wr W4).lt (Nat.le_of_eq g5.symm)))))).other W12 (Or.inl (Ne.symm (Nat.ne_of_lt (Nat.lt_of_lt_of_le ((EG.ext E2).wr W4).lt (Nat.le_of_eq g5.symm)))))).other W13 (Or.inl (Ne.symm (Nat.ne_of_lt (Nat.lt_of_lt_of_le ((EG.ext E2).wr W4).lt (Nat.le_of_eq g5.symm)))))).other W14 (Or.inl (Ne.symm (Nat.ne_of_lt (Nat.lt_of_lt_of_le ((EG.ext E2).wr W4).lt (Nat.le_of_eq g5.symm)))))).ext E15).other W16 (Or.inl (Ne.symm (Nat.ne_of_lt (Nat.lt_of_lt_of_le ((EG.ext E2).wr W4).lt (Nat.le_of_eq g5.symm)))))).ext E17).other W18 (Or.inl (Ne.symm (Nat.ne_of_lt (Nat.lt_of_lt_of_le ((EG.ext E2).wr W4).lt (Nat.le_of_eq g5.symm)))))).ext E19).other W20 (Or.inl (Ne.symm (Nat.ne_of_lt (Nat.lt_of_lt_of_le ((EG.ext E2).wr W4).lt (Nat.le_of_eq g5.symm)))))).ext E21).other W22 (Or.inl (Ne.symm (Nat.ne_of_lt (Nat.lt_of_lt_of_le ((EG.ext E2).wr W4).lt (Nat.le_of_eq g5.symm)))))))⟩, (by rw [e22]; exact ((((((((((((((((Fa6_1.other W7 (Or.inl (Ne.symm (Nat.ne_of_lt (Nat.lt_of_lt_of_le ((EG.ext E2).wr W4).lt (Nat.le_of_eq g5.symm)))))).ext E8).other W9 (Or.inl (Ne.symm (Nat.ne_of_lt (Nat.lt_of_lt_of_le ((EG.ext E2).wr W4).lt (Nat.le_of_eq g5.symm)))))).ext E10).other W11 (Or.inl (Ne.symm (Nat.ne_of_lt (Nat.lt_of_lt_of_le ((EG.ext E2).wr W4).lt (Nat.le_of_eq g5.symm)))))).other W12 (Or.inl (Ne.symm (Nat.ne_of_lt (Nat.lt_of_lt_of_le ((EG.ext E2).wr W4).lt (Nat.le_of_eq g5.symm)))))).other W13 (Or.inl (Ne.symm (Nat.ne_of_lt (Nat.lt_of_lt_of_le ((EG.ext E2).wr W4).lt (Nat.le_of_eq g5.symm)))))).other W14 (Or.inl (Ne.symm (Nat.ne_of_lt (Nat.lt_of_lt_of_le ((EG.ext E2).wr W4).lt (Nat.le_of_eq g5.symm)))))).ext E15).other W16 (Or.inl (Ne.symm (Nat.ne_of_lt (Nat.lt_of_lt_of_le ((EG.ext E2).wr W4).lt (Nat.le_of_eq g5.symm)))))).ext E17).other W18 (Or.inl (Ne.symm (Nat.ne_of_lt (Nat.lt_of_lt_of_le ((EG.ext E2).wr W4).lt (Nat.le_of_eq g5.symm)))))).ext E19).other W20 (Or.inl (Ne.symm (Nat.ne_of_lt (Nat.lt_of_lt_of_le ((EG.ext E2).wr W4).lt (Nat.le_of_eq g5.symm)))))).ext E21).other W22 (Or.inl (Ne.symm (Nat.ne_of_lt (Nat.lt_of_lt_of_le ((EG.ext E2).wr W4).lt (Nat.le_of_eq g5.symm))))))), (by rw [e22]; exact ((((((((((((((((Fa6_2.other W7 (Or.inl (Ne.symm (Nat.ne_of_lt (Nat.lt_of_lt_of_le ((EG.ext E2).wr W4).lt (Nat.le_of_eq g5.symm)))))).ext E8).other W9 (Or.inl (Ne.symm (Nat.ne_of_lt (Nat.lt_of_lt_of_le ((EG.ext E2).wr W4).lt (Nat.le_of_eq g5.symm)))))).ext E10).other W11 (Or.inl (Ne.symm (Nat.ne_of_lt (Nat.lt_of_lt_of_le ((EG.ext E2).wr W4).lt (Nat.le_of_eq g5.symm)))))).other W12 (Or.inl (Ne.symm (Nat.ne_of_lt (Nat.lt_of_lt_of_le ((EG.ext E2).wr W4).lt (Nat.le_of_eq g5.symm)))))).other W13 (Or.inl (Ne.symm (Nat.ne_of_lt (Nat.lt_of_lt_of_le ((EG.ext E2).wr W4).lt (Nat.le_of_eq g5.symm)))))).other W14 (Or.inl (Ne.symm (Nat.ne_of_lt (Nat.lt_of_lt_of_le ((EG.ext E2).wr W4).lt (Nat.le_of_eq g5.symm)))))).ext E15).other W16 (Or.inl (Ne.symm (Nat.ne_of_lt (Nat.lt_of_lt_of_le ((EG.ext E2).wr W4).lt (Nat.le_of_eq g5.symm)))))).ext E17).other W18 (Or.inl (Ne.symm (Nat.ne_of_lt (Nat.lt_of_lt_of_le ((EG.ext E2).wr W4).lt (Nat.le_of_eq g5.symm)))))).ext E19).other W20 (Or.inl (Ne.symm (Nat.ne_of_lt (Nat.lt_of_lt_of_le ((EG.ext E2).wr W4).lt (Nat.le_of_eq g5.symm)))))).ext E21).other W22 (Or.inl (Ne.symm (Nat.ne_of_lt (Nat.lt_of_lt_of_le ((EG.ext E2).wr W4).lt (Nat.le_of_eq g5.symm))))))), (by rw [e22]; exact ((((((((((((((((((((RX.ext E2).other W4 (Ne.symm x0)).ext E5).keep K6 (own_nin1 (Nat.ne_of_lt (Nat.lt_of_lt_of_le ((RX.ext E2).other W4 (Ne.symm x0)).lt (Nat.le_of_eq g5.symm))))).other W7 (Ne.symm x0)).ext E8).other W9 (Ne.symm x0)).ext E10).other W11 (Ne.symm x0)).other W12 (Ne.symm x0)).other W13 (Ne.symm x0)).other W14 (Ne.symm x0)).ext E15).other W16 (Ne.symm x0)).ext E17).other W18 (Ne.symm x0)).ext E19).other W20 (Ne.symm x0)).ext E21).other W22 (Ne.symm x0)))⟩, (List.Pairwise.cons (allS (Nat.ne_of_lt (Nat.lt_of_lt_of_le ((EG.ext E2).wr W4).lt (Nat.le_of_eq g5.symm))) (allS (Nat.ne_of_lt (Nat.lt_of_lt_of_le (((((EG.ext E2).wr W4).ext E5).keep K6).wr W7).lt (Nat.le_of_eq g8.symm))) (allS (Nat.ne_of_lt (Nat.lt_of_lt_of_le (((((((EG.ext E2).wr W4).ext E5).keep K6).wr W7).ext E8).wr W9).lt (Nat.le_of_eq g10.symm))) (allS (Nat.ne_of_lt (Nat.lt_of_lt_of_le ((((((((((((EG.ext E2).wr W4).ext E5).keep K6).wr W7).ext E8).wr W9).ext E10).wr W11).wr W12).wr W13).wr W14).lt (Nat.le_of_eq g15.symm))) (allS (Nat.ne_of_lt (Nat.lt_of_lt_of_le ((((((((((((((EG.ext E2).wr W4).ext E5).keep K6).wr W7).ext E8).wr W9).ext E10).wr W11).wr W12).wr W13).wr W14).ext E15).wr W16).lt (Nat.le_of_eq g17.symm))) (allS (Nat.ne_of_lt (Nat.lt_of_lt_of_le ((((((((((((((((EG.ext E2).wr W4).ext E5).keep K6).wr W7).ext E8).wr W9).ext E10).wr W11).wr W12).wr W13).wr W14).ext E15).wr W16).ext E17).wr W18).lt (Nat.le_of_eq g19.symm))) (allS (Nat.ne_of_lt (Nat.lt_of_lt_of_le ((((((((((((((((((EG.ext E2).wr W4).ext E5).keep K6).wr W7).ext E8).wr W9).ext E10).wr W11).wr W12).wr W13).wr W14).ext E15).wr W16).ext E17).wr W18).ext E19).wr W20).lt (Nat.le_of_eq g21.symm))) all0))))))) (List.Pairwise.cons (allS (Nat.ne_of_lt (Nat.lt_of_lt_of_le (Ea6.wr W7).lt (Nat.le_of_eq g8.symm))) (allS (Nat.ne_of_lt (Nat.lt_of_lt_of_le (((Ea6.wr W7).ext E8).wr W9).lt (Nat.le_of_eq g10.symm))) (allS (Nat.ne_of_lt (Nat.lt_of_lt_of_le ((((((((Ea6.wr W7).ext E8).wr W9).ext E10).wr W11).wr W12).wr W13).wr W14).lt (Nat.le_of_eq g15.symm))) (allS (Nat.ne_of_lt (Nat.lt_of_lt_of_le ((((((((((Ea6.wr W7).ext E8).wr W9).ext E10).wr W11).wr W12).wr W13).wr W14).ext E15).wr W16).lt (Nat.le_of_eq g17.symm))) (allS (Nat.ne_of_lt (Nat.lt_of_lt_of_le ((((((((((((Ea6.wr W7).ext E8).wr W9).ext E10).wr W11).wr W12).wr W13).wr W14).ext E15).wr W16).ext E17).wr W18).lt (Nat.le_of_eq g19.symm))) (allS (Nat.ne_of_lt (Nat.lt_of_lt_of_le ((((((((((((((Ea6.wr W7).ext E8).wr W9).ext E10).wr W11).wr W12).wr W13).wr W14).ext E15).wr W16).ext E17).wr W18).ext E19).wr W20).lt (Nat.le_of_eq g21.symm))) all0)))))) (List.Pairwise.cons (allS (Nat.ne_of_lt (Nat.lt_of_lt_of_le (VA_b8.other W9 (Ne.symm (Nat.ne_of_lt (Nat.lt_of_lt_of_le (((((EG.ext E2).wr W4).ext E5).keep K6).wr W7).lt (Nat.le_of_eq g8.symm))))).lt (Nat.le_of_eq g10.symm))) (allS (Nat.ne_of_lt (Nat.lt_of_lt_of_le ((((((VA_b8.other W9 (Ne.symm (Nat.ne_of_lt (Nat.lt_of_lt_of_le (((((EG.ext E2).wr W4).ext E5).keep K6).wr W7).lt (Nat.le_of_eq g8.symm))))).ext E10).other W11 (Ne.symm (Nat.ne_of_lt (Nat.lt_of_lt_of_le (((((EG.ext E2).wr W4).ext E5).keep K6).wr W7).lt (Nat.le_of_eq g8.symm))))).other W12 (Ne.symm (Nat.ne_of_lt (Nat.lt_of_lt_of_le (((((EG.ext E2).wr W4).ext E5).keep K6).wr W7).lt (Nat.le_of_eq g8.symm))))).other W13 (Ne.symm (Nat.ne_of_lt (Nat.lt_of_lt_of_le (((((EG.ext E2).wr W4).ext E5).keep K6).wr W7).lt (Nat.le_of_eq g8.symm))))).other W14 (Ne.symm (Nat.ne_of_lt (Nat.lt_of_lt_of_le (((((EG.ext E2).wr W4).ext E5).keep K6).wr W7).lt (Nat.le_of_eq g8.symm))))).lt (Nat.le_of_eq g15.symm))) (allS (Nat.ne_of_lt (Nat.lt_of_lt_of_le ((((((((VA_b8.other W9 (Ne.symm (Nat.ne_of_lt (Nat.lt_of_lt_of_le (((((EG.ext E2).wr W4).ext E5).keep K6).wr W7).lt (Nat.le_of_eq g8.symm))))).ext E10).other W11 (Ne.symm (Nat.ne_of_lt (Nat.lt_of_lt_of_le (((((EG.ext E2).wr W4).ext E5).keep K6).wr W7).lt (Nat.le_of_eq g8.symm))))).other W12 (Ne.symm (Nat.ne_of_lt (Nat.lt_of_lt_of_le (((((EG.ext E2).wr W4).ext E5).keep K6).wr W7).lt (Nat.le_of_eq g8.symm))))).other W13 (Ne.symm (Nat.ne_of_lt (Nat.lt_of_lt_of_le (((((EG.ext E2).wr W4).ext E5).keep K6).wr W7).lt (Nat.le_of_eq g8.symm))))).other W14 (Ne.symm (Nat.ne_of_lt (Nat.lt_of_lt_of_le (((((EG.ext E2).wr W4).ext E5).keep K6).wr W7).lt (Nat.le_of_eq g8.symm))))).ext E15).other W16 (Ne.symm (Nat.ne_of_lt (Nat.lt_of_lt_of_le (((((EG.ext E2).wr W4).ext E5).keep K6).wr W7).lt (Nat.le_of_eq g8.symm))))).lt (Nat.le_of_eq g17.symm))) (allS (Nat.ne_of_lt (Nat.lt_of_lt_of_le ((((((((((VA_b8.other W9 (Ne.symm (Nat.ne_of_lt (Nat.lt_of_lt_of_le (((((EG.ext E2).wr W4).ext E5).keep K6).wr W7).lt (Nat.le_of_eq g8.symm))))).ext E10).other W11 (Ne.symm (Nat.ne_of_lt (Nat.lt_of_lt_of_le (((((EG.ext E2).wr W4).ext E5).keep K6).wr W7).lt (Nat.le_of_eq g8.symm))))).other W12 (Ne.symm (Nat.ne_of_lt (Nat.lt_of_lt_of_le (((((EG.ext E2).wr W4).ext E5).keep K6).wr W7).lt (Nat.le_of_eq g8.symm))))).other W13 (Ne.symm (Nat.ne_of_lt (Nat.lt_of_lt_of_le (((((EG.ext E2).wr W4).ext E5).keep K6).wr W7).lt (Nat.le_of_eq g8.symm))))).other W14 (Ne.symm (Nat.ne_of_lt (Nat.lt_of_lt_of_le (((((EG.ext E2).wr W4).ext E5).keep K6).wr W7).lt (Nat.le_of_eq g8.symm))))).ext E15).other W16 (Ne.symm (Nat.ne_of_lt (Nat.lt_of_lt_of_le (((((EG.ext E2).wr W4).ext E5).keep K6).wr W7).lt (Nat.le_of_eq g8.symm))))).ext E17).other W18 (Ne.symm (Nat.ne_of_lt (Nat.lt_of_lt_of_le (((((EG.ext E2).wr W4).ext E5).keep K6).wr W7).lt (Nat.le_of_eq g8.symm))))).lt (Nat.le_of_eq g19.symm))) (allS (Nat.ne_of_lt (Nat.lt_of_lt_of_le ((((((((((((VA_b8.other W9 (Ne.symm (Nat.ne_of_lt (Nat.lt_of_lt_of_le (((((EG.ext E2).wr W4).ext E5).keep K6).wr W7).lt (Nat.le_of_eq g8.symm))))).ext E10).other W11 (Ne.symm (Nat.ne_of_lt (Nat.lt_of_lt_of_le (((((EG.ext E2).wr W4).ext E5).keep K6).wr W7).lt (Nat.le_of_eq g8.symm))))).other W12 (Ne.symm (Nat.ne_of_lt (Nat.lt_of_lt_of_le (((((EG.ext E2).wr W4).ext E5).keep K6).wr W7).lt (Nat.le_of_eq g8.symm))))).other W13 (Ne.symm (Nat.ne_of_lt (Nat.lt_of_lt_of_le (((((EG.ext E2).wr W4).ext E5).keep K6).wr W7).lt (Nat.le_of_eq g8.symm))))).other W14 (Ne.symm (Nat.ne_of_lt (Nat.lt_of_lt_of_le (((((EG.ext E2).wr W4).ext E5).keep K6).wr W7).lt (Nat.le_of_eq g8.symm))))).ext E15).other W16 (Ne.symm (Nat.ne_of_lt (Nat.lt_of_lt_of_le (((((EG.ext E2).wr W4).ext E5).keep K6).wr W7).lt (Nat.le_of_eq g8.symm))))).ext E17).other W18 (Ne.symm (Nat.ne_of_lt (Nat.lt_of_lt_of_le (((((EG.ext E2).wr W4).ext E5).keep K6).wr W7).lt (Nat.le_of_eq g8.symm))))).ext E19).other W20 (Ne.symm (Nat.ne_of_lt (Nat.lt_of_lt_of_le (((((EG.ext E2).wr W4).ext E5).keep K6).wr W7).lt (Nat.le_of_eq g8.symm))))).lt (Nat.le_of_eq g21.symm))) all0))))) (List.Pairwise.cons (allS (Nat.ne_of_lt (Nat.lt_of_lt_of_le ((((VA_b10.other W11 (Ne.symm (Nat.ne_of_lt (Nat.lt_of_lt_of_le (((((((EG.ext E2).wr W4).ext E5).keep K6).wr W7).ext E8).wr W9).lt (Nat.le_of_eq g10.symm))))).other W12 (Ne.symm (Nat.ne_of_lt (Nat.lt_of_lt_of_le (((((((EG.ext E2).wr W4).ext E5).keep K6).wr W7).ext E8).wr W9).lt (Nat.le_of_eq g10.symm))))).other W13 (Ne.symm (Nat.ne_of_lt (Nat.lt_of_lt_of_le (((((((EG.ext E2).wr W4).ext E5).keep K6).wr W7).ext E8).wr W9).lt (Nat.le_of_eq g10.symm))))).other W14 (Ne.symm (Nat.ne_of_lt (Nat.lt_of_lt_of_le (((((((EG.ext E2).wr W4).ext E5).keep K6).wr W7).ext E8).wr W9).lt (Nat.le_of_eq g10.symm))))).lt (Nat.le_of_eq g15.symm))) (allS (Nat.ne_of_lt (Nat.lt_of_lt_of_le ((((((VA_b10.other W11 (Ne.symm (Nat.ne_of_lt (Nat.lt_of_lt_of_le (((((((EG.ext E2).wr W4).ext E5).keep K6).wr W7).ext E8).wr W9).lt (Nat.le_of_eq g10.symm))))).other W12 (Ne.symm (Nat.ne_of_lt (Nat.lt_of_lt_of_le (((((((EG.ext E2).wr W4).ext E5).keep K6).wr W7).ext E8).wr W9).lt (Nat.le_of_eq g10.symm))))).other W13 (Ne.symm (Nat.ne_of_lt (Nat.lt_of_lt_of_le (((((((EG.ext E2).wr W4).ext E5).keep K6).wr W7).ext E8).wr W9).lt (Nat.le_of_eq g10.symm))))).other W14 (Ne.symm (Nat.ne_of_lt (Nat.lt_of_lt_of_le (((((((EG.ext E2).wr W4).ext E5).keep K6).wr W7).ext E8).wr W9).lt (Nat.le_of_eq g10.symm))))).ext E15).other W16 (Ne.symm (Nat.ne_of_lt (Nat.lt_of_lt_of_le (((((((EG.ext E2).wr W4).ext E5).keep K6).wr W7).ext E8).wr W9).lt (Nat.le_of_eq g10.symm))))).lt (Nat.le_of_eq g17.symm))) (allS (Nat.ne_of_lt (Nat.lt_of_lt_of_le ((((((((VA_b10.other W11 (Ne.symm (Nat.ne_of_lt (Nat.lt_of_lt_of_le (((((((EG.ext E2).wr W4).ext E5).keep K6).wr W7).ext E8).wr W9).lt (Nat.le_of_eq g10.symm))))).other W12 (Ne.symm (Nat.ne_of_lt (Nat.lt_of_lt_of_le (((((((EG.ext E2).wr W4).ext E5).keep K6).wr W7).ext E8).wr W9).lt (Nat.le_of_eq g10.symm))))).other W13 (Ne.symm (Nat.ne_of_lt (Nat.lt_of_lt_of_le (((((((EG.ext E2).wr W4).ext E5).keep K6).wr W7).ext E8).wr W9).lt (Nat.le_of_eq g10.symm))))).other W14 (Ne.symm (Nat.ne_of_lt (Nat.lt_of_lt_of_le (((((((EG.ext E2).wr W4).ext E5).keep K6).wr W7).ext E8).wr W9).lt (Nat.le_of_eq g10.symm))))).ext E15).other W16 (Ne.symm (Nat.ne_of_lt (Nat.lt_of_lt_of_le (((((((EG.ext E2).wr W4).ext E5).keep K6).wr W7).ext E8).wr W9).lt (Nat.le_of_eq g10.symm))))).ext E17).other W18 (Ne.symm (Nat.ne_of_lt (Nat.lt_of_lt_of_le (((((((EG.ext E2).wr W4).ext E5).keep K6).wr W7).ext E8).wr W9).lt (Nat.le_of_eq g10.symm))))).lt (Nat.le_of_eq g19.symm))) (allS (Nat.ne_of_lt (Nat.lt_of_lt_of_le ((((((((((VA_b10.other W11 (Ne.symm (Nat.ne_of_lt (Nat.lt_of_lt_of_le (((((((EG.ext E2).wr W4).ext E5).keep K6).wr W7).ext E8).wr W9).lt (Nat.le_of_eq g10.symm))))).other W12 (Ne.symm (Nat.ne_of_lt (Nat.lt_of_lt_of_le (((((((EG.ext E2).wr W4).ext E5).keep K6).wr W7).ext E8).wr W9).lt (Nat.le_of_eq g10.symm))))).other W13 (Ne.symm (Nat.ne_of_lt (Nat.lt_of_lt_of_le (((((((EG.ext E2).wr W4).ext E5).keep K6).wr W7).ext E8).wr W9).lt (Nat.le_of_eq g10.symm))))).other W14 (Ne.symm (Nat.ne_of_lt (Nat.lt_of_lt_of_le (((((((EG.ext E2).wr W4).ext E5).keep K6).wr W7).ext E8).wr W9).lt (Nat.le_of_eq g10.symm))))).ext E15).other W16 (Ne.symm (Nat.ne_of_lt (Nat.lt_of_lt_of_le (((((((EG.ext E2).wr W4).ext E5).keep K6).wr W7).ext E8).wr W9).lt (Nat.le_of_eq g10.symm))))).ext E17).other W18 (Ne.symm (Nat.ne_of_lt (Nat.lt_of_lt_of_le (((((((EG.ext E2).wr W4).ext E5).keep K6).wr W7).ext E8).wr W9).lt (Nat.le_of_eq g10.symm))))).ext E19).other W20 (Ne.symm (Nat.ne_of_lt (Nat.lt_of_lt_of_le (((((((EG.ext E2).wr W4).ext E5).keep K6).wr W7).ext E8).wr W9).lt (Nat.le_of_eq g10.symm))))).lt (Nat.le_of_eq g21.symm))) all0)))) (List.Pairwise.cons (allS (Nat.ne_of_lt (Nat.lt_of_lt_of_le (VA_b15.other W16 (Ne.symm (Nat.ne_of_lt (Nat.lt_of_lt_of_le ((((((((((((EG.ext E2).wr W4).ext E5).keep K6).wr W7).ext E8).wr W9).ext E10).wr W11).wr W12).wr W13).wr W14).lt (Nat.le_of_eq g15.symm))))).lt (Nat.le_of_eq g17.symm))) (allS (Nat.ne_of_lt (Nat.lt_of_lt_of_le (((VA_b15.other W16 (Ne.symm (Nat.ne_of_lt (Nat.lt_of_lt_of_le ((((((((((((EG.ext E2).wr W4).ext E5).keep K6).wr W7).ext E8).wr W9).ext E10).wr W11).wr W12).wr W13).wr W14).lt (Nat.le_of_eq g15.symm))))).ext E17).other W18 (Ne.symm (Nat.ne_of_lt (Nat.lt_of_lt_of_le ((((((((((((EG.ext E2).wr W4).ext E5).keep K6).wr W7).ext E8).wr W9).ext E10).wr W11).wr W12).wr W13).wr W14).lt (Nat.le_of_eq g15.symm))))).lt (Nat.le_of_eq g19.symm))) (allS (Nat.ne_of_lt (Nat.lt_of_lt_of_le (((((VA_b15.other W16 (Ne.symm (Nat.ne_of_lt (Nat.lt_of_lt_of_le ((((((((((((EG.ext E2).wr W4).ext E5).keep K6).wr W7).ext E8).wr W9).ext E10).wr W11).wr W12).wr W13).wr W14).lt (Nat.le_of_eq g15.symm))))).ext E17).other W18 (Ne.symm (Nat.ne_of_lt (Nat.lt_of_lt_of_le ((((((((((((EG.ext E2).wr W4).ext E5).keep K6).wr W7).ext E8).wr W9).ext E10).wr W11).wr W12).wr W13).wr W14).lt (Nat.le_of_eq g15.symm))))).ext E19).other W20 (Ne.symm (Nat.ne_of_lt (Nat.lt_of_lt_of_le ((((((((((((EG.ext E2).wr W4).ext E5).keep K6).wr W7).ext E8).wr W9).ext E10).wr W11).wr W12).wr W13).wr W14).lt (Nat.le_of_eq g15.symm))))).lt (Nat.le_of_eq g21.symm))) all0))) (List.Pairwise.cons (allS (Nat.ne_of_lt (Nat.lt_of_lt_of_le (VA_b17.other W18 (Ne.symm (Nat.ne_of_lt (Nat.lt_of_lt_of_le ((((((((((((((EG.ext E2).wr W4).ext E5).keep K6).wr W7).ext E8).wr W9).ext E10).wr W11).wr W12).wr W13).wr W14).ext E15).wr W16).lt (Nat.le_of_eq g17.symm))))).lt (Nat.le_of_eq g19.symm))) (allS (Nat.ne_of_lt (Nat.lt_of_lt_of_le (((VA_b17.other W18 (Ne.symm (Nat.ne_of_lt (Nat.lt_of_lt_of_le ((((((((((((((EG.ext E2).wr W4).ext E5).keep K6).wr W7).ext E8).wr W9).ext E10).wr W11).wr W12).wr W13).wr W14).ext E15).wr W16).lt (Nat.le_of_eq g17.symm))))).ext E19).other W20 (Ne.symm (Nat.ne_of_lt (Nat.lt_of_lt_of_le ((((((((((((((EG.ext E2).wr W4).ext E5).keep K6).wr W7).ext E8).wr W9).ext E10).wr W11).wr W12).wr W13).wr W14).ext E15).wr W16).lt (Nat.le_of_eq g17.symm))))).lt (Nat.le_of_eq g21.symm))) all0)) (List.Pairwise.cons (allS (Nat.ne_of_lt (Nat.lt_of_lt_of_le (VA_b19.other W20 (Ne.symm (Nat.ne_of_lt (Nat.lt_of_lt_of_le ((((((((((((((((EG.ext E2).wr W4).ext E5).keep K6).wr W7).ext E8).wr W9).ext E10).wr W11).wr W12).wr W13).wr W14).ext E15).wr W16).ext E17).wr W18).lt (Nat.le_of_eq g19.symm))))).lt (Nat.le_of_eq g21.symm))) all0) (List.Pairwise.cons all0 List.Pairwise.nil)))))))), (allS g_b5 (allS g_b8 (allS g_b10 (allS g_b15 (allS g_b17 (allS g_b19 (allS g_b21 all0)))))))⟩
theorem d9_0 : decode prog_19_method_1_code 0 = .ok (.aload_n 0, 1) := by decide +kernel
theorem d9_1 : decode prog_19_method_1_code 1 = .ok (.invokespecial 1, 3) := by decide +kernel
theorem d9_4 : decode prog_19_method_1_code 4 = .ok (.aload_n 0, 1) := by decide +kernel
theorem d9_5 : decode prog_19_method_1_code 5 = .ok (.iconst (-1), 1) := by decide +kernel
theorem d9_6 : decode prog_19_method_1_code 6 = .ok (.putfield 7, 3) := by decide +kernel
theorem d9_9 : decode prog_19_method_1_code 9 = .ok (.aload_n 0, 1) := by decide +kernel
theorem d9_10 : decode prog_19_method_1_code 10 = .ok (.aload_n 1, 1) := by decide +kernel
theorem d9_11 : decode prog_19_method_1_code 11 = .ok (.putfield 13, 3) := by decide +kernel
theorem d9_14 : decode prog_19_method_1_code 14 = .ok (.return_, 1) := by decide +kernel
theorem ef_9 (m : MethodId) (a0 : Addr) : entryFrame m #[(.ref a0), .null] 2 = mkF m 0 #[.val (.ref a0), .val .null] [] := by first | (simp [entryFrame, mkF, argsToLocals, Value.category]; done) | rfl
theorem pn_7 : plainName "com/example/changeset/changeset/check/FoundState" = true := by first | (simp [plainName, overriddenIn]; done) | decide +kernel
def Q9 (Z : State) (a0 : Addr) (u_number : Value) (u_state : Value) (h0 : Heap) (n0 : Nat) (v : Option Value) (h : Heap) (L : List Loc) : Prop := v = none ∧ Fr n0 L ∧ Keep h0 h [a0] ∧ Exa Z h a0 "com/example/changeset/changeset/check/FoundState" ∧ Fld Z h a0 "com/example/changeset/changeset/check/FoundState" "number" "I" (.int (-1 : Int32)) ∧ Fld Z h a0 "com/example/changeset/changeset/check/FoundState" "state" "Lcom/example/changeset/changeset/check/State;" .null
set_option maxRecDepth 65536 in
set_option maxHeartbeats 40000000 in
theorem rm9 (l : Launch) (Z : State) (aZ : Array Value) (hw : ∀ d ∈ tables_1, d.before aZ Z = true) (ws : List Jvm.Cond) (a0 : Addr) (u_number : Value) (u_state : Value) (h0 : Heap) (n0 : Nat) (Z0 : n0 ≤ h0.size) (g_a0 : n0 ≤ a0) (E_a0 : Exa Z h0 a0 "com/example/changeset/changeset/check/FoundState") (F_u_number : Fld Z h0 a0 "com/example/changeset/changeset/check/FoundState" "number" "I" u_number) (F_u_state : Fld Z h0 a0 "com/example/changeset/changeset/check/FoundState" "state" "Lcom/example/changeset/changeset/check/State;" u_state) :
    MetFree l (⟨"com/example/changeset/changeset/check/FoundState", "<init>", "(Lcom/example/changeset/changeset/check/State;)V"⟩ : MethodName) (head1 (Jvm.Cond.code (⟨"com/example/changeset/changeset/check/FoundState", "<init>", "(Lcom/example/changeset/changeset/check/State;)V"⟩ : MethodName) prog_19_method_1_code 2 none :: ws) ({ frames := 1, cells := 0, slots := 0, locals := 12 } : Room)) (fun a U => a = #[(.ref a0), .null] ∧ Z.Warmed39 U.vm ∧ U.heap = h0) (fun _ _ _ _ _ => True) (fun _ U o U' => ∃ v L, o = .returned v ∧ Q9 Z a0 u_number u_state h0 n0 v U'.heap L ∧ FrameEnd U o U' L 0 0) := by
  refine MetFree.of_bodySF (plainFor_of_name pn_7) hisR ?_
  intro p e s m args below meth c s₁ Bd hml0 hP hK
  obtain ⟨rfl, hZ, hh⟩ := hP
  have hx := Bd.exec
  have hby := Bd.bytes
  have hml : c.maxLocals = 2 := hml0
  have hown : s.vm.findClass "com/example/changeset/changeset/check/FoundState" = some m.cls := findClass_of_methodNamed Bd.named
  have hnm := (name_of_methodNamed Bd.named Bd.method).1
  have hlk := BodyLoose.notSynchronized Bd
  have X0 : Stand p l e ({ frames := 1, cells := 0, slots := 0, locals := 12 } : Room) s m #[(.ref a0), .null] below meth c s₁ [] 0 0 := Stand.of_body Bd
  have e0 : s₁.heap = h0 := by rw [← hh, Bd.state]; rfl
  have N0 := Fr.nil n0
  have hk0 : 0 ≤ 0 := Nat.zero_le _
  have hn0 : 0 ≤ 0 := Nat.zero_le _
  show OwnEnds p e below (OwnQ s (Q9 Z a0 u_number u_state h0 n0) 0 0) (s₁.setTop (entryFrame m #[(.ref a0), .null] 2))
  refine .pre (fun t k => castTop (ef_9 m a0) k) ?_
  show OwnEnds p e below _ (s₁.setTop (mkF m 0 #[.val (.ref a0), .val .null] []))
  refine .pre (fun _ kq => XS.aloadN X0.here hx rfl (hb hby d9_0) rfl rfl kq) ?_
  show OwnEnds p e below _ (s₁.setTop (mkF m 1 #[.val (.ref a0), .val .null] [(.ref a0)]))
  obtain ⟨T1, X1, e1, st1⟩ := initO X0 hx hZ hown (hw _ (List.mem_of_getElem? (i := 82) rfl)) (hw _ (List.mem_of_getElem? (i := 26) rfl)) (hw _ (List.mem_of_getElem? (i := 27) rfl)) e0 (g := (mkF m 1 #[.val (.ref a0), .val .null] [(.ref a0)])) rfl (by rw [hml]; rfl) rfl (hb hby d9_1) (by decide) (W := 0) (by show 2 * 0 + _ ≤ _; exact Nat.le_of_eq rfl) (by decide)
  refine .pre (fun _ kq => st1 _ kq) ?_
  show OwnEnds p e below _ (T1.setTop (mkF m 4 #[.val (.ref a0), .val .null] []))
  refine .pre (fun _ kq => XS.aloadN X1.here hx rfl (hb hby d9_4) rfl rfl kq) ?_
  show OwnEnds p e below _ (T1.setTop (mkF m 5 #[.val (.ref a0), .val .null] [(.ref a0)]))
  refine .pre (fun _ kq => XS.iconst X1.here hx rfl (hb hby d9_5) kq) ?_
  show OwnEnds p e below _ (T1.setTop (mkF m 6 #[.val (.ref a0), .val .null] [(.int (-1 : Int32)), (.ref a0)]))
  obtain ⟨T2, h2, X2, e2, W2, st2⟩ := putF X1 hx hZ hown (host := "") (Or.inl (hw _ (List.mem_of_getElem? (i := 83) rfl))) Via.refl e1 F_u_number E_a0 (Or.inl (hw _ (List.mem_of_getElem? (i := 84) rfl))) (hw _ (List.mem_of_getElem? (i := 77) rfl)) (ty := .int) (by decide) rfl rfl (g := (mkF m 6 #[.val (.ref a0), .val .null] [(.int (-1 : Int32)), (.ref a0)])) rfl rfl (hb hby d9_6)
  have Fw2 := F_u_number.same W2
  have N2 := Fr.snoc X2 N0 g_a0
  have Kp2 : Keep h0 h2 [a0] := (Keep.refl h0 [a0]).wr W2 (Or.inl (List.mem_of_getElem? (i := 0) rfl))
  refine .pre (fun _ kq => st2 _ kq) ?_
  show OwnEnds p e below _ (T2.setTop (mkF m 9 #[.val (.ref a0), .val .null] []))
  refine .pre (fun _ kq => XS.aloadN X2.here hx rfl (hb hby d9_9) rfl rfl kq) ?_
  show OwnEnds p e below _ (T2.setTop (mkF m 10 #[.val (.ref a0), .val .null] [(.ref a0)]))
  refine .pre (fun _ kq => XS.aloadN X2.here hx rfl (hb hby d9_10) rfl rfl kq) ?_
  show OwnEnds p e below _ (T2.setTop (mkF m 11 #[.val (.ref a0), .val .null] [.null, (.ref a0)]))
  obtain ⟨T3, h3, X3, e3, W3, st3⟩ := putF X2 hx hZ hown (host := "") (Or.inl (hw _ (List.mem_of_getElem? (i := 85) rfl))) Via.refl e2 (F_u_state.other W2 (Or.inr (slot_ne (Or.inr (hw _ (List.mem_of_getElem? (i := 86) rfl))) (Or.inl (hw _ (List.mem_of_getElem? (i := 84) rfl))) (by decide) (t := (.object "com/example/changeset/changeset/check/State")) (t' := .int) (by decide) (by decide)))) (E_a0.wr W2) (Or.inr ⟨(hw _ (List.mem_of_getElem? (i := 86) rfl)), rfl, hnm⟩) (hw _ (List.mem_of_getElem? (i := 77) rfl)) (ty := (.object "com/example/changeset/changeset/check/State")) (by decide) rfl rfl (g := (mkF m 11 #[.val (.ref a0), .val .null] [.null, (.ref a0)])) rfl rfl (hb hby d9_11)
  have Fw3 := (F_u_state.other W2 (Or.inr (slot_ne (Or.inr (hw _ (List.mem_of_getElem? (i := 86) rfl))) (Or.inl (hw _ (List.mem_of_getElem? (i := 84) rfl))) (by decide) (t := (.object "com/example/changeset/changeset/check/State")) (t' := .int) (by decide) (by decide)))).same W3
  have N3 := Fr.snoc X3 N2 g_a0
  have Kp3 : Keep h0 h3 [a0] := Kp2.wr W3 (Or.inl (List.mem_of_getElem? (i := 0) rfl))
  refine .pre (fun _ kq => st3 _ kq) ?_
  show OwnEnds p e below _ (T3.setTop (mkF m 14 #[.val (.ref a0), .val .null] []))
  exact own_endV X3 hx hlk Bd.returns (hb hby d9_14) (by decide) (by decide) ⟨rfl, N3, (by rw [e3]; exact Kp3), (by rw [e3]; exact ((E_a0.wr W2).wr W3)), (by rw [e3]; exact (Fw2.other W3 (Or.inr (slot_ne (Or.inl (hw _ (List.mem_of_getElem? (i := 84) rfl))) (Or.inr (hw _ (List.mem_of_getElem? (i := 86) rfl))) (by decide) (t := .int) (t' := (.object "com/example/changeset/changeset/check/State")) (by decide) (by decide))))), (by rw [e3]; exact Fw3)⟩
theorem d11_0 : decode prog_19_method_3_code 0 = .ok (.aload_n 0, 1) := by decide +kernel
theorem d11_1 : decode prog_19_method_3_code 1 = .ok (.getfield 7, 3) := by decide +kernel
theorem d11_4 : decode prog_19_method_3_code 4 = .ok (.ireturn, 1) := by decide +kernel
theorem ef_11 (m : MethodId) (a0 : Addr) : entryFrame m #[(.ref a0)] 1 = mkF m 0 #[.val (.ref a0)] [] := by first | (simp [entryFrame, mkF, argsToLocals, Value.category]; done) | rfl
def Q11 (Z : State) (a0 : Addr) (w0 : Int32) (h0 : Heap) (n0 : Nat) (v : Option Value) (h : Heap) (L : List Loc) : Prop := v = some (.int w0) ∧ Fr n0 L ∧ h = h0
set_option maxRecDepth 65536 in
set_option maxHeartbeats 40000000 in
theorem rm11 (l : Launch) (Z : State) (aZ : Array Value) (hw : ∀ d ∈ tables_1, d.before aZ Z = true) (ws : List Jvm.Cond) (a0 : Addr) (w0 : Int32) (h0 : Heap) (n0 : Nat) (Z0 : n0 ≤ h0.size) (F0 : Fld Z h0 a0 "com/example/changeset/changeset/check/FoundState" "number" "I" (.int w0)) :
    MetFree l (⟨"com/example/changeset/changeset/check/FoundState", "number", "()I"⟩ : MethodName) (head1 (Jvm.Cond.code (⟨"com/example/changeset/changeset/check/FoundState", "number", "()I"⟩ : MethodName) prog_19_method_3_code 1 (some .int) :: ws) ({ frames := 0, cells := 0, slots := 0, locals := 0 } : Room)) (fun a U => a = #[(.ref a0)] ∧ Z.Warmed39 U.vm ∧ U.heap = h0) (fun _ _ _ _ _ => True) (fun _ U o U' => ∃ v L, o = .returned v ∧ Q11 Z a0 w0 h0 n0 v U'.heap L ∧ FrameEnd U o U' L 0 0) := by
  refine MetFree.of_bodySF (plainFor_of_name pn_7) hisR ?_
  intro p e s m args below meth c s₁ Bd hml0 hP hK
  obtain ⟨rfl, hZ, hh⟩ := hP
  have hx := Bd.exec
  have hby := Bd.bytes
  have hml : c.maxLocals = 1 := hml0
  have hown : s.vm.findClass "com/example/changeset/changeset/check/FoundState" = some m.cls := findClass_of_methodNamed Bd.named
  have hnm := (name_of_methodNamed Bd.named Bd.method).1
  have hlk := BodyLoose.notSynchronized Bd
  have X0 : Stand p l e ({ frames := 0, cells := 0, slots := 0, locals := 0 } : Room) s m #[(.ref a0)] below meth c s₁ [] 0 0 := Stand.of_body Bd
  have e0 : s₁.heap = h0 := by rw [← hh, Bd.state]; rfl
  have N0 := Fr.nil n0
  have hk0 : 0 ≤ 0 := Nat.zero_le _
  have hn0 : 0 ≤ 0 := Nat.zero_le _
  show OwnEnds p e below (OwnQ s (Q11 Z a0 w0 h0 n0) 0 0) (s₁.setTop (entryFrame m #[(.ref a0)] 1))
  refine .pre (fun t k => castTop (ef_11 m a0) k) ?_
  show OwnEnds p e below _ (s₁.setTop (mkF m 0 #[.val (.ref a0)] []))
  refine .pre (fun _ kq => XS.aloadN X0.here hx rfl (hb hby d11_0) rfl rfl kq) ?_
  show OwnEnds p e below _ (s₁.setTop (mkF m 1 #[.val (.ref a0)] [(.ref a0)]))
  obtain ⟨T1, X1, e1, st1⟩ := getF X0 hx hZ hown (host := "") (Or.inl (hw _ (List.mem_of_getElem? (i := 83) rfl))) Via.refl e0 F0 (g := (mkF m 1 #[.val (.ref a0)] [(.ref a0)])) rfl rfl (hb hby d11_1)
  refine .pre (fun _ kq => st1 _ kq) ?_
  show OwnEnds p e below _ (T1.setTop (mkF m 4 #[.val (.ref a0)] [(.int w0)]))
  exact own_endI X1 hx hlk Bd.returns (hb hby d11_4) (by decide) (by decide) ⟨rfl, N0, e1⟩
theorem d13_0 : decode prog_19_method_2_code 0 = .ok (.aload_n 0, 1) := by decide +kernel
theorem d13_1 : decode prog_19_method_2_code 1 = .ok (.getfield 13, 3) := by decide +kernel
theorem d13_4 : decode prog_19_method_2_code 4 = .ok (.areturn, 1) := by decide +kernel
theorem ef_13 (m : MethodId) (a0 : Addr) : entryFrame m #[(.ref a0)] 1 = mkF m 0 #[.val (.ref a0)] [] := by first | (simp [entryFrame, mkF, argsToLocals, Value.category]; done) | rfl
def Q13 (Z : State) (a0 : Addr) (h0 : Heap) (n0 : Nat) (v : Option Value) (h : Heap) (L : List Loc) : Prop := v = some .null ∧ Fr n0 L ∧ h = h0
set_option maxRecDepth 65536 in
set_option maxHeartbeats 40000000 in
theorem rm13 (l : Launch) (Z : State) (aZ : Array Value) (hw : ∀ d ∈ tables_1, d.before aZ Z = true) (ws : List Jvm.Cond) (a0 : Addr) (h0 : Heap) (n0 : Nat) (Z0 : n0 ≤ h0.size) (F0 : Fld Z h0 a0 "com/example/changeset/changeset/check/FoundState" "state" "Lcom/example/changeset/changeset/check/State;" .null) :
    MetFree l (⟨"com/example/changeset/changeset/check/FoundState", "state", "()Lcom/example/changeset/changeset/check/State;"⟩ : MethodName) (head1 (Jvm.Cond.code (⟨"com/example/changeset/changeset/check/FoundState", "state", "()Lcom/example/changeset/changeset/check/State;"⟩ : MethodName) prog_19_method_2_code 1 (some (.object "com/example/changeset/changeset/check/State")) :: ws) ({ frames := 0, cells := 0, slots := 0, locals := 0 } : Room)) (fun a U => a = #[(.ref a0)] ∧ Z.Warmed39 U.vm ∧ U.heap = h0) (fun _ _ _ _ _ => True) (fun _ U o U' => ∃ v L, o = .returned v ∧ Q13 Z a0 h0 n0 v U'.heap L ∧ FrameEnd U o U' L 0 0) := by
  refine MetFree.of_bodySF (plainFor_of_name pn_7) hisR ?_
  intro p e s m args below meth c s₁ Bd hml0 hP hK
  obtain ⟨rfl, hZ, hh⟩ := hP
  have hx := Bd.exec
  have hby := Bd.bytes
  have hml : c.maxLocals = 1 := hml0
  have hown : s.vm.findClass "com/example/changeset/changeset/check/FoundState" = some m.cls := findClass_of_methodNamed Bd.named
  have hnm := (name_of_methodNamed Bd.named Bd.method).1
  have hlk := BodyLoose.notSynchronized Bd
  have X0 : Stand p l e ({ frames := 0, cells := 0, slots := 0, locals := 0 } : Room) s m #[(.ref a0)] below meth c s₁ [] 0 0 := Stand.of_body Bd
  have e0 : s₁.heap = h0 := by rw [← hh, Bd.state]; rfl
  have N0 := Fr.nil n0
  have hk0 : 0 ≤ 0 := Nat.zero_le _
  have hn0 : 0 ≤ 0 := Nat.zero_le _
  show OwnEnds p e below (OwnQ s (Q13 Z a0 h0 n0) 0 0) (s₁.setTop (entryFrame m #[(.ref a0)] 1))
  refine .pre (fun t k => castTop (ef_13 m a0) k) ?_
  show OwnEnds p e below _ (s₁.setTop (mkF m 0 #[.val (.ref a0)] []))
  refine .pre (fun _ kq => XS.aloadN X0.here hx rfl (hb hby d13_0) rfl rfl kq) ?_
  show OwnEnds p e below _ (s₁.setTop (mkF m 1 #[.val (.ref a0)] [(.ref a0)]))
  obtain ⟨T1, X1, e1, st1⟩ := getF X0 hx hZ hown (host := "") (Or.inl (hw _ (List.mem_of_getElem? (i := 85) rfl))) Via.refl e0 F0 (g := (mkF m 1 #[.val (.ref a0)] [(.ref a0)])) rfl rfl (hb hby d13_1)
  refine .pre (fun _ kq => st1 _ kq) ?_
  show OwnEnds p e below _ (T1.setTop (mkF m 4 #[.val (.ref a0)] [.null]))
  exact own_endR X1 hx hlk Bd.returns rfl rfl (hb hby d13_4) (by decide) (by decide) ⟨rfl, N0, e1⟩
theorem d19_0 : decode prog_19_method_4_code 0 = .ok (.aload_n 0, 1) := by decide +kernel
theorem d19_1 : decode prog_19_method_4_code 1 = .ok (.iload_n 1, 1) := by decide +kernel
theorem d19_2 : decode prog_19_method_4_code 2 = .ok (.putfield 7, 3) := by decide +kernel
theorem d19_5 : decode prog_19_method_4_code 5 = .ok (.return_, 1) := by decide +kernel
theorem ef_19 (m : MethodId) (a0 : Addr) (p1 : Int32) : entryFrame m #[(.ref a0), (.int p1)] 2 = mkF m 0 #[.val (.ref a0), .val (.int p1)] [] := by first | (simp [entryFrame, mkF, argsToLocals, Value.category]; done) | rfl
def Q19 (Z : State) (a0 : Addr) (p1 : Int32) (u_number : Value) (u_state : Value) (h0 : Heap) (n0 : Nat) (v : Option Value) (h : Heap) (L : List Loc) : Prop := v = none ∧ Fr n0 L ∧ Keep h0 h [a0] ∧ Exa Z h a0 "com/example/changeset/changeset/check/FoundState" ∧ Fld Z h a0 "com/example/changeset/changeset/check/FoundState" "number" "I" (.int p1) ∧ Fld Z h a0 "com/example/changeset/changeset/check/FoundState" "state" "Lcom/example/changeset/changeset/check/State;" u_state
set_option maxRecDepth 65536 in
set_option maxHeartbeats 40000000 in
theorem rm19 (l : Launch) (Z : State) (aZ : Array Value) (hw : ∀ d ∈ tables_1, d.before aZ Z = true) (ws : List Jvm.Cond) (a0 : Addr) (p1 : Int32) (u_number : Value) (u_state : Value) (h0 : Heap) (n0 : Nat) (Z0 : n0 ≤ h0.size) (g_a0 : n0 ≤ a0) (E_a0 : Exa Z h0 a0 "com/example/changeset/changeset/check/FoundState") (F_u_number : Fld Z h0 a0 "com/example/changeset/changeset/check/FoundState" "number" "I" u_number) (F_u_state : Fld Z h0 a0 "com/example/changeset/changeset/check/FoundState" "state" "Lcom/example/changeset/changeset/check/State;" u_state) :
    MetFree l (⟨"com/example/changeset/changeset/check/FoundState", "number", "(I)V"⟩ : MethodName) (head1 (Jvm.Cond.code (⟨"com/example/changeset/changeset/check/FoundState", "number", "(I)V"⟩ : MethodName) prog_19_method_4_code 2 none :: ws) ({ frames := 0, cells := 0, slots := 0, locals := 0 } : Room)) (fun a U => a = #[(.ref a0), (.int p1)] ∧ Z.Warmed39 U.vm ∧ U.heap = h0) (fun _ _ _ _ _ => True) (fun _ U o U' => ∃ v L, o = .returned v ∧ Q19 Z a0 p1 u_number u_state h0 n0 v U'.heap L ∧ FrameEnd U o U' L 0 0) := by
  refine MetFree.of_bodySF (plainFor_of_name pn_7) hisR ?_
  intro p e s m args below meth c s₁ Bd hml0 hP hK
  obtain ⟨rfl, hZ, hh⟩ := hP
  have hx := Bd.exec
  have hby := Bd.bytes
  have hml : c.maxLocals = 2 := hml0
  have hown : s.vm.findClass "com/example/changeset/changeset/check/FoundState" = some m.cls := findClass_of_methodNamed Bd.named
  have hnm := (name_of_methodNamed Bd.named Bd.method).1
  have hlk := BodyLoose.notSynchronized Bd
  have X0 : Stand p l e ({ frames := 0, cells := 0, slots := 0, locals := 0 } : Room) s m #[(.ref a0), (.int p1)] below meth c s₁ [] 0 0 := Stand.of_body Bd
  have e0 : s₁.heap = h0 := by rw [← hh, Bd.state]; rfl
  have N0 := Fr.nil n0
  have hk0 : 0 ≤ 0 := Nat.zero_le _
  have hn0 : 0 ≤ 0 := Nat.zero_le _
  show OwnEnds p e below (OwnQ s (Q19 Z a0 p1 u_number u_state h0 n0) 0 0) (s₁.setTop (entryFrame m #[(.ref a0), (.int p1)] 2))
  refine .pre (fun t k => castTop (ef_19 m a0 p1) k) ?_
  show OwnEnds p e below _ (s₁.setTop (mkF m 0 #[.val (.ref a0), .val (.int p1)] []))
  refine .pre (fun _ kq => XS.aloadN X0.here hx rfl (hb hby d19_0) rfl rfl kq) ?_
  show OwnEnds p e below _ (s₁.setTop (mkF m 1 #[.val (.ref a0), .val (.int p1)] [(.ref a0)]))
  refine .pre (fun _ kq => XS.iloadN X0.here hx rfl (hb hby d19_1) rfl kq) ?_
  show OwnEnds p e below _ (s₁.setTop (mkF m 2 #[.val (.ref a0), .val (.int p1)] [(.int p1), (.ref a0)]))
  obtain ⟨T1, h1, X1, e1, W1, st1⟩ := putF X0 hx hZ hown (host := "") (Or.inl (hw _ (List.mem_of_getElem? (i := 83) rfl))) Via.refl e0 F_u_number E_a0 (Or.inl (hw _ (List.mem_of_getElem? (i := 84) rfl))) (hw _ (List.mem_of_getElem? (i := 77) rfl)) (ty := .int) (by decide) rfl rfl (g := (mkF m 2 #[.val (.ref a0), .val (.int p1)] [(.int p1), (.ref a0)])) rfl rfl (hb hby d19_2)
  have Fw1 := F_u_number.same W1
  have N1 := Fr.snoc X1 N0 g_a0
  have Kp1 : Keep h0 h1 [a0] := (Keep.refl h0 [a0]).wr W1 (Or.inl (List.mem_of_getElem? (i := 0) rfl))
  refine .pre (fun _ kq => st1 _ kq) ?_
  show OwnEnds p e below _ (T1.setTop (mkF m 5 #[.val (.ref a0), .val (.int p1)] []))
  exact own_endV X1 hx hlk Bd.returns (hb hby d19_5) (by decide) (by decide) ⟨rfl, N1, (by rw [e1]; exact Kp1), (by rw [e1]; exact (E_a0.wr W1)), (by rw [e1]; exact Fw1), (by rw [e1]; exact (F_u_state.other W1 (Or.inr (slot_ne (Or.inr (hw _ (List.mem_of_getElem? (i := 86) rfl))) (Or.inl (hw _ (List.mem_of_getElem? (i := 84) rfl))) (by decide) (t := (.object "com/example/changeset/changeset/check/State")) (t' := .int) (by decide) (by decide)))))⟩
theorem d12_0 : decode jdk_38_method_8_code 0 = .ok (.aload_n 0, 1) := by decide +kernel
theorem d12_1 : decode jdk_38_method_8_code 1 = .ok (.getfield 48, 3) := by decide +kernel
theorem d12_4 : decode jdk_38_method_8_code 4 = .ok (.ireturn, 1) := by decide +kernel
theorem ef_12 (m : MethodId) (a0 : Addr) : entryFrame m #[(.ref a0)] 1 = mkF m 0 #[.val (.ref a0)] [] := by first | (simp [entryFrame, mkF, argsToLocals, Value.category]; done) | rfl
def Q12 (Z : State) (a0 : Addr) (w0 : Int32) (h0 : Heap) (n0 : Nat) (v : Option Value) (h : Heap) (L : List Loc) : Prop := v = some (.int w0) ∧ Fr n0 L ∧ h = h0
set_option maxRecDepth 65536 in
set_option maxHeartbeats 40000000 in
theorem rm12 (l : Launch) (Z : State) (aZ : Array Value) (hw : ∀ d ∈ tables_1, d.before aZ Z = true) (ws : List Jvm.Cond) (a0 : Addr) (w0 : Int32) (h0 : Heap) (n0 : Nat) (Z0 : n0 ≤ h0.size) (F0 : Fld Z h0 a0 "java/util/ArrayList" "size" "I" (.int w0)) :
    MetFree l (⟨"java/util/ArrayList", "size", "()I"⟩ : MethodName) (head1 (Jvm.Cond.code (⟨"java/util/ArrayList", "size", "()I"⟩ : MethodName) jdk_38_method_8_code 1 (some .int) :: ws) ({ frames := 0, cells := 0, slots := 0, locals := 0 } : Room)) (fun a U => a = #[(.ref a0)] ∧ Z.Warmed39 U.vm ∧ U.heap = h0) (fun _ _ _ _ _ => True) (fun _ U o U' => ∃ v L, o = .returned v ∧ Q12 Z a0 w0 h0 n0 v U'.heap L ∧ FrameEnd U o U' L 0 0) := by
  refine MetFree.of_bodySF (plainFor_of_name pn_3) hisR ?_
  intro p e s m args below meth c s₁ Bd hml0 hP hK
  obtain ⟨rfl, hZ, hh⟩ := hP
  have hx := Bd.exec
  have hby := Bd.bytes
  have hml : c.maxLocals = 1 := hml0
  have hown : s.vm.findClass "java/util/ArrayList" = some m.cls := findClass_of_methodNamed Bd.named
  have hnm := (name_of_methodNamed Bd.named Bd.method).1
  have hlk := BodyLoose.notSynchronized Bd
  have X0 : Stand p l e ({ frames := 0, cells := 0, slots := 0, locals := 0 } : Room) s m #[(.ref a0)] below meth c s₁ [] 0 0 := Stand.of_body Bd
  have e0 : s₁.heap = h0 := by rw [← hh, Bd.state]; rfl
  have N0 := Fr.nil n0
  have hk0 : 0 ≤ 0 := Nat.zero_le _
  have hn0 : 0 ≤ 0 := Nat.zero_le _
  show OwnEnds p e below (OwnQ s (Q12 Z a0 w0 h0 n0) 0 0) (s₁.setTop (entryFrame m #[(.ref a0)] 1))
  refine .pre (fun t k => castTop (ef_12 m a0) k) ?_
  show OwnEnds p e below _ (s₁.setTop (mkF m 0 #[.val (.ref a0)] []))
  refine .pre (fun _ kq => XS.aloadN X0.here hx rfl (hb hby d12_0) rfl rfl kq) ?_
  show OwnEnds p e below _ (s₁.setTop (mkF m 1 #[.val (.ref a0)] [(.ref a0)]))
  obtain ⟨T1, X1, e1, st1⟩ := getF X0 hx hZ hown (host := "") (Or.inl (hw _ (List.mem_of_getElem? (i := 107) rfl))) Via.refl e0 F0 (g := (mkF m 1 #[.val (.ref a0)] [(.ref a0)])) rfl rfl (hb hby d12_1)
  refine .pre (fun _ kq => st1 _ kq) ?_
  show OwnEnds p e below _ (T1.setTop (mkF m 4 #[.val (.ref a0)] [(.int w0)]))
  exact own_endI X1 hx hlk Bd.returns (hb hby d12_4) (by decide) (by decide) ⟨rfl, N0, e1⟩
theorem d17_0 : decode jdk_38_method_6_code 0 = .ok (.aload_n 0, 1) := by decide +kernel
theorem d17_1 : decode jdk_38_method_6_code 1 = .ok (.getfield 9, 3) := by decide +kernel
theorem d17_4 : decode jdk_38_method_6_code 4 = .ok (.arraylength, 1) := by decide +kernel
theorem d17_5 : decode jdk_38_method_6_code 5 = .ok (.istore_n 2, 1) := by decide +kernel
theorem d17_6 : decode jdk_38_method_6_code 6 = .ok (.iload_n 2, 1) := by decide +kernel
theorem d17_7 : decode jdk_38_method_6_code 7 = .ok (.ifCond .gt 13, 3) := by decide +kernel
theorem d17_10 : decode jdk_38_method_6_code 10 = .ok (.aload_n 0, 1) := by decide +kernel
theorem d17_11 : decode jdk_38_method_6_code 11 = .ok (.getfield 9, 3) := by decide +kernel
theorem d17_14 : decode jdk_38_method_6_code 14 = .ok (.getstatic 39, 3) := by decide +kernel
theorem d17_17 : decode jdk_38_method_6_code 17 = .ok (.if_acmp .eq 28, 3) := by decide +kernel
theorem d17_20 : decode jdk_38_method_6_code 20 = .ok (.iload_n 2, 1) := by decide +kernel
theorem d17_21 : decode jdk_38_method_6_code 21 = .ok (.iload_n 1, 1) := by decide +kernel
theorem d17_22 : decode jdk_38_method_6_code 22 = .ok (.iload_n 2, 1) := by decide +kernel
theorem d17_23 : decode jdk_38_method_6_code 23 = .ok (.isub, 1) := by decide +kernel
theorem d17_24 : decode jdk_38_method_6_code 24 = .ok (.iload_n 2, 1) := by decide +kernel
theorem d17_25 : decode jdk_38_method_6_code 25 = .ok (.iconst 1, 1) := by decide +kernel
theorem d17_26 : decode jdk_38_method_6_code 26 = .ok (.ishr, 1) := by decide +kernel
theorem d17_27 : decode jdk_38_method_6_code 27 = .ok (.invokestatic 73, 3) := by decide +kernel
theorem d17_30 : decode jdk_38_method_6_code 30 = .ok (.istore_n 3, 1) := by decide +kernel
theorem d17_31 : decode jdk_38_method_6_code 31 = .ok (.aload_n 0, 1) := by decide +kernel
theorem d17_32 : decode jdk_38_method_6_code 32 = .ok (.aload_n 0, 1) := by decide +kernel
theorem d17_33 : decode jdk_38_method_6_code 33 = .ok (.getfield 9, 3) := by decide +kernel
theorem d17_36 : decode jdk_38_method_6_code 36 = .ok (.iload_n 3, 1) := by decide +kernel
theorem d17_37 : decode jdk_38_method_6_code 37 = .ok (.invokestatic 66, 3) := by decide +kernel
theorem d17_40 : decode jdk_38_method_6_code 40 = .ok (.dup_x1, 1) := by decide +kernel
theorem d17_41 : decode jdk_38_method_6_code 41 = .ok (.putfield 9, 3) := by decide +kernel
theorem d17_44 : decode jdk_38_method_6_code 44 = .ok (.areturn, 1) := by decide +kernel
theorem d17_45 : decode jdk_38_method_6_code 45 = .ok (.aload_n 0, 1) := by decide +kernel
theorem d17_46 : decode jdk_38_method_6_code 46 = .ok (.bipush 10, 2) := by decide +kernel
theorem d17_48 : decode jdk_38_method_6_code 48 = .ok (.iload_n 1, 1) := by decide +kernel
theorem d17_49 : decode jdk_38_method_6_code 49 = .ok (.invokestatic 79, 3) := by decide +kernel
theorem d17_52 : decode jdk_38_method_6_code 52 = .ok (.anewarray 7, 3) := by decide +kernel
theorem d17_55 : decode jdk_38_method_6_code 55 = .ok (.dup_x1, 1) := by decide +kernel
theorem d17_56 : decode jdk_38_method_6_code 56 = .ok (.putfield 9, 3) := by decide +kernel
theorem d17_59 : decode jdk_38_method_6_code 59 = .ok (.areturn, 1) := by decide +kernel
theorem ef_17 (m : MethodId) (a0 : Addr) : entryFrame m #[(.ref a0), (.int (1 : Int32))] 4 = mkF m 0 #[.val (.ref a0), .val (.int (1 : Int32)), .unset, .unset] [] := by first | (simp [entryFrame, mkF, argsToLocals, Value.category]; done) | rfl
theorem pd_8 : parseMethodDescriptor "(II)I" = some ⟨[.int, .int], some .int⟩ := by decide +kernel
def Q17 (Z : State) (a0 : Addr) (xD : Addr) (mc : Int32) (h0 : Heap) (n0 : Nat) (v : Option Value) (h : Heap) (L : List Loc) : Prop := ∃ r : Addr, v = some (.ref r) ∧ Fr n0 L ∧ Keep h0 h [a0] ∧ h0.size ≤ r ∧ Exa Z h a0 "java/util/ArrayList" ∧ (∃ mc : Int32, Fld Z h a0 "java/util/AbstractList" "modCount" "I" (.int mc)) ∧ Fld Z h a0 "java/util/ArrayList" "elementData" "[Ljava/lang/Object;" (.ref r) ∧ Fld Z h a0 "java/util/ArrayList" "size" "I" (.int (0 : Int32)) ∧ OwnR Z h r "java/lang/Object" (10 : Int32)
set_option maxRecDepth 65536 in
set_option maxHeartbeats 40000000 in
theorem rm17 (l : Launch) (Z : State) (aZ : Array Value) (hw : ∀ d ∈ tables_1, d.before aZ Z = true) (ws : List Jvm.Cond) (a0 : Addr) (xD : Addr) (mc : Int32) (h0 : Heap) (n0 : Nat) (Z0 : n0 ≤ h0.size) (SD : Sta Z h0 "java/util/ArrayList" "DEFAULTCAPACITY_EMPTY_ELEMENTDATA" "[Ljava/lang/Object;" (.ref xD)) (ELx : Exa Z h0 a0 "java/util/ArrayList") (Lx1 : Fld Z h0 a0 "java/util/AbstractList" "modCount" "I" (.int mc)) (Lx2 : Fld Z h0 a0 "java/util/ArrayList" "elementData" "[Ljava/lang/Object;" (.ref xD)) (Lx3 : Fld Z h0 a0 "java/util/ArrayList" "size" "I" (.int (0 : Int32))) (RDx : OwnR Z h0 xD "java/lang/Object" (0 : Int32)) (x0 : a0 ≠ xD) (g_a0 : n0 ≤ a0) :
    MetFree l (⟨"java/util/ArrayList", "grow", "(I)[Ljava/lang/Object;"⟩ : MethodName) (head1 (Jvm.Cond.code (⟨"java/util/ArrayList", "grow", "(I)[Ljava/lang/Object;"⟩ : MethodName) jdk_38_method_6_code 4 (some (.array (.object "java/lang/Object"))) :: ws) ({ frames := 1, cells := 1, slots := 10, locals := 16 } : Room)) (fun a U => a = #[(.ref a0), (.int (1 : Int32))] ∧ Z.Warmed39 U.vm ∧ U.heap = h0) (fun _ _ _ _ _ => True) (fun _ U o U' => ∃ v L, o = .returned v ∧ Q17 Z a0 xD mc h0 n0 v U'.heap L ∧ FrameEnd U o U' L 1 10) := by
  refine MetFree.of_bodySF (plainFor_of_name pn_3) hisR ?_
  intro p e s m args below meth c s₁ Bd hml0 hP hK
  obtain ⟨rfl, hZ, hh⟩ := hP
  have hx := Bd.exec
  have hby := Bd.bytes
  have hml : c.maxLocals = 4 := hml0
  have hown : s.vm.findClass "java/util/ArrayList" = some m.cls := findClass_of_methodNamed Bd.named
  have hnm := (name_of_methodNamed Bd.named Bd.method).1
  have hlk := BodyLoose.notSynchronized Bd
  have X0 : Stand p l e ({ frames := 1, cells := 1, slots := 10, locals := 16 } : Room) s m #[(.ref a0), (.int (1 : Int32))] below meth c s₁ [] 0 0 := Stand.of_body Bd
  have e0 : s₁.heap = h0 := by rw [← hh, Bd.state]; rfl
  have N0 := Fr.nil n0
  have hk0 : 0 ≤ 1 := Nat.zero_le _
  have hn0 : 0 ≤ 10 := Nat.zero_le _
  show OwnEnds p e below (OwnQ s (Q17 Z a0 xD mc h0 n0) 1 10) (s₁.setTop (entryFrame m #[(.ref a0), (.int (1 : Int32))] 4))
  refine .pre (fun t k => castTop (ef_17 m a0) k) ?_
  show OwnEnds p e below _ (s₁.setTop (mkF m 0 #[.val (.ref a0), .val (.int (1 : Int32)), .unset, .unset] []))
  refine .pre (fun _ kq => XS.aloadN X0.here hx rfl (hb hby d17_0) rfl rfl kq) ?_
  show OwnEnds p e below _ (s₁.setTop (mkF m 1 #[.val (.ref a0), .val (.int (1 : Int32)), .unset, .unset] [(.ref a0)]))
  obtain ⟨T1, X1, e1, st1⟩ := getF X0 hx hZ hown (host := "") (Or.inl (hw _ (List.mem_of_getElem? (i := 31) rfl))) Via.refl e0 Lx2 (g := (mkF m 1 #[.val (.ref a0), .val (.int (1 : Int32)), .unset, .unset] [(.ref a0)])) rfl rfl (hb hby d17_1)
  refine .pre (fun _ kq => st1 _ kq) ?_
  show OwnEnds p e below _ (T1.setTop (mkF m 4 #[.val (.ref a0), .val (.int (1 : Int32)), .unset, .unset] [(.ref xD)]))
  obtain ⟨cl2, Ar2, Ov2, qs2, qn2⟩ := id RDx
  refine .pre (fun _ kq => X1.arraylength hx (by rw [e1]; exact Ar2.1) (State.isArrayOf_alike hZ.alike Ar2.2.1) (g := (mkF m 4 #[.val (.ref a0), .val (.int (1 : Int32)), .unset, .unset] [(.ref xD)])) rfl rfl (hb hby d17_4) _ kq) ?_
  rw [len_of qs2 qn2]
  show OwnEnds p e below _ (T1.setTop (mkF m 5 #[.val (.ref a0), .val (.int (1 : Int32)), .unset, .unset] [(.int (0 : Int32))]))
  refine .pre (fun _ kq => XS.istoreN X1.here hx rfl (hb hby d17_5) rfl (l' := #[.val (.ref a0), .val (.int (1 : Int32)), .val (.int (0 : Int32)), .unset]) rfl kq) ?_
  show OwnEnds p e below _ (T1.setTop (mkF m 6 #[.val (.ref a0), .val (.int (1 : Int32)), .val (.int (0 : Int32)), .unset] []))
  refine .pre (fun _ kq => XS.iloadN X1.here hx rfl (hb hby d17_6) rfl kq) ?_
  show OwnEnds p e below _ (T1.setTop (mkF m 7 #[.val (.ref a0), .val (.int (1 : Int32)), .val (.int (0 : Int32)), .unset] [(.int (0 : Int32))]))
  have hc7 : ¬ ((0 : Int32) < (0 : Int32)) := by decide
  refine .pre (fun _ kq => XS.ifNo X1.here hx rfl (hb hby d17_7) rfl ((if0 _ _).trans (flt hc7).2.2.1) kq) ?_
  show OwnEnds p e below _ (T1.setTop (mkF m 10 #[.val (.ref a0), .val (.int (1 : Int32)), .val (.int (0 : Int32)), .unset] []))
  refine .pre (fun _ kq => XS.aloadN X1.here hx rfl (hb hby d17_10) rfl rfl kq) ?_
  show OwnEnds p e below _ (T1.setTop (mkF m 11 #[.val (.ref a0), .val (.int (1 : Int32)), .val (.int (0 : Int32)), .unset] [(.ref a0)]))
  obtain ⟨T3, X3, e3, st3⟩ := getF X1 hx hZ hown (host := "") (Or.inl (hw _ (List.mem_of_getElem? (i := 31) rfl))) Via.refl e1 Lx2 (g := (mkF m 11 #[.val (.ref a0), .val (.int (1 : Int32)), .val (.int (0 : Int32)), .unset] [(.ref a0)])) rfl rfl (hb hby d17_11)
  refine .pre (fun _ kq => st3 _ kq) ?_
  show OwnEnds p e below _ (T3.setTop (mkF m 14 #[.val (.ref a0), .val (.int (1 : Int32)), .val (.int (0 : Int32)), .unset] [(.ref xD)]))
  obtain ⟨T4, X4, e4, st4⟩ := getS2 X3 hx hZ hown (host := "") (Or.inl (hw _ (List.mem_of_getElem? (i := 30) rfl))) Via.refl e3 SD (g := (mkF m 14 #[.val (.ref a0), .val (.int (1 : Int32)), .val (.int (0 : Int32)), .unset] [(.ref xD)])) rfl (hb hby d17_14)
  refine .pre (fun _ kq => st4 _ kq) ?_
  show OwnEnds p e below _ (T4.setTop (mkF m 17 #[.val (.ref a0), .val (.int (1 : Int32)), .val (.int (0 : Int32)), .unset] [(.ref xD), (.ref xD)]))
  refine .pre (fun _ kq => Jvm.RoadKit.acmp (g := (mkF m 17 #[.val (.ref a0), .val (.int (1 : Int32)), .val (.int (0 : Int32)), .unset] [(.ref xD), (.ref xD)])) X4 hx rfl rfl rfl (pc0 := 17) (pc' := 45) (same := true) rfl (hb hby d17_17) rfl (decide_eq_true rfl) (by decide) (by decide) kq) ?_
  show OwnEnds p e below _ (T4.setTop (mkF m 45 #[.val (.ref a0), .val (.int (1 : Int32)), .val (.int (0 : Int32)), .unset] []))
  refine .pre (fun _ kq => XS.aloadN X4.here hx rfl (hb hby d17_45) rfl rfl kq) ?_
  show OwnEnds p e below _ (T4.setTop (mkF m 46 #[.val (.ref a0), .val (.int (1 : Int32)), .val (.int (0 : Int32)), .unset] [(.ref a0)]))
  refine .pre (fun _ kq => XS.bipush X4.here hx rfl (hb hby d17_46) kq) ?_
  show OwnEnds p e below _ (T4.setTop (mkF m 48 #[.val (.ref a0), .val (.int (1 : Int32)), .val (.int (0 : Int32)), .unset] [(.int (10 : Int32)), (.ref a0)]))
  refine .pre (fun _ kq => XS.iloadN X4.here hx rfl (hb hby d17_48) rfl kq) ?_
  show OwnEnds p e below _ (T4.setTop (mkF m 49 #[.val (.ref a0), .val (.int (1 : Int32)), .val (.int (0 : Int32)), .unset] [(.int (1 : Int32)), (.int (10 : Int32)), (.ref a0)]))
  obtain ⟨_, _, ⟨T5, L5, k5, n5⟩, -, X5, ⟨Lc5, hQ5, l5, y5, z5⟩, st5⟩ := Jvm.LawKit.callS X4 hx (y := (⟨"java/lang/Math", "max", "(II)I"⟩ : MethodName)) hown (mvT hZ (hw _ (List.mem_of_getElem? (i := 139) rfl))) (mvT hZ (hw _ (List.mem_of_getElem? (i := 140) rfl))) (mvT hZ (hw _ (List.mem_of_getElem? (i := 2) rfl))) (mvT hZ (hw _ (List.mem_of_getElem? (i := 141) rfl))) (by decide) (backOf (W := 1) (rm18 l Z aZ hw [] (10 : Int32) (1 : Int32) h0 n0 Z0) hZ (hw _ (List.mem_of_getElem? (i := 141) rfl)) (hw _ (List.mem_of_getElem? (i := 2) rfl)) (by decide) (by decide)) (g := (mkF m 49 #[.val (.ref a0), .val (.int (1 : Int32)), .val (.int (0 : Int32)), .unset] [(.int (1 : Int32)), (.int (10 : Int32)), (.ref a0)])) rfl (by rw [hml]; rfl) (argsL := [(.int (10 : Int32)), (.int (1 : Int32))]) (rest := [(.ref a0)]) (lenOf pd_8 rfl) rfl (by show 2 * 0 + _ ≤ _; exact Nat.le_of_eq rfl) (hb hby d17_49) (fun _ _ => ⟨rfl, e4, (by decide : 0 + 0 ≤ _), (by decide : 0 + 0 ≤ _)⟩)
  dsimp only [Pt.U, Pt.locs, Pt.cells, Pt.slots] at X5 l5 y5 z5 st5 hQ5
  try dsimp only [Nat.reduceAdd] at y5 z5
  subst y5 z5
  obtain ⟨rfl, N5q, e5⟩ := hQ5
  have N5 : Fr n0 L5 := by rw [l5]; exact Fr.app N0 N5q
  refine .pre (fun _ kq => st5 _ kq) ?_
  show OwnEnds p e below _ (T5.setTop (mkF m 52 #[.val (.ref a0), .val (.int (1 : Int32)), .val (.int (0 : Int32)), .unset] [(.int (10 : Int32)), (.ref a0)]))
  obtain ⟨T6, h6, kk6, X6, e6, E6, A6, O6, st6⟩ := newR X5 hx hZ hown (hw _ (List.mem_of_getElem? (i := 142) rfl)) (hw _ (List.mem_of_getElem? (i := 143) rfl)) e5 (g := (mkF m 52 #[.val (.ref a0), .val (.int (1 : Int32)), .val (.int (0 : Int32)), .unset] [(.int (10 : Int32)), (.ref a0)])) rfl (hb hby d17_52) rfl (by decide) (cap := 10) (by decide) (by decide) (by decide) (by decide)
  obtain ⟨b6, g6⟩ : ∃ z, z = h0.size := ⟨_, rfl⟩
  rw [← g6] at A6 st6
  have V_b6 : OwnR Z h6 b6 "java/lang/Object" (10 : Int32) := OwnR.new A6 O6 (by decide)
  have g_b6 : n0 ≤ b6 := Nat.le_trans Z0 (Nat.le_of_eq g6.symm)
  have sz_b6 : h0.size ≤ b6 := Nat.le_trans (Keep.refl h0 [a0]).1 (Nat.le_of_eq g6.symm)
  have Kp6 : Keep h0 h6 [a0] := (Keep.refl h0 [a0]).ext E6
  refine .pre (fun _ kq => st6 _ kq) ?_
  show OwnEnds p e below _ (T6.setTop (mkF m 55 #[.val (.ref a0), .val (.int (1 : Int32)), .val (.int (0 : Int32)), .unset] [(.ref b6), (.ref a0)]))
  refine .pre (fun _ kq => XS.dupX1 X6.here hx rfl (hb hby d17_55) rfl rfl rfl kq) ?_
  show OwnEnds p e below _ (T6.setTop (mkF m 56 #[.val (.ref a0), .val (.int (1 : Int32)), .val (.int (0 : Int32)), .unset] [(.ref b6), (.ref a0), (.ref b6)]))
  obtain ⟨T7, h7, X7, e7, W7, st7⟩ := putF X6 hx hZ hown (host := "") (Or.inl (hw _ (List.mem_of_getElem? (i := 31) rfl))) Via.refl e6 (Lx2.ext E6) (ELx.ext E6) (Or.inl (hw _ (List.mem_of_getElem? (i := 32) rfl))) (hw _ (List.mem_of_getElem? (i := 8) rfl)) (ty := (.array (.object "java/lang/Object"))) (by decide) rfl rfl (g := (mkF m 56 #[.val (.ref a0), .val (.int (1 : Int32)), .val (.int (0 : Int32)), .unset] [(.ref b6), (.ref a0), (.ref b6)])) rfl rfl (hb hby d17_56)
  have Fw7 := (Lx2.ext E6).same W7
  have N7 := Fr.snoc X7 N5 g_a0
  have Kp7 : Keep h0 h7 [a0] := Kp6.wr W7 (Or.inl (List.mem_of_getElem? (i := 0) rfl))
  refine .pre (fun _ kq => st7 _ kq) ?_
  show OwnEnds p e below _ (T7.setTop (mkF m 59 #[.val (.ref a0), .val (.int (1 : Int32)), .val (.int (0 : Int32)), .unset] [(.ref b6)]))
  exact own_endR X7 hx hlk Bd.returns rfl rfl (hb hby d17_59) (by decide) (by decide) ⟨_, rfl, N7, (by rw [e7]; exact Kp7), sz_b6, (by rw [e7]; exact ((ELx.ext E6).wr W7)), ⟨_, (by rw [e7]; exact ((Lx1.ext E6).other W7 (Or.inr (slot_ne (Or.inl (hw _ (List.mem_of_getElem? (i := 29) rfl))) (Or.inl (hw _ (List.mem_of_getElem? (i := 32) rfl))) (by decide) (t := .int) (t' := (.array (.object "java/lang/Object"))) (by decide) (by decide)))))⟩, (by rw [e7]; exact Fw7), (by rw [e7]; exact ((Lx3.ext E6).other W7 (Or.inr (slot_ne (Or.inl (hw _ (List.mem_of_getElem? (i := 108) rfl))) (Or.inl (hw _ (List.mem_of_getElem? (i := 32) rfl))) (by decide) (t := .int) (t' := (.array (.object "java/lang/Object"))) (by decide) (by decide))))), (by rw [e7]; exact (V_b6.other W7 (Ne.symm (Nat.ne_of_lt (Nat.lt_of_lt_of_le ELx.lt (Nat.le_of_eq g6.symm))))))⟩
theorem d16_0 : decode jdk_38_method_7_code 0 = .ok (.aload_n 0, 1) := by decide +kernel
theorem d16_1 : decode jdk_38_method_7_code 1 = .ok (.aload_n 0, 1) := by decide +kernel
theorem d16_2 : decode jdk_38_method_7_code 2 = .ok (.getfield 48, 3) := by decide +kernel
theorem d16_5 : decode jdk_38_method_7_code 5 = .ok (.iconst 1, 1) := by decide +kernel
theorem d16_6 : decode jdk_38_method_7_code 6 = .ok (.iadd, 1) := by decide +kernel
theorem d16_7 : decode jdk_38_method_7_code 7 = .ok (.invokevirtual 69, 3) := by decide +kernel
theorem d16_10 : decode jdk_38_method_7_code 10 = .ok (.areturn, 1) := by decide +kernel
theorem ef_16 (m : MethodId) (a0 : Addr) : entryFrame m #[(.ref a0)] 1 = mkF m 0 #[.val (.ref a0)] [] := by first | (simp [entryFrame, mkF, argsToLocals, Value.category]; done) | rfl
theorem pd_9 : parseMethodDescriptor "(I)[Ljava/lang/Object;" = some ⟨[.int], some (.array (.object "java/lang/Object"))⟩ := by decide +kernel
def Q16 (Z : State) (a0 : Addr) (xD : Addr) (mc : Int32) (h0 : Heap) (n0 : Nat) (v : Option Value) (h : Heap) (L : List Loc) : Prop := ∃ r : Addr, v = some (.ref r) ∧ Fr n0 L ∧ Keep h0 h [a0] ∧ h0.size ≤ r ∧ Exa Z h a0 "java/util/ArrayList" ∧ (∃ mc : Int32, Fld Z h a0 "java/util/AbstractList" "modCount" "I" (.int mc)) ∧ Fld Z h a0 "java/util/ArrayList" "elementData" "[Ljava/lang/Object;" (.ref r) ∧ Fld Z h a0 "java/util/ArrayList" "size" "I" (.int (0 : Int32)) ∧ OwnR Z h r "java/lang/Object" (10 : Int32)
set_option maxRecDepth 65536 in
set_option maxHeartbeats 40000000 in
theorem rm16 (l : Launch) (Z : State) (aZ : Array Value) (hw : ∀ d ∈ tables_1, d.before aZ Z = true) (ws : List Jvm.Cond) (a0 : Addr) (xD : Addr) (mc : Int32) (h0 : Heap) (n0 : Nat) (Z0 : n0 ≤ h0.size) (SD : Sta Z h0 "java/util/ArrayList" "DEFAULTCAPACITY_EMPTY_ELEMENTDATA" "[Ljava/lang/Object;" (.ref xD)) (ELx : Exa Z h0 a0 "java/util/ArrayList") (Lx1 : Fld Z h0 a0 "java/util/AbstractList" "modCount" "I" (.int mc)) (Lx2 : Fld Z h0 a0 "java/util/ArrayList" "elementData" "[Ljava/lang/Object;" (.ref xD)) (Lx3 : Fld Z h0 a0 "java/util/ArrayList" "size" "I" (.int (0 : Int32))) (RDx : OwnR Z h0 xD "java/lang/Object" (0 : Int32)) (x0 : a0 ≠ xD) (g_a0 : n0 ≤ a0) :
    MetFree l (⟨"java/util/ArrayList", "grow", "()[Ljava/lang/Object;"⟩ : MethodName) (head1 (Jvm.Cond.code (⟨"java/util/ArrayList", "grow", "()[Ljava/lang/Object;"⟩ : MethodName) jdk_38_method_7_code 1 (some (.array (.object "java/lang/Object"))) :: ws) ({ frames := 2, cells := 1, slots := 10, locals := 31 } : Room)) (fun a U => a = #[(.ref a0)] ∧ Z.Warmed39 U.vm ∧ U.heap = h0) (fun _ _ _ _ _ => True) (fun _ U o U' => ∃ v L, o = .returned v ∧ Q16 Z a0 xD mc h0 n0 v U'.heap L ∧ FrameEnd U o U' L 1 10) := by
  refine MetFree.of_bodySF (plainFor_of_name pn_3) hisR ?_
  intro p e s m args below meth c s₁ Bd hml0 hP hK
  obtain ⟨rfl, hZ, hh⟩ := hP
  have hx := Bd.exec
  have hby := Bd.bytes
  have hml : c.maxLocals = 1 := hml0
  have hown : s.vm.findClass "java/util/ArrayList" = some m.cls := findClass_of_methodNamed Bd.named
  have hnm := (name_of_methodNamed Bd.named Bd.method).1
  have hlk := BodyLoose.notSynchronized Bd
  have X0 : Stand p l e ({ frames := 2, cells := 1, slots := 10, locals := 31 } : Room) s m #[(.ref a0)] below meth c s₁ [] 0 0 := Stand.of_body Bd
  have e0 : s₁.heap = h0 := by rw [← hh, Bd.state]; rfl
  have N0 := Fr.nil n0
  have hk0 : 0 ≤ 1 := Nat.zero_le _
  have hn0 : 0 ≤ 10 := Nat.zero_le _
  show OwnEnds p e below (OwnQ s (Q16 Z a0 xD mc h0 n0) 1 10) (s₁.setTop (entryFrame m #[(.ref a0)] 1))
  refine .pre (fun t k => castTop (ef_16 m a0) k) ?_
  show OwnEnds p e below _ (s₁.setTop (mkF m 0 #[.val (.ref a0)] []))
  refine .pre (fun _ kq => XS.aloadN X0.here hx rfl (hb hby d16_0) rfl rfl kq) ?_
  show OwnEnds p e below _ (s₁.setTop (mkF m 1 #[.val (.ref a0)] [(.ref a0)]))
  refine .pre (fun _ kq => XS.aloadN X0.here hx rfl (hb hby d16_1) rfl rfl kq) ?_
  show OwnEnds p e below _ (s₁.setTop (mkF m 2 #[.val (.ref a0)] [(.ref a0), (.ref a0)]))
  obtain ⟨T1, X1, e1, st1⟩ := getF X0 hx hZ hown (host := "") (Or.inl (hw _ (List.mem_of_getElem? (i := 107) rfl))) Via.refl e0 Lx3 (g := (mkF m 2 #[.val (.ref a0)] [(.ref a0), (.ref a0)])) rfl rfl (hb hby d16_2)
  refine .pre (fun _ kq => st1 _ kq) ?_
  show OwnEnds p e below _ (T1.setTop (mkF m 5 #[.val (.ref a0)] [(.int (0 : Int32)), (.ref a0)]))
  refine .pre (fun _ kq => XS.iconst X1.here hx rfl (hb hby d16_5) kq) ?_
  show OwnEnds p e below _ (T1.setTop (mkF m 6 #[.val (.ref a0)] [(.int (1 : Int32)), (.int (0 : Int32)), (.ref a0)]))
  refine .pre (fun _ kq => XS.iadd X1.here hx rfl (hb hby d16_6) rfl kq) ?_
  show OwnEnds p e below _ (T1.setTop (mkF m 7 #[.val (.ref a0)] [(.int ((0 : Int32) + (1 : Int32))), (.ref a0)]))
  obtain ⟨cq2, q2, q2'⟩ := ELx.cell
  obtain ⟨_, _, ⟨T2, L2, k2, n2⟩, -, X2, ⟨Lc2, hQ2, l2, y2, z2⟩, st2⟩ := X1.privateBack hx (y := (⟨"java/util/ArrayList", "grow", "(I)[Ljava/lang/Object;"⟩ : MethodName)) hown (mvT hZ (hw _ (List.mem_of_getElem? (i := 134) rfl))) (mvT hZ (hw _ (List.mem_of_getElem? (i := 135) rfl))) (mvT hZ (hw _ (List.mem_of_getElem? (i := 137) rfl))) (Cond.privateMethod_at (mvP hZ (hw _ (List.mem_of_getElem? (i := 136) rfl)) (args := #[]))) (mvT hZ (hw _ (List.mem_of_getElem? (i := 138) rfl))) (by decide) (backOf (W := 0) (rm17 l Z aZ hw [] a0 xD mc h0 n0 Z0 SD ELx Lx1 Lx2 Lx3 RDx x0 g_a0) hZ (hw _ (List.mem_of_getElem? (i := 138) rfl)) (hw _ (List.mem_of_getElem? (i := 9) rfl)) (by decide) (by decide)) (g := (mkF m 7 #[.val (.ref a0)] [(.int ((0 : Int32) + (1 : Int32))), (.ref a0)])) rfl (by rw [hml]; rfl) (Steps.refl _) (a := a0) (by rw [e1]; exact q2) q2' (argsL := [(.int ((0 : Int32) + (1 : Int32)))]) (rest := []) (lenOf pd_9 rfl) rfl (by show 2 * 0 + _ ≤ _; exact Nat.le_of_eq rfl) (hb hby d16_7) (fun _ _ => ⟨rfl, e1, (by decide : 0 + 1 ≤ _), (by decide : 0 + 10 ≤ _)⟩)
  dsimp only [Pt.U, Pt.locs, Pt.cells, Pt.slots] at X2 l2 y2 z2 st2 hQ2
  try dsimp only [Nat.reduceAdd] at y2 z2
  subst y2 z2
  obtain ⟨r2, rfl, N2q, K2, szq2, Lq2_0, ⟨mcq2, Lq2_1⟩, Lq2_2, Lq2_3, Lq2_4⟩ := hQ2
  have N2 : Fr n0 L2 := by rw [l2]; exact Fr.app N0 N2q
  refine .pre (fun _ kq => st2.trans kq) ?_
  have g_r2 : n0 ≤ r2 := Nat.le_trans Z0 szq2
  have sz_r2 : h0.size ≤ r2 := Nat.le_trans (Keep.refl h0 [a0]).1 szq2
  have Kp2 : Keep h0 T2.heap [a0] := (Keep.refl h0 [a0]).trans K2 (allS (Or.inl (List.mem_of_getElem? (i := 0) rfl)) all0)
  show OwnEnds p e below _ (T2.setTop (mkF m 10 #[.val (.ref a0)] [(.ref r2)]))
  exact own_endR X2 hx hlk Bd.returns rfl rfl (hb hby d16_10) (by decide) (by decide) ⟨_, rfl, N2, Kp2, sz_r2, Lq2_0, ⟨_, Lq2_1⟩, Lq2_2, Lq2_3, Lq2_4⟩
theorem d15_0 : decode jdk_38_method_24_code 0 = .ok (.iload_n 3, 1) := by decide +kernel
theorem d15_1 : decode jdk_38_method_24_code 1 = .ok (.aload_n 2, 1) := by decide +kernel
theorem d15_2 : decode jdk_38_method_24_code 2 = .ok (.arraylength, 1) := by decide +kernel
theorem d15_3 : decode jdk_38_method_24_code 3 = .ok (.if_icmp .ne 8, 3) := by decide +kernel
theorem d15_6 : decode jdk_38_method_24_code 6 = .ok (.aload_n 0, 1) := by decide +kernel
theorem d15_7 : decode jdk_38_method_24_code 7 = .ok (.invokevirtual 129, 3) := by decide +kernel
theorem d15_10 : decode jdk_38_method_24_code 10 = .ok (.astore_n 2, 1) := by decide +kernel
theorem d15_11 : decode jdk_38_method_24_code 11 = .ok (.aload_n 2, 1) := by decide +kernel
theorem d15_12 : decode jdk_38_method_24_code 12 = .ok (.iload_n 3, 1) := by decide +kernel
theorem d15_13 : decode jdk_38_method_24_code 13 = .ok (.aload_n 1, 1) := by decide +kernel
theorem d15_14 : decode jdk_38_method_24_code 14 = .ok (.aastore, 1) := by decide +kernel
theorem d15_15 : decode jdk_38_method_24_code 15 = .ok (.aload_n 0, 1) := by decide +kernel
theorem d15_16 : decode jdk_38_method_24_code 16 = .ok (.iload_n 3, 1) := by decide +kernel
theorem d15_17 : decode jdk_38_method_24_code 17 = .ok (.iconst 1, 1) := by decide +kernel
theorem d15_18 : decode jdk_38_method_24_code 18 = .ok (.iadd, 1) := by decide +kernel
theorem d15_19 : decode jdk_38_method_24_code 19 = .ok (.putfield 48, 3) := by decide +kernel
theorem d15_22 : decode jdk_38_method_24_code 22 = .ok (.return_, 1) := by decide +kernel
theorem ef_15A (m : MethodId) (a0 : Addr) (a2 : Addr) : entryFrame m #[(.ref a0), .null, (.ref a2), (.int (0 : Int32))] 4 = mkF m 0 #[.val (.ref a0), .val .null, .val (.ref a2), .val (.int (0 : Int32))] [] := by first | (simp [entryFrame, mkF, argsToLocals, Value.category]; done) | rfl
theorem pd_10 : parseMethodDescriptor "()[Ljava/lang/Object;" = some ⟨[], some (.array (.object "java/lang/Object"))⟩ := by decide +kernel
def Q15A (Z : State) (a0 : Addr) (a2 : Addr) (mc : Int32) (h0 : Heap) (n0 : Nat) (v : Option Value) (h : Heap) (L : List Loc) : Prop := ∃ r : Addr, v = none ∧ Fr n0 L ∧ Keep h0 h [a0] ∧ h0.size ≤ r ∧ Exa Z h a0 "java/util/ArrayList" ∧ (∃ mc : Int32, Fld Z h a0 "java/util/AbstractList" "modCount" "I" (.int mc)) ∧ Fld Z h a0 "java/util/ArrayList" "elementData" "[Ljava/lang/Object;" (.ref r) ∧ Fld Z h a0 "java/util/ArrayList" "size" "I" (.int (1 : Int32)) ∧ OwnR Z h r "java/lang/Object" (10 : Int32)
set_option maxRecDepth 65536 in
set_option maxHeartbeats 40000000 in
theorem rm15A (l : Launch) (Z : State) (aZ : Array Value) (hw : ∀ d ∈ tables_1, d.before aZ Z = true) (ws : List Jvm.Cond) (a0 : Addr) (a2 : Addr) (mc : Int32) (h0 : Heap) (n0 : Nat) (Z0 : n0 ≤ h0.size) (SD : Sta Z h0 "java/util/ArrayList" "DEFAULTCAPACITY_EMPTY_ELEMENTDATA" "[Ljava/lang/Object;" (.ref a2)) (ELx : Exa Z h0 a0 "java/util/ArrayList") (Lx1 : Fld Z h0 a0 "java/util/AbstractList" "modCount" "I" (.int mc)) (Lx2 : Fld Z h0 a0 "java/util/ArrayList" "elementData" "[Ljava/lang/Object;" (.ref a2)) (Lx3 : Fld Z h0 a0 "java/util/ArrayList" "size" "I" (.int (0 : Int32))) (RDx : OwnR Z h0 a2 "java/lang/Object" (0 : Int32)) (x0 : a0 ≠ a2) (g_a0 : n0 ≤ a0) :
    MetFree l (⟨"java/util/ArrayList", "add", "(Ljava/lang/Object;[Ljava/lang/Object;I)V"⟩ : MethodName) (head1 (Jvm.Cond.code (⟨"java/util/ArrayList", "add", "(Ljava/lang/Object;[Ljava/lang/Object;I)V"⟩ : MethodName) jdk_38_method_24_code 4 none :: ws) ({ frames := 3, cells := 1, slots := 10, locals := 43 } : Room)) (fun a U => a = #[(.ref a0), .null, (.ref a2), (.int (0 : Int32))] ∧ Z.Warmed39 U.vm ∧ U.heap = h0) (fun _ _ _ _ _ => True) (fun _ U o U' => ∃ v L, o = .returned v ∧ Q15A Z a0 a2 mc h0 n0 v U'.heap L ∧ FrameEnd U o U' L 1 10) := by
  refine MetFree.of_bodySF (plainFor_of_name pn_3) hisR ?_
  intro p e s m args below meth c s₁ Bd hml0 hP hK
  obtain ⟨rfl, hZ, hh⟩ := hP
  have hx := Bd.exec
  have hby := Bd.bytes
  have hml : c.maxLocals = 4 := hml0
  have hown : s.vm.findClass "java/util/ArrayList" = some m.cls := findClass_of_methodNamed Bd.named
  have hnm := (name_of_methodNamed Bd.named Bd.method).1
  have hlk := BodyLoose.notSynchronized Bd
  have X0 : Stand p l e ({ frames := 3, cells := 1, slots := 10, locals := 43 } : Room) s m #[(.ref a0), .null, (.ref a2), (.int (0 : Int32))] below meth c s₁ [] 0 0 := Stand.of_body Bd
  have e0 : s₁.heap = h0 := by rw [← hh, Bd.state]; rfl
  have N0 := Fr.nil n0
  have hk0 : 0 ≤ 1 := Nat.zero_le _
  have hn0 : 0 ≤ 10 := Nat.zero_le _
  show OwnEnds p e below (OwnQ s (Q15A Z a0 a2 mc h0 n0) 1 10) (s₁.setTop (entryFrame m #[(.ref a0), .null, (.ref a2), (.int (0 : Int32))] 4))
  refine .pre (fun t k => castTop (ef_15A m a0 a2) k) ?_
  show OwnEnds p e below _ (s₁.setTop (mkF m 0 #[.val (.ref a0), .val .null, .val (.ref a2), .val (.int (0 : Int32))] []))
  refine .pre (fun _ kq => XS.iloadN X0.here hx rfl (hb hby d15_0) rfl kq) ?_
  show OwnEnds p e below _ (s₁.setTop (mkF m 1 #[.val (.ref a0), .val .null, .val (.ref a2), .val (.int (0 : Int32))] [(.int (0 : Int32))]))
  refine .pre (fun _ kq => XS.aloadN X0.here hx rfl (hb hby d15_1) rfl rfl kq) ?_
  show OwnEnds p e below _ (s₁.setTop (mkF m 2 #[.val (.ref a0), .val .null, .val (.ref a2), .val (.int (0 : Int32))] [(.ref a2), (.int (0 : Int32))]))
  obtain ⟨cl1, Ar1, Ov1, qs1, qn1⟩ := id RDx
  refine .pre (fun _ kq => X0.arraylength hx (by rw [e0]; exact Ar1.1) (State.isArrayOf_alike hZ.alike Ar1.2.1) (g := (mkF m 2 #[.val (.ref a0), .val .null, .val (.ref a2), .val (.int (0 : Int32))] [(.ref a2), (.int (0 : Int32))])) rfl rfl (hb hby d15_2) _ kq) ?_
  rw [len_of qs1 qn1]
  show OwnEnds p e below _ (s₁.setTop (mkF m 3 #[.val (.ref a0), .val .null, .val (.ref a2), .val (.int (0 : Int32))] [(.int (0 : Int32)), (.int (0 : Int32))]))
  have hc3 : ((0 : Int32) = (0 : Int32)) := by decide
  refine .pre (fun _ kq => XS.icmpNo X0.here hx rfl (hb hby d15_3) rfl (teq hc3).2 kq) ?_
  show OwnEnds p e below _ (s₁.setTop (mkF m 6 #[.val (.ref a0), .val .null, .val (.ref a2), .val (.int (0 : Int32))] []))
  refine .pre (fun _ kq => XS.aloadN X0.here hx rfl (hb hby d15_6) rfl rfl kq) ?_
  show OwnEnds p e below _ (s₁.setTop (mkF m 7 #[.val (.ref a0), .val .null, .val (.ref a2), .val (.int (0 : Int32))] [(.ref a0)]))
  obtain ⟨cq2, q2, q2'⟩ := ELx.cell
  obtain ⟨_, _, ⟨T2, L2, k2, n2⟩, -, X2, ⟨Lc2, hQ2, l2, y2, z2⟩, st2⟩ := X0.privateBack hx (y := (⟨"java/util/ArrayList", "grow", "()[Ljava/lang/Object;"⟩ : MethodName)) hown (mvT hZ (hw _ (List.mem_of_getElem? (i := 129) rfl))) (mvT hZ (hw _ (List.mem_of_getElem? (i := 130) rfl))) (mvT hZ (hw _ (List.mem_of_getElem? (i := 132) rfl))) (Cond.privateMethod_at (mvP hZ (hw _ (List.mem_of_getElem? (i := 131) rfl)) (args := #[]))) (mvT hZ (hw _ (List.mem_of_getElem? (i := 133) rfl))) (by decide) (backOf (W := 0) (rm16 l Z aZ hw [] a0 a2 mc h0 n0 Z0 SD ELx Lx1 Lx2 Lx3 RDx x0 g_a0) hZ (hw _ (List.mem_of_getElem? (i := 133) rfl)) (hw _ (List.mem_of_getElem? (i := 9) rfl)) (by decide) (by decide)) (g := (mkF m 7 #[.val (.ref a0), .val .null, .val (.ref a2), .val (.int (0 : Int32))] [(.ref a0)])) rfl (by rw [hml]; rfl) (Steps.refl _) (a := a0) (by rw [e0]; exact q2) q2' (argsL := []) (rest := []) (lenOf pd_10 rfl) rfl (by show 2 * 0 + _ ≤ _; exact Nat.le_of_eq rfl) (hb hby d15_7) (fun _ _ => ⟨rfl, e0, (by decide : 0 + 1 ≤ _), (by decide : 0 + 10 ≤ _)⟩)
  dsimp only [Pt.U, Pt.locs, Pt.cells, Pt.slots] at X2 l2 y2 z2 st2 hQ2
  try dsimp only [Nat.reduceAdd] at y2 z2
  subst y2 z2
  obtain ⟨r2, rfl, N2q, K2, szq2, Lq2_0, ⟨mcq2, Lq2_1⟩, Lq2_2, Lq2_3, Lq2_4⟩ := hQ2
  have N2 : Fr n0 L2 := by rw [l2]; exact Fr.app N0 N2q
  refine .pre (fun _ kq => st2.trans kq) ?_
  have g_r2 : n0 ≤ r2 := Nat.le_trans Z0 szq2
  have sz_r2 : h0.size ≤ r2 := Nat.le_trans (Keep.refl h0 [a0]).1 szq2
  have Kp2 : Keep h0 T2.heap [a0] := (Keep.refl h0 [a0]).trans K2 (allS (Or.inl (List.mem_of_getElem? (i := 0) rfl)) all0)
  show OwnEnds p e below _ (T2.setTop (mkF m 10 #[.val (.ref a0), .val .null, .val (.ref a2), .val (.int (0 : Int32))] [(.ref r2)]))
  refine .pre (fun _ kq => XS.astoreN X2.here hx rfl (hb hby d15_10) rfl rfl (l' := #[.val (.ref a0), .val .null, .val (.ref r2), .val (.int (0 : Int32))]) rfl kq) ?_
  show OwnEnds p e below _ (T2.setTop (mkF m 11 #[.val (.ref a0), .val .null, .val (.ref r2), .val (.int (0 : Int32))] []))
  refine .pre (fun _ kq => XS.aloadN X2.here hx rfl (hb hby d15_11) rfl rfl kq) ?_
  show OwnEnds p e below _ (T2.setTop (mkF m 12 #[.val (.ref a0), .val .null, .val (.ref r2), .val (.int (0 : Int32))] [(.ref r2)]))
  refine .pre (fun _ kq => XS.iloadN X2.here hx rfl (hb hby d15_12) rfl kq) ?_
  show OwnEnds p e below _ (T2.setTop (mkF m 13 #[.val (.ref a0), .val .null, .val (.ref r2), .val (.int (0 : Int32))] [(.int (0 : Int32)), (.ref r2)]))
  refine .pre (fun _ kq => XS.aloadN X2.here hx rfl (hb hby d15_13) rfl rfl kq) ?_
  show OwnEnds p e below _ (T2.setTop (mkF m 14 #[.val (.ref a0), .val .null, .val (.ref r2), .val (.int (0 : Int32))] [.null, (.int (0 : Int32)), (.ref r2)]))
  obtain ⟨cl3, Ar3, Ov3, qs3, qn3⟩ := id Lq2_4
  obtain ⟨T3, h3, X3, e3, W3, st3⟩ := stR X2 hx hZ rfl Ar3 (j := (0 : Int32)) (v := .null) (inb_of qs3 ⟨by decide, by decide⟩) rfl (Or.inl rfl) (g := (mkF m 14 #[.val (.ref a0), .val .null, .val (.ref r2), .val (.int (0 : Int32))] [.null, (.int (0 : Int32)), (.ref r2)])) rfl rfl (hb hby d15_14)
  have V3 := OwnR.set Lq2_4 W3
  have N3 := Fr.snoc X3 N2 g_r2
  have Kp3 : Keep h0 h3 [a0] := Kp2.wr W3 (Or.inr sz_r2)
  refine .pre (fun _ kq => st3 _ kq) ?_
  show OwnEnds p e below _ (T3.setTop (mkF m 15 #[.val (.ref a0), .val .null, .val (.ref r2), .val (.int (0 : Int32))] []))
  refine .pre (fun _ kq => XS.aloadN X3.here hx rfl (hb hby d15_15) rfl rfl kq) ?_
  show OwnEnds p e below _ (T3.setTop (mkF m 16 #[.val (.ref a0), .val .null, .val (.ref r2), .val (.int (0 : Int32))] [(.ref a0)]))
  refine .pre (fun _ kq => XS.iloadN X3.here hx rfl (hb hby d15_16) rfl kq) ?_
  show OwnEnds p e below _ (T3.setTop (mkF m 17 #[.val (.ref a0), .val .null, .val (.ref r2), .val (.int (0 : Int32))] [(.int (0 : Int32)), (.ref a0)]))
  refine .pre (fun _ kq => XS.iconst X3.here hx rfl (hb hby d15_17) kq) ?_
  show OwnEnds p e below _ (T3.setTop (mkF m 18 #[.val (.ref a0), .val .null, .val (.ref r2), .val (.int (0 : Int32))] [(.int (1 : Int32)), (.int (0 : Int32)), (.ref a0)]))
  refine .pre (fun _ kq => XS.iadd X3.here hx rfl (hb hby d15_18) rfl kq) ?_
  show OwnEnds p e below _ (T3.setTop (mkF m 19 #[.val (.ref a0), .val .null, .val (.ref r2), .val (.int (0 : Int32))] [(.int ((0 : Int32) + (1 : Int32))), (.ref a0)]))
  obtain ⟨T4, h4, X4, e4, W4, st4⟩ := putF X3 hx hZ hown (host := "") (Or.inl (hw _ (List.mem_of_getElem? (i := 107) rfl))) Via.refl e3 (Lq2_3.other W3 (Or.inl (Nat.ne_of_lt (Nat.lt_of_lt_of_le ELx.lt szq2)))) (Lq2_0.wr W3) (Or.inl (hw _ (List.mem_of_getElem? (i := 108) rfl))) (hw _ (List.mem_of_getElem? (i := 8) rfl)) (ty := .int) (by decide) rfl rfl (g := (mkF m 19 #[.val (.ref a0), .val .null, .val (.ref r2), .val (.int (0 : Int32))] [(.int ((0 : Int32) + (1 : Int32))), (.ref a0)])) rfl rfl (hb hby d15_19)
  have Fw4 := (Lq2_3.other W3 (Or.inl (Nat.ne_of_lt (Nat.lt_of_lt_of_le ELx.lt szq2)))).same W4
  have N4 := Fr.snoc X4 N3 g_a0
  have Kp4 : Keep h0 h4 [a0] := Kp3.wr W4 (Or.inl (List.mem_of_getElem? (i := 0) rfl))
  refine .pre (fun _ kq => st4 _ kq) ?_
  show OwnEnds p e below _ (T4.setTop (mkF m 22 #[.val (.ref a0), .val .null, .val (.ref r2), .val (.int (0 : Int32))] []))
  exact own_endV X4 hx hlk Bd.returns (hb hby d15_22) (by decide) (by decide) ⟨_, rfl, N4, (by rw [e4]; exact Kp4), sz_r2, (by rw [e4]; exact ((Lq2_0.wr W3).wr W4)), ⟨_, (by rw [e4]; exact ((Lq2_1.other W3 (Or.inl (Nat.ne_of_lt (Nat.lt_of_lt_of_le ELx.lt szq2)))).other W4 (Or.inr (slot_ne (Or.inl (hw _ (List.mem_of_getElem? (i := 29) rfl))) (Or.inl (hw _ (List.mem_of_getElem? (i := 108) rfl))) (by decide) (t := .int) (t' := .int) (by decide) (by decide)))))⟩, (by rw [e4]; exact ((Lq2_2.other W3 (Or.inl (Nat.ne_of_lt (Nat.lt_of_lt_of_le ELx.lt szq2)))).other W4 (Or.inr (slot_ne (Or.inl (hw _ (List.mem_of_getElem? (i := 32) rfl))) (Or.inl (hw _ (List.mem_of_getElem? (i := 108) rfl))) (by decide) (t := (.array (.object "java/lang/Object"))) (t' := .int) (by decide) (by decide))))), (by rw [e4]; exact Fw4), (by rw [e4]; exact (V3.other W4 (Ne.symm (Nat.ne_of_lt (Nat.lt_of_lt_of_le ELx.lt szq2)))))⟩
theorem d14_0 : decode jdk_38_method_25_code 0 = .ok (.aload_n 0, 1) := by decide +kernel
theorem d14_1 : decode jdk_38_method_25_code 1 = .ok (.dup, 1) := by decide +kernel
theorem d14_2 : decode jdk_38_method_25_code 2 = .ok (.getfield 63, 3) := by decide +kernel
theorem d14_5 : decode jdk_38_method_25_code 5 = .ok (.iconst 1, 1) := by decide +kernel
theorem d14_6 : decode jdk_38_method_25_code 6 = .ok (.iadd, 1) := by decide +kernel
theorem d14_7 : decode jdk_38_method_25_code 7 = .ok (.putfield 63, 3) := by decide +kernel
theorem d14_10 : decode jdk_38_method_25_code 10 = .ok (.aload_n 0, 1) := by decide +kernel
theorem d14_11 : decode jdk_38_method_25_code 11 = .ok (.aload_n 1, 1) := by decide +kernel
theorem d14_12 : decode jdk_38_method_25_code 12 = .ok (.aload_n 0, 1) := by decide +kernel
theorem d14_13 : decode jdk_38_method_25_code 13 = .ok (.getfield 9, 3) := by decide +kernel
theorem d14_16 : decode jdk_38_method_25_code 16 = .ok (.aload_n 0, 1) := by decide +kernel
theorem d14_17 : decode jdk_38_method_25_code 17 = .ok (.getfield 48, 3) := by decide +kernel
theorem d14_20 : decode jdk_38_method_25_code 20 = .ok (.invokevirtual 131, 3) := by decide +kernel
theorem d14_23 : decode jdk_38_method_25_code 23 = .ok (.iconst 1, 1) := by decide +kernel
theorem d14_24 : decode jdk_38_method_25_code 24 = .ok (.ireturn, 1) := by decide +kernel
theorem ef_14A (m : MethodId) (a0 : Addr) : entryFrame m #[(.ref a0), .null] 2 = mkF m 0 #[.val (.ref a0), .val .null] [] := by first | (simp [entryFrame, mkF, argsToLocals, Value.category]; done) | rfl
theorem pd_11 : parseMethodDescriptor "(Ljava/lang/Object;[Ljava/lang/Object;I)V" = some ⟨[(.object "java/lang/Object"), (.array (.object "java/lang/Object")), .int], none⟩ := by decide +kernel
def Q14A (Z : State) (a0 : Addr) (xD : Addr) (mc : Int32) (h0 : Heap) (n0 : Nat) (v : Option Value) (h : Heap) (L : List Loc) : Prop := ∃ r : Addr, v = some (.int 1) ∧ Fr n0 L ∧ Keep h0 h [a0] ∧ h0.size ≤ r ∧ Exa Z h a0 "java/util/ArrayList" ∧ (∃ mc : Int32, Fld Z h a0 "java/util/AbstractList" "modCount" "I" (.int mc)) ∧ Fld Z h a0 "java/util/ArrayList" "elementData" "[Ljava/lang/Object;" (.ref r) ∧ Fld Z h a0 "java/util/ArrayList" "size" "I" (.int (1 : Int32)) ∧ OwnR Z h r "java/lang/Object" (10 : Int32)
set_option maxRecDepth 65536 in
set_option maxHeartbeats 40000000 in
theorem rm14A (l : Launch) (Z : State) (aZ : Array Value) (hw : ∀ d ∈ tables_1, d.before aZ Z = true) (ws : List Jvm.Cond) (a0 : Addr) (xD : Addr) (mc : Int32) (h0 : Heap) (n0 : Nat) (Z0 : n0 ≤ h0.size) (SD : Sta Z h0 "java/util/ArrayList" "DEFAULTCAPACITY_EMPTY_ELEMENTDATA" "[Ljava/lang/Object;" (.ref xD)) (ELx : Exa Z h0 a0 "java/util/ArrayList") (Lx1 : Fld Z h0 a0 "java/util/AbstractList" "modCount" "I" (.int mc)) (Lx2 : Fld Z h0 a0 "java/util/ArrayList" "elementData" "[Ljava/lang/Object;" (.ref xD)) (Lx3 : Fld Z h0 a0 "java/util/ArrayList" "size" "I" (.int (0 : Int32))) (RDx : OwnR Z h0 xD "java/lang/Object" (0 : Int32)) (x0 : a0 ≠ xD) (g_a0 : n0 ≤ a0) :
    MetFree l (⟨"java/util/ArrayList", "add", "(Ljava/lang/Object;)Z"⟩ : MethodName) (head1 (Jvm.Cond.code (⟨"java/util/ArrayList", "add", "(Ljava/lang/Object;)Z"⟩ : MethodName) jdk_38_method_25_code 2 (some .boolean) :: ws) ({ frames := 4, cells := 1, slots := 10, locals := 58 } : Room)) (fun a U => a = #[(.ref a0), .null] ∧ Z.Warmed39 U.vm ∧ U.heap = h0) (fun _ _ _ _ _ => True) (fun _ U o U' => ∃ v L, o = .returned v ∧ Q14A Z a0 xD mc h0 n0 v U'.heap L ∧ FrameEnd U o U' L 1 10) := by
  refine MetFree.of_bodySF (plainFor_of_name pn_3) hisR ?_
  intro p e s m args below meth c s₁ Bd hml0 hP hK
  obtain ⟨rfl, hZ, hh⟩ := hP
  have hx := Bd.exec
  have hby := Bd.bytes
  have hml : c.maxLocals = 2 := hml0
  have hown : s.vm.findClass "java/util/ArrayList" = some m.cls := findClass_of_methodNamed Bd.named
  have hnm := (name_of_methodNamed Bd.named Bd.method).1
  have hlk := BodyLoose.notSynchronized Bd
  have X0 : Stand p l e ({ frames := 4, cells := 1, slots := 10, locals := 58 } : Room) s m #[(.ref a0), .null] below meth c s₁ [] 0 0 := Stand.of_body Bd
  have e0 : s₁.heap = h0 := by rw [← hh, Bd.state]; rfl
  have N0 := Fr.nil n0
  have hk0 : 0 ≤ 1 := Nat.zero_le _
  have hn0 : 0 ≤ 10 := Nat.zero_le _
  show OwnEnds p e below (OwnQ s (Q14A Z a0 xD mc h0 n0) 1 10) (s₁.setTop (entryFrame m #[(.ref a0), .null] 2))
  refine .pre (fun t k => castTop (ef_14A m a0) k) ?_
  show OwnEnds p e below _ (s₁.setTop (mkF m 0 #[.val (.ref a0), .val .null] []))
  refine .pre (fun _ kq => XS.aloadN X0.here hx rfl (hb hby d14_0) rfl rfl kq) ?_
  show OwnEnds p e below _ (s₁.setTop (mkF m 1 #[.val (.ref a0), .val .null] [(.ref a0)]))
  refine .pre (fun _ kq => XS.dup X0.here hx rfl (hb hby d14_1) rfl rfl kq) ?_
  show OwnEnds p e below _ (s₁.setTop (mkF m 2 #[.val (.ref a0), .val .null] [(.ref a0), (.ref a0)]))
  obtain ⟨T1, X1, e1, st1⟩ := getF X0 hx hZ hown (host := "") (Or.inl (hw _ (List.mem_of_getElem? (i := 122) rfl))) (Via.of (hw _ (List.mem_of_getElem? (i := 123) rfl))) e0 Lx1 (g := (mkF m 2 #[.val (.ref a0), .val .null] [(.ref a0), (.ref a0)])) rfl rfl (hb hby d14_2)
  refine .pre (fun _ kq => st1 _ kq) ?_
  show OwnEnds p e below _ (T1.setTop (mkF m 5 #[.val (.ref a0), .val .null] [(.int mc), (.ref a0)]))
  refine .pre (fun _ kq => XS.iconst X1.here hx rfl (hb hby d14_5) kq) ?_
  show OwnEnds p e below _ (T1.setTop (mkF m 6 #[.val (.ref a0), .val .null] [(.int (1 : Int32)), (.int mc), (.ref a0)]))
  refine .pre (fun _ kq => XS.iadd X1.here hx rfl (hb hby d14_6) rfl kq) ?_
  show OwnEnds p e below _ (T1.setTop (mkF m 7 #[.val (.ref a0), .val .null] [(.int (mc + (1 : Int32))), (.ref a0)]))
  obtain ⟨T2, h2, X2, e2, W2, st2⟩ := putF X1 hx hZ hown (host := "") (Or.inl (hw _ (List.mem_of_getElem? (i := 122) rfl))) (Via.of (hw _ (List.mem_of_getElem? (i := 123) rfl))) e1 Lx1 ELx (Or.inl (hw _ (List.mem_of_getElem? (i := 29) rfl))) (hw _ (List.mem_of_getElem? (i := 8) rfl)) (ty := .int) (by decide) rfl rfl (g := (mkF m 7 #[.val (.ref a0), .val .null] [(.int (mc + (1 : Int32))), (.ref a0)])) rfl rfl (hb hby d14_7)
  have Fw2 := Lx1.same W2
  have N2 := Fr.snoc X2 N0 g_a0
  have Kp2 : Keep h0 h2 [a0] := (Keep.refl h0 [a0]).wr W2 (Or.inl (List.mem_of_getElem? (i := 0) rfl))
  refine .pre (fun _ kq => st2 _ kq) ?_
  show OwnEnds p e below _ (T2.setTop (mkF m 10 #[.val (.ref a0), .val .null] []))
  refine .pre (fun _ kq => XS.aloadN X2.here hx rfl (hb hby d14_10) rfl rfl kq) ?_
  show OwnEnds p e below _ (T2.setTop (mkF m 11 #[.val (.ref a0), .val .null] [(.ref a0)]))
  refine .pre (fun _ kq => XS.aloadN X2.here hx rfl (hb hby d14_11) rfl rfl kq) ?_
  show OwnEnds p e below _ (T2.setTop (mkF m 12 #[.val (.ref a0), .val .null] [.null, (.ref a0)]))
  refine .pre (fun _ kq => XS.aloadN X2.here hx rfl (hb hby d14_12) rfl rfl kq) ?_
  show OwnEnds p e below _ (T2.setTop (mkF m 13 #[.val (.ref a0), .val .null] [(.ref a0), .null, (.ref a0)]))
  obtain ⟨T3, X3, e3, st3⟩ := getF X2 hx hZ hown (host := "") (Or.inl (hw _ (List.mem_of_getElem? (i := 31) rfl))) Via.refl e2 (Lx2.other W2 (Or.inr (slot_ne (Or.inl (hw _ (List.mem_of_getElem? (i := 32) rfl))) (Or.inl (hw _ (List.mem_of_getElem? (i := 29) rfl))) (by decide) (t := (.array (.object "java/lang/Object"))) (t' := .int) (by decide) (by decide)))) (g := (mkF m 13 #[.val (.ref a0), .val .null] [(.ref a0), .null, (.ref a0)])) rfl rfl (hb hby d14_13)
  refine .pre (fun _ kq => st3 _ kq) ?_
  show OwnEnds p e below _ (T3.setTop (mkF m 16 #[.val (.ref a0), .val .null] [(.ref xD), .null, (.ref a0)]))
  refine .pre (fun _ kq => XS.aloadN X3.here hx rfl (hb hby d14_16) rfl rfl kq) ?_
  show OwnEnds p e below _ (T3.setTop (mkF m 17 #[.val (.ref a0), .val .null] [(.ref a0), (.ref xD), .null, (.ref a0)]))
  obtain ⟨T4, X4, e4, st4⟩ := getF X3 hx hZ hown (host := "") (Or.inl (hw _ (List.mem_of_getElem? (i := 107) rfl))) Via.refl e3 (Lx3.other W2 (Or.inr (slot_ne (Or.inl (hw _ (List.mem_of_getElem? (i := 108) rfl))) (Or.inl (hw _ (List.mem_of_getElem? (i := 29) rfl))) (by decide) (t := .int) (t' := .int) (by decide) (by decide)))) (g := (mkF m 17 #[.val (.ref a0), .val .null] [(.ref a0), (.ref xD), .null, (.ref a0)])) rfl rfl (hb hby d14_17)
  refine .pre (fun _ kq => st4 _ kq) ?_
  show OwnEnds p e below _ (T4.setTop (mkF m 20 #[.val (.ref a0), .val .null] [(.int (0 : Int32)), (.ref xD), .null, (.ref a0)]))
  obtain ⟨cq5, q5, q5'⟩ := (ELx.wr W2).cell
  obtain ⟨_, _, ⟨T5, L5, k5, n5⟩, -, X5, ⟨Lc5, hQ5, l5, y5, z5⟩, st5⟩ := X4.privateBack hx (y := (⟨"java/util/ArrayList", "add", "(Ljava/lang/Object;[Ljava/lang/Object;I)V"⟩ : MethodName)) hown (mvT hZ (hw _ (List.mem_of_getElem? (i := 124) rfl))) (mvT hZ (hw _ (List.mem_of_getElem? (i := 125) rfl))) (mvT hZ (hw _ (List.mem_of_getElem? (i := 127) rfl))) (Cond.privateMethod_at (mvP hZ (hw _ (List.mem_of_getElem? (i := 126) rfl)) (args := #[]))) (mvT hZ (hw _ (List.mem_of_getElem? (i := 128) rfl))) (by decide) (backOf (W := 0) (rm15A l Z aZ hw [] a0 xD (mc + (1 : Int32)) h2 n0 (Nat.le_trans Z0 (Keep.of_wr W2).1) (Sta.wr W2 SD) (ELx.wr W2) Fw2 (Lx2.other W2 (Or.inr (slot_ne (Or.inl (hw _ (List.mem_of_getElem? (i := 32) rfl))) (Or.inl (hw _ (List.mem_of_getElem? (i := 29) rfl))) (by decide) (t := (.array (.object "java/lang/Object"))) (t' := .int) (by decide) (by decide)))) (Lx3.other W2 (Or.inr (slot_ne (Or.inl (hw _ (List.mem_of_getElem? (i := 108) rfl))) (Or.inl (hw _ (List.mem_of_getElem? (i := 29) rfl))) (by decide) (t := .int) (t' := .int) (by decide) (by decide)))) (RDx.other W2 (Ne.symm x0)) x0 g_a0) hZ (hw _ (List.mem_of_getElem? (i := 128) rfl)) (hw _ (List.mem_of_getElem? (i := 9) rfl)) (by decide) (by decide)) (g := (mkF m 20 #[.val (.ref a0), .val .null] [(.int (0 : Int32)), (.ref xD), .null, (.ref a0)])) rfl (by rw [hml]; rfl) (Steps.refl _) (a := a0) (by rw [e4]; exact q5) q5' (argsL := [.null, (.ref xD), (.int (0 : Int32))]) (rest := []) (lenOf pd_11 rfl) rfl (by show 2 * 0 + _ ≤ _; exact Nat.le_of_eq rfl) (hb hby d14_20) (fun _ _ => ⟨rfl, e4, (by decide : 0 + 1 ≤ _), (by decide : 0 + 10 ≤ _)⟩)
  dsimp only [Pt.U, Pt.locs, Pt.cells, Pt.slots] at X5 l5 y5 z5 st5 hQ5
  try dsimp only [Nat.reduceAdd] at y5 z5
  subst y5 z5
  obtain ⟨r5, rfl, N5q, K5, szq5, Lq5_0, ⟨mcq5, Lq5_1⟩, Lq5_2, Lq5_3, Lq5_4⟩ := hQ5
  have N5 : Fr n0 L5 := by rw [l5]; exact Fr.app N2 N5q
  refine .pre (fun _ kq => st5.trans kq) ?_
  have g_r5 : n0 ≤ r5 := Nat.le_trans (Nat.le_trans Z0 (Keep.of_wr W2).1) szq5
  have sz_r5 : h0.size ≤ r5 := Nat.le_trans Kp2.1 szq5
  have Kp5 : Keep h0 T5.heap [a0] := Kp2.trans K5 (allS (Or.inl (List.mem_of_getElem? (i := 0) rfl)) all0)
  show OwnEnds p e below _ (T5.setTop (mkF m 23 #[.val (.ref a0), .val .null] []))
  refine .pre (fun _ kq => XS.iconst X5.here hx rfl (hb hby d14_23) kq) ?_
  show OwnEnds p e below _ (T5.setTop (mkF m 24 #[.val (.ref a0), .val .null] [(.int (1 : Int32))]))
  exact own_endN X5 hx hlk (t := .boolean) Bd.returns (by simp) (hb hby d14_24) rfl (by decide) (by decide) ⟨_, rfl, N5, Kp5, sz_r5, Lq5_0, ⟨_, Lq5_1⟩, Lq5_2, Lq5_3, Lq5_4⟩
theorem own_b10 {k : Int32} (h : 0 ≤ k.toInt ∧ k.toInt < 10) : (¬ (k < 0) ∧ k < (10 : Int32)) ∧ ¬ (k = (10 : Int32)) := by
  have z : (0 : Int32).toInt = 0 := rfl
  have t : (10 : Int32).toInt = 10 := rfl
  rw [Int32.lt_iff_toInt_lt, Int32.lt_iff_toInt_lt, ← Int32.toInt_inj, z, t]
  omega
theorem ef_15B (m : MethodId) (a0 : Addr) (a2 : Addr) (p3 : Int32) : entryFrame m #[(.ref a0), .null, (.ref a2), (.int p3)] 4 = mkF m 0 #[.val (.ref a0), .val .null, .val (.ref a2), .val (.int p3)] [] := by first | (simp [entryFrame, mkF, argsToLocals, Value.category]; done) | rfl
def Q15B (Z : State) (a0 : Addr) (a2 : Addr) (p3 : Int32) (mc : Int32) (h0 : Heap) (n0 : Nat) (v : Option Value) (h : Heap) (L : List Loc) : Prop := v = none ∧ Fr n0 L ∧ Keep h0 h [a0, a2] ∧ Exa Z h a0 "java/util/ArrayList" ∧ (∃ mc : Int32, Fld Z h a0 "java/util/AbstractList" "modCount" "I" (.int mc)) ∧ Fld Z h a0 "java/util/ArrayList" "elementData" "[Ljava/lang/Object;" (.ref a2) ∧ Fld Z h a0 "java/util/ArrayList" "size" "I" (.int (p3 + 1)) ∧ OwnR Z h a2 "java/lang/Object" (10 : Int32)
set_option maxRecDepth 65536 in
set_option maxHeartbeats 40000000 in
theorem rm15B (l : Launch) (Z : State) (aZ : Array Value) (hw : ∀ d ∈ tables_1, d.before aZ Z = true) (ws : List Jvm.Cond) (a0 : Addr) (a2 : Addr) (p3 : Int32) (mc : Int32) (h0 : Heap) (n0 : Nat) (Z0 : n0 ≤ h0.size) (ELx : Exa Z h0 a0 "java/util/ArrayList") (Lx1 : Fld Z h0 a0 "java/util/AbstractList" "modCount" "I" (.int mc)) (Lx2 : Fld Z h0 a0 "java/util/ArrayList" "elementData" "[Ljava/lang/Object;" (.ref a2)) (Lx3 : Fld Z h0 a0 "java/util/ArrayList" "size" "I" (.int p3)) (RDx : OwnR Z h0 a2 "java/lang/Object" (10 : Int32)) (x0 : a0 ≠ a2) (g_a0 : n0 ≤ a0) (g_a2 : n0 ≤ a2) (hk : 0 ≤ p3.toInt ∧ p3.toInt < 10) :
    MetFree l (⟨"java/util/ArrayList", "add", "(Ljava/lang/Object;[Ljava/lang/Object;I)V"⟩ : MethodName) (head1 (Jvm.Cond.code (⟨"java/util/ArrayList", "add", "(Ljava/lang/Object;[Ljava/lang/Object;I)V"⟩ : MethodName) jdk_38_method_24_code 4 none :: ws) ({ frames := 0, cells := 0, slots := 0, locals := 0 } : Room)) (fun a U => a = #[(.ref a0), .null, (.ref a2), (.int p3)] ∧ Z.Warmed39 U.vm ∧ U.heap = h0) (fun _ _ _ _ _ => True) (fun _ U o U' => ∃ v L, o = .returned v ∧ Q15B Z a0 a2 p3 mc h0 n0 v U'.heap L ∧ FrameEnd U o U' L 0 0) := by
  refine MetFree.of_bodySF (plainFor_of_name pn_3) hisR ?_
  intro p e s m args below meth c s₁ Bd hml0 hP hK
  obtain ⟨rfl, hZ, hh⟩ := hP
  have hx := Bd.exec
  have hby := Bd.bytes
  have hml : c.maxLocals = 4 := hml0
  have hown : s.vm.findClass "java/util/ArrayList" = some m.cls := findClass_of_methodNamed Bd.named
  have hnm := (name_of_methodNamed Bd.named Bd.method).1
  have hlk := BodyLoose.notSynchronized Bd
  have X0 : Stand p l e ({ frames := 0, cells := 0, slots := 0, locals := 0 } : Room) s m #[(.ref a0), .null, (.ref a2), (.int p3)] below meth c s₁ [] 0 0 := Stand.of_body Bd
  have e0 : s₁.heap = h0 := by rw [← hh, Bd.state]; rfl
  have N0 := Fr.nil n0
  have hk0 : 0 ≤ 0 := Nat.zero_le _
  have hn0 : 0 ≤ 0 := Nat.zero_le _
  show OwnEnds p e below (OwnQ s (Q15B Z a0 a2 p3 mc h0 n0) 0 0) (s₁.setTop (entryFrame m #[(.ref a0), .null, (.ref a2), (.int p3)] 4))
  refine .pre (fun t k => castTop (ef_15B m a0 a2 p3) k) ?_
  show OwnEnds p e below _ (s₁.setTop (mkF m 0 #[.val (.ref a0), .val .null, .val (.ref a2), .val (.int p3)] []))
  refine .pre (fun _ kq => XS.iloadN X0.here hx rfl (hb hby d15_0) rfl kq) ?_
  show OwnEnds p e below _ (s₁.setTop (mkF m 1 #[.val (.ref a0), .val .null, .val (.ref a2), .val (.int p3)] [(.int p3)]))
  refine .pre (fun _ kq => XS.aloadN X0.here hx rfl (hb hby d15_1) rfl rfl kq) ?_
  show OwnEnds p e below _ (s₁.setTop (mkF m 2 #[.val (.ref a0), .val .null, .val (.ref a2), .val (.int p3)] [(.ref a2), (.int p3)]))
  obtain ⟨cl1, Ar1, Ov1, qs1, qn1⟩ := id RDx
  refine .pre (fun _ kq => X0.arraylength hx (by rw [e0]; exact Ar1.1) (State.isArrayOf_alike hZ.alike Ar1.2.1) (g := (mkF m 2 #[.val (.ref a0), .val .null, .val (.ref a2), .val (.int p3)] [(.ref a2), (.int p3)])) rfl rfl (hb hby d15_2) _ kq) ?_
  rw [len_of qs1 qn1]
  show OwnEnds p e below _ (s₁.setTop (mkF m 3 #[.val (.ref a0), .val .null, .val (.ref a2), .val (.int p3)] [(.int (10 : Int32)), (.int p3)]))
  have hc3 : ¬ (p3 = (10 : Int32)) := (own_b10 hk).2
  refine .pre (fun _ kq => XS.icmpYes X0.here hx rfl (pc0 := 3) (pc' := 11) rfl (hb hby d15_3) rfl (feq hc3).2 (by decide) (by decide) kq) ?_
  show OwnEnds p e below _ (s₁.setTop (mkF m 11 #[.val (.ref a0), .val .null, .val (.ref a2), .val (.int p3)] []))
  refine .pre (fun _ kq => XS.aloadN X0.here hx rfl (hb hby d15_11) rfl rfl kq) ?_
  show OwnEnds p e below _ (s₁.setTop (mkF m 12 #[.val (.ref a0), .val .null, .val (.ref a2), .val (.int p3)] [(.ref a2)]))
  refine .pre (fun _ kq => XS.iloadN X0.here hx rfl (hb hby d15_12) rfl kq) ?_
  show OwnEnds p e below _ (s₁.setTop (mkF m 13 #[.val (.ref a0), .val .null, .val (.ref a2), .val (.int p3)] [(.int p3), (.ref a2)]))
  refine .pre (fun _ kq => XS.aloadN X0.here hx rfl (hb hby d15_13) rfl rfl kq) ?_
  show OwnEnds p e below _ (s₁.setTop (mkF m 14 #[.val (.ref a0), .val .null, .val (.ref a2), .val (.int p3)] [.null, (.int p3), (.ref a2)]))
  obtain ⟨cl2, Ar2, Ov2, qs2, qn2⟩ := id RDx
  obtain ⟨T2, h2, X2, e2, W2, st2⟩ := stR X0 hx hZ e0 Ar2 (j := p3) (v := .null) (inb_of qs2 (own_b10 hk).1) rfl (Or.inl rfl) (g := (mkF m 14 #[.val (.ref a0), .val .null, .val (.ref a2), .val (.int p3)] [.null, (.int p3), (.ref a2)])) rfl rfl (hb hby d15_14)
  have V2 := OwnR.set RDx W2
  have N2 := Fr.snoc X2 N0 g_a2
  have Kp2 : Keep h0 h2 [a0, a2] := (Keep.refl h0 [a0, a2]).wr W2 (Or.inl (List.mem_of_getElem? (i := 1) rfl))
  refine .pre (fun _ kq => st2 _ kq) ?_
  show OwnEnds p e below _ (T2.setTop (mkF m 15 #[.val (.ref a0), .val .null, .val (.ref a2), .val (.int p3)] []))
  refine .pre (fun _ kq => XS.aloadN X2.here hx rfl (hb hby d15_15) rfl rfl kq) ?_
  show OwnEnds p e below _ (T2.setTop (mkF m 16 #[.val (.ref a0), .val .null, .val (.ref a2), .val (.int p3)] [(.ref a0)]))
  refine .pre (fun _ kq => XS.iloadN X2.here hx rfl (hb hby d15_16) rfl kq) ?_
  show OwnEnds p e below _ (T2.setTop (mkF m 17 #[.val (.ref a0), .val .null, .val (.ref a2), .val (.int p3)] [(.int p3), (.ref a0)]))
  refine .pre (fun _ kq => XS.iconst X2.here hx rfl (hb hby d15_17) kq) ?_
  show OwnEnds p e below _ (T2.setTop (mkF m 18 #[.val (.ref a0), .val .null, .val (.ref a2), .val (.int p3)] [(.int (1 : Int32)), (.int p3), (.ref a0)]))
  refine .pre (fun _ kq => XS.iadd X2.here hx rfl (hb hby d15_18) rfl kq) ?_
  show OwnEnds p e below _ (T2.setTop (mkF m 19 #[.val (.ref a0), .val .null, .val (.ref a2), .val (.int p3)] [(.int (p3 + (1 : Int32))), (.ref a0)]))
  obtain ⟨T3, h3, X3, e3, W3, st3⟩ := putF X2 hx hZ hown (host := "") (Or.inl (hw _ (List.mem_of_getElem? (i := 107) rfl))) Via.refl e2 (Lx3.other W2 (Or.inl x0)) (ELx.wr W2) (Or.inl (hw _ (List.mem_of_getElem? (i := 108) rfl))) (hw _ (List.mem_of_getElem? (i := 8) rfl)) (ty := .int) (by decide) rfl rfl (g := (mkF m 19 #[.val (.ref a0), .val .null, .val (.ref a2), .val (.int p3)] [(.int (p3 + (1 : Int32))), (.ref a0)])) rfl rfl (hb hby d15_19)
  have Fw3 := (Lx3.other W2 (Or.inl x0)).same W3
  have N3 := Fr.snoc X3 N2 g_a0
  have Kp3 : Keep h0 h3 [a0, a2] := Kp2.wr W3 (Or.inl (List.mem_of_getElem? (i := 0) rfl))
  refine .pre (fun _ kq => st3 _ kq) ?_
  show OwnEnds p e below _ (T3.setTop (mkF m 22 #[.val (.ref a0), .val .null, .val (.ref a2), .val (.int p3)] []))
  exact own_endV X3 hx hlk Bd.returns (hb hby d15_22) (by decide) (by decide) ⟨rfl, N3, (by rw [e3]; exact Kp3), (by rw [e3]; exact ((ELx.wr W2).wr W3)), ⟨_, (by rw [e3]; exact ((Lx1.other W2 (Or.inl x0)).other W3 (Or.inr (slot_ne (Or.inl (hw _ (List.mem_of_getElem? (i := 29) rfl))) (Or.inl (hw _ (List.mem_of_getElem? (i := 108) rfl))) (by decide) (t := .int) (t' := .int) (by decide) (by decide)))))⟩, (by rw [e3]; exact ((Lx2.other W2 (Or.inl x0)).other W3 (Or.inr (slot_ne (Or.inl (hw _ (List.mem_of_getElem? (i := 32) rfl))) (Or.inl (hw _ (List.mem_of_getElem? (i := 108) rfl))) (by decide) (t := (.array (.object "java/lang/Object"))) (t' := .int) (by decide) (by decide))))), (by rw [e3]; exact Fw3), (by rw [e3]; exact (V2.other W3 (Ne.symm x0)))⟩
theorem ef_14B (m : MethodId) (a0 : Addr) : entryFrame m #[(.ref a0), .null] 2 = mkF m 0 #[.val (.ref a0), .val .null] [] := by first | (simp [entryFrame, mkF, argsToLocals, Value.category]; done) | rfl
def Q14B (Z : State) (a0 : Addr) (d : Addr) (k : Int32) (mc : Int32) (h0 : Heap) (n0 : Nat) (v : Option Value) (h : Heap) (L : List Loc) : Prop := v = some (.int 1) ∧ Fr n0 L ∧ Keep h0 h [a0, d] ∧ Exa Z h a0 "java/util/ArrayList" ∧ (∃ mc : Int32, Fld Z h a0 "java/util/AbstractList" "modCount" "I" (.int mc)) ∧ Fld Z h a0 "java/util/ArrayList" "elementData" "[Ljava/lang/Object;" (.ref d) ∧ Fld Z h a0 "java/util/ArrayList" "size" "I" (.int (k + 1)) ∧ OwnR Z h d "java/lang/Object" (10 : Int32)
set_option maxRecDepth 65536 in
set_option maxHeartbeats 40000000 in
theorem rm14B (l : Launch) (Z : State) (aZ : Array Value) (hw : ∀ d ∈ tables_1, d.before aZ Z = true) (ws : List Jvm.Cond) (a0 : Addr) (d : Addr) (k : Int32) (mc : Int32) (h0 : Heap) (n0 : Nat) (Z0 : n0 ≤ h0.size) (ELx : Exa Z h0 a0 "java/util/ArrayList") (Lx1 : Fld Z h0 a0 "java/util/AbstractList" "modCount" "I" (.int mc)) (Lx2 : Fld Z h0 a0 "java/util/ArrayList" "elementData" "[Ljava/lang/Object;" (.ref d)) (Lx3 : Fld Z h0 a0 "java/util/ArrayList" "size" "I" (.int k)) (RDx : OwnR Z h0 d "java/lang/Object" (10 : Int32)) (x0 : a0 ≠ d) (g_a0 : n0 ≤ a0) (g_d : n0 ≤ d) (hk : 0 ≤ k.toInt ∧ k.toInt < 10) :
    MetFree l (⟨"java/util/ArrayList", "add", "(Ljava/lang/Object;)Z"⟩ : MethodName) (head1 (Jvm.Cond.code (⟨"java/util/ArrayList", "add", "(Ljava/lang/Object;)Z"⟩ : MethodName) jdk_38_method_25_code 2 (some .boolean) :: ws) ({ frames := 1, cells := 0, slots := 0, locals := 15 } : Room)) (fun a U => a = #[(.ref a0), .null] ∧ Z.Warmed39 U.vm ∧ U.heap = h0) (fun _ _ _ _ _ => True) (fun _ U o U' => ∃ v L, o = .returned v ∧ Q14B Z a0 d k mc h0 n0 v U'.heap L ∧ FrameEnd U o U' L 0 0) := by
  refine MetFree.of_bodySF (plainFor_of_name pn_3) hisR ?_
  intro p e s m args below meth c s₁ Bd hml0 hP hK
  obtain ⟨rfl, hZ, hh⟩ := hP
  have hx := Bd.exec
  have hby := Bd.bytes
  have hml : c.maxLocals = 2 := hml0
  have hown : s.vm.findClass "java/util/ArrayList" = some m.cls := findClass_of_methodNamed Bd.named
  have hnm := (name_of_methodNamed Bd.named Bd.method).1
  have hlk := BodyLoose.notSynchronized Bd
  have X0 : Stand p l e ({ frames := 1, cells := 0, slots := 0, locals := 15 } : Room) s m #[(.ref a0), .null] below meth c s₁ [] 0 0 := Stand.of_body Bd
  have e0 : s₁.heap = h0 := by rw [← hh, Bd.state]; rfl
  have N0 := Fr.nil n0
  have hk0 : 0 ≤ 0 := Nat.zero_le _
  have hn0 : 0 ≤ 0 := Nat.zero_le _
  show OwnEnds p e below (OwnQ s (Q14B Z a0 d k mc h0 n0) 0 0) (s₁.setTop (entryFrame m #[(.ref a0), .null] 2))
  refine .pre (fun t k => castTop (ef_14B m a0) k) ?_
  show OwnEnds p e below _ (s₁.setTop (mkF m 0 #[.val (.ref a0), .val .null] []))
  refine .pre (fun _ kq => XS.aloadN X0.here hx rfl (hb hby d14_0) rfl rfl kq) ?_
  show OwnEnds p e below _ (s₁.setTop (mkF m 1 #[.val (.ref a0), .val .null] [(.ref a0)]))
  refine .pre (fun _ kq => XS.dup X0.here hx rfl (hb hby d14_1) rfl rfl kq) ?_
  show OwnEnds p e below _ (s₁.setTop (mkF m 2 #[.val (.ref a0), .val .null] [(.ref a0), (.ref a0)]))
  obtain ⟨T1, X1, e1, st1⟩ := getF X0 hx hZ hown (host := "") (Or.inl (hw _ (List.mem_of_getElem? (i := 122) rfl))) (Via.of (hw _ (List.mem_of_getElem? (i := 123) rfl))) e0 Lx1 (g := (mkF m 2 #[.val (.ref a0), .val .null] [(.ref a0), (.ref a0)])) rfl rfl (hb hby d14_2)
  refine .pre (fun _ kq => st1 _ kq) ?_
  show OwnEnds p e below _ (T1.setTop (mkF m 5 #[.val (.ref a0), .val .null] [(.int mc), (.ref a0)]))
  refine .pre (fun _ kq => XS.iconst X1.here hx rfl (hb hby d14_5) kq) ?_
  show OwnEnds p e below _ (T1.setTop (mkF m 6 #[.val (.ref a0), .val .null] [(.int (1 : Int32)), (.int mc), (.ref a0)]))
  refine .pre (fun _ kq => XS.iadd X1.here hx rfl (hb hby d14_6) rfl kq) ?_
  show OwnEnds p e below _ (T1.setTop (mkF m 7 #[.val (.ref a0), .val .null] [(.int (mc + (1 : Int32))), (.ref a0)]))
  obtain ⟨T2, h2, X2, e2, W2, st2⟩ := putF X1 hx hZ hown (host := "") (Or.inl (hw _ (List.mem_of_getElem? (i := 122) rfl))) (Via.of (hw _ (List.mem_of_getElem? (i := 123) rfl))) e1 Lx1 ELx (Or.inl (hw _ (List.mem_of_getElem? (i := 29) rfl))) (hw _ (List.mem_of_getElem? (i := 8) rfl)) (ty := .int) (by decide) rfl rfl (g := (mkF m 7 #[.val (.ref a0), .val .null] [(.int (mc + (1 : Int32))), (.ref a0)])) rfl rfl (hb hby d14_7)
  have Fw2 := Lx1.same W2
  have N2 := Fr.snoc X2 N0 g_a0
  have Kp2 : Keep h0 h2 [a0, d] := (Keep.refl h0 [a0, d]).wr W2 (Or.inl (List.mem_of_getElem? (i := 0) rfl))
  refine .pre (fun _ kq => st2 _ kq) ?_
  show OwnEnds p e below _ (T2.setTop (mkF m 10 #[.val (.ref a0), .val .null] []))
  refine .pre (fun _ kq => XS.aloadN X2.here hx rfl (hb hby d14_10) rfl rfl kq) ?_
  show OwnEnds p e below _ (T2.setTop (mkF m 11 #[.val (.ref a0), .val .null] [(.ref a0)]))
  refine .pre (fun _ kq => XS.aloadN X2.here hx rfl (hb hby d14_11) rfl rfl kq) ?_
  show OwnEnds p e below _ (T2.setTop (mkF m 12 #[.val (.ref a0), .val .null] [.null, (.ref a0)]))
  refine .pre (fun _ kq => XS.aloadN X2.here hx rfl (hb hby d14_12) rfl rfl kq) ?_
  show OwnEnds p e below _ (T2.setTop (mkF m 13 #[.val (.ref a0), .val .null] [(.ref a0), .null, (.ref a0)]))
  obtain ⟨T3, X3, e3, st3⟩ := getF X2 hx hZ hown (host := "") (Or.inl (hw _ (List.mem_of_getElem? (i := 31) rfl))) Via.refl e2 (Lx2.other W2 (Or.inr (slot_ne (Or.inl (hw _ (List.mem_of_getElem? (i := 32) rfl))) (Or.inl (hw _ (List.mem_of_getElem? (i := 29) rfl))) (by decide) (t := (.array (.object "java/lang/Object"))) (t' := .int) (by decide) (by decide)))) (g := (mkF m 13 #[.val (.ref a0), .val .null] [(.ref a0), .null, (.ref a0)])) rfl rfl (hb hby d14_13)
  refine .pre (fun _ kq => st3 _ kq) ?_
  show OwnEnds p e below _ (T3.setTop (mkF m 16 #[.val (.ref a0), .val .null] [(.ref d), .null, (.ref a0)]))
  refine .pre (fun _ kq => XS.aloadN X3.here hx rfl (hb hby d14_16) rfl rfl kq) ?_
  show OwnEnds p e below _ (T3.setTop (mkF m 17 #[.val (.ref a0), .val .null] [(.ref a0), (.ref d), .null, (.ref a0)]))
  obtain ⟨T4, X4, e4, st4⟩ := getF X3 hx hZ hown (host := "") (Or.inl (hw _ (List.mem_of_getElem? (i := 107) rfl))) Via.refl e3 (Lx3.other W2 (Or.inr (slot_ne (Or.inl (hw _ (List.mem_of_getElem? (i := 108) rfl))) (Or.inl (hw _ (List.mem_of_getElem? (i := 29) rfl))) (by decide) (t := .int) (t' := .int) (by decide) (by decide)))) (g := (mkF m 17 #[.val (.ref a0), .val .null] [(.ref a0), (.ref d), .null, (.ref a0)])) rfl rfl (hb hby d14_17)
  refine .pre (fun _ kq => st4 _ kq) ?_
  show OwnEnds p e below _ (T4.setTop (mkF m 20 #[.val (.ref a0), .val .null] [(.int k), (.ref d), .null, (.ref a0)]))
  obtain ⟨cq5, q5, q5'⟩ := (ELx.wr W2).cell
  obtain ⟨_, _, ⟨T5, L5, k5, n5⟩, -, X5, ⟨Lc5, hQ5, l5, y5, z5⟩, st5⟩ := X4.privateBack hx (y := (⟨"java/util/ArrayList", "add", "(Ljava/lang/Object;[Ljava/lang/Object;I)V"⟩ : MethodName)) hown (mvT hZ (hw _ (List.mem_of_getElem? (i := 124) rfl))) (mvT hZ (hw _ (List.mem_of_getElem? (i := 125) rfl))) (mvT hZ (hw _ (List.mem_of_getElem? (i := 127) rfl))) (Cond.privateMethod_at (mvP hZ (hw _ (List.mem_of_getElem? (i := 126) rfl)) (args := #[]))) (mvT hZ (hw _ (List.mem_of_getElem? (i := 128) rfl))) (by decide) (backOf (W := 0) (rm15B l Z aZ hw [] a0 d k (mc + (1 : Int32)) h2 n0 (Nat.le_trans Z0 (Keep.of_wr W2).1) (ELx.wr W2) Fw2 (Lx2.other W2 (Or.inr (slot_ne (Or.inl (hw _ (List.mem_of_getElem? (i := 32) rfl))) (Or.inl (hw _ (List.mem_of_getElem? (i := 29) rfl))) (by decide) (t := (.array (.object "java/lang/Object"))) (t' := .int) (by decide) (by decide)))) (Lx3.other W2 (Or.inr (slot_ne (Or.inl (hw _ (List.mem_of_getElem? (i := 108) rfl))) (Or.inl (hw _ (List.mem_of_getElem? (i := 29) rfl))) (by decide) (t := .int) (t' := .int) (by decide) (by decide)))) (RDx.other W2 (Ne.symm x0)) x0 g_a0 g_d hk) hZ (hw _ (List.mem_of_getElem? (i := 128) rfl)) (hw _ (List.mem_of_getElem? (i := 9) rfl)) (by decide) (by decide)) (g := (mkF m 20 #[.val (.ref a0), .val .null] [(.int k), (.ref d), .null, (.ref a0)])) rfl (by rw [hml]; rfl) (Steps.refl _) (a := a0) (by rw [e4]; exact q5) q5' (argsL := [.null, (.ref d), (.int k)]) (rest := []) (lenOf pd_11 rfl) rfl (by show 2 * 0 + _ ≤ _; exact Nat.le_of_eq rfl) (hb hby d14_20) (fun _ _ => ⟨rfl, e4, (by decide : 0 + 0 ≤ _), (by decide : 0 + 0 ≤ _)⟩)
  dsimp only [Pt.U, Pt.locs, Pt.cells, Pt.slots] at X5 l5 y5 z5 st5 hQ5
  try dsimp only [Nat.reduceAdd] at y5 z5
  subst y5 z5
  obtain ⟨rfl, N5q, K5, Lq5_0, ⟨mcq5, Lq5_1⟩, Lq5_2, Lq5_3, Lq5_4⟩ := hQ5
  have N5 : Fr n0 L5 := by rw [l5]; exact Fr.app N2 N5q
  refine .pre (fun _ kq => st5.trans kq) ?_
  have Kp5 : Keep h0 T5.heap [a0, d] := Kp2.trans K5 (allS (Or.inl (List.mem_of_getElem? (i := 0) rfl)) (allS (Or.inl (List.mem_of_getElem? (i := 1) rfl)) all0))
  show OwnEnds p e below _ (T5.setTop (mkF m 23 #[.val (.ref a0), .val .null] []))
  refine .pre (fun _ kq => XS.iconst X5.here hx rfl (hb hby d14_23) kq) ?_
  show OwnEnds p e below _ (T5.setTop (mkF m 24 #[.val (.ref a0), .val .null] [(.int (1 : Int32))]))
  exact own_endN X5 hx hlk (t := .boolean) Bd.returns (by simp) (hb hby d14_24) rfl (by decide) (by decide) ⟨rfl, N5, Kp5, Lq5_0, ⟨_, Lq5_1⟩, Lq5_2, Lq5_3, Lq5_4⟩
theorem d10_0 : decode prog_39_method_3_code 0 = .ok (.aload_n 1, 1) := by decide +kernel
theorem d10_1 : decode prog_39_method_3_code 1 = .ok (.invokevirtual 65, 3) := by decide +kernel
theorem d10_4 : decode prog_39_method_3_code 4 = .ok (.ifCond .ge 7, 3) := by decide +kernel
theorem d10_7 : decode prog_39_method_3_code 7 = .ok (.iconst 1, 1) := by decide +kernel
theorem d10_8 : decode prog_39_method_3_code 8 = .ok (.goto 4, 3) := by decide +kernel
theorem d10_11 : decode prog_39_method_3_code 11 = .ok (.iconst 0, 1) := by decide +kernel
theorem d10_12 : decode prog_39_method_3_code 12 = .ok (.istore 4, 2) := by decide +kernel
theorem d10_14 : decode prog_39_method_3_code 14 = .ok (.iload 4, 2) := by decide +kernel
theorem d10_16 : decode prog_39_method_3_code 16 = .ok (.ifCond .eq 155, 3) := by decide +kernel
theorem d10_19 : decode prog_39_method_3_code 19 = .ok (.aload_n 0, 1) := by decide +kernel
theorem d10_20 : decode prog_39_method_3_code 20 = .ok (.getfield 19, 3) := by decide +kernel
theorem d10_23 : decode prog_39_method_3_code 23 = .ok (.invokeinterface 69 1, 5) := by decide +kernel
theorem d10_28 : decode prog_39_method_3_code 28 = .ok (.istore 5, 2) := by decide +kernel
theorem d10_30 : decode prog_39_method_3_code 30 = .ok (.iload 5, 2) := by decide +kernel
theorem d10_32 : decode prog_39_method_3_code 32 = .ok (.aload_n 0, 1) := by decide +kernel
theorem d10_33 : decode prog_39_method_3_code 33 = .ok (.getfield 23, 3) := by decide +kernel
theorem d10_36 : decode prog_39_method_3_code 36 = .ok (.arraylength, 1) := by decide +kernel
theorem d10_37 : decode prog_39_method_3_code 37 = .ok (.if_icmp .ne 33, 3) := by decide +kernel
theorem d10_40 : decode prog_39_method_3_code 40 = .ok (.aload_n 0, 1) := by decide +kernel
theorem d10_41 : decode prog_39_method_3_code 41 = .ok (.aload_n 0, 1) := by decide +kernel
theorem d10_42 : decode prog_39_method_3_code 42 = .ok (.getfield 23, 3) := by decide +kernel
theorem d10_45 : decode prog_39_method_3_code 45 = .ok (.iconst 2, 1) := by decide +kernel
theorem d10_46 : decode prog_39_method_3_code 46 = .ok (.iload 5, 2) := by decide +kernel
theorem d10_48 : decode prog_39_method_3_code 48 = .ok (.imul, 1) := by decide +kernel
theorem d10_49 : decode prog_39_method_3_code 49 = .ok (.invokestatic 74, 3) := by decide +kernel
theorem d10_52 : decode prog_39_method_3_code 52 = .ok (.putfield 23, 3) := by decide +kernel
theorem d10_55 : decode prog_39_method_3_code 55 = .ok (.aload_n 0, 1) := by decide +kernel
theorem d10_56 : decode prog_39_method_3_code 56 = .ok (.aload_n 0, 1) := by decide +kernel
theorem d10_57 : decode prog_39_method_3_code 57 = .ok (.getfield 27, 3) := by decide +kernel
theorem d10_60 : decode prog_39_method_3_code 60 = .ok (.iconst 2, 1) := by decide +kernel
theorem d10_61 : decode prog_39_method_3_code 61 = .ok (.iload 5, 2) := by decide +kernel
theorem d10_63 : decode prog_39_method_3_code 63 = .ok (.imul, 1) := by decide +kernel
theorem d10_64 : decode prog_39_method_3_code 64 = .ok (.invokestatic 74, 3) := by decide +kernel
theorem d10_67 : decode prog_39_method_3_code 67 = .ok (.putfield 27, 3) := by decide +kernel
theorem d10_70 : decode prog_39_method_3_code 70 = .ok (.aload_n 0, 1) := by decide +kernel
theorem d10_71 : decode prog_39_method_3_code 71 = .ok (.getfield 37, 3) := by decide +kernel
theorem d10_74 : decode prog_39_method_3_code 74 = .ok (.ifCond .eq 43, 3) := by decide +kernel
theorem d10_77 : decode prog_39_method_3_code 77 = .ok (.iload 5, 2) := by decide +kernel
theorem d10_79 : decode prog_39_method_3_code 79 = .ok (.aload_n 0, 1) := by decide +kernel
theorem d10_80 : decode prog_39_method_3_code 80 = .ok (.getfield 41, 3) := by decide +kernel
theorem d10_83 : decode prog_39_method_3_code 83 = .ok (.arraylength, 1) := by decide +kernel
theorem d10_84 : decode prog_39_method_3_code 84 = .ok (.if_icmp .ne 33, 3) := by decide +kernel
theorem d10_87 : decode prog_39_method_3_code 87 = .ok (.aload_n 0, 1) := by decide +kernel
theorem d10_88 : decode prog_39_method_3_code 88 = .ok (.aload_n 0, 1) := by decide +kernel
theorem d10_89 : decode prog_39_method_3_code 89 = .ok (.getfield 41, 3) := by decide +kernel
theorem d10_92 : decode prog_39_method_3_code 92 = .ok (.iconst 2, 1) := by decide +kernel
theorem d10_93 : decode prog_39_method_3_code 93 = .ok (.iload 5, 2) := by decide +kernel
theorem d10_95 : decode prog_39_method_3_code 95 = .ok (.imul, 1) := by decide +kernel
theorem d10_96 : decode prog_39_method_3_code 96 = .ok (.invokestatic 74, 3) := by decide +kernel
theorem d10_99 : decode prog_39_method_3_code 99 = .ok (.putfield 41, 3) := by decide +kernel
theorem d10_102 : decode prog_39_method_3_code 102 = .ok (.aload_n 0, 1) := by decide +kernel
theorem d10_103 : decode prog_39_method_3_code 103 = .ok (.aload_n 0, 1) := by decide +kernel
theorem d10_104 : decode prog_39_method_3_code 104 = .ok (.getfield 44, 3) := by decide +kernel
theorem d10_107 : decode prog_39_method_3_code 107 = .ok (.iconst 2, 1) := by decide +kernel
theorem d10_108 : decode prog_39_method_3_code 108 = .ok (.iload 5, 2) := by decide +kernel
theorem d10_110 : decode prog_39_method_3_code 110 = .ok (.imul, 1) := by decide +kernel
theorem d10_111 : decode prog_39_method_3_code 111 = .ok (.invokestatic 74, 3) := by decide +kernel
theorem d10_114 : decode prog_39_method_3_code 114 = .ok (.putfield 44, 3) := by decide +kernel
theorem d10_117 : decode prog_39_method_3_code 117 = .ok (.aload_n 0, 1) := by decide +kernel
theorem d10_118 : decode prog_39_method_3_code 118 = .ok (.getfield 19, 3) := by decide +kernel
theorem d10_121 : decode prog_39_method_3_code 121 = .ok (.aload_n 1, 1) := by decide +kernel
theorem d10_122 : decode prog_39_method_3_code 122 = .ok (.invokevirtual 53, 3) := by decide +kernel
theorem d10_125 : decode prog_39_method_3_code 125 = .ok (.invokeinterface 80 2, 5) := by decide +kernel
theorem d10_130 : decode prog_39_method_3_code 130 = .ok (.pop, 1) := by decide +kernel
theorem d10_131 : decode prog_39_method_3_code 131 = .ok (.aload_n 0, 1) := by decide +kernel
theorem d10_132 : decode prog_39_method_3_code 132 = .ok (.getfield 23, 3) := by decide +kernel
theorem d10_135 : decode prog_39_method_3_code 135 = .ok (.iload 5, 2) := by decide +kernel
theorem d10_137 : decode prog_39_method_3_code 137 = .ok (.iload_n 2, 1) := by decide +kernel
theorem d10_138 : decode prog_39_method_3_code 138 = .ok (.iastore, 1) := by decide +kernel
theorem d10_139 : decode prog_39_method_3_code 139 = .ok (.aload_n 0, 1) := by decide +kernel
theorem d10_140 : decode prog_39_method_3_code 140 = .ok (.getfield 27, 3) := by decide +kernel
theorem d10_143 : decode prog_39_method_3_code 143 = .ok (.iload 5, 2) := by decide +kernel
theorem d10_145 : decode prog_39_method_3_code 145 = .ok (.iload_n 3, 1) := by decide +kernel
theorem d10_146 : decode prog_39_method_3_code 146 = .ok (.iastore, 1) := by decide +kernel
theorem d10_147 : decode prog_39_method_3_code 147 = .ok (.aload_n 0, 1) := by decide +kernel
theorem d10_148 : decode prog_39_method_3_code 148 = .ok (.dup, 1) := by decide +kernel
theorem d10_149 : decode prog_39_method_3_code 149 = .ok (.getfield 84, 3) := by decide +kernel
theorem d10_152 : decode prog_39_method_3_code 152 = .ok (.iload_n 2, 1) := by decide +kernel
theorem d10_153 : decode prog_39_method_3_code 153 = .ok (.ifCond .ge 7, 3) := by decide +kernel
theorem d10_156 : decode prog_39_method_3_code 156 = .ok (.iconst 1, 1) := by decide +kernel
theorem d10_157 : decode prog_39_method_3_code 157 = .ok (.goto 4, 3) := by decide +kernel
theorem d10_160 : decode prog_39_method_3_code 160 = .ok (.iconst 0, 1) := by decide +kernel
theorem d10_161 : decode prog_39_method_3_code 161 = .ok (.iadd, 1) := by decide +kernel
theorem d10_162 : decode prog_39_method_3_code 162 = .ok (.putfield 84, 3) := by decide +kernel
theorem d10_165 : decode prog_39_method_3_code 165 = .ok (.aload_n 1, 1) := by decide +kernel
theorem d10_166 : decode prog_39_method_3_code 166 = .ok (.iload 5, 2) := by decide +kernel
theorem d10_168 : decode prog_39_method_3_code 168 = .ok (.invokevirtual 87, 3) := by decide +kernel
theorem d10_171 : decode prog_39_method_3_code 171 = .ok (.aload_n 0, 1) := by decide +kernel
theorem d10_172 : decode prog_39_method_3_code 172 = .ok (.getfield 37, 3) := by decide +kernel
theorem d10_175 : decode prog_39_method_3_code 175 = .ok (.ifCond .eq 17, 3) := by decide +kernel
theorem d10_178 : decode prog_39_method_3_code 178 = .ok (.iload_n 2, 1) := by decide +kernel
theorem d10_179 : decode prog_39_method_3_code 179 = .ok (.ifCond .lt 13, 3) := by decide +kernel
theorem d10_182 : decode prog_39_method_3_code 182 = .ok (.aload_n 0, 1) := by decide +kernel
theorem d10_183 : decode prog_39_method_3_code 183 = .ok (.iload_n 2, 1) := by decide +kernel
theorem d10_184 : decode prog_39_method_3_code 184 = .ok (.aload_n 1, 1) := by decide +kernel
theorem d10_185 : decode prog_39_method_3_code 185 = .ok (.invokevirtual 65, 3) := by decide +kernel
theorem d10_188 : decode prog_39_method_3_code 188 = .ok (.iload_n 3, 1) := by decide +kernel
theorem d10_189 : decode prog_39_method_3_code 189 = .ok (.invokevirtual 90, 3) := by decide +kernel
theorem d10_192 : decode prog_39_method_3_code 192 = .ok (.iload 4, 2) := by decide +kernel
theorem d10_194 : decode prog_39_method_3_code 194 = .ok (.ireturn, 1) := by decide +kernel
theorem ef_10A (m : MethodId) (a0 : Addr) (a1 : Addr) : entryFrame m #[(.ref a0), (.ref a1), (.int (-1 : Int32)), (.int (-1 : Int32))] 6 = mkF m 0 #[.val (.ref a0), .val (.ref a1), .val (.int (-1 : Int32)), .val (.int (-1 : Int32)), .unset, .unset] [] := by first | (simp [entryFrame, mkF, argsToLocals, Value.category]; done) | rfl
theorem pd_12 : parseMethodDescriptor "()I" = some ⟨[], some .int⟩ := by decide +kernel
theorem pd_13 : parseMethodDescriptor "()Lcom/example/changeset/changeset/check/State;" = some ⟨[], some (.object "com/example/changeset/changeset/check/State")⟩ := by decide +kernel
theorem pd_14 : parseMethodDescriptor "(Ljava/lang/Object;)Z" = some ⟨[(.object "java/lang/Object")], some .boolean⟩ := by decide +kernel
theorem pd_15 : parseMethodDescriptor "(I)V" = some ⟨[.int], none⟩ := by decide +kernel
def Q10A (Z : State) (a0 : Addr) (a1 : Addr) (aL : Addr) (aP : Addr) (aR : Addr) (aF : Addr) (aE : Addr) (aT : Addr) (aA : Addr) (wl : Int32) (ed : Int32) (ini : Int32) (FF : Nat → Int32) (EE : Nat → Int32) (xD : Addr) (h0 : Heap) (n0 : Nat) (v : Option Value) (h : Heap) (L : List Loc) : Prop := ∃ d : Addr, v = some (.int 1) ∧ Fr n0 L ∧ Keep h0 h [a0, aL, aP, aR, a1] ∧ h0.size ≤ d ∧ OwnG Z h a0 aL aP aR aF aE aT aA wl ed (ini + 1) FF EE ∧ OwnL Z h aL d (1 : Int32) (10 : Int32) ∧ Exa Z h a1 "com/example/changeset/changeset/check/FoundState" ∧ Fld Z h a1 "com/example/changeset/changeset/check/FoundState" "number" "I" (.int (0 : Int32)) ∧ Fld Z h a1 "com/example/changeset/changeset/check/FoundState" "state" "Lcom/example/changeset/changeset/check/State;" .null
set_option maxRecDepth 65536 in
set_option maxHeartbeats 40000000 in
theorem rm10A (l : Launch) (Z : State) (aZ : Array Value) (hw : ∀ d ∈ tables_1, d.before aZ Z = true) (ws : List Jvm.Cond) (a0 : Addr) (a1 : Addr) (aL : Addr) (aP : Addr) (aR : Addr) (aF : Addr) (aE : Addr) (aT : Addr) (aA : Addr) (wl : Int32) (ed : Int32) (ini : Int32) (FF : Nat → Int32) (EE : Nat → Int32) (xD : Addr) (h0 : Heap) (n0 : Nat) (Z0 : n0 ≤ h0.size) (SD : Sta Z h0 "java/util/ArrayList" "DEFAULTCAPACITY_EMPTY_ELEMENTDATA" "[Ljava/lang/Object;" (.ref xD)) (HG : OwnG Z h0 a0 aL aP aR aF aE aT aA wl ed ini FF EE) (HL : OwnL Z h0 aL xD 0 0) (fsE : Exa Z h0 a1 "com/example/changeset/changeset/check/FoundState") (fsN : Fld Z h0 a1 "com/example/changeset/changeset/check/FoundState" "number" "I" (.int (-1 : Int32))) (fsS : Fld Z h0 a1 "com/example/changeset/changeset/check/FoundState" "state" "Lcom/example/changeset/changeset/check/State;" .null) (D : [a0, aL, aP, aR, aF, aE, aT, aA, a1, xD].Pairwise (· ≠ ·)) (GN : ∀ x ∈ [a0, aL, aP, aR, aF, aE, aT, aA, a1], n0 ≤ x) :
    MetFree l (⟨"com/example/changeset/changeset/check/StateGraph", "add", "(Lcom/example/changeset/changeset/check/FoundState;II)Z"⟩ : MethodName) (head1 (Jvm.Cond.code (⟨"com/example/changeset/changeset/check/StateGraph", "add", "(Lcom/example/changeset/changeset/check/FoundState;II)Z"⟩ : MethodName) prog_39_method_3_code 6 (some .boolean) :: ws) ({ frames := 5, cells := 1, slots := 10, locals := 75 } : Room)) (fun a U => a = #[(.ref a0), (.ref a1), (.int (-1 : Int32)), (.int (-1 : Int32))] ∧ Z.Warmed39 U.vm ∧ U.heap = h0) (fun _ _ _ _ _ => True) (fun _ U o U' => ∃ v L, o = .returned v ∧ Q10A Z a0 a1 aL aP aR aF aE aT aA wl ed ini FF EE xD h0 n0 v U'.heap L ∧ FrameEnd U o U' L 1 10) := by
  refine MetFree.of_bodySF (plainFor_of_name pn_6) hisR ?_
  intro p e s m args below meth c s₁ Bd hml0 hP hK
  obtain ⟨rfl, hZ, hh⟩ := hP
  have hx := Bd.exec
  have hby := Bd.bytes
  have hml : c.maxLocals = 6 := hml0
  have hown : s.vm.findClass "com/example/changeset/changeset/check/StateGraph" = some m.cls := findClass_of_methodNamed Bd.named
  have hnm := (name_of_methodNamed Bd.named Bd.method).1
  have hlk := BodyLoose.notSynchronized Bd
  have X0 : Stand p l e ({ frames := 5, cells := 1, slots := 10, locals := 75 } : Room) s m #[(.ref a0), (.ref a1), (.int (-1 : Int32)), (.int (-1 : Int32))] below meth c s₁ [] 0 0 := Stand.of_body Bd
  have e0 : s₁.heap = h0 := by rw [← hh, Bd.state]; rfl
  have N0 := Fr.nil n0
  have hk0 : 0 ≤ 1 := Nat.zero_le _
  have hn0 : 0 ≤ 10 := Nat.zero_le _
  show OwnEnds p e below (OwnQ s (Q10A Z a0 a1 aL aP aR aF aE aT aA wl ed ini FF EE xD h0 n0) 1 10) (s₁.setTop (entryFrame m #[(.ref a0), (.ref a1), (.int (-1 : Int32)), (.int (-1 : Int32))] 6))
  refine .pre (fun t k => castTop (ef_10A m a0 a1) k) ?_
  obtain ⟨EG, G0, G1, G2, G3, G4, G5, G6, G7, G8, G9, G10, ⟨fP, AP⟩, ⟨fR, AR⟩, AF, AE, ⟨fT, AT⟩, ⟨fA, AA⟩⟩ := id HG
  obtain ⟨ELx, ⟨mc, Lx1⟩, Lx2, Lx3, RDx⟩ := HL
  have g_a0 : n0 ≤ a0 := GN _ (List.mem_of_getElem? (i := 0) rfl)
  have g_aL : n0 ≤ aL := GN _ (List.mem_of_getElem? (i := 1) rfl)
  have g_aP : n0 ≤ aP := GN _ (List.mem_of_getElem? (i := 2) rfl)
  have g_aR : n0 ≤ aR := GN _ (List.mem_of_getElem? (i := 3) rfl)
  have g_aF : n0 ≤ aF := GN _ (List.mem_of_getElem? (i := 4) rfl)
  have g_aE : n0 ≤ aE := GN _ (List.mem_of_getElem? (i := 5) rfl)
  have g_aT : n0 ≤ aT := GN _ (List.mem_of_getElem? (i := 6) rfl)
  have g_aA : n0 ≤ aA := GN _ (List.mem_of_getElem? (i := 7) rfl)
  have g_a1 : n0 ≤ a1 := GN _ (List.mem_of_getElem? (i := 8) rfl)
  show OwnEnds p e below _ (s₁.setTop (mkF m 0 #[.val (.ref a0), .val (.ref a1), .val (.int (-1 : Int32)), .val (.int (-1 : Int32)), .unset, .unset] []))
  refine .pre (fun _ kq => XS.aloadN X0.here hx rfl (hb hby d10_0) rfl rfl kq) ?_
  show OwnEnds p e below _ (s₁.setTop (mkF m 1 #[.val (.ref a0), .val (.ref a1), .val (.int (-1 : Int32)), .val (.int (-1 : Int32)), .unset, .unset] [(.ref a1)]))
  obtain ⟨cq1, kq1, q1a, q1b, q1c⟩ := isOf hZ e0 fsE
  obtain ⟨_, _, ⟨T1, L1, k1, n1⟩, -, X1, ⟨Lc1, hQ1, l1, y1, z1⟩, st1⟩ := X0.virtualBack hx (y := (⟨"com/example/changeset/changeset/check/FoundState", "number", "()I"⟩ : MethodName)) (z := (⟨"com/example/changeset/changeset/check/FoundState", "number", "()I"⟩ : MethodName)) hown (mvT hZ (hw _ (List.mem_of_getElem? (i := 93) rfl))) (mvT hZ (hw _ (List.mem_of_getElem? (i := 94) rfl))) (notFace_of_selects (args := #[]) (mvT hZ (hw _ (List.mem_of_getElem? (i := 96) rfl)))) (mvT hZ (hw _ (List.mem_of_getElem? (i := 96) rfl))) (mvT hZ (hw _ (List.mem_of_getElem? (i := 95) rfl))) (by decide) (backOf (W := 0) (rm11 l Z aZ hw [] a1 (-1 : Int32) h0 n0 Z0 fsN) hZ (hw _ (List.mem_of_getElem? (i := 97) rfl)) (hw _ (List.mem_of_getElem? (i := 78) rfl)) (by decide) (by decide)) q1a q1c (g := (mkF m 1 #[.val (.ref a0), .val (.ref a1), .val (.int (-1 : Int32)), .val (.int (-1 : Int32)), .unset, .unset] [(.ref a1)])) rfl (by rw [hml]; rfl) (Steps.refl _) (argsL := []) (rest := []) (lenOf pd_12 rfl) rfl (by show 2 * 0 + _ ≤ _; exact Nat.le_of_eq rfl) (hb hby d10_1) (fun _ _ => ⟨rfl, e0, (by decide : 0 + 0 ≤ _), (by decide : 0 + 0 ≤ _)⟩)
  dsimp only [Pt.U, Pt.locs, Pt.cells, Pt.slots] at X1 l1 y1 z1 st1 hQ1
  try dsimp only [Nat.reduceAdd] at y1 z1
  subst y1 z1
  obtain ⟨rfl, N1q, e1⟩ := hQ1
  have N1 : Fr n0 L1 := by rw [l1]; exact Fr.app N0 N1q
  refine .pre (fun _ kq => st1.trans kq) ?_
  show OwnEnds p e below _ (T1.setTop (mkF m 4 #[.val (.ref a0), .val (.ref a1), .val (.int (-1 : Int32)), .val (.int (-1 : Int32)), .unset, .unset] [(.int (-1 : Int32))]))
  have hc4 : ((-1 : Int32) < (0 : Int32)) := by decide
  refine .pre (fun _ kq => XS.ifNo X1.here hx rfl (hb hby d10_4) rfl ((if0 _ _).trans (tlt hc4).2.1) kq) ?_
  show OwnEnds p e below _ (T1.setTop (mkF m 7 #[.val (.ref a0), .val (.ref a1), .val (.int (-1 : Int32)), .val (.int (-1 : Int32)), .unset, .unset] []))
  refine .pre (fun _ kq => XS.iconst X1.here hx rfl (hb hby d10_7) kq) ?_
  show OwnEnds p e below _ (T1.setTop (mkF m 8 #[.val (.ref a0), .val (.ref a1), .val (.int (-1 : Int32)), .val (.int (-1 : Int32)), .unset, .unset] [(.int (1 : Int32))]))
  refine .pre (fun _ kq => XS.goto X1.here hx rfl (pc0 := 8) (pc' := 12) rfl (hb hby d10_8) (by decide) (by decide) kq) ?_
  show OwnEnds p e below _ (T1.setTop (mkF m 12 #[.val (.ref a0), .val (.ref a1), .val (.int (-1 : Int32)), .val (.int (-1 : Int32)), .unset, .unset] [(.int (1 : Int32))]))
  refine .pre (fun _ kq => XS.istore X1.here hx rfl (hb hby d10_12) rfl (l' := #[.val (.ref a0), .val (.ref a1), .val (.int (-1 : Int32)), .val (.int (-1 : Int32)), .val (.int (1 : Int32)), .unset]) rfl kq) ?_
  show OwnEnds p e below _ (T1.setTop (mkF m 14 #[.val (.ref a0), .val (.ref a1), .val (.int (-1 : Int32)), .val (.int (-1 : Int32)), .val (.int (1 : Int32)), .unset] []))
  refine .pre (fun _ kq => XS.iload X1.here hx rfl (hb hby d10_14) rfl kq) ?_
  show OwnEnds p e below _ (T1.setTop (mkF m 16 #[.val (.ref a0), .val (.ref a1), .val (.int (-1 : Int32)), .val (.int (-1 : Int32)), .val (.int (1 : Int32)), .unset] [(.int (1 : Int32))]))
  have hc16 : ¬ ((1 : Int32) = (0 : Int32)) := by decide
  refine .pre (fun _ kq => XS.ifNo X1.here hx rfl (hb hby d10_16) rfl ((if0 _ _).trans (feq hc16).1) kq) ?_
  show OwnEnds p e below _ (T1.setTop (mkF m 19 #[.val (.ref a0), .val (.ref a1), .val (.int (-1 : Int32)), .val (.int (-1 : Int32)), .val (.int (1 : Int32)), .unset] []))
  refine .pre (fun _ kq => XS.aloadN X1.here hx rfl (hb hby d10_19) rfl rfl kq) ?_
  show OwnEnds p e below _ (T1.setTop (mkF m 20 #[.val (.ref a0), .val (.ref a1), .val (.int (-1 : Int32)), .val (.int (-1 : Int32)), .val (.int (1 : Int32)), .unset] [(.ref a0)]))
  obtain ⟨T2, X2, e2, st2⟩ := getF X1 hx hZ hown (host := "") (Or.inl (hw _ (List.mem_of_getElem? (i := 54) rfl))) Via.refl e1 G0 (g := (mkF m 20 #[.val (.ref a0), .val (.ref a1), .val (.int (-1 : Int32)), .val (.int (-1 : Int32)), .val (.int (1 : Int32)), .unset] [(.ref a0)])) rfl rfl (hb hby d10_20)
  refine .pre (fun _ kq => st2 _ kq) ?_
  show OwnEnds p e below _ (T2.setTop (mkF m 23 #[.val (.ref a0), .val (.ref a1), .val (.int (-1 : Int32)), .val (.int (-1 : Int32)), .val (.int (1 : Int32)), .unset] [(.ref aL)]))
  obtain ⟨cq3, kq3, q3a, q3b, q3c⟩ := isOf hZ e2 ELx
  obtain ⟨_, _, ⟨T3, L3, k3, n3⟩, -, X3, ⟨Lc3, hQ3, l3, y3, z3⟩, st3⟩ := X2.interfaceBack hx (xi := (⟨"java/util/List", "size", "()I"⟩ : MethodName)) (y := (⟨"java/util/ArrayList", "size", "()I"⟩ : MethodName)) hown (mvT hZ (hw _ (List.mem_of_getElem? (i := 98) rfl))) (mvT hZ (hw _ (List.mem_of_getElem? (i := 99) rfl))) (mvT hZ (hw _ (List.mem_of_getElem? (i := 100) rfl))) (mvT hZ (hw _ (List.mem_of_getElem? (i := 101) rfl))) (mvT hZ (hw _ (List.mem_of_getElem? (i := 102) rfl))) (mvT hZ (hw _ (List.mem_of_getElem? (i := 103) rfl))) (mvT hZ (hw _ (List.mem_of_getElem? (i := 104) rfl))) (mvT hZ (hw _ (List.mem_of_getElem? (i := 105) rfl))) (by decide) (backOf (W := 0) (rm12 l Z aZ hw [] aL (0 : Int32) h0 n0 Z0 Lx3) hZ (hw _ (List.mem_of_getElem? (i := 106) rfl)) (hw _ (List.mem_of_getElem? (i := 9) rfl)) (by decide) (by decide)) q3a q3b q3c (g := (mkF m 23 #[.val (.ref a0), .val (.ref a1), .val (.int (-1 : Int32)), .val (.int (-1 : Int32)), .val (.int (1 : Int32)), .unset] [(.ref aL)])) rfl (by rw [hml]; rfl) (Steps.refl _) (argsL := []) (rest := []) (lenOf pd_12 rfl) rfl (by show 2 * 0 + _ ≤ _; exact Nat.le_of_eq rfl) (hb hby d10_23) (fun _ _ => ⟨rfl, e2, (by decide : 0 + 0 ≤ _), (by decide : 0 + 0 ≤ _)⟩)
  dsimp only [Pt.U, Pt.locs, Pt.cells, Pt.slots] at X3 l3 y3 z3 st3 hQ3
  try dsimp only [Nat.reduceAdd] at y3 z3
  subst y3 z3
  obtain ⟨rfl, N3q, e3⟩ := hQ3
  have N3 : Fr n0 L3 := by rw [l3]; exact Fr.app N1 N3q
  refine .pre (fun _ kq => st3.trans kq) ?_
  show OwnEnds p e below _ (T3.setTop (mkF m 28 #[.val (.ref a0), .val (.ref a1), .val (.int (-1 : Int32)), .val (.int (-1 : Int32)), .val (.int (1 : Int32)), .unset] [(.int (0 : Int32))]))
  refine .pre (fun _ kq => XS.istore X3.here hx rfl (hb hby d10_28) rfl (l' := #[.val (.ref a0), .val (.ref a1), .val (.int (-1 : Int32)), .val (.int (-1 : Int32)), .val (.int (1 : Int32)), .val (.int (0 : Int32))]) rfl kq) ?_
  show OwnEnds p e below _ (T3.setTop (mkF m 30 #[.val (.ref a0), .val (.ref a1), .val (.int (-1 : Int32)), .val (.int (-1 : Int32)), .val (.int (1 : Int32)), .val (.int (0 : Int32))] []))
  refine .pre (fun _ kq => XS.iload X3.here hx rfl (hb hby d10_30) rfl kq) ?_
  show OwnEnds p e below _ (T3.setTop (mkF m 32 #[.val (.ref a0), .val (.ref a1), .val (.int (-1 : Int32)), .val (.int (-1 : Int32)), .val (.int (1 : Int32)), .val (.int (0 : Int32))] [(.int (0 : Int32))]))
  refine .pre (fun _ kq => XS.aloadN X3.here hx rfl (hb hby d10_32) rfl rfl kq) ?_
  show OwnEnds p e below _ (T3.setTop (mkF m 33 #[.val (.ref a0), .val (.ref a1), .val (.int (-1 : Int32)), .val (.int (-1 : Int32)), .val (.int (1 : Int32)), .val (.int (0 : Int32))] [(.ref a0), (.int (0 : Int32))]))
  obtain ⟨T4, X4, e4, st4⟩ := getF X3 hx hZ hown (host := "") (Or.inl (hw _ (List.mem_of_getElem? (i := 57) rfl))) Via.refl e3 G1 (g := (mkF m 33 #[.val (.ref a0), .val (.ref a1), .val (.int (-1 : Int32)), .val (.int (-1 : Int32)), .val (.int (1 : Int32)), .val (.int (0 : Int32))] [(.ref a0), (.int (0 : Int32))])) rfl rfl (hb hby d10_33)
  refine .pre (fun _ kq => st4 _ kq) ?_
  show OwnEnds p e below _ (T4.setTop (mkF m 36 #[.val (.ref a0), .val (.ref a1), .val (.int (-1 : Int32)), .val (.int (-1 : Int32)), .val (.int (1 : Int32)), .val (.int (0 : Int32))] [(.ref aP), (.int (0 : Int32))]))
  obtain ⟨cl5, Ar5, qs5, qh5⟩ := id AP
  refine .pre (fun _ kq => X4.arraylength hx (by rw [e4]; exact Ar5.1) (State.isArrayOf_alike hZ.alike Ar5.2.1) (g := (mkF m 36 #[.val (.ref a0), .val (.ref a1), .val (.int (-1 : Int32)), .val (.int (-1 : Int32)), .val (.int (1 : Int32)), .val (.int (0 : Int32))] [(.ref aP), (.int (0 : Int32))])) rfl rfl (hb hby d10_36) _ kq) ?_
  rw [own_len1024 qs5]
  show OwnEnds p e below _ (T4.setTop (mkF m 37 #[.val (.ref a0), .val (.ref a1), .val (.int (-1 : Int32)), .val (.int (-1 : Int32)), .val (.int (1 : Int32)), .val (.int (0 : Int32))] [(.int (1024 : Int32)), (.int (0 : Int32))]))
  have hc37 : ¬ ((0 : Int32) = (1024 : Int32)) := by decide
  refine .pre (fun _ kq => XS.icmpYes X4.here hx rfl (pc0 := 37) (pc' := 70) rfl (hb hby d10_37) rfl (feq hc37).2 (by decide) (by decide) kq) ?_
  show OwnEnds p e below _ (T4.setTop (mkF m 70 #[.val (.ref a0), .val (.ref a1), .val (.int (-1 : Int32)), .val (.int (-1 : Int32)), .val (.int (1 : Int32)), .val (.int (0 : Int32))] []))
  refine .pre (fun _ kq => XS.aloadN X4.here hx rfl (hb hby d10_70) rfl rfl kq) ?_
  show OwnEnds p e below _ (T4.setTop (mkF m 71 #[.val (.ref a0), .val (.ref a1), .val (.int (-1 : Int32)), .val (.int (-1 : Int32)), .val (.int (1 : Int32)), .val (.int (0 : Int32))] [(.ref a0)]))
  obtain ⟨T6, X6, e6, st6⟩ := getF X4 hx hZ hown (host := "") (Or.inl (hw _ (List.mem_of_getElem? (i := 65) rfl))) Via.refl e4 G4 (g := (mkF m 71 #[.val (.ref a0), .val (.ref a1), .val (.int (-1 : Int32)), .val (.int (-1 : Int32)), .val (.int (1 : Int32)), .val (.int (0 : Int32))] [(.ref a0)])) rfl rfl (hb hby d10_71)
  refine .pre (fun _ kq => st6 _ kq) ?_
  show OwnEnds p e below _ (T6.setTop (mkF m 74 #[.val (.ref a0), .val (.ref a1), .val (.int (-1 : Int32)), .val (.int (-1 : Int32)), .val (.int (1 : Int32)), .val (.int (0 : Int32))] [(.int (1 : Int32))]))
  have hc74 : ¬ ((1 : Int32) = (0 : Int32)) := by decide
  refine .pre (fun _ kq => XS.ifNo X6.here hx rfl (hb hby d10_74) rfl ((if0 _ _).trans (feq hc74).1) kq) ?_
  show OwnEnds p e below _ (T6.setTop (mkF m 77 #[.val (.ref a0), .val (.ref a1), .val (.int (-1 : Int32)), .val (.int (-1 : Int32)), .val (.int (1 : Int32)), .val (.int (0 : Int32))] []))
  refine .pre (fun _ kq => XS.iload X6.here hx rfl (hb hby d10_77) rfl kq) ?_
  show OwnEnds p e below _ (T6.setTop (mkF m 79 #[.val (.ref a0), .val (.ref a1), .val (.int (-1 : Int32)), .val (.int (-1 : Int32)), .val (.int (1 : Int32)), .val (.int (0 : Int32))] [(.int (0 : Int32))]))
  refine .pre (fun _ kq => XS.aloadN X6.here hx rfl (hb hby d10_79) rfl rfl kq) ?_
  show OwnEnds p e below _ (T6.setTop (mkF m 80 #[.val (.ref a0), .val (.ref a1), .val (.int (-1 : Int32)), .val (.int (-1 : Int32)), .val (.int (1 : Int32)), .val (.int (0 : Int32))] [(.ref a0), (.int (0 : Int32))]))
  obtain ⟨T7, X7, e7, st7⟩ := getF X6 hx hZ hown (host := "") (Or.inl (hw _ (List.mem_of_getElem? (i := 67) rfl))) Via.refl e6 G5 (g := (mkF m 80 #[.val (.ref a0), .val (.ref a1), .val (.int (-1 : Int32)), .val (.int (-1 : Int32)), .val (.int (1 : Int32)), .val (.int (0 : Int32))] [(.ref a0), (.int (0 : Int32))])) rfl rfl (hb hby d10_80)
  refine .pre (fun _ kq => st7 _ kq) ?_
  show OwnEnds p e below _ (T7.setTop (mkF m 83 #[.val (.ref a0), .val (.ref a1), .val (.int (-1 : Int32)), .val (.int (-1 : Int32)), .val (.int (1 : Int32)), .val (.int (0 : Int32))] [(.ref aF), (.int (0 : Int32))]))
  obtain ⟨cl8, Ar8, qs8, qh8⟩ := id AF
  refine .pre (fun _ kq => X7.arraylength hx (by rw [e7]; exact Ar8.1) (State.isArrayOf_alike hZ.alike Ar8.2.1) (g := (mkF m 83 #[.val (.ref a0), .val (.ref a1), .val (.int (-1 : Int32)), .val (.int (-1 : Int32)), .val (.int (1 : Int32)), .val (.int (0 : Int32))] [(.ref aF), (.int (0 : Int32))])) rfl rfl (hb hby d10_83) _ kq) ?_
  rw [own_len1024 qs8]
  show OwnEnds p e below _ (T7.setTop (mkF m 84 #[.val (.ref a0), .val (.ref a1), .val (.int (-1 : Int32)), .val (.int (-1 : Int32)), .val (.int (1 : Int32)), .val (.int (0 : Int32))] [(.int (1024 : Int32)), (.int (0 : Int32))]))
  have hc84 : ¬ ((0 : Int32) = (1024 : Int32)) := by decide
  refine .pre (fun _ kq => XS.icmpYes X7.here hx rfl (pc0 := 84) (pc' := 117) rfl (hb hby d10_84) rfl (feq hc84).2 (by decide) (by decide) kq) ?_
  show OwnEnds p e below _ (T7.setTop (mkF m 117 #[.val (.ref a0), .val (.ref a1), .val (.int (-1 : Int32)), .val (.int (-1 : Int32)), .val (.int (1 : Int32)), .val (.int (0 : Int32))] []))
  refine .pre (fun _ kq => XS.aloadN X7.here hx rfl (hb hby d10_117) rfl rfl kq) ?_
  show OwnEnds p e below _ (T7.setTop (mkF m 118 #[.val (.ref a0), .val (.ref a1), .val (.int (-1 : Int32)), .val (.int (-1 : Int32)), .val (.int (1 : Int32)), .val (.int (0 : Int32))] [(.ref a0)]))
  obtain ⟨T9, X9, e9, st9⟩ := getF X7 hx hZ hown (host := "") (Or.inl (hw _ (List.mem_of_getElem? (i := 54) rfl))) Via.refl e7 G0 (g := (mkF m 118 #[.val (.ref a0), .val (.ref a1), .val (.int (-1 : Int32)), .val (.int (-1 : Int32)), .val (.int (1 : Int32)), .val (.int (0 : Int32))] [(.ref a0)])) rfl rfl (hb hby d10_118)
  refine .pre (fun _ kq => st9 _ kq) ?_
  show OwnEnds p e below _ (T9.setTop (mkF m 121 #[.val (.ref a0), .val (.ref a1), .val (.int (-1 : Int32)), .val (.int (-1 : Int32)), .val (.int (1 : Int32)), .val (.int (0 : Int32))] [(.ref aL)]))
  refine .pre (fun _ kq => XS.aloadN X9.here hx rfl (hb hby d10_121) rfl rfl kq) ?_
  show OwnEnds p e below _ (T9.setTop (mkF m 122 #[.val (.ref a0), .val (.ref a1), .val (.int (-1 : Int32)), .val (.int (-1 : Int32)), .val (.int (1 : Int32)), .val (.int (0 : Int32))] [(.ref a1), (.ref aL)]))
  obtain ⟨cq10, kq10, q10a, q10b, q10c⟩ := isOf hZ e9 fsE
  obtain ⟨_, _, ⟨T10, L10, k10, n10⟩, -, X10, ⟨Lc10, hQ10, l10, y10, z10⟩, st10⟩ := X9.virtualBack hx (y := (⟨"com/example/changeset/changeset/check/FoundState", "state", "()Lcom/example/changeset/changeset/check/State;"⟩ : MethodName)) (z := (⟨"com/example/changeset/changeset/check/FoundState", "state", "()Lcom/example/changeset/changeset/check/State;"⟩ : MethodName)) hown (mvT hZ (hw _ (List.mem_of_getElem? (i := 109) rfl))) (mvT hZ (hw _ (List.mem_of_getElem? (i := 110) rfl))) (notFace_of_selects (args := #[]) (mvT hZ (hw _ (List.mem_of_getElem? (i := 112) rfl)))) (mvT hZ (hw _ (List.mem_of_getElem? (i := 112) rfl))) (mvT hZ (hw _ (List.mem_of_getElem? (i := 111) rfl))) (by decide) (backOf (W := 1) (rm13 l Z aZ hw [] a1 h0 n0 Z0 fsS) hZ (hw _ (List.mem_of_getElem? (i := 113) rfl)) (hw _ (List.mem_of_getElem? (i := 78) rfl)) (by decide) (by decide)) q10a q10c (g := (mkF m 122 #[.val (.ref a0), .val (.ref a1), .val (.int (-1 : Int32)), .val (.int (-1 : Int32)), .val (.int (1 : Int32)), .val (.int (0 : Int32))] [(.ref a1), (.ref aL)])) rfl (by rw [hml]; rfl) (Steps.refl _) (argsL := []) (rest := [(.ref aL)]) (lenOf pd_13 rfl) rfl (by show 2 * 0 + _ ≤ _; exact Nat.le_of_eq rfl) (hb hby d10_122) (fun _ _ => ⟨rfl, e9, (by decide : 0 + 0 ≤ _), (by decide : 0 + 0 ≤ _)⟩)
  dsimp only [Pt.U, Pt.locs, Pt.cells, Pt.slots] at X10 l10 y10 z10 st10 hQ10
  try dsimp only [Nat.reduceAdd] at y10 z10
  subst y10 z10
  obtain ⟨rfl, N10q, e10⟩ := hQ10
  have N10 : Fr n0 L10 := by rw [l10]; exact Fr.app N3 N10q
  refine .pre (fun _ kq => st10.trans kq) ?_
  show OwnEnds p e below _ (T10.setTop (mkF m 125 #[.val (.ref a0), .val (.ref a1), .val (.int (-1 : Int32)), .val (.int (-1 : Int32)), .val (.int (1 : Int32)), .val (.int (0 : Int32))] [.null, (.ref aL)]))
  obtain ⟨cq11, kq11, q11a, q11b, q11c⟩ := isOf hZ e10 ELx
  obtain ⟨_, _, ⟨T11, L11, k11, n11⟩, -, X11, ⟨Lc11, hQ11, l11, y11, z11⟩, st11⟩ := X10.interfaceBack hx (xi := (⟨"java/util/List", "add", "(Ljava/lang/Object;)Z"⟩ : MethodName)) (y := (⟨"java/util/ArrayList", "add", "(Ljava/lang/Object;)Z"⟩ : MethodName)) hown (mvT hZ (hw _ (List.mem_of_getElem? (i := 114) rfl))) (mvT hZ (hw _ (List.mem_of_getElem? (i := 115) rfl))) (mvT hZ (hw _ (List.mem_of_getElem? (i := 116) rfl))) (mvT hZ (hw _ (List.mem_of_getElem? (i := 117) rfl))) (mvT hZ (hw _ (List.mem_of_getElem? (i := 118) rfl))) (mvT hZ (hw _ (List.mem_of_getElem? (i := 119) rfl))) (mvT hZ (hw _ (List.mem_of_getElem? (i := 120) rfl))) (mvT hZ (hw _ (List.mem_of_getElem? (i := 105) rfl))) (by decide) (backOf (W := 0) (rm14A l Z aZ hw [] aL xD mc h0 n0 Z0 SD ELx Lx1 Lx2 Lx3 RDx (own_nd D 1 9 rfl rfl (by decide)) g_aL) hZ (hw _ (List.mem_of_getElem? (i := 121) rfl)) (hw _ (List.mem_of_getElem? (i := 9) rfl)) (by decide) (by decide)) q11a q11b q11c (g := (mkF m 125 #[.val (.ref a0), .val (.ref a1), .val (.int (-1 : Int32)), .val (.int (-1 : Int32)), .val (.int (1 : Int32)), .val (.int (0 : Int32))] [.null, (.ref aL)])) rfl (by rw [hml]; rfl) (Steps.refl _) (argsL := [.null]) (rest := []) (lenOf pd_14 rfl) rfl (by show 2 * 0 + _ ≤ _; exact Nat.le_of_eq rfl) (hb hby d10_125) (fun _ _ => ⟨rfl, e10, (by decide : 0 + 1 ≤ _), (by decide : 0 + 10 ≤ _)⟩)
  dsimp only [Pt.U, Pt.locs, Pt.cells, Pt.slots] at X11 l11 y11 z11 st11 hQ11
  try dsimp only [Nat.reduceAdd] at y11 z11
  subst y11 z11
  obtain ⟨r11, rfl, N11q, K11, szq11, Lq11_0, ⟨mcq11, Lq11_1⟩, Lq11_2, Lq11_3, Lq11_4⟩ := hQ11
  have N11 : Fr n0 L11 := by rw [l11]; exact Fr.app N10 N11q
  refine .pre (fun _ kq => st11.trans kq) ?_
  have g_r11 : n0 ≤ r11 := Nat.le_trans Z0 szq11
  have sz_r11 : h0.size ≤ r11 := Nat.le_trans (Keep.refl h0 [a0, aL, aP, aR, a1]).1 szq11
  have Kp11 : Keep h0 T11.heap [a0, aL, aP, aR, a1] := (Keep.refl h0 [a0, aL, aP, aR, a1]).trans K11 (allS (Or.inl (List.mem_of_getElem? (i := 1) rfl)) all0)
  show OwnEnds p e below _ (T11.setTop (mkF m 130 #[.val (.ref a0), .val (.ref a1), .val (.int (-1 : Int32)), .val (.int (-1 : Int32)), .val (.int (1 : Int32)), .val (.int (0 : Int32))] [(.int (1 : Int32))]))
  refine .pre (fun _ kq => XS.pop X11.here hx rfl (hb hby d10_130) rfl rfl kq) ?_
  show OwnEnds p e below _ (T11.setTop (mkF m 131 #[.val (.ref a0), .val (.ref a1), .val (.int (-1 : Int32)), .val (.int (-1 : Int32)), .val (.int (1 : Int32)), .val (.int (0 : Int32))] []))
  refine .pre (fun _ kq => XS.aloadN X11.here hx rfl (hb hby d10_131) rfl rfl kq) ?_
  show OwnEnds p e below _ (T11.setTop (mkF m 132 #[.val (.ref a0), .val (.ref a1), .val (.int (-1 : Int32)), .val (.int (-1 : Int32)), .val (.int (1 : Int32)), .val (.int (0 : Int32))] [(.ref a0)]))
  obtain ⟨T12, X12, e12, st12⟩ := getF X11 hx hZ hown (host := "") (Or.inl (hw _ (List.mem_of_getElem? (i := 57) rfl))) Via.refl rfl (G1.keep K11 (own_nin1 (own_nd D 0 1 rfl rfl (by decide)))) (g := (mkF m 132 #[.val (.ref a0), .val (.ref a1), .val (.int (-1 : Int32)), .val (.int (-1 : Int32)), .val (.int (1 : Int32)), .val (.int (0 : Int32))] [(.ref a0)])) rfl rfl (hb hby d10_132)
  refine .pre (fun _ kq => st12 _ kq) ?_
  show OwnEnds p e below _ (T12.setTop (mkF m 135 #[.val (.ref a0), .val (.ref a1), .val (.int (-1 : Int32)), .val (.int (-1 : Int32)), .val (.int (1 : Int32)), .val (.int (0 : Int32))] [(.ref aP)]))
  refine .pre (fun _ kq => XS.iload X12.here hx rfl (hb hby d10_135) rfl kq) ?_
  show OwnEnds p e below _ (T12.setTop (mkF m 137 #[.val (.ref a0), .val (.ref a1), .val (.int (-1 : Int32)), .val (.int (-1 : Int32)), .val (.int (1 : Int32)), .val (.int (0 : Int32))] [(.int (0 : Int32)), (.ref aP)]))
  refine .pre (fun _ kq => XS.iloadN X12.here hx rfl (hb hby d10_137) rfl kq) ?_
  show OwnEnds p e below _ (T12.setTop (mkF m 138 #[.val (.ref a0), .val (.ref a1), .val (.int (-1 : Int32)), .val (.int (-1 : Int32)), .val (.int (1 : Int32)), .val (.int (0 : Int32))] [(.int (-1 : Int32)), (.int (0 : Int32)), (.ref aP)]))
  obtain ⟨cl13, Ar13, qs13, qh13⟩ := id (AP.keep K11 (own_nin1 (Ne.symm (own_nd D 1 2 rfl rfl (by decide)))))
  have hj13 : 0 ≤ ((0 : Int32)).toInt ∧ ((0 : Int32)).toInt < 1024 := by decide
  obtain ⟨T13, h13, X13, e13, W13, st13⟩ := stI X12 hx hZ e12 Ar13 (j := (0 : Int32)) (own_in1024 qs13 hj13) (g := (mkF m 138 #[.val (.ref a0), .val (.ref a1), .val (.int (-1 : Int32)), .val (.int (-1 : Int32)), .val (.int (1 : Int32)), .val (.int (0 : Int32))] [(.int (-1 : Int32)), (.int (0 : Int32)), (.ref aP)])) rfl rfl (hb hby d10_138)
  have V13 : OwnA Z h13 aP (own_upd fP ((0 : Int32)).toNatClampNeg (-1 : Int32)) := OwnA.set Ar13 qs13 qh13 W13
  have N13 := Fr.snoc X13 N11 g_aP
  have Kp13 : Keep h0 h13 [a0, aL, aP, aR, a1] := Kp11.wr W13 (Or.inl (List.mem_of_getElem? (i := 2) rfl))
  refine .pre (fun _ kq => st13 _ kq) ?_
  show OwnEnds p e below _ (T13.setTop (mkF m 139 #[.val (.ref a0), .val (.ref a1), .val (.int (-1 : Int32)), .val (.int (-1 : Int32)), .val (.int (1 : Int32)), .val (.int (0 : Int32))] []))
  refine .pre (fun _ kq => XS.aloadN X13.here hx rfl (hb hby d10_139) rfl rfl kq) ?_
  show OwnEnds p e below _ (T13.setTop (mkF m 140 #[.val (.ref a0), .val (.ref a1), .val (.int (-1 : Int32)), .val (.int (-1 : Int32)), .val (.int (1 : Int32)), .val (.int (0 : Int32))] [(.ref a0)]))
  obtain ⟨T14, X14, e14, st14⟩ := getF X13 hx hZ hown (host := "") (Or.inl (hw _ (List.mem_of_getElem? (i := 59) rfl))) Via.refl e13 ((G2.keep K11 (own_nin1 (own_nd D 0 1 rfl rfl (by decide)))).other W13 (Or.inl (own_nd D 0 2 rfl rfl (by decide)))) (g := (mkF m 140 #[.val (.ref a0), .val (.ref a1), .val (.int (-1 : Int32)), .val (.int (-1 : Int32)), .val (.int (1 : Int32)), .val (.int (0 : Int32))] [(.ref a0)])) rfl rfl (hb hby d10_140)
  refine .pre (fun _ kq => st14 _ kq) ?_
  show OwnEnds p e below _ (T14.setTop (mkF m 143 #[.val (.ref a0), .val (.ref a1), .val (.int (-1 : Int32)), .val (.int (-1 : Int32)), .val (.int (1 : Int32)), .val (.int (0 : Int32))] [(.ref aR)]))
  refine .pre (fun _ kq => XS.iload X14.here hx rfl (hb hby d10_143) rfl kq) ?_
  show OwnEnds p e below _ (T14.setTop (mkF m 145 #[.val (.ref a0), .val (.ref a1), .val (.int (-1 : Int32)), .val (.int (-1 : Int32)), .val (.int (1 : Int32)), .val (.int (0 : Int32))] [(.int (0 : Int32)), (.ref aR)]))
  refine .pre (fun _ kq => XS.iloadN X14.here hx rfl (hb hby d10_145) rfl kq) ?_
  show OwnEnds p e below _ (T14.setTop (mkF m 146 #[.val (.ref a0), .val (.ref a1), .val (.int (-1 : Int32)), .val (.int (-1 : Int32)), .val (.int (1 : Int32)), .val (.int (0 : Int32))] [(.int (-1 : Int32)), (.int (0 : Int32)), (.ref aR)]))
  obtain ⟨cl15, Ar15, qs15, qh15⟩ := id ((AR.keep K11 (own_nin1 (Ne.symm (own_nd D 1 3 rfl rfl (by decide))))).other W13 (Ne.symm (own_nd D 2 3 rfl rfl (by decide))))
  have hj15 : 0 ≤ ((0 : Int32)).toInt ∧ ((0 : Int32)).toInt < 1024 := by decide
  obtain ⟨T15, h15, X15, e15, W15, st15⟩ := stI X14 hx hZ e14 Ar15 (j := (0 : Int32)) (own_in1024 qs15 hj15) (g := (mkF m 146 #[.val (.ref a0), .val (.ref a1), .val (.int (-1 : Int32)), .val (.int (-1 : Int32)), .val (.int (1 : Int32)), .val (.int (0 : Int32))] [(.int (-1 : Int32)), (.int (0 : Int32)), (.ref aR)])) rfl rfl (hb hby d10_146)
  have V15 : OwnA Z h15 aR (own_upd fR ((0 : Int32)).toNatClampNeg (-1 : Int32)) := OwnA.set Ar15 qs15 qh15 W15
  have N15 := Fr.snoc X15 N13 g_aR
  have Kp15 : Keep h0 h15 [a0, aL, aP, aR, a1] := Kp13.wr W15 (Or.inl (List.mem_of_getElem? (i := 3) rfl))
  refine .pre (fun _ kq => st15 _ kq) ?_
  show OwnEnds p e below _ (T15.setTop (mkF m 147 #[.val (.ref a0), .val (.ref a1), .val (.int (-1 : Int32)), .val (.int (-1 : Int32)), .val (.int (1 : Int32)), .val (.int (0 : Int32))] []))
  refine .pre (fun _ kq => XS.aloadN X15.here hx rfl (hb hby d10_147) rfl rfl kq) ?_
  show OwnEnds p e below _ (T15.setTop (mkF m 148 #[.val (.ref a0), .val (.ref a1), .val (.int (-1 : Int32)), .val (.int (-1 : Int32)), .val (.int (1 : Int32)), .val (.int (0 : Int32))] [(.ref a0)]))
  refine .pre (fun _ kq => XS.dup X15.here hx rfl (hb hby d10_148) rfl rfl kq) ?_
  show OwnEnds p e below _ (T15.setTop (mkF m 149 #[.val (.ref a0), .val (.ref a1), .val (.int (-1 : Int32)), .val (.int (-1 : Int32)), .val (.int (1 : Int32)), .val (.int (0 : Int32))] [(.ref a0), (.ref a0)]))
  obtain ⟨T16, X16, e16, st16⟩ := getF X15 hx hZ hown (host := "") (Or.inl (hw _ (List.mem_of_getElem? (i := 144) rfl))) Via.refl e15 (((G9.keep K11 (own_nin1 (own_nd D 0 1 rfl rfl (by decide)))).other W13 (Or.inl (own_nd D 0 2 rfl rfl (by decide)))).other W15 (Or.inl (own_nd D 0 3 rfl rfl (by decide)))) (g := (mkF m 149 #[.val (.ref a0), .val (.ref a1), .val (.int (-1 : Int32)), .val (.int (-1 : Int32)), .val (.int (1 : Int32)), .val (.int (0 : Int32))] [(.ref a0), (.ref a0)])) rfl rfl (hb hby d10_149)
  refine .pre (fun _ kq => st16 _ kq) ?_
  show OwnEnds p e below _ (T16.setTop (mkF m 152 #[.val (.ref a0), .val (.ref a1), .val (.int (-1 : Int32)), .val (.int (-1 : Int32)), .val (.int (1 : Int32)), .val (.int (0 : Int32))] [(.int ini), (.ref a0)]))
  refine .pre (fun _ kq => XS.iloadN X16.here hx rfl (hb hby d10_152) rfl kq) ?_
  show OwnEnds p e below _ (T16.setTop (mkF m 153 #[.val (.ref a0), .val (.ref a1), .val (.int (-1 : Int32)), .val (.int (-1 : Int32)), .val (.int (1 : Int32)), .val (.int (0 : Int32))] [(.int (-1 : Int32)), (.int ini), (.ref a0)]))
  have hc153 : ((-1 : Int32) < (0 : Int32)) := by decide
  refine .pre (fun _ kq => XS.ifNo X16.here hx rfl (hb hby d10_153) rfl ((if0 _ _).trans (tlt hc153).2.1) kq) ?_
  show OwnEnds p e below _ (T16.setTop (mkF m 156 #[.val (.ref a0), .val (.ref a1), .val (.int (-1 : Int32)), .val (.int (-1 : Int32)), .val (.int (1 : Int32)), .val (.int (0 : Int32))] [(.int ini), (.ref a0)]))
  refine .pre (fun _ kq => XS.iconst X16.here hx rfl (hb hby d10_156) kq) ?_
  show OwnEnds p e below _ (T16.setTop (mkF m 157 #[.val (.ref a0), .val (.ref a1), .val (.int (-1 : Int32)), .val (.int (-1 : Int32)), .val (.int (1 : Int32)), .val (.int (0 : Int32))] [(.int (1 : Int32)), (.int ini), (.ref a0)]))
  refine .pre (fun _ kq => XS.goto X16.here hx rfl (pc0 := 157) (pc' := 161) rfl (hb hby d10_157) (by decide) (by decide) kq) ?_
  show OwnEnds p e below _ (T16.setTop (mkF m 161 #[.val (.ref a0), .val (.ref a1), .val (.int (-1 : Int32)), .val (.int (-1 : Int32)), .val (.int (1 : Int32)), .val (.int (0 : Int32))] [(.int (1 : Int32)), (.int ini), (.ref a0)]))
  refine .pre (fun _ kq => XS.iadd X16.here hx rfl (hb hby d10_161) rfl kq) ?_
  show OwnEnds p e below _ (T16.setTop (mkF m 162 #[.val (.ref a0), .val (.ref a1), .val (.int (-1 : Int32)), .val (.int (-1 : Int32)), .val (.int (1 : Int32)), .val (.int (0 : Int32))] [(.int (ini + (1 : Int32))), (.ref a0)]))
  obtain ⟨T17, h17, X17, e17, W17, st17⟩ := putF X16 hx hZ hown (host := "") (Or.inl (hw _ (List.mem_of_getElem? (i := 144) rfl))) Via.refl e16 (((G9.keep K11 (own_nin1 (own_nd D 0 1 rfl rfl (by decide)))).other W13 (Or.inl (own_nd D 0 2 rfl rfl (by decide)))).other W15 (Or.inl (own_nd D 0 3 rfl rfl (by decide)))) (((EG.keep K11).wr W13).wr W15) (Or.inl (hw _ (List.mem_of_getElem? (i := 145) rfl))) (hw _ (List.mem_of_getElem? (i := 5) rfl)) (ty := .int) (by decide) rfl rfl (g := (mkF m 162 #[.val (.ref a0), .val (.ref a1), .val (.int (-1 : Int32)), .val (.int (-1 : Int32)), .val (.int (1 : Int32)), .val (.int (0 : Int32))] [(.int (ini + (1 : Int32))), (.ref a0)])) rfl rfl (hb hby d10_162)
  have Fw17 := (((G9.keep K11 (own_nin1 (own_nd D 0 1 rfl rfl (by decide)))).other W13 (Or.inl (own_nd D 0 2 rfl rfl (by decide)))).other W15 (Or.inl (own_nd D 0 3 rfl rfl (by decide)))).same W17
  have N17 := Fr.snoc X17 N15 g_a0
  have Kp17 : Keep h0 h17 [a0, aL, aP, aR, a1] := Kp15.wr W17 (Or.inl (List.mem_of_getElem? (i := 0) rfl))
  refine .pre (fun _ kq => st17 _ kq) ?_
  show OwnEnds p e below _ (T17.setTop (mkF m 165 #[.val (.ref a0), .val (.ref a1), .val (.int (-1 : Int32)), .val (.int (-1 : Int32)), .val (.int (1 : Int32)), .val (.int (0 : Int32))] []))
  refine .pre (fun _ kq => XS.aloadN X17.here hx rfl (hb hby d10_165) rfl rfl kq) ?_
  show OwnEnds p e below _ (T17.setTop (mkF m 166 #[.val (.ref a0), .val (.ref a1), .val (.int (-1 : Int32)), .val (.int (-1 : Int32)), .val (.int (1 : Int32)), .val (.int (0 : Int32))] [(.ref a1)]))
  refine .pre (fun _ kq => XS.iload X17.here hx rfl (hb hby d10_166) rfl kq) ?_
  show OwnEnds p e below _ (T17.setTop (mkF m 168 #[.val (.ref a0), .val (.ref a1), .val (.int (-1 : Int32)), .val (.int (-1 : Int32)), .val (.int (1 : Int32)), .val (.int (0 : Int32))] [(.int (0 : Int32)), (.ref a1)]))
  obtain ⟨cq18, kq18, q18a, q18b, q18c⟩ := isOf hZ e17 ((((fsE.keep K11).wr W13).wr W15).wr W17)
  obtain ⟨_, _, ⟨T18, L18, k18, n18⟩, -, X18, ⟨Lc18, hQ18, l18, y18, z18⟩, st18⟩ := X17.virtualBack hx (y := (⟨"com/example/changeset/changeset/check/FoundState", "number", "(I)V"⟩ : MethodName)) (z := (⟨"com/example/changeset/changeset/check/FoundState", "number", "(I)V"⟩ : MethodName)) hown (mvT hZ (hw _ (List.mem_of_getElem? (i := 146) rfl))) (mvT hZ (hw _ (List.mem_of_getElem? (i := 147) rfl))) (notFace_of_selects (args := #[]) (mvT hZ (hw _ (List.mem_of_getElem? (i := 149) rfl)))) (mvT hZ (hw _ (List.mem_of_getElem? (i := 149) rfl))) (mvT hZ (hw _ (List.mem_of_getElem? (i := 148) rfl))) (by decide) (backOf (W := 0) (rm19 l Z aZ hw [] a1 (0 : Int32) (.int (-1 : Int32)) .null h17 n0 (Nat.le_trans (Nat.le_trans (Nat.le_trans (Nat.le_trans Z0 K11.1) (Keep.of_wr W13).1) (Keep.of_wr W15).1) (Keep.of_wr W17).1) g_a1 ((((fsE.keep K11).wr W13).wr W15).wr W17) ((((fsN.keep K11 (own_nin1 (Ne.symm (own_nd D 1 8 rfl rfl (by decide))))).other W13 (Or.inl (Ne.symm (own_nd D 2 8 rfl rfl (by decide))))).other W15 (Or.inl (Ne.symm (own_nd D 3 8 rfl rfl (by decide))))).other W17 (Or.inl (Ne.symm (own_nd D 0 8 rfl rfl (by decide))))) ((((fsS.keep K11 (own_nin1 (Ne.symm (own_nd D 1 8 rfl rfl (by decide))))).other W13 (Or.inl (Ne.symm (own_nd D 2 8 rfl rfl (by decide))))).other W15 (Or.inl (Ne.symm (own_nd D 3 8 rfl rfl (by decide))))).other W17 (Or.inl (Ne.symm (own_nd D 0 8 rfl rfl (by decide)))))) hZ (hw _ (List.mem_of_getElem? (i := 150) rfl)) (hw _ (List.mem_of_getElem? (i := 78) rfl)) (by decide) (by decide)) q18a q18c (g := (mkF m 168 #[.val (.ref a0), .val (.ref a1), .val (.int (-1 : Int32)), .val (.int (-1 : Int32)), .val (.int (1 : Int32)), .val (.int (0 : Int32))] [(.int (0 : Int32)), (.ref a1)])) rfl (by rw [hml]; rfl) (Steps.refl _) (argsL := [(.int (0 : Int32))]) (rest := []) (lenOf pd_15 rfl) rfl (by show 2 * 0 + _ ≤ _; exact Nat.le_of_eq rfl) (hb hby d10_168) (fun _ _ => ⟨rfl, e17, (by decide : 1 + 0 ≤ _), (by decide : 10 + 0 ≤ _)⟩)
  dsimp only [Pt.U, Pt.locs, Pt.cells, Pt.slots] at X18 l18 y18 z18 st18 hQ18
  try dsimp only [Nat.reduceAdd] at y18 z18
  subst y18 z18
  obtain ⟨rfl, N18q, K18, Ea18, Fa18_0, Fa18_1⟩ := hQ18
  have N18 : Fr n0 L18 := by rw [l18]; exact Fr.app N17 N18q
  refine .pre (fun _ kq => st18.trans kq) ?_
  have Kp18 : Keep h0 T18.heap [a0, aL, aP, aR, a1] := Kp17.trans K18 (allS (Or.inl (List.mem_of_getElem? (i := 4) rfl)) all0)
  show OwnEnds p e below _ (T18.setTop (mkF m 171 #[.val (.ref a0), .val (.ref a1), .val (.int (-1 : Int32)), .val (.int (-1 : Int32)), .val (.int (1 : Int32)), .val (.int (0 : Int32))] []))
  refine .pre (fun _ kq => XS.aloadN X18.here hx rfl (hb hby d10_171) rfl rfl kq) ?_
  show OwnEnds p e below _ (T18.setTop (mkF m 172 #[.val (.ref a0), .val (.ref a1), .val (.int (-1 : Int32)), .val (.int (-1 : Int32)), .val (.int (1 : Int32)), .val (.int (0 : Int32))] [(.ref a0)]))
  obtain ⟨T19, X19, e19, st19⟩ := getF X18 hx hZ hown (host := "") (Or.inl (hw _ (List.mem_of_getElem? (i := 65) rfl))) Via.refl rfl (((((G4.keep K11 (own_nin1 (own_nd D 0 1 rfl rfl (by decide)))).other W13 (Or.inl (own_nd D 0 2 rfl rfl (by decide)))).other W15 (Or.inl (own_nd D 0 3 rfl rfl (by decide)))).other W17 (Or.inr (slot_ne (Or.inr (hw _ (List.mem_of_getElem? (i := 66) rfl))) (Or.inl (hw _ (List.mem_of_getElem? (i := 145) rfl))) (by decide) (t := .boolean) (t' := .int) (by decide) (by decide)))).keep K18 (own_nin1 (own_nd D 0 8 rfl rfl (by decide)))) (g := (mkF m 172 #[.val (.ref a0), .val (.ref a1), .val (.int (-1 : Int32)), .val (.int (-1 : Int32)), .val (.int (1 : Int32)), .val (.int (0 : Int32))] [(.ref a0)])) rfl rfl (hb hby d10_172)
  refine .pre (fun _ kq => st19 _ kq) ?_
  show OwnEnds p e below _ (T19.setTop (mkF m 175 #[.val (.ref a0), .val (.ref a1), .val (.int (-1 : Int32)), .val (.int (-1 : Int32)), .val (.int (1 : Int32)), .val (.int (0 : Int32))] [(.int (1 : Int32))]))
  have hc175 : ¬ ((1 : Int32) = (0 : Int32)) := by decide
  refine .pre (fun _ kq => XS.ifNo X19.here hx rfl (hb hby d10_175) rfl ((if0 _ _).trans (feq hc175).1) kq) ?_
  show OwnEnds p e below _ (T19.setTop (mkF m 178 #[.val (.ref a0), .val (.ref a1), .val (.int (-1 : Int32)), .val (.int (-1 : Int32)), .val (.int (1 : Int32)), .val (.int (0 : Int32))] []))
  refine .pre (fun _ kq => XS.iloadN X19.here hx rfl (hb hby d10_178) rfl kq) ?_
  show OwnEnds p e below _ (T19.setTop (mkF m 179 #[.val (.ref a0), .val (.ref a1), .val (.int (-1 : Int32)), .val (.int (-1 : Int32)), .val (.int (1 : Int32)), .val (.int (0 : Int32))] [(.int (-1 : Int32))]))
  have hc179 : ((-1 : Int32) < (0 : Int32)) := by decide
  refine .pre (fun _ kq => XS.ifYes X19.here hx rfl (pc0 := 179) (pc' := 192) rfl (hb hby d10_179) rfl ((if0 _ _).trans (tlt hc179).1) (by decide) (by decide) kq) ?_
  show OwnEnds p e below _ (T19.setTop (mkF m 192 #[.val (.ref a0), .val (.ref a1), .val (.int (-1 : Int32)), .val (.int (-1 : Int32)), .val (.int (1 : Int32)), .val (.int (0 : Int32))] []))
  refine .pre (fun _ kq => XS.iload X19.here hx rfl (hb hby d10_192) rfl kq) ?_
  show OwnEnds p e below _ (T19.setTop (mkF m 194 #[.val (.ref a0), .val (.ref a1), .val (.int (-1 : Int32)), .val (.int (-1 : Int32)), .val (.int (1 : Int32)), .val (.int (0 : Int32))] [(.int (1 : Int32))]))
  exact own_endN X19 hx hlk (t := .boolean) Bd.returns (by simp) (hb hby d10_194) rfl (by decide) (by decide) ⟨_, rfl, N18, (by rw [e19]; exact Kp18), sz_r11, ⟨(by rw [e19]; exact (((((EG.keep K11).wr W13).wr W15).wr W17).keep K18)), (by rw [e19]; exact (((((G0.keep K11 (own_nin1 (own_nd D 0 1 rfl rfl (by decide)))).other W13 (Or.inl (own_nd D 0 2 rfl rfl (by decide)))).other W15 (Or.inl (own_nd D 0 3 rfl rfl (by decide)))).other W17 (Or.inr (slot_ne (Or.inr (hw _ (List.mem_of_getElem? (i := 55) rfl))) (Or.inl (hw _ (List.mem_of_getElem? (i := 145) rfl))) (by decide) (t := (.object "java/util/List")) (t' := .int) (by decide) (by decide)))).keep K18 (own_nin1 (own_nd D 0 8 rfl rfl (by decide))))), (by rw [e19]; exact (((((G1.keep K11 (own_nin1 (own_nd D 0 1 rfl rfl (by decide)))).other W13 (Or.inl (own_nd D 0 2 rfl rfl (by decide)))).other W15 (Or.inl (own_nd D 0 3 rfl rfl (by decide)))).other W17 (Or.inr (slot_ne (Or.inl (hw _ (List.mem_of_getElem? (i := 58) rfl))) (Or.inl (hw _ (List.mem_of_getElem? (i := 145) rfl))) (by decide) (t := (.array .int)) (t' := .int) (by decide) (by decide)))).keep K18 (own_nin1 (own_nd D 0 8 rfl rfl (by decide))))), (by rw [e19]; exact (((((G2.keep K11 (own_nin1 (own_nd D 0 1 rfl rfl (by decide)))).other W13 (Or.inl (own_nd D 0 2 rfl rfl (by decide)))).other W15 (Or.inl (own_nd D 0 3 rfl rfl (by decide)))).other W17 (Or.inr (slot_ne (Or.inl (hw _ (List.mem_of_getElem? (i := 60) rfl))) (Or.inl (hw _ (List.mem_of_getElem? (i := 145) rfl))) (by decide) (t := (.array .int)) (t' := .int) (by decide) (by decide)))).keep K18 (own_nin1 (own_nd D 0 8 rfl rfl (by decide))))), (by rw [e19]; exact (((((G3.keep K11 (own_nin1 (own_nd D 0 1 rfl rfl (by decide)))).other W13 (Or.inl (own_nd D 0 2 rfl rfl (by decide)))).other W15 (Or.inl (own_nd D 0 3 rfl rfl (by decide)))).other W17 (Or.inr (slot_ne (Or.inl (hw _ (List.mem_of_getElem? (i := 62) rfl))) (Or.inl (hw _ (List.mem_of_getElem? (i := 145) rfl))) (by decide) (t := .int) (t' := .int) (by decide) (by decide)))).keep K18 (own_nin1 (own_nd D 0 8 rfl rfl (by decide))))), (by rw [e19]; exact (((((G4.keep K11 (own_nin1 (own_nd D 0 1 rfl rfl (by decide)))).other W13 (Or.inl (own_nd D 0 2 rfl rfl (by decide)))).other W15 (Or.inl (own_nd D 0 3 rfl rfl (by decide)))).other W17 (Or.inr (slot_ne (Or.inr (hw _ (List.mem_of_getElem? (i := 66) rfl))) (Or.inl (hw _ (List.mem_of_getElem? (i := 145) rfl))) (by decide) (t := .boolean) (t' := .int) (by decide) (by decide)))).keep K18 (own_nin1 (own_nd D 0 8 rfl rfl (by decide))))), (by rw [e19]; exact (((((G5.keep K11 (own_nin1 (own_nd D 0 1 rfl rfl (by decide)))).other W13 (Or.inl (own_nd D 0 2 rfl rfl (by decide)))).other W15 (Or.inl (own_nd D 0 3 rfl rfl (by decide)))).other W17 (Or.inr (slot_ne (Or.inl (hw _ (List.mem_of_getElem? (i := 68) rfl))) (Or.inl (hw _ (List.mem_of_getElem? (i := 145) rfl))) (by decide) (t := (.array .int)) (t' := .int) (by decide) (by decide)))).keep K18 (own_nin1 (own_nd D 0 8 rfl rfl (by decide))))), (by rw [e19]; exact (((((G6.keep K11 (own_nin1 (own_nd D 0 1 rfl rfl (by decide)))).other W13 (Or.inl (own_nd D 0 2 rfl rfl (by decide)))).other W15 (Or.inl (own_nd D 0 3 rfl rfl (by decide)))).other W17 (Or.inr (slot_ne (Or.inl (hw _ (List.mem_of_getElem? (i := 70) rfl))) (Or.inl (hw _ (List.mem_of_getElem? (i := 145) rfl))) (by decide) (t := (.array .int)) (t' := .int) (by decide) (by decide)))).keep K18 (own_nin1 (own_nd D 0 8 rfl rfl (by decide))))), (by rw [e19]; exact (((((G7.keep K11 (own_nin1 (own_nd D 0 1 rfl rfl (by decide)))).other W13 (Or.inl (own_nd D 0 2 rfl rfl (by decide)))).other W15 (Or.inl (own_nd D 0 3 rfl rfl (by decide)))).other W17 (Or.inr (slot_ne (Or.inl (hw _ (List.mem_of_getElem? (i := 72) rfl))) (Or.inl (hw _ (List.mem_of_getElem? (i := 145) rfl))) (by decide) (t := (.array .int)) (t' := .int) (by decide) (by decide)))).keep K18 (own_nin1 (own_nd D 0 8 rfl rfl (by decide))))), (by rw [e19]; exact (((((G8.keep K11 (own_nin1 (own_nd D 0 1 rfl rfl (by decide)))).other W13 (Or.inl (own_nd D 0 2 rfl rfl (by decide)))).other W15 (Or.inl (own_nd D 0 3 rfl rfl (by decide)))).other W17 (Or.inr (slot_ne (Or.inl (hw _ (List.mem_of_getElem? (i := 74) rfl))) (Or.inl (hw _ (List.mem_of_getElem? (i := 145) rfl))) (by decide) (t := (.array .int)) (t' := .int) (by decide) (by decide)))).keep K18 (own_nin1 (own_nd D 0 8 rfl rfl (by decide))))), (by rw [e19]; exact (Fw17.keep K18 (own_nin1 (own_nd D 0 8 rfl rfl (by decide))))), (by rw [e19]; exact (((((G10.keep K11 (own_nin1 (own_nd D 0 1 rfl rfl (by decide)))).other W13 (Or.inl (own_nd D 0 2 rfl rfl (by decide)))).other W15 (Or.inl (own_nd D 0 3 rfl rfl (by decide)))).other W17 (Or.inr (slot_ne (Or.inl (hw _ (List.mem_of_getElem? (i := 161) rfl))) (Or.inl (hw _ (List.mem_of_getElem? (i := 145) rfl))) (by decide) (t := .int) (t' := .int) (by decide) (by decide)))).keep K18 (own_nin1 (own_nd D 0 8 rfl rfl (by decide))))), ⟨_, (by rw [e19]; exact (((V13.other W15 (own_nd D 2 3 rfl rfl (by decide))).other W17 (Ne.symm (own_nd D 0 2 rfl rfl (by decide)))).keep K18 (own_nin1 (own_nd D 2 8 rfl rfl (by decide)))))⟩, ⟨_, (by rw [e19]; exact ((V15.other W17 (Ne.symm (own_nd D 0 3 rfl rfl (by decide)))).keep K18 (own_nin1 (own_nd D 3 8 rfl rfl (by decide)))))⟩, (by rw [e19]; exact (((((AF.keep K11 (own_nin1 (Ne.symm (own_nd D 1 4 rfl rfl (by decide))))).other W13 (Ne.symm (own_nd D 2 4 rfl rfl (by decide)))).other W15 (Ne.symm (own_nd D 3 4 rfl rfl (by decide)))).other W17 (Ne.symm (own_nd D 0 4 rfl rfl (by decide)))).keep K18 (own_nin1 (own_nd D 4 8 rfl rfl (by decide))))), (by rw [e19]; exact (((((AE.keep K11 (own_nin1 (Ne.symm (own_nd D 1 5 rfl rfl (by decide))))).other W13 (Ne.symm (own_nd D 2 5 rfl rfl (by decide)))).other W15 (Ne.symm (own_nd D 3 5 rfl rfl (by decide)))).other W17 (Ne.symm (own_nd D 0 5 rfl rfl (by decide)))).keep K18 (own_nin1 (own_nd D 5 8 rfl rfl (by decide))))), ⟨_, (by rw [e19]; exact (((((AT.keep K11 (own_nin1 (Ne.symm (own_nd D 1 6 rfl rfl (by decide))))).other W13 (Ne.symm (own_nd D 2 6 rfl rfl (by decide)))).other W15 (Ne.symm (own_nd D 3 6 rfl rfl (by decide)))).other W17 (Ne.symm (own_nd D 0 6 rfl rfl (by decide)))).keep K18 (own_nin1 (own_nd D 6 8 rfl rfl (by decide)))))⟩, ⟨_, (by rw [e19]; exact (((((AA.keep K11 (own_nin1 (Ne.symm (own_nd D 1 7 rfl rfl (by decide))))).other W13 (Ne.symm (own_nd D 2 7 rfl rfl (by decide)))).other W15 (Ne.symm (own_nd D 3 7 rfl rfl (by decide)))).other W17 (Ne.symm (own_nd D 0 7 rfl rfl (by decide)))).keep K18 (own_nin1 (own_nd D 7 8 rfl rfl (by decide)))))⟩⟩, ⟨(by rw [e19]; exact ((((Lq11_0.wr W13).wr W15).wr W17).keep K18)), ⟨_, (by rw [e19]; exact ((((Lq11_1.other W13 (Or.inl (own_nd D 1 2 rfl rfl (by decide)))).other W15 (Or.inl (own_nd D 1 3 rfl rfl (by decide)))).other W17 (Or.inl (Ne.symm (own_nd D 0 1 rfl rfl (by decide))))).keep K18 (own_nin1 (own_nd D 1 8 rfl rfl (by decide)))))⟩, (by rw [e19]; exact ((((Lq11_2.other W13 (Or.inl (own_nd D 1 2 rfl rfl (by decide)))).other W15 (Or.inl (own_nd D 1 3 rfl rfl (by decide)))).other W17 (Or.inl (Ne.symm (own_nd D 0 1 rfl rfl (by decide))))).keep K18 (own_nin1 (own_nd D 1 8 rfl rfl (by decide))))), (by rw [e19]; exact ((((Lq11_3.other W13 (Or.inl (own_nd D 1 2 rfl rfl (by decide)))).other W15 (Or.inl (own_nd D 1 3 rfl rfl (by decide)))).other W17 (Or.inl (Ne.symm (own_nd D 0 1 rfl rfl (by decide))))).keep K18 (own_nin1 (own_nd D 1 8 rfl rfl (by decide))))), (by rw [e19]; exact ((((Lq11_4.other W13 (Ne.symm (Nat.ne_of_lt (Nat.lt_of_lt_of_le AP.lt szq11)))).other W15 (Ne.symm (Nat.ne_of_lt (Nat.lt_of_lt_of_le AR.lt szq11)))).other W17 (Ne.symm (Nat.ne_of_lt (Nat.lt_of_lt_of_le EG.lt szq11)))).keep K18 (own_nin1 (Ne.symm (Nat.ne_of_lt (Nat.lt_of_lt_of_le fsE.lt szq11))))))⟩, (by rw [e19]; exact Ea18), (by rw [e19]; exact Fa18_0), (by rw [e19]; exact Fa18_1)⟩
theorem own_k1024 {k : Int32} (h : 0 ≤ k.toInt ∧ k.toInt < 10) : ¬ (k = (1024 : Int32)) := by
  have t : (1024 : Int32).toInt = 1024 := rfl
  rw [← Int32.toInt_inj, t]
  omega
theorem ef_10B (m : MethodId) (a0 : Addr) (a1 : Addr) : entryFrame m #[(.ref a0), (.ref a1), (.int (-1 : Int32)), (.int (-1 : Int32))] 6 = mkF m 0 #[.val (.ref a0), .val (.ref a1), .val (.int (-1 : Int32)), .val (.int (-1 : Int32)), .unset, .unset] [] := by first | (simp [entryFrame, mkF, argsToLocals, Value.category]; done) | rfl
def Q10B (Z : State) (a0 : Addr) (a1 : Addr) (aL : Addr) (aP : Addr) (aR : Addr) (aF : Addr) (aE : Addr) (aT : Addr) (aA : Addr) (wl : Int32) (ed : Int32) (ini : Int32) (FF : Nat → Int32) (EE : Nat → Int32) (d : Addr) (k : Int32) (h0 : Heap) (n0 : Nat) (v : Option Value) (h : Heap) (L : List Loc) : Prop := v = some (.int 1) ∧ Fr n0 L ∧ Keep h0 h [a0, aL, aP, aR, a1, d] ∧ OwnG Z h a0 aL aP aR aF aE aT aA wl ed (ini + 1) FF EE ∧ OwnL Z h aL d (k + 1) (10 : Int32) ∧ Exa Z h a1 "com/example/changeset/changeset/check/FoundState" ∧ Fld Z h a1 "com/example/changeset/changeset/check/FoundState" "number" "I" (.int k) ∧ Fld Z h a1 "com/example/changeset/changeset/check/FoundState" "state" "Lcom/example/changeset/changeset/check/State;" .null
set_option maxRecDepth 65536 in
set_option maxHeartbeats 40000000 in
theorem rm10B (l : Launch) (Z : State) (aZ : Array Value) (hw : ∀ d ∈ tables_1, d.before aZ Z = true) (ws : List Jvm.Cond) (a0 : Addr) (a1 : Addr) (aL : Addr) (aP : Addr) (aR : Addr) (aF : Addr) (aE : Addr) (aT : Addr) (aA : Addr) (wl : Int32) (ed : Int32) (ini : Int32) (FF : Nat → Int32) (EE : Nat → Int32) (d : Addr) (k : Int32) (h0 : Heap) (n0 : Nat) (Z0 : n0 ≤ h0.size) (HG : OwnG Z h0 a0 aL aP aR aF aE aT aA wl ed ini FF EE) (HL : OwnL Z h0 aL d k 10) (fsE : Exa Z h0 a1 "com/example/changeset/changeset/check/FoundState") (fsN : Fld Z h0 a1 "com/example/changeset/changeset/check/FoundState" "number" "I" (.int (-1 : Int32))) (fsS : Fld Z h0 a1 "com/example/changeset/changeset/check/FoundState" "state" "Lcom/example/changeset/changeset/check/State;" .null) (D : [a0, aL, aP, aR, aF, aE, aT, aA, a1, d].Pairwise (· ≠ ·)) (GN : ∀ x ∈ [a0, aL, aP, aR, aF, aE, aT, aA, a1, d], n0 ≤ x) (hk : 0 ≤ k.toInt ∧ k.toInt < 10) :
    MetFree l (⟨"com/example/changeset/changeset/check/StateGraph", "add", "(Lcom/example/changeset/changeset/check/FoundState;II)Z"⟩ : MethodName) (head1 (Jvm.Cond.code (⟨"com/example/changeset/changeset/check/StateGraph", "add", "(Lcom/example/changeset/changeset/check/FoundState;II)Z"⟩ : MethodName) prog_39_method_3_code 6 (some .boolean) :: ws) ({ frames := 2, cells := 0, slots := 0, locals := 32 } : Room)) (fun a U => a = #[(.ref a0), (.ref a1), (.int (-1 : Int32)), (.int (-1 : Int32))] ∧ Z.Warmed39 U.vm ∧ U.heap = h0) (fun _ _ _ _ _ => True) (fun _ U o U' => ∃ v L, o = .returned v ∧ Q10B Z a0 a1 aL aP aR aF aE aT aA wl ed ini FF EE d k h0 n0 v U'.heap L ∧ FrameEnd U o U' L 0 0) := by
  refine MetFree.of_bodySF (plainFor_of_name pn_6) hisR ?_
  intro p e s m args below meth c s₁ Bd hml0 hP hK
  obtain ⟨rfl, hZ, hh⟩ := hP
  have hx := Bd.exec
  have hby := Bd.bytes
  have hml : c.maxLocals = 6 := hml0
  have hown : s.vm.findClass "com/example/changeset/changeset/check/StateGraph" = some m.cls := findClass_of_methodNamed Bd.named
  have hnm := (name_of_methodNamed Bd.named Bd.method).1
  have hlk := BodyLoose.notSynchronized Bd
  have X0 : Stand p l e ({ frames := 2, cells := 0, slots := 0, locals := 32 } : Room) s m #[(.ref a0), (.ref a1), (.int (-1 : Int32)), (.int (-1 : Int32))] below meth c s₁ [] 0 0 := Stand.of_body Bd
  have e0 : s₁.heap = h0 := by rw [← hh, Bd.state]; rfl
  have N0 := Fr.nil n0
  have hk0 : 0 ≤ 0 := Nat.zero_le _
  have hn0 : 0 ≤ 0 := Nat.zero_le _
  show OwnEnds p e below (OwnQ s (Q10B Z a0 a1 aL aP aR aF aE aT aA wl ed ini FF EE d k h0 n0) 0 0) (s₁.setTop (entryFrame m #[(.ref a0), (.ref a1), (.int (-1 : Int32)), (.int (-1 : Int32))] 6))
  refine .pre (fun t k => castTop (ef_10B m a0 a1) k) ?_
  obtain ⟨EG, G0, G1, G2, G3, G4, G5, G6, G7, G8, G9, G10, ⟨fP, AP⟩, ⟨fR, AR⟩, AF, AE, ⟨fT, AT⟩, ⟨fA, AA⟩⟩ := id HG
  obtain ⟨ELx, ⟨mc, Lx1⟩, Lx2, Lx3, RDx⟩ := HL
  have g_a0 : n0 ≤ a0 := GN _ (List.mem_of_getElem? (i := 0) rfl)
  have g_aL : n0 ≤ aL := GN _ (List.mem_of_getElem? (i := 1) rfl)
  have g_aP : n0 ≤ aP := GN _ (List.mem_of_getElem? (i := 2) rfl)
  have g_aR : n0 ≤ aR := GN _ (List.mem_of_getElem? (i := 3) rfl)
  have g_aF : n0 ≤ aF := GN _ (List.mem_of_getElem? (i := 4) rfl)
  have g_aE : n0 ≤ aE := GN _ (List.mem_of_getElem? (i := 5) rfl)
  have g_aT : n0 ≤ aT := GN _ (List.mem_of_getElem? (i := 6) rfl)
  have g_aA : n0 ≤ aA := GN _ (List.mem_of_getElem? (i := 7) rfl)
  have g_a1 : n0 ≤ a1 := GN _ (List.mem_of_getElem? (i := 8) rfl)
  have g_d : n0 ≤ d := GN _ (List.mem_of_getElem? (i := 9) rfl)
  show OwnEnds p e below _ (s₁.setTop (mkF m 0 #[.val (.ref a0), .val (.ref a1), .val (.int (-1 : Int32)), .val (.int (-1 : Int32)), .unset, .unset] []))
  refine .pre (fun _ kq => XS.aloadN X0.here hx rfl (hb hby d10_0) rfl rfl kq) ?_
  show OwnEnds p e below _ (s₁.setTop (mkF m 1 #[.val (.ref a0), .val (.ref a1), .val (.int (-1 : Int32)), .val (.int (-1 : Int32)), .unset, .unset] [(.ref a1)]))
  obtain ⟨cq1, kq1, q1a, q1b, q1c⟩ := isOf hZ e0 fsE
  obtain ⟨_, _, ⟨T1, L1, k1, n1⟩, -, X1, ⟨Lc1, hQ1, l1, y1, z1⟩, st1⟩ := X0.virtualBack hx (y := (⟨"com/example/changeset/changeset/check/FoundState", "number", "()I"⟩ : MethodName)) (z := (⟨"com/example/changeset/changeset/check/FoundState", "number", "()I"⟩ : MethodName)) hown (mvT hZ (hw _ (List.mem_of_getElem? (i := 93) rfl))) (mvT hZ (hw _ (List.mem_of_getElem? (i := 94) rfl))) (notFace_of_selects (args := #[]) (mvT hZ (hw _ (List.mem_of_getElem? (i := 96) rfl)))) (mvT hZ (hw _ (List.mem_of_getElem? (i := 96) rfl))) (mvT hZ (hw _ (List.mem_of_getElem? (i := 95) rfl))) (by decide) (backOf (W := 0) (rm11 l Z aZ hw [] a1 (-1 : Int32) h0 n0 Z0 fsN) hZ (hw _ (List.mem_of_getElem? (i := 97) rfl)) (hw _ (List.mem_of_getElem? (i := 78) rfl)) (by decide) (by decide)) q1a q1c (g := (mkF m 1 #[.val (.ref a0), .val (.ref a1), .val (.int (-1 : Int32)), .val (.int (-1 : Int32)), .unset, .unset] [(.ref a1)])) rfl (by rw [hml]; rfl) (Steps.refl _) (argsL := []) (rest := []) (lenOf pd_12 rfl) rfl (by show 2 * 0 + _ ≤ _; exact Nat.le_of_eq rfl) (hb hby d10_1) (fun _ _ => ⟨rfl, e0, (by decide : 0 + 0 ≤ _), (by decide : 0 + 0 ≤ _)⟩)
  dsimp only [Pt.U, Pt.locs, Pt.cells, Pt.slots] at X1 l1 y1 z1 st1 hQ1
  try dsimp only [Nat.reduceAdd] at y1 z1
  subst y1 z1
  obtain ⟨rfl, N1q, e1⟩ := hQ1
  have N1 : Fr n0 L1 := by rw [l1]; exact Fr.app N0 N1q
  refine .pre (fun _ kq => st1.trans kq) ?_
  show OwnEnds p e below _ (T1.setTop (mkF m 4 #[.val (.ref a0), .val (.ref a1), .val (.int (-1 : Int32)), .val (.int (-1 : Int32)), .unset, .unset] [(.int (-1 : Int32))]))
  have hc4 : ((-1 : Int32) < (0 : Int32)) := by decide
  refine .pre (fun _ kq => XS.ifNo X1.here hx rfl (hb hby d10_4) rfl ((if0 _ _).trans (tlt hc4).2.1) kq) ?_
  show OwnEnds p e below _ (T1.setTop (mkF m 7 #[.val (.ref a0), .val (.ref a1), .val (.int (-1 : Int32)), .val (.int (-1 : Int32)), .unset, .unset] []))
  refine .pre (fun _ kq => XS.iconst X1.here hx rfl (hb hby d10_7) kq) ?_
  show OwnEnds p e below _ (T1.setTop (mkF m 8 #[.val (.ref a0), .val (.ref a1), .val (.int (-1 : Int32)), .val (.int (-1 : Int32)), .unset, .unset] [(.int (1 : Int32))]))
  refine .pre (fun _ kq => XS.goto X1.here hx rfl (pc0 := 8) (pc' := 12) rfl (hb hby d10_8) (by decide) (by decide) kq) ?_
  show OwnEnds p e below _ (T1.setTop (mkF m 12 #[.val (.ref a0), .val (.ref a1), .val (.int (-1 : Int32)), .val (.int (-1 : Int32)), .unset, .unset] [(.int (1 : Int32))]))
  refine .pre (fun _ kq => XS.istore X1.here hx rfl (hb hby d10_12) rfl (l' := #[.val (.ref a0), .val (.ref a1), .val (.int (-1 : Int32)), .val (.int (-1 : Int32)), .val (.int (1 : Int32)), .unset]) rfl kq) ?_
  show OwnEnds p e below _ (T1.setTop (mkF m 14 #[.val (.ref a0), .val (.ref a1), .val (.int (-1 : Int32)), .val (.int (-1 : Int32)), .val (.int (1 : Int32)), .unset] []))
  refine .pre (fun _ kq => XS.iload X1.here hx rfl (hb hby d10_14) rfl kq) ?_
  show OwnEnds p e below _ (T1.setTop (mkF m 16 #[.val (.ref a0), .val (.ref a1), .val (.int (-1 : Int32)), .val (.int (-1 : Int32)), .val (.int (1 : Int32)), .unset] [(.int (1 : Int32))]))
  have hc16 : ¬ ((1 : Int32) = (0 : Int32)) := by decide
  refine .pre (fun _ kq => XS.ifNo X1.here hx rfl (hb hby d10_16) rfl ((if0 _ _).trans (feq hc16).1) kq) ?_
  show OwnEnds p e below _ (T1.setTop (mkF m 19 #[.val (.ref a0), .val (.ref a1), .val (.int (-1 : Int32)), .val (.int (-1 : Int32)), .val (.int (1 : Int32)), .unset] []))
  refine .pre (fun _ kq => XS.aloadN X1.here hx rfl (hb hby d10_19) rfl rfl kq) ?_
  show OwnEnds p e below _ (T1.setTop (mkF m 20 #[.val (.ref a0), .val (.ref a1), .val (.int (-1 : Int32)), .val (.int (-1 : Int32)), .val (.int (1 : Int32)), .unset] [(.ref a0)]))
  obtain ⟨T2, X2, e2, st2⟩ := getF X1 hx hZ hown (host := "") (Or.inl (hw _ (List.mem_of_getElem? (i := 54) rfl))) Via.refl e1 G0 (g := (mkF m 20 #[.val (.ref a0), .val (.ref a1), .val (.int (-1 : Int32)), .val (.int (-1 : Int32)), .val (.int (1 : Int32)), .unset] [(.ref a0)])) rfl rfl (hb hby d10_20)
  refine .pre (fun _ kq => st2 _ kq) ?_
  show OwnEnds p e below _ (T2.setTop (mkF m 23 #[.val (.ref a0), .val (.ref a1), .val (.int (-1 : Int32)), .val (.int (-1 : Int32)), .val (.int (1 : Int32)), .unset] [(.ref aL)]))
  obtain ⟨cq3, kq3, q3a, q3b, q3c⟩ := isOf hZ e2 ELx
  obtain ⟨_, _, ⟨T3, L3, k3, n3⟩, -, X3, ⟨Lc3, hQ3, l3, y3, z3⟩, st3⟩ := X2.interfaceBack hx (xi := (⟨"java/util/List", "size", "()I"⟩ : MethodName)) (y := (⟨"java/util/ArrayList", "size", "()I"⟩ : MethodName)) hown (mvT hZ (hw _ (List.mem_of_getElem? (i := 98) rfl))) (mvT hZ (hw _ (List.mem_of_getElem? (i := 99) rfl))) (mvT hZ (hw _ (List.mem_of_getElem? (i := 100) rfl))) (mvT hZ (hw _ (List.mem_of_getElem? (i := 101) rfl))) (mvT hZ (hw _ (List.mem_of_getElem? (i := 102) rfl))) (mvT hZ (hw _ (List.mem_of_getElem? (i := 103) rfl))) (mvT hZ (hw _ (List.mem_of_getElem? (i := 104) rfl))) (mvT hZ (hw _ (List.mem_of_getElem? (i := 105) rfl))) (by decide) (backOf (W := 0) (rm12 l Z aZ hw [] aL k h0 n0 Z0 Lx3) hZ (hw _ (List.mem_of_getElem? (i := 106) rfl)) (hw _ (List.mem_of_getElem? (i := 9) rfl)) (by decide) (by decide)) q3a q3b q3c (g := (mkF m 23 #[.val (.ref a0), .val (.ref a1), .val (.int (-1 : Int32)), .val (.int (-1 : Int32)), .val (.int (1 : Int32)), .unset] [(.ref aL)])) rfl (by rw [hml]; rfl) (Steps.refl _) (argsL := []) (rest := []) (lenOf pd_12 rfl) rfl (by show 2 * 0 + _ ≤ _; exact Nat.le_of_eq rfl) (hb hby d10_23) (fun _ _ => ⟨rfl, e2, (by decide : 0 + 0 ≤ _), (by decide : 0 + 0 ≤ _)⟩)
  dsimp only [Pt.U, Pt.locs, Pt.cells, Pt.slots] at X3 l3 y3 z3 st3 hQ3
  try dsimp only [Nat.reduceAdd] at y3 z3
  subst y3 z3
  obtain ⟨rfl, N3q, e3⟩ := hQ3
  have N3 : Fr n0 L3 := by rw [l3]; exact Fr.app N1 N3q
  refine .pre (fun _ kq => st3.trans kq) ?_
  show OwnEnds p e below _ (T3.setTop (mkF m 28 #[.val (.ref a0), .val (.ref a1), .val (.int (-1 : Int32)), .val (.int (-1 : Int32)), .val (.int (1 : Int32)), .unset] [(.int k)]))
  refine .pre (fun _ kq => XS.istore X3.here hx rfl (hb hby d10_28) rfl (l' := #[.val (.ref a0), .val (.ref a1), .val (.int (-1 : Int32)), .val (.int (-1 : Int32)), .val (.int (1 : Int32)), .val (.int k)]) rfl kq) ?_
  show OwnEnds p e below _ (T3.setTop (mkF m 30 #[.val (.ref a0), .val (.ref a1), .val (.int (-1 : Int32)), .val (.int (-1 : Int32)), .val (.int (1 : Int32)), .val (.int k)] []))
  refine .pre (fun _ kq => XS.iload X3.here hx rfl (hb hby d10_30) rfl kq) ?_
  show OwnEnds p e below _ (T3.setTop (mkF m 32 #[.val (.ref a0), .val (.ref a1), .val (.int (-1 : Int32)), .val (.int (-1 : Int32)), .val (.int (1 : Int32)), .val (.int k)] [(.int k)]))
  refine .pre (fun _ kq => XS.aloadN X3.here hx rfl (hb hby d10_32) rfl rfl kq) ?_
  show OwnEnds p e below _ (T3.setTop (mkF m 33 #[.val (.ref a0), .val (.ref a1), .val (.int (-1 : Int32)), .val (.int (-1 : Int32)), .val (.int (1 : Int32)), .val (.int k)] [(.ref a0), (.int k)]))
  obtain ⟨T4, X4, e4, st4⟩ := getF X3 hx hZ hown (host := "") (Or.inl (hw _ (List.mem_of_getElem? (i := 57) rfl))) Via.refl e3 G1 (g := (mkF m 33 #[.val (.ref a0), .val (.ref a1), .val (.int (-1 : Int32)), .val (.int (-1 : Int32)), .val (.int (1 : Int32)), .val (.int k)] [(.ref a0), (.int k)])) rfl rfl (hb hby d10_33)
  refine .pre (fun _ kq => st4 _ kq) ?_
  show OwnEnds p e below _ (T4.setTop (mkF m 36 #[.val (.ref a0), .val (.ref a1), .val (.int (-1 : Int32)), .val (.int (-1 : Int32)), .val (.int (1 : Int32)), .val (.int k)] [(.ref aP), (.int k)]))
  obtain ⟨cl5, Ar5, qs5, qh5⟩ := id AP
  refine .pre (fun _ kq => X4.arraylength hx (by rw [e4]; exact Ar5.1) (State.isArrayOf_alike hZ.alike Ar5.2.1) (g := (mkF m 36 #[.val (.ref a0), .val (.ref a1), .val (.int (-1 : Int32)), .val (.int (-1 : Int32)), .val (.int (1 : Int32)), .val (.int k)] [(.ref aP), (.int k)])) rfl rfl (hb hby d10_36) _ kq) ?_
  rw [own_len1024 qs5]
  show OwnEnds p e below _ (T4.setTop (mkF m 37 #[.val (.ref a0), .val (.ref a1), .val (.int (-1 : Int32)), .val (.int (-1 : Int32)), .val (.int (1 : Int32)), .val (.int k)] [(.int (1024 : Int32)), (.int k)]))
  have hc37 : ¬ (k = (1024 : Int32)) := own_k1024 hk
  refine .pre (fun _ kq => XS.icmpYes X4.here hx rfl (pc0 := 37) (pc' := 70) rfl (hb hby d10_37) rfl (feq hc37).2 (by decide) (by decide) kq) ?_
  show OwnEnds p e below _ (T4.setTop (mkF m 70 #[.val (.ref a0), .val (.ref a1), .val (.int (-1 : Int32)), .val (.int (-1 : Int32)), .val (.int (1 : Int32)), .val (.int k)] []))
  refine .pre (fun _ kq => XS.aloadN X4.here hx rfl (hb hby d10_70) rfl rfl kq) ?_
  show OwnEnds p e below _ (T4.setTop (mkF m 71 #[.val (.ref a0), .val (.ref a1), .val (.int (-1 : Int32)), .val (.int (-1 : Int32)), .val (.int (1 : Int32)), .val (.int k)] [(.ref a0)]))
  obtain ⟨T6, X6, e6, st6⟩ := getF X4 hx hZ hown (host := "") (Or.inl (hw _ (List.mem_of_getElem? (i := 65) rfl))) Via.refl e4 G4 (g := (mkF m 71 #[.val (.ref a0), .val (.ref a1), .val (.int (-1 : Int32)), .val (.int (-1 : Int32)), .val (.int (1 : Int32)), .val (.int k)] [(.ref a0)])) rfl rfl (hb hby d10_71)
  refine .pre (fun _ kq => st6 _ kq) ?_
  show OwnEnds p e below _ (T6.setTop (mkF m 74 #[.val (.ref a0), .val (.ref a1), .val (.int (-1 : Int32)), .val (.int (-1 : Int32)), .val (.int (1 : Int32)), .val (.int k)] [(.int (1 : Int32))]))
  have hc74 : ¬ ((1 : Int32) = (0 : Int32)) := by decide
  refine .pre (fun _ kq => XS.ifNo X6.here hx rfl (hb hby d10_74) rfl ((if0 _ _).trans (feq hc74).1) kq) ?_
  show OwnEnds p e below _ (T6.setTop (mkF m 77 #[.val (.ref a0), .val (.ref a1), .val (.int (-1 : Int32)), .val (.int (-1 : Int32)), .val (.int (1 : Int32)), .val (.int k)] []))
  refine .pre (fun _ kq => XS.iload X6.here hx rfl (hb hby d10_77) rfl kq) ?_
  show OwnEnds p e below _ (T6.setTop (mkF m 79 #[.val (.ref a0), .val (.ref a1), .val (.int (-1 : Int32)), .val (.int (-1 : Int32)), .val (.int (1 : Int32)), .val (.int k)] [(.int k)]))
  refine .pre (fun _ kq => XS.aloadN X6.here hx rfl (hb hby d10_79) rfl rfl kq) ?_
  show OwnEnds p e below _ (T6.setTop (mkF m 80 #[.val (.ref a0), .val (.ref a1), .val (.int (-1 : Int32)), .val (.int (-1 : Int32)), .val (.int (1 : Int32)), .val (.int k)] [(.ref a0), (.int k)]))
  obtain ⟨T7, X7, e7, st7⟩ := getF X6 hx hZ hown (host := "") (Or.inl (hw _ (List.mem_of_getElem? (i := 67) rfl))) Via.refl e6 G5 (g := (mkF m 80 #[.val (.ref a0), .val (.ref a1), .val (.int (-1 : Int32)), .val (.int (-1 : Int32)), .val (.int (1 : Int32)), .val (.int k)] [(.ref a0), (.int k)])) rfl rfl (hb hby d10_80)
  refine .pre (fun _ kq => st7 _ kq) ?_
  show OwnEnds p e below _ (T7.setTop (mkF m 83 #[.val (.ref a0), .val (.ref a1), .val (.int (-1 : Int32)), .val (.int (-1 : Int32)), .val (.int (1 : Int32)), .val (.int k)] [(.ref aF), (.int k)]))
  obtain ⟨cl8, Ar8, qs8, qh8⟩ := id AF
  refine .pre (fun _ kq => X7.arraylength hx (by rw [e7]; exact Ar8.1) (State.isArrayOf_alike hZ.alike Ar8.2.1) (g := (mkF m 83 #[.val (.ref a0), .val (.ref a1), .val (.int (-1 : Int32)), .val (.int (-1 : Int32)), .val (.int (1 : Int32)), .val (.int k)] [(.ref aF), (.int k)])) rfl rfl (hb hby d10_83) _ kq) ?_
  rw [own_len1024 qs8]
  show OwnEnds p e below _ (T7.setTop (mkF m 84 #[.val (.ref a0), .val (.ref a1), .val (.int (-1 : Int32)), .val (.int (-1 : Int32)), .val (.int (1 : Int32)), .val (.int k)] [(.int (1024 : Int32)), (.int k)]))
  have hc84 : ¬ (k = (1024 : Int32)) := own_k1024 hk
  refine .pre (fun _ kq => XS.icmpYes X7.here hx rfl (pc0 := 84) (pc' := 117) rfl (hb hby d10_84) rfl (feq hc84).2 (by decide) (by decide) kq) ?_
  show OwnEnds p e below _ (T7.setTop (mkF m 117 #[.val (.ref a0), .val (.ref a1), .val (.int (-1 : Int32)), .val (.int (-1 : Int32)), .val (.int (1 : Int32)), .val (.int k)] []))
  refine .pre (fun _ kq => XS.aloadN X7.here hx rfl (hb hby d10_117) rfl rfl kq) ?_
  show OwnEnds p e below _ (T7.setTop (mkF m 118 #[.val (.ref a0), .val (.ref a1), .val (.int (-1 : Int32)), .val (.int (-1 : Int32)), .val (.int (1 : Int32)), .val (.int k)] [(.ref a0)]))
  obtain ⟨T9, X9, e9, st9⟩ := getF X7 hx hZ hown (host := "") (Or.inl (hw _ (List.mem_of_getElem? (i := 54) rfl))) Via.refl e7 G0 (g := (mkF m 118 #[.val (.ref a0), .val (.ref a1), .val (.int (-1 : Int32)), .val (.int (-1 : Int32)), .val (.int (1 : Int32)), .val (.int k)] [(.ref a0)])) rfl rfl (hb hby d10_118)
  refine .pre (fun _ kq => st9 _ kq) ?_
  show OwnEnds p e below _ (T9.setTop (mkF m 121 #[.val (.ref a0), .val (.ref a1), .val (.int (-1 : Int32)), .val (.int (-1 : Int32)), .val (.int (1 : Int32)), .val (.int k)] [(.ref aL)]))
  refine .pre (fun _ kq => XS.aloadN X9.here hx rfl (hb hby d10_121) rfl rfl kq) ?_
  show OwnEnds p e below _ (T9.setTop (mkF m 122 #[.val (.ref a0), .val (.ref a1), .val (.int (-1 : Int32)), .val (.int (-1 : Int32)), .val (.int (1 : Int32)), .val (.int k)] [(.ref a1), (.ref aL)]))
  obtain ⟨cq10, kq10, q10a, q10b, q10c⟩ := isOf hZ e9 fsE
  obtain ⟨_, _, ⟨T10, L10, k10, n10⟩, -, X10, ⟨Lc10, hQ10, l10, y10, z10⟩, st10⟩ := X9.virtualBack hx (y := (⟨"com/example/changeset/changeset/check/FoundState", "state", "()Lcom/example/changeset/changeset/check/State;"⟩ : MethodName)) (z := (⟨"com/example/changeset/changeset/check/FoundState", "state", "()Lcom/example/changeset/changeset/check/State;"⟩ : MethodName)) hown (mvT hZ (hw _ (List.mem_of_getElem? (i := 109) rfl))) (mvT hZ (hw _ (List.mem_of_getElem? (i := 110) rfl))) (notFace_of_selects (args := #[]) (mvT hZ (hw _ (List.mem_of_getElem? (i := 112) rfl)))) (mvT hZ (hw _ (List.mem_of_getElem? (i := 112) rfl))) (mvT hZ (hw _ (List.mem_of_getElem? (i := 111) rfl))) (by decide) (backOf (W := 1) (rm13 l Z aZ hw [] a1 h0 n0 Z0 fsS) hZ (hw _ (List.mem_of_getElem? (i := 113) rfl)) (hw _ (List.mem_of_getElem? (i := 78) rfl)) (by decide) (by decide)) q10a q10c (g := (mkF m 122 #[.val (.ref a0), .val (.ref a1), .val (.int (-1 : Int32)), .val (.int (-1 : Int32)), .val (.int (1 : Int32)), .val (.int k)] [(.ref a1), (.ref aL)])) rfl (by rw [hml]; rfl) (Steps.refl _) (argsL := []) (rest := [(.ref aL)]) (lenOf pd_13 rfl) rfl (by show 2 * 0 + _ ≤ _; exact Nat.le_of_eq rfl) (hb hby d10_122) (fun _ _ => ⟨rfl, e9, (by decide : 0 + 0 ≤ _), (by decide : 0 + 0 ≤ _)⟩)
  dsimp only [Pt.U, Pt.locs, Pt.cells, Pt.slots] at X10 l10 y10 z10 st10 hQ10
  try dsimp only [Nat.reduceAdd] at y10 z10
  subst y10 z10
  obtain ⟨rfl, N10q, e10⟩ := hQ10
  have N10 : Fr n0 L10 := by rw [l10]; exact Fr.app N3 N10q
  refine .pre (fun _ kq => st10.trans kq) ?_
  show OwnEnds p e below _ (T10.setTop (mkF m 125 #[.val (.ref a0), .val (.ref a1), .val (.int (-1 : Int32)), .val (.int (-1 : Int32)), .val (.int (1 : Int32)), .val (.int k)] [.null, (.ref aL)]))
  obtain ⟨cq11, kq11, q11a, q11b, q11c⟩ := isOf hZ e10 ELx
  obtain ⟨_, _, ⟨T11, L11, k11, n11⟩, -, X11, ⟨Lc11, hQ11, l11, y11, z11⟩, st11⟩ := X10.interfaceBack hx (xi := (⟨"java/util/List", "add", "(Ljava/lang/Object;)Z"⟩ : MethodName)) (y := (⟨"java/util/ArrayList", "add", "(Ljava/lang/Object;)Z"⟩ : MethodName)) hown (mvT hZ (hw _ (List.mem_of_getElem? (i := 114) rfl))) (mvT hZ (hw _ (List.mem_of_getElem? (i := 115) rfl))) (mvT hZ (hw _ (List.mem_of_getElem? (i := 116) rfl))) (mvT hZ (hw _ (List.mem_of_getElem? (i := 117) rfl))) (mvT hZ (hw _ (List.mem_of_getElem? (i := 118) rfl))) (mvT hZ (hw _ (List.mem_of_getElem? (i := 119) rfl))) (mvT hZ (hw _ (List.mem_of_getElem? (i := 120) rfl))) (mvT hZ (hw _ (List.mem_of_getElem? (i := 105) rfl))) (by decide) (backOf (W := 0) (rm14B l Z aZ hw [] aL d k mc h0 n0 Z0 ELx Lx1 Lx2 Lx3 RDx (own_nd D 1 9 rfl rfl (by decide)) g_aL g_d hk) hZ (hw _ (List.mem_of_getElem? (i := 121) rfl)) (hw _ (List.mem_of_getElem? (i := 9) rfl)) (by decide) (by decide)) q11a q11b q11c (g := (mkF m 125 #[.val (.ref a0), .val (.ref a1), .val (.int (-1 : Int32)), .val (.int (-1 : Int32)), .val (.int (1 : Int32)), .val (.int k)] [.null, (.ref aL)])) rfl (by rw [hml]; rfl) (Steps.refl _) (argsL := [.null]) (rest := []) (lenOf pd_14 rfl) rfl (by show 2 * 0 + _ ≤ _; exact Nat.le_of_eq rfl) (hb hby d10_125) (fun _ _ => ⟨rfl, e10, (by decide : 0 + 0 ≤ _), (by decide : 0 + 0 ≤ _)⟩)
  dsimp only [Pt.U, Pt.locs, Pt.cells, Pt.slots] at X11 l11 y11 z11 st11 hQ11
  try dsimp only [Nat.reduceAdd] at y11 z11
  subst y11 z11
  obtain ⟨rfl, N11q, K11, Lq11_0, ⟨mcq11, Lq11_1⟩, Lq11_2, Lq11_3, Lq11_4⟩ := hQ11
  have N11 : Fr n0 L11 := by rw [l11]; exact Fr.app N10 N11q
  refine .pre (fun _ kq => st11.trans kq) ?_
  have Kp11 : Keep h0 T11.heap [a0, aL, aP, aR, a1, d] := (Keep.refl h0 [a0, aL, aP, aR, a1, d]).trans K11 (allS (Or.inl (List.mem_of_getElem? (i := 1) rfl)) (allS (Or.inl (List.mem_of_getElem? (i := 5) rfl)) all0))
  show OwnEnds p e below _ (T11.setTop (mkF m 130 #[.val (.ref a0), .val (.ref a1), .val (.int (-1 : Int32)), .val (.int (-1 : Int32)), .val (.int (1 : Int32)), .val (.int k)] [(.int (1 : Int32))]))
  refine .pre (fun _ kq => XS.pop X11.here hx rfl (hb hby d10_130) rfl rfl kq) ?_
  show OwnEnds p e below _ (T11.setTop (mkF m 131 #[.val (.ref a0), .val (.ref a1), .val (.int (-1 : Int32)), .val (.int (-1 : Int32)), .val (.int (1 : Int32)), .val (.int k)] []))
  refine .pre (fun _ kq => XS.aloadN X11.here hx rfl (hb hby d10_131) rfl rfl kq) ?_
  show OwnEnds p e below _ (T11.setTop (mkF m 132 #[.val (.ref a0), .val (.ref a1), .val (.int (-1 : Int32)), .val (.int (-1 : Int32)), .val (.int (1 : Int32)), .val (.int k)] [(.ref a0)]))
  obtain ⟨T12, X12, e12, st12⟩ := getF X11 hx hZ hown (host := "") (Or.inl (hw _ (List.mem_of_getElem? (i := 57) rfl))) Via.refl rfl (G1.keep K11 (own_nin2 (own_nd D 0 1 rfl rfl (by decide)) (own_nd D 0 9 rfl rfl (by decide)))) (g := (mkF m 132 #[.val (.ref a0), .val (.ref a1), .val (.int (-1 : Int32)), .val (.int (-1 : Int32)), .val (.int (1 : Int32)), .val (.int k)] [(.ref a0)])) rfl rfl (hb hby d10_132)
  refine .pre (fun _ kq => st12 _ kq) ?_
  show OwnEnds p e below _ (T12.setTop (mkF m 135 #[.val (.ref a0), .val (.ref a1), .val (.int (-1 : Int32)), .val (.int (-1 : Int32)), .val (.int (1 : Int32)), .val (.int k)] [(.ref aP)]))
  refine .pre (fun _ kq => XS.iload X12.here hx rfl (hb hby d10_135) rfl kq) ?_
  show OwnEnds p e below _ (T12.setTop (mkF m 137 #[.val (.ref a0), .val (.ref a1), .val (.int (-1 : Int32)), .val (.int (-1 : Int32)), .val (.int (1 : Int32)), .val (.int k)] [(.int k), (.ref aP)]))
  refine .pre (fun _ kq => XS.iloadN X12.here hx rfl (hb hby d10_137) rfl kq) ?_
  show OwnEnds p e below _ (T12.setTop (mkF m 138 #[.val (.ref a0), .val (.ref a1), .val (.int (-1 : Int32)), .val (.int (-1 : Int32)), .val (.int (1 : Int32)), .val (.int k)] [(.int (-1 : Int32)), (.int k), (.ref aP)]))
  obtain ⟨cl13, Ar13, qs13, qh13⟩ := id (AP.keep K11 (own_nin2 (Ne.symm (own_nd D 1 2 rfl rfl (by decide))) (own_nd D 2 9 rfl rfl (by decide))))
  have hj13 : 0 ≤ (k).toInt ∧ (k).toInt < 1024 := ⟨hk.1, by have := hk.2; omega⟩
  obtain ⟨T13, h13, X13, e13, W13, st13⟩ := stI X12 hx hZ e12 Ar13 (j := k) (own_in1024 qs13 hj13) (g := (mkF m 138 #[.val (.ref a0), .val (.ref a1), .val (.int (-1 : Int32)), .val (.int (-1 : Int32)), .val (.int (1 : Int32)), .val (.int k)] [(.int (-1 : Int32)), (.int k), (.ref aP)])) rfl rfl (hb hby d10_138)
  have V13 : OwnA Z h13 aP (own_upd fP (k).toNatClampNeg (-1 : Int32)) := OwnA.set Ar13 qs13 qh13 W13
  have N13 := Fr.snoc X13 N11 g_aP
  have Kp13 : Keep h0 h13 [a0, aL, aP, aR, a1, d] := Kp11.wr W13 (Or.inl (List.mem_of_getElem? (i := 2) rfl))
  refine .pre (fun _ kq => st13 _ kq) ?_
  show OwnEnds p e below _ (T13.setTop (mkF m 139 #[.val (.ref a0), .val (.ref a1), .val (.int (-1 : Int32)), .val (.int (-1 : Int32)), .val (.int (1 : Int32)), .val (.int k)] []))
  refine .pre (fun _ kq => XS.aloadN X13.here hx rfl (hb hby d10_139) rfl rfl kq) ?_
  show OwnEnds p e below _ (T13.setTop (mkF m 140 #[.val (.ref a0), .val (.ref a1), .val (.int (-1 : Int32)), .val (.int (-1 : Int32)), .val (.int (1 : Int32)), .val (.int k)] [(.ref a0)]))
  obtain ⟨T14, X14, e14, st14⟩ := getF X13 hx hZ hown (host := "") (Or.inl (hw _ (List.mem_of_getElem? (i := 59) rfl))) Via.refl e13 ((G2.keep K11 (own_nin2 (own_nd D 0 1 rfl rfl (by decide)) (own_nd D 0 9 rfl rfl (by decide)))).other W13 (Or.inl (own_nd D 0 2 rfl rfl (by decide)))) (g := (mkF m 140 #[.val (.ref a0), .val (.ref a1), .val (.int (-1 : Int32)), .val (.int (-1 : Int32)), .val (.int (1 : Int32)), .val (.int k)] [(.ref a0)])) rfl rfl (hb hby d10_140)
  refine .pre (fun _ kq => st14 _ kq) ?_
  show OwnEnds p e below _ (T14.setTop (mkF m 143 #[.val (.ref a0), .val (.ref a1), .val (.int (-1 : Int32)), .val (.int (-1 : Int32)), .val (.int (1 : Int32)), .val (.int k)] [(.ref aR)]))
  refine .pre (fun _ kq => XS.iload X14.here hx rfl (hb hby d10_143) rfl kq) ?_
  show OwnEnds p e below _ (T14.setTop (mkF m 145 #[.val (.ref a0), .val (.ref a1), .val (.int (-1 : Int32)), .val (.int (-1 : Int32)), .val (.int (1 : Int32)), .val (.int k)] [(.int k), (.ref aR)]))
  refine .pre (fun _ kq => XS.iloadN X14.here hx rfl (hb hby d10_145) rfl kq) ?_
  show OwnEnds p e below _ (T14.setTop (mkF m 146 #[.val (.ref a0), .val (.ref a1), .val (.int (-1 : Int32)), .val (.int (-1 : Int32)), .val (.int (1 : Int32)), .val (.int k)] [(.int (-1 : Int32)), (.int k), (.ref aR)]))
  obtain ⟨cl15, Ar15, qs15, qh15⟩ := id ((AR.keep K11 (own_nin2 (Ne.symm (own_nd D 1 3 rfl rfl (by decide))) (own_nd D 3 9 rfl rfl (by decide)))).other W13 (Ne.symm (own_nd D 2 3 rfl rfl (by decide))))
  have hj15 : 0 ≤ (k).toInt ∧ (k).toInt < 1024 := ⟨hk.1, by have := hk.2; omega⟩
  obtain ⟨T15, h15, X15, e15, W15, st15⟩ := stI X14 hx hZ e14 Ar15 (j := k) (own_in1024 qs15 hj15) (g := (mkF m 146 #[.val (.ref a0), .val (.ref a1), .val (.int (-1 : Int32)), .val (.int (-1 : Int32)), .val (.int (1 : Int32)), .val (.int k)] [(.int (-1 : Int32)), (.int k), (.ref aR)])) rfl rfl (hb hby d10_146)
  have V15 : OwnA Z h15 aR (own_upd fR (k).toNatClampNeg (-1 : Int32)) := OwnA.set Ar15 qs15 qh15 W15
  have N15 := Fr.snoc X15 N13 g_aR
  have Kp15 : Keep h0 h15 [a0, aL, aP, aR, a1, d] := Kp13.wr W15 (Or.inl (List.mem_of_getElem? (i := 3) rfl))
  refine .pre (fun _ kq => st15 _ kq) ?_
  show OwnEnds p e below _ (T15.setTop (mkF m 147 #[.val (.ref a0), .val (.ref a1), .val (.int (-1 : Int32)), .val (.int (-1 : Int32)), .val (.int (1 : Int32)), .val (.int k)] []))
  refine .pre (fun _ kq => XS.aloadN X15.here hx rfl (hb hby d10_147) rfl rfl kq) ?_
  show OwnEnds p e below _ (T15.setTop (mkF m 148 #[.val (.ref a0), .val (.ref a1), .val (.int (-1 : Int32)), .val (.int (-1 : Int32)), .val (.int (1 : Int32)), .val (.int k)] [(.ref a0)]))
  refine .pre (fun _ kq => XS.dup X15.here hx rfl (hb hby d10_148) rfl rfl kq) ?_
  show OwnEnds p e below _ (T15.setTop (mkF m 149 #[.val (.ref a0), .val (.ref a1), .val (.int (-1 : Int32)), .val (.int (-1 : Int32)), .val (.int (1 : Int32)), .val (.int k)] [(.ref a0), (.ref a0)]))
  obtain ⟨T16, X16, e16, st16⟩ := getF X15 hx hZ hown (host := "") (Or.inl (hw _ (List.mem_of_getElem? (i := 144) rfl))) Via.refl e15 (((G9.keep K11 (own_nin2 (own_nd D 0 1 rfl rfl (by decide)) (own_nd D 0 9 rfl rfl (by decide)))).other W13 (Or.inl (own_nd D 0 2 rfl rfl (by decide)))).other W15 (Or.inl (own_nd D 0 3 rfl rfl (by decide)))) (g := (mkF m 149 #[.val (.ref a0), .val (.ref a1), .val (.int (-1 : Int32)), .val (.int (-1 : Int32)), .val (.int (1 : Int32)), .val (.int k)] [(.ref a0), (.ref a0)])) rfl rfl (hb hby d10_149)
  refine .pre (fun _ kq => st16 _ kq) ?_
  show OwnEnds p e below _ (T16.setTop (mkF m 152 #[.val (.ref a0), .val (.ref a1), .val (.int (-1 : Int32)), .val (.int (-1 : Int32)), .val (.int (1 : Int32)), .val (.int k)] [(.int ini), (.ref a0)]))
  refine .pre (fun _ kq => XS.iloadN X16.here hx rfl (hb hby d10_152) rfl kq) ?_
  show OwnEnds p e below _ (T16.setTop (mkF m 153 #[.val (.ref a0), .val (.ref a1), .val (.int (-1 : Int32)), .val (.int (-1 : Int32)), .val (.int (1 : Int32)), .val (.int k)] [(.int (-1 : Int32)), (.int ini), (.ref a0)]))
  have hc153 : ((-1 : Int32) < (0 : Int32)) := by decide
  refine .pre (fun _ kq => XS.ifNo X16.here hx rfl (hb hby d10_153) rfl ((if0 _ _).trans (tlt hc153).2.1) kq) ?_
  show OwnEnds p e below _ (T16.setTop (mkF m 156 #[.val (.ref a0), .val (.ref a1), .val (.int (-1 : Int32)), .val (.int (-1 : Int32)), .val (.int (1 : Int32)), .val (.int k)] [(.int ini), (.ref a0)]))
  refine .pre (fun _ kq => XS.iconst X16.here hx rfl (hb hby d10_156) kq) ?_
  show OwnEnds p e below _ (T16.setTop (mkF m 157 #[.val (.ref a0), .val (.ref a1), .val (.int (-1 : Int32)), .val (.int (-1 : Int32)), .val (.int (1 : Int32)), .val (.int k)] [(.int (1 : Int32)), (.int ini), (.ref a0)]))
  refine .pre (fun _ kq => XS.goto X16.here hx rfl (pc0 := 157) (pc' := 161) rfl (hb hby d10_157) (by decide) (by decide) kq) ?_
  show OwnEnds p e below _ (T16.setTop (mkF m 161 #[.val (.ref a0), .val (.ref a1), .val (.int (-1 : Int32)), .val (.int (-1 : Int32)), .val (.int (1 : Int32)), .val (.int k)] [(.int (1 : Int32)), (.int ini), (.ref a0)]))
  refine .pre (fun _ kq => XS.iadd X16.here hx rfl (hb hby d10_161) rfl kq) ?_
  show OwnEnds p e below _ (T16.setTop (mkF m 162 #[.val (.ref a0), .val (.ref a1), .val (.int (-1 : Int32)), .val (.int (-1 : Int32)), .val (.int (1 : Int32)), .val (.int k)] [(.int (ini + (1 : Int32))), (.ref a0)]))
  obtain ⟨T17, h17, X17, e17, W17, st17⟩ := putF X16 hx hZ hown (host := "") (Or.inl (hw _ (List.mem_of_getElem? (i := 144) rfl))) Via.refl e16 (((G9.keep K11 (own_nin2 (own_nd D 0 1 rfl rfl (by decide)) (own_nd D 0 9 rfl rfl (by decide)))).other W13 (Or.inl (own_nd D 0 2 rfl rfl (by decide)))).other W15 (Or.inl (own_nd D 0 3 rfl rfl (by decide)))) (((EG.keep K11).wr W13).wr W15) (Or.inl (hw _ (List.mem_of_getElem? (i := 145) rfl))) (hw _ (List.mem_of_getElem? (i := 5) rfl)) (ty := .int) (by decide) rfl rfl (g := (mkF m 162 #[.val (.ref a0), .val (.ref a1), .val (.int (-1 : Int32)), .val (.int (-1 : Int32)), .val (.int (1 : Int32)), .val (.int k)] [(.int (ini + (1 : Int32))), (.ref a0)])) rfl rfl (hb hby d10_162)
  have Fw17 := (((G9.keep K11 (own_nin2 (own_nd D 0 1 rfl rfl (by decide)) (own_nd D 0 9 rfl rfl (by decide)))).other W13 (Or.inl (own_nd D 0 2 rfl rfl (by decide)))).other W15 (Or.inl (own_nd D 0 3 rfl rfl (by decide)))).same W17
  have N17 := Fr.snoc X17 N15 g_a0
  have Kp17 : Keep h0 h17 [a0, aL, aP, aR, a1, d] := Kp15.wr W17 (Or.inl (List.mem_of_getElem? (i := 0) rfl))
  refine .pre (fun _ kq => st17 _ kq) ?_
  show OwnEnds p e below _ (T17.setTop (mkF m 165 #[.val (.ref a0), .val (.ref a1), .val (.int (-1 : Int32)), .val (.int (-1 : Int32)), .val (.int (1 : Int32)), .val (.int k)] []))
  refine .pre (fun _ kq => XS.aloadN X17.here hx rfl (hb hby d10_165) rfl rfl kq) ?_
  show OwnEnds p e below _ (T17.setTop (mkF m 166 #[.val (.ref a0), .val (.ref a1), .val (.int (-1 : Int32)), .val (.int (-1 : Int32)), .val (.int (1 : Int32)), .val (.int k)] [(.ref a1)]))
  refine .pre (fun _ kq => XS.iload X17.here hx rfl (hb hby d10_166) rfl kq) ?_
  show OwnEnds p e below _ (T17.setTop (mkF m 168 #[.val (.ref a0), .val (.ref a1), .val (.int (-1 : Int32)), .val (.int (-1 : Int32)), .val (.int (1 : Int32)), .val (.int k)] [(.int k), (.ref a1)]))
  obtain ⟨cq18, kq18, q18a, q18b, q18c⟩ := isOf hZ e17 ((((fsE.keep K11).wr W13).wr W15).wr W17)
  obtain ⟨_, _, ⟨T18, L18, k18, n18⟩, -, X18, ⟨Lc18, hQ18, l18, y18, z18⟩, st18⟩ := X17.virtualBack hx (y := (⟨"com/example/changeset/changeset/check/FoundState", "number", "(I)V"⟩ : MethodName)) (z := (⟨"com/example/changeset/changeset/check/FoundState", "number", "(I)V"⟩ : MethodName)) hown (mvT hZ (hw _ (List.mem_of_getElem? (i := 146) rfl))) (mvT hZ (hw _ (List.mem_of_getElem? (i := 147) rfl))) (notFace_of_selects (args := #[]) (mvT hZ (hw _ (List.mem_of_getElem? (i := 149) rfl)))) (mvT hZ (hw _ (List.mem_of_getElem? (i := 149) rfl))) (mvT hZ (hw _ (List.mem_of_getElem? (i := 148) rfl))) (by decide) (backOf (W := 0) (rm19 l Z aZ hw [] a1 k (.int (-1 : Int32)) .null h17 n0 (Nat.le_trans (Nat.le_trans (Nat.le_trans (Nat.le_trans Z0 K11.1) (Keep.of_wr W13).1) (Keep.of_wr W15).1) (Keep.of_wr W17).1) g_a1 ((((fsE.keep K11).wr W13).wr W15).wr W17) ((((fsN.keep K11 (own_nin2 (Ne.symm (own_nd D 1 8 rfl rfl (by decide))) (own_nd D 8 9 rfl rfl (by decide)))).other W13 (Or.inl (Ne.symm (own_nd D 2 8 rfl rfl (by decide))))).other W15 (Or.inl (Ne.symm (own_nd D 3 8 rfl rfl (by decide))))).other W17 (Or.inl (Ne.symm (own_nd D 0 8 rfl rfl (by decide))))) ((((fsS.keep K11 (own_nin2 (Ne.symm (own_nd D 1 8 rfl rfl (by decide))) (own_nd D 8 9 rfl rfl (by decide)))).other W13 (Or.inl (Ne.symm (own_nd D 2 8 rfl rfl (by decide))))).other W15 (Or.inl (Ne.symm (own_nd D 3 8 rfl rfl (by decide))))).other W17 (Or.inl (Ne.symm (own_nd D 0 8 rfl rfl (by decide)))))) hZ (hw _ (List.mem_of_getElem? (i := 150) rfl)) (hw _ (List.mem_of_getElem? (i := 78) rfl)) (by decide) (by decide)) q18a q18c (g := (mkF m 168 #[.val (.ref a0), .val (.ref a1), .val (.int (-1 : Int32)), .val (.int (-1 : Int32)), .val (.int (1 : Int32)), .val (.int k)] [(.int k), (.ref a1)])) rfl (by rw [hml]; rfl) (Steps.refl _) (argsL := [(.int k)]) (rest := []) (lenOf pd_15 rfl) rfl (by show 2 * 0 + _ ≤ _; exact Nat.le_of_eq rfl) (hb hby d10_168) (fun _ _ => ⟨rfl, e17, (by decide : 0 + 0 ≤ _), (by decide : 0 + 0 ≤ _)⟩)
  dsimp only [Pt.U, Pt.locs, Pt.cells, Pt.slots] at X18 l18 y18 z18 st18 hQ18
  try dsimp only [Nat.reduceAdd] at y18 z18
  subst y18 z18
  obtain ⟨rfl, N18q, K18, Ea18, Fa18_0, Fa18_1⟩ := hQ18
  have N18 : Fr n0 L18 := by rw [l18]; exact Fr.app N17 N18q
  refine .pre (fun _ kq => st18.trans kq) ?_
  have Kp18 : Keep h0 T18.heap [a0, aL, aP, aR, a1, d] := Kp17.trans K18 (allS (Or.inl (List.mem_of_getElem? (i := 4) rfl)) all0)
  show OwnEnds p e below _ (T18.setTop (mkF m 171 #[.val (.ref a0), .val (.ref a1), .val (.int (-1 : Int32)), .val (.int (-1 : Int32)), .val (.int (1 : Int32)), .val (.int k)] []))
  refine .pre (fun _ kq => XS.aloadN X18.here hx rfl (hb hby d10_171) rfl rfl kq) ?_
  show OwnEnds p e below _ (T18.setTop (mkF m 172 #[.val (.ref a0), .val (.ref a1), .val (.int (-1 : Int32)), .val (.int (-1 : Int32)), .val (.int (1 : Int32)), .val (.int k)] [(.ref a0)]))
  obtain ⟨T19, X19, e19, st19⟩ := getF X18 hx hZ hown (host := "") (Or.inl (hw _ (List.mem_of_getElem? (i := 65) rfl))) Via.refl rfl (((((G4.keep K11 (own_nin2 (own_nd D 0 1 rfl rfl (by decide)) (own_nd D 0 9 rfl rfl (by decide)))).other W13 (Or.inl (own_nd D 0 2 rfl rfl (by decide)))).other W15 (Or.inl (own_nd D 0 3 rfl rfl (by decide)))).other W17 (Or.inr (slot_ne (Or.inr (hw _ (List.mem_of_getElem? (i := 66) rfl))) (Or.inl (hw _ (List.mem_of_getElem? (i := 145) rfl))) (by decide) (t := .boolean) (t' := .int) (by decide) (by decide)))).keep K18 (own_nin1 (own_nd D 0 8 rfl rfl (by decide)))) (g := (mkF m 172 #[.val (.ref a0), .val (.ref a1), .val (.int (-1 : Int32)), .val (.int (-1 : Int32)), .val (.int (1 : Int32)), .val (.int k)] [(.ref a0)])) rfl rfl (hb hby d10_172)
  refine .pre (fun _ kq => st19 _ kq) ?_
  show OwnEnds p e below _ (T19.setTop (mkF m 175 #[.val (.ref a0), .val (.ref a1), .val (.int (-1 : Int32)), .val (.int (-1 : Int32)), .val (.int (1 : Int32)), .val (.int k)] [(.int (1 : Int32))]))
  have hc175 : ¬ ((1 : Int32) = (0 : Int32)) := by decide
  refine .pre (fun _ kq => XS.ifNo X19.here hx rfl (hb hby d10_175) rfl ((if0 _ _).trans (feq hc175).1) kq) ?_
  show OwnEnds p e below _ (T19.setTop (mkF m 178 #[.val (.ref a0), .val (.ref a1), .val (.int (-1 : Int32)), .val (.int (-1 : Int32)), .val (.int (1 : Int32)), .val (.int k)] []))
  refine .pre (fun _ kq => XS.iloadN X19.here hx rfl (hb hby d10_178) rfl kq) ?_
  show OwnEnds p e below _ (T19.setTop (mkF m 179 #[.val (.ref a0), .val (.ref a1), .val (.int (-1 : Int32)), .val (.int (-1 : Int32)), .val (.int (1 : Int32)), .val (.int k)] [(.int (-1 : Int32))]))
  have hc179 : ((-1 : Int32) < (0 : Int32)) := by decide
  refine .pre (fun _ kq => XS.ifYes X19.here hx rfl (pc0 := 179) (pc' := 192) rfl (hb hby d10_179) rfl ((if0 _ _).trans (tlt hc179).1) (by decide) (by decide) kq) ?_
  show OwnEnds p e below _ (T19.setTop (mkF m 192 #[.val (.ref a0), .val (.ref a1), .val (.int (-1 : Int32)), .val (.int (-1 : Int32)), .val (.int (1 : Int32)), .val (.int k)] []))
  refine .pre (fun _ kq => XS.iload X19.here hx rfl (hb hby d10_192) rfl kq) ?_
  show OwnEnds p e below _ (T19.setTop (mkF m 194 #[.val (.ref a0), .val (.ref a1), .val (.int (-1 : Int32)), .val (.int (-1 : Int32)), .val (.int (1 : Int32)), .val (.int k)] [(.int (1 : Int32))]))
  exact own_endN X19 hx hlk (t := .boolean) Bd.returns (by simp) (hb hby d10_194) rfl (by decide) (by decide) ⟨rfl, N18, (by rw [e19]; exact Kp18), ⟨(by rw [e19]; exact (((((EG.keep K11).wr W13).wr W15).wr W17).keep K18)), (by rw [e19]; exact (((((G0.keep K11 (own_nin2 (own_nd D 0 1 rfl rfl (by decide)) (own_nd D 0 9 rfl rfl (by decide)))).other W13 (Or.inl (own_nd D 0 2 rfl rfl (by decide)))).other W15 (Or.inl (own_nd D 0 3 rfl rfl (by decide)))).other W17 (Or.inr (slot_ne (Or.inr (hw _ (List.mem_of_getElem? (i := 55) rfl))) (Or.inl (hw _ (List.mem_of_getElem? (i := 145) rfl))) (by decide) (t := (.object "java/util/List")) (t' := .int) (by decide) (by decide)))).keep K18 (own_nin1 (own_nd D 0 8 rfl rfl (by decide))))), (by rw [e19]; exact (((((G1.keep K11 (own_nin2 (own_nd D 0 1 rfl rfl (by decide)) (own_nd D 0 9 rfl rfl (by decide)))).other W13 (Or.inl (own_nd D 0 2 rfl rfl (by decide)))).other W15 (Or.inl (own_nd D 0 3 rfl rfl (by decide)))).other W17 (Or.inr (slot_ne (Or.inl (hw _ (List.mem_of_getElem? (i := 58) rfl))) (Or.inl (hw _ (List.mem_of_getElem? (i := 145) rfl))) (by decide) (t := (.array .int)) (t' := .int) (by decide) (by decide)))).keep K18 (own_nin1 (own_nd D 0 8 rfl rfl (by decide))))), (by rw [e19]; exact (((((G2.keep K11 (own_nin2 (own_nd D 0 1 rfl rfl (by decide)) (own_nd D 0 9 rfl rfl (by decide)))).other W13 (Or.inl (own_nd D 0 2 rfl rfl (by decide)))).other W15 (Or.inl (own_nd D 0 3 rfl rfl (by decide)))).other W17 (Or.inr (slot_ne (Or.inl (hw _ (List.mem_of_getElem? (i := 60) rfl))) (Or.inl (hw _ (List.mem_of_getElem? (i := 145) rfl))) (by decide) (t := (.array .int)) (t' := .int) (by decide) (by decide)))).keep K18 (own_nin1 (own_nd D 0 8 rfl rfl (by decide))))), (by rw [e19]; exact (((((G3.keep K11 (own_nin2 (own_nd D 0 1 rfl rfl (by decide)) (own_nd D 0 9 rfl rfl (by decide)))).other W13 (Or.inl (own_nd D 0 2 rfl rfl (by decide)))).other W15 (Or.inl (own_nd D 0 3 rfl rfl (by decide)))).other W17 (Or.inr (slot_ne (Or.inl (hw _ (List.mem_of_getElem? (i := 62) rfl))) (Or.inl (hw _ (List.mem_of_getElem? (i := 145) rfl))) (by decide) (t := .int) (t' := .int) (by decide) (by decide)))).keep K18 (own_nin1 (own_nd D 0 8 rfl rfl (by decide))))), (by rw [e19]; exact (((((G4.keep K11 (own_nin2 (own_nd D 0 1 rfl rfl (by decide)) (own_nd D 0 9 rfl rfl (by decide)))).other W13 (Or.inl (own_nd D 0 2 rfl rfl (by decide)))).other W15 (Or.inl (own_nd D 0 3 rfl rfl (by decide)))).other W17 (Or.inr (slot_ne (Or.inr (hw _ (List.mem_of_getElem? (i := 66) rfl))) (Or.inl (hw _ (List.mem_of_getElem? (i := 145) rfl))) (by decide) (t := .boolean) (t' := .int) (by decide) (by decide)))).keep K18 (own_nin1 (own_nd D 0 8 rfl rfl (by decide))))), (by rw [e19]; exact (((((G5.keep K11 (own_nin2 (own_nd D 0 1 rfl rfl (by decide)) (own_nd D 0 9 rfl rfl (by decide)))).other W13 (Or.inl (own_nd D 0 2 rfl rfl (by decide)))).other W15 (Or.inl (own_nd D 0 3 rfl rfl (by decide)))).other W17 (Or.inr (slot_ne (Or.inl (hw _ (List.mem_of_getElem? (i := 68) rfl))) (Or.inl (hw _ (List.mem_of_getElem? (i := 145) rfl))) (by decide) (t := (.array .int)) (t' := .int) (by decide) (by decide)))).keep K18 (own_nin1 (own_nd D 0 8 rfl rfl (by decide))))), (by rw [e19]; exact (((((G6.keep K11 (own_nin2 (own_nd D 0 1 rfl rfl (by decide)) (own_nd D 0 9 rfl rfl (by decide)))).other W13 (Or.inl (own_nd D 0 2 rfl rfl (by decide)))).other W15 (Or.inl (own_nd D 0 3 rfl rfl (by decide)))).other W17 (Or.inr (slot_ne (Or.inl (hw _ (List.mem_of_getElem? (i := 70) rfl))) (Or.inl (hw _ (List.mem_of_getElem? (i := 145) rfl))) (by decide) (t := (.array .int)) (t' := .int) (by decide) (by decide)))).keep K18 (own_nin1 (own_nd D 0 8 rfl rfl (by decide))))), (by rw [e19]; exact (((((G7.keep K11 (own_nin2 (own_nd D 0 1 rfl rfl (by decide)) (own_nd D 0 9 rfl rfl (by decide)))).other W13 (Or.inl (own_nd D 0 2 rfl rfl (by decide)))).other W15 (Or.inl (own_nd D 0 3 rfl rfl (by decide)))).other W17 (Or.inr (slot_ne (Or.inl (hw _ (List.mem_of_getElem? (i := 72) rfl))) (Or.inl (hw _ (List.mem_of_getElem? (i := 145) rfl))) (by decide) (t := (.array .int)) (t' := .int) (by decide) (by decide)))).keep K18 (own_nin1 (own_nd D 0 8 rfl rfl (by decide))))), (by rw [e19]; exact (((((G8.keep K11 (own_nin2 (own_nd D 0 1 rfl rfl (by decide)) (own_nd D 0 9 rfl rfl (by decide)))).other W13 (Or.inl (own_nd D 0 2 rfl rfl (by decide)))).other W15 (Or.inl (own_nd D 0 3 rfl rfl (by decide)))).other W17 (Or.inr (slot_ne (Or.inl (hw _ (List.mem_of_getElem? (i := 74) rfl))) (Or.inl (hw _ (List.mem_of_getElem? (i := 145) rfl))) (by decide) (t := (.array .int)) (t' := .int) (by decide) (by decide)))).keep K18 (own_nin1 (own_nd D 0 8 rfl rfl (by decide))))), (by rw [e19]; exact (Fw17.keep K18 (own_nin1 (own_nd D 0 8 rfl rfl (by decide))))), (by rw [e19]; exact (((((G10.keep K11 (own_nin2 (own_nd D 0 1 rfl rfl (by decide)) (own_nd D 0 9 rfl rfl (by decide)))).other W13 (Or.inl (own_nd D 0 2 rfl rfl (by decide)))).other W15 (Or.inl (own_nd D 0 3 rfl rfl (by decide)))).other W17 (Or.inr (slot_ne (Or.inl (hw _ (List.mem_of_getElem? (i := 161) rfl))) (Or.inl (hw _ (List.mem_of_getElem? (i := 145) rfl))) (by decide) (t := .int) (t' := .int) (by decide) (by decide)))).keep K18 (own_nin1 (own_nd D 0 8 rfl rfl (by decide))))), ⟨_, (by rw [e19]; exact (((V13.other W15 (own_nd D 2 3 rfl rfl (by decide))).other W17 (Ne.symm (own_nd D 0 2 rfl rfl (by decide)))).keep K18 (own_nin1 (own_nd D 2 8 rfl rfl (by decide)))))⟩, ⟨_, (by rw [e19]; exact ((V15.other W17 (Ne.symm (own_nd D 0 3 rfl rfl (by decide)))).keep K18 (own_nin1 (own_nd D 3 8 rfl rfl (by decide)))))⟩, (by rw [e19]; exact (((((AF.keep K11 (own_nin2 (Ne.symm (own_nd D 1 4 rfl rfl (by decide))) (own_nd D 4 9 rfl rfl (by decide)))).other W13 (Ne.symm (own_nd D 2 4 rfl rfl (by decide)))).other W15 (Ne.symm (own_nd D 3 4 rfl rfl (by decide)))).other W17 (Ne.symm (own_nd D 0 4 rfl rfl (by decide)))).keep K18 (own_nin1 (own_nd D 4 8 rfl rfl (by decide))))), (by rw [e19]; exact (((((AE.keep K11 (own_nin2 (Ne.symm (own_nd D 1 5 rfl rfl (by decide))) (own_nd D 5 9 rfl rfl (by decide)))).other W13 (Ne.symm (own_nd D 2 5 rfl rfl (by decide)))).other W15 (Ne.symm (own_nd D 3 5 rfl rfl (by decide)))).other W17 (Ne.symm (own_nd D 0 5 rfl rfl (by decide)))).keep K18 (own_nin1 (own_nd D 5 8 rfl rfl (by decide))))), ⟨_, (by rw [e19]; exact (((((AT.keep K11 (own_nin2 (Ne.symm (own_nd D 1 6 rfl rfl (by decide))) (own_nd D 6 9 rfl rfl (by decide)))).other W13 (Ne.symm (own_nd D 2 6 rfl rfl (by decide)))).other W15 (Ne.symm (own_nd D 3 6 rfl rfl (by decide)))).other W17 (Ne.symm (own_nd D 0 6 rfl rfl (by decide)))).keep K18 (own_nin1 (own_nd D 6 8 rfl rfl (by decide)))))⟩, ⟨_, (by rw [e19]; exact (((((AA.keep K11 (own_nin2 (Ne.symm (own_nd D 1 7 rfl rfl (by decide))) (own_nd D 7 9 rfl rfl (by decide)))).other W13 (Ne.symm (own_nd D 2 7 rfl rfl (by decide)))).other W15 (Ne.symm (own_nd D 3 7 rfl rfl (by decide)))).other W17 (Ne.symm (own_nd D 0 7 rfl rfl (by decide)))).keep K18 (own_nin1 (own_nd D 7 8 rfl rfl (by decide)))))⟩⟩, ⟨(by rw [e19]; exact ((((Lq11_0.wr W13).wr W15).wr W17).keep K18)), ⟨_, (by rw [e19]; exact ((((Lq11_1.other W13 (Or.inl (own_nd D 1 2 rfl rfl (by decide)))).other W15 (Or.inl (own_nd D 1 3 rfl rfl (by decide)))).other W17 (Or.inl (Ne.symm (own_nd D 0 1 rfl rfl (by decide))))).keep K18 (own_nin1 (own_nd D 1 8 rfl rfl (by decide)))))⟩, (by rw [e19]; exact ((((Lq11_2.other W13 (Or.inl (own_nd D 1 2 rfl rfl (by decide)))).other W15 (Or.inl (own_nd D 1 3 rfl rfl (by decide)))).other W17 (Or.inl (Ne.symm (own_nd D 0 1 rfl rfl (by decide))))).keep K18 (own_nin1 (own_nd D 1 8 rfl rfl (by decide))))), (by rw [e19]; exact ((((Lq11_3.other W13 (Or.inl (own_nd D 1 2 rfl rfl (by decide)))).other W15 (Or.inl (own_nd D 1 3 rfl rfl (by decide)))).other W17 (Or.inl (Ne.symm (own_nd D 0 1 rfl rfl (by decide))))).keep K18 (own_nin1 (own_nd D 1 8 rfl rfl (by decide))))), (by rw [e19]; exact ((((Lq11_4.other W13 (Ne.symm (own_nd D 2 9 rfl rfl (by decide)))).other W15 (Ne.symm (own_nd D 3 9 rfl rfl (by decide)))).other W17 (Ne.symm (own_nd D 0 9 rfl rfl (by decide)))).keep K18 (own_nin1 (Ne.symm (own_nd D 8 9 rfl rfl (by decide))))))⟩, (by rw [e19]; exact Ea18), (by rw [e19]; exact Fa18_0), (by rw [e19]; exact Fa18_1)⟩
abbrev OwnGT : Type := Int32 × Int32 × (Nat → Int32) × (Nat → Int32)
def own_fill (F : Nat → Int32) (w fr e : Int32) : Nat → Int32 := fun i => if w.toInt < (i : Int) ∧ (i : Int) ≤ fr.toInt then e else F i
def own_addE (wl ed : Int32) (FF EE : Nat → Int32) (fr to : Int32) : OwnGT := if fr = to ∨ EE to.toNatClampNeg = fr + 1 then (wl, ed, FF, EE) else (fr, ed + 1, own_fill FF wl fr ed, own_upd EE to.toNatClampNeg (fr + 1))
def OwnGx (Z : State) (h : Heap) (g aL aP aR aF aE aT aA : Addr) (ini : Int32) (G : OwnGT) : Prop := OwnG Z h g aL aP aR aF aE aT aA G.1 G.2.1 ini G.2.2.1 G.2.2.2
theorem own_fill_self (F : Nat → Int32) (w e : Int32) : own_fill F w w e = F := by
  funext i
  unfold own_fill
  rw [if_neg (by omega)]
theorem own_fill_step (F : Nat → Int32) (w c e : Int32) (h : w.toInt ≤ c.toInt) (h1 : -1 ≤ c.toInt) (hs : (c + 1).toInt = c.toInt + 1) : own_upd (own_fill F w c e) (c + 1).toNatClampNeg e = own_fill F w (c + 1) e := by
  funext i
  unfold own_upd own_fill
  have hn : (c + 1).toNatClampNeg = (c.toInt + 1).toNat := by show (c + 1).toInt.toNat = _; rw [hs]
  rw [hn, hs]
  by_cases q : i = (c.toInt + 1).toNat
  · rw [if_pos q, if_pos (by omega)]
  · rw [if_neg q]
    by_cases q2 : w.toInt < (i : Int) ∧ (i : Int) ≤ c.toInt
    · rw [if_pos q2, if_pos (by omega)]
    · rw [if_neg q2, if_neg (by omega)]
theorem own_plus1 (c : Int32) (h1 : -5 ≤ c.toInt) (h2 : c.toInt ≤ 100) : (c + 1).toInt = c.toInt + 1 := by
  have o1 : (1 : Int32).toInt = 1 := rfl
  rw [Jvm.Kit.i32_add (by rw [o1]; omega) (by rw [o1]; omega), o1]
theorem d22_0 : decode prog_39_method_4_code 0 = .ok (.iload_n 1, 1) := by decide +kernel
theorem d22_1 : decode prog_39_method_4_code 1 = .ok (.aload_n 0, 1) := by decide +kernel
theorem d22_2 : decode prog_39_method_4_code 2 = .ok (.getfield 30, 3) := by decide +kernel
theorem d22_5 : decode prog_39_method_4_code 5 = .ok (.if_icmp .ge 17, 3) := by decide +kernel
theorem d22_8 : decode prog_39_method_4_code 8 = .ok (.new 94, 3) := by decide +kernel
theorem d22_11 : decode prog_39_method_4_code 11 = .ok (.dup, 1) := by decide +kernel
theorem d22_12 : decode prog_39_method_4_code 12 = .ok (.iload_n 1, 1) := by decide +kernel
theorem d22_13 : decode prog_39_method_4_code 13 = .ok (.invokedynamic 96, 5) := by decide +kernel
theorem d22_18 : decode prog_39_method_4_code 18 = .ok (.invokespecial 100, 3) := by decide +kernel
theorem d22_21 : decode prog_39_method_4_code 21 = .ok (.athrow, 1) := by decide +kernel
theorem d22_22 : decode prog_39_method_4_code 22 = .ok (.iload_n 1, 1) := by decide +kernel
theorem d22_23 : decode prog_39_method_4_code 23 = .ok (.iload_n 2, 1) := by decide +kernel
theorem d22_24 : decode prog_39_method_4_code 24 = .ok (.if_icmp .eq 15, 3) := by decide +kernel
theorem d22_27 : decode prog_39_method_4_code 27 = .ok (.aload_n 0, 1) := by decide +kernel
theorem d22_28 : decode prog_39_method_4_code 28 = .ok (.getfield 44, 3) := by decide +kernel
theorem d22_31 : decode prog_39_method_4_code 31 = .ok (.iload_n 2, 1) := by decide +kernel
theorem d22_32 : decode prog_39_method_4_code 32 = .ok (.iaload, 1) := by decide +kernel
theorem d22_33 : decode prog_39_method_4_code 33 = .ok (.iload_n 1, 1) := by decide +kernel
theorem d22_34 : decode prog_39_method_4_code 34 = .ok (.iconst 1, 1) := by decide +kernel
theorem d22_35 : decode prog_39_method_4_code 35 = .ok (.iadd, 1) := by decide +kernel
theorem d22_36 : decode prog_39_method_4_code 36 = .ok (.if_icmp .ne 4, 3) := by decide +kernel
theorem d22_39 : decode prog_39_method_4_code 39 = .ok (.return_, 1) := by decide +kernel
theorem d22_40 : decode prog_39_method_4_code 40 = .ok (.aload_n 0, 1) := by decide +kernel
theorem d22_41 : decode prog_39_method_4_code 41 = .ok (.getfield 30, 3) := by decide +kernel
theorem d22_44 : decode prog_39_method_4_code 44 = .ok (.iload_n 1, 1) := by decide +kernel
theorem d22_45 : decode prog_39_method_4_code 45 = .ok (.if_icmp .ge 26, 3) := by decide +kernel
theorem d22_48 : decode prog_39_method_4_code 48 = .ok (.aload_n 0, 1) := by decide +kernel
theorem d22_49 : decode prog_39_method_4_code 49 = .ok (.getfield 41, 3) := by decide +kernel
theorem d22_52 : decode prog_39_method_4_code 52 = .ok (.aload_n 0, 1) := by decide +kernel
theorem d22_53 : decode prog_39_method_4_code 53 = .ok (.dup, 1) := by decide +kernel
theorem d22_54 : decode prog_39_method_4_code 54 = .ok (.getfield 30, 3) := by decide +kernel
theorem d22_57 : decode prog_39_method_4_code 57 = .ok (.iconst 1, 1) := by decide +kernel
theorem d22_58 : decode prog_39_method_4_code 58 = .ok (.iadd, 1) := by decide +kernel
theorem d22_59 : decode prog_39_method_4_code 59 = .ok (.dup_x1, 1) := by decide +kernel
theorem d22_60 : decode prog_39_method_4_code 60 = .ok (.putfield 30, 3) := by decide +kernel
theorem d22_63 : decode prog_39_method_4_code 63 = .ok (.aload_n 0, 1) := by decide +kernel
theorem d22_64 : decode prog_39_method_4_code 64 = .ok (.getfield 103, 3) := by decide +kernel
theorem d22_67 : decode prog_39_method_4_code 67 = .ok (.iastore, 1) := by decide +kernel
theorem d22_68 : decode prog_39_method_4_code 68 = .ok (.goto (-28), 3) := by decide +kernel
theorem d22_71 : decode prog_39_method_4_code 71 = .ok (.aload_n 0, 1) := by decide +kernel
theorem d22_72 : decode prog_39_method_4_code 72 = .ok (.getfield 103, 3) := by decide +kernel
theorem d22_75 : decode prog_39_method_4_code 75 = .ok (.aload_n 0, 1) := by decide +kernel
theorem d22_76 : decode prog_39_method_4_code 76 = .ok (.getfield 47, 3) := by decide +kernel
theorem d22_79 : decode prog_39_method_4_code 79 = .ok (.arraylength, 1) := by decide +kernel
theorem d22_80 : decode prog_39_method_4_code 80 = .ok (.if_icmp .ne 37, 3) := by decide +kernel
theorem d22_83 : decode prog_39_method_4_code 83 = .ok (.aload_n 0, 1) := by decide +kernel
theorem d22_84 : decode prog_39_method_4_code 84 = .ok (.aload_n 0, 1) := by decide +kernel
theorem d22_85 : decode prog_39_method_4_code 85 = .ok (.getfield 47, 3) := by decide +kernel
theorem d22_88 : decode prog_39_method_4_code 88 = .ok (.iconst 2, 1) := by decide +kernel
theorem d22_89 : decode prog_39_method_4_code 89 = .ok (.aload_n 0, 1) := by decide +kernel
theorem d22_90 : decode prog_39_method_4_code 90 = .ok (.getfield 103, 3) := by decide +kernel
theorem d22_93 : decode prog_39_method_4_code 93 = .ok (.imul, 1) := by decide +kernel
theorem d22_94 : decode prog_39_method_4_code 94 = .ok (.invokestatic 74, 3) := by decide +kernel
theorem d22_97 : decode prog_39_method_4_code 97 = .ok (.putfield 47, 3) := by decide +kernel
theorem d22_100 : decode prog_39_method_4_code 100 = .ok (.aload_n 0, 1) := by decide +kernel
theorem d22_101 : decode prog_39_method_4_code 101 = .ok (.aload_n 0, 1) := by decide +kernel
theorem d22_102 : decode prog_39_method_4_code 102 = .ok (.getfield 50, 3) := by decide +kernel
theorem d22_105 : decode prog_39_method_4_code 105 = .ok (.iconst 2, 1) := by decide +kernel
theorem d22_106 : decode prog_39_method_4_code 106 = .ok (.aload_n 0, 1) := by decide +kernel
theorem d22_107 : decode prog_39_method_4_code 107 = .ok (.getfield 103, 3) := by decide +kernel
theorem d22_110 : decode prog_39_method_4_code 110 = .ok (.imul, 1) := by decide +kernel
theorem d22_111 : decode prog_39_method_4_code 111 = .ok (.invokestatic 74, 3) := by decide +kernel
theorem d22_114 : decode prog_39_method_4_code 114 = .ok (.putfield 50, 3) := by decide +kernel
theorem d22_117 : decode prog_39_method_4_code 117 = .ok (.aload_n 0, 1) := by decide +kernel
theorem d22_118 : decode prog_39_method_4_code 118 = .ok (.getfield 47, 3) := by decide +kernel
theorem d22_121 : decode prog_39_method_4_code 121 = .ok (.aload_n 0, 1) := by decide +kernel
theorem d22_122 : decode prog_39_method_4_code 122 = .ok (.getfield 103, 3) := by decide +kernel
theorem d22_125 : decode prog_39_method_4_code 125 = .ok (.iload_n 2, 1) := by decide +kernel
theorem d22_126 : decode prog_39_method_4_code 126 = .ok (.iastore, 1) := by decide +kernel
theorem d22_127 : decode prog_39_method_4_code 127 = .ok (.aload_n 0, 1) := by decide +kernel
theorem d22_128 : decode prog_39_method_4_code 128 = .ok (.getfield 50, 3) := by decide +kernel
theorem d22_131 : decode prog_39_method_4_code 131 = .ok (.aload_n 0, 1) := by decide +kernel
theorem d22_132 : decode prog_39_method_4_code 132 = .ok (.getfield 103, 3) := by decide +kernel
theorem d22_135 : decode prog_39_method_4_code 135 = .ok (.iload_n 3, 1) := by decide +kernel
theorem d22_136 : decode prog_39_method_4_code 136 = .ok (.iastore, 1) := by decide +kernel
theorem d22_137 : decode prog_39_method_4_code 137 = .ok (.aload_n 0, 1) := by decide +kernel
theorem d22_138 : decode prog_39_method_4_code 138 = .ok (.dup, 1) := by decide +kernel
theorem d22_139 : decode prog_39_method_4_code 139 = .ok (.getfield 103, 3) := by decide +kernel
theorem d22_142 : decode prog_39_method_4_code 142 = .ok (.iconst 1, 1) := by decide +kernel
theorem d22_143 : decode prog_39_method_4_code 143 = .ok (.iadd, 1) := by decide +kernel
theorem d22_144 : decode prog_39_method_4_code 144 = .ok (.putfield 103, 3) := by decide +kernel
theorem d22_147 : decode prog_39_method_4_code 147 = .ok (.aload_n 0, 1) := by decide +kernel
theorem d22_148 : decode prog_39_method_4_code 148 = .ok (.getfield 44, 3) := by decide +kernel
theorem d22_151 : decode prog_39_method_4_code 151 = .ok (.iload_n 2, 1) := by decide +kernel
theorem d22_152 : decode prog_39_method_4_code 152 = .ok (.iload_n 1, 1) := by decide +kernel
theorem d22_153 : decode prog_39_method_4_code 153 = .ok (.iconst 1, 1) := by decide +kernel
theorem d22_154 : decode prog_39_method_4_code 154 = .ok (.iadd, 1) := by decide +kernel
theorem d22_155 : decode prog_39_method_4_code 155 = .ok (.iastore, 1) := by decide +kernel
theorem d22_156 : decode prog_39_method_4_code 156 = .ok (.return_, 1) := by decide +kernel
theorem ef_22 (m : MethodId) (a0 : Addr) (p1 : Int32) (p2 : Int32) (p3 : Int32) : entryFrame m #[(.ref a0), (.int p1), (.int p2), (.int p3)] 4 = mkF m 0 #[.val (.ref a0), .val (.int p1), .val (.int p2), .val (.int p3)] [] := by first | (simp [entryFrame, mkF, argsToLocals, Value.category]; done) | rfl
def Q22 (Z : State) (a0 : Addr) (p1 : Int32) (p2 : Int32) (p3 : Int32) (aL : Addr) (aP : Addr) (aR : Addr) (aF : Addr) (aE : Addr) (aT : Addr) (aA : Addr) (wl : Int32) (ed : Int32) (ini : Int32) (FF : Nat → Int32) (EE : Nat → Int32) (h0 : Heap) (n0 : Nat) (v : Option Value) (h : Heap) (L : List Loc) : Prop := v = none ∧ Fr n0 L ∧ Keep h0 h [a0, aF, aE, aT, aA] ∧ OwnGx Z h a0 aL aP aR aF aE aT aA ini (own_addE wl ed FF EE p1 p2)
set_option maxRecDepth 65536 in
set_option maxHeartbeats 40000000 in
theorem rm22 (l : Launch) (Z : State) (aZ : Array Value) (hw : ∀ d ∈ tables_1, d.before aZ Z = true) (ws : List Jvm.Cond) (a0 : Addr) (p1 : Int32) (p2 : Int32) (p3 : Int32) (aL : Addr) (aP : Addr) (aR : Addr) (aF : Addr) (aE : Addr) (aT : Addr) (aA : Addr) (wl : Int32) (ed : Int32) (ini : Int32) (FF : Nat → Int32) (EE : Nat → Int32) (h0 : Heap) (n0 : Nat) (Z0 : n0 ≤ h0.size) (HG : OwnG Z h0 a0 aL aP aR aF aE aT aA wl ed ini FF EE) (D : [a0, aL, aP, aR, aF, aE, aT, aA].Pairwise (· ≠ ·)) (GN : ∀ x ∈ [a0, aL, aP, aR, aF, aE, aT, aA], n0 ≤ x) (hb : (-1 ≤ wl.toInt ∧ wl.toInt ≤ p1.toInt ∧ 0 ≤ p1.toInt ∧ p1.toInt ≤ 2) ∧ (0 ≤ p2.toInt ∧ p2.toInt ≤ 2 ∧ 0 ≤ ed.toInt ∧ ed.toInt ≤ 10)) :
    MetFree l (⟨"com/example/changeset/changeset/check/StateGraph", "addEdge", "(III)V"⟩ : MethodName) (head1 (Jvm.Cond.code (⟨"com/example/changeset/changeset/check/StateGraph", "addEdge", "(III)V"⟩ : MethodName) prog_39_method_4_code 4 none :: ws) ({ frames := 0, cells := 0, slots := 0, locals := 0 } : Room)) (fun a U => a = #[(.ref a0), (.int p1), (.int p2), (.int p3)] ∧ Z.Warmed39 U.vm ∧ U.heap = h0) (fun _ _ _ _ _ => True) (fun _ U o U' => ∃ v L, o = .returned v ∧ Q22 Z a0 p1 p2 p3 aL aP aR aF aE aT aA wl ed ini FF EE h0 n0 v U'.heap L ∧ FrameEnd U o U' L 0 0) := by
  refine MetFree.of_bodySF (plainFor_of_name pn_6) hisR ?_
  intro p e s m args below meth c s₁ Bd hml0 hP hK
  obtain ⟨rfl, hZ, hh⟩ := hP
  have hx := Bd.exec
  have hby := Bd.bytes
  have hml : c.maxLocals = 4 := hml0
  have hown : s.vm.findClass "com/example/changeset/changeset/check/StateGraph" = some m.cls := findClass_of_methodNamed Bd.named
  have hnm := (name_of_methodNamed Bd.named Bd.method).1
  have hlk := BodyLoose.notSynchronized Bd
  have X0 : Stand p l e ({ frames := 0, cells := 0, slots := 0, locals := 0 } : Room) s m #[(.ref a0), (.int p1), (.int p2), (.int p3)] below meth c s₁ [] 0 0 := Stand.of_body Bd
  have e0 : s₁.heap = h0 := by rw [← hh, Bd.state]; rfl
  have N0 := Fr.nil n0
  have hk0 : 0 ≤ 0 := Nat.zero_le _
  have hn0 : 0 ≤ 0 := Nat.zero_le _
  show OwnEnds p e below (OwnQ s (Q22 Z a0 p1 p2 p3 aL aP aR aF aE aT aA wl ed ini FF EE h0 n0) 0 0) (s₁.setTop (entryFrame m #[(.ref a0), (.int p1), (.int p2), (.int p3)] 4))
  refine .pre (fun t k => castTop (ef_22 m a0 p1 p2 p3) k) ?_
  obtain ⟨⟨hb1, hb2, hb3, hb4⟩, hb5, hb6, hb7, hb8⟩ := hb
  have g_a0 : n0 ≤ a0 := GN _ (List.mem_of_getElem? (i := 0) rfl)
  have g_aL : n0 ≤ aL := GN _ (List.mem_of_getElem? (i := 1) rfl)
  have g_aP : n0 ≤ aP := GN _ (List.mem_of_getElem? (i := 2) rfl)
  have g_aR : n0 ≤ aR := GN _ (List.mem_of_getElem? (i := 3) rfl)
  have g_aF : n0 ≤ aF := GN _ (List.mem_of_getElem? (i := 4) rfl)
  have g_aE : n0 ≤ aE := GN _ (List.mem_of_getElem? (i := 5) rfl)
  have g_aT : n0 ≤ aT := GN _ (List.mem_of_getElem? (i := 6) rfl)
  have g_aA : n0 ≤ aA := GN _ (List.mem_of_getElem? (i := 7) rfl)
  have hed : ¬ (ed = (1024 : Int32)) := by have t : (1024 : Int32).toInt = 1024 := rfl; rw [← Int32.toInt_inj, t]; omega
  have hge0 : ¬ (p1 < wl) := by rw [Int32.lt_iff_toInt_lt]; omega
  have B40 : ∀ (fuel : Nat) (T : State) (L : List Loc) (hh : Heap) (X : Stand p l e ({ frames := 0, cells := 0, slots := 0, locals := 0 } : Room) s m #[(.ref a0), (.int p1), (.int p2), (.int p3)] below meth c T L 0 0) (eT : T.heap = hh) (N : Fr n0 L) (Zh : n0 ≤ hh.size) (Kh : Keep h0 hh [a0, aF, aE, aT, aA]) (wc : Int32) (HG : OwnG Z hh a0 aL aP aR aF aE aT aA wc ed ini (own_fill FF wl wc ed) EE), wl.toInt ≤ wc.toInt → wc.toInt ≤ p1.toInt → (p1.toInt - wc.toInt).toNat = fuel → ¬ (p1 = p2 ∨ EE p2.toNatClampNeg = p1 + 1) → OwnEnds p e below (OwnQ s (Q22 Z a0 p1 p2 p3 aL aP aR aF aE aT aA wl ed ini FF EE h0 n0) 0 0) (T.setTop (mkF m 40 #[.val (.ref a0), .val (.int p1), .val (.int p2), .val (.int p3)] [])) := by
    intro fuel
    induction fuel with
    | zero =>
      intro T L hh X eT N Zh Kh wc HG h1 h2 hf hno
      obtain ⟨EG, G0, G1, G2, G3, G4, G5, G6, G7, G8, G9, G10, ⟨fP, AP⟩, ⟨fR, AR⟩, AF, AE, ⟨fT, AT⟩, ⟨fA, AA⟩⟩ := id HG
      have hge : ¬ (wc < p1) := by rw [Int32.lt_iff_toInt_lt]; omega
      have hwp : wc = p1 := Int32.toInt_inj.mp (by omega)
      show OwnEnds p e below _ (T.setTop (mkF m 40 #[.val (.ref a0), .val (.int p1), .val (.int p2), .val (.int p3)] []))
      refine .pre (fun _ kq => XS.aloadN X.here hx rfl (hb hby d22_40) rfl rfl kq) ?_
      show OwnEnds p e below _ (T.setTop (mkF m 41 #[.val (.ref a0), .val (.int p1), .val (.int p2), .val (.int p3)] [(.ref a0)]))
      obtain ⟨T1, X1, e1, st1⟩ := getF X hx hZ hown (host := "") (Or.inl (hw _ (List.mem_of_getElem? (i := 61) rfl))) Via.refl eT G3 (g := (mkF m 41 #[.val (.ref a0), .val (.int p1), .val (.int p2), .val (.int p3)] [(.ref a0)])) rfl rfl (hb hby d22_41)
      refine .pre (fun _ kq => st1 _ kq) ?_
      show OwnEnds p e below _ (T1.setTop (mkF m 44 #[.val (.ref a0), .val (.int p1), .val (.int p2), .val (.int p3)] [(.int wc)]))
      refine .pre (fun _ kq => XS.iloadN X1.here hx rfl (hb hby d22_44) rfl kq) ?_
      show OwnEnds p e below _ (T1.setTop (mkF m 45 #[.val (.ref a0), .val (.int p1), .val (.int p2), .val (.int p3)] [(.int p1), (.int wc)]))
      have hc45 : ¬ (wc < p1) := hge
      refine .pre (fun _ kq => XS.icmpYes X1.here hx rfl (pc0 := 45) (pc' := 71) rfl (hb hby d22_45) rfl (flt hc45).2.1 (by decide) (by decide) kq) ?_
      show OwnEnds p e below _ (T1.setTop (mkF m 71 #[.val (.ref a0), .val (.int p1), .val (.int p2), .val (.int p3)] []))
      refine .pre (fun _ kq => XS.aloadN X1.here hx rfl (hb hby d22_71) rfl rfl kq) ?_
      show OwnEnds p e below _ (T1.setTop (mkF m 72 #[.val (.ref a0), .val (.int p1), .val (.int p2), .val (.int p3)] [(.ref a0)]))
      obtain ⟨T2, X2, e2, st2⟩ := getF X1 hx hZ hown (host := "") (Or.inl (hw _ (List.mem_of_getElem? (i := 160) rfl))) Via.refl e1 G10 (g := (mkF m 72 #[.val (.ref a0), .val (.int p1), .val (.int p2), .val (.int p3)] [(.ref a0)])) rfl rfl (hb hby d22_72)
      refine .pre (fun _ kq => st2 _ kq) ?_
      show OwnEnds p e below _ (T2.setTop (mkF m 75 #[.val (.ref a0), .val (.int p1), .val (.int p2), .val (.int p3)] [(.int ed)]))
      refine .pre (fun _ kq => XS.aloadN X2.here hx rfl (hb hby d22_75) rfl rfl kq) ?_
      show OwnEnds p e below _ (T2.setTop (mkF m 76 #[.val (.ref a0), .val (.int p1), .val (.int p2), .val (.int p3)] [(.ref a0), (.int ed)]))
      obtain ⟨T3, X3, e3, st3⟩ := getF X2 hx hZ hown (host := "") (Or.inl (hw _ (List.mem_of_getElem? (i := 71) rfl))) Via.refl e2 G7 (g := (mkF m 76 #[.val (.ref a0), .val (.int p1), .val (.int p2), .val (.int p3)] [(.ref a0), (.int ed)])) rfl rfl (hb hby d22_76)
      refine .pre (fun _ kq => st3 _ kq) ?_
      show OwnEnds p e below _ (T3.setTop (mkF m 79 #[.val (.ref a0), .val (.int p1), .val (.int p2), .val (.int p3)] [(.ref aT), (.int ed)]))
      obtain ⟨cl4, Ar4, qs4, qh4⟩ := id AT
      refine .pre (fun _ kq => X3.arraylength hx (by rw [e3]; exact Ar4.1) (State.isArrayOf_alike hZ.alike Ar4.2.1) (g := (mkF m 79 #[.val (.ref a0), .val (.int p1), .val (.int p2), .val (.int p3)] [(.ref aT), (.int ed)])) rfl rfl (hb hby d22_79) _ kq) ?_
      rw [own_len1024 qs4]
      show OwnEnds p e below _ (T3.setTop (mkF m 80 #[.val (.ref a0), .val (.int p1), .val (.int p2), .val (.int p3)] [(.int (1024 : Int32)), (.int ed)]))
      have hc80 : ¬ (ed = (1024 : Int32)) := hed
      refine .pre (fun _ kq => XS.icmpYes X3.here hx rfl (pc0 := 80) (pc' := 117) rfl (hb hby d22_80) rfl (feq hc80).2 (by decide) (by decide) kq) ?_
      show OwnEnds p e below _ (T3.setTop (mkF m 117 #[.val (.ref a0), .val (.int p1), .val (.int p2), .val (.int p3)] []))
      refine .pre (fun _ kq => XS.aloadN X3.here hx rfl (hb hby d22_117) rfl rfl kq) ?_
      show OwnEnds p e below _ (T3.setTop (mkF m 118 #[.val (.ref a0), .val (.int p1), .val (.int p2), .val (.int p3)] [(.ref a0)]))
      obtain ⟨T5, X5, e5, st5⟩ := getF X3 hx hZ hown (host := "") (Or.inl (hw _ (List.mem_of_getElem? (i := 71) rfl))) Via.refl e3 G7 (g := (mkF m 118 #[.val (.ref a0), .val (.int p1), .val (.int p2), .val (.int p3)] [(.ref a0)])) rfl rfl (hb hby d22_118)
      refine .pre (fun _ kq => st5 _ kq) ?_
      show OwnEnds p e below _ (T5.setTop (mkF m 121 #[.val (.ref a0), .val (.int p1), .val (.int p2), .val (.int p3)] [(.ref aT)]))
      refine .pre (fun _ kq => XS.aloadN X5.here hx rfl (hb hby d22_121) rfl rfl kq) ?_
      show OwnEnds p e below _ (T5.setTop (mkF m 122 #[.val (.ref a0), .val (.int p1), .val (.int p2), .val (.int p3)] [(.ref a0), (.ref aT)]))
      obtain ⟨T6, X6, e6, st6⟩ := getF X5 hx hZ hown (host := "") (Or.inl (hw _ (List.mem_of_getElem? (i := 160) rfl))) Via.refl e5 G10 (g := (mkF m 122 #[.val (.ref a0), .val (.int p1), .val (.int p2), .val (.int p3)] [(.ref a0), (.ref aT)])) rfl rfl (hb hby d22_122)
      refine .pre (fun _ kq => st6 _ kq) ?_
      show OwnEnds p e below _ (T6.setTop (mkF m 125 #[.val (.ref a0), .val (.int p1), .val (.int p2), .val (.int p3)] [(.int ed), (.ref aT)]))
      refine .pre (fun _ kq => XS.iloadN X6.here hx rfl (hb hby d22_125) rfl kq) ?_
      show OwnEnds p e below _ (T6.setTop (mkF m 126 #[.val (.ref a0), .val (.int p1), .val (.int p2), .val (.int p3)] [(.int p2), (.int ed), (.ref aT)]))
      obtain ⟨cl7, Ar7, qs7, qh7⟩ := id AT
      have hj7 : 0 ≤ (ed).toInt ∧ (ed).toInt < 1024 := ⟨by omega, by omega⟩
      obtain ⟨T7, h7, X7, e7, W7, st7⟩ := stI X6 hx hZ e6 Ar7 (j := ed) (own_in1024 qs7 hj7) (g := (mkF m 126 #[.val (.ref a0), .val (.int p1), .val (.int p2), .val (.int p3)] [(.int p2), (.int ed), (.ref aT)])) rfl rfl (hb hby d22_126)
      have V7 : OwnA Z h7 aT (own_upd fT (ed).toNatClampNeg p2) := OwnA.set Ar7 qs7 qh7 W7
      have N7 := Fr.snoc X7 N g_aT
      have Kp7 : Keep h0 h7 [a0, aF, aE, aT, aA] := Kh.wr W7 (Or.inl (List.mem_of_getElem? (i := 3) rfl))
      refine .pre (fun _ kq => st7 _ kq) ?_
      show OwnEnds p e below _ (T7.setTop (mkF m 127 #[.val (.ref a0), .val (.int p1), .val (.int p2), .val (.int p3)] []))
      refine .pre (fun _ kq => XS.aloadN X7.here hx rfl (hb hby d22_127) rfl rfl kq) ?_
      show OwnEnds p e below _ (T7.setTop (mkF m 128 #[.val (.ref a0), .val (.int p1), .val (.int p2), .val (.int p3)] [(.ref a0)]))
      obtain ⟨T8, X8, e8, st8⟩ := getF X7 hx hZ hown (host := "") (Or.inl (hw _ (List.mem_of_getElem? (i := 73) rfl))) Via.refl e7 (G8.other W7 (Or.inl (own_nd D 0 6 rfl rfl (by decide)))) (g := (mkF m 128 #[.val (.ref a0), .val (.int p1), .val (.int p2), .val (.int p3)] [(.ref a0)])) rfl rfl (hb hby d22_128)
      refine .pre (fun _ kq => st8 _ kq) ?_
      show OwnEnds p e below _ (T8.setTop (mkF m 131 #[.val (.ref a0), .val (.int p1), .val (.int p2), .val (.int p3)] [(.ref aA)]))
      refine .pre (fun _ kq => XS.aloadN X8.here hx rfl (hb hby d22_131) rfl rfl kq) ?_
      show OwnEnds p e below _ (T8.setTop (mkF m 132 #[.val (.ref a0), .val (.int p1), .val (.int p2), .val (.int p3)] [(.ref a0), (.ref aA)]))
      obtain ⟨T9, X9, e9, st9⟩ := getF X8 hx hZ hown (host := "") (Or.inl (hw _ (List.mem_of_getElem? (i := 160) rfl))) Via.refl e8 (G10.other W7 (Or.inl (own_nd D 0 6 rfl rfl (by decide)))) (g := (mkF m 132 #[.val (.ref a0), .val (.int p1), .val (.int p2), .val (.int p3)] [(.ref a0), (.ref aA)])) rfl rfl (hb hby d22_132)
      refine .pre (fun _ kq => st9 _ kq) ?_
      show OwnEnds p e below _ (T9.setTop (mkF m 135 #[.val (.ref a0), .val (.int p1), .val (.int p2), .val (.int p3)] [(.int ed), (.ref aA)]))
      refine .pre (fun _ kq => XS.iloadN X9.here hx rfl (hb hby d22_135) rfl kq) ?_
      show OwnEnds p e below _ (T9.setTop (mkF m 136 #[.val (.ref a0), .val (.int p1), .val (.int p2), .val (.int p3)] [(.int p3), (.int ed), (.ref aA)]))
      obtain ⟨cl10, Ar10, qs10, qh10⟩ := id (AA.other W7 (Ne.symm (own_nd D 6 7 rfl rfl (by decide))))
      have hj10 : 0 ≤ (ed).toInt ∧ (ed).toInt < 1024 := ⟨by omega, by omega⟩
      obtain ⟨T10, h10, X10, e10, W10, st10⟩ := stI X9 hx hZ e9 Ar10 (j := ed) (own_in1024 qs10 hj10) (g := (mkF m 136 #[.val (.ref a0), .val (.int p1), .val (.int p2), .val (.int p3)] [(.int p3), (.int ed), (.ref aA)])) rfl rfl (hb hby d22_136)
      have V10 : OwnA Z h10 aA (own_upd fA (ed).toNatClampNeg p3) := OwnA.set Ar10 qs10 qh10 W10
      have N10 := Fr.snoc X10 N7 g_aA
      have Kp10 : Keep h0 h10 [a0, aF, aE, aT, aA] := Kp7.wr W10 (Or.inl (List.mem_of_getElem? (i := 4) rfl))
      refine .pre (fun _ kq => st10 _ kq) ?_
      show OwnEnds p e below _ (T10.setTop (mkF m 137 #[.val (.ref a0), .val (.int p1), .val (.int p2), .val (.int p3)] []))
      refine .pre (fun _ kq => XS.aloadN X10.here hx rfl (hb hby d22_137) rfl rfl kq) ?_
      show OwnEnds p e below _ (T10.setTop (mkF m 138 #[.val (.ref a0), .val (.int p1), .val (.int p2), .val (.int p3)] [(.ref a0)]))
      refine .pre (fun _ kq => XS.dup X10.here hx rfl (hb hby d22_138) rfl rfl kq) ?_
      show OwnEnds p e below _ (T10.setTop (mkF m 139 #[.val (.ref a0), .val (.int p1), .val (.int p2), .val (.int p3)] [(.ref a0), (.ref a0)]))
      obtain ⟨T11, X11, e11, st11⟩ := getF X10 hx hZ hown (host := "") (Or.inl (hw _ (List.mem_of_getElem? (i := 160) rfl))) Via.refl e10 ((G10.other W7 (Or.inl (own_nd D 0 6 rfl rfl (by decide)))).other W10 (Or.inl (own_nd D 0 7 rfl rfl (by decide)))) (g := (mkF m 139 #[.val (.ref a0), .val (.int p1), .val (.int p2), .val (.int p3)] [(.ref a0), (.ref a0)])) rfl rfl (hb hby d22_139)
      refine .pre (fun _ kq => st11 _ kq) ?_
      show OwnEnds p e below _ (T11.setTop (mkF m 142 #[.val (.ref a0), .val (.int p1), .val (.int p2), .val (.int p3)] [(.int ed), (.ref a0)]))
      refine .pre (fun _ kq => XS.iconst X11.here hx rfl (hb hby d22_142) kq) ?_
      show OwnEnds p e below _ (T11.setTop (mkF m 143 #[.val (.ref a0), .val (.int p1), .val (.int p2), .val (.int p3)] [(.int (1 : Int32)), (.int ed), (.ref a0)]))
      refine .pre (fun _ kq => XS.iadd X11.here hx rfl (hb hby d22_143) rfl kq) ?_
      show OwnEnds p e below _ (T11.setTop (mkF m 144 #[.val (.ref a0), .val (.int p1), .val (.int p2), .val (.int p3)] [(.int (ed + (1 : Int32))), (.ref a0)]))
      obtain ⟨T12, h12, X12, e12, W12, st12⟩ := putF X11 hx hZ hown (host := "") (Or.inl (hw _ (List.mem_of_getElem? (i := 160) rfl))) Via.refl e11 ((G10.other W7 (Or.inl (own_nd D 0 6 rfl rfl (by decide)))).other W10 (Or.inl (own_nd D 0 7 rfl rfl (by decide)))) ((EG.wr W7).wr W10) (Or.inl (hw _ (List.mem_of_getElem? (i := 161) rfl))) (hw _ (List.mem_of_getElem? (i := 5) rfl)) (ty := .int) (by decide) rfl rfl (g := (mkF m 144 #[.val (.ref a0), .val (.int p1), .val (.int p2), .val (.int p3)] [(.int (ed + (1 : Int32))), (.ref a0)])) rfl rfl (hb hby d22_144)
      have Fw12 := ((G10.other W7 (Or.inl (own_nd D 0 6 rfl rfl (by decide)))).other W10 (Or.inl (own_nd D 0 7 rfl rfl (by decide)))).same W12
      have N12 := Fr.snoc X12 N10 g_a0
      have Kp12 : Keep h0 h12 [a0, aF, aE, aT, aA] := Kp10.wr W12 (Or.inl (List.mem_of_getElem? (i := 0) rfl))
      refine .pre (fun _ kq => st12 _ kq) ?_
      show OwnEnds p e below _ (T12.setTop (mkF m 147 #[.val (.ref a0), .val (.int p1), .val (.int p2), .val (.int p3)] []))
      refine .pre (fun _ kq => XS.aloadN X12.here hx rfl (hb hby d22_147) rfl rfl kq) ?_
      show OwnEnds p e below _ (T12.setTop (mkF m 148 #[.val (.ref a0), .val (.int p1), .val (.int p2), .val (.int p3)] [(.ref a0)]))
      obtain ⟨T13, X13, e13, st13⟩ := getF X12 hx hZ hown (host := "") (Or.inl (hw _ (List.mem_of_getElem? (i := 69) rfl))) Via.refl e12 (((G6.other W7 (Or.inl (own_nd D 0 6 rfl rfl (by decide)))).other W10 (Or.inl (own_nd D 0 7 rfl rfl (by decide)))).other W12 (Or.inr (slot_ne (Or.inl (hw _ (List.mem_of_getElem? (i := 70) rfl))) (Or.inl (hw _ (List.mem_of_getElem? (i := 161) rfl))) (by decide) (t := (.array .int)) (t' := .int) (by decide) (by decide)))) (g := (mkF m 148 #[.val (.ref a0), .val (.int p1), .val (.int p2), .val (.int p3)] [(.ref a0)])) rfl rfl (hb hby d22_148)
      refine .pre (fun _ kq => st13 _ kq) ?_
      show OwnEnds p e below _ (T13.setTop (mkF m 151 #[.val (.ref a0), .val (.int p1), .val (.int p2), .val (.int p3)] [(.ref aE)]))
      refine .pre (fun _ kq => XS.iloadN X13.here hx rfl (hb hby d22_151) rfl kq) ?_
      show OwnEnds p e below _ (T13.setTop (mkF m 152 #[.val (.ref a0), .val (.int p1), .val (.int p2), .val (.int p3)] [(.int p2), (.ref aE)]))
      refine .pre (fun _ kq => XS.iloadN X13.here hx rfl (hb hby d22_152) rfl kq) ?_
      show OwnEnds p e below _ (T13.setTop (mkF m 153 #[.val (.ref a0), .val (.int p1), .val (.int p2), .val (.int p3)] [(.int p1), (.int p2), (.ref aE)]))
      refine .pre (fun _ kq => XS.iconst X13.here hx rfl (hb hby d22_153) kq) ?_
      show OwnEnds p e below _ (T13.setTop (mkF m 154 #[.val (.ref a0), .val (.int p1), .val (.int p2), .val (.int p3)] [(.int (1 : Int32)), (.int p1), (.int p2), (.ref aE)]))
      refine .pre (fun _ kq => XS.iadd X13.here hx rfl (hb hby d22_154) rfl kq) ?_
      show OwnEnds p e below _ (T13.setTop (mkF m 155 #[.val (.ref a0), .val (.int p1), .val (.int p2), .val (.int p3)] [(.int (p1 + (1 : Int32))), (.int p2), (.ref aE)]))
      obtain ⟨cl14, Ar14, qs14, qh14⟩ := id (((AE.other W7 (own_nd D 5 6 rfl rfl (by decide))).other W10 (own_nd D 5 7 rfl rfl (by decide))).other W12 (Ne.symm (own_nd D 0 5 rfl rfl (by decide))))
      have hj14 : 0 ≤ (p2).toInt ∧ (p2).toInt < 1024 := ⟨by omega, by omega⟩
      obtain ⟨T14, h14, X14, e14, W14, st14⟩ := stI X13 hx hZ e13 Ar14 (j := p2) (own_in1024 qs14 hj14) (g := (mkF m 155 #[.val (.ref a0), .val (.int p1), .val (.int p2), .val (.int p3)] [(.int (p1 + (1 : Int32))), (.int p2), (.ref aE)])) rfl rfl (hb hby d22_155)
      have V14 : OwnA Z h14 aE (own_upd EE (p2).toNatClampNeg (p1 + (1 : Int32))) := OwnA.set Ar14 qs14 qh14 W14
      have N14 := Fr.snoc X14 N12 g_aE
      have Kp14 : Keep h0 h14 [a0, aF, aE, aT, aA] := Kp12.wr W14 (Or.inl (List.mem_of_getElem? (i := 2) rfl))
      refine .pre (fun _ kq => st14 _ kq) ?_
      show OwnEnds p e below _ (T14.setTop (mkF m 156 #[.val (.ref a0), .val (.int p1), .val (.int p2), .val (.int p3)] []))
      exact own_endV X14 hx hlk Bd.returns (hb hby d22_156) (by decide) (by decide) ⟨rfl, N14, (by rw [e14]; exact Kp14), (by unfold OwnGx own_addE; rw [if_neg hno]; have hq : OwnG Z T14.heap a0 aL aP aR aF aE aT aA wc (ed + 1) ini (own_fill FF wl wc ed) (own_upd EE p2.toNatClampNeg (p1 + 1)) := ⟨(by rw [e14]; exact ((((EG.wr W7).wr W10).wr W12).wr W14)), (by rw [e14]; exact ((((G0.other W7 (Or.inl (own_nd D 0 6 rfl rfl (by decide)))).other W10 (Or.inl (own_nd D 0 7 rfl rfl (by decide)))).other W12 (Or.inr (slot_ne (Or.inr (hw _ (List.mem_of_getElem? (i := 55) rfl))) (Or.inl (hw _ (List.mem_of_getElem? (i := 161) rfl))) (by decide) (t := (.object "java/util/List")) (t' := .int) (by decide) (by decide)))).other W14 (Or.inl (own_nd D 0 5 rfl rfl (by decide))))), (by rw [e14]; exact ((((G1.other W7 (Or.inl (own_nd D 0 6 rfl rfl (by decide)))).other W10 (Or.inl (own_nd D 0 7 rfl rfl (by decide)))).other W12 (Or.inr (slot_ne (Or.inl (hw _ (List.mem_of_getElem? (i := 58) rfl))) (Or.inl (hw _ (List.mem_of_getElem? (i := 161) rfl))) (by decide) (t := (.array .int)) (t' := .int) (by decide) (by decide)))).other W14 (Or.inl (own_nd D 0 5 rfl rfl (by decide))))), (by rw [e14]; exact ((((G2.other W7 (Or.inl (own_nd D 0 6 rfl rfl (by decide)))).other W10 (Or.inl (own_nd D 0 7 rfl rfl (by decide)))).other W12 (Or.inr (slot_ne (Or.inl (hw _ (List.mem_of_getElem? (i := 60) rfl))) (Or.inl (hw _ (List.mem_of_getElem? (i := 161) rfl))) (by decide) (t := (.array .int)) (t' := .int) (by decide) (by decide)))).other W14 (Or.inl (own_nd D 0 5 rfl rfl (by decide))))), (by rw [e14]; exact ((((G3.other W7 (Or.inl (own_nd D 0 6 rfl rfl (by decide)))).other W10 (Or.inl (own_nd D 0 7 rfl rfl (by decide)))).other W12 (Or.inr (slot_ne (Or.inl (hw _ (List.mem_of_getElem? (i := 62) rfl))) (Or.inl (hw _ (List.mem_of_getElem? (i := 161) rfl))) (by decide) (t := .int) (t' := .int) (by decide) (by decide)))).other W14 (Or.inl (own_nd D 0 5 rfl rfl (by decide))))), (by rw [e14]; exact ((((G4.other W7 (Or.inl (own_nd D 0 6 rfl rfl (by decide)))).other W10 (Or.inl (own_nd D 0 7 rfl rfl (by decide)))).other W12 (Or.inr (slot_ne (Or.inr (hw _ (List.mem_of_getElem? (i := 66) rfl))) (Or.inl (hw _ (List.mem_of_getElem? (i := 161) rfl))) (by decide) (t := .boolean) (t' := .int) (by decide) (by decide)))).other W14 (Or.inl (own_nd D 0 5 rfl rfl (by decide))))), (by rw [e14]; exact ((((G5.other W7 (Or.inl (own_nd D 0 6 rfl rfl (by decide)))).other W10 (Or.inl (own_nd D 0 7 rfl rfl (by decide)))).other W12 (Or.inr (slot_ne (Or.inl (hw _ (List.mem_of_getElem? (i := 68) rfl))) (Or.inl (hw _ (List.mem_of_getElem? (i := 161) rfl))) (by decide) (t := (.array .int)) (t' := .int) (by decide) (by decide)))).other W14 (Or.inl (own_nd D 0 5 rfl rfl (by decide))))), (by rw [e14]; exact ((((G6.other W7 (Or.inl (own_nd D 0 6 rfl rfl (by decide)))).other W10 (Or.inl (own_nd D 0 7 rfl rfl (by decide)))).other W12 (Or.inr (slot_ne (Or.inl (hw _ (List.mem_of_getElem? (i := 70) rfl))) (Or.inl (hw _ (List.mem_of_getElem? (i := 161) rfl))) (by decide) (t := (.array .int)) (t' := .int) (by decide) (by decide)))).other W14 (Or.inl (own_nd D 0 5 rfl rfl (by decide))))), (by rw [e14]; exact ((((G7.other W7 (Or.inl (own_nd D 0 6 rfl rfl (by decide)))).other W10 (Or.inl (own_nd D 0 7 rfl rfl (by decide)))).other W12 (Or.inr (slot_ne (Or.inl (hw _ (List.mem_of_getElem? (i := 72) rfl))) (Or.inl (hw _ (List.mem_of_getElem? (i := 161) rfl))) (by decide) (t := (.array .int)) (t' := .int) (by decide) (by decide)))).other W14 (Or.inl (own_nd D 0 5 rfl rfl (by decide))))), (by rw [e14]; exact ((((G8.other W7 (Or.inl (own_nd D 0 6 rfl rfl (by decide)))).other W10 (Or.inl (own_nd D 0 7 rfl rfl (by decide)))).other W12 (Or.inr (slot_ne (Or.inl (hw _ (List.mem_of_getElem? (i := 74) rfl))) (Or.inl (hw _ (List.mem_of_getElem? (i := 161) rfl))) (by decide) (t := (.array .int)) (t' := .int) (by decide) (by decide)))).other W14 (Or.inl (own_nd D 0 5 rfl rfl (by decide))))), (by rw [e14]; exact ((((G9.other W7 (Or.inl (own_nd D 0 6 rfl rfl (by decide)))).other W10 (Or.inl (own_nd D 0 7 rfl rfl (by decide)))).other W12 (Or.inr (slot_ne (Or.inl (hw _ (List.mem_of_getElem? (i := 145) rfl))) (Or.inl (hw _ (List.mem_of_getElem? (i := 161) rfl))) (by decide) (t := .int) (t' := .int) (by decide) (by decide)))).other W14 (Or.inl (own_nd D 0 5 rfl rfl (by decide))))), (by rw [e14]; exact (Fw12.other W14 (Or.inl (own_nd D 0 5 rfl rfl (by decide))))), ⟨_, (by rw [e14]; exact ((((AP.other W7 (own_nd D 2 6 rfl rfl (by decide))).other W10 (own_nd D 2 7 rfl rfl (by decide))).other W12 (Ne.symm (own_nd D 0 2 rfl rfl (by decide)))).other W14 (own_nd D 2 5 rfl rfl (by decide))))⟩, ⟨_, (by rw [e14]; exact ((((AR.other W7 (own_nd D 3 6 rfl rfl (by decide))).other W10 (own_nd D 3 7 rfl rfl (by decide))).other W12 (Ne.symm (own_nd D 0 3 rfl rfl (by decide)))).other W14 (own_nd D 3 5 rfl rfl (by decide))))⟩, (by rw [e14]; exact ((((AF.other W7 (own_nd D 4 6 rfl rfl (by decide))).other W10 (own_nd D 4 7 rfl rfl (by decide))).other W12 (Ne.symm (own_nd D 0 4 rfl rfl (by decide)))).other W14 (own_nd D 4 5 rfl rfl (by decide)))), (by rw [e14]; exact V14), ⟨_, (by rw [e14]; exact (((V7.other W10 (own_nd D 6 7 rfl rfl (by decide))).other W12 (Ne.symm (own_nd D 0 6 rfl rfl (by decide)))).other W14 (Ne.symm (own_nd D 5 6 rfl rfl (by decide)))))⟩, ⟨_, (by rw [e14]; exact ((V10.other W12 (Ne.symm (own_nd D 0 7 rfl rfl (by decide)))).other W14 (Ne.symm (own_nd D 5 7 rfl rfl (by decide)))))⟩⟩; rw [hwp] at hq; exact hq)⟩
    | succ fuel ih =>
      intro T L hh X eT N Zh Kh wc HG h1 h2 hf hno
      obtain ⟨EG, G0, G1, G2, G3, G4, G5, G6, G7, G8, G9, G10, ⟨fP, AP⟩, ⟨fR, AR⟩, AF, AE, ⟨fT, AT⟩, ⟨fA, AA⟩⟩ := id HG
      have hlt : wc < p1 := by rw [Int32.lt_iff_toInt_lt]; omega
      have hs := own_plus1 wc (by omega) (by omega)
      show OwnEnds p e below _ (T.setTop (mkF m 40 #[.val (.ref a0), .val (.int p1), .val (.int p2), .val (.int p3)] []))
      refine .pre (fun _ kq => XS.aloadN X.here hx rfl (hb hby d22_40) rfl rfl kq) ?_
      show OwnEnds p e below _ (T.setTop (mkF m 41 #[.val (.ref a0), .val (.int p1), .val (.int p2), .val (.int p3)] [(.ref a0)]))
      obtain ⟨T1, X1, e1, st1⟩ := getF X hx hZ hown (host := "") (Or.inl (hw _ (List.mem_of_getElem? (i := 61) rfl))) Via.refl eT G3 (g := (mkF m 41 #[.val (.ref a0), .val (.int p1), .val (.int p2), .val (.int p3)] [(.ref a0)])) rfl rfl (hb hby d22_41)
      refine .pre (fun _ kq => st1 _ kq) ?_
      show OwnEnds p e below _ (T1.setTop (mkF m 44 #[.val (.ref a0), .val (.int p1), .val (.int p2), .val (.int p3)] [(.int wc)]))
      refine .pre (fun _ kq => XS.iloadN X1.here hx rfl (hb hby d22_44) rfl kq) ?_
      show OwnEnds p e below _ (T1.setTop (mkF m 45 #[.val (.ref a0), .val (.int p1), .val (.int p2), .val (.int p3)] [(.int p1), (.int wc)]))
      have hc45 : wc < p1 := hlt
      refine .pre (fun _ kq => XS.icmpNo X1.here hx rfl (hb hby d22_45) rfl (tlt hc45).2.1 kq) ?_
      show OwnEnds p e below _ (T1.setTop (mkF m 48 #[.val (.ref a0), .val (.int p1), .val (.int p2), .val (.int p3)] []))
      refine .pre (fun _ kq => XS.aloadN X1.here hx rfl (hb hby d22_48) rfl rfl kq) ?_
      show OwnEnds p e below _ (T1.setTop (mkF m 49 #[.val (.ref a0), .val (.int p1), .val (.int p2), .val (.int p3)] [(.ref a0)]))
      obtain ⟨T2, X2, e2, st2⟩ := getF X1 hx hZ hown (host := "") (Or.inl (hw _ (List.mem_of_getElem? (i := 67) rfl))) Via.refl e1 G5 (g := (mkF m 49 #[.val (.ref a0), .val (.int p1), .val (.int p2), .val (.int p3)] [(.ref a0)])) rfl rfl (hb hby d22_49)
      refine .pre (fun _ kq => st2 _ kq) ?_
      show OwnEnds p e below _ (T2.setTop (mkF m 52 #[.val (.ref a0), .val (.int p1), .val (.int p2), .val (.int p3)] [(.ref aF)]))
      refine .pre (fun _ kq => XS.aloadN X2.here hx rfl (hb hby d22_52) rfl rfl kq) ?_
      show OwnEnds p e below _ (T2.setTop (mkF m 53 #[.val (.ref a0), .val (.int p1), .val (.int p2), .val (.int p3)] [(.ref a0), (.ref aF)]))
      refine .pre (fun _ kq => XS.dup X2.here hx rfl (hb hby d22_53) rfl rfl kq) ?_
      show OwnEnds p e below _ (T2.setTop (mkF m 54 #[.val (.ref a0), .val (.int p1), .val (.int p2), .val (.int p3)] [(.ref a0), (.ref a0), (.ref aF)]))
      obtain ⟨T3, X3, e3, st3⟩ := getF X2 hx hZ hown (host := "") (Or.inl (hw _ (List.mem_of_getElem? (i := 61) rfl))) Via.refl e2 G3 (g := (mkF m 54 #[.val (.ref a0), .val (.int p1), .val (.int p2), .val (.int p3)] [(.ref a0), (.ref a0), (.ref aF)])) rfl rfl (hb hby d22_54)
      refine .pre (fun _ kq => st3 _ kq) ?_
      show OwnEnds p e below _ (T3.setTop (mkF m 57 #[.val (.ref a0), .val (.int p1), .val (.int p2), .val (.int p3)] [(.int wc), (.ref a0), (.ref aF)]))
      refine .pre (fun _ kq => XS.iconst X3.here hx rfl (hb hby d22_57) kq) ?_
      show OwnEnds p e below _ (T3.setTop (mkF m 58 #[.val (.ref a0), .val (.int p1), .val (.int p2), .val (.int p3)] [(.int (1 : Int32)), (.int wc), (.ref a0), (.ref aF)]))
      refine .pre (fun _ kq => XS.iadd X3.here hx rfl (hb hby d22_58) rfl kq) ?_
      show OwnEnds p e below _ (T3.setTop (mkF m 59 #[.val (.ref a0), .val (.int p1), .val (.int p2), .val (.int p3)] [(.int (wc + (1 : Int32))), (.ref a0), (.ref aF)]))
      refine .pre (fun _ kq => XS.dupX1 X3.here hx rfl (hb hby d22_59) rfl rfl rfl kq) ?_
      show OwnEnds p e below _ (T3.setTop (mkF m 60 #[.val (.ref a0), .val (.int p1), .val (.int p2), .val (.int p3)] [(.int (wc + (1 : Int32))), (.ref a0), (.int (wc + (1 : Int32))), (.ref aF)]))
      obtain ⟨T4, h4, X4, e4, W4, st4⟩ := putF X3 hx hZ hown (host := "") (Or.inl (hw _ (List.mem_of_getElem? (i := 61) rfl))) Via.refl e3 G3 EG (Or.inl (hw _ (List.mem_of_getElem? (i := 62) rfl))) (hw _ (List.mem_of_getElem? (i := 5) rfl)) (ty := .int) (by decide) rfl rfl (g := (mkF m 60 #[.val (.ref a0), .val (.int p1), .val (.int p2), .val (.int p3)] [(.int (wc + (1 : Int32))), (.ref a0), (.int (wc + (1 : Int32))), (.ref aF)])) rfl rfl (hb hby d22_60)
      have Fw4 := G3.same W4
      have N4 := Fr.snoc X4 N g_a0
      have Kp4 : Keep h0 h4 [a0, aF, aE, aT, aA] := Kh.wr W4 (Or.inl (List.mem_of_getElem? (i := 0) rfl))
      refine .pre (fun _ kq => st4 _ kq) ?_
      show OwnEnds p e below _ (T4.setTop (mkF m 63 #[.val (.ref a0), .val (.int p1), .val (.int p2), .val (.int p3)] [(.int (wc + (1 : Int32))), (.ref aF)]))
      refine .pre (fun _ kq => XS.aloadN X4.here hx rfl (hb hby d22_63) rfl rfl kq) ?_
      show OwnEnds p e below _ (T4.setTop (mkF m 64 #[.val (.ref a0), .val (.int p1), .val (.int p2), .val (.int p3)] [(.ref a0), (.int (wc + (1 : Int32))), (.ref aF)]))
      obtain ⟨T5, X5, e5, st5⟩ := getF X4 hx hZ hown (host := "") (Or.inl (hw _ (List.mem_of_getElem? (i := 160) rfl))) Via.refl e4 (G10.other W4 (Or.inr (slot_ne (Or.inl (hw _ (List.mem_of_getElem? (i := 161) rfl))) (Or.inl (hw _ (List.mem_of_getElem? (i := 62) rfl))) (by decide) (t := .int) (t' := .int) (by decide) (by decide)))) (g := (mkF m 64 #[.val (.ref a0), .val (.int p1), .val (.int p2), .val (.int p3)] [(.ref a0), (.int (wc + (1 : Int32))), (.ref aF)])) rfl rfl (hb hby d22_64)
      refine .pre (fun _ kq => st5 _ kq) ?_
      show OwnEnds p e below _ (T5.setTop (mkF m 67 #[.val (.ref a0), .val (.int p1), .val (.int p2), .val (.int p3)] [(.int ed), (.int (wc + (1 : Int32))), (.ref aF)]))
      obtain ⟨cl6, Ar6, qs6, qh6⟩ := id (AF.other W4 (Ne.symm (own_nd D 0 4 rfl rfl (by decide))))
      have hj6 : 0 ≤ ((wc + (1 : Int32))).toInt ∧ ((wc + (1 : Int32))).toInt < 1024 := ⟨by rw [hs]; omega, by rw [hs]; omega⟩
      obtain ⟨T6, h6, X6, e6, W6, st6⟩ := stI X5 hx hZ e5 Ar6 (j := (wc + (1 : Int32))) (own_in1024 qs6 hj6) (g := (mkF m 67 #[.val (.ref a0), .val (.int p1), .val (.int p2), .val (.int p3)] [(.int ed), (.int (wc + (1 : Int32))), (.ref aF)])) rfl rfl (hb hby d22_67)
      have V6 : OwnA Z h6 aF (own_upd (own_fill FF wl wc ed) ((wc + (1 : Int32))).toNatClampNeg ed) := OwnA.set Ar6 qs6 qh6 W6
      have N6 := Fr.snoc X6 N4 g_aF
      have Kp6 : Keep h0 h6 [a0, aF, aE, aT, aA] := Kp4.wr W6 (Or.inl (List.mem_of_getElem? (i := 1) rfl))
      refine .pre (fun _ kq => st6 _ kq) ?_
      show OwnEnds p e below _ (T6.setTop (mkF m 68 #[.val (.ref a0), .val (.int p1), .val (.int p2), .val (.int p3)] []))
      refine .pre (fun _ kq => XS.goto X6.here hx rfl (pc0 := 68) (pc' := 40) rfl (hb hby d22_68) (by decide) (by decide) kq) ?_
      exact ih T6 _ _ X6 e6 N6 (Nat.le_trans (Nat.le_trans Zh (Keep.of_wr W4).1) (Keep.of_wr W6).1) Kp6 _ (by rw [← own_fill_step FF wl wc ed (by omega) (by omega) hs]; exact ⟨((EG.wr W4).wr W6), ((G0.other W4 (Or.inr (slot_ne (Or.inr (hw _ (List.mem_of_getElem? (i := 55) rfl))) (Or.inl (hw _ (List.mem_of_getElem? (i := 62) rfl))) (by decide) (t := (.object "java/util/List")) (t' := .int) (by decide) (by decide)))).other W6 (Or.inl (own_nd D 0 4 rfl rfl (by decide)))), ((G1.other W4 (Or.inr (slot_ne (Or.inl (hw _ (List.mem_of_getElem? (i := 58) rfl))) (Or.inl (hw _ (List.mem_of_getElem? (i := 62) rfl))) (by decide) (t := (.array .int)) (t' := .int) (by decide) (by decide)))).other W6 (Or.inl (own_nd D 0 4 rfl rfl (by decide)))), ((G2.other W4 (Or.inr (slot_ne (Or.inl (hw _ (List.mem_of_getElem? (i := 60) rfl))) (Or.inl (hw _ (List.mem_of_getElem? (i := 62) rfl))) (by decide) (t := (.array .int)) (t' := .int) (by decide) (by decide)))).other W6 (Or.inl (own_nd D 0 4 rfl rfl (by decide)))), (Fw4.other W6 (Or.inl (own_nd D 0 4 rfl rfl (by decide)))), ((G4.other W4 (Or.inr (slot_ne (Or.inr (hw _ (List.mem_of_getElem? (i := 66) rfl))) (Or.inl (hw _ (List.mem_of_getElem? (i := 62) rfl))) (by decide) (t := .boolean) (t' := .int) (by decide) (by decide)))).other W6 (Or.inl (own_nd D 0 4 rfl rfl (by decide)))), ((G5.other W4 (Or.inr (slot_ne (Or.inl (hw _ (List.mem_of_getElem? (i := 68) rfl))) (Or.inl (hw _ (List.mem_of_getElem? (i := 62) rfl))) (by decide) (t := (.array .int)) (t' := .int) (by decide) (by decide)))).other W6 (Or.inl (own_nd D 0 4 rfl rfl (by decide)))), ((G6.other W4 (Or.inr (slot_ne (Or.inl (hw _ (List.mem_of_getElem? (i := 70) rfl))) (Or.inl (hw _ (List.mem_of_getElem? (i := 62) rfl))) (by decide) (t := (.array .int)) (t' := .int) (by decide) (by decide)))).other W6 (Or.inl (own_nd D 0 4 rfl rfl (by decide)))), ((G7.other W4 (Or.inr (slot_ne (Or.inl (hw _ (List.mem_of_getElem? (i := 72) rfl))) (Or.inl (hw _ (List.mem_of_getElem? (i := 62) rfl))) (by decide) (t := (.array .int)) (t' := .int) (by decide) (by decide)))).other W6 (Or.inl (own_nd D 0 4 rfl rfl (by decide)))), ((G8.other W4 (Or.inr (slot_ne (Or.inl (hw _ (List.mem_of_getElem? (i := 74) rfl))) (Or.inl (hw _ (List.mem_of_getElem? (i := 62) rfl))) (by decide) (t := (.array .int)) (t' := .int) (by decide) (by decide)))).other W6 (Or.inl (own_nd D 0 4 rfl rfl (by decide)))), ((G9.other W4 (Or.inr (slot_ne (Or.inl (hw _ (List.mem_of_getElem? (i := 145) rfl))) (Or.inl (hw _ (List.mem_of_getElem? (i := 62) rfl))) (by decide) (t := .int) (t' := .int) (by decide) (by decide)))).other W6 (Or.inl (own_nd D 0 4 rfl rfl (by decide)))), ((G10.other W4 (Or.inr (slot_ne (Or.inl (hw _ (List.mem_of_getElem? (i := 161) rfl))) (Or.inl (hw _ (List.mem_of_getElem? (i := 62) rfl))) (by decide) (t := .int) (t' := .int) (by decide) (by decide)))).other W6 (Or.inl (own_nd D 0 4 rfl rfl (by decide)))), ⟨_, ((AP.other W4 (Ne.symm (own_nd D 0 2 rfl rfl (by decide)))).other W6 (own_nd D 2 4 rfl rfl (by decide)))⟩, ⟨_, ((AR.other W4 (Ne.symm (own_nd D 0 3 rfl rfl (by decide)))).other W6 (own_nd D 3 4 rfl rfl (by decide)))⟩, V6, ((AE.other W4 (Ne.symm (own_nd D 0 5 rfl rfl (by decide)))).other W6 (Ne.symm (own_nd D 4 5 rfl rfl (by decide)))), ⟨_, ((AT.other W4 (Ne.symm (own_nd D 0 6 rfl rfl (by decide)))).other W6 (Ne.symm (own_nd D 4 6 rfl rfl (by decide))))⟩, ⟨_, ((AA.other W4 (Ne.symm (own_nd D 0 7 rfl rfl (by decide)))).other W6 (Ne.symm (own_nd D 4 7 rfl rfl (by decide))))⟩⟩) (by rw [hs]; omega) (by rw [hs]; omega) (by rw [hs]; omega) hno
  obtain ⟨EG, G0, G1, G2, G3, G4, G5, G6, G7, G8, G9, G10, ⟨fP, AP⟩, ⟨fR, AR⟩, AF, AE, ⟨fT, AT⟩, ⟨fA, AA⟩⟩ := id HG
  show OwnEnds p e below _ (s₁.setTop (mkF m 0 #[.val (.ref a0), .val (.int p1), .val (.int p2), .val (.int p3)] []))
  refine .pre (fun _ kq => XS.iloadN X0.here hx rfl (hb hby d22_0) rfl kq) ?_
  show OwnEnds p e below _ (s₁.setTop (mkF m 1 #[.val (.ref a0), .val (.int p1), .val (.int p2), .val (.int p3)] [(.int p1)]))
  refine .pre (fun _ kq => XS.aloadN X0.here hx rfl (hb hby d22_1) rfl rfl kq) ?_
  show OwnEnds p e below _ (s₁.setTop (mkF m 2 #[.val (.ref a0), .val (.int p1), .val (.int p2), .val (.int p3)] [(.ref a0), (.int p1)]))
  obtain ⟨T1, X1, e1, st1⟩ := getF X0 hx hZ hown (host := "") (Or.inl (hw _ (List.mem_of_getElem? (i := 61) rfl))) Via.refl e0 G3 (g := (mkF m 2 #[.val (.ref a0), .val (.int p1), .val (.int p2), .val (.int p3)] [(.ref a0), (.int p1)])) rfl rfl (hb hby d22_2)
  refine .pre (fun _ kq => st1 _ kq) ?_
  show OwnEnds p e below _ (T1.setTop (mkF m 5 #[.val (.ref a0), .val (.int p1), .val (.int p2), .val (.int p3)] [(.int wl), (.int p1)]))
  have hc5 : ¬ (p1 < wl) := hge0
  refine .pre (fun _ kq => XS.icmpYes X1.here hx rfl (pc0 := 5) (pc' := 22) rfl (hb hby d22_5) rfl (flt hc5).2.1 (by decide) (by decide) kq) ?_
  show OwnEnds p e below _ (T1.setTop (mkF m 22 #[.val (.ref a0), .val (.int p1), .val (.int p2), .val (.int p3)] []))
  refine .pre (fun _ kq => XS.iloadN X1.here hx rfl (hb hby d22_22) rfl kq) ?_
  show OwnEnds p e below _ (T1.setTop (mkF m 23 #[.val (.ref a0), .val (.int p1), .val (.int p2), .val (.int p3)] [(.int p1)]))
  refine .pre (fun _ kq => XS.iloadN X1.here hx rfl (hb hby d22_23) rfl kq) ?_
  show OwnEnds p e below _ (T1.setTop (mkF m 24 #[.val (.ref a0), .val (.int p1), .val (.int p2), .val (.int p3)] [(.int p2), (.int p1)]))
  by_cases hc24 : p1 = p2
  · skip
    refine .pre (fun _ kq => XS.icmpYes X1.here hx rfl (pc0 := 24) (pc' := 39) rfl (hb hby d22_24) rfl (teq hc24).1 (by decide) (by decide) kq) ?_
    have own_hp : p1 = p2 ∨ EE p2.toNatClampNeg = p1 + 1 := by first | exact Or.inl hc24 | exact Or.inr hc36
    show OwnEnds p e below _ (T1.setTop (mkF m 39 #[.val (.ref a0), .val (.int p1), .val (.int p2), .val (.int p3)] []))
    exact own_endV X1 hx hlk Bd.returns (hb hby d22_39) (by decide) (by decide) ⟨rfl, N0, (by rw [e1]; exact (Keep.refl h0 [a0, aF, aE, aT, aA])), (by unfold OwnGx own_addE; rw [if_pos own_hp]; exact ⟨(by rw [e1]; exact EG), (by rw [e1]; exact G0), (by rw [e1]; exact G1), (by rw [e1]; exact G2), (by rw [e1]; exact G3), (by rw [e1]; exact G4), (by rw [e1]; exact G5), (by rw [e1]; exact G6), (by rw [e1]; exact G7), (by rw [e1]; exact G8), (by rw [e1]; exact G9), (by rw [e1]; exact G10), ⟨_, (by rw [e1]; exact AP)⟩, ⟨_, (by rw [e1]; exact AR)⟩, (by rw [e1]; exact AF), (by rw [e1]; exact AE), ⟨_, (by rw [e1]; exact AT)⟩, ⟨_, (by rw [e1]; exact AA)⟩⟩)⟩
  · skip
    refine .pre (fun _ kq => XS.icmpNo X1.here hx rfl (hb hby d22_24) rfl (feq hc24).1 kq) ?_
    show OwnEnds p e below _ (T1.setTop (mkF m 27 #[.val (.ref a0), .val (.int p1), .val (.int p2), .val (.int p3)] []))
    refine .pre (fun _ kq => XS.aloadN X1.here hx rfl (hb hby d22_27) rfl rfl kq) ?_
    show OwnEnds p e below _ (T1.setTop (mkF m 28 #[.val (.ref a0), .val (.int p1), .val (.int p2), .val (.int p3)] [(.ref a0)]))
    obtain ⟨T2, X2, e2, st2⟩ := getF X1 hx hZ hown (host := "") (Or.inl (hw _ (List.mem_of_getElem? (i := 69) rfl))) Via.refl e1 G6 (g := (mkF m 28 #[.val (.ref a0), .val (.int p1), .val (.int p2), .val (.int p3)] [(.ref a0)])) rfl rfl (hb hby d22_28)
    refine .pre (fun _ kq => st2 _ kq) ?_
    show OwnEnds p e below _ (T2.setTop (mkF m 31 #[.val (.ref a0), .val (.int p1), .val (.int p2), .val (.int p3)] [(.ref aE)]))
    refine .pre (fun _ kq => XS.iloadN X2.here hx rfl (hb hby d22_31) rfl kq) ?_
    show OwnEnds p e below _ (T2.setTop (mkF m 32 #[.val (.ref a0), .val (.int p1), .val (.int p2), .val (.int p3)] [(.int p2), (.ref aE)]))
    obtain ⟨cl3, Ar3, qs3, qh3⟩ := id AE
    have hj3 : 0 ≤ (p2).toInt ∧ (p2).toInt < 1024 := ⟨by omega, by omega⟩
    refine .pre (fun _ kq => X2.iaload hx (j := p2) (v := (.int (EE (p2).toNatClampNeg))) (by rw [e2]; exact Ar3.1) (State.isArrayOf_alike hZ.alike Ar3.2.1) Ar3.2.2 (own_in1024 qs3 hj3) (qh3 _ (own_lt1024 hj3)) (g := (mkF m 32 #[.val (.ref a0), .val (.int p1), .val (.int p2), .val (.int p3)] [(.int p2), (.ref aE)])) rfl rfl (hb hby d22_32) _ kq) ?_
    show OwnEnds p e below _ (T2.setTop (mkF m 33 #[.val (.ref a0), .val (.int p1), .val (.int p2), .val (.int p3)] [(.int (EE (p2).toNatClampNeg))]))
    refine .pre (fun _ kq => XS.iloadN X2.here hx rfl (hb hby d22_33) rfl kq) ?_
    show OwnEnds p e below _ (T2.setTop (mkF m 34 #[.val (.ref a0), .val (.int p1), .val (.int p2), .val (.int p3)] [(.int p1), (.int (EE (p2).toNatClampNeg))]))
    refine .pre (fun _ kq => XS.iconst X2.here hx rfl (hb hby d22_34) kq) ?_
    show OwnEnds p e below _ (T2.setTop (mkF m 35 #[.val (.ref a0), .val (.int p1), .val (.int p2), .val (.int p3)] [(.int (1 : Int32)), (.int p1), (.int (EE (p2).toNatClampNeg))]))
    refine .pre (fun _ kq => XS.iadd X2.here hx rfl (hb hby d22_35) rfl kq) ?_
    show OwnEnds p e below _ (T2.setTop (mkF m 36 #[.val (.ref a0), .val (.int p1), .val (.int p2), .val (.int p3)] [(.int (p1 + (1 : Int32))), (.int (EE (p2).toNatClampNeg))]))
    by_cases hc36 : (EE (p2).toNatClampNeg) = (p1 + (1 : Int32))
    · skip
      refine .pre (fun _ kq => XS.icmpNo X2.here hx rfl (hb hby d22_36) rfl (teq hc36).2 kq) ?_
      have own_hp : p1 = p2 ∨ EE p2.toNatClampNeg = p1 + 1 := by first | exact Or.inl hc24 | exact Or.inr hc36
      show OwnEnds p e below _ (T2.setTop (mkF m 39 #[.val (.ref a0), .val (.int p1), .val (.int p2), .val (.int p3)] []))
      exact own_endV X2 hx hlk Bd.returns (hb hby d22_39) (by decide) (by decide) ⟨rfl, N0, (by rw [e2]; exact (Keep.refl h0 [a0, aF, aE, aT, aA])), (by unfold OwnGx own_addE; rw [if_pos own_hp]; exact ⟨(by rw [e2]; exact EG), (by rw [e2]; exact G0), (by rw [e2]; exact G1), (by rw [e2]; exact G2), (by rw [e2]; exact G3), (by rw [e2]; exact G4), (by rw [e2]; exact G5), (by rw [e2]; exact G6), (by rw [e2]; exact G7), (by rw [e2]; exact G8), (by rw [e2]; exact G9), (by rw [e2]; exact G10), ⟨_, (by rw [e2]; exact AP)⟩, ⟨_, (by rw [e2]; exact AR)⟩, (by rw [e2]; exact AF), (by rw [e2]; exact AE), ⟨_, (by rw [e2]; exact AT)⟩, ⟨_, (by rw [e2]; exact AA)⟩⟩)⟩
    · skip
      refine .pre (fun _ kq => XS.icmpYes X2.here hx rfl (pc0 := 36) (pc' := 40) rfl (hb hby d22_36) rfl (feq hc36).2 (by decide) (by decide) kq) ?_
      exact B40 _ T2 _ _ X2 e2 N0 Z0 (Keep.refl h0 [a0, aF, aE, aT, aA]) wl (by rw [own_fill_self]; exact ⟨EG, G0, G1, G2, G3, G4, G5, G6, G7, G8, G9, G10, ⟨_, AP⟩, ⟨_, AR⟩, AF, AE, ⟨_, AT⟩, ⟨_, AA⟩⟩) (Int.le_refl _) (by omega) rfl (fun q => q.elim hc24 hc36)
theorem ef_10E (m : MethodId) (a0 : Addr) (a1 : Addr) (p2 : Int32) (p3 : Int32) : entryFrame m #[(.ref a0), (.ref a1), (.int p2), (.int p3)] 6 = mkF m 0 #[.val (.ref a0), .val (.ref a1), .val (.int p2), .val (.int p3), .unset, .unset] [] := by first | (simp [entryFrame, mkF, argsToLocals, Value.category]; done) | rfl
theorem pd_16 : parseMethodDescriptor "(III)V" = some ⟨[.int, .int, .int], none⟩ := by decide +kernel
def Q10E (Z : State) (a0 : Addr) (a1 : Addr) (p2 : Int32) (p3 : Int32) (aL : Addr) (aP : Addr) (aR : Addr) (aF : Addr) (aE : Addr) (aT : Addr) (aA : Addr) (wl : Int32) (ed : Int32) (ini : Int32) (FF : Nat → Int32) (EE : Nat → Int32) (t : Int32) (h0 : Heap) (n0 : Nat) (v : Option Value) (h : Heap) (L : List Loc) : Prop := v = some (.int 0) ∧ Fr n0 L ∧ Keep h0 h [a0, aF, aE, aT, aA] ∧ OwnGx Z h a0 aL aP aR aF aE aT aA ini (own_addE wl ed FF EE p2 t)
set_option maxRecDepth 65536 in
set_option maxHeartbeats 40000000 in
theorem rm10E (l : Launch) (Z : State) (aZ : Array Value) (hw : ∀ d ∈ tables_1, d.before aZ Z = true) (ws : List Jvm.Cond) (a0 : Addr) (a1 : Addr) (p2 : Int32) (p3 : Int32) (aL : Addr) (aP : Addr) (aR : Addr) (aF : Addr) (aE : Addr) (aT : Addr) (aA : Addr) (wl : Int32) (ed : Int32) (ini : Int32) (FF : Nat → Int32) (EE : Nat → Int32) (t : Int32) (h0 : Heap) (n0 : Nat) (Z0 : n0 ≤ h0.size) (HG : OwnG Z h0 a0 aL aP aR aF aE aT aA wl ed ini FF EE) (fsE : Exa Z h0 a1 "com/example/changeset/changeset/check/FoundState") (fsN : Fld Z h0 a1 "com/example/changeset/changeset/check/FoundState" "number" "I" (.int t)) (D : [a0, aL, aP, aR, aF, aE, aT, aA].Pairwise (· ≠ ·)) (GN : ∀ x ∈ [a0, aL, aP, aR, aF, aE, aT, aA], n0 ≤ x) (hbd : (-1 ≤ wl.toInt ∧ wl.toInt ≤ p2.toInt ∧ 0 ≤ p2.toInt ∧ p2.toInt ≤ 2) ∧ (0 ≤ t.toInt ∧ t.toInt ≤ 2 ∧ 0 ≤ ed.toInt ∧ ed.toInt ≤ 10)) :
    MetFree l (⟨"com/example/changeset/changeset/check/StateGraph", "add", "(Lcom/example/changeset/changeset/check/FoundState;II)Z"⟩ : MethodName) (head1 (Jvm.Cond.code (⟨"com/example/changeset/changeset/check/StateGraph", "add", "(Lcom/example/changeset/changeset/check/FoundState;II)Z"⟩ : MethodName) prog_39_method_3_code 6 (some .boolean) :: ws) ({ frames := 1, cells := 0, slots := 0, locals := 18 } : Room)) (fun a U => a = #[(.ref a0), (.ref a1), (.int p2), (.int p3)] ∧ Z.Warmed39 U.vm ∧ U.heap = h0) (fun _ _ _ _ _ => True) (fun _ U o U' => ∃ v L, o = .returned v ∧ Q10E Z a0 a1 p2 p3 aL aP aR aF aE aT aA wl ed ini FF EE t h0 n0 v U'.heap L ∧ FrameEnd U o U' L 0 0) := by
  refine MetFree.of_bodySF (plainFor_of_name pn_6) hisR ?_
  intro p e s m args below meth c s₁ Bd hml0 hP hK
  obtain ⟨rfl, hZ, hh⟩ := hP
  have hx := Bd.exec
  have hby := Bd.bytes
  have hml : c.maxLocals = 6 := hml0
  have hown : s.vm.findClass "com/example/changeset/changeset/check/StateGraph" = some m.cls := findClass_of_methodNamed Bd.named
  have hnm := (name_of_methodNamed Bd.named Bd.method).1
  have hlk := BodyLoose.notSynchronized Bd
  have X0 : Stand p l e ({ frames := 1, cells := 0, slots := 0, locals := 18 } : Room) s m #[(.ref a0), (.ref a1), (.int p2), (.int p3)] below meth c s₁ [] 0 0 := Stand.of_body Bd
  have e0 : s₁.heap = h0 := by rw [← hh, Bd.state]; rfl
  have N0 := Fr.nil n0
  have hk0 : 0 ≤ 0 := Nat.zero_le _
  have hn0 : 0 ≤ 0 := Nat.zero_le _
  show OwnEnds p e below (OwnQ s (Q10E Z a0 a1 p2 p3 aL aP aR aF aE aT aA wl ed ini FF EE t h0 n0) 0 0) (s₁.setTop (entryFrame m #[(.ref a0), (.ref a1), (.int p2), (.int p3)] 6))
  refine .pre (fun t k => castTop (ef_10E m a0 a1 p2 p3) k) ?_
  obtain ⟨EG, G0, G1, G2, G3, G4, G5, G6, G7, G8, G9, G10, ⟨fP, AP⟩, ⟨fR, AR⟩, AF, AE, ⟨fT, AT⟩, ⟨fA, AA⟩⟩ := id HG
  have g_a0 : n0 ≤ a0 := GN _ (List.mem_of_getElem? (i := 0) rfl)
  have g_aL : n0 ≤ aL := GN _ (List.mem_of_getElem? (i := 1) rfl)
  have g_aP : n0 ≤ aP := GN _ (List.mem_of_getElem? (i := 2) rfl)
  have g_aR : n0 ≤ aR := GN _ (List.mem_of_getElem? (i := 3) rfl)
  have g_aF : n0 ≤ aF := GN _ (List.mem_of_getElem? (i := 4) rfl)
  have g_aE : n0 ≤ aE := GN _ (List.mem_of_getElem? (i := 5) rfl)
  have g_aT : n0 ≤ aT := GN _ (List.mem_of_getElem? (i := 6) rfl)
  have g_aA : n0 ≤ aA := GN _ (List.mem_of_getElem? (i := 7) rfl)
  have ht0 : ¬ (t < (0 : Int32)) := by have z : (0 : Int32).toInt = 0 := rfl; rw [Int32.lt_iff_toInt_lt, z]; omega
  have hp0 : ¬ (p2 < (0 : Int32)) := by have z : (0 : Int32).toInt = 0 := rfl; rw [Int32.lt_iff_toInt_lt, z]; omega
  show OwnEnds p e below _ (s₁.setTop (mkF m 0 #[.val (.ref a0), .val (.ref a1), .val (.int p2), .val (.int p3), .unset, .unset] []))
  refine .pre (fun _ kq => XS.aloadN X0.here hx rfl (hb hby d10_0) rfl rfl kq) ?_
  show OwnEnds p e below _ (s₁.setTop (mkF m 1 #[.val (.ref a0), .val (.ref a1), .val (.int p2), .val (.int p3), .unset, .unset] [(.ref a1)]))
  obtain ⟨cq1, kq1, q1a, q1b, q1c⟩ := isOf hZ e0 fsE
  obtain ⟨_, _, ⟨T1, L1, k1, n1⟩, -, X1, ⟨Lc1, hQ1, l1, y1, z1⟩, st1⟩ := X0.virtualBack hx (y := (⟨"com/example/changeset/changeset/check/FoundState", "number", "()I"⟩ : MethodName)) (z := (⟨"com/example/changeset/changeset/check/FoundState", "number", "()I"⟩ : MethodName)) hown (mvT hZ (hw _ (List.mem_of_getElem? (i := 93) rfl))) (mvT hZ (hw _ (List.mem_of_getElem? (i := 94) rfl))) (notFace_of_selects (args := #[]) (mvT hZ (hw _ (List.mem_of_getElem? (i := 96) rfl)))) (mvT hZ (hw _ (List.mem_of_getElem? (i := 96) rfl))) (mvT hZ (hw _ (List.mem_of_getElem? (i := 95) rfl))) (by decide) (backOf (W := 0) (rm11 l Z aZ hw [] a1 t h0 n0 Z0 fsN) hZ (hw _ (List.mem_of_getElem? (i := 97) rfl)) (hw _ (List.mem_of_getElem? (i := 78) rfl)) (by decide) (by decide)) q1a q1c (g := (mkF m 1 #[.val (.ref a0), .val (.ref a1), .val (.int p2), .val (.int p3), .unset, .unset] [(.ref a1)])) rfl (by rw [hml]; rfl) (Steps.refl _) (argsL := []) (rest := []) (lenOf pd_12 rfl) rfl (by show 2 * 0 + _ ≤ _; exact Nat.le_of_eq rfl) (hb hby d10_1) (fun _ _ => ⟨rfl, e0, (by decide : 0 + 0 ≤ _), (by decide : 0 + 0 ≤ _)⟩)
  dsimp only [Pt.U, Pt.locs, Pt.cells, Pt.slots] at X1 l1 y1 z1 st1 hQ1
  try dsimp only [Nat.reduceAdd] at y1 z1
  subst y1 z1
  obtain ⟨rfl, N1q, e1⟩ := hQ1
  have N1 : Fr n0 L1 := by rw [l1]; exact Fr.app N0 N1q
  refine .pre (fun _ kq => st1.trans kq) ?_
  show OwnEnds p e below _ (T1.setTop (mkF m 4 #[.val (.ref a0), .val (.ref a1), .val (.int p2), .val (.int p3), .unset, .unset] [(.int t)]))
  have hc4 : ¬ (t < (0 : Int32)) := ht0
  refine .pre (fun _ kq => XS.ifYes X1.here hx rfl (pc0 := 4) (pc' := 11) rfl (hb hby d10_4) rfl ((if0 _ _).trans (flt hc4).2.1) (by decide) (by decide) kq) ?_
  show OwnEnds p e below _ (T1.setTop (mkF m 11 #[.val (.ref a0), .val (.ref a1), .val (.int p2), .val (.int p3), .unset, .unset] []))
  refine .pre (fun _ kq => XS.iconst X1.here hx rfl (hb hby d10_11) kq) ?_
  show OwnEnds p e below _ (T1.setTop (mkF m 12 #[.val (.ref a0), .val (.ref a1), .val (.int p2), .val (.int p3), .unset, .unset] [(.int (0 : Int32))]))
  refine .pre (fun _ kq => XS.istore X1.here hx rfl (hb hby d10_12) rfl (l' := #[.val (.ref a0), .val (.ref a1), .val (.int p2), .val (.int p3), .val (.int (0 : Int32)), .unset]) rfl kq) ?_
  show OwnEnds p e below _ (T1.setTop (mkF m 14 #[.val (.ref a0), .val (.ref a1), .val (.int p2), .val (.int p3), .val (.int (0 : Int32)), .unset] []))
  refine .pre (fun _ kq => XS.iload X1.here hx rfl (hb hby d10_14) rfl kq) ?_
  show OwnEnds p e below _ (T1.setTop (mkF m 16 #[.val (.ref a0), .val (.ref a1), .val (.int p2), .val (.int p3), .val (.int (0 : Int32)), .unset] [(.int (0 : Int32))]))
  have hc16 : ((0 : Int32) = (0 : Int32)) := by decide
  refine .pre (fun _ kq => XS.ifYes X1.here hx rfl (pc0 := 16) (pc' := 171) rfl (hb hby d10_16) rfl ((if0 _ _).trans (teq hc16).1) (by decide) (by decide) kq) ?_
  show OwnEnds p e below _ (T1.setTop (mkF m 171 #[.val (.ref a0), .val (.ref a1), .val (.int p2), .val (.int p3), .val (.int (0 : Int32)), .unset] []))
  refine .pre (fun _ kq => XS.aloadN X1.here hx rfl (hb hby d10_171) rfl rfl kq) ?_
  show OwnEnds p e below _ (T1.setTop (mkF m 172 #[.val (.ref a0), .val (.ref a1), .val (.int p2), .val (.int p3), .val (.int (0 : Int32)), .unset] [(.ref a0)]))
  obtain ⟨T2, X2, e2, st2⟩ := getF X1 hx hZ hown (host := "") (Or.inl (hw _ (List.mem_of_getElem? (i := 65) rfl))) Via.refl e1 G4 (g := (mkF m 172 #[.val (.ref a0), .val (.ref a1), .val (.int p2), .val (.int p3), .val (.int (0 : Int32)), .unset] [(.ref a0)])) rfl rfl (hb hby d10_172)
  refine .pre (fun _ kq => st2 _ kq) ?_
  show OwnEnds p e below _ (T2.setTop (mkF m 175 #[.val (.ref a0), .val (.ref a1), .val (.int p2), .val (.int p3), .val (.int (0 : Int32)), .unset] [(.int (1 : Int32))]))
  have hc175 : ¬ ((1 : Int32) = (0 : Int32)) := by decide
  refine .pre (fun _ kq => XS.ifNo X2.here hx rfl (hb hby d10_175) rfl ((if0 _ _).trans (feq hc175).1) kq) ?_
  show OwnEnds p e below _ (T2.setTop (mkF m 178 #[.val (.ref a0), .val (.ref a1), .val (.int p2), .val (.int p3), .val (.int (0 : Int32)), .unset] []))
  refine .pre (fun _ kq => XS.iloadN X2.here hx rfl (hb hby d10_178) rfl kq) ?_
  show OwnEnds p e below _ (T2.setTop (mkF m 179 #[.val (.ref a0), .val (.ref a1), .val (.int p2), .val (.int p3), .val (.int (0 : Int32)), .unset] [(.int p2)]))
  have hc179 : ¬ (p2 < (0 : Int32)) := hp0
  refine .pre (fun _ kq => XS.ifNo X2.here hx rfl (hb hby d10_179) rfl ((if0 _ _).trans (flt hc179).1) kq) ?_
  show OwnEnds p e below _ (T2.setTop (mkF m 182 #[.val (.ref a0), .val (.ref a1), .val (.int p2), .val (.int p3), .val (.int (0 : Int32)), .unset] []))
  refine .pre (fun _ kq => XS.aloadN X2.here hx rfl (hb hby d10_182) rfl rfl kq) ?_
  show OwnEnds p e below _ (T2.setTop (mkF m 183 #[.val (.ref a0), .val (.ref a1), .val (.int p2), .val (.int p3), .val (.int (0 : Int32)), .unset] [(.ref a0)]))
  refine .pre (fun _ kq => XS.iloadN X2.here hx rfl (hb hby d10_183) rfl kq) ?_
  show OwnEnds p e below _ (T2.setTop (mkF m 184 #[.val (.ref a0), .val (.ref a1), .val (.int p2), .val (.int p3), .val (.int (0 : Int32)), .unset] [(.int p2), (.ref a0)]))
  refine .pre (fun _ kq => XS.aloadN X2.here hx rfl (hb hby d10_184) rfl rfl kq) ?_
  show OwnEnds p e below _ (T2.setTop (mkF m 185 #[.val (.ref a0), .val (.ref a1), .val (.int p2), .val (.int p3), .val (.int (0 : Int32)), .unset] [(.ref a1), (.int p2), (.ref a0)]))
  obtain ⟨cq3, kq3, q3a, q3b, q3c⟩ := isOf hZ e2 fsE
  obtain ⟨_, _, ⟨T3, L3, k3, n3⟩, -, X3, ⟨Lc3, hQ3, l3, y3, z3⟩, st3⟩ := X2.virtualBack hx (y := (⟨"com/example/changeset/changeset/check/FoundState", "number", "()I"⟩ : MethodName)) (z := (⟨"com/example/changeset/changeset/check/FoundState", "number", "()I"⟩ : MethodName)) hown (mvT hZ (hw _ (List.mem_of_getElem? (i := 93) rfl))) (mvT hZ (hw _ (List.mem_of_getElem? (i := 94) rfl))) (notFace_of_selects (args := #[]) (mvT hZ (hw _ (List.mem_of_getElem? (i := 96) rfl)))) (mvT hZ (hw _ (List.mem_of_getElem? (i := 96) rfl))) (mvT hZ (hw _ (List.mem_of_getElem? (i := 95) rfl))) (by decide) (backOf (W := 2) (rm11 l Z aZ hw [] a1 t h0 n0 Z0 fsN) hZ (hw _ (List.mem_of_getElem? (i := 97) rfl)) (hw _ (List.mem_of_getElem? (i := 78) rfl)) (by decide) (by decide)) q3a q3c (g := (mkF m 185 #[.val (.ref a0), .val (.ref a1), .val (.int p2), .val (.int p3), .val (.int (0 : Int32)), .unset] [(.ref a1), (.int p2), (.ref a0)])) rfl (by rw [hml]; rfl) (Steps.refl _) (argsL := []) (rest := [(.int p2), (.ref a0)]) (lenOf pd_12 rfl) rfl (by show 2 * 0 + _ ≤ _; exact Nat.le_of_eq rfl) (hb hby d10_185) (fun _ _ => ⟨rfl, e2, (by decide : 0 + 0 ≤ _), (by decide : 0 + 0 ≤ _)⟩)
  dsimp only [Pt.U, Pt.locs, Pt.cells, Pt.slots] at X3 l3 y3 z3 st3 hQ3
  try dsimp only [Nat.reduceAdd] at y3 z3
  subst y3 z3
  obtain ⟨rfl, N3q, e3⟩ := hQ3
  have N3 : Fr n0 L3 := by rw [l3]; exact Fr.app N1 N3q
  refine .pre (fun _ kq => st3.trans kq) ?_
  show OwnEnds p e below _ (T3.setTop (mkF m 188 #[.val (.ref a0), .val (.ref a1), .val (.int p2), .val (.int p3), .val (.int (0 : Int32)), .unset] [(.int t), (.int p2), (.ref a0)]))
  refine .pre (fun _ kq => XS.iloadN X3.here hx rfl (hb hby d10_188) rfl kq) ?_
  show OwnEnds p e below _ (T3.setTop (mkF m 189 #[.val (.ref a0), .val (.ref a1), .val (.int p2), .val (.int p3), .val (.int (0 : Int32)), .unset] [(.int p3), (.int t), (.int p2), (.ref a0)]))
  obtain ⟨cq4, q4, q4'⟩ := EG.cell
  obtain ⟨_, _, ⟨T4, L4, k4, n4⟩, -, X4, ⟨Lc4, hQ4, l4, y4, z4⟩, st4⟩ := X3.privateBack hx (y := (⟨"com/example/changeset/changeset/check/StateGraph", "addEdge", "(III)V"⟩ : MethodName)) hown (mvT hZ (hw _ (List.mem_of_getElem? (i := 162) rfl))) (mvT hZ (hw _ (List.mem_of_getElem? (i := 163) rfl))) (own_selP (mvT hZ (hw _ (List.mem_of_getElem? (i := 5) rfl))) (Cond.privateMethod_at (mvP hZ (hw _ (List.mem_of_getElem? (i := 164) rfl)) (args := #[]))) (mvT hZ (hw _ (List.mem_of_getElem? (i := 163) rfl))) (by decide)) (Cond.privateMethod_at (mvP hZ (hw _ (List.mem_of_getElem? (i := 164) rfl)) (args := #[]))) (mvT hZ (hw _ (List.mem_of_getElem? (i := 165) rfl))) (by decide) (backOf (W := 0) (rm22 l Z aZ hw [] a0 p2 t p3 aL aP aR aF aE aT aA wl ed ini FF EE h0 n0 Z0 HG D GN hbd) hZ (hw _ (List.mem_of_getElem? (i := 165) rfl)) (hw _ (List.mem_of_getElem? (i := 6) rfl)) (by decide) (by decide)) (g := (mkF m 189 #[.val (.ref a0), .val (.ref a1), .val (.int p2), .val (.int p3), .val (.int (0 : Int32)), .unset] [(.int p3), (.int t), (.int p2), (.ref a0)])) rfl (by rw [hml]; rfl) (Steps.refl _) (a := a0) (by rw [e3]; exact q4) q4' (argsL := [(.int p2), (.int t), (.int p3)]) (rest := []) (lenOf pd_16 rfl) rfl (by show 2 * 0 + _ ≤ _; exact Nat.le_of_eq rfl) (hb hby d10_189) (fun _ _ => ⟨rfl, e3, (by decide : 0 + 0 ≤ _), (by decide : 0 + 0 ≤ _)⟩)
  dsimp only [Pt.U, Pt.locs, Pt.cells, Pt.slots] at X4 l4 y4 z4 st4 hQ4
  try dsimp only [Nat.reduceAdd] at y4 z4
  subst y4 z4
  obtain ⟨rfl, N4q, K4, Hx4⟩ := hQ4
  have N4 : Fr n0 L4 := by rw [l4]; exact Fr.app N3 N4q
  refine .pre (fun _ kq => st4.trans kq) ?_
  have Kp4 : Keep h0 T4.heap [a0, aF, aE, aT, aA] := (Keep.refl h0 [a0, aF, aE, aT, aA]).trans K4 (allS (Or.inl (List.mem_of_getElem? (i := 0) rfl)) (allS (Or.inl (List.mem_of_getElem? (i := 1) rfl)) (allS (Or.inl (List.mem_of_getElem? (i := 2) rfl)) (allS (Or.inl (List.mem_of_getElem? (i := 3) rfl)) (allS (Or.inl (List.mem_of_getElem? (i := 4) rfl)) all0)))))
  show OwnEnds p e below _ (T4.setTop (mkF m 192 #[.val (.ref a0), .val (.ref a1), .val (.int p2), .val (.int p3), .val (.int (0 : Int32)), .unset] []))
  refine .pre (fun _ kq => XS.iload X4.here hx rfl (hb hby d10_192) rfl kq) ?_
  show OwnEnds p e below _ (T4.setTop (mkF m 194 #[.val (.ref a0), .val (.ref a1), .val (.int p2), .val (.int p3), .val (.int (0 : Int32)), .unset] [(.int (0 : Int32))]))
  exact own_endN X4 hx hlk (t := .boolean) Bd.returns (by simp) (hb hby d10_194) rfl (by decide) (by decide) ⟨rfl, N4, Kp4, Hx4⟩
theorem own_p3 {n : Int32} (h : 0 ≤ n.toInt ∧ n.toInt ≤ 2) : 0 ≤ (n + (1 : Int32)).toInt ∧ (n + (1 : Int32)).toInt < 1024 := by
  have := own_plus1 n (by omega) (by omega)
  omega
theorem own_p2 {n : Int32} (h : 0 ≤ n.toInt ∧ n.toInt ≤ 2) : 0 ≤ n.toInt ∧ n.toInt < 1024 := by omega
theorem d21_0 : decode prog_39_method_7_code 0 = .ok (.iload_n 1, 1) := by decide +kernel
theorem d21_1 : decode prog_39_method_7_code 1 = .ok (.aload_n 0, 1) := by decide +kernel
theorem d21_2 : decode prog_39_method_7_code 2 = .ok (.getfield 30, 3) := by decide +kernel
theorem d21_5 : decode prog_39_method_7_code 5 = .ok (.if_icmp .gt 12, 3) := by decide +kernel
theorem d21_8 : decode prog_39_method_7_code 8 = .ok (.aload_n 0, 1) := by decide +kernel
theorem d21_9 : decode prog_39_method_7_code 9 = .ok (.getfield 41, 3) := by decide +kernel
theorem d21_12 : decode prog_39_method_7_code 12 = .ok (.iload_n 1, 1) := by decide +kernel
theorem d21_13 : decode prog_39_method_7_code 13 = .ok (.iaload, 1) := by decide +kernel
theorem d21_14 : decode prog_39_method_7_code 14 = .ok (.goto 7, 3) := by decide +kernel
theorem d21_17 : decode prog_39_method_7_code 17 = .ok (.aload_n 0, 1) := by decide +kernel
theorem d21_18 : decode prog_39_method_7_code 18 = .ok (.getfield 103, 3) := by decide +kernel
theorem d21_21 : decode prog_39_method_7_code 21 = .ok (.ireturn, 1) := by decide +kernel
theorem ef_21 (m : MethodId) (a0 : Addr) (p1 : Int32) : entryFrame m #[(.ref a0), (.int p1)] 2 = mkF m 0 #[.val (.ref a0), .val (.int p1)] [] := by first | (simp [entryFrame, mkF, argsToLocals, Value.category]; done) | rfl
def f21_0 (aF : Addr) (wl : Int32) (ed : Int32) (FF : Nat → Int32) (p1 : Int32) : Int32 := (if wl < p1 then ed else (FF (p1).toNatClampNeg))
def Q21 (Z : State) (a0 : Addr) (p1 : Int32) (aF : Addr) (wl : Int32) (ed : Int32) (FF : Nat → Int32) (h0 : Heap) (n0 : Nat) (v : Option Value) (h : Heap) (L : List Loc) : Prop := v = some (.int (f21_0 aF wl ed FF p1)) ∧ Fr n0 L ∧ h = h0
set_option maxRecDepth 65536 in
set_option maxHeartbeats 40000000 in
theorem rm21 (l : Launch) (Z : State) (aZ : Array Value) (hw : ∀ d ∈ tables_1, d.before aZ Z = true) (ws : List Jvm.Cond) (a0 : Addr) (p1 : Int32) (aF : Addr) (wl : Int32) (ed : Int32) (FF : Nat → Int32) (h0 : Heap) (n0 : Nat) (Z0 : n0 ≤ h0.size) (G3 : Fld Z h0 a0 "com/example/changeset/changeset/check/StateGraph" "lastWithEdges" "I" (.int wl)) (G5 : Fld Z h0 a0 "com/example/changeset/changeset/check/StateGraph" "firstEdges" "[I" (.ref aF)) (G10 : Fld Z h0 a0 "com/example/changeset/changeset/check/StateGraph" "edges" "I" (.int ed)) (AF : OwnA Z h0 aF FF) (hn : 0 ≤ p1.toInt ∧ p1.toInt ≤ 2) :
    MetFree l (⟨"com/example/changeset/changeset/check/StateGraph", "edgesStart", "(I)I"⟩ : MethodName) (head1 (Jvm.Cond.code (⟨"com/example/changeset/changeset/check/StateGraph", "edgesStart", "(I)I"⟩ : MethodName) prog_39_method_7_code 2 (some .int) :: ws) ({ frames := 0, cells := 0, slots := 0, locals := 0 } : Room)) (fun a U => a = #[(.ref a0), (.int p1)] ∧ Z.Warmed39 U.vm ∧ U.heap = h0) (fun _ _ _ _ _ => True) (fun _ U o U' => ∃ v L, o = .returned v ∧ Q21 Z a0 p1 aF wl ed FF h0 n0 v U'.heap L ∧ FrameEnd U o U' L 0 0) := by
  refine MetFree.of_bodySF (plainFor_of_name pn_6) hisR ?_
  intro p e s m args below meth c s₁ Bd hml0 hP hK
  obtain ⟨rfl, hZ, hh⟩ := hP
  have hx := Bd.exec
  have hby := Bd.bytes
  have hml : c.maxLocals = 2 := hml0
  have hown : s.vm.findClass "com/example/changeset/changeset/check/StateGraph" = some m.cls := findClass_of_methodNamed Bd.named
  have hnm := (name_of_methodNamed Bd.named Bd.method).1
  have hlk := BodyLoose.notSynchronized Bd
  have X0 : Stand p l e ({ frames := 0, cells := 0, slots := 0, locals := 0 } : Room) s m #[(.ref a0), (.int p1)] below meth c s₁ [] 0 0 := Stand.of_body Bd
  have e0 : s₁.heap = h0 := by rw [← hh, Bd.state]; rfl
  have N0 := Fr.nil n0
  have hk0 : 0 ≤ 0 := Nat.zero_le _
  have hn0 : 0 ≤ 0 := Nat.zero_le _
  show OwnEnds p e below (OwnQ s (Q21 Z a0 p1 aF wl ed FF h0 n0) 0 0) (s₁.setTop (entryFrame m #[(.ref a0), (.int p1)] 2))
  refine .pre (fun t k => castTop (ef_21 m a0 p1) k) ?_
  have hF : f21_0 aF wl ed FF p1 = f21_0 aF wl ed FF p1 := rfl
  change (if wl < p1 then ed else (FF (p1).toNatClampNeg)) = _ at hF
  show OwnEnds p e below _ (s₁.setTop (mkF m 0 #[.val (.ref a0), .val (.int p1)] []))
  refine .pre (fun _ kq => XS.iloadN X0.here hx rfl (hb hby d21_0) rfl kq) ?_
  show OwnEnds p e below _ (s₁.setTop (mkF m 1 #[.val (.ref a0), .val (.int p1)] [(.int p1)]))
  refine .pre (fun _ kq => XS.aloadN X0.here hx rfl (hb hby d21_1) rfl rfl kq) ?_
  show OwnEnds p e below _ (s₁.setTop (mkF m 2 #[.val (.ref a0), .val (.int p1)] [(.ref a0), (.int p1)]))
  obtain ⟨T5, X5, e5, st5⟩ := getF X0 hx hZ hown (host := "") (Or.inl (hw _ (List.mem_of_getElem? (i := 61) rfl))) Via.refl e0 G3 (g := (mkF m 2 #[.val (.ref a0), .val (.int p1)] [(.ref a0), (.int p1)])) rfl rfl (hb hby d21_2)
  refine .pre (fun _ kq => st5 _ kq) ?_
  show OwnEnds p e below _ (T5.setTop (mkF m 5 #[.val (.ref a0), .val (.int p1)] [(.int wl), (.int p1)]))
  by_cases hc5 : wl < p1
  · rw [if_pos hc5] at hF
    refine .pre (fun _ kq => XS.icmpYes X5.here hx rfl (pc0 := 5) (pc' := 17) rfl (hb hby d21_5) rfl (tlt hc5).2.2.1 (by decide) (by decide) kq) ?_
    show OwnEnds p e below _ (T5.setTop (mkF m 17 #[.val (.ref a0), .val (.int p1)] []))
    refine .pre (fun _ kq => XS.aloadN X5.here hx rfl (hb hby d21_17) rfl rfl kq) ?_
    show OwnEnds p e below _ (T5.setTop (mkF m 18 #[.val (.ref a0), .val (.int p1)] [(.ref a0)]))
    obtain ⟨T6, X6, e6, st6⟩ := getF X5 hx hZ hown (host := "") (Or.inl (hw _ (List.mem_of_getElem? (i := 160) rfl))) Via.refl e5 G10 (g := (mkF m 18 #[.val (.ref a0), .val (.int p1)] [(.ref a0)])) rfl rfl (hb hby d21_18)
    refine .pre (fun _ kq => st6 _ kq) ?_
    show OwnEnds p e below _ (T6.setTop (mkF m 21 #[.val (.ref a0), .val (.int p1)] [(.int ed)]))
    exact own_endI X6 hx hlk Bd.returns (hb hby d21_21) hk0 hn0 ⟨congrArg (fun z => some (Value.int z)) hF, N0, e6⟩
  · rw [if_neg hc5] at hF
    refine .pre (fun _ kq => XS.icmpNo X5.here hx rfl (hb hby d21_5) rfl (flt hc5).2.2.1 kq) ?_
    show OwnEnds p e below _ (T5.setTop (mkF m 8 #[.val (.ref a0), .val (.int p1)] []))
    refine .pre (fun _ kq => XS.aloadN X5.here hx rfl (hb hby d21_8) rfl rfl kq) ?_
    show OwnEnds p e below _ (T5.setTop (mkF m 9 #[.val (.ref a0), .val (.int p1)] [(.ref a0)]))
    obtain ⟨T7, X7, e7, st7⟩ := getF X5 hx hZ hown (host := "") (Or.inl (hw _ (List.mem_of_getElem? (i := 67) rfl))) Via.refl e5 G5 (g := (mkF m 9 #[.val (.ref a0), .val (.int p1)] [(.ref a0)])) rfl rfl (hb hby d21_9)
    refine .pre (fun _ kq => st7 _ kq) ?_
    show OwnEnds p e below _ (T7.setTop (mkF m 12 #[.val (.ref a0), .val (.int p1)] [(.ref aF)]))
    refine .pre (fun _ kq => XS.iloadN X7.here hx rfl (hb hby d21_12) rfl kq) ?_
    show OwnEnds p e below _ (T7.setTop (mkF m 13 #[.val (.ref a0), .val (.int p1)] [(.int p1), (.ref aF)]))
    obtain ⟨cl8, Ar8, qs8, qh8⟩ := id AF
    have hj8 : 0 ≤ (p1).toInt ∧ (p1).toInt < 1024 := own_p2 hn
    refine .pre (fun _ kq => X7.iaload hx (j := p1) (v := (.int (FF (p1).toNatClampNeg))) (by rw [e7]; exact Ar8.1) (State.isArrayOf_alike hZ.alike Ar8.2.1) Ar8.2.2 (own_in1024 qs8 hj8) (qh8 _ (own_lt1024 hj8)) (g := (mkF m 13 #[.val (.ref a0), .val (.int p1)] [(.int p1), (.ref aF)])) rfl rfl (hb hby d21_13) _ kq) ?_
    show OwnEnds p e below _ (T7.setTop (mkF m 14 #[.val (.ref a0), .val (.int p1)] [(.int (FF (p1).toNatClampNeg))]))
    refine .pre (fun _ kq => XS.goto X7.here hx rfl (pc0 := 14) (pc' := 21) rfl (hb hby d21_14) (by decide) (by decide) kq) ?_
    show OwnEnds p e below _ (T7.setTop (mkF m 21 #[.val (.ref a0), .val (.int p1)] [(.int (FF (p1).toNatClampNeg))]))
    exact own_endI X7 hx hlk Bd.returns (hb hby d21_21) hk0 hn0 ⟨congrArg (fun z => some (Value.int z)) hF, N0, e7⟩
theorem d1_0 : decode jdk_29_method_69_code 0 = .ok (.iload_n 0, 1) := by decide +kernel
theorem d1_1 : decode jdk_29_method_69_code 1 = .ok (.iload_n 1, 1) := by decide +kernel
theorem d1_2 : decode jdk_29_method_69_code 2 = .ok (.if_icmp .gt 7, 3) := by decide +kernel
theorem d1_5 : decode jdk_29_method_69_code 5 = .ok (.iload_n 0, 1) := by decide +kernel
theorem d1_6 : decode jdk_29_method_69_code 6 = .ok (.goto 4, 3) := by decide +kernel
theorem d1_9 : decode jdk_29_method_69_code 9 = .ok (.iload_n 1, 1) := by decide +kernel
theorem d1_10 : decode jdk_29_method_69_code 10 = .ok (.ireturn, 1) := by decide +kernel
theorem ef_1 (m : MethodId) (p0 : Int32) (p1 : Int32) : entryFrame m #[(.int p0), (.int p1)] 2 = mkF m 0 #[.val (.int p0), .val (.int p1)] [] := by first | (simp [entryFrame, mkF, argsToLocals, Value.category]; done) | rfl
def f1_0 (p0 : Int32) (p1 : Int32) : Int32 := (if p1 < p0 then p1 else p0)
def Q1 (Z : State) (p0 : Int32) (p1 : Int32) (h0 : Heap) (n0 : Nat) (v : Option Value) (h : Heap) (L : List Loc) : Prop := v = some (.int (f1_0 p0 p1)) ∧ Fr n0 L ∧ h = h0
set_option maxRecDepth 65536 in
set_option maxHeartbeats 40000000 in
theorem rm1 (l : Launch) (Z : State) (aZ : Array Value) (hw : ∀ d ∈ tables_1, d.before aZ Z = true) (ws : List Jvm.Cond) (p0 : Int32) (p1 : Int32) (h0 : Heap) (n0 : Nat) (Z0 : n0 ≤ h0.size) :
    MetFree l (⟨"java/lang/Math", "min", "(II)I"⟩ : MethodName) (head1 (Jvm.Cond.code (⟨"java/lang/Math", "min", "(II)I"⟩ : MethodName) jdk_29_method_69_code 2 (some .int) :: ws) ({ frames := 0, cells := 0, slots := 0, locals := 0 } : Room)) (fun a U => a = #[(.int p0), (.int p1)] ∧ Z.Warmed39 U.vm ∧ U.heap = h0) (fun _ _ _ _ _ => True) (fun _ U o U' => ∃ v L, o = .returned v ∧ Q1 Z p0 p1 h0 n0 v U'.heap L ∧ FrameEnd U o U' L 0 0) := by
  refine MetFree.of_bodySF (Jvm.Free.JP.mathPlain rfl (by decide +kernel)) hisR ?_
  intro p e s m args below meth c s₁ Bd hml0 hP hK
  obtain ⟨rfl, hZ, hh⟩ := hP
  have hx := Bd.exec
  have hby := Bd.bytes
  have hml : c.maxLocals = 2 := hml0
  have hown : s.vm.findClass "java/lang/Math" = some m.cls := findClass_of_methodNamed Bd.named
  have hnm := (name_of_methodNamed Bd.named Bd.method).1
  have hlk := BodyLoose.notSynchronized Bd
  have X0 : Stand p l e ({ frames := 0, cells := 0, slots := 0, locals := 0 } : Room) s m #[(.int p0), (.int p1)] below meth c s₁ [] 0 0 := Stand.of_body Bd
  have e0 : s₁.heap = h0 := by rw [← hh, Bd.state]; rfl
  have N0 := Fr.nil n0
  have hk0 : 0 ≤ 0 := Nat.zero_le _
  have hn0 : 0 ≤ 0 := Nat.zero_le _
  show OwnEnds p e below (OwnQ s (Q1 Z p0 p1 h0 n0) 0 0) (s₁.setTop (entryFrame m #[(.int p0), (.int p1)] 2))
  refine .pre (fun t k => castTop (ef_1 m p0 p1) k) ?_
  have hF : f1_0 p0 p1 = f1_0 p0 p1 := rfl
  change (if p1 < p0 then p1 else p0) = _ at hF
  show OwnEnds p e below _ (s₁.setTop (mkF m 0 #[.val (.int p0), .val (.int p1)] []))
  refine .pre (fun _ kq => XS.iloadN X0.here hx rfl (hb hby d1_0) rfl kq) ?_
  show OwnEnds p e below _ (s₁.setTop (mkF m 1 #[.val (.int p0), .val (.int p1)] [(.int p0)]))
  refine .pre (fun _ kq => XS.iloadN X0.here hx rfl (hb hby d1_1) rfl kq) ?_
  show OwnEnds p e below _ (s₁.setTop (mkF m 2 #[.val (.int p0), .val (.int p1)] [(.int p1), (.int p0)]))
  by_cases hc2 : p1 < p0
  · rw [if_pos hc2] at hF
    refine .pre (fun _ kq => XS.icmpYes X0.here hx rfl (pc0 := 2) (pc' := 9) rfl (hb hby d1_2) rfl (tlt hc2).2.2.1 (by decide) (by decide) kq) ?_
    show OwnEnds p e below _ (s₁.setTop (mkF m 9 #[.val (.int p0), .val (.int p1)] []))
    refine .pre (fun _ kq => XS.iloadN X0.here hx rfl (hb hby d1_9) rfl kq) ?_
    show OwnEnds p e below _ (s₁.setTop (mkF m 10 #[.val (.int p0), .val (.int p1)] [(.int p1)]))
    exact own_endI X0 hx hlk Bd.returns (hb hby d1_10) hk0 hn0 ⟨congrArg (fun z => some (Value.int z)) hF, N0, e0⟩
  · rw [if_neg hc2] at hF
    refine .pre (fun _ kq => XS.icmpNo X0.here hx rfl (hb hby d1_2) rfl (flt hc2).2.2.1 kq) ?_
    show OwnEnds p e below _ (s₁.setTop (mkF m 5 #[.val (.int p0), .val (.int p1)] []))
    refine .pre (fun _ kq => XS.iloadN X0.here hx rfl (hb hby d1_5) rfl kq) ?_
    show OwnEnds p e below _ (s₁.setTop (mkF m 6 #[.val (.int p0), .val (.int p1)] [(.int p0)]))
    refine .pre (fun _ kq => XS.goto X0.here hx rfl (pc0 := 6) (pc' := 10) rfl (hb hby d1_6) (by decide) (by decide) kq) ?_
    show OwnEnds p e below _ (s₁.setTop (mkF m 10 #[.val (.int p0), .val (.int p1)] [(.int p0)]))
    exact own_endI X0 hx hlk Bd.returns (hb hby d1_10) hk0 hn0 ⟨congrArg (fun z => some (Value.int z)) hF, N0, e0⟩
theorem d20_0 : decode method_2_code 0 = .ok (.iload_n 0, 1) := by decide +kernel
theorem d20_1 : decode method_2_code 1 = .ok (.ifCond .eq 7, 3) := by decide +kernel
theorem d20_4 : decode method_2_code 4 = .ok (.iconst 1, 1) := by decide +kernel
theorem d20_5 : decode method_2_code 5 = .ok (.goto 4, 3) := by decide +kernel
theorem d20_8 : decode method_2_code 8 = .ok (.iconst 0, 1) := by decide +kernel
theorem d20_9 : decode method_2_code 9 = .ok (.ireturn, 1) := by decide +kernel
theorem ef_20 (m : MethodId) (p0 : Int32) : entryFrame m #[(.int p0)] 1 = mkF m 0 #[.val (.int p0)] [] := by first | (simp [entryFrame, mkF, argsToLocals, Value.category]; done) | rfl
theorem pn_17 : plainName "com/example/changeset/changeset/check/StateGraphEdgesStartPinLaw" = true := by first | (simp [plainName, overriddenIn]; done) | decide +kernel
def f20_0 (p0 : Int32) : Int32 := (if p0 = (0 : Int32) then (0 : Int32) else (1 : Int32))
def Q20 (Z : State) (p0 : Int32) (h0 : Heap) (n0 : Nat) (v : Option Value) (h : Heap) (L : List Loc) : Prop := v = some (.int (f20_0 p0)) ∧ Fr n0 L ∧ h = h0
set_option maxRecDepth 65536 in
set_option maxHeartbeats 40000000 in
theorem rm20 (l : Launch) (Z : State) (aZ : Array Value) (hw : ∀ d ∈ tables_1, d.before aZ Z = true) (ws : List Jvm.Cond) (p0 : Int32) (h0 : Heap) (n0 : Nat) (Z0 : n0 ≤ h0.size) :
    MetFree l (⟨"com/example/changeset/changeset/check/StateGraphEdgesStartPinLaw", "one", "(Z)I"⟩ : MethodName) (head1 (Jvm.Cond.code (⟨"com/example/changeset/changeset/check/StateGraphEdgesStartPinLaw", "one", "(Z)I"⟩ : MethodName) method_2_code 1 (some .int) :: ws) ({ frames := 0, cells := 0, slots := 0, locals := 0 } : Room)) (fun a U => a = #[(.int p0)] ∧ Z.Warmed39 U.vm ∧ U.heap = h0) (fun _ _ _ _ _ => True) (fun _ U o U' => ∃ v L, o = .returned v ∧ Q20 Z p0 h0 n0 v U'.heap L ∧ FrameEnd U o U' L 0 0) := by
  refine MetFree.of_bodySF (plainFor_of_name pn_17) hisR ?_
  intro p e s m args below meth c s₁ Bd hml0 hP hK
  obtain ⟨rfl, hZ, hh⟩ := hP
  have hx := Bd.exec
  have hby := Bd.bytes
  have hml : c.maxLocals = 1 := hml0
  have hown : s.vm.findClass "com/example/changeset/changeset/check/StateGraphEdgesStartPinLaw" = some m.cls := findClass_of_methodNamed Bd.named
  have hnm := (name_of_methodNamed Bd.named Bd.method).1
  have hlk := BodyLoose.notSynchronized Bd
  have X0 : Stand p l e ({ frames := 0, cells := 0, slots := 0, locals := 0 } : Room) s m #[(.int p0)] below meth c s₁ [] 0 0 := Stand.of_body Bd
  have e0 : s₁.heap = h0 := by rw [← hh, Bd.state]; rfl
  have N0 := Fr.nil n0
  have hk0 : 0 ≤ 0 := Nat.zero_le _
  have hn0 : 0 ≤ 0 := Nat.zero_le _
  show OwnEnds p e below (OwnQ s (Q20 Z p0 h0 n0) 0 0) (s₁.setTop (entryFrame m #[(.int p0)] 1))
  refine .pre (fun t k => castTop (ef_20 m p0) k) ?_
  have hF : f20_0 p0 = f20_0 p0 := rfl
  change (if p0 = (0 : Int32) then (0 : Int32) else (1 : Int32)) = _ at hF
  show OwnEnds p e below _ (s₁.setTop (mkF m 0 #[.val (.int p0)] []))
  refine .pre (fun _ kq => XS.iloadN X0.here hx rfl (hb hby d20_0) rfl kq) ?_
  show OwnEnds p e below _ (s₁.setTop (mkF m 1 #[.val (.int p0)] [(.int p0)]))
  by_cases hc1 : p0 = (0 : Int32)
  · rw [if_pos hc1] at hF
    refine .pre (fun _ kq => XS.ifYes X0.here hx rfl (pc0 := 1) (pc' := 8) rfl (hb hby d20_1) rfl ((if0 _ _).trans (teq hc1).1) (by decide) (by decide) kq) ?_
    show OwnEnds p e below _ (s₁.setTop (mkF m 8 #[.val (.int p0)] []))
    refine .pre (fun _ kq => XS.iconst X0.here hx rfl (hb hby d20_8) kq) ?_
    show OwnEnds p e below _ (s₁.setTop (mkF m 9 #[.val (.int p0)] [(.int (0 : Int32))]))
    exact own_endI X0 hx hlk Bd.returns (hb hby d20_9) hk0 hn0 ⟨congrArg (fun z => some (Value.int z)) hF, N0, e0⟩
  · rw [if_neg hc1] at hF
    refine .pre (fun _ kq => XS.ifNo X0.here hx rfl (hb hby d20_1) rfl ((if0 _ _).trans (feq hc1).1) kq) ?_
    show OwnEnds p e below _ (s₁.setTop (mkF m 4 #[.val (.int p0)] []))
    refine .pre (fun _ kq => XS.iconst X0.here hx rfl (hb hby d20_4) kq) ?_
    show OwnEnds p e below _ (s₁.setTop (mkF m 5 #[.val (.int p0)] [(.int (1 : Int32))]))
    refine .pre (fun _ kq => XS.goto X0.here hx rfl (pc0 := 5) (pc' := 9) rfl (hb hby d20_5) (by decide) (by decide) kq) ?_
    show OwnEnds p e below _ (s₁.setTop (mkF m 9 #[.val (.int p0)] [(.int (1 : Int32))]))
    exact own_endI X0 hx hlk Bd.returns (hb hby d20_9) hk0 hn0 ⟨congrArg (fun z => some (Value.int z)) hF, N0, e0⟩
def own_sel (b0 b1 b2 : Addr) (j : Int32) : Addr := ([b0, b1, b2] : List Addr).getD j.toNatClampNeg b0
theorem own_three {j : Int32} (h : 0 ≤ j.toInt ∧ j.toInt ≤ 2) : j = 0 ∨ j = 1 ∨ j = 2 := by
  simp only [← Int32.toInt_inj, Int32.reduceToInt]
  omega
theorem own_selv (b0 b1 b2 : Addr) {j : Int32} (h : 0 ≤ j.toInt ∧ j.toInt ≤ 2) : ([.ref b0, .ref b1, .ref b2] : List Value).getD j.toNatClampNeg .null = .ref (own_sel b0 b1 b2 j) := by
  rcases own_three h with rfl | rfl | rfl <;> rfl
theorem own_sel3 {P : Addr → Int32 → Prop} {b0 b1 b2 : Addr} (h0 : P b0 0) (h1 : P b1 1) (h2 : P b2 2) {j : Int32} (h : 0 ≤ j.toInt ∧ j.toInt ≤ 2) : P (own_sel b0 b1 b2 j) j := by
  rcases own_three h with rfl | rfl | rfl
  · exact h0
  · exact h1
  · exact h2
theorem own_in3 {j : Int32} (h : 0 ≤ j.toInt ∧ j.toInt ≤ 2) : ¬ (j < 0) ∧ j < (3 : Int32) := by
  have z : (0 : Int32).toInt = 0 := rfl
  have t : (3 : Int32).toInt = 3 := rfl
  rw [Int32.lt_iff_toInt_lt, Int32.lt_iff_toInt_lt, z, t]
  omega
def own_g0 : OwnGT := (-1, 0, fun _ => 0, fun _ => 0)
def own_st (G : OwnGT) (f t : Int32) : OwnGT := own_addE G.1 G.2.1 G.2.2.1 G.2.2.2 f t
theorem own_inv {G : OwnGT} {f t f' : Int32} {m : Int} (h : -1 ≤ G.1.toInt ∧ G.1.toInt ≤ f.toInt ∧ 0 ≤ G.2.1.toInt ∧ G.2.1.toInt ≤ m) (hf : 0 ≤ f.toInt) (hff : f.toInt ≤ f'.toInt) (hm : m ≤ 50) :
    -1 ≤ (own_st G f t).1.toInt ∧ (own_st G f t).1.toInt ≤ f'.toInt ∧ 0 ≤ (own_st G f t).2.1.toInt ∧ (own_st G f t).2.1.toInt ≤ m + 1 := by
  unfold own_st own_addE
  split
  · exact ⟨h.1, by show G.1.toInt ≤ _; omega, h.2.2.1, by show G.2.1.toInt ≤ _; omega⟩
  · have e := own_plus1 G.2.1 (by omega) (by omega)
    exact ⟨by show -1 ≤ f.toInt; omega, hff, by show 0 ≤ (G.2.1 + 1).toInt; omega, by show (G.2.1 + 1).toInt ≤ m + 1; omega⟩
theorem own_four {j : Int32} (h : 0 ≤ j.toInt ∧ j.toInt ≤ 3) : j = 0 ∨ j = 1 ∨ j = 2 ∨ j = 3 := by
  simp only [← Int32.toInt_inj, Int32.reduceToInt]
  omega
theorem own_m3 (x : Int32) : 0 ≤ (x &&& (3 : Int32)).toInt ∧ (x &&& (3 : Int32)).toInt ≤ 3 := by
  have e : (x &&& 3).toInt = x.toInt % 2 ^ 2 := Jvm.Kit.i32_mask x 3 (k := 2) (by decide) (by decide)
  rw [e]
  omega
theorem own_min (x y : Int32) : (f1_0 x y).toInt = if x.toInt ≤ y.toInt then x.toInt else y.toInt := by
  unfold f1_0
  repeat' split
  all_goals (try (simp only [Int32.lt_iff_toInt_lt] at *))
  all_goals omega
theorem own_c2 (x : Int32) : 0 ≤ (f1_0 (2 : Int32) (x &&& (3 : Int32))).toInt ∧ (f1_0 (2 : Int32) (x &&& (3 : Int32))).toInt ≤ 2 := by
  have q := own_m3 x
  have t : (2 : Int32).toInt = 2 := rfl
  rw [own_min, t]
  split <;> omega
theorem own_c3 {z : Int32} (h : 0 ≤ z.toInt ∧ z.toInt ≤ 2) (x : Int32) : z.toInt ≤ (f1_0 (2 : Int32) (z + (x &&& (3 : Int32)))).toInt ∧ (f1_0 (2 : Int32) (z + (x &&& (3 : Int32)))).toInt ≤ 2 := by
  have q := own_m3 x
  have t : (2 : Int32).toInt = 2 := rfl
  have e : (z + (x &&& (3 : Int32))).toInt = z.toInt + (x &&& (3 : Int32)).toInt := Jvm.Kit.i32_add (by omega) (by omega)
  rw [own_min, t, e]
  split <;> omega
theorem ef_0 (m : MethodId) (p0 : Int32) (p1 : Int32) (p2 : Int32) (p3 : Int32) : entryFrame m #[(.int p0), (.int p1), (.int p2), (.int p3)] maxLocals = mkF m 0 #[.val (.int p0), .val (.int p1), .val (.int p2), .val (.int p3), .unset, .unset, .unset, .unset, .unset, .unset, .unset, .unset, .unset, .unset, .unset, .unset, .unset, .unset] [] := by first | (simp [entryFrame, mkF, argsToLocals, Value.category, maxLocals]; done) | rfl
theorem pd_18 : parseMethodDescriptor "(Ljava/util/List;Z)V" = some ⟨[(.object "java/util/List"), .boolean], none⟩ := by decide +kernel
theorem pd_19 : parseMethodDescriptor "(Lcom/example/changeset/changeset/check/State;)V" = some ⟨[(.object "com/example/changeset/changeset/check/State")], none⟩ := by decide +kernel
theorem pd_20 : parseMethodDescriptor "(Lcom/example/changeset/changeset/check/FoundState;II)Z" = some ⟨[(.object "com/example/changeset/changeset/check/FoundState"), .int, .int], some .boolean⟩ := by decide +kernel
theorem pd_21 : parseMethodDescriptor "(Z)I" = some ⟨[.boolean], some .int⟩ := by decide +kernel
theorem pd_22 : parseMethodDescriptor "(I)I" = some ⟨[.int], some .int⟩ := by decide +kernel
def f0_398 (y4 : Int32) (y5 : Int32) (y6 : Int32) (y7 : Int32) (y8 : Int32) (y9 : Int32) (y10 : Int32) (y11 : Int32) (aF11 : Addr) (G : OwnGT) (t0 : Int32) (t1 : Int32) : Int32 := (if (f21_0 aF11 G.1 G.2.1 G.2.2.1 y11) = (t1 + (f20_0 t0)) then (1 : Int32) else (0 : Int32))
def f0_397 (y4 : Int32) (y5 : Int32) (y6 : Int32) (y7 : Int32) (y8 : Int32) (y9 : Int32) (y10 : Int32) (y11 : Int32) (aF11 : Addr) (G : OwnGT) (t0 : Int32) : Int32 := (f0_398 y4 y5 y6 y7 y8 y9 y10 y11 aF11 G (0 : Int32) t0)
def f0_377 (y4 : Int32) (y5 : Int32) (y6 : Int32) (y7 : Int32) (y8 : Int32) (y9 : Int32) (y10 : Int32) (y11 : Int32) (aF11 : Addr) (G : OwnGT) (i16 : Int32) (t0 : Int32) (t1 : Int32) : Int32 := (if i16 = (0 : Int32) then (f0_397 y4 y5 y6 y7 y8 y9 y10 y11 aF11 G (t1 + (f20_0 t0))) else (if y7 < y11 then (f0_398 y4 y5 y6 y7 y8 y9 y10 y11 aF11 G (1 : Int32) (t1 + (f20_0 t0))) else (f0_397 y4 y5 y6 y7 y8 y9 y10 y11 aF11 G (t1 + (f20_0 t0)))))
def f0_376 (y4 : Int32) (y5 : Int32) (y6 : Int32) (y7 : Int32) (y8 : Int32) (y9 : Int32) (y10 : Int32) (y11 : Int32) (aF11 : Addr) (G : OwnGT) (i16 : Int32) (t0 : Int32) : Int32 := (f0_377 y4 y5 y6 y7 y8 y9 y10 y11 aF11 G i16 (0 : Int32) t0)
def f0_357 (y4 : Int32) (y5 : Int32) (y6 : Int32) (y7 : Int32) (y8 : Int32) (y9 : Int32) (y10 : Int32) (y11 : Int32) (aF11 : Addr) (G : OwnGT) (i15 : Int32) (i16 : Int32) (t0 : Int32) : Int32 := (if i15 = (0 : Int32) then (f0_376 y4 y5 y6 y7 y8 y9 y10 y11 aF11 G i16 (f20_0 t0)) else (if y6 < y11 then (f0_377 y4 y5 y6 y7 y8 y9 y10 y11 aF11 G i16 (1 : Int32) (f20_0 t0)) else (f0_376 y4 y5 y6 y7 y8 y9 y10 y11 aF11 G i16 (f20_0 t0))))
def f0_356 (y4 : Int32) (y5 : Int32) (y6 : Int32) (y7 : Int32) (y8 : Int32) (y9 : Int32) (y10 : Int32) (y11 : Int32) (aF11 : Addr) (G : OwnGT) (i15 : Int32) (i16 : Int32) : Int32 := (f0_357 y4 y5 y6 y7 y8 y9 y10 y11 aF11 G i15 i16 (0 : Int32))
def f0_338 (y4 : Int32) (y5 : Int32) (y6 : Int32) (y7 : Int32) (y8 : Int32) (y9 : Int32) (y10 : Int32) (y11 : Int32) (aF11 : Addr) (G : OwnGT) (i14 : Int32) (i15 : Int32) (t0 : Int32) : Int32 := (if i14 = (0 : Int32) then (f0_356 y4 y5 y6 y7 y8 y9 y10 y11 aF11 G i15 t0) else (if y5 < y11 then (f0_357 y4 y5 y6 y7 y8 y9 y10 y11 aF11 G i15 t0 (1 : Int32)) else (f0_356 y4 y5 y6 y7 y8 y9 y10 y11 aF11 G i15 t0)))
def f0_337 (y4 : Int32) (y5 : Int32) (y6 : Int32) (y7 : Int32) (y8 : Int32) (y9 : Int32) (y10 : Int32) (y11 : Int32) (aF11 : Addr) (G : OwnGT) (i14 : Int32) (i15 : Int32) : Int32 := (f0_338 y4 y5 y6 y7 y8 y9 y10 y11 aF11 G i14 i15 (0 : Int32))
def f0_333 (y4 : Int32) (y5 : Int32) (y6 : Int32) (y7 : Int32) (y8 : Int32) (y9 : Int32) (y10 : Int32) (y11 : Int32) (aF11 : Addr) (G : OwnGT) (i14 : Int32) (i15 : Int32) : Int32 := (f0_338 y4 y5 y6 y7 y8 y9 y10 y11 aF11 G i14 i15 (1 : Int32))
def f0_319 (y4 : Int32) (y5 : Int32) (y6 : Int32) (y7 : Int32) (y8 : Int32) (y9 : Int32) (y10 : Int32) (y11 : Int32) (aF11 : Addr) (G : OwnGT) (i14 : Int32) (i15 : Int32) : Int32 := (if y7 = y6 then (if y10 = y9 then (f0_337 y4 y5 y6 y7 y8 y9 y10 y11 aF11 G i14 i15) else (f0_333 y4 y5 y6 y7 y8 y9 y10 y11 aF11 G i14 i15)) else (f0_333 y4 y5 y6 y7 y8 y9 y10 y11 aF11 G i14 i15))
def f0_290 (y4 : Int32) (y5 : Int32) (y6 : Int32) (y7 : Int32) (y8 : Int32) (y9 : Int32) (y10 : Int32) (y11 : Int32) (aF11 : Addr) (G : OwnGT) (i14 : Int32) (t0 : Int32) : Int32 := (if (2 : Int32) < y4 then (if y7 = y10 then (f0_337 y4 y5 y6 y7 y8 y9 y10 y11 aF11 G i14 t0) else (if y7 = y5 then (if y10 = y8 then (f0_337 y4 y5 y6 y7 y8 y9 y10 y11 aF11 G i14 t0) else (f0_319 y4 y5 y6 y7 y8 y9 y10 y11 aF11 G i14 t0)) else (f0_319 y4 y5 y6 y7 y8 y9 y10 y11 aF11 G i14 t0))) else (f0_337 y4 y5 y6 y7 y8 y9 y10 y11 aF11 G i14 t0))
def f0_289 (y4 : Int32) (y5 : Int32) (y6 : Int32) (y7 : Int32) (y8 : Int32) (y9 : Int32) (y10 : Int32) (y11 : Int32) (aF11 : Addr) (G : OwnGT) (i14 : Int32) : Int32 := (f0_290 y4 y5 y6 y7 y8 y9 y10 y11 aF11 G i14 (0 : Int32))
def f0_285 (y4 : Int32) (y5 : Int32) (y6 : Int32) (y7 : Int32) (y8 : Int32) (y9 : Int32) (y10 : Int32) (y11 : Int32) (aF11 : Addr) (G : OwnGT) (i14 : Int32) : Int32 := (f0_290 y4 y5 y6 y7 y8 y9 y10 y11 aF11 G i14 (1 : Int32))
def f0_256 (y4 : Int32) (y5 : Int32) (y6 : Int32) (y7 : Int32) (y8 : Int32) (y9 : Int32) (y10 : Int32) (y11 : Int32) (aF11 : Addr) (G : OwnGT) (t0 : Int32) : Int32 := (if (1 : Int32) < y4 then (if y6 = y9 then (f0_289 y4 y5 y6 y7 y8 y9 y10 y11 aF11 G t0) else (if y6 = y5 then (if y9 = y8 then (f0_289 y4 y5 y6 y7 y8 y9 y10 y11 aF11 G t0) else (f0_285 y4 y5 y6 y7 y8 y9 y10 y11 aF11 G t0)) else (f0_285 y4 y5 y6 y7 y8 y9 y10 y11 aF11 G t0))) else (f0_289 y4 y5 y6 y7 y8 y9 y10 y11 aF11 G t0))
def f0_255 (y4 : Int32) (y5 : Int32) (y6 : Int32) (y7 : Int32) (y8 : Int32) (y9 : Int32) (y10 : Int32) (y11 : Int32) (aF11 : Addr) (G : OwnGT) : Int32 := (f0_256 y4 y5 y6 y7 y8 y9 y10 y11 aF11 G (0 : Int32))
def f0_239 (y4 : Int32) (y5 : Int32) (y6 : Int32) (y7 : Int32) (y8 : Int32) (y9 : Int32) (y10 : Int32) (y11 : Int32) (aF11 : Addr) (G : OwnGT) : Int32 := (if (0 : Int32) < y4 then (if y5 = y8 then (f0_255 y4 y5 y6 y7 y8 y9 y10 y11 aF11 G) else (f0_256 y4 y5 y6 y7 y8 y9 y10 y11 aF11 G (1 : Int32))) else (f0_255 y4 y5 y6 y7 y8 y9 y10 y11 aF11 G))
def own_gk (y4 y5 y6 y7 y8 y9 y10 : Int32) : OwnGT := if y4 = 0 then own_g0 else if y4 = 1 then own_st own_g0 y5 y8 else if y4 = 2 then own_st (own_st own_g0 y5 y8) y6 y9 else own_st (own_st (own_st own_g0 y5 y8) y6 y9) y7 y10
def own_P (n4 n5 n6 n7 n8 n9 n10 n11 : Nat) : Bool := decide (n5 ≤ n6 ∧ n6 ≤ n7 → f0_239 (Int32.ofNat n4) (Int32.ofNat n5) (Int32.ofNat n6) (Int32.ofNat n7) (Int32.ofNat n8) (Int32.ofNat n9) (Int32.ofNat n10) (Int32.ofNat n11) 0 (own_gk (Int32.ofNat n4) (Int32.ofNat n5) (Int32.ofNat n6) (Int32.ofNat n7) (Int32.ofNat n8) (Int32.ofNat n9) (Int32.ofNat n10)) = 1)
set_option maxRecDepth 65536 in
theorem own_dec : ((List.range 4).all fun k => (List.range 3).all fun a => (List.range 3).all fun b => (List.range 3).all fun c => (List.range 3).all fun t1 => (List.range 3).all fun t2 => (List.range 3).all fun t3 => (List.range 3).all fun n => own_P k a b c t1 t2 t3 n) = true := by decide +kernel
theorem own_nat4 {r : Int32} {m : Int} (h : 0 ≤ r.toInt ∧ r.toInt ≤ m) (hm : m ≤ 100) : ∃ n : Nat, (n : Int) < m + 1 ∧ r = Int32.ofNat n ∧ r.toInt = n := by
  refine ⟨r.toInt.toNat, by omega, ?_, by omega⟩
  apply Int32.toInt_inj.mp
  rw [Int32.toInt_ofNat_of_lt (by omega)]
  omega
theorem own_law (y4 y5 y6 y7 y8 y9 y10 y11 : Int32) (aF : Addr) (G : OwnGT) (b4 : 0 ≤ y4.toInt ∧ y4.toInt ≤ 3) (b5 : 0 ≤ y5.toInt ∧ y5.toInt ≤ 2) (b6 : y5.toInt ≤ y6.toInt ∧ y6.toInt ≤ 2) (b7 : y6.toInt ≤ y7.toInt ∧ y7.toInt ≤ 2) (by8 : 0 ≤ y8.toInt ∧ y8.toInt ≤ 2) (by9 : 0 ≤ y9.toInt ∧ y9.toInt ≤ 2) (by10 : 0 ≤ y10.toInt ∧ y10.toInt ≤ 2) (by11 : 0 ≤ y11.toInt ∧ y11.toInt ≤ 2) (hG : G = (own_gk y4 y5 y6 y7 y8 y9 y10)) : f0_239 y4 y5 y6 y7 y8 y9 y10 y11 aF G = 1 := by
  subst hG
  obtain ⟨k, hk, rfl, ek⟩ := own_nat4 (r := y4) (m := 3) b4 (by decide)
  obtain ⟨x5, h5, rfl, e5⟩ := own_nat4 (r := y5) (m := 2) b5 (by decide)
  obtain ⟨x6, h6, rfl, e6⟩ := own_nat4 (r := y6) (m := 2) ⟨by omega, by omega⟩ (by decide)
  obtain ⟨x7, h7, rfl, e7⟩ := own_nat4 (r := y7) (m := 2) ⟨by omega, by omega⟩ (by decide)
  obtain ⟨x8, h8, rfl, -⟩ := own_nat4 (m := 2) by8 (by decide)
  obtain ⟨x9, h9, rfl, -⟩ := own_nat4 (m := 2) by9 (by decide)
  obtain ⟨x10, h10, rfl, -⟩ := own_nat4 (m := 2) by10 (by decide)
  obtain ⟨x11, h11, rfl, -⟩ := own_nat4 (m := 2) by11 (by decide)
  have q := own_dec
  simp only [List.all_eq_true, List.mem_range] at q
  exact of_decide_eq_true (q k (by omega) x5 (by omega) x6 (by omega) x7 (by omega) x8 (by omega) x9 (by omega) x10 (by omega) x11 (by omega)) ⟨by omega, by omega⟩
def Q0 (Z : State) (p0 : Int32) (p1 : Int32) (p2 : Int32) (p3 : Int32) (xD : Addr) (h0 : Heap) (n0 : Nat) (v : Option Value) (h : Heap) (L : List Loc) : Prop := v = some (.int 1) ∧ Fr n0 L ∧ True
set_option maxRecDepth 65536 in
set_option maxHeartbeats 40000000 in
theorem rm0 (l : Launch) (Z : State) (aZ : Array Value) (hw : ∀ d ∈ tables_1, d.before aZ Z = true) (ws : List Jvm.Cond) (p0 : Int32) (p1 : Int32) (p2 : Int32) (p3 : Int32) (xD : Addr) (h0 : Heap) (n0 : Nat) (Z0 : n0 ≤ h0.size) (SD : Sta Z h0 "java/util/ArrayList" "DEFAULTCAPACITY_EMPTY_ELEMENTDATA" "[Ljava/lang/Object;" (.ref xD)) (RX : OwnR Z h0 xD "java/lang/Object" (0 : Int32)) (xlt : xD < n0) :
    MetFree l x (head1 (Jvm.Cond.code x code maxLocals ret :: ws) room_1) (fun a U => a = #[(.int p0), (.int p1), (.int p2), (.int p3)] ∧ Z.Warmed39 U.vm ∧ U.heap = h0) (fun _ _ _ _ _ => True) (fun _ U o U' => ∃ v L, o = .returned v ∧ Q0 Z p0 p1 p2 p3 xD h0 n0 v U'.heap L ∧ FrameEnd U o U' L 40 12480) := by
  refine MetFree.of_bodySF (plainFor_of_name pn_17) hisR ?_
  intro p e s m args below meth c s₁ Bd hml0 hP hK
  obtain ⟨rfl, hZ, hh⟩ := hP
  have hx := Bd.exec
  have hby := Bd.bytes
  have hml : c.maxLocals = 18 := hml0
  have hown : s.vm.findClass "com/example/changeset/changeset/check/StateGraphEdgesStartPinLaw" = some m.cls := findClass_of_methodNamed Bd.named
  have hnm := (name_of_methodNamed Bd.named Bd.method).1
  have hlk := BodyLoose.notSynchronized Bd
  have X0 : Stand p l e room_1 s m #[(.int p0), (.int p1), (.int p2), (.int p3)] below meth c s₁ [] 0 0 := Stand.of_body Bd
  have e0 : s₁.heap = h0 := by rw [← hh, Bd.state]; rfl
  have N0 := Fr.nil n0
  have hk0 : 0 ≤ 40 := Nat.zero_le _
  have hn0 : 0 ≤ 12480 := Nat.zero_le _
  show OwnEnds p e below (OwnQ s (Q0 Z p0 p1 p2 p3 xD h0 n0) 40 12480) (s₁.setTop (entryFrame m #[(.int p0), (.int p1), (.int p2), (.int p3)] maxLocals))
  refine .pre (fun t k => castTop (ef_0 m p0 p1 p2 p3) k) ?_
  show OwnEnds p e below _ (s₁.setTop (mkF m 0 #[.val (.int p0), .val (.int p1), .val (.int p2), .val (.int p3), .unset, .unset, .unset, .unset, .unset, .unset, .unset, .unset, .unset, .unset, .unset, .unset, .unset, .unset] []))
  refine .pre (fun _ kq => XS.iloadN X0.here hx rfl (hb hby at_0) rfl kq) ?_
  show OwnEnds p e below _ (s₁.setTop (mkF m 1 #[.val (.int p0), .val (.int p1), .val (.int p2), .val (.int p3), .unset, .unset, .unset, .unset, .unset, .unset, .unset, .unset, .unset, .unset, .unset, .unset, .unset, .unset] [(.int p0)]))
  refine .pre (fun _ kq => XS.iconst X0.here hx rfl (hb hby at_1) kq) ?_
  show OwnEnds p e below _ (s₁.setTop (mkF m 2 #[.val (.int p0), .val (.int p1), .val (.int p2), .val (.int p3), .unset, .unset, .unset, .unset, .unset, .unset, .unset, .unset, .unset, .unset, .unset, .unset, .unset, .unset] [(.int (3 : Int32)), (.int p0)]))
  refine .pre (fun _ kq => XS.iand X0.here hx rfl (hb hby at_2) rfl kq) ?_
  show OwnEnds p e below _ (s₁.setTop (mkF m 3 #[.val (.int p0), .val (.int p1), .val (.int p2), .val (.int p3), .unset, .unset, .unset, .unset, .unset, .unset, .unset, .unset, .unset, .unset, .unset, .unset, .unset, .unset] [(.int (p0 &&& (3 : Int32)))]))
  refine .pre (fun _ kq => XS.istore X0.here hx rfl (hb hby at_3) rfl (l' := #[.val (.int p0), .val (.int p1), .val (.int p2), .val (.int p3), .val (.int (p0 &&& (3 : Int32))), .unset, .unset, .unset, .unset, .unset, .unset, .unset, .unset, .unset, .unset, .unset, .unset, .unset]) rfl kq) ?_
  show OwnEnds p e below _ (s₁.setTop (mkF m 5 #[.val (.int p0), .val (.int p1), .val (.int p2), .val (.int p3), .val (.int (p0 &&& (3 : Int32))), .unset, .unset, .unset, .unset, .unset, .unset, .unset, .unset, .unset, .unset, .unset, .unset, .unset] []))
  obtain ⟨y4, hy4⟩ : ∃ z, z = (p0 &&& (3 : Int32)) := ⟨_, rfl⟩
  rw [← hy4]
  show OwnEnds p e below _ (s₁.setTop (mkF m 5 #[.val (.int p0), .val (.int p1), .val (.int p2), .val (.int p3), .val (.int y4), .unset, .unset, .unset, .unset, .unset, .unset, .unset, .unset, .unset, .unset, .unset, .unset, .unset] []))
  refine .pre (fun _ kq => XS.iconst X0.here hx rfl (hb hby at_5) kq) ?_
  show OwnEnds p e below _ (s₁.setTop (mkF m 6 #[.val (.int p0), .val (.int p1), .val (.int p2), .val (.int p3), .val (.int y4), .unset, .unset, .unset, .unset, .unset, .unset, .unset, .unset, .unset, .unset, .unset, .unset, .unset] [(.int (2 : Int32))]))
  refine .pre (fun _ kq => XS.iloadN X0.here hx rfl (hb hby at_6) rfl kq) ?_
  show OwnEnds p e below _ (s₁.setTop (mkF m 7 #[.val (.int p0), .val (.int p1), .val (.int p2), .val (.int p3), .val (.int y4), .unset, .unset, .unset, .unset, .unset, .unset, .unset, .unset, .unset, .unset, .unset, .unset, .unset] [(.int p0), (.int (2 : Int32))]))
  refine .pre (fun _ kq => XS.iconst X0.here hx rfl (hb hby at_7) kq) ?_
  show OwnEnds p e below _ (s₁.setTop (mkF m 8 #[.val (.int p0), .val (.int p1), .val (.int p2), .val (.int p3), .val (.int y4), .unset, .unset, .unset, .unset, .unset, .unset, .unset, .unset, .unset, .unset, .unset, .unset, .unset] [(.int (2 : Int32)), (.int p0), (.int (2 : Int32))]))
  refine .pre (fun _ kq => XS.iushr X0.here hx rfl (hb hby at_8) rfl kq) ?_
  show OwnEnds p e below _ (s₁.setTop (mkF m 9 #[.val (.int p0), .val (.int p1), .val (.int p2), .val (.int p3), .val (.int y4), .unset, .unset, .unset, .unset, .unset, .unset, .unset, .unset, .unset, .unset, .unset, .unset, .unset] [(.int ((p0.toUInt32 >>> ((2 : Int32) &&& 31).toUInt32).toInt32)), (.int (2 : Int32))]))
  refine .pre (fun _ kq => XS.iconst X0.here hx rfl (hb hby at_9) kq) ?_
  show OwnEnds p e below _ (s₁.setTop (mkF m 10 #[.val (.int p0), .val (.int p1), .val (.int p2), .val (.int p3), .val (.int y4), .unset, .unset, .unset, .unset, .unset, .unset, .unset, .unset, .unset, .unset, .unset, .unset, .unset] [(.int (3 : Int32)), (.int ((p0.toUInt32 >>> ((2 : Int32) &&& 31).toUInt32).toInt32)), (.int (2 : Int32))]))
  refine .pre (fun _ kq => XS.iand X0.here hx rfl (hb hby at_10) rfl kq) ?_
  show OwnEnds p e below _ (s₁.setTop (mkF m 11 #[.val (.int p0), .val (.int p1), .val (.int p2), .val (.int p3), .val (.int y4), .unset, .unset, .unset, .unset, .unset, .unset, .unset, .unset, .unset, .unset, .unset, .unset, .unset] [(.int (((p0.toUInt32 >>> ((2 : Int32) &&& 31).toUInt32).toInt32) &&& (3 : Int32))), (.int (2 : Int32))]))
  obtain ⟨_, _, ⟨T1, L1, k1, n1⟩, -, X1, ⟨Lc1, hQ1, l1, y1, z1⟩, st1⟩ := Jvm.LawKit.callS X0 hx (y := (⟨"java/lang/Math", "min", "(II)I"⟩ : MethodName)) hown (mvT hZ (hw _ (List.mem_of_getElem? (i := 0) rfl))) (mvT hZ (hw _ (List.mem_of_getElem? (i := 1) rfl))) (mvT hZ (hw _ (List.mem_of_getElem? (i := 2) rfl))) (mvT hZ (hw _ (List.mem_of_getElem? (i := 3) rfl))) (by decide) (backOf (W := 0) (rm1 l Z aZ hw [] (2 : Int32) (((p0.toUInt32 >>> ((2 : Int32) &&& 31).toUInt32).toInt32) &&& (3 : Int32)) h0 n0 Z0) hZ (hw _ (List.mem_of_getElem? (i := 3) rfl)) (hw _ (List.mem_of_getElem? (i := 2) rfl)) (by decide) (by decide)) (g := (mkF m 11 #[.val (.int p0), .val (.int p1), .val (.int p2), .val (.int p3), .val (.int y4), .unset, .unset, .unset, .unset, .unset, .unset, .unset, .unset, .unset, .unset, .unset, .unset, .unset] [(.int (((p0.toUInt32 >>> ((2 : Int32) &&& 31).toUInt32).toInt32) &&& (3 : Int32))), (.int (2 : Int32))])) rfl (by rw [hml]; rfl) (argsL := [(.int (2 : Int32)), (.int (((p0.toUInt32 >>> ((2 : Int32) &&& 31).toUInt32).toInt32) &&& (3 : Int32)))]) (rest := []) (lenOf pd_8 rfl) rfl (by show 2 * 0 + _ ≤ _; exact Nat.le_of_eq rfl) (hb hby at_11) (fun _ _ => ⟨rfl, e0, (by decide : 0 + 0 ≤ _), (by decide : 0 + 0 ≤ _)⟩)
  dsimp only [Pt.U, Pt.locs, Pt.cells, Pt.slots] at X1 l1 y1 z1 st1 hQ1
  try dsimp only [Nat.reduceAdd] at y1 z1
  subst y1 z1
  obtain ⟨rfl, N1q, e1⟩ := hQ1
  have N1 : Fr n0 L1 := by rw [l1]; exact Fr.app N0 N1q
  refine .pre (fun _ kq => st1 _ kq) ?_
  show OwnEnds p e below _ (T1.setTop (mkF m 14 #[.val (.int p0), .val (.int p1), .val (.int p2), .val (.int p3), .val (.int y4), .unset, .unset, .unset, .unset, .unset, .unset, .unset, .unset, .unset, .unset, .unset, .unset, .unset] [(.int (f1_0 (2 : Int32) (((p0.toUInt32 >>> ((2 : Int32) &&& 31).toUInt32).toInt32) &&& (3 : Int32))))]))
  refine .pre (fun _ kq => XS.istore X1.here hx rfl (hb hby at_14) rfl (l' := #[.val (.int p0), .val (.int p1), .val (.int p2), .val (.int p3), .val (.int y4), .val (.int (f1_0 (2 : Int32) (((p0.toUInt32 >>> ((2 : Int32) &&& 31).toUInt32).toInt32) &&& (3 : Int32)))), .unset, .unset, .unset, .unset, .unset, .unset, .unset, .unset, .unset, .unset, .unset, .unset]) rfl kq) ?_
  show OwnEnds p e below _ (T1.setTop (mkF m 16 #[.val (.int p0), .val (.int p1), .val (.int p2), .val (.int p3), .val (.int y4), .val (.int (f1_0 (2 : Int32) (((p0.toUInt32 >>> ((2 : Int32) &&& 31).toUInt32).toInt32) &&& (3 : Int32)))), .unset, .unset, .unset, .unset, .unset, .unset, .unset, .unset, .unset, .unset, .unset, .unset] []))
  obtain ⟨y5, hy5⟩ : ∃ z, z = (f1_0 (2 : Int32) (((p0.toUInt32 >>> ((2 : Int32) &&& 31).toUInt32).toInt32) &&& (3 : Int32))) := ⟨_, rfl⟩
  rw [← hy5]
  show OwnEnds p e below _ (T1.setTop (mkF m 16 #[.val (.int p0), .val (.int p1), .val (.int p2), .val (.int p3), .val (.int y4), .val (.int y5), .unset, .unset, .unset, .unset, .unset, .unset, .unset, .unset, .unset, .unset, .unset, .unset] []))
  refine .pre (fun _ kq => XS.iconst X1.here hx rfl (hb hby at_16) kq) ?_
  show OwnEnds p e below _ (T1.setTop (mkF m 17 #[.val (.int p0), .val (.int p1), .val (.int p2), .val (.int p3), .val (.int y4), .val (.int y5), .unset, .unset, .unset, .unset, .unset, .unset, .unset, .unset, .unset, .unset, .unset, .unset] [(.int (2 : Int32))]))
  refine .pre (fun _ kq => XS.iload X1.here hx rfl (hb hby at_17) rfl kq) ?_
  show OwnEnds p e below _ (T1.setTop (mkF m 19 #[.val (.int p0), .val (.int p1), .val (.int p2), .val (.int p3), .val (.int y4), .val (.int y5), .unset, .unset, .unset, .unset, .unset, .unset, .unset, .unset, .unset, .unset, .unset, .unset] [(.int y5), (.int (2 : Int32))]))
  refine .pre (fun _ kq => XS.iloadN X1.here hx rfl (hb hby at_19) rfl kq) ?_
  show OwnEnds p e below _ (T1.setTop (mkF m 20 #[.val (.int p0), .val (.int p1), .val (.int p2), .val (.int p3), .val (.int y4), .val (.int y5), .unset, .unset, .unset, .unset, .unset, .unset, .unset, .unset, .unset, .unset, .unset, .unset] [(.int p0), (.int y5), (.int (2 : Int32))]))
  refine .pre (fun _ kq => XS.iconst X1.here hx rfl (hb hby at_20) kq) ?_
  show OwnEnds p e below _ (T1.setTop (mkF m 21 #[.val (.int p0), .val (.int p1), .val (.int p2), .val (.int p3), .val (.int y4), .val (.int y5), .unset, .unset, .unset, .unset, .unset, .unset, .unset, .unset, .unset, .unset, .unset, .unset] [(.int (4 : Int32)), (.int p0), (.int y5), (.int (2 : Int32))]))
  refine .pre (fun _ kq => XS.iushr X1.here hx rfl (hb hby at_21) rfl kq) ?_
  show OwnEnds p e below _ (T1.setTop (mkF m 22 #[.val (.int p0), .val (.int p1), .val (.int p2), .val (.int p3), .val (.int y4), .val (.int y5), .unset, .unset, .unset, .unset, .unset, .unset, .unset, .unset, .unset, .unset, .unset, .unset] [(.int ((p0.toUInt32 >>> ((4 : Int32) &&& 31).toUInt32).toInt32)), (.int y5), (.int (2 : Int32))]))
  refine .pre (fun _ kq => XS.iconst X1.here hx rfl (hb hby at_22) kq) ?_
  show OwnEnds p e below _ (T1.setTop (mkF m 23 #[.val (.int p0), .val (.int p1), .val (.int p2), .val (.int p3), .val (.int y4), .val (.int y5), .unset, .unset, .unset, .unset, .unset, .unset, .unset, .unset, .unset, .unset, .unset, .unset] [(.int (3 : Int32)), (.int ((p0.toUInt32 >>> ((4 : Int32) &&& 31).toUInt32).toInt32)), (.int y5), (.int (2 : Int32))]))
  refine .pre (fun _ kq => XS.iand X1.here hx rfl (hb hby at_23) rfl kq) ?_
  show OwnEnds p e below _ (T1.setTop (mkF m 24 #[.val (.int p0), .val (.int p1), .val (.int p2), .val (.int p3), .val (.int y4), .val (.int y5), .unset, .unset, .unset, .unset, .unset, .unset, .unset, .unset, .unset, .unset, .unset, .unset] [(.int (((p0.toUInt32 >>> ((4 : Int32) &&& 31).toUInt32).toInt32) &&& (3 : Int32))), (.int y5), (.int (2 : Int32))]))
  refine .pre (fun _ kq => XS.iadd X1.here hx rfl (hb hby at_24) rfl kq) ?_
  show OwnEnds p e below _ (T1.setTop (mkF m 25 #[.val (.int p0), .val (.int p1), .val (.int p2), .val (.int p3), .val (.int y4), .val (.int y5), .unset, .unset, .unset, .unset, .unset, .unset, .unset, .unset, .unset, .unset, .unset, .unset] [(.int (y5 + (((p0.toUInt32 >>> ((4 : Int32) &&& 31).toUInt32).toInt32) &&& (3 : Int32)))), (.int (2 : Int32))]))
  obtain ⟨_, _, ⟨T2, L2, k2, n2⟩, -, X2, ⟨Lc2, hQ2, l2, y2, z2⟩, st2⟩ := Jvm.LawKit.callS X1 hx (y := (⟨"java/lang/Math", "min", "(II)I"⟩ : MethodName)) hown (mvT hZ (hw _ (List.mem_of_getElem? (i := 0) rfl))) (mvT hZ (hw _ (List.mem_of_getElem? (i := 1) rfl))) (mvT hZ (hw _ (List.mem_of_getElem? (i := 2) rfl))) (mvT hZ (hw _ (List.mem_of_getElem? (i := 3) rfl))) (by decide) (backOf (W := 0) (rm1 l Z aZ hw [] (2 : Int32) (y5 + (((p0.toUInt32 >>> ((4 : Int32) &&& 31).toUInt32).toInt32) &&& (3 : Int32))) h0 n0 Z0) hZ (hw _ (List.mem_of_getElem? (i := 3) rfl)) (hw _ (List.mem_of_getElem? (i := 2) rfl)) (by decide) (by decide)) (g := (mkF m 25 #[.val (.int p0), .val (.int p1), .val (.int p2), .val (.int p3), .val (.int y4), .val (.int y5), .unset, .unset, .unset, .unset, .unset, .unset, .unset, .unset, .unset, .unset, .unset, .unset] [(.int (y5 + (((p0.toUInt32 >>> ((4 : Int32) &&& 31).toUInt32).toInt32) &&& (3 : Int32)))), (.int (2 : Int32))])) rfl (by rw [hml]; rfl) (argsL := [(.int (2 : Int32)), (.int (y5 + (((p0.toUInt32 >>> ((4 : Int32) &&& 31).toUInt32).toInt32) &&& (3 : Int32))))]) (rest := []) (lenOf pd_8 rfl) rfl (by show 2 * 0 + _ ≤ _; exact Nat.le_of_eq rfl) (hb hby at_25) (fun _ _ => ⟨rfl, e1, (by decide : 0 + 0 ≤ _), (by decide : 0 + 0 ≤ _)⟩)
  dsimp only [Pt.U, Pt.locs, Pt.cells, Pt.slots] at X2 l2 y2 z2 st2 hQ2
  try dsimp only [Nat.reduceAdd] at y2 z2
  subst y2 z2
  obtain ⟨rfl, N2q, e2⟩ := hQ2
  have N2 : Fr n0 L2 := by rw [l2]; exact Fr.app N1 N2q
  refine .pre (fun _ kq => st2 _ kq) ?_
  show OwnEnds p e below _ (T2.setTop (mkF m 28 #[.val (.int p0), .val (.int p1), .val (.int p2), .val (.int p3), .val (.int y4), .val (.int y5), .unset, .unset, .unset, .unset, .unset, .unset, .unset, .unset, .unset, .unset, .unset, .unset] [(.int (f1_0 (2 : Int32) (y5 + (((p0.toUInt32 >>> ((4 : Int32) &&& 31).toUInt32).toInt32) &&& (3 : Int32)))))]))
  refine .pre (fun _ kq => XS.istore X2.here hx rfl (hb hby at_28) rfl (l' := #[.val (.int p0), .val (.int p1), .val (.int p2), .val (.int p3), .val (.int y4), .val (.int y5), .val (.int (f1_0 (2 : Int32) (y5 + (((p0.toUInt32 >>> ((4 : Int32) &&& 31).toUInt32).toInt32) &&& (3 : Int32))))), .unset, .unset, .unset, .unset, .unset, .unset, .unset, .unset, .unset, .unset, .unset]) rfl kq) ?_
  show OwnEnds p e below _ (T2.setTop (mkF m 30 #[.val (.int p0), .val (.int p1), .val (.int p2), .val (.int p3), .val (.int y4), .val (.int y5), .val (.int (f1_0 (2 : Int32) (y5 + (((p0.toUInt32 >>> ((4 : Int32) &&& 31).toUInt32).toInt32) &&& (3 : Int32))))), .unset, .unset, .unset, .unset, .unset, .unset, .unset, .unset, .unset, .unset, .unset] []))
  obtain ⟨y6, hy6⟩ : ∃ z, z = (f1_0 (2 : Int32) (y5 + (((p0.toUInt32 >>> ((4 : Int32) &&& 31).toUInt32).toInt32) &&& (3 : Int32)))) := ⟨_, rfl⟩
  rw [← hy6]
  show OwnEnds p e below _ (T2.setTop (mkF m 30 #[.val (.int p0), .val (.int p1), .val (.int p2), .val (.int p3), .val (.int y4), .val (.int y5), .val (.int y6), .unset, .unset, .unset, .unset, .unset, .unset, .unset, .unset, .unset, .unset, .unset] []))
  refine .pre (fun _ kq => XS.iconst X2.here hx rfl (hb hby at_30) kq) ?_
  show OwnEnds p e below _ (T2.setTop (mkF m 31 #[.val (.int p0), .val (.int p1), .val (.int p2), .val (.int p3), .val (.int y4), .val (.int y5), .val (.int y6), .unset, .unset, .unset, .unset, .unset, .unset, .unset, .unset, .unset, .unset, .unset] [(.int (2 : Int32))]))
  refine .pre (fun _ kq => XS.iload X2.here hx rfl (hb hby at_31) rfl kq) ?_
  show OwnEnds p e below _ (T2.setTop (mkF m 33 #[.val (.int p0), .val (.int p1), .val (.int p2), .val (.int p3), .val (.int y4), .val (.int y5), .val (.int y6), .unset, .unset, .unset, .unset, .unset, .unset, .unset, .unset, .unset, .unset, .unset] [(.int y6), (.int (2 : Int32))]))
  refine .pre (fun _ kq => XS.iloadN X2.here hx rfl (hb hby at_33) rfl kq) ?_
  show OwnEnds p e below _ (T2.setTop (mkF m 34 #[.val (.int p0), .val (.int p1), .val (.int p2), .val (.int p3), .val (.int y4), .val (.int y5), .val (.int y6), .unset, .unset, .unset, .unset, .unset, .unset, .unset, .unset, .unset, .unset, .unset] [(.int p0), (.int y6), (.int (2 : Int32))]))
  refine .pre (fun _ kq => XS.bipush X2.here hx rfl (hb hby at_34) kq) ?_
  show OwnEnds p e below _ (T2.setTop (mkF m 36 #[.val (.int p0), .val (.int p1), .val (.int p2), .val (.int p3), .val (.int y4), .val (.int y5), .val (.int y6), .unset, .unset, .unset, .unset, .unset, .unset, .unset, .unset, .unset, .unset, .unset] [(.int (6 : Int32)), (.int p0), (.int y6), (.int (2 : Int32))]))
  refine .pre (fun _ kq => XS.iushr X2.here hx rfl (hb hby at_36) rfl kq) ?_
  show OwnEnds p e below _ (T2.setTop (mkF m 37 #[.val (.int p0), .val (.int p1), .val (.int p2), .val (.int p3), .val (.int y4), .val (.int y5), .val (.int y6), .unset, .unset, .unset, .unset, .unset, .unset, .unset, .unset, .unset, .unset, .unset] [(.int ((p0.toUInt32 >>> ((6 : Int32) &&& 31).toUInt32).toInt32)), (.int y6), (.int (2 : Int32))]))
  refine .pre (fun _ kq => XS.iconst X2.here hx rfl (hb hby at_37) kq) ?_
  show OwnEnds p e below _ (T2.setTop (mkF m 38 #[.val (.int p0), .val (.int p1), .val (.int p2), .val (.int p3), .val (.int y4), .val (.int y5), .val (.int y6), .unset, .unset, .unset, .unset, .unset, .unset, .unset, .unset, .unset, .unset, .unset] [(.int (3 : Int32)), (.int ((p0.toUInt32 >>> ((6 : Int32) &&& 31).toUInt32).toInt32)), (.int y6), (.int (2 : Int32))]))
  refine .pre (fun _ kq => XS.iand X2.here hx rfl (hb hby at_38) rfl kq) ?_
  show OwnEnds p e below _ (T2.setTop (mkF m 39 #[.val (.int p0), .val (.int p1), .val (.int p2), .val (.int p3), .val (.int y4), .val (.int y5), .val (.int y6), .unset, .unset, .unset, .unset, .unset, .unset, .unset, .unset, .unset, .unset, .unset] [(.int (((p0.toUInt32 >>> ((6 : Int32) &&& 31).toUInt32).toInt32) &&& (3 : Int32))), (.int y6), (.int (2 : Int32))]))
  refine .pre (fun _ kq => XS.iadd X2.here hx rfl (hb hby at_39) rfl kq) ?_
  show OwnEnds p e below _ (T2.setTop (mkF m 40 #[.val (.int p0), .val (.int p1), .val (.int p2), .val (.int p3), .val (.int y4), .val (.int y5), .val (.int y6), .unset, .unset, .unset, .unset, .unset, .unset, .unset, .unset, .unset, .unset, .unset] [(.int (y6 + (((p0.toUInt32 >>> ((6 : Int32) &&& 31).toUInt32).toInt32) &&& (3 : Int32)))), (.int (2 : Int32))]))
  obtain ⟨_, _, ⟨T3, L3, k3, n3⟩, -, X3, ⟨Lc3, hQ3, l3, y3, z3⟩, st3⟩ := Jvm.LawKit.callS X2 hx (y := (⟨"java/lang/Math", "min", "(II)I"⟩ : MethodName)) hown (mvT hZ (hw _ (List.mem_of_getElem? (i := 0) rfl))) (mvT hZ (hw _ (List.mem_of_getElem? (i := 1) rfl))) (mvT hZ (hw _ (List.mem_of_getElem? (i := 2) rfl))) (mvT hZ (hw _ (List.mem_of_getElem? (i := 3) rfl))) (by decide) (backOf (W := 0) (rm1 l Z aZ hw [] (2 : Int32) (y6 + (((p0.toUInt32 >>> ((6 : Int32) &&& 31).toUInt32).toInt32) &&& (3 : Int32))) h0 n0 Z0) hZ (hw _ (List.mem_of_getElem? (i := 3) rfl)) (hw _ (List.mem_of_getElem? (i := 2) rfl)) (by decide) (by decide)) (g := (mkF m 40 #[.val (.int p0), .val (.int p1), .val (.int p2), .val (.int p3), .val (.int y4), .val (.int y5), .val (.int y6), .unset, .unset, .unset, .unset, .unset, .unset, .unset, .unset, .unset, .unset, .unset] [(.int (y6 + (((p0.toUInt32 >>> ((6 : Int32) &&& 31).toUInt32).toInt32) &&& (3 : Int32)))), (.int (2 : Int32))])) rfl (by rw [hml]; rfl) (argsL := [(.int (2 : Int32)), (.int (y6 + (((p0.toUInt32 >>> ((6 : Int32) &&& 31).toUInt32).toInt32) &&& (3 : Int32))))]) (rest := []) (lenOf pd_8 rfl) rfl (by show 2 * 0 + _ ≤ _; exact Nat.le_of_eq rfl) (hb hby at_40) (fun _ _ => ⟨rfl, e2, (by decide : 0 + 0 ≤ _), (by decide : 0 + 0 ≤ _)⟩)
  dsimp only [Pt.U, Pt.locs, Pt.cells, Pt.slots] at X3 l3 y3 z3 st3 hQ3
  try dsimp only [Nat.reduceAdd] at y3 z3
  subst y3 z3
  obtain ⟨rfl, N3q, e3⟩ := hQ3
  have N3 : Fr n0 L3 := by rw [l3]; exact Fr.app N2 N3q
  refine .pre (fun _ kq => st3 _ kq) ?_
  show OwnEnds p e below _ (T3.setTop (mkF m 43 #[.val (.int p0), .val (.int p1), .val (.int p2), .val (.int p3), .val (.int y4), .val (.int y5), .val (.int y6), .unset, .unset, .unset, .unset, .unset, .unset, .unset, .unset, .unset, .unset, .unset] [(.int (f1_0 (2 : Int32) (y6 + (((p0.toUInt32 >>> ((6 : Int32) &&& 31).toUInt32).toInt32) &&& (3 : Int32)))))]))
  refine .pre (fun _ kq => XS.istore X3.here hx rfl (hb hby at_43) rfl (l' := #[.val (.int p0), .val (.int p1), .val (.int p2), .val (.int p3), .val (.int y4), .val (.int y5), .val (.int y6), .val (.int (f1_0 (2 : Int32) (y6 + (((p0.toUInt32 >>> ((6 : Int32) &&& 31).toUInt32).toInt32) &&& (3 : Int32))))), .unset, .unset, .unset, .unset, .unset, .unset, .unset, .unset, .unset, .unset]) rfl kq) ?_
  show OwnEnds p e below _ (T3.setTop (mkF m 45 #[.val (.int p0), .val (.int p1), .val (.int p2), .val (.int p3), .val (.int y4), .val (.int y5), .val (.int y6), .val (.int (f1_0 (2 : Int32) (y6 + (((p0.toUInt32 >>> ((6 : Int32) &&& 31).toUInt32).toInt32) &&& (3 : Int32))))), .unset, .unset, .unset, .unset, .unset, .unset, .unset, .unset, .unset, .unset] []))
  obtain ⟨y7, hy7⟩ : ∃ z, z = (f1_0 (2 : Int32) (y6 + (((p0.toUInt32 >>> ((6 : Int32) &&& 31).toUInt32).toInt32) &&& (3 : Int32)))) := ⟨_, rfl⟩
  rw [← hy7]
  show OwnEnds p e below _ (T3.setTop (mkF m 45 #[.val (.int p0), .val (.int p1), .val (.int p2), .val (.int p3), .val (.int y4), .val (.int y5), .val (.int y6), .val (.int y7), .unset, .unset, .unset, .unset, .unset, .unset, .unset, .unset, .unset, .unset] []))
  refine .pre (fun _ kq => XS.iconst X3.here hx rfl (hb hby at_45) kq) ?_
  show OwnEnds p e below _ (T3.setTop (mkF m 46 #[.val (.int p0), .val (.int p1), .val (.int p2), .val (.int p3), .val (.int y4), .val (.int y5), .val (.int y6), .val (.int y7), .unset, .unset, .unset, .unset, .unset, .unset, .unset, .unset, .unset, .unset] [(.int (2 : Int32))]))
  refine .pre (fun _ kq => XS.iloadN X3.here hx rfl (hb hby at_46) rfl kq) ?_
  show OwnEnds p e below _ (T3.setTop (mkF m 47 #[.val (.int p0), .val (.int p1), .val (.int p2), .val (.int p3), .val (.int y4), .val (.int y5), .val (.int y6), .val (.int y7), .unset, .unset, .unset, .unset, .unset, .unset, .unset, .unset, .unset, .unset] [(.int p1), (.int (2 : Int32))]))
  refine .pre (fun _ kq => XS.iconst X3.here hx rfl (hb hby at_47) kq) ?_
  show OwnEnds p e below _ (T3.setTop (mkF m 48 #[.val (.int p0), .val (.int p1), .val (.int p2), .val (.int p3), .val (.int y4), .val (.int y5), .val (.int y6), .val (.int y7), .unset, .unset, .unset, .unset, .unset, .unset, .unset, .unset, .unset, .unset] [(.int (3 : Int32)), (.int p1), (.int (2 : Int32))]))
  refine .pre (fun _ kq => XS.iand X3.here hx rfl (hb hby at_48) rfl kq) ?_
  show OwnEnds p e below _ (T3.setTop (mkF m 49 #[.val (.int p0), .val (.int p1), .val (.int p2), .val (.int p3), .val (.int y4), .val (.int y5), .val (.int y6), .val (.int y7), .unset, .unset, .unset, .unset, .unset, .unset, .unset, .unset, .unset, .unset] [(.int (p1 &&& (3 : Int32))), (.int (2 : Int32))]))
  obtain ⟨_, _, ⟨T4, L4, k4, n4⟩, -, X4, ⟨Lc4, hQ4, l4, y4, z4⟩, st4⟩ := Jvm.LawKit.callS X3 hx (y := (⟨"java/lang/Math", "min", "(II)I"⟩ : MethodName)) hown (mvT hZ (hw _ (List.mem_of_getElem? (i := 0) rfl))) (mvT hZ (hw _ (List.mem_of_getElem? (i := 1) rfl))) (mvT hZ (hw _ (List.mem_of_getElem? (i := 2) rfl))) (mvT hZ (hw _ (List.mem_of_getElem? (i := 3) rfl))) (by decide) (backOf (W := 0) (rm1 l Z aZ hw [] (2 : Int32) (p1 &&& (3 : Int32)) h0 n0 Z0) hZ (hw _ (List.mem_of_getElem? (i := 3) rfl)) (hw _ (List.mem_of_getElem? (i := 2) rfl)) (by decide) (by decide)) (g := (mkF m 49 #[.val (.int p0), .val (.int p1), .val (.int p2), .val (.int p3), .val (.int y4), .val (.int y5), .val (.int y6), .val (.int y7), .unset, .unset, .unset, .unset, .unset, .unset, .unset, .unset, .unset, .unset] [(.int (p1 &&& (3 : Int32))), (.int (2 : Int32))])) rfl (by rw [hml]; rfl) (argsL := [(.int (2 : Int32)), (.int (p1 &&& (3 : Int32)))]) (rest := []) (lenOf pd_8 rfl) rfl (by show 2 * 0 + _ ≤ _; exact Nat.le_of_eq rfl) (hb hby at_49) (fun _ _ => ⟨rfl, e3, (by decide : 0 + 0 ≤ _), (by decide : 0 + 0 ≤ _)⟩)
  dsimp only [Pt.U, Pt.locs, Pt.cells, Pt.slots] at X4 l4 y4 z4 st4 hQ4
  try dsimp only [Nat.reduceAdd] at y4 z4
  subst y4 z4
  obtain ⟨rfl, N4q, e4⟩ := hQ4
  have N4 : Fr n0 L4 := by rw [l4]; exact Fr.app N3 N4q
  refine .pre (fun _ kq => st4 _ kq) ?_
  show OwnEnds p e below _ (T4.setTop (mkF m 52 #[.val (.int p0), .val (.int p1), .val (.int p2), .val (.int p3), .val (.int y4), .val (.int y5), .val (.int y6), .val (.int y7), .unset, .unset, .unset, .unset, .unset, .unset, .unset, .unset, .unset, .unset] [(.int (f1_0 (2 : Int32) (p1 &&& (3 : Int32))))]))
  refine .pre (fun _ kq => XS.istore X4.here hx rfl (hb hby at_52) rfl (l' := #[.val (.int p0), .val (.int p1), .val (.int p2), .val (.int p3), .val (.int y4), .val (.int y5), .val (.int y6), .val (.int y7), .val (.int (f1_0 (2 : Int32) (p1 &&& (3 : Int32)))), .unset, .unset, .unset, .unset, .unset, .unset, .unset, .unset, .unset]) rfl kq) ?_
  show OwnEnds p e below _ (T4.setTop (mkF m 54 #[.val (.int p0), .val (.int p1), .val (.int p2), .val (.int p3), .val (.int y4), .val (.int y5), .val (.int y6), .val (.int y7), .val (.int (f1_0 (2 : Int32) (p1 &&& (3 : Int32)))), .unset, .unset, .unset, .unset, .unset, .unset, .unset, .unset, .unset] []))
  refine .pre (fun _ kq => XS.iconst X4.here hx rfl (hb hby at_54) kq) ?_
  show OwnEnds p e below _ (T4.setTop (mkF m 55 #[.val (.int p0), .val (.int p1), .val (.int p2), .val (.int p3), .val (.int y4), .val (.int y5), .val (.int y6), .val (.int y7), .val (.int (f1_0 (2 : Int32) (p1 &&& (3 : Int32)))), .unset, .unset, .unset, .unset, .unset, .unset, .unset, .unset, .unset] [(.int (2 : Int32))]))
  refine .pre (fun _ kq => XS.iloadN X4.here hx rfl (hb hby at_55) rfl kq) ?_
  show OwnEnds p e below _ (T4.setTop (mkF m 56 #[.val (.int p0), .val (.int p1), .val (.int p2), .val (.int p3), .val (.int y4), .val (.int y5), .val (.int y6), .val (.int y7), .val (.int (f1_0 (2 : Int32) (p1 &&& (3 : Int32)))), .unset, .unset, .unset, .unset, .unset, .unset, .unset, .unset, .unset] [(.int p1), (.int (2 : Int32))]))
  refine .pre (fun _ kq => XS.iconst X4.here hx rfl (hb hby at_56) kq) ?_
  show OwnEnds p e below _ (T4.setTop (mkF m 57 #[.val (.int p0), .val (.int p1), .val (.int p2), .val (.int p3), .val (.int y4), .val (.int y5), .val (.int y6), .val (.int y7), .val (.int (f1_0 (2 : Int32) (p1 &&& (3 : Int32)))), .unset, .unset, .unset, .unset, .unset, .unset, .unset, .unset, .unset] [(.int (2 : Int32)), (.int p1), (.int (2 : Int32))]))
  refine .pre (fun _ kq => XS.iushr X4.here hx rfl (hb hby at_57) rfl kq) ?_
  show OwnEnds p e below _ (T4.setTop (mkF m 58 #[.val (.int p0), .val (.int p1), .val (.int p2), .val (.int p3), .val (.int y4), .val (.int y5), .val (.int y6), .val (.int y7), .val (.int (f1_0 (2 : Int32) (p1 &&& (3 : Int32)))), .unset, .unset, .unset, .unset, .unset, .unset, .unset, .unset, .unset] [(.int ((p1.toUInt32 >>> ((2 : Int32) &&& 31).toUInt32).toInt32)), (.int (2 : Int32))]))
  refine .pre (fun _ kq => XS.iconst X4.here hx rfl (hb hby at_58) kq) ?_
  show OwnEnds p e below _ (T4.setTop (mkF m 59 #[.val (.int p0), .val (.int p1), .val (.int p2), .val (.int p3), .val (.int y4), .val (.int y5), .val (.int y6), .val (.int y7), .val (.int (f1_0 (2 : Int32) (p1 &&& (3 : Int32)))), .unset, .unset, .unset, .unset, .unset, .unset, .unset, .unset, .unset] [(.int (3 : Int32)), (.int ((p1.toUInt32 >>> ((2 : Int32) &&& 31).toUInt32).toInt32)), (.int (2 : Int32))]))
  refine .pre (fun _ kq => XS.iand X4.here hx rfl (hb hby at_59) rfl kq) ?_
  show OwnEnds p e below _ (T4.setTop (mkF m 60 #[.val (.int p0), .val (.int p1), .val (.int p2), .val (.int p3), .val (.int y4), .val (.int y5), .val (.int y6), .val (.int y7), .val (.int (f1_0 (2 : Int32) (p1 &&& (3 : Int32)))), .unset, .unset, .unset, .unset, .unset, .unset, .unset, .unset, .unset] [(.int (((p1.toUInt32 >>> ((2 : Int32) &&& 31).toUInt32).toInt32) &&& (3 : Int32))), (.int (2 : Int32))]))
  obtain ⟨_, _, ⟨T5, L5, k5, n5⟩, -, X5, ⟨Lc5, hQ5, l5, y5, z5⟩, st5⟩ := Jvm.LawKit.callS X4 hx (y := (⟨"java/lang/Math", "min", "(II)I"⟩ : MethodName)) hown (mvT hZ (hw _ (List.mem_of_getElem? (i := 0) rfl))) (mvT hZ (hw _ (List.mem_of_getElem? (i := 1) rfl))) (mvT hZ (hw _ (List.mem_of_getElem? (i := 2) rfl))) (mvT hZ (hw _ (List.mem_of_getElem? (i := 3) rfl))) (by decide) (backOf (W := 0) (rm1 l Z aZ hw [] (2 : Int32) (((p1.toUInt32 >>> ((2 : Int32) &&& 31).toUInt32).toInt32) &&& (3 : Int32)) h0 n0 Z0) hZ (hw _ (List.mem_of_getElem? (i := 3) rfl)) (hw _ (List.mem_of_getElem? (i := 2) rfl)) (by decide) (by decide)) (g := (mkF m 60 #[.val (.int p0), .val (.int p1), .val (.int p2), .val (.int p3), .val (.int y4), .val (.int y5), .val (.int y6), .val (.int y7), .val (.int (f1_0 (2 : Int32) (p1 &&& (3 : Int32)))), .unset, .unset, .unset, .unset, .unset, .unset, .unset, .unset, .unset] [(.int (((p1.toUInt32 >>> ((2 : Int32) &&& 31).toUInt32).toInt32) &&& (3 : Int32))), (.int (2 : Int32))])) rfl (by rw [hml]; rfl) (argsL := [(.int (2 : Int32)), (.int (((p1.toUInt32 >>> ((2 : Int32) &&& 31).toUInt32).toInt32) &&& (3 : Int32)))]) (rest := []) (lenOf pd_8 rfl) rfl (by show 2 * 0 + _ ≤ _; exact Nat.le_of_eq rfl) (hb hby at_60) (fun _ _ => ⟨rfl, e4, (by decide : 0 + 0 ≤ _), (by decide : 0 + 0 ≤ _)⟩)
  dsimp only [Pt.U, Pt.locs, Pt.cells, Pt.slots] at X5 l5 y5 z5 st5 hQ5
  try dsimp only [Nat.reduceAdd] at y5 z5
  subst y5 z5
  obtain ⟨rfl, N5q, e5⟩ := hQ5
  have N5 : Fr n0 L5 := by rw [l5]; exact Fr.app N4 N5q
  refine .pre (fun _ kq => st5 _ kq) ?_
  show OwnEnds p e below _ (T5.setTop (mkF m 63 #[.val (.int p0), .val (.int p1), .val (.int p2), .val (.int p3), .val (.int y4), .val (.int y5), .val (.int y6), .val (.int y7), .val (.int (f1_0 (2 : Int32) (p1 &&& (3 : Int32)))), .unset, .unset, .unset, .unset, .unset, .unset, .unset, .unset, .unset] [(.int (f1_0 (2 : Int32) (((p1.toUInt32 >>> ((2 : Int32) &&& 31).toUInt32).toInt32) &&& (3 : Int32))))]))
  refine .pre (fun _ kq => XS.istore X5.here hx rfl (hb hby at_63) rfl (l' := #[.val (.int p0), .val (.int p1), .val (.int p2), .val (.int p3), .val (.int y4), .val (.int y5), .val (.int y6), .val (.int y7), .val (.int (f1_0 (2 : Int32) (p1 &&& (3 : Int32)))), .val (.int (f1_0 (2 : Int32) (((p1.toUInt32 >>> ((2 : Int32) &&& 31).toUInt32).toInt32) &&& (3 : Int32)))), .unset, .unset, .unset, .unset, .unset, .unset, .unset, .unset]) rfl kq) ?_
  show OwnEnds p e below _ (T5.setTop (mkF m 65 #[.val (.int p0), .val (.int p1), .val (.int p2), .val (.int p3), .val (.int y4), .val (.int y5), .val (.int y6), .val (.int y7), .val (.int (f1_0 (2 : Int32) (p1 &&& (3 : Int32)))), .val (.int (f1_0 (2 : Int32) (((p1.toUInt32 >>> ((2 : Int32) &&& 31).toUInt32).toInt32) &&& (3 : Int32)))), .unset, .unset, .unset, .unset, .unset, .unset, .unset, .unset] []))
  refine .pre (fun _ kq => XS.iconst X5.here hx rfl (hb hby at_65) kq) ?_
  show OwnEnds p e below _ (T5.setTop (mkF m 66 #[.val (.int p0), .val (.int p1), .val (.int p2), .val (.int p3), .val (.int y4), .val (.int y5), .val (.int y6), .val (.int y7), .val (.int (f1_0 (2 : Int32) (p1 &&& (3 : Int32)))), .val (.int (f1_0 (2 : Int32) (((p1.toUInt32 >>> ((2 : Int32) &&& 31).toUInt32).toInt32) &&& (3 : Int32)))), .unset, .unset, .unset, .unset, .unset, .unset, .unset, .unset] [(.int (2 : Int32))]))
  refine .pre (fun _ kq => XS.iloadN X5.here hx rfl (hb hby at_66) rfl kq) ?_
  show OwnEnds p e below _ (T5.setTop (mkF m 67 #[.val (.int p0), .val (.int p1), .val (.int p2), .val (.int p3), .val (.int y4), .val (.int y5), .val (.int y6), .val (.int y7), .val (.int (f1_0 (2 : Int32) (p1 &&& (3 : Int32)))), .val (.int (f1_0 (2 : Int32) (((p1.toUInt32 >>> ((2 : Int32) &&& 31).toUInt32).toInt32) &&& (3 : Int32)))), .unset, .unset, .unset, .unset, .unset, .unset, .unset, .unset] [(.int p1), (.int (2 : Int32))]))
  refine .pre (fun _ kq => XS.iconst X5.here hx rfl (hb hby at_67) kq) ?_
  show OwnEnds p e below _ (T5.setTop (mkF m 68 #[.val (.int p0), .val (.int p1), .val (.int p2), .val (.int p3), .val (.int y4), .val (.int y5), .val (.int y6), .val (.int y7), .val (.int (f1_0 (2 : Int32) (p1 &&& (3 : Int32)))), .val (.int (f1_0 (2 : Int32) (((p1.toUInt32 >>> ((2 : Int32) &&& 31).toUInt32).toInt32) &&& (3 : Int32)))), .unset, .unset, .unset, .unset, .unset, .unset, .unset, .unset] [(.int (4 : Int32)), (.int p1), (.int (2 : Int32))]))
  refine .pre (fun _ kq => XS.iushr X5.here hx rfl (hb hby at_68) rfl kq) ?_
  show OwnEnds p e below _ (T5.setTop (mkF m 69 #[.val (.int p0), .val (.int p1), .val (.int p2), .val (.int p3), .val (.int y4), .val (.int y5), .val (.int y6), .val (.int y7), .val (.int (f1_0 (2 : Int32) (p1 &&& (3 : Int32)))), .val (.int (f1_0 (2 : Int32) (((p1.toUInt32 >>> ((2 : Int32) &&& 31).toUInt32).toInt32) &&& (3 : Int32)))), .unset, .unset, .unset, .unset, .unset, .unset, .unset, .unset] [(.int ((p1.toUInt32 >>> ((4 : Int32) &&& 31).toUInt32).toInt32)), (.int (2 : Int32))]))
  refine .pre (fun _ kq => XS.iconst X5.here hx rfl (hb hby at_69) kq) ?_
  show OwnEnds p e below _ (T5.setTop (mkF m 70 #[.val (.int p0), .val (.int p1), .val (.int p2), .val (.int p3), .val (.int y4), .val (.int y5), .val (.int y6), .val (.int y7), .val (.int (f1_0 (2 : Int32) (p1 &&& (3 : Int32)))), .val (.int (f1_0 (2 : Int32) (((p1.toUInt32 >>> ((2 : Int32) &&& 31).toUInt32).toInt32) &&& (3 : Int32)))), .unset, .unset, .unset, .unset, .unset, .unset, .unset, .unset] [(.int (3 : Int32)), (.int ((p1.toUInt32 >>> ((4 : Int32) &&& 31).toUInt32).toInt32)), (.int (2 : Int32))]))
  refine .pre (fun _ kq => XS.iand X5.here hx rfl (hb hby at_70) rfl kq) ?_
  show OwnEnds p e below _ (T5.setTop (mkF m 71 #[.val (.int p0), .val (.int p1), .val (.int p2), .val (.int p3), .val (.int y4), .val (.int y5), .val (.int y6), .val (.int y7), .val (.int (f1_0 (2 : Int32) (p1 &&& (3 : Int32)))), .val (.int (f1_0 (2 : Int32) (((p1.toUInt32 >>> ((2 : Int32) &&& 31).toUInt32).toInt32) &&& (3 : Int32)))), .unset, .unset, .unset, .unset, .unset, .unset, .unset, .unset] [(.int (((p1.toUInt32 >>> ((4 : Int32) &&& 31).toUInt32).toInt32) &&& (3 : Int32))), (.int (2 : Int32))]))
  obtain ⟨_, _, ⟨T6, L6, k6, n6⟩, -, X6, ⟨Lc6, hQ6, l6, y6, z6⟩, st6⟩ := Jvm.LawKit.callS X5 hx (y := (⟨"java/lang/Math", "min", "(II)I"⟩ : MethodName)) hown (mvT hZ (hw _ (List.mem_of_getElem? (i := 0) rfl))) (mvT hZ (hw _ (List.mem_of_getElem? (i := 1) rfl))) (mvT hZ (hw _ (List.mem_of_getElem? (i := 2) rfl))) (mvT hZ (hw _ (List.mem_of_getElem? (i := 3) rfl))) (by decide) (backOf (W := 0) (rm1 l Z aZ hw [] (2 : Int32) (((p1.toUInt32 >>> ((4 : Int32) &&& 31).toUInt32).toInt32) &&& (3 : Int32)) h0 n0 Z0) hZ (hw _ (List.mem_of_getElem? (i := 3) rfl)) (hw _ (List.mem_of_getElem? (i := 2) rfl)) (by decide) (by decide)) (g := (mkF m 71 #[.val (.int p0), .val (.int p1), .val (.int p2), .val (.int p3), .val (.int y4), .val (.int y5), .val (.int y6), .val (.int y7), .val (.int (f1_0 (2 : Int32) (p1 &&& (3 : Int32)))), .val (.int (f1_0 (2 : Int32) (((p1.toUInt32 >>> ((2 : Int32) &&& 31).toUInt32).toInt32) &&& (3 : Int32)))), .unset, .unset, .unset, .unset, .unset, .unset, .unset, .unset] [(.int (((p1.toUInt32 >>> ((4 : Int32) &&& 31).toUInt32).toInt32) &&& (3 : Int32))), (.int (2 : Int32))])) rfl (by rw [hml]; rfl) (argsL := [(.int (2 : Int32)), (.int (((p1.toUInt32 >>> ((4 : Int32) &&& 31).toUInt32).toInt32) &&& (3 : Int32)))]) (rest := []) (lenOf pd_8 rfl) rfl (by show 2 * 0 + _ ≤ _; exact Nat.le_of_eq rfl) (hb hby at_71) (fun _ _ => ⟨rfl, e5, (by decide : 0 + 0 ≤ _), (by decide : 0 + 0 ≤ _)⟩)
  dsimp only [Pt.U, Pt.locs, Pt.cells, Pt.slots] at X6 l6 y6 z6 st6 hQ6
  try dsimp only [Nat.reduceAdd] at y6 z6
  subst y6 z6
  obtain ⟨rfl, N6q, e6⟩ := hQ6
  have N6 : Fr n0 L6 := by rw [l6]; exact Fr.app N5 N6q
  refine .pre (fun _ kq => st6 _ kq) ?_
  show OwnEnds p e below _ (T6.setTop (mkF m 74 #[.val (.int p0), .val (.int p1), .val (.int p2), .val (.int p3), .val (.int y4), .val (.int y5), .val (.int y6), .val (.int y7), .val (.int (f1_0 (2 : Int32) (p1 &&& (3 : Int32)))), .val (.int (f1_0 (2 : Int32) (((p1.toUInt32 >>> ((2 : Int32) &&& 31).toUInt32).toInt32) &&& (3 : Int32)))), .unset, .unset, .unset, .unset, .unset, .unset, .unset, .unset] [(.int (f1_0 (2 : Int32) (((p1.toUInt32 >>> ((4 : Int32) &&& 31).toUInt32).toInt32) &&& (3 : Int32))))]))
  refine .pre (fun _ kq => XS.istore X6.here hx rfl (hb hby at_74) rfl (l' := #[.val (.int p0), .val (.int p1), .val (.int p2), .val (.int p3), .val (.int y4), .val (.int y5), .val (.int y6), .val (.int y7), .val (.int (f1_0 (2 : Int32) (p1 &&& (3 : Int32)))), .val (.int (f1_0 (2 : Int32) (((p1.toUInt32 >>> ((2 : Int32) &&& 31).toUInt32).toInt32) &&& (3 : Int32)))), .val (.int (f1_0 (2 : Int32) (((p1.toUInt32 >>> ((4 : Int32) &&& 31).toUInt32).toInt32) &&& (3 : Int32)))), .unset, .unset, .unset, .unset, .unset, .unset, .unset]) rfl kq) ?_
  show OwnEnds p e below _ (T6.setTop (mkF m 76 #[.val (.int p0), .val (.int p1), .val (.int p2), .val (.int p3), .val (.int y4), .val (.int y5), .val (.int y6), .val (.int y7), .val (.int (f1_0 (2 : Int32) (p1 &&& (3 : Int32)))), .val (.int (f1_0 (2 : Int32) (((p1.toUInt32 >>> ((2 : Int32) &&& 31).toUInt32).toInt32) &&& (3 : Int32)))), .val (.int (f1_0 (2 : Int32) (((p1.toUInt32 >>> ((4 : Int32) &&& 31).toUInt32).toInt32) &&& (3 : Int32)))), .unset, .unset, .unset, .unset, .unset, .unset, .unset] []))
  refine .pre (fun _ kq => XS.iconst X6.here hx rfl (hb hby at_76) kq) ?_
  show OwnEnds p e below _ (T6.setTop (mkF m 77 #[.val (.int p0), .val (.int p1), .val (.int p2), .val (.int p3), .val (.int y4), .val (.int y5), .val (.int y6), .val (.int y7), .val (.int (f1_0 (2 : Int32) (p1 &&& (3 : Int32)))), .val (.int (f1_0 (2 : Int32) (((p1.toUInt32 >>> ((2 : Int32) &&& 31).toUInt32).toInt32) &&& (3 : Int32)))), .val (.int (f1_0 (2 : Int32) (((p1.toUInt32 >>> ((4 : Int32) &&& 31).toUInt32).toInt32) &&& (3 : Int32)))), .unset, .unset, .unset, .unset, .unset, .unset, .unset] [(.int (2 : Int32))]))
  refine .pre (fun _ kq => XS.iloadN X6.here hx rfl (hb hby at_77) rfl kq) ?_
  show OwnEnds p e below _ (T6.setTop (mkF m 78 #[.val (.int p0), .val (.int p1), .val (.int p2), .val (.int p3), .val (.int y4), .val (.int y5), .val (.int y6), .val (.int y7), .val (.int (f1_0 (2 : Int32) (p1 &&& (3 : Int32)))), .val (.int (f1_0 (2 : Int32) (((p1.toUInt32 >>> ((2 : Int32) &&& 31).toUInt32).toInt32) &&& (3 : Int32)))), .val (.int (f1_0 (2 : Int32) (((p1.toUInt32 >>> ((4 : Int32) &&& 31).toUInt32).toInt32) &&& (3 : Int32)))), .unset, .unset, .unset, .unset, .unset, .unset, .unset] [(.int p2), (.int (2 : Int32))]))
  refine .pre (fun _ kq => XS.iconst X6.here hx rfl (hb hby at_78) kq) ?_
  show OwnEnds p e below _ (T6.setTop (mkF m 79 #[.val (.int p0), .val (.int p1), .val (.int p2), .val (.int p3), .val (.int y4), .val (.int y5), .val (.int y6), .val (.int y7), .val (.int (f1_0 (2 : Int32) (p1 &&& (3 : Int32)))), .val (.int (f1_0 (2 : Int32) (((p1.toUInt32 >>> ((2 : Int32) &&& 31).toUInt32).toInt32) &&& (3 : Int32)))), .val (.int (f1_0 (2 : Int32) (((p1.toUInt32 >>> ((4 : Int32) &&& 31).toUInt32).toInt32) &&& (3 : Int32)))), .unset, .unset, .unset, .unset, .unset, .unset, .unset] [(.int (3 : Int32)), (.int p2), (.int (2 : Int32))]))
  refine .pre (fun _ kq => XS.iand X6.here hx rfl (hb hby at_79) rfl kq) ?_
  show OwnEnds p e below _ (T6.setTop (mkF m 80 #[.val (.int p0), .val (.int p1), .val (.int p2), .val (.int p3), .val (.int y4), .val (.int y5), .val (.int y6), .val (.int y7), .val (.int (f1_0 (2 : Int32) (p1 &&& (3 : Int32)))), .val (.int (f1_0 (2 : Int32) (((p1.toUInt32 >>> ((2 : Int32) &&& 31).toUInt32).toInt32) &&& (3 : Int32)))), .val (.int (f1_0 (2 : Int32) (((p1.toUInt32 >>> ((4 : Int32) &&& 31).toUInt32).toInt32) &&& (3 : Int32)))), .unset, .unset, .unset, .unset, .unset, .unset, .unset] [(.int (p2 &&& (3 : Int32))), (.int (2 : Int32))]))
  obtain ⟨_, _, ⟨T7, L7, k7, n7⟩, -, X7, ⟨Lc7, hQ7, l7, y7, z7⟩, st7⟩ := Jvm.LawKit.callS X6 hx (y := (⟨"java/lang/Math", "min", "(II)I"⟩ : MethodName)) hown (mvT hZ (hw _ (List.mem_of_getElem? (i := 0) rfl))) (mvT hZ (hw _ (List.mem_of_getElem? (i := 1) rfl))) (mvT hZ (hw _ (List.mem_of_getElem? (i := 2) rfl))) (mvT hZ (hw _ (List.mem_of_getElem? (i := 3) rfl))) (by decide) (backOf (W := 0) (rm1 l Z aZ hw [] (2 : Int32) (p2 &&& (3 : Int32)) h0 n0 Z0) hZ (hw _ (List.mem_of_getElem? (i := 3) rfl)) (hw _ (List.mem_of_getElem? (i := 2) rfl)) (by decide) (by decide)) (g := (mkF m 80 #[.val (.int p0), .val (.int p1), .val (.int p2), .val (.int p3), .val (.int y4), .val (.int y5), .val (.int y6), .val (.int y7), .val (.int (f1_0 (2 : Int32) (p1 &&& (3 : Int32)))), .val (.int (f1_0 (2 : Int32) (((p1.toUInt32 >>> ((2 : Int32) &&& 31).toUInt32).toInt32) &&& (3 : Int32)))), .val (.int (f1_0 (2 : Int32) (((p1.toUInt32 >>> ((4 : Int32) &&& 31).toUInt32).toInt32) &&& (3 : Int32)))), .unset, .unset, .unset, .unset, .unset, .unset, .unset] [(.int (p2 &&& (3 : Int32))), (.int (2 : Int32))])) rfl (by rw [hml]; rfl) (argsL := [(.int (2 : Int32)), (.int (p2 &&& (3 : Int32)))]) (rest := []) (lenOf pd_8 rfl) rfl (by show 2 * 0 + _ ≤ _; exact Nat.le_of_eq rfl) (hb hby at_80) (fun _ _ => ⟨rfl, e6, (by decide : 0 + 0 ≤ _), (by decide : 0 + 0 ≤ _)⟩)
  dsimp only [Pt.U, Pt.locs, Pt.cells, Pt.slots] at X7 l7 y7 z7 st7 hQ7
  try dsimp only [Nat.reduceAdd] at y7 z7
  subst y7 z7
  obtain ⟨rfl, N7q, e7⟩ := hQ7
  have N7 : Fr n0 L7 := by rw [l7]; exact Fr.app N6 N7q
  refine .pre (fun _ kq => st7 _ kq) ?_
  show OwnEnds p e below _ (T7.setTop (mkF m 83 #[.val (.int p0), .val (.int p1), .val (.int p2), .val (.int p3), .val (.int y4), .val (.int y5), .val (.int y6), .val (.int y7), .val (.int (f1_0 (2 : Int32) (p1 &&& (3 : Int32)))), .val (.int (f1_0 (2 : Int32) (((p1.toUInt32 >>> ((2 : Int32) &&& 31).toUInt32).toInt32) &&& (3 : Int32)))), .val (.int (f1_0 (2 : Int32) (((p1.toUInt32 >>> ((4 : Int32) &&& 31).toUInt32).toInt32) &&& (3 : Int32)))), .unset, .unset, .unset, .unset, .unset, .unset, .unset] [(.int (f1_0 (2 : Int32) (p2 &&& (3 : Int32))))]))
  refine .pre (fun _ kq => XS.istore X7.here hx rfl (hb hby at_83) rfl (l' := #[.val (.int p0), .val (.int p1), .val (.int p2), .val (.int p3), .val (.int y4), .val (.int y5), .val (.int y6), .val (.int y7), .val (.int (f1_0 (2 : Int32) (p1 &&& (3 : Int32)))), .val (.int (f1_0 (2 : Int32) (((p1.toUInt32 >>> ((2 : Int32) &&& 31).toUInt32).toInt32) &&& (3 : Int32)))), .val (.int (f1_0 (2 : Int32) (((p1.toUInt32 >>> ((4 : Int32) &&& 31).toUInt32).toInt32) &&& (3 : Int32)))), .val (.int (f1_0 (2 : Int32) (p2 &&& (3 : Int32)))), .unset, .unset, .unset, .unset, .unset, .unset]) rfl kq) ?_
  show OwnEnds p e below _ (T7.setTop (mkF m 85 #[.val (.int p0), .val (.int p1), .val (.int p2), .val (.int p3), .val (.int y4), .val (.int y5), .val (.int y6), .val (.int y7), .val (.int (f1_0 (2 : Int32) (p1 &&& (3 : Int32)))), .val (.int (f1_0 (2 : Int32) (((p1.toUInt32 >>> ((2 : Int32) &&& 31).toUInt32).toInt32) &&& (3 : Int32)))), .val (.int (f1_0 (2 : Int32) (((p1.toUInt32 >>> ((4 : Int32) &&& 31).toUInt32).toInt32) &&& (3 : Int32)))), .val (.int (f1_0 (2 : Int32) (p2 &&& (3 : Int32)))), .unset, .unset, .unset, .unset, .unset, .unset] []))
  obtain ⟨y8, hy8⟩ : ∃ z, z = (f1_0 (2 : Int32) (p1 &&& (3 : Int32))) := ⟨_, rfl⟩
  rw [← hy8]
  show OwnEnds p e below _ (T7.setTop (mkF m 85 #[.val (.int p0), .val (.int p1), .val (.int p2), .val (.int p3), .val (.int y4), .val (.int y5), .val (.int y6), .val (.int y7), .val (.int y8), .val (.int (f1_0 (2 : Int32) (((p1.toUInt32 >>> ((2 : Int32) &&& 31).toUInt32).toInt32) &&& (3 : Int32)))), .val (.int (f1_0 (2 : Int32) (((p1.toUInt32 >>> ((4 : Int32) &&& 31).toUInt32).toInt32) &&& (3 : Int32)))), .val (.int (f1_0 (2 : Int32) (p2 &&& (3 : Int32)))), .unset, .unset, .unset, .unset, .unset, .unset] []))
  obtain ⟨y9, hy9⟩ : ∃ z, z = (f1_0 (2 : Int32) (((p1.toUInt32 >>> ((2 : Int32) &&& 31).toUInt32).toInt32) &&& (3 : Int32))) := ⟨_, rfl⟩
  rw [← hy9]
  show OwnEnds p e below _ (T7.setTop (mkF m 85 #[.val (.int p0), .val (.int p1), .val (.int p2), .val (.int p3), .val (.int y4), .val (.int y5), .val (.int y6), .val (.int y7), .val (.int y8), .val (.int y9), .val (.int (f1_0 (2 : Int32) (((p1.toUInt32 >>> ((4 : Int32) &&& 31).toUInt32).toInt32) &&& (3 : Int32)))), .val (.int (f1_0 (2 : Int32) (p2 &&& (3 : Int32)))), .unset, .unset, .unset, .unset, .unset, .unset] []))
  obtain ⟨y10, hy10⟩ : ∃ z, z = (f1_0 (2 : Int32) (((p1.toUInt32 >>> ((4 : Int32) &&& 31).toUInt32).toInt32) &&& (3 : Int32))) := ⟨_, rfl⟩
  rw [← hy10]
  show OwnEnds p e below _ (T7.setTop (mkF m 85 #[.val (.int p0), .val (.int p1), .val (.int p2), .val (.int p3), .val (.int y4), .val (.int y5), .val (.int y6), .val (.int y7), .val (.int y8), .val (.int y9), .val (.int y10), .val (.int (f1_0 (2 : Int32) (p2 &&& (3 : Int32)))), .unset, .unset, .unset, .unset, .unset, .unset] []))
  obtain ⟨y11, hy11⟩ : ∃ z, z = (f1_0 (2 : Int32) (p2 &&& (3 : Int32))) := ⟨_, rfl⟩
  rw [← hy11]
  have b4 : 0 ≤ y4.toInt ∧ y4.toInt ≤ 3 := by rw [hy4]; exact own_m3 _
  have b5 : 0 ≤ y5.toInt ∧ y5.toInt ≤ 2 := by rw [hy5]; exact own_c2 _
  have b6 : y5.toInt ≤ y6.toInt ∧ y6.toInt ≤ 2 := by rw [hy6]; exact own_c3 b5 _
  have b7 : y6.toInt ≤ y7.toInt ∧ y7.toInt ≤ 2 := by rw [hy7]; exact own_c3 ⟨by omega, b6.2⟩ _
  have by8 : 0 ≤ y8.toInt ∧ y8.toInt ≤ 2 := by rw [hy8]; exact own_c2 _
  have by9 : 0 ≤ y9.toInt ∧ y9.toInt ≤ 2 := by rw [hy9]; exact own_c2 _
  have by10 : 0 ≤ y10.toInt ∧ y10.toInt ≤ 2 := by rw [hy10]; exact own_c2 _
  have by11 : 0 ≤ y11.toInt ∧ y11.toInt ≤ 2 := by rw [hy11]; exact own_c2 _
  have bn := by11
  have i0 : -1 ≤ own_g0.1.toInt ∧ own_g0.1.toInt ≤ y5.toInt ∧ 0 ≤ own_g0.2.1.toInt ∧ own_g0.2.1.toInt ≤ 0 := ⟨by decide, by have : own_g0.1.toInt = -1 := rfl; omega, by decide, by decide⟩
  have i1 := own_inv (t := y8) (f' := y6) i0 (by omega) (by omega) (by decide)
  have i2 := own_inv (t := y9) (f' := y7) i1 (by omega) (by omega) (by decide)
  show OwnEnds p e below _ (T7.setTop (mkF m 85 #[.val (.int p0), .val (.int p1), .val (.int p2), .val (.int p3), .val (.int y4), .val (.int y5), .val (.int y6), .val (.int y7), .val (.int y8), .val (.int y9), .val (.int y10), .val (.int y11), .unset, .unset, .unset, .unset, .unset, .unset] []))
  obtain ⟨T8, h8, X8, e8, E8, A8, D8, U8, st8⟩ := newO X7 hx hZ hown (hw _ (List.mem_of_getElem? (i := 4) rfl)) (hw _ (List.mem_of_getElem? (i := 5) rfl)) (hw _ (List.mem_of_getElem? (i := 6) rfl)) e7 (g := (mkF m 85 #[.val (.int p0), .val (.int p1), .val (.int p2), .val (.int p3), .val (.int y4), .val (.int y5), .val (.int y6), .val (.int y7), .val (.int y8), .val (.int y9), .val (.int y10), .val (.int y11), .unset, .unset, .unset, .unset, .unset, .unset] [])) rfl (hb hby at_85) (by decide) (by decide)
  obtain ⟨b8, g8⟩ : ∃ z, z = h0.size := ⟨_, rfl⟩
  rw [← g8] at A8 D8 U8 st8
  have g_b8 : n0 ≤ b8 := Nat.le_trans Z0 (Nat.le_of_eq g8.symm)
  have F8_found : Fld Z h8 b8 "com/example/changeset/changeset/check/StateGraph" "found" "Ljava/util/Map;" .null := D8 (Or.inr (hw _ (List.mem_of_getElem? (i := 51) rfl))) (ty := (.object "java/util/Map")) (by decide)
  have F8_states : Fld Z h8 b8 "com/example/changeset/changeset/check/StateGraph" "states" "Ljava/util/List;" .null := D8 (Or.inr (hw _ (List.mem_of_getElem? (i := 55) rfl))) (ty := (.object "java/util/List")) (by decide)
  have F8_predecessors : Fld Z h8 b8 "com/example/changeset/changeset/check/StateGraph" "predecessors" "[I" .null := D8 (Or.inl (hw _ (List.mem_of_getElem? (i := 58) rfl))) (ty := (.array .int)) (by decide)
  have F8_reachedBy : Fld Z h8 b8 "com/example/changeset/changeset/check/StateGraph" "reachedBy" "[I" .null := D8 (Or.inl (hw _ (List.mem_of_getElem? (i := 60) rfl))) (ty := (.array .int)) (by decide)
  have F8_lastWithEdges : Fld Z h8 b8 "com/example/changeset/changeset/check/StateGraph" "lastWithEdges" "I" (.int (0 : Int32)) := D8 (Or.inl (hw _ (List.mem_of_getElem? (i := 62) rfl))) (ty := .int) (by decide)
  have F8_actions : Fld Z h8 b8 "com/example/changeset/changeset/check/StateGraph" "actions" "Ljava/util/List;" .null := D8 (Or.inr (hw _ (List.mem_of_getElem? (i := 64) rfl))) (ty := (.object "java/util/List")) (by decide)
  have F8_keepsEdges : Fld Z h8 b8 "com/example/changeset/changeset/check/StateGraph" "keepsEdges" "Z" (.int (0 : Int32)) := D8 (Or.inr (hw _ (List.mem_of_getElem? (i := 66) rfl))) (ty := .boolean) (by decide)
  have F8_firstEdges : Fld Z h8 b8 "com/example/changeset/changeset/check/StateGraph" "firstEdges" "[I" .null := D8 (Or.inl (hw _ (List.mem_of_getElem? (i := 68) rfl))) (ty := (.array .int)) (by decide)
  have F8_lastEdgeFrom : Fld Z h8 b8 "com/example/changeset/changeset/check/StateGraph" "lastEdgeFrom" "[I" .null := D8 (Or.inl (hw _ (List.mem_of_getElem? (i := 70) rfl))) (ty := (.array .int)) (by decide)
  have F8_edgeTargets : Fld Z h8 b8 "com/example/changeset/changeset/check/StateGraph" "edgeTargets" "[I" .null := D8 (Or.inl (hw _ (List.mem_of_getElem? (i := 72) rfl))) (ty := (.array .int)) (by decide)
  have F8_edgeActions : Fld Z h8 b8 "com/example/changeset/changeset/check/StateGraph" "edgeActions" "[I" .null := D8 (Or.inl (hw _ (List.mem_of_getElem? (i := 74) rfl))) (ty := (.array .int)) (by decide)
  have F8_initialStates : Fld Z h8 b8 "com/example/changeset/changeset/check/StateGraph" "initialStates" "I" (.int (0 : Int32)) := D8 (Or.inl (hw _ (List.mem_of_getElem? (i := 145) rfl))) (ty := .int) (by decide)
  have F8_edges : Fld Z h8 b8 "com/example/changeset/changeset/check/StateGraph" "edges" "I" (.int (0 : Int32)) := D8 (Or.inl (hw _ (List.mem_of_getElem? (i := 161) rfl))) (ty := .int) (by decide)
  refine .pre (fun _ kq => st8 _ kq) ?_
  show OwnEnds p e below _ (T8.setTop (mkF m 88 #[.val (.int p0), .val (.int p1), .val (.int p2), .val (.int p3), .val (.int y4), .val (.int y5), .val (.int y6), .val (.int y7), .val (.int y8), .val (.int y9), .val (.int y10), .val (.int y11), .unset, .unset, .unset, .unset, .unset, .unset] [(.ref b8)]))
  refine .pre (fun _ kq => XS.dup X8.here hx rfl (hb hby at_88) rfl rfl kq) ?_
  show OwnEnds p e below _ (T8.setTop (mkF m 89 #[.val (.int p0), .val (.int p1), .val (.int p2), .val (.int p3), .val (.int y4), .val (.int y5), .val (.int y6), .val (.int y7), .val (.int y8), .val (.int y9), .val (.int y10), .val (.int y11), .unset, .unset, .unset, .unset, .unset, .unset] [(.ref b8), (.ref b8)]))
  obtain ⟨T9, h9, X9, e9, E9, A9, D9, U9, st9⟩ := newO X8 hx hZ hown (hw _ (List.mem_of_getElem? (i := 7) rfl)) (hw _ (List.mem_of_getElem? (i := 8) rfl)) (hw _ (List.mem_of_getElem? (i := 9) rfl)) e8 (g := (mkF m 89 #[.val (.int p0), .val (.int p1), .val (.int p2), .val (.int p3), .val (.int y4), .val (.int y5), .val (.int y6), .val (.int y7), .val (.int y8), .val (.int y9), .val (.int y10), .val (.int y11), .unset, .unset, .unset, .unset, .unset, .unset] [(.ref b8), (.ref b8)])) rfl (hb hby at_89) (by decide) (by decide)
  obtain ⟨b9, g9⟩ : ∃ z, z = h8.size := ⟨_, rfl⟩
  rw [← g9] at A9 D9 U9 st9
  have g_b9 : n0 ≤ b9 := Nat.le_trans (Nat.le_trans Z0 E8.1) (Nat.le_of_eq g9.symm)
  have F9_modCount : Fld Z h9 b9 "java/util/AbstractList" "modCount" "I" (.int (0 : Int32)) := D9 (Or.inl (hw _ (List.mem_of_getElem? (i := 29) rfl))) (ty := .int) (by decide)
  have F9_elementData : Fld Z h9 b9 "java/util/ArrayList" "elementData" "[Ljava/lang/Object;" .null := D9 (Or.inl (hw _ (List.mem_of_getElem? (i := 32) rfl))) (ty := (.array (.object "java/lang/Object"))) (by decide)
  have F9_size : Fld Z h9 b9 "java/util/ArrayList" "size" "I" (.int (0 : Int32)) := D9 (Or.inl (hw _ (List.mem_of_getElem? (i := 108) rfl))) (ty := .int) (by decide)
  refine .pre (fun _ kq => st9 _ kq) ?_
  show OwnEnds p e below _ (T9.setTop (mkF m 92 #[.val (.int p0), .val (.int p1), .val (.int p2), .val (.int p3), .val (.int y4), .val (.int y5), .val (.int y6), .val (.int y7), .val (.int y8), .val (.int y9), .val (.int y10), .val (.int y11), .unset, .unset, .unset, .unset, .unset, .unset] [(.ref b9), (.ref b8), (.ref b8)]))
  refine .pre (fun _ kq => XS.dup X9.here hx rfl (hb hby at_92) rfl rfl kq) ?_
  show OwnEnds p e below _ (T9.setTop (mkF m 93 #[.val (.int p0), .val (.int p1), .val (.int p2), .val (.int p3), .val (.int y4), .val (.int y5), .val (.int y6), .val (.int y7), .val (.int y8), .val (.int y9), .val (.int y10), .val (.int y11), .unset, .unset, .unset, .unset, .unset, .unset] [(.ref b9), (.ref b9), (.ref b8), (.ref b8)]))
  obtain ⟨_, _, ⟨T10, L10, k10, n10⟩, -, X10, ⟨Lc10, hQ10, l10, y10, z10⟩, st10⟩ := X9.specialBack hx (y := (⟨"java/util/ArrayList", "<init>", "()V"⟩ : MethodName)) rfl hown (mvT hZ (hw _ (List.mem_of_getElem? (i := 10) rfl))) (mvT hZ (hw _ (List.mem_of_getElem? (i := 11) rfl))) (mvT hZ (hw _ (List.mem_of_getElem? (i := 12) rfl))) (by decide) (backOf (W := 3) (rm2 l Z aZ hw [] b9 xD (.int (0 : Int32)) .null (.int (0 : Int32)) h9 n0 (Nat.le_trans (Nat.le_trans Z0 E8.1) E9.1) (Sta.ext E9 (Sta.ext E8 SD)) g_b9 A9 F9_modCount F9_elementData F9_size) hZ (hw _ (List.mem_of_getElem? (i := 12) rfl)) (hw _ (List.mem_of_getElem? (i := 9) rfl)) (by decide) (by decide)) (g := (mkF m 93 #[.val (.int p0), .val (.int p1), .val (.int p2), .val (.int p3), .val (.int y4), .val (.int y5), .val (.int y6), .val (.int y7), .val (.int y8), .val (.int y9), .val (.int y10), .val (.int y11), .unset, .unset, .unset, .unset, .unset, .unset] [(.ref b9), (.ref b9), (.ref b8), (.ref b8)])) rfl (by rw [hml]; rfl) (Steps.refl _) (a := b9) (argsL := []) (rest := [(.ref b9), (.ref b8), (.ref b8)]) (lenOf pd_2 rfl) rfl (by show 2 * 0 + _ ≤ _; exact Nat.le_of_eq rfl) (hb hby at_93) (fun _ _ => ⟨rfl, e9, (by decide : 2 + 0 ≤ _), (by decide : 16 + 0 ≤ _)⟩)
  dsimp only [Pt.U, Pt.locs, Pt.cells, Pt.slots] at X10 l10 y10 z10 st10 hQ10
  try dsimp only [Nat.reduceAdd] at y10 z10
  subst y10 z10
  obtain ⟨rfl, N10q, K10, Ea10, Fa10_0, Fa10_1, Fa10_2⟩ := hQ10
  have N10 : Fr n0 L10 := by rw [l10]; exact Fr.app N7 N10q
  refine .pre (fun _ kq => st10.trans kq) ?_
  show OwnEnds p e below _ (T10.setTop (mkF m 96 #[.val (.int p0), .val (.int p1), .val (.int p2), .val (.int p3), .val (.int y4), .val (.int y5), .val (.int y6), .val (.int y7), .val (.int y8), .val (.int y9), .val (.int y10), .val (.int y11), .unset, .unset, .unset, .unset, .unset, .unset] [(.ref b9), (.ref b8), (.ref b8)]))
  refine .pre (fun _ kq => XS.iconst X10.here hx rfl (hb hby at_96) kq) ?_
  show OwnEnds p e below _ (T10.setTop (mkF m 97 #[.val (.int p0), .val (.int p1), .val (.int p2), .val (.int p3), .val (.int y4), .val (.int y5), .val (.int y6), .val (.int y7), .val (.int y8), .val (.int y9), .val (.int y10), .val (.int y11), .unset, .unset, .unset, .unset, .unset, .unset] [(.int (1 : Int32)), (.ref b9), (.ref b8), (.ref b8)]))
  obtain ⟨_, _, ⟨T11, L11, k11, n11⟩, -, X11, ⟨Lc11, hQ11, l11, y11, z11⟩, st11⟩ := X10.specialBack hx (y := (⟨"com/example/changeset/changeset/check/StateGraph", "<init>", "(Ljava/util/List;Z)V"⟩ : MethodName)) rfl hown (mvT hZ (hw _ (List.mem_of_getElem? (i := 33) rfl))) (mvT hZ (hw _ (List.mem_of_getElem? (i := 34) rfl))) (mvT hZ (hw _ (List.mem_of_getElem? (i := 35) rfl))) (by decide) (backOf (W := 1) (rm6 l Z aZ hw [] b8 b9 xD T10.heap n0 (Nat.le_trans (Nat.le_trans (Nat.le_trans Z0 E8.1) E9.1) K10.1) (own_staK1 (Sta.ext E9 (Sta.ext E8 SD)) K10 A9) (((RX.ext E8).ext E9).keep K10 (own_nin1 (Nat.ne_of_lt (Nat.lt_of_lt_of_le (RX.ext E8).lt (Nat.le_of_eq g9.symm))))) g_b8 ((A8.ext E9).keep K10) ((F8_found.ext E9).keep K10 (own_nin1 (Nat.ne_of_lt (Nat.lt_of_lt_of_le A8.lt (Nat.le_of_eq g9.symm))))) ((F8_states.ext E9).keep K10 (own_nin1 (Nat.ne_of_lt (Nat.lt_of_lt_of_le A8.lt (Nat.le_of_eq g9.symm))))) ((F8_predecessors.ext E9).keep K10 (own_nin1 (Nat.ne_of_lt (Nat.lt_of_lt_of_le A8.lt (Nat.le_of_eq g9.symm))))) ((F8_reachedBy.ext E9).keep K10 (own_nin1 (Nat.ne_of_lt (Nat.lt_of_lt_of_le A8.lt (Nat.le_of_eq g9.symm))))) ((F8_lastWithEdges.ext E9).keep K10 (own_nin1 (Nat.ne_of_lt (Nat.lt_of_lt_of_le A8.lt (Nat.le_of_eq g9.symm))))) ((F8_actions.ext E9).keep K10 (own_nin1 (Nat.ne_of_lt (Nat.lt_of_lt_of_le A8.lt (Nat.le_of_eq g9.symm))))) ((F8_keepsEdges.ext E9).keep K10 (own_nin1 (Nat.ne_of_lt (Nat.lt_of_lt_of_le A8.lt (Nat.le_of_eq g9.symm))))) ((F8_firstEdges.ext E9).keep K10 (own_nin1 (Nat.ne_of_lt (Nat.lt_of_lt_of_le A8.lt (Nat.le_of_eq g9.symm))))) ((F8_lastEdgeFrom.ext E9).keep K10 (own_nin1 (Nat.ne_of_lt (Nat.lt_of_lt_of_le A8.lt (Nat.le_of_eq g9.symm))))) ((F8_edgeTargets.ext E9).keep K10 (own_nin1 (Nat.ne_of_lt (Nat.lt_of_lt_of_le A8.lt (Nat.le_of_eq g9.symm))))) ((F8_edgeActions.ext E9).keep K10 (own_nin1 (Nat.ne_of_lt (Nat.lt_of_lt_of_le A8.lt (Nat.le_of_eq g9.symm))))) ((F8_initialStates.ext E9).keep K10 (own_nin1 (Nat.ne_of_lt (Nat.lt_of_lt_of_le A8.lt (Nat.le_of_eq g9.symm))))) ((F8_edges.ext E9).keep K10 (own_nin1 (Nat.ne_of_lt (Nat.lt_of_lt_of_le A8.lt (Nat.le_of_eq g9.symm))))) (Ne.symm (Nat.ne_of_lt (Nat.lt_of_lt_of_le xlt g_b8)))) hZ (hw _ (List.mem_of_getElem? (i := 35) rfl)) (hw _ (List.mem_of_getElem? (i := 6) rfl)) (by decide) (by decide)) (g := (mkF m 97 #[.val (.int p0), .val (.int p1), .val (.int p2), .val (.int p3), .val (.int y4), .val (.int y5), .val (.int y6), .val (.int y7), .val (.int y8), .val (.int y9), .val (.int y10), .val (.int y11), .unset, .unset, .unset, .unset, .unset, .unset] [(.int (1 : Int32)), (.ref b9), (.ref b8), (.ref b8)])) rfl (by rw [hml]; rfl) (Steps.refl _) (a := b8) (argsL := [(.ref b9), (.int (1 : Int32))]) (rest := [(.ref b8)]) (lenOf pd_18 rfl) rfl (by show 2 * 0 + _ ≤ _; exact Nat.le_of_eq rfl) (hb hby at_97) (fun _ _ => ⟨rfl, rfl, (by decide : 2 + 8 ≤ _), (by decide : 16 + 6159 ≤ _)⟩)
  dsimp only [Pt.U, Pt.locs, Pt.cells, Pt.slots] at X11 l11 y11 z11 st11 hQ11
  try dsimp only [Nat.reduceAdd] at y11 z11
  subst y11 z11
  obtain ⟨rfl, N11q, K11, aL11, aP11, aR11, aF11, aE11, aT11, aA11, HG11, HL11, D11, GN11⟩ := hQ11
  have N11 : Fr n0 L11 := by rw [l11]; exact Fr.app N10 N11q
  refine .pre (fun _ kq => st11.trans kq) ?_
  obtain ⟨EG11, G11_0, G11_1, G11_2, G11_3, G11_4, G11_5, G11_6, G11_7, G11_8, G11_9, G11_10, ⟨fP11, AP11⟩, ⟨fR11, AR11⟩, AF11, AE11, ⟨fT11, AT11⟩, ⟨fA11, AA11⟩⟩ := id HG11
  obtain ⟨EL11, ⟨mc11, Ly11_1⟩, Ly11_2, Ly11_3, Ly11_4⟩ := id HL11
  have g_aL11 : n0 ≤ aL11 := GN11 _ (List.mem_of_getElem? (i := 0) rfl)
  have g_aP11 : n0 ≤ aP11 := GN11 _ (List.mem_of_getElem? (i := 1) rfl)
  have g_aR11 : n0 ≤ aR11 := GN11 _ (List.mem_of_getElem? (i := 2) rfl)
  have g_aF11 : n0 ≤ aF11 := GN11 _ (List.mem_of_getElem? (i := 3) rfl)
  have g_aE11 : n0 ≤ aE11 := GN11 _ (List.mem_of_getElem? (i := 4) rfl)
  have g_aT11 : n0 ≤ aT11 := GN11 _ (List.mem_of_getElem? (i := 5) rfl)
  have g_aA11 : n0 ≤ aA11 := GN11 _ (List.mem_of_getElem? (i := 6) rfl)
  show OwnEnds p e below _ (T11.setTop (mkF m 100 #[.val (.int p0), .val (.int p1), .val (.int p2), .val (.int p3), .val (.int y4), .val (.int y5), .val (.int y6), .val (.int y7), .val (.int y8), .val (.int y9), .val (.int y10), .val (.int y11), .unset, .unset, .unset, .unset, .unset, .unset] [(.ref b8)]))
  refine .pre (fun _ kq => XS.astore X11.here hx rfl (hb hby at_100) rfl rfl (l' := #[.val (.int p0), .val (.int p1), .val (.int p2), .val (.int p3), .val (.int y4), .val (.int y5), .val (.int y6), .val (.int y7), .val (.int y8), .val (.int y9), .val (.int y10), .val (.int y11), .val (.ref b8), .unset, .unset, .unset, .unset, .unset]) rfl kq) ?_
  show OwnEnds p e below _ (T11.setTop (mkF m 102 #[.val (.int p0), .val (.int p1), .val (.int p2), .val (.int p3), .val (.int y4), .val (.int y5), .val (.int y6), .val (.int y7), .val (.int y8), .val (.int y9), .val (.int y10), .val (.int y11), .val (.ref b8), .unset, .unset, .unset, .unset, .unset] []))
  refine .pre (fun _ kq => XS.iconst X11.here hx rfl (hb hby at_102) kq) ?_
  show OwnEnds p e below _ (T11.setTop (mkF m 103 #[.val (.int p0), .val (.int p1), .val (.int p2), .val (.int p3), .val (.int y4), .val (.int y5), .val (.int y6), .val (.int y7), .val (.int y8), .val (.int y9), .val (.int y10), .val (.int y11), .val (.ref b8), .unset, .unset, .unset, .unset, .unset] [(.int (3 : Int32))]))
  obtain ⟨T12, h12, kk12, X12, e12, E12, A12, O12, st12⟩ := newR X11 hx hZ hown (hw _ (List.mem_of_getElem? (i := 75) rfl)) (hw _ (List.mem_of_getElem? (i := 76) rfl)) rfl (g := (mkF m 103 #[.val (.int p0), .val (.int p1), .val (.int p2), .val (.int p3), .val (.int y4), .val (.int y5), .val (.int y6), .val (.int y7), .val (.int y8), .val (.int y9), .val (.int y10), .val (.int y11), .val (.ref b8), .unset, .unset, .unset, .unset, .unset] [(.int (3 : Int32))])) rfl (hb hby at_103) rfl (by decide) (cap := 3) (by decide) (by decide) (by decide) (by decide)
  obtain ⟨b12, g12⟩ : ∃ z, z = T11.heap.size := ⟨_, rfl⟩
  rw [← g12] at A12 st12
  have V_b12 : OwnR Z h12 b12 "com/example/changeset/changeset/check/FoundState" (3 : Int32) := OwnR.new A12 O12 (by decide)
  have g_b12 : n0 ≤ b12 := Nat.le_trans (Nat.le_trans (Nat.le_trans (Nat.le_trans (Nat.le_trans Z0 E8.1) E9.1) K10.1) K11.1) (Nat.le_of_eq g12.symm)
  have VV_b12 : Arv Z h12 b12 kk12 (.object "com/example/changeset/changeset/check/FoundState") (3 : Int32) [.null, .null, .null] .null := (Arv.new A12 (by decide)).pad (pad_rep [] .null 3)
  refine .pre (fun _ kq => st12 _ kq) ?_
  show OwnEnds p e below _ (T12.setTop (mkF m 106 #[.val (.int p0), .val (.int p1), .val (.int p2), .val (.int p3), .val (.int y4), .val (.int y5), .val (.int y6), .val (.int y7), .val (.int y8), .val (.int y9), .val (.int y10), .val (.int y11), .val (.ref b8), .unset, .unset, .unset, .unset, .unset] [(.ref b12)]))
  refine .pre (fun _ kq => XS.astore X12.here hx rfl (hb hby at_106) rfl rfl (l' := #[.val (.int p0), .val (.int p1), .val (.int p2), .val (.int p3), .val (.int y4), .val (.int y5), .val (.int y6), .val (.int y7), .val (.int y8), .val (.int y9), .val (.int y10), .val (.int y11), .val (.ref b8), .val (.ref b12), .unset, .unset, .unset, .unset]) rfl kq) ?_
  show OwnEnds p e below _ (T12.setTop (mkF m 108 #[.val (.int p0), .val (.int p1), .val (.int p2), .val (.int p3), .val (.int y4), .val (.int y5), .val (.int y6), .val (.int y7), .val (.int y8), .val (.int y9), .val (.int y10), .val (.int y11), .val (.ref b8), .val (.ref b12), .unset, .unset, .unset, .unset] []))
  refine .pre (fun _ kq => XS.aload X12.here hx rfl (hb hby at_108) rfl rfl kq) ?_
  show OwnEnds p e below _ (T12.setTop (mkF m 110 #[.val (.int p0), .val (.int p1), .val (.int p2), .val (.int p3), .val (.int y4), .val (.int y5), .val (.int y6), .val (.int y7), .val (.int y8), .val (.int y9), .val (.int y10), .val (.int y11), .val (.ref b8), .val (.ref b12), .unset, .unset, .unset, .unset] [(.ref b12)]))
  refine .pre (fun _ kq => XS.iconst X12.here hx rfl (hb hby at_110) kq) ?_
  show OwnEnds p e below _ (T12.setTop (mkF m 111 #[.val (.int p0), .val (.int p1), .val (.int p2), .val (.int p3), .val (.int y4), .val (.int y5), .val (.int y6), .val (.int y7), .val (.int y8), .val (.int y9), .val (.int y10), .val (.int y11), .val (.ref b8), .val (.ref b12), .unset, .unset, .unset, .unset] [(.int (0 : Int32)), (.ref b12)]))
  obtain ⟨T13, h13, X13, e13, E13, A13, D13, U13, st13⟩ := newO X12 hx hZ hown (hw _ (List.mem_of_getElem? (i := 75) rfl)) (hw _ (List.mem_of_getElem? (i := 77) rfl)) (hw _ (List.mem_of_getElem? (i := 78) rfl)) e12 (g := (mkF m 111 #[.val (.int p0), .val (.int p1), .val (.int p2), .val (.int p3), .val (.int y4), .val (.int y5), .val (.int y6), .val (.int y7), .val (.int y8), .val (.int y9), .val (.int y10), .val (.int y11), .val (.ref b8), .val (.ref b12), .unset, .unset, .unset, .unset] [(.int (0 : Int32)), (.ref b12)])) rfl (hb hby at_111) (by decide) (by decide)
  obtain ⟨b13, g13⟩ : ∃ z, z = h12.size := ⟨_, rfl⟩
  rw [← g13] at A13 D13 U13 st13
  have g_b13 : n0 ≤ b13 := Nat.le_trans (Nat.le_trans (Nat.le_trans (Nat.le_trans (Nat.le_trans (Nat.le_trans Z0 E8.1) E9.1) K10.1) K11.1) E12.1) (Nat.le_of_eq g13.symm)
  have F13_number : Fld Z h13 b13 "com/example/changeset/changeset/check/FoundState" "number" "I" (.int (0 : Int32)) := D13 (Or.inl (hw _ (List.mem_of_getElem? (i := 84) rfl))) (ty := .int) (by decide)
  have F13_state : Fld Z h13 b13 "com/example/changeset/changeset/check/FoundState" "state" "Lcom/example/changeset/changeset/check/State;" .null := D13 (Or.inr (hw _ (List.mem_of_getElem? (i := 86) rfl))) (ty := (.object "com/example/changeset/changeset/check/State")) (by decide)
  refine .pre (fun _ kq => st13 _ kq) ?_
  show OwnEnds p e below _ (T13.setTop (mkF m 114 #[.val (.int p0), .val (.int p1), .val (.int p2), .val (.int p3), .val (.int y4), .val (.int y5), .val (.int y6), .val (.int y7), .val (.int y8), .val (.int y9), .val (.int y10), .val (.int y11), .val (.ref b8), .val (.ref b12), .unset, .unset, .unset, .unset] [(.ref b13), (.int (0 : Int32)), (.ref b12)]))
  refine .pre (fun _ kq => XS.dup X13.here hx rfl (hb hby at_114) rfl rfl kq) ?_
  show OwnEnds p e below _ (T13.setTop (mkF m 115 #[.val (.int p0), .val (.int p1), .val (.int p2), .val (.int p3), .val (.int y4), .val (.int y5), .val (.int y6), .val (.int y7), .val (.int y8), .val (.int y9), .val (.int y10), .val (.int y11), .val (.ref b8), .val (.ref b12), .unset, .unset, .unset, .unset] [(.ref b13), (.ref b13), (.int (0 : Int32)), (.ref b12)]))
  refine .pre (fun _ kq => XS.aconstNull X13.here hx rfl (hb hby at_115) kq) ?_
  show OwnEnds p e below _ (T13.setTop (mkF m 116 #[.val (.int p0), .val (.int p1), .val (.int p2), .val (.int p3), .val (.int y4), .val (.int y5), .val (.int y6), .val (.int y7), .val (.int y8), .val (.int y9), .val (.int y10), .val (.int y11), .val (.ref b8), .val (.ref b12), .unset, .unset, .unset, .unset] [.null, (.ref b13), (.ref b13), (.int (0 : Int32)), (.ref b12)]))
  have rq1_0 := (Sta.ext E13 (Sta.ext E12 (own_staK1 (own_staK1 (Sta.ext E9 (Sta.ext E8 SD)) K10 A9) K11 ((A8.ext E9).keep K10))))
  have rq1_17 := (((Ea10.keep K11).ext E12).ext E13)
  have rq1_19 := (((Fa10_0.keep K11 (own_nin1 (Ne.symm (Nat.ne_of_lt (Nat.lt_of_lt_of_le A8.lt (Nat.le_of_eq g9.symm)))))).ext E12).ext E13)
  have rq1_20 := (((Fa10_1.keep K11 (own_nin1 (Ne.symm (Nat.ne_of_lt (Nat.lt_of_lt_of_le A8.lt (Nat.le_of_eq g9.symm)))))).ext E12).ext E13)
  have rq1_21 := (((Fa10_2.keep K11 (own_nin1 (Ne.symm (Nat.ne_of_lt (Nat.lt_of_lt_of_le A8.lt (Nat.le_of_eq g9.symm)))))).ext E12).ext E13)
  obtain ⟨_, _, ⟨T14, L14, k14, n14⟩, -, X14, ⟨Lc14, hQ14, l14, y14, z14⟩, st14⟩ := X13.specialBack hx (y := (⟨"com/example/changeset/changeset/check/FoundState", "<init>", "(Lcom/example/changeset/changeset/check/State;)V"⟩ : MethodName)) rfl hown (mvT hZ (hw _ (List.mem_of_getElem? (i := 79) rfl))) (mvT hZ (hw _ (List.mem_of_getElem? (i := 80) rfl))) (mvT hZ (hw _ (List.mem_of_getElem? (i := 81) rfl))) (by decide) (backOf (W := 3) (rm9 l Z aZ hw [] b13 (.int (0 : Int32)) .null h13 n0 (Nat.le_trans (Nat.le_trans (Nat.le_trans (Nat.le_trans (Nat.le_trans (Nat.le_trans Z0 E8.1) E9.1) K10.1) K11.1) E12.1) E13.1) g_b13 A13 F13_number F13_state) hZ (hw _ (List.mem_of_getElem? (i := 81) rfl)) (hw _ (List.mem_of_getElem? (i := 78) rfl)) (by decide) (by decide)) (g := (mkF m 116 #[.val (.int p0), .val (.int p1), .val (.int p2), .val (.int p3), .val (.int y4), .val (.int y5), .val (.int y6), .val (.int y7), .val (.int y8), .val (.int y9), .val (.int y10), .val (.int y11), .val (.ref b8), .val (.ref b12), .unset, .unset, .unset, .unset] [.null, (.ref b13), (.ref b13), (.int (0 : Int32)), (.ref b12)])) rfl (by rw [hml]; rfl) (Steps.refl _) (a := b13) (argsL := [.null]) (rest := [(.ref b13), (.int (0 : Int32)), (.ref b12)]) (lenOf pd_19 rfl) rfl (by show 2 * 0 + _ ≤ _; exact Nat.le_of_eq rfl) (hb hby at_116) (fun _ _ => ⟨rfl, e13, (by decide : 12 + 0 ≤ _), (by decide : 6181 + 0 ≤ _)⟩)
  dsimp only [Pt.U, Pt.locs, Pt.cells, Pt.slots] at X14 l14 y14 z14 st14 hQ14
  try dsimp only [Nat.reduceAdd] at y14 z14
  subst y14 z14
  obtain ⟨rfl, N14q, K14, Ea14, Fa14_0, Fa14_1⟩ := hQ14
  have N14 : Fr n0 L14 := by rw [l14]; exact Fr.app N11 N14q
  refine .pre (fun _ kq => st14.trans kq) ?_
  show OwnEnds p e below _ (T14.setTop (mkF m 119 #[.val (.int p0), .val (.int p1), .val (.int p2), .val (.int p3), .val (.int y4), .val (.int y5), .val (.int y6), .val (.int y7), .val (.int y8), .val (.int y9), .val (.int y10), .val (.int y11), .val (.ref b8), .val (.ref b12), .unset, .unset, .unset, .unset] [(.ref b13), (.int (0 : Int32)), (.ref b12)]))
  obtain ⟨cl15, Ar15, qa15, qs15, qn15, qh15, qg15⟩ := id ((VV_b12.ext E13).keep K14 (own_nin1 (Nat.ne_of_lt (Nat.lt_of_lt_of_le VV_b12.lt (Nat.le_of_eq g13.symm)))))
  obtain ⟨T15, h15, X15, e15, W15, st15⟩ := stR X14 hx hZ rfl Ar15 (j := (0 : Int32)) (v := (.ref b13)) (inb_of qs15 ⟨by decide, by decide⟩) rfl (Sto.of Ar15 (by rw [qa15]; exact O12) (Ins.self Ea14)) (g := (mkF m 119 #[.val (.int p0), .val (.int p1), .val (.int p2), .val (.int p3), .val (.int y4), .val (.int y5), .val (.int y6), .val (.int y7), .val (.int y8), .val (.int y9), .val (.int y10), .val (.int y11), .val (.ref b8), .val (.ref b12), .unset, .unset, .unset, .unset] [(.ref b13), (.int (0 : Int32)), (.ref b12)])) rfl rfl (hb hby at_119)
  have V15 : Arv Z h15 b12 kk12 (.object "com/example/changeset/changeset/check/FoundState") (3 : Int32) [(.ref b13), .null, .null] .null := Arv.set Ar15 qa15 qs15 qn15 qh15 qg15 rfl W15 0 rfl (Nat.le_of_ble_eq_true rfl)
  have N15 := Fr.snoc X15 N14 g_b12
  refine .pre (fun _ kq => st15 _ kq) ?_
  show OwnEnds p e below _ (T15.setTop (mkF m 120 #[.val (.int p0), .val (.int p1), .val (.int p2), .val (.int p3), .val (.int y4), .val (.int y5), .val (.int y6), .val (.int y7), .val (.int y8), .val (.int y9), .val (.int y10), .val (.int y11), .val (.ref b8), .val (.ref b12), .unset, .unset, .unset, .unset] []))
  refine .pre (fun _ kq => XS.aload X15.here hx rfl (hb hby at_120) rfl rfl kq) ?_
  show OwnEnds p e below _ (T15.setTop (mkF m 122 #[.val (.int p0), .val (.int p1), .val (.int p2), .val (.int p3), .val (.int y4), .val (.int y5), .val (.int y6), .val (.int y7), .val (.int y8), .val (.int y9), .val (.int y10), .val (.int y11), .val (.ref b8), .val (.ref b12), .unset, .unset, .unset, .unset] [(.ref b12)]))
  refine .pre (fun _ kq => XS.iconst X15.here hx rfl (hb hby at_122) kq) ?_
  show OwnEnds p e below _ (T15.setTop (mkF m 123 #[.val (.int p0), .val (.int p1), .val (.int p2), .val (.int p3), .val (.int y4), .val (.int y5), .val (.int y6), .val (.int y7), .val (.int y8), .val (.int y9), .val (.int y10), .val (.int y11), .val (.ref b8), .val (.ref b12), .unset, .unset, .unset, .unset] [(.int (1 : Int32)), (.ref b12)]))
  obtain ⟨T16, h16, X16, e16, E16, A16, D16, U16, st16⟩ := newO X15 hx hZ hown (hw _ (List.mem_of_getElem? (i := 75) rfl)) (hw _ (List.mem_of_getElem? (i := 77) rfl)) (hw _ (List.mem_of_getElem? (i := 78) rfl)) e15 (g := (mkF m 123 #[.val (.int p0), .val (.int p1), .val (.int p2), .val (.int p3), .val (.int y4), .val (.int y5), .val (.int y6), .val (.int y7), .val (.int y8), .val (.int y9), .val (.int y10), .val (.int y11), .val (.ref b8), .val (.ref b12), .unset, .unset, .unset, .unset] [(.int (1 : Int32)), (.ref b12)])) rfl (hb hby at_123) (by decide) (by decide)
  obtain ⟨b16, g16⟩ : ∃ z, z = h15.size := ⟨_, rfl⟩
  rw [← g16] at A16 D16 U16 st16
  have g_b16 : n0 ≤ b16 := Nat.le_trans (Nat.le_trans (Nat.le_trans (Nat.le_trans (Nat.le_trans (Nat.le_trans (Nat.le_trans (Nat.le_trans (Nat.le_trans Z0 E8.1) E9.1) K10.1) K11.1) E12.1) E13.1) K14.1) (Keep.of_wr W15).1) (Nat.le_of_eq g16.symm)
  have F16_number : Fld Z h16 b16 "com/example/changeset/changeset/check/FoundState" "number" "I" (.int (0 : Int32)) := D16 (Or.inl (hw _ (List.mem_of_getElem? (i := 84) rfl))) (ty := .int) (by decide)
  have F16_state : Fld Z h16 b16 "com/example/changeset/changeset/check/FoundState" "state" "Lcom/example/changeset/changeset/check/State;" .null := D16 (Or.inr (hw _ (List.mem_of_getElem? (i := 86) rfl))) (ty := (.object "com/example/changeset/changeset/check/State")) (by decide)
  refine .pre (fun _ kq => st16 _ kq) ?_
  show OwnEnds p e below _ (T16.setTop (mkF m 126 #[.val (.int p0), .val (.int p1), .val (.int p2), .val (.int p3), .val (.int y4), .val (.int y5), .val (.int y6), .val (.int y7), .val (.int y8), .val (.int y9), .val (.int y10), .val (.int y11), .val (.ref b8), .val (.ref b12), .unset, .unset, .unset, .unset] [(.ref b16), (.int (1 : Int32)), (.ref b12)]))
  refine .pre (fun _ kq => XS.dup X16.here hx rfl (hb hby at_126) rfl rfl kq) ?_
  show OwnEnds p e below _ (T16.setTop (mkF m 127 #[.val (.int p0), .val (.int p1), .val (.int p2), .val (.int p3), .val (.int y4), .val (.int y5), .val (.int y6), .val (.int y7), .val (.int y8), .val (.int y9), .val (.int y10), .val (.int y11), .val (.ref b8), .val (.ref b12), .unset, .unset, .unset, .unset] [(.ref b16), (.ref b16), (.int (1 : Int32)), (.ref b12)]))
  refine .pre (fun _ kq => XS.aconstNull X16.here hx rfl (hb hby at_127) kq) ?_
  show OwnEnds p e below _ (T16.setTop (mkF m 128 #[.val (.int p0), .val (.int p1), .val (.int p2), .val (.int p3), .val (.int y4), .val (.int y5), .val (.int y6), .val (.int y7), .val (.int y8), .val (.int y9), .val (.int y10), .val (.int y11), .val (.ref b8), .val (.ref b12), .unset, .unset, .unset, .unset] [.null, (.ref b16), (.ref b16), (.int (1 : Int32)), (.ref b12)]))
  have rq2_0 := (Sta.ext E16 (Sta.wr W15 (own_staK1 rq1_0 K14 A13)))
  have rq2_1 := (((((Ly11_4.ext E12).ext E13).keep K14 (own_nin1 (Nat.ne_of_lt (Nat.lt_of_lt_of_le xlt g_b13)))).other W15 (Nat.ne_of_lt (Nat.lt_of_lt_of_le xlt g_b12))).ext E16)
  have rq2_2 := (((((EG11.ext E12).ext E13).keep K14).wr W15).ext E16)
  have rq2_4 := (((((G11_0.ext E12).ext E13).keep K14 (own_nin1 (Nat.ne_of_lt (Nat.lt_of_lt_of_le (EG11.ext E12).lt (Nat.le_of_eq g13.symm))))).other W15 (Or.inl (Nat.ne_of_lt (Nat.lt_of_lt_of_le EG11.lt (Nat.le_of_eq g12.symm))))).ext E16)
  have rq2_5 := (((((G11_1.ext E12).ext E13).keep K14 (own_nin1 (Nat.ne_of_lt (Nat.lt_of_lt_of_le (EG11.ext E12).lt (Nat.le_of_eq g13.symm))))).other W15 (Or.inl (Nat.ne_of_lt (Nat.lt_of_lt_of_le EG11.lt (Nat.le_of_eq g12.symm))))).ext E16)
  have rq2_6 := (((((G11_2.ext E12).ext E13).keep K14 (own_nin1 (Nat.ne_of_lt (Nat.lt_of_lt_of_le (EG11.ext E12).lt (Nat.le_of_eq g13.symm))))).other W15 (Or.inl (Nat.ne_of_lt (Nat.lt_of_lt_of_le EG11.lt (Nat.le_of_eq g12.symm))))).ext E16)
  have rq2_7 := (((((G11_3.ext E12).ext E13).keep K14 (own_nin1 (Nat.ne_of_lt (Nat.lt_of_lt_of_le (EG11.ext E12).lt (Nat.le_of_eq g13.symm))))).other W15 (Or.inl (Nat.ne_of_lt (Nat.lt_of_lt_of_le EG11.lt (Nat.le_of_eq g12.symm))))).ext E16)
  have rq2_8 := (((((G11_4.ext E12).ext E13).keep K14 (own_nin1 (Nat.ne_of_lt (Nat.lt_of_lt_of_le (EG11.ext E12).lt (Nat.le_of_eq g13.symm))))).other W15 (Or.inl (Nat.ne_of_lt (Nat.lt_of_lt_of_le EG11.lt (Nat.le_of_eq g12.symm))))).ext E16)
  have rq2_9 := (((((G11_5.ext E12).ext E13).keep K14 (own_nin1 (Nat.ne_of_lt (Nat.lt_of_lt_of_le (EG11.ext E12).lt (Nat.le_of_eq g13.symm))))).other W15 (Or.inl (Nat.ne_of_lt (Nat.lt_of_lt_of_le EG11.lt (Nat.le_of_eq g12.symm))))).ext E16)
  have rq2_10 := (((((G11_6.ext E12).ext E13).keep K14 (own_nin1 (Nat.ne_of_lt (Nat.lt_of_lt_of_le (EG11.ext E12).lt (Nat.le_of_eq g13.symm))))).other W15 (Or.inl (Nat.ne_of_lt (Nat.lt_of_lt_of_le EG11.lt (Nat.le_of_eq g12.symm))))).ext E16)
  have rq2_11 := (((((G11_7.ext E12).ext E13).keep K14 (own_nin1 (Nat.ne_of_lt (Nat.lt_of_lt_of_le (EG11.ext E12).lt (Nat.le_of_eq g13.symm))))).other W15 (Or.inl (Nat.ne_of_lt (Nat.lt_of_lt_of_le EG11.lt (Nat.le_of_eq g12.symm))))).ext E16)
  have rq2_12 := (((((G11_8.ext E12).ext E13).keep K14 (own_nin1 (Nat.ne_of_lt (Nat.lt_of_lt_of_le (EG11.ext E12).lt (Nat.le_of_eq g13.symm))))).other W15 (Or.inl (Nat.ne_of_lt (Nat.lt_of_lt_of_le EG11.lt (Nat.le_of_eq g12.symm))))).ext E16)
  have rq2_13 := (((((G11_9.ext E12).ext E13).keep K14 (own_nin1 (Nat.ne_of_lt (Nat.lt_of_lt_of_le (EG11.ext E12).lt (Nat.le_of_eq g13.symm))))).other W15 (Or.inl (Nat.ne_of_lt (Nat.lt_of_lt_of_le EG11.lt (Nat.le_of_eq g12.symm))))).ext E16)
  have rq2_14 := (((((G11_10.ext E12).ext E13).keep K14 (own_nin1 (Nat.ne_of_lt (Nat.lt_of_lt_of_le (EG11.ext E12).lt (Nat.le_of_eq g13.symm))))).other W15 (Or.inl (Nat.ne_of_lt (Nat.lt_of_lt_of_le EG11.lt (Nat.le_of_eq g12.symm))))).ext E16)
  have rq2_15 := (((rq1_17.keep K14).wr W15).ext E16)
  have rq2_17 := (((rq1_19.keep K14 (own_nin1 (Nat.ne_of_lt (Nat.lt_of_lt_of_le ((Ea10.keep K11).ext E12).lt (Nat.le_of_eq g13.symm))))).other W15 (Or.inl (Nat.ne_of_lt (Nat.lt_of_lt_of_le (Ea10.keep K11).lt (Nat.le_of_eq g12.symm))))).ext E16)
  have rq2_18 := (((rq1_20.keep K14 (own_nin1 (Nat.ne_of_lt (Nat.lt_of_lt_of_le ((Ea10.keep K11).ext E12).lt (Nat.le_of_eq g13.symm))))).other W15 (Or.inl (Nat.ne_of_lt (Nat.lt_of_lt_of_le (Ea10.keep K11).lt (Nat.le_of_eq g12.symm))))).ext E16)
  have rq2_19 := (((rq1_21.keep K14 (own_nin1 (Nat.ne_of_lt (Nat.lt_of_lt_of_le ((Ea10.keep K11).ext E12).lt (Nat.le_of_eq g13.symm))))).other W15 (Or.inl (Nat.ne_of_lt (Nat.lt_of_lt_of_le (Ea10.keep K11).lt (Nat.le_of_eq g12.symm))))).ext E16)
  have rq2_20 := (((((AP11.ext E12).ext E13).keep K14 (own_nin1 (Nat.ne_of_lt (Nat.lt_of_lt_of_le (AP11.ext E12).lt (Nat.le_of_eq g13.symm))))).other W15 (Nat.ne_of_lt (Nat.lt_of_lt_of_le AP11.lt (Nat.le_of_eq g12.symm)))).ext E16)
  have rq2_21 := (((((AR11.ext E12).ext E13).keep K14 (own_nin1 (Nat.ne_of_lt (Nat.lt_of_lt_of_le (AR11.ext E12).lt (Nat.le_of_eq g13.symm))))).other W15 (Nat.ne_of_lt (Nat.lt_of_lt_of_le AR11.lt (Nat.le_of_eq g12.symm)))).ext E16)
  have rq2_22 := (((((AF11.ext E12).ext E13).keep K14 (own_nin1 (Nat.ne_of_lt (Nat.lt_of_lt_of_le (AF11.ext E12).lt (Nat.le_of_eq g13.symm))))).other W15 (Nat.ne_of_lt (Nat.lt_of_lt_of_le AF11.lt (Nat.le_of_eq g12.symm)))).ext E16)
  have rq2_23 := (((((AE11.ext E12).ext E13).keep K14 (own_nin1 (Nat.ne_of_lt (Nat.lt_of_lt_of_le (AE11.ext E12).lt (Nat.le_of_eq g13.symm))))).other W15 (Nat.ne_of_lt (Nat.lt_of_lt_of_le AE11.lt (Nat.le_of_eq g12.symm)))).ext E16)
  have rq2_24 := (((((AT11.ext E12).ext E13).keep K14 (own_nin1 (Nat.ne_of_lt (Nat.lt_of_lt_of_le (AT11.ext E12).lt (Nat.le_of_eq g13.symm))))).other W15 (Nat.ne_of_lt (Nat.lt_of_lt_of_le AT11.lt (Nat.le_of_eq g12.symm)))).ext E16)
  have rq2_25 := (((((AA11.ext E12).ext E13).keep K14 (own_nin1 (Nat.ne_of_lt (Nat.lt_of_lt_of_le (AA11.ext E12).lt (Nat.le_of_eq g13.symm))))).other W15 (Nat.ne_of_lt (Nat.lt_of_lt_of_le AA11.lt (Nat.le_of_eq g12.symm)))).ext E16)
  have rq2_26 := (((((EL11.ext E12).ext E13).keep K14).wr W15).ext E16)
  have rq2_27 := (((((Ly11_1.ext E12).ext E13).keep K14 (own_nin1 (Nat.ne_of_lt (Nat.lt_of_lt_of_le (EL11.ext E12).lt (Nat.le_of_eq g13.symm))))).other W15 (Or.inl (Nat.ne_of_lt (Nat.lt_of_lt_of_le EL11.lt (Nat.le_of_eq g12.symm))))).ext E16)
  have rq2_28 := (((((Ly11_2.ext E12).ext E13).keep K14 (own_nin1 (Nat.ne_of_lt (Nat.lt_of_lt_of_le (EL11.ext E12).lt (Nat.le_of_eq g13.symm))))).other W15 (Or.inl (Nat.ne_of_lt (Nat.lt_of_lt_of_le EL11.lt (Nat.le_of_eq g12.symm))))).ext E16)
  have rq2_29 := (((((Ly11_3.ext E12).ext E13).keep K14 (own_nin1 (Nat.ne_of_lt (Nat.lt_of_lt_of_le (EL11.ext E12).lt (Nat.le_of_eq g13.symm))))).other W15 (Or.inl (Nat.ne_of_lt (Nat.lt_of_lt_of_le EL11.lt (Nat.le_of_eq g12.symm))))).ext E16)
  have rq2_33 := ((Fa14_0.other W15 (Or.inl (Ne.symm (Nat.ne_of_lt (Nat.lt_of_lt_of_le VV_b12.lt (Nat.le_of_eq g13.symm)))))).ext E16)
  have rq2_34 := ((Fa14_1.other W15 (Or.inl (Ne.symm (Nat.ne_of_lt (Nat.lt_of_lt_of_le VV_b12.lt (Nat.le_of_eq g13.symm)))))).ext E16)
  obtain ⟨_, _, ⟨T17, L17, k17, n17⟩, -, X17, ⟨Lc17, hQ17, l17, y17, z17⟩, st17⟩ := X16.specialBack hx (y := (⟨"com/example/changeset/changeset/check/FoundState", "<init>", "(Lcom/example/changeset/changeset/check/State;)V"⟩ : MethodName)) rfl hown (mvT hZ (hw _ (List.mem_of_getElem? (i := 79) rfl))) (mvT hZ (hw _ (List.mem_of_getElem? (i := 80) rfl))) (mvT hZ (hw _ (List.mem_of_getElem? (i := 81) rfl))) (by decide) (backOf (W := 3) (rm9 l Z aZ hw [] b16 (.int (0 : Int32)) .null h16 n0 (Nat.le_trans (Nat.le_trans (Nat.le_trans (Nat.le_trans (Nat.le_trans (Nat.le_trans (Nat.le_trans (Nat.le_trans (Nat.le_trans Z0 E8.1) E9.1) K10.1) K11.1) E12.1) E13.1) K14.1) (Keep.of_wr W15).1) E16.1) g_b16 A16 F16_number F16_state) hZ (hw _ (List.mem_of_getElem? (i := 81) rfl)) (hw _ (List.mem_of_getElem? (i := 78) rfl)) (by decide) (by decide)) (g := (mkF m 128 #[.val (.int p0), .val (.int p1), .val (.int p2), .val (.int p3), .val (.int y4), .val (.int y5), .val (.int y6), .val (.int y7), .val (.int y8), .val (.int y9), .val (.int y10), .val (.int y11), .val (.ref b8), .val (.ref b12), .unset, .unset, .unset, .unset] [.null, (.ref b16), (.ref b16), (.int (1 : Int32)), (.ref b12)])) rfl (by rw [hml]; rfl) (Steps.refl _) (a := b16) (argsL := [.null]) (rest := [(.ref b16), (.int (1 : Int32)), (.ref b12)]) (lenOf pd_19 rfl) rfl (by show 2 * 0 + _ ≤ _; exact Nat.le_of_eq rfl) (hb hby at_128) (fun _ _ => ⟨rfl, e16, (by decide : 13 + 0 ≤ _), (by decide : 6184 + 0 ≤ _)⟩)
  dsimp only [Pt.U, Pt.locs, Pt.cells, Pt.slots] at X17 l17 y17 z17 st17 hQ17
  try dsimp only [Nat.reduceAdd] at y17 z17
  subst y17 z17
  obtain ⟨rfl, N17q, K17, Ea17, Fa17_0, Fa17_1⟩ := hQ17
  have N17 : Fr n0 L17 := by rw [l17]; exact Fr.app N15 N17q
  refine .pre (fun _ kq => st17.trans kq) ?_
  show OwnEnds p e below _ (T17.setTop (mkF m 131 #[.val (.int p0), .val (.int p1), .val (.int p2), .val (.int p3), .val (.int y4), .val (.int y5), .val (.int y6), .val (.int y7), .val (.int y8), .val (.int y9), .val (.int y10), .val (.int y11), .val (.ref b8), .val (.ref b12), .unset, .unset, .unset, .unset] [(.ref b16), (.int (1 : Int32)), (.ref b12)]))
  obtain ⟨cl18, Ar18, qa18, qs18, qn18, qh18, qg18⟩ := id ((V15.ext E16).keep K17 (own_nin1 (Nat.ne_of_lt (Nat.lt_of_lt_of_le V15.lt (Nat.le_of_eq g16.symm)))))
  obtain ⟨T18, h18, X18, e18, W18, st18⟩ := stR X17 hx hZ rfl Ar18 (j := (1 : Int32)) (v := (.ref b16)) (inb_of qs18 ⟨by decide, by decide⟩) rfl (Sto.of Ar18 (by rw [qa18]; exact O12) (Ins.self Ea17)) (g := (mkF m 131 #[.val (.int p0), .val (.int p1), .val (.int p2), .val (.int p3), .val (.int y4), .val (.int y5), .val (.int y6), .val (.int y7), .val (.int y8), .val (.int y9), .val (.int y10), .val (.int y11), .val (.ref b8), .val (.ref b12), .unset, .unset, .unset, .unset] [(.ref b16), (.int (1 : Int32)), (.ref b12)])) rfl rfl (hb hby at_131)
  have V18 : Arv Z h18 b12 kk12 (.object "com/example/changeset/changeset/check/FoundState") (3 : Int32) [(.ref b13), (.ref b16), .null] .null := Arv.set Ar18 qa18 qs18 qn18 qh18 qg18 rfl W18 1 rfl (Nat.le_of_ble_eq_true rfl)
  have N18 := Fr.snoc X18 N17 g_b12
  refine .pre (fun _ kq => st18 _ kq) ?_
  show OwnEnds p e below _ (T18.setTop (mkF m 132 #[.val (.int p0), .val (.int p1), .val (.int p2), .val (.int p3), .val (.int y4), .val (.int y5), .val (.int y6), .val (.int y7), .val (.int y8), .val (.int y9), .val (.int y10), .val (.int y11), .val (.ref b8), .val (.ref b12), .unset, .unset, .unset, .unset] []))
  refine .pre (fun _ kq => XS.aload X18.here hx rfl (hb hby at_132) rfl rfl kq) ?_
  show OwnEnds p e below _ (T18.setTop (mkF m 134 #[.val (.int p0), .val (.int p1), .val (.int p2), .val (.int p3), .val (.int y4), .val (.int y5), .val (.int y6), .val (.int y7), .val (.int y8), .val (.int y9), .val (.int y10), .val (.int y11), .val (.ref b8), .val (.ref b12), .unset, .unset, .unset, .unset] [(.ref b12)]))
  refine .pre (fun _ kq => XS.iconst X18.here hx rfl (hb hby at_134) kq) ?_
  show OwnEnds p e below _ (T18.setTop (mkF m 135 #[.val (.int p0), .val (.int p1), .val (.int p2), .val (.int p3), .val (.int y4), .val (.int y5), .val (.int y6), .val (.int y7), .val (.int y8), .val (.int y9), .val (.int y10), .val (.int y11), .val (.ref b8), .val (.ref b12), .unset, .unset, .unset, .unset] [(.int (2 : Int32)), (.ref b12)]))
  obtain ⟨T19, h19, X19, e19, E19, A19, D19, U19, st19⟩ := newO X18 hx hZ hown (hw _ (List.mem_of_getElem? (i := 75) rfl)) (hw _ (List.mem_of_getElem? (i := 77) rfl)) (hw _ (List.mem_of_getElem? (i := 78) rfl)) e18 (g := (mkF m 135 #[.val (.int p0), .val (.int p1), .val (.int p2), .val (.int p3), .val (.int y4), .val (.int y5), .val (.int y6), .val (.int y7), .val (.int y8), .val (.int y9), .val (.int y10), .val (.int y11), .val (.ref b8), .val (.ref b12), .unset, .unset, .unset, .unset] [(.int (2 : Int32)), (.ref b12)])) rfl (hb hby at_135) (by decide) (by decide)
  obtain ⟨b19, g19⟩ : ∃ z, z = h18.size := ⟨_, rfl⟩
  rw [← g19] at A19 D19 U19 st19
  have g_b19 : n0 ≤ b19 := Nat.le_trans (Nat.le_trans (Nat.le_trans (Nat.le_trans (Nat.le_trans (Nat.le_trans (Nat.le_trans (Nat.le_trans (Nat.le_trans (Nat.le_trans (Nat.le_trans (Nat.le_trans Z0 E8.1) E9.1) K10.1) K11.1) E12.1) E13.1) K14.1) (Keep.of_wr W15).1) E16.1) K17.1) (Keep.of_wr W18).1) (Nat.le_of_eq g19.symm)
  have F19_number : Fld Z h19 b19 "com/example/changeset/changeset/check/FoundState" "number" "I" (.int (0 : Int32)) := D19 (Or.inl (hw _ (List.mem_of_getElem? (i := 84) rfl))) (ty := .int) (by decide)
  have F19_state : Fld Z h19 b19 "com/example/changeset/changeset/check/FoundState" "state" "Lcom/example/changeset/changeset/check/State;" .null := D19 (Or.inr (hw _ (List.mem_of_getElem? (i := 86) rfl))) (ty := (.object "com/example/changeset/changeset/check/State")) (by decide)
  refine .pre (fun _ kq => st19 _ kq) ?_
  show OwnEnds p e below _ (T19.setTop (mkF m 138 #[.val (.int p0), .val (.int p1), .val (.int p2), .val (.int p3), .val (.int y4), .val (.int y5), .val (.int y6), .val (.int y7), .val (.int y8), .val (.int y9), .val (.int y10), .val (.int y11), .val (.ref b8), .val (.ref b12), .unset, .unset, .unset, .unset] [(.ref b19), (.int (2 : Int32)), (.ref b12)]))
  refine .pre (fun _ kq => XS.dup X19.here hx rfl (hb hby at_138) rfl rfl kq) ?_
  show OwnEnds p e below _ (T19.setTop (mkF m 139 #[.val (.int p0), .val (.int p1), .val (.int p2), .val (.int p3), .val (.int y4), .val (.int y5), .val (.int y6), .val (.int y7), .val (.int y8), .val (.int y9), .val (.int y10), .val (.int y11), .val (.ref b8), .val (.ref b12), .unset, .unset, .unset, .unset] [(.ref b19), (.ref b19), (.int (2 : Int32)), (.ref b12)]))
  refine .pre (fun _ kq => XS.aconstNull X19.here hx rfl (hb hby at_139) kq) ?_
  show OwnEnds p e below _ (T19.setTop (mkF m 140 #[.val (.int p0), .val (.int p1), .val (.int p2), .val (.int p3), .val (.int y4), .val (.int y5), .val (.int y6), .val (.int y7), .val (.int y8), .val (.int y9), .val (.int y10), .val (.int y11), .val (.ref b8), .val (.ref b12), .unset, .unset, .unset, .unset] [.null, (.ref b19), (.ref b19), (.int (2 : Int32)), (.ref b12)]))
  have rq3_0 := (Sta.ext E19 (Sta.wr W18 (own_staK1 rq2_0 K17 A16)))
  have rq3_1 := (((rq2_1.keep K17 (own_nin1 (Nat.ne_of_lt (Nat.lt_of_lt_of_le xlt g_b16)))).other W18 (Nat.ne_of_lt (Nat.lt_of_lt_of_le xlt g_b12))).ext E19)
  have rq3_2 := (((rq2_2.keep K17).wr W18).ext E19)
  have rq3_4 := (((rq2_4.keep K17 (own_nin1 (Nat.ne_of_lt (Nat.lt_of_lt_of_le ((((EG11.ext E12).ext E13).keep K14).wr W15).lt (Nat.le_of_eq g16.symm))))).other W18 (Or.inl (Nat.ne_of_lt (Nat.lt_of_lt_of_le EG11.lt (Nat.le_of_eq g12.symm))))).ext E19)
  have rq3_5 := (((rq2_5.keep K17 (own_nin1 (Nat.ne_of_lt (Nat.lt_of_lt_of_le ((((EG11.ext E12).ext E13).keep K14).wr W15).lt (Nat.le_of_eq g16.symm))))).other W18 (Or.inl (Nat.ne_of_lt (Nat.lt_of_lt_of_le EG11.lt (Nat.le_of_eq g12.symm))))).ext E19)
  have rq3_6 := (((rq2_6.keep K17 (own_nin1 (Nat.ne_of_lt (Nat.lt_of_lt_of_le ((((EG11.ext E12).ext E13).keep K14).wr W15).lt (Nat.le_of_eq g16.symm))))).other W18 (Or.inl (Nat.ne_of_lt (Nat.lt_of_lt_of_le EG11.lt (Nat.le_of_eq g12.symm))))).ext E19)
  have rq3_7 := (((rq2_7.keep K17 (own_nin1 (Nat.ne_of_lt (Nat.lt_of_lt_of_le ((((EG11.ext E12).ext E13).keep K14).wr W15).lt (Nat.le_of_eq g16.symm))))).other W18 (Or.inl (Nat.ne_of_lt (Nat.lt_of_lt_of_le EG11.lt (Nat.le_of_eq g12.symm))))).ext E19)
  have rq3_8 := (((rq2_8.keep K17 (own_nin1 (Nat.ne_of_lt (Nat.lt_of_lt_of_le ((((EG11.ext E12).ext E13).keep K14).wr W15).lt (Nat.le_of_eq g16.symm))))).other W18 (Or.inl (Nat.ne_of_lt (Nat.lt_of_lt_of_le EG11.lt (Nat.le_of_eq g12.symm))))).ext E19)
  have rq3_9 := (((rq2_9.keep K17 (own_nin1 (Nat.ne_of_lt (Nat.lt_of_lt_of_le ((((EG11.ext E12).ext E13).keep K14).wr W15).lt (Nat.le_of_eq g16.symm))))).other W18 (Or.inl (Nat.ne_of_lt (Nat.lt_of_lt_of_le EG11.lt (Nat.le_of_eq g12.symm))))).ext E19)
  have rq3_10 := (((rq2_10.keep K17 (own_nin1 (Nat.ne_of_lt (Nat.lt_of_lt_of_le ((((EG11.ext E12).ext E13).keep K14).wr W15).lt (Nat.le_of_eq g16.symm))))).other W18 (Or.inl (Nat.ne_of_lt (Nat.lt_of_lt_of_le EG11.lt (Nat.le_of_eq g12.symm))))).ext E19)
  have rq3_11 := (((rq2_11.keep K17 (own_nin1 (Nat.ne_of_lt (Nat.lt_of_lt_of_le ((((EG11.ext E12).ext E13).keep K14).wr W15).lt (Nat.le_of_eq g16.symm))))).other W18 (Or.inl (Nat.ne_of_lt (Nat.lt_of_lt_of_le EG11.lt (Nat.le_of_eq g12.symm))))).ext E19)
  have rq3_12 := (((rq2_12.keep K17 (own_nin1 (Nat.ne_of_lt (Nat.lt_of_lt_of_le ((((EG11.ext E12).ext E13).keep K14).wr W15).lt (Nat.le_of_eq g16.symm))))).other W18 (Or.inl (Nat.ne_of_lt (Nat.lt_of_lt_of_le EG11.lt (Nat.le_of_eq g12.symm))))).ext E19)
  have rq3_13 := (((rq2_13.keep K17 (own_nin1 (Nat.ne_of_lt (Nat.lt_of_lt_of_le ((((EG11.ext E12).ext E13).keep K14).wr W15).lt (Nat.le_of_eq g16.symm))))).other W18 (Or.inl (Nat.ne_of_lt (Nat.lt_of_lt_of_le EG11.lt (Nat.le_of_eq g12.symm))))).ext E19)
  have rq3_14 := (((rq2_14.keep K17 (own_nin1 (Nat.ne_of_lt (Nat.lt_of_lt_of_le ((((EG11.ext E12).ext E13).keep K14).wr W15).lt (Nat.le_of_eq g16.symm))))).other W18 (Or.inl (Nat.ne_of_lt (Nat.lt_of_lt_of_le EG11.lt (Nat.le_of_eq g12.symm))))).ext E19)
  have rq3_15 := (((rq2_15.keep K17).wr W18).ext E19)
  have rq3_17 := (((rq2_17.keep K17 (own_nin1 (Nat.ne_of_lt (Nat.lt_of_lt_of_le ((rq1_17.keep K14).wr W15).lt (Nat.le_of_eq g16.symm))))).other W18 (Or.inl (Nat.ne_of_lt (Nat.lt_of_lt_of_le (Ea10.keep K11).lt (Nat.le_of_eq g12.symm))))).ext E19)
  have rq3_18 := (((rq2_18.keep K17 (own_nin1 (Nat.ne_of_lt (Nat.lt_of_lt_of_le ((rq1_17.keep K14).wr W15).lt (Nat.le_of_eq g16.symm))))).other W18 (Or.inl (Nat.ne_of_lt (Nat.lt_of_lt_of_le (Ea10.keep K11).lt (Nat.le_of_eq g12.symm))))).ext E19)
  have rq3_19 := (((rq2_19.keep K17 (own_nin1 (Nat.ne_of_lt (Nat.lt_of_lt_of_le ((rq1_17.keep K14).wr W15).lt (Nat.le_of_eq g16.symm))))).other W18 (Or.inl (Nat.ne_of_lt (Nat.lt_of_lt_of_le (Ea10.keep K11).lt (Nat.le_of_eq g12.symm))))).ext E19)
  have rq3_20 := (((rq2_20.keep K17 (own_nin1 (Nat.ne_of_lt (Nat.lt_of_lt_of_le ((((AP11.ext E12).ext E13).keep K14 (own_nin1 (Nat.ne_of_lt (Nat.lt_of_lt_of_le (AP11.ext E12).lt (Nat.le_of_eq g13.symm))))).other W15 (Nat.ne_of_lt (Nat.lt_of_lt_of_le AP11.lt (Nat.le_of_eq g12.symm)))).lt (Nat.le_of_eq g16.symm))))).other W18 (Nat.ne_of_lt (Nat.lt_of_lt_of_le AP11.lt (Nat.le_of_eq g12.symm)))).ext E19)
  have rq3_21 := (((rq2_21.keep K17 (own_nin1 (Nat.ne_of_lt (Nat.lt_of_lt_of_le ((((AR11.ext E12).ext E13).keep K14 (own_nin1 (Nat.ne_of_lt (Nat.lt_of_lt_of_le (AR11.ext E12).lt (Nat.le_of_eq g13.symm))))).other W15 (Nat.ne_of_lt (Nat.lt_of_lt_of_le AR11.lt (Nat.le_of_eq g12.symm)))).lt (Nat.le_of_eq g16.symm))))).other W18 (Nat.ne_of_lt (Nat.lt_of_lt_of_le AR11.lt (Nat.le_of_eq g12.symm)))).ext E19)
  have rq3_22 := (((rq2_22.keep K17 (own_nin1 (Nat.ne_of_lt (Nat.lt_of_lt_of_le ((((AF11.ext E12).ext E13).keep K14 (own_nin1 (Nat.ne_of_lt (Nat.lt_of_lt_of_le (AF11.ext E12).lt (Nat.le_of_eq g13.symm))))).other W15 (Nat.ne_of_lt (Nat.lt_of_lt_of_le AF11.lt (Nat.le_of_eq g12.symm)))).lt (Nat.le_of_eq g16.symm))))).other W18 (Nat.ne_of_lt (Nat.lt_of_lt_of_le AF11.lt (Nat.le_of_eq g12.symm)))).ext E19)
  have rq3_23 := (((rq2_23.keep K17 (own_nin1 (Nat.ne_of_lt (Nat.lt_of_lt_of_le ((((AE11.ext E12).ext E13).keep K14 (own_nin1 (Nat.ne_of_lt (Nat.lt_of_lt_of_le (AE11.ext E12).lt (Nat.le_of_eq g13.symm))))).other W15 (Nat.ne_of_lt (Nat.lt_of_lt_of_le AE11.lt (Nat.le_of_eq g12.symm)))).lt (Nat.le_of_eq g16.symm))))).other W18 (Nat.ne_of_lt (Nat.lt_of_lt_of_le AE11.lt (Nat.le_of_eq g12.symm)))).ext E19)
  have rq3_24 := (((rq2_24.keep K17 (own_nin1 (Nat.ne_of_lt (Nat.lt_of_lt_of_le ((((AT11.ext E12).ext E13).keep K14 (own_nin1 (Nat.ne_of_lt (Nat.lt_of_lt_of_le (AT11.ext E12).lt (Nat.le_of_eq g13.symm))))).other W15 (Nat.ne_of_lt (Nat.lt_of_lt_of_le AT11.lt (Nat.le_of_eq g12.symm)))).lt (Nat.le_of_eq g16.symm))))).other W18 (Nat.ne_of_lt (Nat.lt_of_lt_of_le AT11.lt (Nat.le_of_eq g12.symm)))).ext E19)
  have rq3_25 := (((rq2_25.keep K17 (own_nin1 (Nat.ne_of_lt (Nat.lt_of_lt_of_le ((((AA11.ext E12).ext E13).keep K14 (own_nin1 (Nat.ne_of_lt (Nat.lt_of_lt_of_le (AA11.ext E12).lt (Nat.le_of_eq g13.symm))))).other W15 (Nat.ne_of_lt (Nat.lt_of_lt_of_le AA11.lt (Nat.le_of_eq g12.symm)))).lt (Nat.le_of_eq g16.symm))))).other W18 (Nat.ne_of_lt (Nat.lt_of_lt_of_le AA11.lt (Nat.le_of_eq g12.symm)))).ext E19)
  have rq3_26 := (((rq2_26.keep K17).wr W18).ext E19)
  have rq3_27 := (((rq2_27.keep K17 (own_nin1 (Nat.ne_of_lt (Nat.lt_of_lt_of_le ((((EL11.ext E12).ext E13).keep K14).wr W15).lt (Nat.le_of_eq g16.symm))))).other W18 (Or.inl (Nat.ne_of_lt (Nat.lt_of_lt_of_le EL11.lt (Nat.le_of_eq g12.symm))))).ext E19)
  have rq3_28 := (((rq2_28.keep K17 (own_nin1 (Nat.ne_of_lt (Nat.lt_of_lt_of_le ((((EL11.ext E12).ext E13).keep K14).wr W15).lt (Nat.le_of_eq g16.symm))))).other W18 (Or.inl (Nat.ne_of_lt (Nat.lt_of_lt_of_le EL11.lt (Nat.le_of_eq g12.symm))))).ext E19)
  have rq3_29 := (((rq2_29.keep K17 (own_nin1 (Nat.ne_of_lt (Nat.lt_of_lt_of_le ((((EL11.ext E12).ext E13).keep K14).wr W15).lt (Nat.le_of_eq g16.symm))))).other W18 (Or.inl (Nat.ne_of_lt (Nat.lt_of_lt_of_le EL11.lt (Nat.le_of_eq g12.symm))))).ext E19)
  have rq3_31 := (((((Ea14.wr W15).ext E16).keep K17).wr W18).ext E19)
  have rq3_33 := (((rq2_33.keep K17 (own_nin1 (Nat.ne_of_lt (Nat.lt_of_lt_of_le (Ea14.wr W15).lt (Nat.le_of_eq g16.symm))))).other W18 (Or.inl (Ne.symm (Nat.ne_of_lt (Nat.lt_of_lt_of_le VV_b12.lt (Nat.le_of_eq g13.symm)))))).ext E19)
  have rq3_34 := (((rq2_34.keep K17 (own_nin1 (Nat.ne_of_lt (Nat.lt_of_lt_of_le (Ea14.wr W15).lt (Nat.le_of_eq g16.symm))))).other W18 (Or.inl (Ne.symm (Nat.ne_of_lt (Nat.lt_of_lt_of_le VV_b12.lt (Nat.le_of_eq g13.symm)))))).ext E19)
  have rq3_37 := ((Fa17_0.other W18 (Or.inl (Ne.symm (Nat.ne_of_lt (Nat.lt_of_lt_of_le V15.lt (Nat.le_of_eq g16.symm)))))).ext E19)
  have rq3_38 := ((Fa17_1.other W18 (Or.inl (Ne.symm (Nat.ne_of_lt (Nat.lt_of_lt_of_le V15.lt (Nat.le_of_eq g16.symm)))))).ext E19)
  obtain ⟨_, _, ⟨T20, L20, k20, n20⟩, -, X20, ⟨Lc20, hQ20, l20, y20, z20⟩, st20⟩ := X19.specialBack hx (y := (⟨"com/example/changeset/changeset/check/FoundState", "<init>", "(Lcom/example/changeset/changeset/check/State;)V"⟩ : MethodName)) rfl hown (mvT hZ (hw _ (List.mem_of_getElem? (i := 79) rfl))) (mvT hZ (hw _ (List.mem_of_getElem? (i := 80) rfl))) (mvT hZ (hw _ (List.mem_of_getElem? (i := 81) rfl))) (by decide) (backOf (W := 3) (rm9 l Z aZ hw [] b19 (.int (0 : Int32)) .null h19 n0 (Nat.le_trans (Nat.le_trans (Nat.le_trans (Nat.le_trans (Nat.le_trans (Nat.le_trans (Nat.le_trans (Nat.le_trans (Nat.le_trans (Nat.le_trans (Nat.le_trans (Nat.le_trans Z0 E8.1) E9.1) K10.1) K11.1) E12.1) E13.1) K14.1) (Keep.of_wr W15).1) E16.1) K17.1) (Keep.of_wr W18).1) E19.1) g_b19 A19 F19_number F19_state) hZ (hw _ (List.mem_of_getElem? (i := 81) rfl)) (hw _ (List.mem_of_getElem? (i := 78) rfl)) (by decide) (by decide)) (g := (mkF m 140 #[.val (.int p0), .val (.int p1), .val (.int p2), .val (.int p3), .val (.int y4), .val (.int y5), .val (.int y6), .val (.int y7), .val (.int y8), .val (.int y9), .val (.int y10), .val (.int y11), .val (.ref b8), .val (.ref b12), .unset, .unset, .unset, .unset] [.null, (.ref b19), (.ref b19), (.int (2 : Int32)), (.ref b12)])) rfl (by rw [hml]; rfl) (Steps.refl _) (a := b19) (argsL := [.null]) (rest := [(.ref b19), (.int (2 : Int32)), (.ref b12)]) (lenOf pd_19 rfl) rfl (by show 2 * 0 + _ ≤ _; exact Nat.le_of_eq rfl) (hb hby at_140) (fun _ _ => ⟨rfl, e19, (by decide : 14 + 0 ≤ _), (by decide : 6187 + 0 ≤ _)⟩)
  dsimp only [Pt.U, Pt.locs, Pt.cells, Pt.slots] at X20 l20 y20 z20 st20 hQ20
  try dsimp only [Nat.reduceAdd] at y20 z20
  subst y20 z20
  obtain ⟨rfl, N20q, K20, Ea20, Fa20_0, Fa20_1⟩ := hQ20
  have N20 : Fr n0 L20 := by rw [l20]; exact Fr.app N18 N20q
  refine .pre (fun _ kq => st20.trans kq) ?_
  show OwnEnds p e below _ (T20.setTop (mkF m 143 #[.val (.int p0), .val (.int p1), .val (.int p2), .val (.int p3), .val (.int y4), .val (.int y5), .val (.int y6), .val (.int y7), .val (.int y8), .val (.int y9), .val (.int y10), .val (.int y11), .val (.ref b8), .val (.ref b12), .unset, .unset, .unset, .unset] [(.ref b19), (.int (2 : Int32)), (.ref b12)]))
  obtain ⟨cl21, Ar21, qa21, qs21, qn21, qh21, qg21⟩ := id ((V18.ext E19).keep K20 (own_nin1 (Nat.ne_of_lt (Nat.lt_of_lt_of_le V18.lt (Nat.le_of_eq g19.symm)))))
  obtain ⟨T21, h21, X21, e21, W21, st21⟩ := stR X20 hx hZ rfl Ar21 (j := (2 : Int32)) (v := (.ref b19)) (inb_of qs21 ⟨by decide, by decide⟩) rfl (Sto.of Ar21 (by rw [qa21]; exact O12) (Ins.self Ea20)) (g := (mkF m 143 #[.val (.int p0), .val (.int p1), .val (.int p2), .val (.int p3), .val (.int y4), .val (.int y5), .val (.int y6), .val (.int y7), .val (.int y8), .val (.int y9), .val (.int y10), .val (.int y11), .val (.ref b8), .val (.ref b12), .unset, .unset, .unset, .unset] [(.ref b19), (.int (2 : Int32)), (.ref b12)])) rfl rfl (hb hby at_143)
  have V21 : Arv Z h21 b12 kk12 (.object "com/example/changeset/changeset/check/FoundState") (3 : Int32) [(.ref b13), (.ref b16), (.ref b19)] .null := Arv.set Ar21 qa21 qs21 qn21 qh21 qg21 rfl W21 2 rfl (Nat.le_of_ble_eq_true rfl)
  have N21 := Fr.snoc X21 N20 g_b12
  refine .pre (fun _ kq => st21 _ kq) ?_
  show OwnEnds p e below _ (T21.setTop (mkF m 144 #[.val (.int p0), .val (.int p1), .val (.int p2), .val (.int p3), .val (.int y4), .val (.int y5), .val (.int y6), .val (.int y7), .val (.int y8), .val (.int y9), .val (.int y10), .val (.int y11), .val (.ref b8), .val (.ref b12), .unset, .unset, .unset, .unset] []))
  refine .pre (fun _ kq => XS.aload X21.here hx rfl (hb hby at_144) rfl rfl kq) ?_
  show OwnEnds p e below _ (T21.setTop (mkF m 146 #[.val (.int p0), .val (.int p1), .val (.int p2), .val (.int p3), .val (.int y4), .val (.int y5), .val (.int y6), .val (.int y7), .val (.int y8), .val (.int y9), .val (.int y10), .val (.int y11), .val (.ref b8), .val (.ref b12), .unset, .unset, .unset, .unset] [(.ref b8)]))
  refine .pre (fun _ kq => XS.aload X21.here hx rfl (hb hby at_146) rfl rfl kq) ?_
  show OwnEnds p e below _ (T21.setTop (mkF m 148 #[.val (.int p0), .val (.int p1), .val (.int p2), .val (.int p3), .val (.int y4), .val (.int y5), .val (.int y6), .val (.int y7), .val (.int y8), .val (.int y9), .val (.int y10), .val (.int y11), .val (.ref b8), .val (.ref b12), .unset, .unset, .unset, .unset] [(.ref b12), (.ref b8)]))
  refine .pre (fun _ kq => XS.iconst X21.here hx rfl (hb hby at_148) kq) ?_
  show OwnEnds p e below _ (T21.setTop (mkF m 149 #[.val (.int p0), .val (.int p1), .val (.int p2), .val (.int p3), .val (.int y4), .val (.int y5), .val (.int y6), .val (.int y7), .val (.int y8), .val (.int y9), .val (.int y10), .val (.int y11), .val (.ref b8), .val (.ref b12), .unset, .unset, .unset, .unset] [(.int (0 : Int32)), (.ref b12), (.ref b8)]))
  obtain ⟨cl22, Ar22, qa22, qs22, qn22, qh22, qg22⟩ := id V21
  have hin22 : ¬ ((0 : Int32) < 0 ∨ cl22.slots.size ≤ ((0 : Int32)).toNatClampNeg) := inb_of qs22 ⟨by decide, by decide⟩
  have hat22 : cl22.slots[((0 : Int32)).toNatClampNeg]? = some (.ref b13) := (qh22 _ (Nat.lt_of_not_le fun y => hin22 (Or.inr y))).trans (congrArg some rfl)
  refine .pre (fun _ kq => X21.aaload hx (j := (0 : Int32)) (v := (.ref b13)) (by first | exact Ar22.1 | (rw [e21]; exact Ar22.1)) (State.isArrayOf_alike hZ.alike Ar22.2.1) rfl Ar22.2.2 hin22 hat22 (g := (mkF m 149 #[.val (.int p0), .val (.int p1), .val (.int p2), .val (.int p3), .val (.int y4), .val (.int y5), .val (.int y6), .val (.int y7), .val (.int y8), .val (.int y9), .val (.int y10), .val (.int y11), .val (.ref b8), .val (.ref b12), .unset, .unset, .unset, .unset] [(.int (0 : Int32)), (.ref b12), (.ref b8)])) rfl rfl (hb hby at_149) _ kq) ?_
  show OwnEnds p e below _ (T21.setTop (mkF m 150 #[.val (.int p0), .val (.int p1), .val (.int p2), .val (.int p3), .val (.int y4), .val (.int y5), .val (.int y6), .val (.int y7), .val (.int y8), .val (.int y9), .val (.int y10), .val (.int y11), .val (.ref b8), .val (.ref b12), .unset, .unset, .unset, .unset] [(.ref b13), (.ref b8)]))
  refine .pre (fun _ kq => XS.iconst X21.here hx rfl (hb hby at_150) kq) ?_
  show OwnEnds p e below _ (T21.setTop (mkF m 151 #[.val (.int p0), .val (.int p1), .val (.int p2), .val (.int p3), .val (.int y4), .val (.int y5), .val (.int y6), .val (.int y7), .val (.int y8), .val (.int y9), .val (.int y10), .val (.int y11), .val (.ref b8), .val (.ref b12), .unset, .unset, .unset, .unset] [(.int (-1 : Int32)), (.ref b13), (.ref b8)]))
  refine .pre (fun _ kq => XS.iconst X21.here hx rfl (hb hby at_151) kq) ?_
  show OwnEnds p e below _ (T21.setTop (mkF m 152 #[.val (.int p0), .val (.int p1), .val (.int p2), .val (.int p3), .val (.int y4), .val (.int y5), .val (.int y6), .val (.int y7), .val (.int y8), .val (.int y9), .val (.int y10), .val (.int y11), .val (.ref b8), .val (.ref b12), .unset, .unset, .unset, .unset] [(.int (-1 : Int32)), (.int (-1 : Int32)), (.ref b13), (.ref b8)]))
  have rq4_0 := (Sta.wr W21 (own_staK1 rq3_0 K20 A19))
  have rq4_1 := ((rq3_1.keep K20 (own_nin1 (Nat.ne_of_lt (Nat.lt_of_lt_of_le xlt g_b19)))).other W21 (Nat.ne_of_lt (Nat.lt_of_lt_of_le xlt g_b12)))
  have rq4_4 := ((rq3_4.keep K20 (own_nin1 (Nat.ne_of_lt (Nat.lt_of_lt_of_le ((rq2_2.keep K17).wr W18).lt (Nat.le_of_eq g19.symm))))).other W21 (Or.inl (Nat.ne_of_lt (Nat.lt_of_lt_of_le EG11.lt (Nat.le_of_eq g12.symm)))))
  have rq4_5 := ((rq3_5.keep K20 (own_nin1 (Nat.ne_of_lt (Nat.lt_of_lt_of_le ((rq2_2.keep K17).wr W18).lt (Nat.le_of_eq g19.symm))))).other W21 (Or.inl (Nat.ne_of_lt (Nat.lt_of_lt_of_le EG11.lt (Nat.le_of_eq g12.symm)))))
  have rq4_6 := ((rq3_6.keep K20 (own_nin1 (Nat.ne_of_lt (Nat.lt_of_lt_of_le ((rq2_2.keep K17).wr W18).lt (Nat.le_of_eq g19.symm))))).other W21 (Or.inl (Nat.ne_of_lt (Nat.lt_of_lt_of_le EG11.lt (Nat.le_of_eq g12.symm)))))
  have rq4_7 := ((rq3_7.keep K20 (own_nin1 (Nat.ne_of_lt (Nat.lt_of_lt_of_le ((rq2_2.keep K17).wr W18).lt (Nat.le_of_eq g19.symm))))).other W21 (Or.inl (Nat.ne_of_lt (Nat.lt_of_lt_of_le EG11.lt (Nat.le_of_eq g12.symm)))))
  have rq4_8 := ((rq3_8.keep K20 (own_nin1 (Nat.ne_of_lt (Nat.lt_of_lt_of_le ((rq2_2.keep K17).wr W18).lt (Nat.le_of_eq g19.symm))))).other W21 (Or.inl (Nat.ne_of_lt (Nat.lt_of_lt_of_le EG11.lt (Nat.le_of_eq g12.symm)))))
  have rq4_9 := ((rq3_9.keep K20 (own_nin1 (Nat.ne_of_lt (Nat.lt_of_lt_of_le ((rq2_2.keep K17).wr W18).lt (Nat.le_of_eq g19.symm))))).other W21 (Or.inl (Nat.ne_of_lt (Nat.lt_of_lt_of_le EG11.lt (Nat.le_of_eq g12.symm)))))
  have rq4_10 := ((rq3_10.keep K20 (own_nin1 (Nat.ne_of_lt (Nat.lt_of_lt_of_le ((rq2_2.keep K17).wr W18).lt (Nat.le_of_eq g19.symm))))).other W21 (Or.inl (Nat.ne_of_lt (Nat.lt_of_lt_of_le EG11.lt (Nat.le_of_eq g12.symm)))))
  have rq4_11 := ((rq3_11.keep K20 (own_nin1 (Nat.ne_of_lt (Nat.lt_of_lt_of_le ((rq2_2.keep K17).wr W18).lt (Nat.le_of_eq g19.symm))))).other W21 (Or.inl (Nat.ne_of_lt (Nat.lt_of_lt_of_le EG11.lt (Nat.le_of_eq g12.symm)))))
  have rq4_12 := ((rq3_12.keep K20 (own_nin1 (Nat.ne_of_lt (Nat.lt_of_lt_of_le ((rq2_2.keep K17).wr W18).lt (Nat.le_of_eq g19.symm))))).other W21 (Or.inl (Nat.ne_of_lt (Nat.lt_of_lt_of_le EG11.lt (Nat.le_of_eq g12.symm)))))
  have rq4_13 := ((rq3_13.keep K20 (own_nin1 (Nat.ne_of_lt (Nat.lt_of_lt_of_le ((rq2_2.keep K17).wr W18).lt (Nat.le_of_eq g19.symm))))).other W21 (Or.inl (Nat.ne_of_lt (Nat.lt_of_lt_of_le EG11.lt (Nat.le_of_eq g12.symm)))))
  have rq4_14 := ((rq3_14.keep K20 (own_nin1 (Nat.ne_of_lt (Nat.lt_of_lt_of_le ((rq2_2.keep K17).wr W18).lt (Nat.le_of_eq g19.symm))))).other W21 (Or.inl (Nat.ne_of_lt (Nat.lt_of_lt_of_le EG11.lt (Nat.le_of_eq g12.symm)))))
  have rq4_17 := ((rq3_17.keep K20 (own_nin1 (Nat.ne_of_lt (Nat.lt_of_lt_of_le ((rq2_15.keep K17).wr W18).lt (Nat.le_of_eq g19.symm))))).other W21 (Or.inl (Nat.ne_of_lt (Nat.lt_of_lt_of_le (Ea10.keep K11).lt (Nat.le_of_eq g12.symm)))))
  have rq4_18 := ((rq3_18.keep K20 (own_nin1 (Nat.ne_of_lt (Nat.lt_of_lt_of_le ((rq2_15.keep K17).wr W18).lt (Nat.le_of_eq g19.symm))))).other W21 (Or.inl (Nat.ne_of_lt (Nat.lt_of_lt_of_le (Ea10.keep K11).lt (Nat.le_of_eq g12.symm)))))
  have rq4_19 := ((rq3_19.keep K20 (own_nin1 (Nat.ne_of_lt (Nat.lt_of_lt_of_le ((rq2_15.keep K17).wr W18).lt (Nat.le_of_eq g19.symm))))).other W21 (Or.inl (Nat.ne_of_lt (Nat.lt_of_lt_of_le (Ea10.keep K11).lt (Nat.le_of_eq g12.symm)))))
  have rq4_20 := ((rq3_20.keep K20 (own_nin1 (Nat.ne_of_lt (Nat.lt_of_lt_of_le ((rq2_20.keep K17 (own_nin1 (Nat.ne_of_lt (Nat.lt_of_lt_of_le ((((AP11.ext E12).ext E13).keep K14 (own_nin1 (Nat.ne_of_lt (Nat.lt_of_lt_of_le (AP11.ext E12).lt (Nat.le_of_eq g13.symm))))).other W15 (Nat.ne_of_lt (Nat.lt_of_lt_of_le AP11.lt (Nat.le_of_eq g12.symm)))).lt (Nat.le_of_eq g16.symm))))).other W18 (Nat.ne_of_lt (Nat.lt_of_lt_of_le AP11.lt (Nat.le_of_eq g12.symm)))).lt (Nat.le_of_eq g19.symm))))).other W21 (Nat.ne_of_lt (Nat.lt_of_lt_of_le AP11.lt (Nat.le_of_eq g12.symm))))
  have rq4_21 := ((rq3_21.keep K20 (own_nin1 (Nat.ne_of_lt (Nat.lt_of_lt_of_le ((rq2_21.keep K17 (own_nin1 (Nat.ne_of_lt (Nat.lt_of_lt_of_le ((((AR11.ext E12).ext E13).keep K14 (own_nin1 (Nat.ne_of_lt (Nat.lt_of_lt_of_le (AR11.ext E12).lt (Nat.le_of_eq g13.symm))))).other W15 (Nat.ne_of_lt (Nat.lt_of_lt_of_le AR11.lt (Nat.le_of_eq g12.symm)))).lt (Nat.le_of_eq g16.symm))))).other W18 (Nat.ne_of_lt (Nat.lt_of_lt_of_le AR11.lt (Nat.le_of_eq g12.symm)))).lt (Nat.le_of_eq g19.symm))))).other W21 (Nat.ne_of_lt (Nat.lt_of_lt_of_le AR11.lt (Nat.le_of_eq g12.symm))))
  have rq4_22 := ((rq3_22.keep K20 (own_nin1 (Nat.ne_of_lt (Nat.lt_of_lt_of_le ((rq2_22.keep K17 (own_nin1 (Nat.ne_of_lt (Nat.lt_of_lt_of_le ((((AF11.ext E12).ext E13).keep K14 (own_nin1 (Nat.ne_of_lt (Nat.lt_of_lt_of_le (AF11.ext E12).lt (Nat.le_of_eq g13.symm))))).other W15 (Nat.ne_of_lt (Nat.lt_of_lt_of_le AF11.lt (Nat.le_of_eq g12.symm)))).lt (Nat.le_of_eq g16.symm))))).other W18 (Nat.ne_of_lt (Nat.lt_of_lt_of_le AF11.lt (Nat.le_of_eq g12.symm)))).lt (Nat.le_of_eq g19.symm))))).other W21 (Nat.ne_of_lt (Nat.lt_of_lt_of_le AF11.lt (Nat.le_of_eq g12.symm))))
  have rq4_23 := ((rq3_23.keep K20 (own_nin1 (Nat.ne_of_lt (Nat.lt_of_lt_of_le ((rq2_23.keep K17 (own_nin1 (Nat.ne_of_lt (Nat.lt_of_lt_of_le ((((AE11.ext E12).ext E13).keep K14 (own_nin1 (Nat.ne_of_lt (Nat.lt_of_lt_of_le (AE11.ext E12).lt (Nat.le_of_eq g13.symm))))).other W15 (Nat.ne_of_lt (Nat.lt_of_lt_of_le AE11.lt (Nat.le_of_eq g12.symm)))).lt (Nat.le_of_eq g16.symm))))).other W18 (Nat.ne_of_lt (Nat.lt_of_lt_of_le AE11.lt (Nat.le_of_eq g12.symm)))).lt (Nat.le_of_eq g19.symm))))).other W21 (Nat.ne_of_lt (Nat.lt_of_lt_of_le AE11.lt (Nat.le_of_eq g12.symm))))
  have rq4_24 := ((rq3_24.keep K20 (own_nin1 (Nat.ne_of_lt (Nat.lt_of_lt_of_le ((rq2_24.keep K17 (own_nin1 (Nat.ne_of_lt (Nat.lt_of_lt_of_le ((((AT11.ext E12).ext E13).keep K14 (own_nin1 (Nat.ne_of_lt (Nat.lt_of_lt_of_le (AT11.ext E12).lt (Nat.le_of_eq g13.symm))))).other W15 (Nat.ne_of_lt (Nat.lt_of_lt_of_le AT11.lt (Nat.le_of_eq g12.symm)))).lt (Nat.le_of_eq g16.symm))))).other W18 (Nat.ne_of_lt (Nat.lt_of_lt_of_le AT11.lt (Nat.le_of_eq g12.symm)))).lt (Nat.le_of_eq g19.symm))))).other W21 (Nat.ne_of_lt (Nat.lt_of_lt_of_le AT11.lt (Nat.le_of_eq g12.symm))))
  have rq4_25 := ((rq3_25.keep K20 (own_nin1 (Nat.ne_of_lt (Nat.lt_of_lt_of_le ((rq2_25.keep K17 (own_nin1 (Nat.ne_of_lt (Nat.lt_of_lt_of_le ((((AA11.ext E12).ext E13).keep K14 (own_nin1 (Nat.ne_of_lt (Nat.lt_of_lt_of_le (AA11.ext E12).lt (Nat.le_of_eq g13.symm))))).other W15 (Nat.ne_of_lt (Nat.lt_of_lt_of_le AA11.lt (Nat.le_of_eq g12.symm)))).lt (Nat.le_of_eq g16.symm))))).other W18 (Nat.ne_of_lt (Nat.lt_of_lt_of_le AA11.lt (Nat.le_of_eq g12.symm)))).lt (Nat.le_of_eq g19.symm))))).other W21 (Nat.ne_of_lt (Nat.lt_of_lt_of_le AA11.lt (Nat.le_of_eq g12.symm))))
  have rq4_27 := ((rq3_27.keep K20 (own_nin1 (Nat.ne_of_lt (Nat.lt_of_lt_of_le ((rq2_26.keep K17).wr W18).lt (Nat.le_of_eq g19.symm))))).other W21 (Or.inl (Nat.ne_of_lt (Nat.lt_of_lt_of_le EL11.lt (Nat.le_of_eq g12.symm)))))
  have rq4_28 := ((rq3_28.keep K20 (own_nin1 (Nat.ne_of_lt (Nat.lt_of_lt_of_le ((rq2_26.keep K17).wr W18).lt (Nat.le_of_eq g19.symm))))).other W21 (Or.inl (Nat.ne_of_lt (Nat.lt_of_lt_of_le EL11.lt (Nat.le_of_eq g12.symm)))))
  have rq4_29 := ((rq3_29.keep K20 (own_nin1 (Nat.ne_of_lt (Nat.lt_of_lt_of_le ((rq2_26.keep K17).wr W18).lt (Nat.le_of_eq g19.symm))))).other W21 (Or.inl (Nat.ne_of_lt (Nat.lt_of_lt_of_le EL11.lt (Nat.le_of_eq g12.symm)))))
  have rq4_33 := ((rq3_33.keep K20 (own_nin1 (Nat.ne_of_lt (Nat.lt_of_lt_of_le ((((Ea14.wr W15).ext E16).keep K17).wr W18).lt (Nat.le_of_eq g19.symm))))).other W21 (Or.inl (Ne.symm (Nat.ne_of_lt (Nat.lt_of_lt_of_le VV_b12.lt (Nat.le_of_eq g13.symm))))))
  have rq4_34 := ((rq3_34.keep K20 (own_nin1 (Nat.ne_of_lt (Nat.lt_of_lt_of_le ((((Ea14.wr W15).ext E16).keep K17).wr W18).lt (Nat.le_of_eq g19.symm))))).other W21 (Or.inl (Ne.symm (Nat.ne_of_lt (Nat.lt_of_lt_of_le VV_b12.lt (Nat.le_of_eq g13.symm))))))
  have rq4_35 := ((((Ea17.wr W18).ext E19).keep K20).wr W21)
  have rq4_37 := ((rq3_37.keep K20 (own_nin1 (Nat.ne_of_lt (Nat.lt_of_lt_of_le (Ea17.wr W18).lt (Nat.le_of_eq g19.symm))))).other W21 (Or.inl (Ne.symm (Nat.ne_of_lt (Nat.lt_of_lt_of_le V15.lt (Nat.le_of_eq g16.symm))))))
  have rq4_38 := ((rq3_38.keep K20 (own_nin1 (Nat.ne_of_lt (Nat.lt_of_lt_of_le (Ea17.wr W18).lt (Nat.le_of_eq g19.symm))))).other W21 (Or.inl (Ne.symm (Nat.ne_of_lt (Nat.lt_of_lt_of_le V15.lt (Nat.le_of_eq g16.symm))))))
  have rq4_41 := (Fa20_0.other W21 (Or.inl (Ne.symm (Nat.ne_of_lt (Nat.lt_of_lt_of_le V18.lt (Nat.le_of_eq g19.symm))))))
  have rq4_42 := (Fa20_1.other W21 (Or.inl (Ne.symm (Nat.ne_of_lt (Nat.lt_of_lt_of_le V18.lt (Nat.le_of_eq g19.symm))))))
  have nq4_7 : b8 ≠ b13 := (Nat.ne_of_lt (Nat.lt_of_lt_of_le (EG11.ext E12).lt (Nat.le_of_eq g13.symm)))
  have nq4_14 : aL11 ≠ b13 := (Nat.ne_of_lt (Nat.lt_of_lt_of_le (EL11.ext E12).lt (Nat.le_of_eq g13.symm)))
  have nq4_20 : aP11 ≠ b13 := (Nat.ne_of_lt (Nat.lt_of_lt_of_le (AP11.ext E12).lt (Nat.le_of_eq g13.symm)))
  have nq4_25 : aR11 ≠ b13 := (Nat.ne_of_lt (Nat.lt_of_lt_of_le (AR11.ext E12).lt (Nat.le_of_eq g13.symm)))
  have nq4_29 : aF11 ≠ b13 := (Nat.ne_of_lt (Nat.lt_of_lt_of_le (AF11.ext E12).lt (Nat.le_of_eq g13.symm)))
  have nq4_32 : aE11 ≠ b13 := (Nat.ne_of_lt (Nat.lt_of_lt_of_le (AE11.ext E12).lt (Nat.le_of_eq g13.symm)))
  have nq4_34 : aT11 ≠ b13 := (Nat.ne_of_lt (Nat.lt_of_lt_of_le (AT11.ext E12).lt (Nat.le_of_eq g13.symm)))
  have nq4_35 : aA11 ≠ b13 := (Nat.ne_of_lt (Nat.lt_of_lt_of_le (AA11.ext E12).lt (Nat.le_of_eq g13.symm)))
  have Dn23 : [b8, aL11, aP11, aR11, aF11, aE11, aT11, aA11, b13, xD].Pairwise (· ≠ ·) := (List.Pairwise.cons (allS (own_nd D11 0 1 rfl rfl (by decide)) (allS (own_nd D11 0 2 rfl rfl (by decide)) (allS (own_nd D11 0 3 rfl rfl (by decide)) (allS (own_nd D11 0 4 rfl rfl (by decide)) (allS (own_nd D11 0 5 rfl rfl (by decide)) (allS (own_nd D11 0 6 rfl rfl (by decide)) (allS (own_nd D11 0 7 rfl rfl (by decide)) (allS nq4_7 (allS (Ne.symm (Nat.ne_of_lt (Nat.lt_of_lt_of_le xlt g_b8))) all0))))))))) (List.Pairwise.cons (allS (own_nd D11 1 2 rfl rfl (by decide)) (allS (own_nd D11 1 3 rfl rfl (by decide)) (allS (own_nd D11 1 4 rfl rfl (by decide)) (allS (own_nd D11 1 5 rfl rfl (by decide)) (allS (own_nd D11 1 6 rfl rfl (by decide)) (allS (own_nd D11 1 7 rfl rfl (by decide)) (allS nq4_14 (allS (Ne.symm (Nat.ne_of_lt (Nat.lt_of_lt_of_le xlt g_aL11))) all0)))))))) (List.Pairwise.cons (allS (own_nd D11 2 3 rfl rfl (by decide)) (allS (own_nd D11 2 4 rfl rfl (by decide)) (allS (own_nd D11 2 5 rfl rfl (by decide)) (allS (own_nd D11 2 6 rfl rfl (by decide)) (allS (own_nd D11 2 7 rfl rfl (by decide)) (allS nq4_20 (allS (Ne.symm (Nat.ne_of_lt (Nat.lt_of_lt_of_le xlt g_aP11))) all0))))))) (List.Pairwise.cons (allS (own_nd D11 3 4 rfl rfl (by decide)) (allS (own_nd D11 3 5 rfl rfl (by decide)) (allS (own_nd D11 3 6 rfl rfl (by decide)) (allS (own_nd D11 3 7 rfl rfl (by decide)) (allS nq4_25 (allS (Ne.symm (Nat.ne_of_lt (Nat.lt_of_lt_of_le xlt g_aR11))) all0)))))) (List.Pairwise.cons (allS (own_nd D11 4 5 rfl rfl (by decide)) (allS (own_nd D11 4 6 rfl rfl (by decide)) (allS (own_nd D11 4 7 rfl rfl (by decide)) (allS nq4_29 (allS (Ne.symm (Nat.ne_of_lt (Nat.lt_of_lt_of_le xlt g_aF11))) all0))))) (List.Pairwise.cons (allS (own_nd D11 5 6 rfl rfl (by decide)) (allS (own_nd D11 5 7 rfl rfl (by decide)) (allS nq4_32 (allS (Ne.symm (Nat.ne_of_lt (Nat.lt_of_lt_of_le xlt g_aE11))) all0)))) (List.Pairwise.cons (allS (own_nd D11 6 7 rfl rfl (by decide)) (allS nq4_34 (allS (Ne.symm (Nat.ne_of_lt (Nat.lt_of_lt_of_le xlt g_aT11))) all0))) (List.Pairwise.cons (allS nq4_35 (allS (Ne.symm (Nat.ne_of_lt (Nat.lt_of_lt_of_le xlt g_aA11))) all0)) (List.Pairwise.cons (allS (Ne.symm (Nat.ne_of_lt (Nat.lt_of_lt_of_le xlt g_b13))) all0) (List.Pairwise.cons all0 List.Pairwise.nil))))))))))
  have GNn23 : ∀ x ∈ [b8, aL11, aP11, aR11, aF11, aE11, aT11, aA11, b13], n0 ≤ x := (allS g_b8 (allS g_aL11 (allS g_aP11 (allS g_aR11 (allS g_aF11 (allS g_aE11 (allS g_aT11 (allS g_aA11 (allS g_b13 all0)))))))))
  obtain ⟨cq23, kq23, q23a, q23b, q23c⟩ := isOf hZ e21 ((rq3_2.keep K20).wr W21)
  obtain ⟨_, _, ⟨T23, L23, k23, n23⟩, -, X23, ⟨Lc23, hQ23, l23, y23, z23⟩, st23⟩ := X21.virtualBack hx (y := (⟨"com/example/changeset/changeset/check/StateGraph", "add", "(Lcom/example/changeset/changeset/check/FoundState;II)Z"⟩ : MethodName)) (z := (⟨"com/example/changeset/changeset/check/StateGraph", "add", "(Lcom/example/changeset/changeset/check/FoundState;II)Z"⟩ : MethodName)) hown (mvT hZ (hw _ (List.mem_of_getElem? (i := 88) rfl))) (mvT hZ (hw _ (List.mem_of_getElem? (i := 89) rfl))) (notFace_of_selects (args := #[]) (mvT hZ (hw _ (List.mem_of_getElem? (i := 91) rfl)))) (mvT hZ (hw _ (List.mem_of_getElem? (i := 91) rfl))) (mvT hZ (hw _ (List.mem_of_getElem? (i := 90) rfl))) (by decide) (backOf (W := 0) (rm10A l Z aZ hw [] b8 b13 aL11 aP11 aR11 aF11 aE11 aT11 aA11 (-1 : Int32) 0 0 (fun _ => 0) (fun _ => 0) xD  h21 n0 (Nat.le_trans (Nat.le_trans (Nat.le_trans (Nat.le_trans (Nat.le_trans (Nat.le_trans (Nat.le_trans (Nat.le_trans (Nat.le_trans (Nat.le_trans (Nat.le_trans (Nat.le_trans (Nat.le_trans (Nat.le_trans Z0 E8.1) E9.1) K10.1) K11.1) E12.1) E13.1) K14.1) (Keep.of_wr W15).1) E16.1) K17.1) (Keep.of_wr W18).1) E19.1) K20.1) (Keep.of_wr W21).1) rq4_0 ⟨((rq3_2.keep K20).wr W21), rq4_4, rq4_5, rq4_6, rq4_7, rq4_8, rq4_9, rq4_10, rq4_11, rq4_12, rq4_13, rq4_14, ⟨_, rq4_20⟩, ⟨_, rq4_21⟩, rq4_22, rq4_23, ⟨_, rq4_24⟩, ⟨_, rq4_25⟩⟩ ⟨((rq3_26.keep K20).wr W21), ⟨_, rq4_27⟩, rq4_28, rq4_29, rq4_1⟩ ((rq3_31.keep K20).wr W21) rq4_33 rq4_34 Dn23 GNn23) hZ (hw _ (List.mem_of_getElem? (i := 92) rfl)) (hw _ (List.mem_of_getElem? (i := 6) rfl)) (by decide) (by decide)) q23a q23c (g := (mkF m 152 #[.val (.int p0), .val (.int p1), .val (.int p2), .val (.int p3), .val (.int y4), .val (.int y5), .val (.int y6), .val (.int y7), .val (.int y8), .val (.int y9), .val (.int y10), .val (.int y11), .val (.ref b8), .val (.ref b12), .unset, .unset, .unset, .unset] [(.int (-1 : Int32)), (.int (-1 : Int32)), (.ref b13), (.ref b8)])) rfl (by rw [hml]; rfl) (Steps.refl _) (argsL := [(.ref b13), (.int (-1 : Int32)), (.int (-1 : Int32))]) (rest := []) (lenOf pd_20 rfl) rfl (by show 2 * 0 + _ ≤ _; exact Nat.le_of_eq rfl) (hb hby at_152) (fun _ _ => ⟨rfl, e21, (by decide : 14 + 1 ≤ _), (by decide : 6187 + 10 ≤ _)⟩)
  dsimp only [Pt.U, Pt.locs, Pt.cells, Pt.slots] at X23 l23 y23 z23 st23 hQ23
  try dsimp only [Nat.reduceAdd] at y23 z23
  subst y23 z23
  obtain ⟨d23, rfl, N23q, K23, szd23, HG23, HL23, fsE23, fsN23, fsS23⟩ := hQ23
  have N23 : Fr n0 L23 := by rw [l23]; exact Fr.app N21 N23q
  refine .pre (fun _ kq => st23.trans kq) ?_
  have g_d23 : n0 ≤ d23 := Nat.le_trans (Nat.le_trans (Nat.le_trans (Nat.le_trans (Nat.le_trans (Nat.le_trans (Nat.le_trans (Nat.le_trans (Nat.le_trans (Nat.le_trans (Nat.le_trans (Nat.le_trans (Nat.le_trans (Nat.le_trans (Nat.le_trans Z0 E8.1) E9.1) K10.1) K11.1) E12.1) E13.1) K14.1) (Keep.of_wr W15).1) E16.1) K17.1) (Keep.of_wr W18).1) E19.1) K20.1) (Keep.of_wr W21).1) szd23
  show OwnEnds p e below _ (T23.setTop (mkF m 155 #[.val (.int p0), .val (.int p1), .val (.int p2), .val (.int p3), .val (.int y4), .val (.int y5), .val (.int y6), .val (.int y7), .val (.int y8), .val (.int y9), .val (.int y10), .val (.int y11), .val (.ref b8), .val (.ref b12), .unset, .unset, .unset, .unset] [(.int (1 : Int32))]))
  refine .pre (fun _ kq => XS.pop X23.here hx rfl (hb hby at_155) rfl rfl kq) ?_
  show OwnEnds p e below _ (T23.setTop (mkF m 156 #[.val (.int p0), .val (.int p1), .val (.int p2), .val (.int p3), .val (.int y4), .val (.int y5), .val (.int y6), .val (.int y7), .val (.int y8), .val (.int y9), .val (.int y10), .val (.int y11), .val (.ref b8), .val (.ref b12), .unset, .unset, .unset, .unset] []))
  refine .pre (fun _ kq => XS.aload X23.here hx rfl (hb hby at_156) rfl rfl kq) ?_
  show OwnEnds p e below _ (T23.setTop (mkF m 158 #[.val (.int p0), .val (.int p1), .val (.int p2), .val (.int p3), .val (.int y4), .val (.int y5), .val (.int y6), .val (.int y7), .val (.int y8), .val (.int y9), .val (.int y10), .val (.int y11), .val (.ref b8), .val (.ref b12), .unset, .unset, .unset, .unset] [(.ref b8)]))
  refine .pre (fun _ kq => XS.aload X23.here hx rfl (hb hby at_158) rfl rfl kq) ?_
  show OwnEnds p e below _ (T23.setTop (mkF m 160 #[.val (.int p0), .val (.int p1), .val (.int p2), .val (.int p3), .val (.int y4), .val (.int y5), .val (.int y6), .val (.int y7), .val (.int y8), .val (.int y9), .val (.int y10), .val (.int y11), .val (.ref b8), .val (.ref b12), .unset, .unset, .unset, .unset] [(.ref b12), (.ref b8)]))
  refine .pre (fun _ kq => XS.iconst X23.here hx rfl (hb hby at_160) kq) ?_
  show OwnEnds p e below _ (T23.setTop (mkF m 161 #[.val (.int p0), .val (.int p1), .val (.int p2), .val (.int p3), .val (.int y4), .val (.int y5), .val (.int y6), .val (.int y7), .val (.int y8), .val (.int y9), .val (.int y10), .val (.int y11), .val (.ref b8), .val (.ref b12), .unset, .unset, .unset, .unset] [(.int (1 : Int32)), (.ref b12), (.ref b8)]))
  obtain ⟨cl24, Ar24, qa24, qs24, qn24, qh24, qg24⟩ := id (V21.keep K23 (own_nin5 (Ne.symm (Nat.ne_of_lt (Nat.lt_of_lt_of_le EG11.lt (Nat.le_of_eq g12.symm)))) (Ne.symm (Nat.ne_of_lt (Nat.lt_of_lt_of_le EL11.lt (Nat.le_of_eq g12.symm)))) (Ne.symm (Nat.ne_of_lt (Nat.lt_of_lt_of_le AP11.lt (Nat.le_of_eq g12.symm)))) (Ne.symm (Nat.ne_of_lt (Nat.lt_of_lt_of_le AR11.lt (Nat.le_of_eq g12.symm)))) (Nat.ne_of_lt (Nat.lt_of_lt_of_le VV_b12.lt (Nat.le_of_eq g13.symm)))))
  have hin24 : ¬ ((1 : Int32) < 0 ∨ cl24.slots.size ≤ ((1 : Int32)).toNatClampNeg) := inb_of qs24 ⟨by decide, by decide⟩
  have hat24 : cl24.slots[((1 : Int32)).toNatClampNeg]? = some (.ref b16) := (qh24 _ (Nat.lt_of_not_le fun y => hin24 (Or.inr y))).trans (congrArg some rfl)
  refine .pre (fun _ kq => X23.aaload hx (j := (1 : Int32)) (v := (.ref b16)) (by first | exact Ar24.1 | (rw [rfl]; exact Ar24.1)) (State.isArrayOf_alike hZ.alike Ar24.2.1) rfl Ar24.2.2 hin24 hat24 (g := (mkF m 161 #[.val (.int p0), .val (.int p1), .val (.int p2), .val (.int p3), .val (.int y4), .val (.int y5), .val (.int y6), .val (.int y7), .val (.int y8), .val (.int y9), .val (.int y10), .val (.int y11), .val (.ref b8), .val (.ref b12), .unset, .unset, .unset, .unset] [(.int (1 : Int32)), (.ref b12), (.ref b8)])) rfl rfl (hb hby at_161) _ kq) ?_
  show OwnEnds p e below _ (T23.setTop (mkF m 162 #[.val (.int p0), .val (.int p1), .val (.int p2), .val (.int p3), .val (.int y4), .val (.int y5), .val (.int y6), .val (.int y7), .val (.int y8), .val (.int y9), .val (.int y10), .val (.int y11), .val (.ref b8), .val (.ref b12), .unset, .unset, .unset, .unset] [(.ref b16), (.ref b8)]))
  refine .pre (fun _ kq => XS.iconst X23.here hx rfl (hb hby at_162) kq) ?_
  show OwnEnds p e below _ (T23.setTop (mkF m 163 #[.val (.int p0), .val (.int p1), .val (.int p2), .val (.int p3), .val (.int y4), .val (.int y5), .val (.int y6), .val (.int y7), .val (.int y8), .val (.int y9), .val (.int y10), .val (.int y11), .val (.ref b8), .val (.ref b12), .unset, .unset, .unset, .unset] [(.int (-1 : Int32)), (.ref b16), (.ref b8)]))
  refine .pre (fun _ kq => XS.iconst X23.here hx rfl (hb hby at_163) kq) ?_
  show OwnEnds p e below _ (T23.setTop (mkF m 164 #[.val (.int p0), .val (.int p1), .val (.int p2), .val (.int p3), .val (.int y4), .val (.int y5), .val (.int y6), .val (.int y7), .val (.int y8), .val (.int y9), .val (.int y10), .val (.int y11), .val (.ref b8), .val (.ref b12), .unset, .unset, .unset, .unset] [(.int (-1 : Int32)), (.int (-1 : Int32)), (.ref b16), (.ref b8)]))
  have rq5_0 := (((rq3_2.keep K20).wr W21).keep K23)
  have rq5_2 := (((rq3_15.keep K20).wr W21).keep K23)
  have rq5_7 := (((rq3_26.keep K20).wr W21).keep K23)
  have rq5_8 := (V21.keep K23 (own_nin5 (Ne.symm (Nat.ne_of_lt (Nat.lt_of_lt_of_le EG11.lt (Nat.le_of_eq g12.symm)))) (Ne.symm (Nat.ne_of_lt (Nat.lt_of_lt_of_le EL11.lt (Nat.le_of_eq g12.symm)))) (Ne.symm (Nat.ne_of_lt (Nat.lt_of_lt_of_le AP11.lt (Nat.le_of_eq g12.symm)))) (Ne.symm (Nat.ne_of_lt (Nat.lt_of_lt_of_le AR11.lt (Nat.le_of_eq g12.symm)))) (Nat.ne_of_lt (Nat.lt_of_lt_of_le VV_b12.lt (Nat.le_of_eq g13.symm)))))
  have rq5_15 := (rq4_37.keep K23 (own_nin5 (Ne.symm (Nat.ne_of_lt (Nat.lt_of_lt_of_le ((((EG11.ext E12).ext E13).keep K14).wr W15).lt (Nat.le_of_eq g16.symm)))) (Ne.symm (Nat.ne_of_lt (Nat.lt_of_lt_of_le ((((EL11.ext E12).ext E13).keep K14).wr W15).lt (Nat.le_of_eq g16.symm)))) (Ne.symm (Nat.ne_of_lt (Nat.lt_of_lt_of_le ((((AP11.ext E12).ext E13).keep K14 (own_nin1 nq4_20)).other W15 (Nat.ne_of_lt (Nat.lt_of_lt_of_le AP11.lt (Nat.le_of_eq g12.symm)))).lt (Nat.le_of_eq g16.symm)))) (Ne.symm (Nat.ne_of_lt (Nat.lt_of_lt_of_le ((((AR11.ext E12).ext E13).keep K14 (own_nin1 nq4_25)).other W15 (Nat.ne_of_lt (Nat.lt_of_lt_of_le AR11.lt (Nat.le_of_eq g12.symm)))).lt (Nat.le_of_eq g16.symm)))) (Ne.symm (Nat.ne_of_lt (Nat.lt_of_lt_of_le (Ea14.wr W15).lt (Nat.le_of_eq g16.symm))))))
  have rq5_16 := (rq4_38.keep K23 (own_nin5 (Ne.symm (Nat.ne_of_lt (Nat.lt_of_lt_of_le ((((EG11.ext E12).ext E13).keep K14).wr W15).lt (Nat.le_of_eq g16.symm)))) (Ne.symm (Nat.ne_of_lt (Nat.lt_of_lt_of_le ((((EL11.ext E12).ext E13).keep K14).wr W15).lt (Nat.le_of_eq g16.symm)))) (Ne.symm (Nat.ne_of_lt (Nat.lt_of_lt_of_le ((((AP11.ext E12).ext E13).keep K14 (own_nin1 nq4_20)).other W15 (Nat.ne_of_lt (Nat.lt_of_lt_of_le AP11.lt (Nat.le_of_eq g12.symm)))).lt (Nat.le_of_eq g16.symm)))) (Ne.symm (Nat.ne_of_lt (Nat.lt_of_lt_of_le ((((AR11.ext E12).ext E13).keep K14 (own_nin1 nq4_25)).other W15 (Nat.ne_of_lt (Nat.lt_of_lt_of_le AR11.lt (Nat.le_of_eq g12.symm)))).lt (Nat.le_of_eq g16.symm)))) (Ne.symm (Nat.ne_of_lt (Nat.lt_of_lt_of_le (Ea14.wr W15).lt (Nat.le_of_eq g16.symm))))))
  have rq5_19 := (rq4_41.keep K23 (own_nin5 (Ne.symm (Nat.ne_of_lt (Nat.lt_of_lt_of_le ((rq2_2.keep K17).wr W18).lt (Nat.le_of_eq g19.symm)))) (Ne.symm (Nat.ne_of_lt (Nat.lt_of_lt_of_le ((rq2_26.keep K17).wr W18).lt (Nat.le_of_eq g19.symm)))) (Ne.symm (Nat.ne_of_lt (Nat.lt_of_lt_of_le ((rq2_20.keep K17 (own_nin1 (Nat.ne_of_lt (Nat.lt_of_lt_of_le ((((AP11.ext E12).ext E13).keep K14 (own_nin1 nq4_20)).other W15 (Nat.ne_of_lt (Nat.lt_of_lt_of_le AP11.lt (Nat.le_of_eq g12.symm)))).lt (Nat.le_of_eq g16.symm))))).other W18 (Nat.ne_of_lt (Nat.lt_of_lt_of_le AP11.lt (Nat.le_of_eq g12.symm)))).lt (Nat.le_of_eq g19.symm)))) (Ne.symm (Nat.ne_of_lt (Nat.lt_of_lt_of_le ((rq2_21.keep K17 (own_nin1 (Nat.ne_of_lt (Nat.lt_of_lt_of_le ((((AR11.ext E12).ext E13).keep K14 (own_nin1 nq4_25)).other W15 (Nat.ne_of_lt (Nat.lt_of_lt_of_le AR11.lt (Nat.le_of_eq g12.symm)))).lt (Nat.le_of_eq g16.symm))))).other W18 (Nat.ne_of_lt (Nat.lt_of_lt_of_le AR11.lt (Nat.le_of_eq g12.symm)))).lt (Nat.le_of_eq g19.symm)))) (Ne.symm (Nat.ne_of_lt (Nat.lt_of_lt_of_le ((((Ea14.wr W15).ext E16).keep K17).wr W18).lt (Nat.le_of_eq g19.symm))))))
  have rq5_20 := (rq4_42.keep K23 (own_nin5 (Ne.symm (Nat.ne_of_lt (Nat.lt_of_lt_of_le ((rq2_2.keep K17).wr W18).lt (Nat.le_of_eq g19.symm)))) (Ne.symm (Nat.ne_of_lt (Nat.lt_of_lt_of_le ((rq2_26.keep K17).wr W18).lt (Nat.le_of_eq g19.symm)))) (Ne.symm (Nat.ne_of_lt (Nat.lt_of_lt_of_le ((rq2_20.keep K17 (own_nin1 (Nat.ne_of_lt (Nat.lt_of_lt_of_le ((((AP11.ext E12).ext E13).keep K14 (own_nin1 nq4_20)).other W15 (Nat.ne_of_lt (Nat.lt_of_lt_of_le AP11.lt (Nat.le_of_eq g12.symm)))).lt (Nat.le_of_eq g16.symm))))).other W18 (Nat.ne_of_lt (Nat.lt_of_lt_of_le AP11.lt (Nat.le_of_eq g12.symm)))).lt (Nat.le_of_eq g19.symm)))) (Ne.symm (Nat.ne_of_lt (Nat.lt_of_lt_of_le ((rq2_21.keep K17 (own_nin1 (Nat.ne_of_lt (Nat.lt_of_lt_of_le ((((AR11.ext E12).ext E13).keep K14 (own_nin1 nq4_25)).other W15 (Nat.ne_of_lt (Nat.lt_of_lt_of_le AR11.lt (Nat.le_of_eq g12.symm)))).lt (Nat.le_of_eq g16.symm))))).other W18 (Nat.ne_of_lt (Nat.lt_of_lt_of_le AR11.lt (Nat.le_of_eq g12.symm)))).lt (Nat.le_of_eq g19.symm)))) (Ne.symm (Nat.ne_of_lt (Nat.lt_of_lt_of_le ((((Ea14.wr W15).ext E16).keep K17).wr W18).lt (Nat.le_of_eq g19.symm))))))
  have nq5_7 : b8 ≠ b16 := (Nat.ne_of_lt (Nat.lt_of_lt_of_le ((((EG11.ext E12).ext E13).keep K14).wr W15).lt (Nat.le_of_eq g16.symm)))
  have nq5_8 : b8 ≠ d23 := (Nat.ne_of_lt (Nat.lt_of_lt_of_le ((rq3_2.keep K20).wr W21).lt szd23))
  have nq5_15 : aL11 ≠ b16 := (Nat.ne_of_lt (Nat.lt_of_lt_of_le ((((EL11.ext E12).ext E13).keep K14).wr W15).lt (Nat.le_of_eq g16.symm)))
  have nq5_16 : aL11 ≠ d23 := (Nat.ne_of_lt (Nat.lt_of_lt_of_le ((rq3_26.keep K20).wr W21).lt szd23))
  have nq5_22 : aP11 ≠ b16 := (Nat.ne_of_lt (Nat.lt_of_lt_of_le ((((AP11.ext E12).ext E13).keep K14 (own_nin1 nq4_20)).other W15 (Nat.ne_of_lt (Nat.lt_of_lt_of_le AP11.lt (Nat.le_of_eq g12.symm)))).lt (Nat.le_of_eq g16.symm)))
  have nq5_23 : aP11 ≠ d23 := (Nat.ne_of_lt (Nat.lt_of_lt_of_le rq4_20.lt szd23))
  have nq5_28 : aR11 ≠ b16 := (Nat.ne_of_lt (Nat.lt_of_lt_of_le ((((AR11.ext E12).ext E13).keep K14 (own_nin1 nq4_25)).other W15 (Nat.ne_of_lt (Nat.lt_of_lt_of_le AR11.lt (Nat.le_of_eq g12.symm)))).lt (Nat.le_of_eq g16.symm)))
  have nq5_29 : aR11 ≠ d23 := (Nat.ne_of_lt (Nat.lt_of_lt_of_le rq4_21.lt szd23))
  have nq5_33 : aF11 ≠ b16 := (Nat.ne_of_lt (Nat.lt_of_lt_of_le ((((AF11.ext E12).ext E13).keep K14 (own_nin1 nq4_29)).other W15 (Nat.ne_of_lt (Nat.lt_of_lt_of_le AF11.lt (Nat.le_of_eq g12.symm)))).lt (Nat.le_of_eq g16.symm)))
  have nq5_34 : aF11 ≠ d23 := (Nat.ne_of_lt (Nat.lt_of_lt_of_le rq4_22.lt szd23))
  have nq5_37 : aE11 ≠ b16 := (Nat.ne_of_lt (Nat.lt_of_lt_of_le ((((AE11.ext E12).ext E13).keep K14 (own_nin1 nq4_32)).other W15 (Nat.ne_of_lt (Nat.lt_of_lt_of_le AE11.lt (Nat.le_of_eq g12.symm)))).lt (Nat.le_of_eq g16.symm)))
  have nq5_38 : aE11 ≠ d23 := (Nat.ne_of_lt (Nat.lt_of_lt_of_le rq4_23.lt szd23))
  have nq5_40 : aT11 ≠ b16 := (Nat.ne_of_lt (Nat.lt_of_lt_of_le ((((AT11.ext E12).ext E13).keep K14 (own_nin1 nq4_34)).other W15 (Nat.ne_of_lt (Nat.lt_of_lt_of_le AT11.lt (Nat.le_of_eq g12.symm)))).lt (Nat.le_of_eq g16.symm)))
  have nq5_41 : aT11 ≠ d23 := (Nat.ne_of_lt (Nat.lt_of_lt_of_le rq4_24.lt szd23))
  have nq5_42 : aA11 ≠ b16 := (Nat.ne_of_lt (Nat.lt_of_lt_of_le ((((AA11.ext E12).ext E13).keep K14 (own_nin1 nq4_35)).other W15 (Nat.ne_of_lt (Nat.lt_of_lt_of_le AA11.lt (Nat.le_of_eq g12.symm)))).lt (Nat.le_of_eq g16.symm)))
  have nq5_43 : aA11 ≠ d23 := (Nat.ne_of_lt (Nat.lt_of_lt_of_le rq4_25.lt szd23))
  have nq5_44 : b16 ≠ d23 := (Nat.ne_of_lt (Nat.lt_of_lt_of_le rq4_35.lt szd23))
  have Dn25 : [b8, aL11, aP11, aR11, aF11, aE11, aT11, aA11, b16, d23].Pairwise (· ≠ ·) := (List.Pairwise.cons (allS (own_nd D11 0 1 rfl rfl (by decide)) (allS (own_nd D11 0 2 rfl rfl (by decide)) (allS (own_nd D11 0 3 rfl rfl (by decide)) (allS (own_nd D11 0 4 rfl rfl (by decide)) (allS (own_nd D11 0 5 rfl rfl (by decide)) (allS (own_nd D11 0 6 rfl rfl (by decide)) (allS (own_nd D11 0 7 rfl rfl (by decide)) (allS nq5_7 (allS nq5_8 all0))))))))) (List.Pairwise.cons (allS (own_nd D11 1 2 rfl rfl (by decide)) (allS (own_nd D11 1 3 rfl rfl (by decide)) (allS (own_nd D11 1 4 rfl rfl (by decide)) (allS (own_nd D11 1 5 rfl rfl (by decide)) (allS (own_nd D11 1 6 rfl rfl (by decide)) (allS (own_nd D11 1 7 rfl rfl (by decide)) (allS nq5_15 (allS nq5_16 all0)))))))) (List.Pairwise.cons (allS (own_nd D11 2 3 rfl rfl (by decide)) (allS (own_nd D11 2 4 rfl rfl (by decide)) (allS (own_nd D11 2 5 rfl rfl (by decide)) (allS (own_nd D11 2 6 rfl rfl (by decide)) (allS (own_nd D11 2 7 rfl rfl (by decide)) (allS nq5_22 (allS nq5_23 all0))))))) (List.Pairwise.cons (allS (own_nd D11 3 4 rfl rfl (by decide)) (allS (own_nd D11 3 5 rfl rfl (by decide)) (allS (own_nd D11 3 6 rfl rfl (by decide)) (allS (own_nd D11 3 7 rfl rfl (by decide)) (allS nq5_28 (allS nq5_29 all0)))))) (List.Pairwise.cons (allS (own_nd D11 4 5 rfl rfl (by decide)) (allS (own_nd D11 4 6 rfl rfl (by decide)) (allS (own_nd D11 4 7 rfl rfl (by decide)) (allS nq5_33 (allS nq5_34 all0))))) (List.Pairwise.cons (allS (own_nd D11 5 6 rfl rfl (by decide)) (allS (own_nd D11 5 7 rfl rfl (by decide)) (allS nq5_37 (allS nq5_38 all0)))) (List.Pairwise.cons (allS (own_nd D11 6 7 rfl rfl (by decide)) (allS nq5_40 (allS nq5_41 all0))) (List.Pairwise.cons (allS nq5_42 (allS nq5_43 all0)) (List.Pairwise.cons (allS nq5_44 all0) (List.Pairwise.cons all0 List.Pairwise.nil))))))))))
  have GNn25 : ∀ x ∈ [b8, aL11, aP11, aR11, aF11, aE11, aT11, aA11, b16, d23], n0 ≤ x := (allS g_b8 (allS g_aL11 (allS g_aP11 (allS g_aR11 (allS g_aF11 (allS g_aE11 (allS g_aT11 (allS g_aA11 (allS g_b16 (allS g_d23 all0))))))))))
  obtain ⟨cq25, kq25, q25a, q25b, q25c⟩ := isOf hZ rfl rq5_0
  obtain ⟨_, _, ⟨T25, L25, k25, n25⟩, -, X25, ⟨Lc25, hQ25, l25, y25, z25⟩, st25⟩ := X23.virtualBack hx (y := (⟨"com/example/changeset/changeset/check/StateGraph", "add", "(Lcom/example/changeset/changeset/check/FoundState;II)Z"⟩ : MethodName)) (z := (⟨"com/example/changeset/changeset/check/StateGraph", "add", "(Lcom/example/changeset/changeset/check/FoundState;II)Z"⟩ : MethodName)) hown (mvT hZ (hw _ (List.mem_of_getElem? (i := 88) rfl))) (mvT hZ (hw _ (List.mem_of_getElem? (i := 89) rfl))) (notFace_of_selects (args := #[]) (mvT hZ (hw _ (List.mem_of_getElem? (i := 91) rfl)))) (mvT hZ (hw _ (List.mem_of_getElem? (i := 91) rfl))) (mvT hZ (hw _ (List.mem_of_getElem? (i := 90) rfl))) (by decide) (backOf (W := 0) (rm10B l Z aZ hw [] b8 b16 aL11 aP11 aR11 aF11 aE11 aT11 aA11 (-1 : Int32) 0 (0 + 1) (fun _ => 0) (fun _ => 0) d23 (1 : Int32)  T23.heap n0 (Nat.le_trans (Nat.le_trans (Nat.le_trans (Nat.le_trans (Nat.le_trans (Nat.le_trans (Nat.le_trans (Nat.le_trans (Nat.le_trans (Nat.le_trans (Nat.le_trans (Nat.le_trans (Nat.le_trans (Nat.le_trans (Nat.le_trans Z0 E8.1) E9.1) K10.1) K11.1) E12.1) E13.1) K14.1) (Keep.of_wr W15).1) E16.1) K17.1) (Keep.of_wr W18).1) E19.1) K20.1) (Keep.of_wr W21).1) K23.1) HG23 HL23 (rq4_35.keep K23) rq5_15 rq5_16 Dn25 GNn25 (by decide)) hZ (hw _ (List.mem_of_getElem? (i := 92) rfl)) (hw _ (List.mem_of_getElem? (i := 6) rfl)) (by decide) (by decide)) q25a q25c (g := (mkF m 164 #[.val (.int p0), .val (.int p1), .val (.int p2), .val (.int p3), .val (.int y4), .val (.int y5), .val (.int y6), .val (.int y7), .val (.int y8), .val (.int y9), .val (.int y10), .val (.int y11), .val (.ref b8), .val (.ref b12), .unset, .unset, .unset, .unset] [(.int (-1 : Int32)), (.int (-1 : Int32)), (.ref b16), (.ref b8)])) rfl (by rw [hml]; rfl) (Steps.refl _) (argsL := [(.ref b16), (.int (-1 : Int32)), (.int (-1 : Int32))]) (rest := []) (lenOf pd_20 rfl) rfl (by show 2 * 0 + _ ≤ _; exact Nat.le_of_eq rfl) (hb hby at_164) (fun _ _ => ⟨rfl, rfl, (by decide : 15 + 0 ≤ _), (by decide : 6197 + 0 ≤ _)⟩)
  dsimp only [Pt.U, Pt.locs, Pt.cells, Pt.slots] at X25 l25 y25 z25 st25 hQ25
  try dsimp only [Nat.reduceAdd] at y25 z25
  subst y25 z25
  obtain ⟨rfl, N25q, K25, HG25, HL25, fsE25, fsN25, fsS25⟩ := hQ25
  have N25 : Fr n0 L25 := by rw [l25]; exact Fr.app N23 N25q
  refine .pre (fun _ kq => st25.trans kq) ?_
  show OwnEnds p e below _ (T25.setTop (mkF m 167 #[.val (.int p0), .val (.int p1), .val (.int p2), .val (.int p3), .val (.int y4), .val (.int y5), .val (.int y6), .val (.int y7), .val (.int y8), .val (.int y9), .val (.int y10), .val (.int y11), .val (.ref b8), .val (.ref b12), .unset, .unset, .unset, .unset] [(.int (1 : Int32))]))
  refine .pre (fun _ kq => XS.pop X25.here hx rfl (hb hby at_167) rfl rfl kq) ?_
  show OwnEnds p e below _ (T25.setTop (mkF m 168 #[.val (.int p0), .val (.int p1), .val (.int p2), .val (.int p3), .val (.int y4), .val (.int y5), .val (.int y6), .val (.int y7), .val (.int y8), .val (.int y9), .val (.int y10), .val (.int y11), .val (.ref b8), .val (.ref b12), .unset, .unset, .unset, .unset] []))
  refine .pre (fun _ kq => XS.aload X25.here hx rfl (hb hby at_168) rfl rfl kq) ?_
  show OwnEnds p e below _ (T25.setTop (mkF m 170 #[.val (.int p0), .val (.int p1), .val (.int p2), .val (.int p3), .val (.int y4), .val (.int y5), .val (.int y6), .val (.int y7), .val (.int y8), .val (.int y9), .val (.int y10), .val (.int y11), .val (.ref b8), .val (.ref b12), .unset, .unset, .unset, .unset] [(.ref b8)]))
  refine .pre (fun _ kq => XS.aload X25.here hx rfl (hb hby at_170) rfl rfl kq) ?_
  show OwnEnds p e below _ (T25.setTop (mkF m 172 #[.val (.int p0), .val (.int p1), .val (.int p2), .val (.int p3), .val (.int y4), .val (.int y5), .val (.int y6), .val (.int y7), .val (.int y8), .val (.int y9), .val (.int y10), .val (.int y11), .val (.ref b8), .val (.ref b12), .unset, .unset, .unset, .unset] [(.ref b12), (.ref b8)]))
  refine .pre (fun _ kq => XS.iconst X25.here hx rfl (hb hby at_172) kq) ?_
  show OwnEnds p e below _ (T25.setTop (mkF m 173 #[.val (.int p0), .val (.int p1), .val (.int p2), .val (.int p3), .val (.int y4), .val (.int y5), .val (.int y6), .val (.int y7), .val (.int y8), .val (.int y9), .val (.int y10), .val (.int y11), .val (.ref b8), .val (.ref b12), .unset, .unset, .unset, .unset] [(.int (2 : Int32)), (.ref b12), (.ref b8)]))
  obtain ⟨cl26, Ar26, qa26, qs26, qn26, qh26, qg26⟩ := id (rq5_8.keep K25 (own_nin6 (Ne.symm (Nat.ne_of_lt (Nat.lt_of_lt_of_le EG11.lt (Nat.le_of_eq g12.symm)))) (Ne.symm (Nat.ne_of_lt (Nat.lt_of_lt_of_le EL11.lt (Nat.le_of_eq g12.symm)))) (Ne.symm (Nat.ne_of_lt (Nat.lt_of_lt_of_le AP11.lt (Nat.le_of_eq g12.symm)))) (Ne.symm (Nat.ne_of_lt (Nat.lt_of_lt_of_le AR11.lt (Nat.le_of_eq g12.symm)))) (Nat.ne_of_lt (Nat.lt_of_lt_of_le V15.lt (Nat.le_of_eq g16.symm))) (Nat.ne_of_lt (Nat.lt_of_lt_of_le V21.lt szd23))))
  have hin26 : ¬ ((2 : Int32) < 0 ∨ cl26.slots.size ≤ ((2 : Int32)).toNatClampNeg) := inb_of qs26 ⟨by decide, by decide⟩
  have hat26 : cl26.slots[((2 : Int32)).toNatClampNeg]? = some (.ref b19) := (qh26 _ (Nat.lt_of_not_le fun y => hin26 (Or.inr y))).trans (congrArg some rfl)
  refine .pre (fun _ kq => X25.aaload hx (j := (2 : Int32)) (v := (.ref b19)) (by first | exact Ar26.1 | (rw [rfl]; exact Ar26.1)) (State.isArrayOf_alike hZ.alike Ar26.2.1) rfl Ar26.2.2 hin26 hat26 (g := (mkF m 173 #[.val (.int p0), .val (.int p1), .val (.int p2), .val (.int p3), .val (.int y4), .val (.int y5), .val (.int y6), .val (.int y7), .val (.int y8), .val (.int y9), .val (.int y10), .val (.int y11), .val (.ref b8), .val (.ref b12), .unset, .unset, .unset, .unset] [(.int (2 : Int32)), (.ref b12), (.ref b8)])) rfl rfl (hb hby at_173) _ kq) ?_
  show OwnEnds p e below _ (T25.setTop (mkF m 174 #[.val (.int p0), .val (.int p1), .val (.int p2), .val (.int p3), .val (.int y4), .val (.int y5), .val (.int y6), .val (.int y7), .val (.int y8), .val (.int y9), .val (.int y10), .val (.int y11), .val (.ref b8), .val (.ref b12), .unset, .unset, .unset, .unset] [(.ref b19), (.ref b8)]))
  refine .pre (fun _ kq => XS.iconst X25.here hx rfl (hb hby at_174) kq) ?_
  show OwnEnds p e below _ (T25.setTop (mkF m 175 #[.val (.int p0), .val (.int p1), .val (.int p2), .val (.int p3), .val (.int y4), .val (.int y5), .val (.int y6), .val (.int y7), .val (.int y8), .val (.int y9), .val (.int y10), .val (.int y11), .val (.ref b8), .val (.ref b12), .unset, .unset, .unset, .unset] [(.int (-1 : Int32)), (.ref b19), (.ref b8)]))
  refine .pre (fun _ kq => XS.iconst X25.here hx rfl (hb hby at_175) kq) ?_
  show OwnEnds p e below _ (T25.setTop (mkF m 176 #[.val (.int p0), .val (.int p1), .val (.int p2), .val (.int p3), .val (.int y4), .val (.int y5), .val (.int y6), .val (.int y7), .val (.int y8), .val (.int y9), .val (.int y10), .val (.int y11), .val (.ref b8), .val (.ref b12), .unset, .unset, .unset, .unset] [(.int (-1 : Int32)), (.int (-1 : Int32)), (.ref b19), (.ref b8)]))
  have rq6_5 := (rq5_8.keep K25 (own_nin6 (Ne.symm (Nat.ne_of_lt (Nat.lt_of_lt_of_le EG11.lt (Nat.le_of_eq g12.symm)))) (Ne.symm (Nat.ne_of_lt (Nat.lt_of_lt_of_le EL11.lt (Nat.le_of_eq g12.symm)))) (Ne.symm (Nat.ne_of_lt (Nat.lt_of_lt_of_le AP11.lt (Nat.le_of_eq g12.symm)))) (Ne.symm (Nat.ne_of_lt (Nat.lt_of_lt_of_le AR11.lt (Nat.le_of_eq g12.symm)))) (Nat.ne_of_lt (Nat.lt_of_lt_of_le V15.lt (Nat.le_of_eq g16.symm))) (Nat.ne_of_lt (Nat.lt_of_lt_of_le V21.lt szd23))))
  have rq6_8 := (fsN23.keep K25 (own_nin6 (Ne.symm nq4_7) (Ne.symm nq4_14) (Ne.symm nq4_20) (Ne.symm nq4_25) (Nat.ne_of_lt (Nat.lt_of_lt_of_le (Ea14.wr W15).lt (Nat.le_of_eq g16.symm))) (Nat.ne_of_lt (Nat.lt_of_lt_of_le ((rq3_31.keep K20).wr W21).lt szd23))))
  have rq6_9 := (fsS23.keep K25 (own_nin6 (Ne.symm nq4_7) (Ne.symm nq4_14) (Ne.symm nq4_20) (Ne.symm nq4_25) (Nat.ne_of_lt (Nat.lt_of_lt_of_le (Ea14.wr W15).lt (Nat.le_of_eq g16.symm))) (Nat.ne_of_lt (Nat.lt_of_lt_of_le ((rq3_31.keep K20).wr W21).lt szd23))))
  have rq6_14 := (((Ea20.wr W21).keep K23).keep K25)
  have rq6_16 := (rq5_19.keep K25 (own_nin6 (Ne.symm (Nat.ne_of_lt (Nat.lt_of_lt_of_le ((rq2_2.keep K17).wr W18).lt (Nat.le_of_eq g19.symm)))) (Ne.symm (Nat.ne_of_lt (Nat.lt_of_lt_of_le ((rq2_26.keep K17).wr W18).lt (Nat.le_of_eq g19.symm)))) (Ne.symm (Nat.ne_of_lt (Nat.lt_of_lt_of_le ((rq2_20.keep K17 (own_nin1 nq5_22)).other W18 (Nat.ne_of_lt (Nat.lt_of_lt_of_le AP11.lt (Nat.le_of_eq g12.symm)))).lt (Nat.le_of_eq g19.symm)))) (Ne.symm (Nat.ne_of_lt (Nat.lt_of_lt_of_le ((rq2_21.keep K17 (own_nin1 nq5_28)).other W18 (Nat.ne_of_lt (Nat.lt_of_lt_of_le AR11.lt (Nat.le_of_eq g12.symm)))).lt (Nat.le_of_eq g19.symm)))) (Ne.symm (Nat.ne_of_lt (Nat.lt_of_lt_of_le (Ea17.wr W18).lt (Nat.le_of_eq g19.symm)))) (Nat.ne_of_lt (Nat.lt_of_lt_of_le (Ea20.wr W21).lt szd23))))
  have rq6_17 := (rq5_20.keep K25 (own_nin6 (Ne.symm (Nat.ne_of_lt (Nat.lt_of_lt_of_le ((rq2_2.keep K17).wr W18).lt (Nat.le_of_eq g19.symm)))) (Ne.symm (Nat.ne_of_lt (Nat.lt_of_lt_of_le ((rq2_26.keep K17).wr W18).lt (Nat.le_of_eq g19.symm)))) (Ne.symm (Nat.ne_of_lt (Nat.lt_of_lt_of_le ((rq2_20.keep K17 (own_nin1 nq5_22)).other W18 (Nat.ne_of_lt (Nat.lt_of_lt_of_le AP11.lt (Nat.le_of_eq g12.symm)))).lt (Nat.le_of_eq g19.symm)))) (Ne.symm (Nat.ne_of_lt (Nat.lt_of_lt_of_le ((rq2_21.keep K17 (own_nin1 nq5_28)).other W18 (Nat.ne_of_lt (Nat.lt_of_lt_of_le AR11.lt (Nat.le_of_eq g12.symm)))).lt (Nat.le_of_eq g19.symm)))) (Ne.symm (Nat.ne_of_lt (Nat.lt_of_lt_of_le (Ea17.wr W18).lt (Nat.le_of_eq g19.symm)))) (Nat.ne_of_lt (Nat.lt_of_lt_of_le (Ea20.wr W21).lt szd23))))
  have nq6_7 : b8 ≠ b19 := (Nat.ne_of_lt (Nat.lt_of_lt_of_le ((rq2_2.keep K17).wr W18).lt (Nat.le_of_eq g19.symm)))
  have nq6_15 : aL11 ≠ b19 := (Nat.ne_of_lt (Nat.lt_of_lt_of_le ((rq2_26.keep K17).wr W18).lt (Nat.le_of_eq g19.symm)))
  have nq6_22 : aP11 ≠ b19 := (Nat.ne_of_lt (Nat.lt_of_lt_of_le ((rq2_20.keep K17 (own_nin1 nq5_22)).other W18 (Nat.ne_of_lt (Nat.lt_of_lt_of_le AP11.lt (Nat.le_of_eq g12.symm)))).lt (Nat.le_of_eq g19.symm)))
  have nq6_28 : aR11 ≠ b19 := (Nat.ne_of_lt (Nat.lt_of_lt_of_le ((rq2_21.keep K17 (own_nin1 nq5_28)).other W18 (Nat.ne_of_lt (Nat.lt_of_lt_of_le AR11.lt (Nat.le_of_eq g12.symm)))).lt (Nat.le_of_eq g19.symm)))
  have nq6_33 : aF11 ≠ b19 := (Nat.ne_of_lt (Nat.lt_of_lt_of_le ((rq2_22.keep K17 (own_nin1 nq5_33)).other W18 (Nat.ne_of_lt (Nat.lt_of_lt_of_le AF11.lt (Nat.le_of_eq g12.symm)))).lt (Nat.le_of_eq g19.symm)))
  have nq6_37 : aE11 ≠ b19 := (Nat.ne_of_lt (Nat.lt_of_lt_of_le ((rq2_23.keep K17 (own_nin1 nq5_37)).other W18 (Nat.ne_of_lt (Nat.lt_of_lt_of_le AE11.lt (Nat.le_of_eq g12.symm)))).lt (Nat.le_of_eq g19.symm)))
  have nq6_40 : aT11 ≠ b19 := (Nat.ne_of_lt (Nat.lt_of_lt_of_le ((rq2_24.keep K17 (own_nin1 nq5_40)).other W18 (Nat.ne_of_lt (Nat.lt_of_lt_of_le AT11.lt (Nat.le_of_eq g12.symm)))).lt (Nat.le_of_eq g19.symm)))
  have nq6_42 : aA11 ≠ b19 := (Nat.ne_of_lt (Nat.lt_of_lt_of_le ((rq2_25.keep K17 (own_nin1 nq5_42)).other W18 (Nat.ne_of_lt (Nat.lt_of_lt_of_le AA11.lt (Nat.le_of_eq g12.symm)))).lt (Nat.le_of_eq g19.symm)))
  have nq6_44 : b19 ≠ d23 := (Nat.ne_of_lt (Nat.lt_of_lt_of_le (Ea20.wr W21).lt szd23))
  have Dn27 : [b8, aL11, aP11, aR11, aF11, aE11, aT11, aA11, b19, d23].Pairwise (· ≠ ·) := (List.Pairwise.cons (allS (own_nd D11 0 1 rfl rfl (by decide)) (allS (own_nd D11 0 2 rfl rfl (by decide)) (allS (own_nd D11 0 3 rfl rfl (by decide)) (allS (own_nd D11 0 4 rfl rfl (by decide)) (allS (own_nd D11 0 5 rfl rfl (by decide)) (allS (own_nd D11 0 6 rfl rfl (by decide)) (allS (own_nd D11 0 7 rfl rfl (by decide)) (allS nq6_7 (allS nq5_8 all0))))))))) (List.Pairwise.cons (allS (own_nd D11 1 2 rfl rfl (by decide)) (allS (own_nd D11 1 3 rfl rfl (by decide)) (allS (own_nd D11 1 4 rfl rfl (by decide)) (allS (own_nd D11 1 5 rfl rfl (by decide)) (allS (own_nd D11 1 6 rfl rfl (by decide)) (allS (own_nd D11 1 7 rfl rfl (by decide)) (allS nq6_15 (allS nq5_16 all0)))))))) (List.Pairwise.cons (allS (own_nd D11 2 3 rfl rfl (by decide)) (allS (own_nd D11 2 4 rfl rfl (by decide)) (allS (own_nd D11 2 5 rfl rfl (by decide)) (allS (own_nd D11 2 6 rfl rfl (by decide)) (allS (own_nd D11 2 7 rfl rfl (by decide)) (allS nq6_22 (allS nq5_23 all0))))))) (List.Pairwise.cons (allS (own_nd D11 3 4 rfl rfl (by decide)) (allS (own_nd D11 3 5 rfl rfl (by decide)) (allS (own_nd D11 3 6 rfl rfl (by decide)) (allS (own_nd D11 3 7 rfl rfl (by decide)) (allS nq6_28 (allS nq5_29 all0)))))) (List.Pairwise.cons (allS (own_nd D11 4 5 rfl rfl (by decide)) (allS (own_nd D11 4 6 rfl rfl (by decide)) (allS (own_nd D11 4 7 rfl rfl (by decide)) (allS nq6_33 (allS nq5_34 all0))))) (List.Pairwise.cons (allS (own_nd D11 5 6 rfl rfl (by decide)) (allS (own_nd D11 5 7 rfl rfl (by decide)) (allS nq6_37 (allS nq5_38 all0)))) (List.Pairwise.cons (allS (own_nd D11 6 7 rfl rfl (by decide)) (allS nq6_40 (allS nq5_41 all0))) (List.Pairwise.cons (allS nq6_42 (allS nq5_43 all0)) (List.Pairwise.cons (allS nq6_44 all0) (List.Pairwise.cons all0 List.Pairwise.nil))))))))))
  have GNn27 : ∀ x ∈ [b8, aL11, aP11, aR11, aF11, aE11, aT11, aA11, b19, d23], n0 ≤ x := (allS g_b8 (allS g_aL11 (allS g_aP11 (allS g_aR11 (allS g_aF11 (allS g_aE11 (allS g_aT11 (allS g_aA11 (allS g_b19 (allS g_d23 all0))))))))))
  obtain ⟨cq27, kq27, q27a, q27b, q27c⟩ := isOf hZ rfl (rq5_0.keep K25)
  obtain ⟨_, _, ⟨T27, L27, k27, n27⟩, -, X27, ⟨Lc27, hQ27, l27, y27, z27⟩, st27⟩ := X25.virtualBack hx (y := (⟨"com/example/changeset/changeset/check/StateGraph", "add", "(Lcom/example/changeset/changeset/check/FoundState;II)Z"⟩ : MethodName)) (z := (⟨"com/example/changeset/changeset/check/StateGraph", "add", "(Lcom/example/changeset/changeset/check/FoundState;II)Z"⟩ : MethodName)) hown (mvT hZ (hw _ (List.mem_of_getElem? (i := 88) rfl))) (mvT hZ (hw _ (List.mem_of_getElem? (i := 89) rfl))) (notFace_of_selects (args := #[]) (mvT hZ (hw _ (List.mem_of_getElem? (i := 91) rfl)))) (mvT hZ (hw _ (List.mem_of_getElem? (i := 91) rfl))) (mvT hZ (hw _ (List.mem_of_getElem? (i := 90) rfl))) (by decide) (backOf (W := 0) (rm10B l Z aZ hw [] b8 b19 aL11 aP11 aR11 aF11 aE11 aT11 aA11 (-1 : Int32) 0 (0 + 1 + 1) (fun _ => 0) (fun _ => 0) d23 ((1 : Int32) + 1)  T25.heap n0 (Nat.le_trans (Nat.le_trans (Nat.le_trans (Nat.le_trans (Nat.le_trans (Nat.le_trans (Nat.le_trans (Nat.le_trans (Nat.le_trans (Nat.le_trans (Nat.le_trans (Nat.le_trans (Nat.le_trans (Nat.le_trans (Nat.le_trans (Nat.le_trans Z0 E8.1) E9.1) K10.1) K11.1) E12.1) E13.1) K14.1) (Keep.of_wr W15).1) E16.1) K17.1) (Keep.of_wr W18).1) E19.1) K20.1) (Keep.of_wr W21).1) K23.1) K25.1) HG25 HL25 rq6_14 rq6_16 rq6_17 Dn27 GNn27 (by decide)) hZ (hw _ (List.mem_of_getElem? (i := 92) rfl)) (hw _ (List.mem_of_getElem? (i := 6) rfl)) (by decide) (by decide)) q27a q27c (g := (mkF m 176 #[.val (.int p0), .val (.int p1), .val (.int p2), .val (.int p3), .val (.int y4), .val (.int y5), .val (.int y6), .val (.int y7), .val (.int y8), .val (.int y9), .val (.int y10), .val (.int y11), .val (.ref b8), .val (.ref b12), .unset, .unset, .unset, .unset] [(.int (-1 : Int32)), (.int (-1 : Int32)), (.ref b19), (.ref b8)])) rfl (by rw [hml]; rfl) (Steps.refl _) (argsL := [(.ref b19), (.int (-1 : Int32)), (.int (-1 : Int32))]) (rest := []) (lenOf pd_20 rfl) rfl (by show 2 * 0 + _ ≤ _; exact Nat.le_of_eq rfl) (hb hby at_176) (fun _ _ => ⟨rfl, rfl, (by decide : 15 + 0 ≤ _), (by decide : 6197 + 0 ≤ _)⟩)
  dsimp only [Pt.U, Pt.locs, Pt.cells, Pt.slots] at X27 l27 y27 z27 st27 hQ27
  try dsimp only [Nat.reduceAdd] at y27 z27
  subst y27 z27
  obtain ⟨rfl, N27q, K27, HG27, HL27, fsE27, fsN27, fsS27⟩ := hQ27
  have N27 : Fr n0 L27 := by rw [l27]; exact Fr.app N25 N27q
  refine .pre (fun _ kq => st27.trans kq) ?_
  show OwnEnds p e below _ (T27.setTop (mkF m 179 #[.val (.int p0), .val (.int p1), .val (.int p2), .val (.int p3), .val (.int y4), .val (.int y5), .val (.int y6), .val (.int y7), .val (.int y8), .val (.int y9), .val (.int y10), .val (.int y11), .val (.ref b8), .val (.ref b12), .unset, .unset, .unset, .unset] [(.int (1 : Int32))]))
  refine .pre (fun _ kq => XS.pop X27.here hx rfl (hb hby at_179) rfl rfl kq) ?_
  have R239 : ∀ (G : OwnGT) (hh : Heap) (T : State) (L : List Loc) (X : Stand p l e room_1 s m #[(.int p0), (.int p1), (.int p2), (.int p3)] below meth c T L 15 6197) (eT : T.heap = hh) (N : Fr n0 L) (Zh : n0 ≤ hh.size) (HGx : OwnGx Z hh b8 aL11 aP11 aR11 aF11 aE11 aT11 aA11 (0 + 1 + 1 + 1) G), f0_239 y4 y5 y6 y7 y8 y9 y10 y11 aF11 G = 1 → OwnEnds p e below (OwnQ s (Q0 Z p0 p1 p2 p3 xD h0 n0) 40 12480) (T.setTop (mkF m 239 #[.val (.int p0), .val (.int p1), .val (.int p2), .val (.int p3), .val (.int y4), .val (.int y5), .val (.int y6), .val (.int y7), .val (.int y8), .val (.int y9), .val (.int y10), .val (.int y11), .val (.ref b8), .val (.ref b12), .unset, .unset, .unset, .unset] [])) := by
    intro G hh T L X eT N Zh HGx hlaw
    have B398 : ∀ (T : State) (L : List Loc) (k n : Nat) (X : Stand p l e room_1 s m #[(.int p0), (.int p1), (.int p2), (.int p3)] below meth c T L k n) (eT : T.heap = hh) (N : Fr n0 L) (hk : k ≤ 40) (hn : n ≤ 12480) (i14 : Int32) (i15 : Int32) (i16 : Int32) (t0 : Int32) (t1 : Int32), f0_398 y4 y5 y6 y7 y8 y9 y10 y11 aF11 G t0 t1 = (1 : Int32) → OwnEnds p e below (OwnQ s (Q0 Z p0 p1 p2 p3 xD h0 n0) 40 12480) (T.setTop (mkF m 398 #[.val (.int p0), .val (.int p1), .val (.int p2), .val (.int p3), .val (.int y4), .val (.int y5), .val (.int y6), .val (.int y7), .val (.int y8), .val (.int y9), .val (.int y10), .val (.int y11), .val (.ref b8), .val (.ref b12), .val (.int i14), .val (.int i15), .val (.int i16), .unset] [(.int t0), (.int t1)])) := by
      intro T L k n X eT N hk hn i14 i15 i16 t0 t1 hF
      change (if (f21_0 aF11 G.1 G.2.1 G.2.2.1 y11) = (t1 + (f20_0 t0)) then (1 : Int32) else (0 : Int32)) = _ at hF
      show OwnEnds p e below _ (T.setTop (mkF m 398 #[.val (.int p0), .val (.int p1), .val (.int p2), .val (.int p3), .val (.int y4), .val (.int y5), .val (.int y6), .val (.int y7), .val (.int y8), .val (.int y9), .val (.int y10), .val (.int y11), .val (.ref b8), .val (.ref b12), .val (.int i14), .val (.int i15), .val (.int i16), .unset] [(.int t0), (.int t1)]))
      obtain ⟨_, _, ⟨T32, L32, k32, n32⟩, -, X32, ⟨Lc32, hQ32, l32, y32, z32⟩, st32⟩ := Jvm.LawKit.callS X hx (y := (⟨"com/example/changeset/changeset/check/StateGraphEdgesStartPinLaw", "one", "(Z)I"⟩ : MethodName)) hown (mvT hZ (hw _ (List.mem_of_getElem? (i := 151) rfl))) (mvT hZ (hw _ (List.mem_of_getElem? (i := 152) rfl))) (mvT hZ (hw _ (List.mem_of_getElem? (i := 153) rfl))) (mvT hZ (hw _ (List.mem_of_getElem? (i := 154) rfl))) (by decide) (backOf (W := 1) (rm20 l Z aZ hw [] t0 hh n0 Zh) hZ (hw _ (List.mem_of_getElem? (i := 154) rfl)) (hw _ (List.mem_of_getElem? (i := 153) rfl)) (by decide) (by decide)) (g := (mkF m 398 #[.val (.int p0), .val (.int p1), .val (.int p2), .val (.int p3), .val (.int y4), .val (.int y5), .val (.int y6), .val (.int y7), .val (.int y8), .val (.int y9), .val (.int y10), .val (.int y11), .val (.ref b8), .val (.ref b12), .val (.int i14), .val (.int i15), .val (.int i16), .unset] [(.int t0), (.int t1)])) rfl (by rw [hml]; rfl) (argsL := [(.int t0)]) (rest := [(.int t1)]) (lenOf pd_21 rfl) rfl (by show 2 * 0 + _ ≤ _; exact Nat.le_of_eq rfl) (hb hby at_398) (fun _ _ => ⟨rfl, eT, Nat.le_trans (Nat.add_le_add_right hk 0) (by decide : 40 + 0 ≤ _), Nat.le_trans (Nat.add_le_add_right hn 0) (by decide : 12480 + 0 ≤ _)⟩)
      dsimp only [Pt.U, Pt.locs, Pt.cells, Pt.slots] at X32 l32 y32 z32 st32 hQ32
      try dsimp only [Nat.reduceAdd] at y32 z32
      subst y32 z32
      obtain ⟨rfl, N32q, e32⟩ := hQ32
      have N32 : Fr n0 L32 := by rw [l32]; exact Fr.app N N32q
      refine .pre (fun _ kq => st32 _ kq) ?_
      show OwnEnds p e below _ (T32.setTop (mkF m 401 #[.val (.int p0), .val (.int p1), .val (.int p2), .val (.int p3), .val (.int y4), .val (.int y5), .val (.int y6), .val (.int y7), .val (.int y8), .val (.int y9), .val (.int y10), .val (.int y11), .val (.ref b8), .val (.ref b12), .val (.int i14), .val (.int i15), .val (.int i16), .unset] [(.int (f20_0 t0)), (.int t1)]))
      refine .pre (fun _ kq => XS.iadd X32.here hx rfl (hb hby at_401) rfl kq) ?_
      show OwnEnds p e below _ (T32.setTop (mkF m 402 #[.val (.int p0), .val (.int p1), .val (.int p2), .val (.int p3), .val (.int y4), .val (.int y5), .val (.int y6), .val (.int y7), .val (.int y8), .val (.int y9), .val (.int y10), .val (.int y11), .val (.ref b8), .val (.ref b12), .val (.int i14), .val (.int i15), .val (.int i16), .unset] [(.int (t1 + (f20_0 t0)))]))
      refine .pre (fun _ kq => XS.istore X32.here hx rfl (hb hby at_402) rfl (l' := #[.val (.int p0), .val (.int p1), .val (.int p2), .val (.int p3), .val (.int y4), .val (.int y5), .val (.int y6), .val (.int y7), .val (.int y8), .val (.int y9), .val (.int y10), .val (.int y11), .val (.ref b8), .val (.ref b12), .val (.int i14), .val (.int i15), .val (.int i16), .val (.int (t1 + (f20_0 t0)))]) rfl kq) ?_
      show OwnEnds p e below _ (T32.setTop (mkF m 404 #[.val (.int p0), .val (.int p1), .val (.int p2), .val (.int p3), .val (.int y4), .val (.int y5), .val (.int y6), .val (.int y7), .val (.int y8), .val (.int y9), .val (.int y10), .val (.int y11), .val (.ref b8), .val (.ref b12), .val (.int i14), .val (.int i15), .val (.int i16), .val (.int (t1 + (f20_0 t0)))] []))
      refine .pre (fun _ kq => XS.aload X32.here hx rfl (hb hby at_404) rfl rfl kq) ?_
      show OwnEnds p e below _ (T32.setTop (mkF m 406 #[.val (.int p0), .val (.int p1), .val (.int p2), .val (.int p3), .val (.int y4), .val (.int y5), .val (.int y6), .val (.int y7), .val (.int y8), .val (.int y9), .val (.int y10), .val (.int y11), .val (.ref b8), .val (.ref b12), .val (.int i14), .val (.int i15), .val (.int i16), .val (.int (t1 + (f20_0 t0)))] [(.ref b8)]))
      refine .pre (fun _ kq => XS.iload X32.here hx rfl (hb hby at_406) rfl kq) ?_
      show OwnEnds p e below _ (T32.setTop (mkF m 408 #[.val (.int p0), .val (.int p1), .val (.int p2), .val (.int p3), .val (.int y4), .val (.int y5), .val (.int y6), .val (.int y7), .val (.int y8), .val (.int y9), .val (.int y10), .val (.int y11), .val (.ref b8), .val (.ref b12), .val (.int i14), .val (.int i15), .val (.int i16), .val (.int (t1 + (f20_0 t0)))] [(.int y11), (.ref b8)]))
      obtain ⟨cq33, kq33, q33a, q33b, q33c⟩ := isOf hZ e32 HGx.1
      obtain ⟨_, _, ⟨T33, L33, k33, n33⟩, -, X33, ⟨Lc33, hQ33, l33, y33, z33⟩, st33⟩ := X32.virtualBack hx (y := (⟨"com/example/changeset/changeset/check/StateGraph", "edgesStart", "(I)I"⟩ : MethodName)) (z := (⟨"com/example/changeset/changeset/check/StateGraph", "edgesStart", "(I)I"⟩ : MethodName)) hown (mvT hZ (hw _ (List.mem_of_getElem? (i := 155) rfl))) (mvT hZ (hw _ (List.mem_of_getElem? (i := 156) rfl))) (notFace_of_selects (args := #[]) (mvT hZ (hw _ (List.mem_of_getElem? (i := 158) rfl)))) (mvT hZ (hw _ (List.mem_of_getElem? (i := 158) rfl))) (mvT hZ (hw _ (List.mem_of_getElem? (i := 157) rfl))) (by decide) (backOf (W := 0) (rm21 l Z aZ hw [] b8 y11 aF11 G.1 G.2.1 G.2.2.1 hh n0 Zh HGx.2.2.2.2.1 HGx.2.2.2.2.2.2.1 HGx.2.2.2.2.2.2.2.2.2.2.2.1 HGx.2.2.2.2.2.2.2.2.2.2.2.2.2.2.1 bn) hZ (hw _ (List.mem_of_getElem? (i := 159) rfl)) (hw _ (List.mem_of_getElem? (i := 6) rfl)) (by decide) (by decide)) q33a q33c (g := (mkF m 408 #[.val (.int p0), .val (.int p1), .val (.int p2), .val (.int p3), .val (.int y4), .val (.int y5), .val (.int y6), .val (.int y7), .val (.int y8), .val (.int y9), .val (.int y10), .val (.int y11), .val (.ref b8), .val (.ref b12), .val (.int i14), .val (.int i15), .val (.int i16), .val (.int (t1 + (f20_0 t0)))] [(.int y11), (.ref b8)])) rfl (by rw [hml]; rfl) (Steps.refl _) (argsL := [(.int y11)]) (rest := []) (lenOf pd_22 rfl) rfl (by show 2 * 0 + _ ≤ _; exact Nat.le_of_eq rfl) (hb hby at_408) (fun _ _ => ⟨rfl, e32, Nat.le_trans (Nat.add_le_add_right hk 0) (by decide : 40 + 0 ≤ _), Nat.le_trans (Nat.add_le_add_right hn 0) (by decide : 12480 + 0 ≤ _)⟩)
      dsimp only [Pt.U, Pt.locs, Pt.cells, Pt.slots] at X33 l33 y33 z33 st33 hQ33
      try dsimp only [Nat.reduceAdd] at y33 z33
      subst y33 z33
      obtain ⟨rfl, N33q, e33⟩ := hQ33
      have N33 : Fr n0 L33 := by rw [l33]; exact Fr.app N32 N33q
      refine .pre (fun _ kq => st33.trans kq) ?_
      show OwnEnds p e below _ (T33.setTop (mkF m 411 #[.val (.int p0), .val (.int p1), .val (.int p2), .val (.int p3), .val (.int y4), .val (.int y5), .val (.int y6), .val (.int y7), .val (.int y8), .val (.int y9), .val (.int y10), .val (.int y11), .val (.ref b8), .val (.ref b12), .val (.int i14), .val (.int i15), .val (.int i16), .val (.int (t1 + (f20_0 t0)))] [(.int (f21_0 aF11 G.1 G.2.1 G.2.2.1 y11))]))
      refine .pre (fun _ kq => XS.iload X33.here hx rfl (hb hby at_411) rfl kq) ?_
      show OwnEnds p e below _ (T33.setTop (mkF m 413 #[.val (.int p0), .val (.int p1), .val (.int p2), .val (.int p3), .val (.int y4), .val (.int y5), .val (.int y6), .val (.int y7), .val (.int y8), .val (.int y9), .val (.int y10), .val (.int y11), .val (.ref b8), .val (.ref b12), .val (.int i14), .val (.int i15), .val (.int i16), .val (.int (t1 + (f20_0 t0)))] [(.int (t1 + (f20_0 t0))), (.int (f21_0 aF11 G.1 G.2.1 G.2.2.1 y11))]))
      by_cases hc413 : (f21_0 aF11 G.1 G.2.1 G.2.2.1 y11) = (t1 + (f20_0 t0))
      · rw [if_pos hc413] at hF
        refine .pre (fun _ kq => XS.icmpNo X33.here hx rfl (hb hby at_413) rfl (teq hc413).2 kq) ?_
        show OwnEnds p e below _ (T33.setTop (mkF m 416 #[.val (.int p0), .val (.int p1), .val (.int p2), .val (.int p3), .val (.int y4), .val (.int y5), .val (.int y6), .val (.int y7), .val (.int y8), .val (.int y9), .val (.int y10), .val (.int y11), .val (.ref b8), .val (.ref b12), .val (.int i14), .val (.int i15), .val (.int i16), .val (.int (t1 + (f20_0 t0)))] []))
        refine .pre (fun _ kq => XS.iconst X33.here hx rfl (hb hby at_416) kq) ?_
        show OwnEnds p e below _ (T33.setTop (mkF m 417 #[.val (.int p0), .val (.int p1), .val (.int p2), .val (.int p3), .val (.int y4), .val (.int y5), .val (.int y6), .val (.int y7), .val (.int y8), .val (.int y9), .val (.int y10), .val (.int y11), .val (.ref b8), .val (.ref b12), .val (.int i14), .val (.int i15), .val (.int i16), .val (.int (t1 + (f20_0 t0)))] [(.int (1 : Int32))]))
        refine .pre (fun _ kq => XS.goto X33.here hx rfl (pc0 := 417) (pc' := 421) rfl (hb hby at_417) (by decide) (by decide) kq) ?_
        show OwnEnds p e below _ (T33.setTop (mkF m 421 #[.val (.int p0), .val (.int p1), .val (.int p2), .val (.int p3), .val (.int y4), .val (.int y5), .val (.int y6), .val (.int y7), .val (.int y8), .val (.int y9), .val (.int y10), .val (.int y11), .val (.ref b8), .val (.ref b12), .val (.int i14), .val (.int i15), .val (.int i16), .val (.int (t1 + (f20_0 t0)))] [(.int (1 : Int32))]))
        exact own_endN X33 hx hlk (t := .boolean) Bd.returns (by simp) (hb hby at_421) rfl hk hn ⟨congrArg (fun z => some (Value.int z)) hF, N33, trivial⟩
      · rw [if_neg hc413] at hF
        refine .pre (fun _ kq => XS.icmpYes X33.here hx rfl (pc0 := 413) (pc' := 420) rfl (hb hby at_413) rfl (feq hc413).2 (by decide) (by decide) kq) ?_
        show OwnEnds p e below _ (T33.setTop (mkF m 420 #[.val (.int p0), .val (.int p1), .val (.int p2), .val (.int p3), .val (.int y4), .val (.int y5), .val (.int y6), .val (.int y7), .val (.int y8), .val (.int y9), .val (.int y10), .val (.int y11), .val (.ref b8), .val (.ref b12), .val (.int i14), .val (.int i15), .val (.int i16), .val (.int (t1 + (f20_0 t0)))] []))
        refine .pre (fun _ kq => XS.iconst X33.here hx rfl (hb hby at_420) kq) ?_
        show OwnEnds p e below _ (T33.setTop (mkF m 421 #[.val (.int p0), .val (.int p1), .val (.int p2), .val (.int p3), .val (.int y4), .val (.int y5), .val (.int y6), .val (.int y7), .val (.int y8), .val (.int y9), .val (.int y10), .val (.int y11), .val (.ref b8), .val (.ref b12), .val (.int i14), .val (.int i15), .val (.int i16), .val (.int (t1 + (f20_0 t0)))] [(.int (0 : Int32))]))
        exact own_endN X33 hx hlk (t := .boolean) Bd.returns (by simp) (hb hby at_421) rfl hk hn ⟨congrArg (fun z => some (Value.int z)) hF, N33, trivial⟩
    have B397 : ∀ (T : State) (L : List Loc) (k n : Nat) (X : Stand p l e room_1 s m #[(.int p0), (.int p1), (.int p2), (.int p3)] below meth c T L k n) (eT : T.heap = hh) (N : Fr n0 L) (hk : k ≤ 40) (hn : n ≤ 12480) (i14 : Int32) (i15 : Int32) (i16 : Int32) (t0 : Int32), f0_397 y4 y5 y6 y7 y8 y9 y10 y11 aF11 G t0 = (1 : Int32) → OwnEnds p e below (OwnQ s (Q0 Z p0 p1 p2 p3 xD h0 n0) 40 12480) (T.setTop (mkF m 397 #[.val (.int p0), .val (.int p1), .val (.int p2), .val (.int p3), .val (.int y4), .val (.int y5), .val (.int y6), .val (.int y7), .val (.int y8), .val (.int y9), .val (.int y10), .val (.int y11), .val (.ref b8), .val (.ref b12), .val (.int i14), .val (.int i15), .val (.int i16), .unset] [(.int t0)])) := by
      intro T L k n X eT N hk hn i14 i15 i16 t0 hF
      change (f0_398 y4 y5 y6 y7 y8 y9 y10 y11 aF11 G (0 : Int32) t0) = _ at hF
      show OwnEnds p e below _ (T.setTop (mkF m 397 #[.val (.int p0), .val (.int p1), .val (.int p2), .val (.int p3), .val (.int y4), .val (.int y5), .val (.int y6), .val (.int y7), .val (.int y8), .val (.int y9), .val (.int y10), .val (.int y11), .val (.ref b8), .val (.ref b12), .val (.int i14), .val (.int i15), .val (.int i16), .unset] [(.int t0)]))
      refine .pre (fun _ kq => XS.iconst X.here hx rfl (hb hby at_397) kq) ?_
      exact B398 T _ _ _ X eT N hk hn i14 i15 i16 (0 : Int32) t0 hF
    have B377 : ∀ (T : State) (L : List Loc) (k n : Nat) (X : Stand p l e room_1 s m #[(.int p0), (.int p1), (.int p2), (.int p3)] below meth c T L k n) (eT : T.heap = hh) (N : Fr n0 L) (hk : k ≤ 40) (hn : n ≤ 12480) (i14 : Int32) (i15 : Int32) (i16 : Int32) (t0 : Int32) (t1 : Int32), f0_377 y4 y5 y6 y7 y8 y9 y10 y11 aF11 G i16 t0 t1 = (1 : Int32) → OwnEnds p e below (OwnQ s (Q0 Z p0 p1 p2 p3 xD h0 n0) 40 12480) (T.setTop (mkF m 377 #[.val (.int p0), .val (.int p1), .val (.int p2), .val (.int p3), .val (.int y4), .val (.int y5), .val (.int y6), .val (.int y7), .val (.int y8), .val (.int y9), .val (.int y10), .val (.int y11), .val (.ref b8), .val (.ref b12), .val (.int i14), .val (.int i15), .val (.int i16), .unset] [(.int t0), (.int t1)])) := by
      intro T L k n X eT N hk hn i14 i15 i16 t0 t1 hF
      change (if i16 = (0 : Int32) then (f0_397 y4 y5 y6 y7 y8 y9 y10 y11 aF11 G (t1 + (f20_0 t0))) else (if y7 < y11 then (f0_398 y4 y5 y6 y7 y8 y9 y10 y11 aF11 G (1 : Int32) (t1 + (f20_0 t0))) else (f0_397 y4 y5 y6 y7 y8 y9 y10 y11 aF11 G (t1 + (f20_0 t0))))) = _ at hF
      show OwnEnds p e below _ (T.setTop (mkF m 377 #[.val (.int p0), .val (.int p1), .val (.int p2), .val (.int p3), .val (.int y4), .val (.int y5), .val (.int y6), .val (.int y7), .val (.int y8), .val (.int y9), .val (.int y10), .val (.int y11), .val (.ref b8), .val (.ref b12), .val (.int i14), .val (.int i15), .val (.int i16), .unset] [(.int t0), (.int t1)]))
      obtain ⟨_, _, ⟨T34, L34, k34, n34⟩, -, X34, ⟨Lc34, hQ34, l34, y34, z34⟩, st34⟩ := Jvm.LawKit.callS X hx (y := (⟨"com/example/changeset/changeset/check/StateGraphEdgesStartPinLaw", "one", "(Z)I"⟩ : MethodName)) hown (mvT hZ (hw _ (List.mem_of_getElem? (i := 151) rfl))) (mvT hZ (hw _ (List.mem_of_getElem? (i := 152) rfl))) (mvT hZ (hw _ (List.mem_of_getElem? (i := 153) rfl))) (mvT hZ (hw _ (List.mem_of_getElem? (i := 154) rfl))) (by decide) (backOf (W := 1) (rm20 l Z aZ hw [] t0 hh n0 Zh) hZ (hw _ (List.mem_of_getElem? (i := 154) rfl)) (hw _ (List.mem_of_getElem? (i := 153) rfl)) (by decide) (by decide)) (g := (mkF m 377 #[.val (.int p0), .val (.int p1), .val (.int p2), .val (.int p3), .val (.int y4), .val (.int y5), .val (.int y6), .val (.int y7), .val (.int y8), .val (.int y9), .val (.int y10), .val (.int y11), .val (.ref b8), .val (.ref b12), .val (.int i14), .val (.int i15), .val (.int i16), .unset] [(.int t0), (.int t1)])) rfl (by rw [hml]; rfl) (argsL := [(.int t0)]) (rest := [(.int t1)]) (lenOf pd_21 rfl) rfl (by show 2 * 0 + _ ≤ _; exact Nat.le_of_eq rfl) (hb hby at_377) (fun _ _ => ⟨rfl, eT, Nat.le_trans (Nat.add_le_add_right hk 0) (by decide : 40 + 0 ≤ _), Nat.le_trans (Nat.add_le_add_right hn 0) (by decide : 12480 + 0 ≤ _)⟩)
      dsimp only [Pt.U, Pt.locs, Pt.cells, Pt.slots] at X34 l34 y34 z34 st34 hQ34
      try dsimp only [Nat.reduceAdd] at y34 z34
      subst y34 z34
      obtain ⟨rfl, N34q, e34⟩ := hQ34
      have N34 : Fr n0 L34 := by rw [l34]; exact Fr.app N N34q
      refine .pre (fun _ kq => st34 _ kq) ?_
      show OwnEnds p e below _ (T34.setTop (mkF m 380 #[.val (.int p0), .val (.int p1), .val (.int p2), .val (.int p3), .val (.int y4), .val (.int y5), .val (.int y6), .val (.int y7), .val (.int y8), .val (.int y9), .val (.int y10), .val (.int y11), .val (.ref b8), .val (.ref b12), .val (.int i14), .val (.int i15), .val (.int i16), .unset] [(.int (f20_0 t0)), (.int t1)]))
      refine .pre (fun _ kq => XS.iadd X34.here hx rfl (hb hby at_380) rfl kq) ?_
      show OwnEnds p e below _ (T34.setTop (mkF m 381 #[.val (.int p0), .val (.int p1), .val (.int p2), .val (.int p3), .val (.int y4), .val (.int y5), .val (.int y6), .val (.int y7), .val (.int y8), .val (.int y9), .val (.int y10), .val (.int y11), .val (.ref b8), .val (.ref b12), .val (.int i14), .val (.int i15), .val (.int i16), .unset] [(.int (t1 + (f20_0 t0)))]))
      refine .pre (fun _ kq => XS.iload X34.here hx rfl (hb hby at_381) rfl kq) ?_
      show OwnEnds p e below _ (T34.setTop (mkF m 383 #[.val (.int p0), .val (.int p1), .val (.int p2), .val (.int p3), .val (.int y4), .val (.int y5), .val (.int y6), .val (.int y7), .val (.int y8), .val (.int y9), .val (.int y10), .val (.int y11), .val (.ref b8), .val (.ref b12), .val (.int i14), .val (.int i15), .val (.int i16), .unset] [(.int i16), (.int (t1 + (f20_0 t0)))]))
      by_cases hc383 : i16 = (0 : Int32)
      · rw [if_pos hc383] at hF
        refine .pre (fun _ kq => XS.ifYes X34.here hx rfl (pc0 := 383) (pc' := 397) rfl (hb hby at_383) rfl ((if0 _ _).trans (teq hc383).1) (by decide) (by decide) kq) ?_
        exact B397 T34 _ _ _ X34 e34 N34 hk hn i14 i15 i16 (t1 + (f20_0 t0)) hF
      · rw [if_neg hc383] at hF
        refine .pre (fun _ kq => XS.ifNo X34.here hx rfl (hb hby at_383) rfl ((if0 _ _).trans (feq hc383).1) kq) ?_
        show OwnEnds p e below _ (T34.setTop (mkF m 386 #[.val (.int p0), .val (.int p1), .val (.int p2), .val (.int p3), .val (.int y4), .val (.int y5), .val (.int y6), .val (.int y7), .val (.int y8), .val (.int y9), .val (.int y10), .val (.int y11), .val (.ref b8), .val (.ref b12), .val (.int i14), .val (.int i15), .val (.int i16), .unset] [(.int (t1 + (f20_0 t0)))]))
        refine .pre (fun _ kq => XS.iload X34.here hx rfl (hb hby at_386) rfl kq) ?_
        show OwnEnds p e below _ (T34.setTop (mkF m 388 #[.val (.int p0), .val (.int p1), .val (.int p2), .val (.int p3), .val (.int y4), .val (.int y5), .val (.int y6), .val (.int y7), .val (.int y8), .val (.int y9), .val (.int y10), .val (.int y11), .val (.ref b8), .val (.ref b12), .val (.int i14), .val (.int i15), .val (.int i16), .unset] [(.int y7), (.int (t1 + (f20_0 t0)))]))
        refine .pre (fun _ kq => XS.iload X34.here hx rfl (hb hby at_388) rfl kq) ?_
        show OwnEnds p e below _ (T34.setTop (mkF m 390 #[.val (.int p0), .val (.int p1), .val (.int p2), .val (.int p3), .val (.int y4), .val (.int y5), .val (.int y6), .val (.int y7), .val (.int y8), .val (.int y9), .val (.int y10), .val (.int y11), .val (.ref b8), .val (.ref b12), .val (.int i14), .val (.int i15), .val (.int i16), .unset] [(.int y11), (.int y7), (.int (t1 + (f20_0 t0)))]))
        by_cases hc390 : y7 < y11
        · rw [if_pos hc390] at hF
          refine .pre (fun _ kq => XS.icmpNo X34.here hx rfl (hb hby at_390) rfl (tlt hc390).2.1 kq) ?_
          show OwnEnds p e below _ (T34.setTop (mkF m 393 #[.val (.int p0), .val (.int p1), .val (.int p2), .val (.int p3), .val (.int y4), .val (.int y5), .val (.int y6), .val (.int y7), .val (.int y8), .val (.int y9), .val (.int y10), .val (.int y11), .val (.ref b8), .val (.ref b12), .val (.int i14), .val (.int i15), .val (.int i16), .unset] [(.int (t1 + (f20_0 t0)))]))
          refine .pre (fun _ kq => XS.iconst X34.here hx rfl (hb hby at_393) kq) ?_
          show OwnEnds p e below _ (T34.setTop (mkF m 394 #[.val (.int p0), .val (.int p1), .val (.int p2), .val (.int p3), .val (.int y4), .val (.int y5), .val (.int y6), .val (.int y7), .val (.int y8), .val (.int y9), .val (.int y10), .val (.int y11), .val (.ref b8), .val (.ref b12), .val (.int i14), .val (.int i15), .val (.int i16), .unset] [(.int (1 : Int32)), (.int (t1 + (f20_0 t0)))]))
          refine .pre (fun _ kq => XS.goto X34.here hx rfl (pc0 := 394) (pc' := 398) rfl (hb hby at_394) (by decide) (by decide) kq) ?_
          exact B398 T34 _ _ _ X34 e34 N34 hk hn i14 i15 i16 (1 : Int32) (t1 + (f20_0 t0)) hF
        · rw [if_neg hc390] at hF
          refine .pre (fun _ kq => XS.icmpYes X34.here hx rfl (pc0 := 390) (pc' := 397) rfl (hb hby at_390) rfl (flt hc390).2.1 (by decide) (by decide) kq) ?_
          exact B397 T34 _ _ _ X34 e34 N34 hk hn i14 i15 i16 (t1 + (f20_0 t0)) hF
    have B376 : ∀ (T : State) (L : List Loc) (k n : Nat) (X : Stand p l e room_1 s m #[(.int p0), (.int p1), (.int p2), (.int p3)] below meth c T L k n) (eT : T.heap = hh) (N : Fr n0 L) (hk : k ≤ 40) (hn : n ≤ 12480) (i14 : Int32) (i15 : Int32) (i16 : Int32) (t0 : Int32), f0_376 y4 y5 y6 y7 y8 y9 y10 y11 aF11 G i16 t0 = (1 : Int32) → OwnEnds p e below (OwnQ s (Q0 Z p0 p1 p2 p3 xD h0 n0) 40 12480) (T.setTop (mkF m 376 #[.val (.int p0), .val (.int p1), .val (.int p2), .val (.int p3), .val (.int y4), .val (.int y5), .val (.int y6), .val (.int y7), .val (.int y8), .val (.int y9), .val (.int y10), .val (.int y11), .val (.ref b8), .val (.ref b12), .val (.int i14), .val (.int i15), .val (.int i16), .unset] [(.int t0)])) := by
      intro T L k n X eT N hk hn i14 i15 i16 t0 hF
      change (f0_377 y4 y5 y6 y7 y8 y9 y10 y11 aF11 G i16 (0 : Int32) t0) = _ at hF
      show OwnEnds p e below _ (T.setTop (mkF m 376 #[.val (.int p0), .val (.int p1), .val (.int p2), .val (.int p3), .val (.int y4), .val (.int y5), .val (.int y6), .val (.int y7), .val (.int y8), .val (.int y9), .val (.int y10), .val (.int y11), .val (.ref b8), .val (.ref b12), .val (.int i14), .val (.int i15), .val (.int i16), .unset] [(.int t0)]))
      refine .pre (fun _ kq => XS.iconst X.here hx rfl (hb hby at_376) kq) ?_
      exact B377 T _ _ _ X eT N hk hn i14 i15 i16 (0 : Int32) t0 hF
    have B357 : ∀ (T : State) (L : List Loc) (k n : Nat) (X : Stand p l e room_1 s m #[(.int p0), (.int p1), (.int p2), (.int p3)] below meth c T L k n) (eT : T.heap = hh) (N : Fr n0 L) (hk : k ≤ 40) (hn : n ≤ 12480) (i14 : Int32) (i15 : Int32) (i16 : Int32) (t0 : Int32), f0_357 y4 y5 y6 y7 y8 y9 y10 y11 aF11 G i15 i16 t0 = (1 : Int32) → OwnEnds p e below (OwnQ s (Q0 Z p0 p1 p2 p3 xD h0 n0) 40 12480) (T.setTop (mkF m 357 #[.val (.int p0), .val (.int p1), .val (.int p2), .val (.int p3), .val (.int y4), .val (.int y5), .val (.int y6), .val (.int y7), .val (.int y8), .val (.int y9), .val (.int y10), .val (.int y11), .val (.ref b8), .val (.ref b12), .val (.int i14), .val (.int i15), .val (.int i16), .unset] [(.int t0)])) := by
      intro T L k n X eT N hk hn i14 i15 i16 t0 hF
      change (if i15 = (0 : Int32) then (f0_376 y4 y5 y6 y7 y8 y9 y10 y11 aF11 G i16 (f20_0 t0)) else (if y6 < y11 then (f0_377 y4 y5 y6 y7 y8 y9 y10 y11 aF11 G i16 (1 : Int32) (f20_0 t0)) else (f0_376 y4 y5 y6 y7 y8 y9 y10 y11 aF11 G i16 (f20_0 t0)))) = _ at hF
      show OwnEnds p e below _ (T.setTop (mkF m 357 #[.val (.int p0), .val (.int p1), .val (.int p2), .val (.int p3), .val (.int y4), .val (.int y5), .val (.int y6), .val (.int y7), .val (.int y8), .val (.int y9), .val (.int y10), .val (.int y11), .val (.ref b8), .val (.ref b12), .val (.int i14), .val (.int i15), .val (.int i16), .unset] [(.int t0)]))
      obtain ⟨_, _, ⟨T35, L35, k35, n35⟩, -, X35, ⟨Lc35, hQ35, l35, y35, z35⟩, st35⟩ := Jvm.LawKit.callS X hx (y := (⟨"com/example/changeset/changeset/check/StateGraphEdgesStartPinLaw", "one", "(Z)I"⟩ : MethodName)) hown (mvT hZ (hw _ (List.mem_of_getElem? (i := 151) rfl))) (mvT hZ (hw _ (List.mem_of_getElem? (i := 152) rfl))) (mvT hZ (hw _ (List.mem_of_getElem? (i := 153) rfl))) (mvT hZ (hw _ (List.mem_of_getElem? (i := 154) rfl))) (by decide) (backOf (W := 0) (rm20 l Z aZ hw [] t0 hh n0 Zh) hZ (hw _ (List.mem_of_getElem? (i := 154) rfl)) (hw _ (List.mem_of_getElem? (i := 153) rfl)) (by decide) (by decide)) (g := (mkF m 357 #[.val (.int p0), .val (.int p1), .val (.int p2), .val (.int p3), .val (.int y4), .val (.int y5), .val (.int y6), .val (.int y7), .val (.int y8), .val (.int y9), .val (.int y10), .val (.int y11), .val (.ref b8), .val (.ref b12), .val (.int i14), .val (.int i15), .val (.int i16), .unset] [(.int t0)])) rfl (by rw [hml]; rfl) (argsL := [(.int t0)]) (rest := []) (lenOf pd_21 rfl) rfl (by show 2 * 0 + _ ≤ _; exact Nat.le_of_eq rfl) (hb hby at_357) (fun _ _ => ⟨rfl, eT, Nat.le_trans (Nat.add_le_add_right hk 0) (by decide : 40 + 0 ≤ _), Nat.le_trans (Nat.add_le_add_right hn 0) (by decide : 12480 + 0 ≤ _)⟩)
      dsimp only [Pt.U, Pt.locs, Pt.cells, Pt.slots] at X35 l35 y35 z35 st35 hQ35
      try dsimp only [Nat.reduceAdd] at y35 z35
      subst y35 z35
      obtain ⟨rfl, N35q, e35⟩ := hQ35
      have N35 : Fr n0 L35 := by rw [l35]; exact Fr.app N N35q
      refine .pre (fun _ kq => st35 _ kq) ?_
      show OwnEnds p e below _ (T35.setTop (mkF m 360 #[.val (.int p0), .val (.int p1), .val (.int p2), .val (.int p3), .val (.int y4), .val (.int y5), .val (.int y6), .val (.int y7), .val (.int y8), .val (.int y9), .val (.int y10), .val (.int y11), .val (.ref b8), .val (.ref b12), .val (.int i14), .val (.int i15), .val (.int i16), .unset] [(.int (f20_0 t0))]))
      refine .pre (fun _ kq => XS.iload X35.here hx rfl (hb hby at_360) rfl kq) ?_
      show OwnEnds p e below _ (T35.setTop (mkF m 362 #[.val (.int p0), .val (.int p1), .val (.int p2), .val (.int p3), .val (.int y4), .val (.int y5), .val (.int y6), .val (.int y7), .val (.int y8), .val (.int y9), .val (.int y10), .val (.int y11), .val (.ref b8), .val (.ref b12), .val (.int i14), .val (.int i15), .val (.int i16), .unset] [(.int i15), (.int (f20_0 t0))]))
      by_cases hc362 : i15 = (0 : Int32)
      · rw [if_pos hc362] at hF
        refine .pre (fun _ kq => XS.ifYes X35.here hx rfl (pc0 := 362) (pc' := 376) rfl (hb hby at_362) rfl ((if0 _ _).trans (teq hc362).1) (by decide) (by decide) kq) ?_
        exact B376 T35 _ _ _ X35 e35 N35 hk hn i14 i15 i16 (f20_0 t0) hF
      · rw [if_neg hc362] at hF
        refine .pre (fun _ kq => XS.ifNo X35.here hx rfl (hb hby at_362) rfl ((if0 _ _).trans (feq hc362).1) kq) ?_
        show OwnEnds p e below _ (T35.setTop (mkF m 365 #[.val (.int p0), .val (.int p1), .val (.int p2), .val (.int p3), .val (.int y4), .val (.int y5), .val (.int y6), .val (.int y7), .val (.int y8), .val (.int y9), .val (.int y10), .val (.int y11), .val (.ref b8), .val (.ref b12), .val (.int i14), .val (.int i15), .val (.int i16), .unset] [(.int (f20_0 t0))]))
        refine .pre (fun _ kq => XS.iload X35.here hx rfl (hb hby at_365) rfl kq) ?_
        show OwnEnds p e below _ (T35.setTop (mkF m 367 #[.val (.int p0), .val (.int p1), .val (.int p2), .val (.int p3), .val (.int y4), .val (.int y5), .val (.int y6), .val (.int y7), .val (.int y8), .val (.int y9), .val (.int y10), .val (.int y11), .val (.ref b8), .val (.ref b12), .val (.int i14), .val (.int i15), .val (.int i16), .unset] [(.int y6), (.int (f20_0 t0))]))
        refine .pre (fun _ kq => XS.iload X35.here hx rfl (hb hby at_367) rfl kq) ?_
        show OwnEnds p e below _ (T35.setTop (mkF m 369 #[.val (.int p0), .val (.int p1), .val (.int p2), .val (.int p3), .val (.int y4), .val (.int y5), .val (.int y6), .val (.int y7), .val (.int y8), .val (.int y9), .val (.int y10), .val (.int y11), .val (.ref b8), .val (.ref b12), .val (.int i14), .val (.int i15), .val (.int i16), .unset] [(.int y11), (.int y6), (.int (f20_0 t0))]))
        by_cases hc369 : y6 < y11
        · rw [if_pos hc369] at hF
          refine .pre (fun _ kq => XS.icmpNo X35.here hx rfl (hb hby at_369) rfl (tlt hc369).2.1 kq) ?_
          show OwnEnds p e below _ (T35.setTop (mkF m 372 #[.val (.int p0), .val (.int p1), .val (.int p2), .val (.int p3), .val (.int y4), .val (.int y5), .val (.int y6), .val (.int y7), .val (.int y8), .val (.int y9), .val (.int y10), .val (.int y11), .val (.ref b8), .val (.ref b12), .val (.int i14), .val (.int i15), .val (.int i16), .unset] [(.int (f20_0 t0))]))
          refine .pre (fun _ kq => XS.iconst X35.here hx rfl (hb hby at_372) kq) ?_
          show OwnEnds p e below _ (T35.setTop (mkF m 373 #[.val (.int p0), .val (.int p1), .val (.int p2), .val (.int p3), .val (.int y4), .val (.int y5), .val (.int y6), .val (.int y7), .val (.int y8), .val (.int y9), .val (.int y10), .val (.int y11), .val (.ref b8), .val (.ref b12), .val (.int i14), .val (.int i15), .val (.int i16), .unset] [(.int (1 : Int32)), (.int (f20_0 t0))]))
          refine .pre (fun _ kq => XS.goto X35.here hx rfl (pc0 := 373) (pc' := 377) rfl (hb hby at_373) (by decide) (by decide) kq) ?_
          exact B377 T35 _ _ _ X35 e35 N35 hk hn i14 i15 i16 (1 : Int32) (f20_0 t0) hF
        · rw [if_neg hc369] at hF
          refine .pre (fun _ kq => XS.icmpYes X35.here hx rfl (pc0 := 369) (pc' := 376) rfl (hb hby at_369) rfl (flt hc369).2.1 (by decide) (by decide) kq) ?_
          exact B376 T35 _ _ _ X35 e35 N35 hk hn i14 i15 i16 (f20_0 t0) hF
    have B356 : ∀ (T : State) (L : List Loc) (k n : Nat) (X : Stand p l e room_1 s m #[(.int p0), (.int p1), (.int p2), (.int p3)] below meth c T L k n) (eT : T.heap = hh) (N : Fr n0 L) (hk : k ≤ 40) (hn : n ≤ 12480) (i14 : Int32) (i15 : Int32) (i16 : Int32), f0_356 y4 y5 y6 y7 y8 y9 y10 y11 aF11 G i15 i16 = (1 : Int32) → OwnEnds p e below (OwnQ s (Q0 Z p0 p1 p2 p3 xD h0 n0) 40 12480) (T.setTop (mkF m 356 #[.val (.int p0), .val (.int p1), .val (.int p2), .val (.int p3), .val (.int y4), .val (.int y5), .val (.int y6), .val (.int y7), .val (.int y8), .val (.int y9), .val (.int y10), .val (.int y11), .val (.ref b8), .val (.ref b12), .val (.int i14), .val (.int i15), .val (.int i16), .unset] [])) := by
      intro T L k n X eT N hk hn i14 i15 i16 hF
      change (f0_357 y4 y5 y6 y7 y8 y9 y10 y11 aF11 G i15 i16 (0 : Int32)) = _ at hF
      show OwnEnds p e below _ (T.setTop (mkF m 356 #[.val (.int p0), .val (.int p1), .val (.int p2), .val (.int p3), .val (.int y4), .val (.int y5), .val (.int y6), .val (.int y7), .val (.int y8), .val (.int y9), .val (.int y10), .val (.int y11), .val (.ref b8), .val (.ref b12), .val (.int i14), .val (.int i15), .val (.int i16), .unset] []))
      refine .pre (fun _ kq => XS.iconst X.here hx rfl (hb hby at_356) kq) ?_
      exact B357 T _ _ _ X eT N hk hn i14 i15 i16 (0 : Int32) hF
    have B338 : ∀ (T : State) (L : List Loc) (k n : Nat) (X : Stand p l e room_1 s m #[(.int p0), (.int p1), (.int p2), (.int p3)] below meth c T L k n) (eT : T.heap = hh) (N : Fr n0 L) (hk : k ≤ 40) (hn : n ≤ 12480) (i14 : Int32) (i15 : Int32) (t0 : Int32), f0_338 y4 y5 y6 y7 y8 y9 y10 y11 aF11 G i14 i15 t0 = (1 : Int32) → OwnEnds p e below (OwnQ s (Q0 Z p0 p1 p2 p3 xD h0 n0) 40 12480) (T.setTop (mkF m 338 #[.val (.int p0), .val (.int p1), .val (.int p2), .val (.int p3), .val (.int y4), .val (.int y5), .val (.int y6), .val (.int y7), .val (.int y8), .val (.int y9), .val (.int y10), .val (.int y11), .val (.ref b8), .val (.ref b12), .val (.int i14), .val (.int i15), .unset, .unset] [(.int t0)])) := by
      intro T L k n X eT N hk hn i14 i15 t0 hF
      change (if i14 = (0 : Int32) then (f0_356 y4 y5 y6 y7 y8 y9 y10 y11 aF11 G i15 t0) else (if y5 < y11 then (f0_357 y4 y5 y6 y7 y8 y9 y10 y11 aF11 G i15 t0 (1 : Int32)) else (f0_356 y4 y5 y6 y7 y8 y9 y10 y11 aF11 G i15 t0))) = _ at hF
      show OwnEnds p e below _ (T.setTop (mkF m 338 #[.val (.int p0), .val (.int p1), .val (.int p2), .val (.int p3), .val (.int y4), .val (.int y5), .val (.int y6), .val (.int y7), .val (.int y8), .val (.int y9), .val (.int y10), .val (.int y11), .val (.ref b8), .val (.ref b12), .val (.int i14), .val (.int i15), .unset, .unset] [(.int t0)]))
      refine .pre (fun _ kq => XS.istore X.here hx rfl (hb hby at_338) rfl (l' := #[.val (.int p0), .val (.int p1), .val (.int p2), .val (.int p3), .val (.int y4), .val (.int y5), .val (.int y6), .val (.int y7), .val (.int y8), .val (.int y9), .val (.int y10), .val (.int y11), .val (.ref b8), .val (.ref b12), .val (.int i14), .val (.int i15), .val (.int t0), .unset]) rfl kq) ?_
      show OwnEnds p e below _ (T.setTop (mkF m 340 #[.val (.int p0), .val (.int p1), .val (.int p2), .val (.int p3), .val (.int y4), .val (.int y5), .val (.int y6), .val (.int y7), .val (.int y8), .val (.int y9), .val (.int y10), .val (.int y11), .val (.ref b8), .val (.ref b12), .val (.int i14), .val (.int i15), .val (.int t0), .unset] []))
      refine .pre (fun _ kq => XS.iload X.here hx rfl (hb hby at_340) rfl kq) ?_
      show OwnEnds p e below _ (T.setTop (mkF m 342 #[.val (.int p0), .val (.int p1), .val (.int p2), .val (.int p3), .val (.int y4), .val (.int y5), .val (.int y6), .val (.int y7), .val (.int y8), .val (.int y9), .val (.int y10), .val (.int y11), .val (.ref b8), .val (.ref b12), .val (.int i14), .val (.int i15), .val (.int t0), .unset] [(.int i14)]))
      by_cases hc342 : i14 = (0 : Int32)
      · rw [if_pos hc342] at hF
        refine .pre (fun _ kq => XS.ifYes X.here hx rfl (pc0 := 342) (pc' := 356) rfl (hb hby at_342) rfl ((if0 _ _).trans (teq hc342).1) (by decide) (by decide) kq) ?_
        exact B356 T _ _ _ X eT N hk hn i14 i15 t0 hF
      · rw [if_neg hc342] at hF
        refine .pre (fun _ kq => XS.ifNo X.here hx rfl (hb hby at_342) rfl ((if0 _ _).trans (feq hc342).1) kq) ?_
        show OwnEnds p e below _ (T.setTop (mkF m 345 #[.val (.int p0), .val (.int p1), .val (.int p2), .val (.int p3), .val (.int y4), .val (.int y5), .val (.int y6), .val (.int y7), .val (.int y8), .val (.int y9), .val (.int y10), .val (.int y11), .val (.ref b8), .val (.ref b12), .val (.int i14), .val (.int i15), .val (.int t0), .unset] []))
        refine .pre (fun _ kq => XS.iload X.here hx rfl (hb hby at_345) rfl kq) ?_
        show OwnEnds p e below _ (T.setTop (mkF m 347 #[.val (.int p0), .val (.int p1), .val (.int p2), .val (.int p3), .val (.int y4), .val (.int y5), .val (.int y6), .val (.int y7), .val (.int y8), .val (.int y9), .val (.int y10), .val (.int y11), .val (.ref b8), .val (.ref b12), .val (.int i14), .val (.int i15), .val (.int t0), .unset] [(.int y5)]))
        refine .pre (fun _ kq => XS.iload X.here hx rfl (hb hby at_347) rfl kq) ?_
        show OwnEnds p e below _ (T.setTop (mkF m 349 #[.val (.int p0), .val (.int p1), .val (.int p2), .val (.int p3), .val (.int y4), .val (.int y5), .val (.int y6), .val (.int y7), .val (.int y8), .val (.int y9), .val (.int y10), .val (.int y11), .val (.ref b8), .val (.ref b12), .val (.int i14), .val (.int i15), .val (.int t0), .unset] [(.int y11), (.int y5)]))
        by_cases hc349 : y5 < y11
        · rw [if_pos hc349] at hF
          refine .pre (fun _ kq => XS.icmpNo X.here hx rfl (hb hby at_349) rfl (tlt hc349).2.1 kq) ?_
          show OwnEnds p e below _ (T.setTop (mkF m 352 #[.val (.int p0), .val (.int p1), .val (.int p2), .val (.int p3), .val (.int y4), .val (.int y5), .val (.int y6), .val (.int y7), .val (.int y8), .val (.int y9), .val (.int y10), .val (.int y11), .val (.ref b8), .val (.ref b12), .val (.int i14), .val (.int i15), .val (.int t0), .unset] []))
          refine .pre (fun _ kq => XS.iconst X.here hx rfl (hb hby at_352) kq) ?_
          show OwnEnds p e below _ (T.setTop (mkF m 353 #[.val (.int p0), .val (.int p1), .val (.int p2), .val (.int p3), .val (.int y4), .val (.int y5), .val (.int y6), .val (.int y7), .val (.int y8), .val (.int y9), .val (.int y10), .val (.int y11), .val (.ref b8), .val (.ref b12), .val (.int i14), .val (.int i15), .val (.int t0), .unset] [(.int (1 : Int32))]))
          refine .pre (fun _ kq => XS.goto X.here hx rfl (pc0 := 353) (pc' := 357) rfl (hb hby at_353) (by decide) (by decide) kq) ?_
          exact B357 T _ _ _ X eT N hk hn i14 i15 t0 (1 : Int32) hF
        · rw [if_neg hc349] at hF
          refine .pre (fun _ kq => XS.icmpYes X.here hx rfl (pc0 := 349) (pc' := 356) rfl (hb hby at_349) rfl (flt hc349).2.1 (by decide) (by decide) kq) ?_
          exact B356 T _ _ _ X eT N hk hn i14 i15 t0 hF
    have B337 : ∀ (T : State) (L : List Loc) (k n : Nat) (X : Stand p l e room_1 s m #[(.int p0), (.int p1), (.int p2), (.int p3)] below meth c T L k n) (eT : T.heap = hh) (N : Fr n0 L) (hk : k ≤ 40) (hn : n ≤ 12480) (i14 : Int32) (i15 : Int32), f0_337 y4 y5 y6 y7 y8 y9 y10 y11 aF11 G i14 i15 = (1 : Int32) → OwnEnds p e below (OwnQ s (Q0 Z p0 p1 p2 p3 xD h0 n0) 40 12480) (T.setTop (mkF m 337 #[.val (.int p0), .val (.int p1), .val (.int p2), .val (.int p3), .val (.int y4), .val (.int y5), .val (.int y6), .val (.int y7), .val (.int y8), .val (.int y9), .val (.int y10), .val (.int y11), .val (.ref b8), .val (.ref b12), .val (.int i14), .val (.int i15), .unset, .unset] [])) := by
      intro T L k n X eT N hk hn i14 i15 hF
      change (f0_338 y4 y5 y6 y7 y8 y9 y10 y11 aF11 G i14 i15 (0 : Int32)) = _ at hF
      show OwnEnds p e below _ (T.setTop (mkF m 337 #[.val (.int p0), .val (.int p1), .val (.int p2), .val (.int p3), .val (.int y4), .val (.int y5), .val (.int y6), .val (.int y7), .val (.int y8), .val (.int y9), .val (.int y10), .val (.int y11), .val (.ref b8), .val (.ref b12), .val (.int i14), .val (.int i15), .unset, .unset] []))
      refine .pre (fun _ kq => XS.iconst X.here hx rfl (hb hby at_337) kq) ?_
      exact B338 T _ _ _ X eT N hk hn i14 i15 (0 : Int32) hF
    have B333 : ∀ (T : State) (L : List Loc) (k n : Nat) (X : Stand p l e room_1 s m #[(.int p0), (.int p1), (.int p2), (.int p3)] below meth c T L k n) (eT : T.heap = hh) (N : Fr n0 L) (hk : k ≤ 40) (hn : n ≤ 12480) (i14 : Int32) (i15 : Int32), f0_333 y4 y5 y6 y7 y8 y9 y10 y11 aF11 G i14 i15 = (1 : Int32) → OwnEnds p e below (OwnQ s (Q0 Z p0 p1 p2 p3 xD h0 n0) 40 12480) (T.setTop (mkF m 333 #[.val (.int p0), .val (.int p1), .val (.int p2), .val (.int p3), .val (.int y4), .val (.int y5), .val (.int y6), .val (.int y7), .val (.int y8), .val (.int y9), .val (.int y10), .val (.int y11), .val (.ref b8), .val (.ref b12), .val (.int i14), .val (.int i15), .unset, .unset] [])) := by
      intro T L k n X eT N hk hn i14 i15 hF
      change (f0_338 y4 y5 y6 y7 y8 y9 y10 y11 aF11 G i14 i15 (1 : Int32)) = _ at hF
      show OwnEnds p e below _ (T.setTop (mkF m 333 #[.val (.int p0), .val (.int p1), .val (.int p2), .val (.int p3), .val (.int y4), .val (.int y5), .val (.int y6), .val (.int y7), .val (.int y8), .val (.int y9), .val (.int y10), .val (.int y11), .val (.ref b8), .val (.ref b12), .val (.int i14), .val (.int i15), .unset, .unset] []))
      refine .pre (fun _ kq => XS.iconst X.here hx rfl (hb hby at_333) kq) ?_
      show OwnEnds p e below _ (T.setTop (mkF m 334 #[.val (.int p0), .val (.int p1), .val (.int p2), .val (.int p3), .val (.int y4), .val (.int y5), .val (.int y6), .val (.int y7), .val (.int y8), .val (.int y9), .val (.int y10), .val (.int y11), .val (.ref b8), .val (.ref b12), .val (.int i14), .val (.int i15), .unset, .unset] [(.int (1 : Int32))]))
      refine .pre (fun _ kq => XS.goto X.here hx rfl (pc0 := 334) (pc' := 338) rfl (hb hby at_334) (by decide) (by decide) kq) ?_
      exact B338 T _ _ _ X eT N hk hn i14 i15 (1 : Int32) hF
    have B319 : ∀ (T : State) (L : List Loc) (k n : Nat) (X : Stand p l e room_1 s m #[(.int p0), (.int p1), (.int p2), (.int p3)] below meth c T L k n) (eT : T.heap = hh) (N : Fr n0 L) (hk : k ≤ 40) (hn : n ≤ 12480) (i14 : Int32) (i15 : Int32), f0_319 y4 y5 y6 y7 y8 y9 y10 y11 aF11 G i14 i15 = (1 : Int32) → OwnEnds p e below (OwnQ s (Q0 Z p0 p1 p2 p3 xD h0 n0) 40 12480) (T.setTop (mkF m 319 #[.val (.int p0), .val (.int p1), .val (.int p2), .val (.int p3), .val (.int y4), .val (.int y5), .val (.int y6), .val (.int y7), .val (.int y8), .val (.int y9), .val (.int y10), .val (.int y11), .val (.ref b8), .val (.ref b12), .val (.int i14), .val (.int i15), .unset, .unset] [])) := by
      intro T L k n X eT N hk hn i14 i15 hF
      change (if y7 = y6 then (if y10 = y9 then (f0_337 y4 y5 y6 y7 y8 y9 y10 y11 aF11 G i14 i15) else (f0_333 y4 y5 y6 y7 y8 y9 y10 y11 aF11 G i14 i15)) else (f0_333 y4 y5 y6 y7 y8 y9 y10 y11 aF11 G i14 i15)) = _ at hF
      show OwnEnds p e below _ (T.setTop (mkF m 319 #[.val (.int p0), .val (.int p1), .val (.int p2), .val (.int p3), .val (.int y4), .val (.int y5), .val (.int y6), .val (.int y7), .val (.int y8), .val (.int y9), .val (.int y10), .val (.int y11), .val (.ref b8), .val (.ref b12), .val (.int i14), .val (.int i15), .unset, .unset] []))
      refine .pre (fun _ kq => XS.iload X.here hx rfl (hb hby at_319) rfl kq) ?_
      show OwnEnds p e below _ (T.setTop (mkF m 321 #[.val (.int p0), .val (.int p1), .val (.int p2), .val (.int p3), .val (.int y4), .val (.int y5), .val (.int y6), .val (.int y7), .val (.int y8), .val (.int y9), .val (.int y10), .val (.int y11), .val (.ref b8), .val (.ref b12), .val (.int i14), .val (.int i15), .unset, .unset] [(.int y7)]))
      refine .pre (fun _ kq => XS.iload X.here hx rfl (hb hby at_321) rfl kq) ?_
      show OwnEnds p e below _ (T.setTop (mkF m 323 #[.val (.int p0), .val (.int p1), .val (.int p2), .val (.int p3), .val (.int y4), .val (.int y5), .val (.int y6), .val (.int y7), .val (.int y8), .val (.int y9), .val (.int y10), .val (.int y11), .val (.ref b8), .val (.ref b12), .val (.int i14), .val (.int i15), .unset, .unset] [(.int y6), (.int y7)]))
      by_cases hc323 : y7 = y6
      · rw [if_pos hc323] at hF
        refine .pre (fun _ kq => XS.icmpNo X.here hx rfl (hb hby at_323) rfl (teq hc323).2 kq) ?_
        show OwnEnds p e below _ (T.setTop (mkF m 326 #[.val (.int p0), .val (.int p1), .val (.int p2), .val (.int p3), .val (.int y4), .val (.int y5), .val (.int y6), .val (.int y7), .val (.int y8), .val (.int y9), .val (.int y10), .val (.int y11), .val (.ref b8), .val (.ref b12), .val (.int i14), .val (.int i15), .unset, .unset] []))
        refine .pre (fun _ kq => XS.iload X.here hx rfl (hb hby at_326) rfl kq) ?_
        show OwnEnds p e below _ (T.setTop (mkF m 328 #[.val (.int p0), .val (.int p1), .val (.int p2), .val (.int p3), .val (.int y4), .val (.int y5), .val (.int y6), .val (.int y7), .val (.int y8), .val (.int y9), .val (.int y10), .val (.int y11), .val (.ref b8), .val (.ref b12), .val (.int i14), .val (.int i15), .unset, .unset] [(.int y10)]))
        refine .pre (fun _ kq => XS.iload X.here hx rfl (hb hby at_328) rfl kq) ?_
        show OwnEnds p e below _ (T.setTop (mkF m 330 #[.val (.int p0), .val (.int p1), .val (.int p2), .val (.int p3), .val (.int y4), .val (.int y5), .val (.int y6), .val (.int y7), .val (.int y8), .val (.int y9), .val (.int y10), .val (.int y11), .val (.ref b8), .val (.ref b12), .val (.int i14), .val (.int i15), .unset, .unset] [(.int y9), (.int y10)]))
        by_cases hc330 : y10 = y9
        · rw [if_pos hc330] at hF
          refine .pre (fun _ kq => XS.icmpYes X.here hx rfl (pc0 := 330) (pc' := 337) rfl (hb hby at_330) rfl (teq hc330).1 (by decide) (by decide) kq) ?_
          exact B337 T _ _ _ X eT N hk hn i14 i15 hF
        · rw [if_neg hc330] at hF
          refine .pre (fun _ kq => XS.icmpNo X.here hx rfl (hb hby at_330) rfl (feq hc330).1 kq) ?_
          exact B333 T _ _ _ X eT N hk hn i14 i15 hF
      · rw [if_neg hc323] at hF
        refine .pre (fun _ kq => XS.icmpYes X.here hx rfl (pc0 := 323) (pc' := 333) rfl (hb hby at_323) rfl (feq hc323).2 (by decide) (by decide) kq) ?_
        exact B333 T _ _ _ X eT N hk hn i14 i15 hF
    have B290 : ∀ (T : State) (L : List Loc) (k n : Nat) (X : Stand p l e room_1 s m #[(.int p0), (.int p1), (.int p2), (.int p3)] below meth c T L k n) (eT : T.heap = hh) (N : Fr n0 L) (hk : k ≤ 40) (hn : n ≤ 12480) (i14 : Int32) (t0 : Int32), f0_290 y4 y5 y6 y7 y8 y9 y10 y11 aF11 G i14 t0 = (1 : Int32) → OwnEnds p e below (OwnQ s (Q0 Z p0 p1 p2 p3 xD h0 n0) 40 12480) (T.setTop (mkF m 290 #[.val (.int p0), .val (.int p1), .val (.int p2), .val (.int p3), .val (.int y4), .val (.int y5), .val (.int y6), .val (.int y7), .val (.int y8), .val (.int y9), .val (.int y10), .val (.int y11), .val (.ref b8), .val (.ref b12), .val (.int i14), .unset, .unset, .unset] [(.int t0)])) := by
      intro T L k n X eT N hk hn i14 t0 hF
      change (if (2 : Int32) < y4 then (if y7 = y10 then (f0_337 y4 y5 y6 y7 y8 y9 y10 y11 aF11 G i14 t0) else (if y7 = y5 then (if y10 = y8 then (f0_337 y4 y5 y6 y7 y8 y9 y10 y11 aF11 G i14 t0) else (f0_319 y4 y5 y6 y7 y8 y9 y10 y11 aF11 G i14 t0)) else (f0_319 y4 y5 y6 y7 y8 y9 y10 y11 aF11 G i14 t0))) else (f0_337 y4 y5 y6 y7 y8 y9 y10 y11 aF11 G i14 t0)) = _ at hF
      show OwnEnds p e below _ (T.setTop (mkF m 290 #[.val (.int p0), .val (.int p1), .val (.int p2), .val (.int p3), .val (.int y4), .val (.int y5), .val (.int y6), .val (.int y7), .val (.int y8), .val (.int y9), .val (.int y10), .val (.int y11), .val (.ref b8), .val (.ref b12), .val (.int i14), .unset, .unset, .unset] [(.int t0)]))
      refine .pre (fun _ kq => XS.istore X.here hx rfl (hb hby at_290) rfl (l' := #[.val (.int p0), .val (.int p1), .val (.int p2), .val (.int p3), .val (.int y4), .val (.int y5), .val (.int y6), .val (.int y7), .val (.int y8), .val (.int y9), .val (.int y10), .val (.int y11), .val (.ref b8), .val (.ref b12), .val (.int i14), .val (.int t0), .unset, .unset]) rfl kq) ?_
      show OwnEnds p e below _ (T.setTop (mkF m 292 #[.val (.int p0), .val (.int p1), .val (.int p2), .val (.int p3), .val (.int y4), .val (.int y5), .val (.int y6), .val (.int y7), .val (.int y8), .val (.int y9), .val (.int y10), .val (.int y11), .val (.ref b8), .val (.ref b12), .val (.int i14), .val (.int t0), .unset, .unset] []))
      refine .pre (fun _ kq => XS.iload X.here hx rfl (hb hby at_292) rfl kq) ?_
      show OwnEnds p e below _ (T.setTop (mkF m 294 #[.val (.int p0), .val (.int p1), .val (.int p2), .val (.int p3), .val (.int y4), .val (.int y5), .val (.int y6), .val (.int y7), .val (.int y8), .val (.int y9), .val (.int y10), .val (.int y11), .val (.ref b8), .val (.ref b12), .val (.int i14), .val (.int t0), .unset, .unset] [(.int y4)]))
      refine .pre (fun _ kq => XS.iconst X.here hx rfl (hb hby at_294) kq) ?_
      show OwnEnds p e below _ (T.setTop (mkF m 295 #[.val (.int p0), .val (.int p1), .val (.int p2), .val (.int p3), .val (.int y4), .val (.int y5), .val (.int y6), .val (.int y7), .val (.int y8), .val (.int y9), .val (.int y10), .val (.int y11), .val (.ref b8), .val (.ref b12), .val (.int i14), .val (.int t0), .unset, .unset] [(.int (2 : Int32)), (.int y4)]))
      by_cases hc295 : (2 : Int32) < y4
      · rw [if_pos hc295] at hF
        refine .pre (fun _ kq => XS.icmpNo X.here hx rfl (hb hby at_295) rfl (tlt hc295).2.2.2 kq) ?_
        show OwnEnds p e below _ (T.setTop (mkF m 298 #[.val (.int p0), .val (.int p1), .val (.int p2), .val (.int p3), .val (.int y4), .val (.int y5), .val (.int y6), .val (.int y7), .val (.int y8), .val (.int y9), .val (.int y10), .val (.int y11), .val (.ref b8), .val (.ref b12), .val (.int i14), .val (.int t0), .unset, .unset] []))
        refine .pre (fun _ kq => XS.iload X.here hx rfl (hb hby at_298) rfl kq) ?_
        show OwnEnds p e below _ (T.setTop (mkF m 300 #[.val (.int p0), .val (.int p1), .val (.int p2), .val (.int p3), .val (.int y4), .val (.int y5), .val (.int y6), .val (.int y7), .val (.int y8), .val (.int y9), .val (.int y10), .val (.int y11), .val (.ref b8), .val (.ref b12), .val (.int i14), .val (.int t0), .unset, .unset] [(.int y7)]))
        refine .pre (fun _ kq => XS.iload X.here hx rfl (hb hby at_300) rfl kq) ?_
        show OwnEnds p e below _ (T.setTop (mkF m 302 #[.val (.int p0), .val (.int p1), .val (.int p2), .val (.int p3), .val (.int y4), .val (.int y5), .val (.int y6), .val (.int y7), .val (.int y8), .val (.int y9), .val (.int y10), .val (.int y11), .val (.ref b8), .val (.ref b12), .val (.int i14), .val (.int t0), .unset, .unset] [(.int y10), (.int y7)]))
        by_cases hc302 : y7 = y10
        · rw [if_pos hc302] at hF
          refine .pre (fun _ kq => XS.icmpYes X.here hx rfl (pc0 := 302) (pc' := 337) rfl (hb hby at_302) rfl (teq hc302).1 (by decide) (by decide) kq) ?_
          exact B337 T _ _ _ X eT N hk hn i14 t0 hF
        · rw [if_neg hc302] at hF
          refine .pre (fun _ kq => XS.icmpNo X.here hx rfl (hb hby at_302) rfl (feq hc302).1 kq) ?_
          show OwnEnds p e below _ (T.setTop (mkF m 305 #[.val (.int p0), .val (.int p1), .val (.int p2), .val (.int p3), .val (.int y4), .val (.int y5), .val (.int y6), .val (.int y7), .val (.int y8), .val (.int y9), .val (.int y10), .val (.int y11), .val (.ref b8), .val (.ref b12), .val (.int i14), .val (.int t0), .unset, .unset] []))
          refine .pre (fun _ kq => XS.iload X.here hx rfl (hb hby at_305) rfl kq) ?_
          show OwnEnds p e below _ (T.setTop (mkF m 307 #[.val (.int p0), .val (.int p1), .val (.int p2), .val (.int p3), .val (.int y4), .val (.int y5), .val (.int y6), .val (.int y7), .val (.int y8), .val (.int y9), .val (.int y10), .val (.int y11), .val (.ref b8), .val (.ref b12), .val (.int i14), .val (.int t0), .unset, .unset] [(.int y7)]))
          refine .pre (fun _ kq => XS.iload X.here hx rfl (hb hby at_307) rfl kq) ?_
          show OwnEnds p e below _ (T.setTop (mkF m 309 #[.val (.int p0), .val (.int p1), .val (.int p2), .val (.int p3), .val (.int y4), .val (.int y5), .val (.int y6), .val (.int y7), .val (.int y8), .val (.int y9), .val (.int y10), .val (.int y11), .val (.ref b8), .val (.ref b12), .val (.int i14), .val (.int t0), .unset, .unset] [(.int y5), (.int y7)]))
          by_cases hc309 : y7 = y5
          · rw [if_pos hc309] at hF
            refine .pre (fun _ kq => XS.icmpNo X.here hx rfl (hb hby at_309) rfl (teq hc309).2 kq) ?_
            show OwnEnds p e below _ (T.setTop (mkF m 312 #[.val (.int p0), .val (.int p1), .val (.int p2), .val (.int p3), .val (.int y4), .val (.int y5), .val (.int y6), .val (.int y7), .val (.int y8), .val (.int y9), .val (.int y10), .val (.int y11), .val (.ref b8), .val (.ref b12), .val (.int i14), .val (.int t0), .unset, .unset] []))
            refine .pre (fun _ kq => XS.iload X.here hx rfl (hb hby at_312) rfl kq) ?_
            show OwnEnds p e below _ (T.setTop (mkF m 314 #[.val (.int p0), .val (.int p1), .val (.int p2), .val (.int p3), .val (.int y4), .val (.int y5), .val (.int y6), .val (.int y7), .val (.int y8), .val (.int y9), .val (.int y10), .val (.int y11), .val (.ref b8), .val (.ref b12), .val (.int i14), .val (.int t0), .unset, .unset] [(.int y10)]))
            refine .pre (fun _ kq => XS.iload X.here hx rfl (hb hby at_314) rfl kq) ?_
            show OwnEnds p e below _ (T.setTop (mkF m 316 #[.val (.int p0), .val (.int p1), .val (.int p2), .val (.int p3), .val (.int y4), .val (.int y5), .val (.int y6), .val (.int y7), .val (.int y8), .val (.int y9), .val (.int y10), .val (.int y11), .val (.ref b8), .val (.ref b12), .val (.int i14), .val (.int t0), .unset, .unset] [(.int y8), (.int y10)]))
            by_cases hc316 : y10 = y8
            · rw [if_pos hc316] at hF
              refine .pre (fun _ kq => XS.icmpYes X.here hx rfl (pc0 := 316) (pc' := 337) rfl (hb hby at_316) rfl (teq hc316).1 (by decide) (by decide) kq) ?_
              exact B337 T _ _ _ X eT N hk hn i14 t0 hF
            · rw [if_neg hc316] at hF
              refine .pre (fun _ kq => XS.icmpNo X.here hx rfl (hb hby at_316) rfl (feq hc316).1 kq) ?_
              exact B319 T _ _ _ X eT N hk hn i14 t0 hF
          · rw [if_neg hc309] at hF
            refine .pre (fun _ kq => XS.icmpYes X.here hx rfl (pc0 := 309) (pc' := 319) rfl (hb hby at_309) rfl (feq hc309).2 (by decide) (by decide) kq) ?_
            exact B319 T _ _ _ X eT N hk hn i14 t0 hF
      · rw [if_neg hc295] at hF
        refine .pre (fun _ kq => XS.icmpYes X.here hx rfl (pc0 := 295) (pc' := 337) rfl (hb hby at_295) rfl (flt hc295).2.2.2 (by decide) (by decide) kq) ?_
        exact B337 T _ _ _ X eT N hk hn i14 t0 hF
    have B289 : ∀ (T : State) (L : List Loc) (k n : Nat) (X : Stand p l e room_1 s m #[(.int p0), (.int p1), (.int p2), (.int p3)] below meth c T L k n) (eT : T.heap = hh) (N : Fr n0 L) (hk : k ≤ 40) (hn : n ≤ 12480) (i14 : Int32), f0_289 y4 y5 y6 y7 y8 y9 y10 y11 aF11 G i14 = (1 : Int32) → OwnEnds p e below (OwnQ s (Q0 Z p0 p1 p2 p3 xD h0 n0) 40 12480) (T.setTop (mkF m 289 #[.val (.int p0), .val (.int p1), .val (.int p2), .val (.int p3), .val (.int y4), .val (.int y5), .val (.int y6), .val (.int y7), .val (.int y8), .val (.int y9), .val (.int y10), .val (.int y11), .val (.ref b8), .val (.ref b12), .val (.int i14), .unset, .unset, .unset] [])) := by
      intro T L k n X eT N hk hn i14 hF
      change (f0_290 y4 y5 y6 y7 y8 y9 y10 y11 aF11 G i14 (0 : Int32)) = _ at hF
      show OwnEnds p e below _ (T.setTop (mkF m 289 #[.val (.int p0), .val (.int p1), .val (.int p2), .val (.int p3), .val (.int y4), .val (.int y5), .val (.int y6), .val (.int y7), .val (.int y8), .val (.int y9), .val (.int y10), .val (.int y11), .val (.ref b8), .val (.ref b12), .val (.int i14), .unset, .unset, .unset] []))
      refine .pre (fun _ kq => XS.iconst X.here hx rfl (hb hby at_289) kq) ?_
      exact B290 T _ _ _ X eT N hk hn i14 (0 : Int32) hF
    have B285 : ∀ (T : State) (L : List Loc) (k n : Nat) (X : Stand p l e room_1 s m #[(.int p0), (.int p1), (.int p2), (.int p3)] below meth c T L k n) (eT : T.heap = hh) (N : Fr n0 L) (hk : k ≤ 40) (hn : n ≤ 12480) (i14 : Int32), f0_285 y4 y5 y6 y7 y8 y9 y10 y11 aF11 G i14 = (1 : Int32) → OwnEnds p e below (OwnQ s (Q0 Z p0 p1 p2 p3 xD h0 n0) 40 12480) (T.setTop (mkF m 285 #[.val (.int p0), .val (.int p1), .val (.int p2), .val (.int p3), .val (.int y4), .val (.int y5), .val (.int y6), .val (.int y7), .val (.int y8), .val (.int y9), .val (.int y10), .val (.int y11), .val (.ref b8), .val (.ref b12), .val (.int i14), .unset, .unset, .unset] [])) := by
      intro T L k n X eT N hk hn i14 hF
      change (f0_290 y4 y5 y6 y7 y8 y9 y10 y11 aF11 G i14 (1 : Int32)) = _ at hF
      show OwnEnds p e below _ (T.setTop (mkF m 285 #[.val (.int p0), .val (.int p1), .val (.int p2), .val (.int p3), .val (.int y4), .val (.int y5), .val (.int y6), .val (.int y7), .val (.int y8), .val (.int y9), .val (.int y10), .val (.int y11), .val (.ref b8), .val (.ref b12), .val (.int i14), .unset, .unset, .unset] []))
      refine .pre (fun _ kq => XS.iconst X.here hx rfl (hb hby at_285) kq) ?_
      show OwnEnds p e below _ (T.setTop (mkF m 286 #[.val (.int p0), .val (.int p1), .val (.int p2), .val (.int p3), .val (.int y4), .val (.int y5), .val (.int y6), .val (.int y7), .val (.int y8), .val (.int y9), .val (.int y10), .val (.int y11), .val (.ref b8), .val (.ref b12), .val (.int i14), .unset, .unset, .unset] [(.int (1 : Int32))]))
      refine .pre (fun _ kq => XS.goto X.here hx rfl (pc0 := 286) (pc' := 290) rfl (hb hby at_286) (by decide) (by decide) kq) ?_
      exact B290 T _ _ _ X eT N hk hn i14 (1 : Int32) hF
    have B256 : ∀ (T : State) (L : List Loc) (k n : Nat) (X : Stand p l e room_1 s m #[(.int p0), (.int p1), (.int p2), (.int p3)] below meth c T L k n) (eT : T.heap = hh) (N : Fr n0 L) (hk : k ≤ 40) (hn : n ≤ 12480) (t0 : Int32), f0_256 y4 y5 y6 y7 y8 y9 y10 y11 aF11 G t0 = (1 : Int32) → OwnEnds p e below (OwnQ s (Q0 Z p0 p1 p2 p3 xD h0 n0) 40 12480) (T.setTop (mkF m 256 #[.val (.int p0), .val (.int p1), .val (.int p2), .val (.int p3), .val (.int y4), .val (.int y5), .val (.int y6), .val (.int y7), .val (.int y8), .val (.int y9), .val (.int y10), .val (.int y11), .val (.ref b8), .val (.ref b12), .unset, .unset, .unset, .unset] [(.int t0)])) := by
      intro T L k n X eT N hk hn t0 hF
      change (if (1 : Int32) < y4 then (if y6 = y9 then (f0_289 y4 y5 y6 y7 y8 y9 y10 y11 aF11 G t0) else (if y6 = y5 then (if y9 = y8 then (f0_289 y4 y5 y6 y7 y8 y9 y10 y11 aF11 G t0) else (f0_285 y4 y5 y6 y7 y8 y9 y10 y11 aF11 G t0)) else (f0_285 y4 y5 y6 y7 y8 y9 y10 y11 aF11 G t0))) else (f0_289 y4 y5 y6 y7 y8 y9 y10 y11 aF11 G t0)) = _ at hF
      show OwnEnds p e below _ (T.setTop (mkF m 256 #[.val (.int p0), .val (.int p1), .val (.int p2), .val (.int p3), .val (.int y4), .val (.int y5), .val (.int y6), .val (.int y7), .val (.int y8), .val (.int y9), .val (.int y10), .val (.int y11), .val (.ref b8), .val (.ref b12), .unset, .unset, .unset, .unset] [(.int t0)]))
      refine .pre (fun _ kq => XS.istore X.here hx rfl (hb hby at_256) rfl (l' := #[.val (.int p0), .val (.int p1), .val (.int p2), .val (.int p3), .val (.int y4), .val (.int y5), .val (.int y6), .val (.int y7), .val (.int y8), .val (.int y9), .val (.int y10), .val (.int y11), .val (.ref b8), .val (.ref b12), .val (.int t0), .unset, .unset, .unset]) rfl kq) ?_
      show OwnEnds p e below _ (T.setTop (mkF m 258 #[.val (.int p0), .val (.int p1), .val (.int p2), .val (.int p3), .val (.int y4), .val (.int y5), .val (.int y6), .val (.int y7), .val (.int y8), .val (.int y9), .val (.int y10), .val (.int y11), .val (.ref b8), .val (.ref b12), .val (.int t0), .unset, .unset, .unset] []))
      refine .pre (fun _ kq => XS.iload X.here hx rfl (hb hby at_258) rfl kq) ?_
      show OwnEnds p e below _ (T.setTop (mkF m 260 #[.val (.int p0), .val (.int p1), .val (.int p2), .val (.int p3), .val (.int y4), .val (.int y5), .val (.int y6), .val (.int y7), .val (.int y8), .val (.int y9), .val (.int y10), .val (.int y11), .val (.ref b8), .val (.ref b12), .val (.int t0), .unset, .unset, .unset] [(.int y4)]))
      refine .pre (fun _ kq => XS.iconst X.here hx rfl (hb hby at_260) kq) ?_
      show OwnEnds p e below _ (T.setTop (mkF m 261 #[.val (.int p0), .val (.int p1), .val (.int p2), .val (.int p3), .val (.int y4), .val (.int y5), .val (.int y6), .val (.int y7), .val (.int y8), .val (.int y9), .val (.int y10), .val (.int y11), .val (.ref b8), .val (.ref b12), .val (.int t0), .unset, .unset, .unset] [(.int (1 : Int32)), (.int y4)]))
      by_cases hc261 : (1 : Int32) < y4
      · rw [if_pos hc261] at hF
        refine .pre (fun _ kq => XS.icmpNo X.here hx rfl (hb hby at_261) rfl (tlt hc261).2.2.2 kq) ?_
        show OwnEnds p e below _ (T.setTop (mkF m 264 #[.val (.int p0), .val (.int p1), .val (.int p2), .val (.int p3), .val (.int y4), .val (.int y5), .val (.int y6), .val (.int y7), .val (.int y8), .val (.int y9), .val (.int y10), .val (.int y11), .val (.ref b8), .val (.ref b12), .val (.int t0), .unset, .unset, .unset] []))
        refine .pre (fun _ kq => XS.iload X.here hx rfl (hb hby at_264) rfl kq) ?_
        show OwnEnds p e below _ (T.setTop (mkF m 266 #[.val (.int p0), .val (.int p1), .val (.int p2), .val (.int p3), .val (.int y4), .val (.int y5), .val (.int y6), .val (.int y7), .val (.int y8), .val (.int y9), .val (.int y10), .val (.int y11), .val (.ref b8), .val (.ref b12), .val (.int t0), .unset, .unset, .unset] [(.int y6)]))
        refine .pre (fun _ kq => XS.iload X.here hx rfl (hb hby at_266) rfl kq) ?_
        show OwnEnds p e below _ (T.setTop (mkF m 268 #[.val (.int p0), .val (.int p1), .val (.int p2), .val (.int p3), .val (.int y4), .val (.int y5), .val (.int y6), .val (.int y7), .val (.int y8), .val (.int y9), .val (.int y10), .val (.int y11), .val (.ref b8), .val (.ref b12), .val (.int t0), .unset, .unset, .unset] [(.int y9), (.int y6)]))
        by_cases hc268 : y6 = y9
        · rw [if_pos hc268] at hF
          refine .pre (fun _ kq => XS.icmpYes X.here hx rfl (pc0 := 268) (pc' := 289) rfl (hb hby at_268) rfl (teq hc268).1 (by decide) (by decide) kq) ?_
          exact B289 T _ _ _ X eT N hk hn t0 hF
        · rw [if_neg hc268] at hF
          refine .pre (fun _ kq => XS.icmpNo X.here hx rfl (hb hby at_268) rfl (feq hc268).1 kq) ?_
          show OwnEnds p e below _ (T.setTop (mkF m 271 #[.val (.int p0), .val (.int p1), .val (.int p2), .val (.int p3), .val (.int y4), .val (.int y5), .val (.int y6), .val (.int y7), .val (.int y8), .val (.int y9), .val (.int y10), .val (.int y11), .val (.ref b8), .val (.ref b12), .val (.int t0), .unset, .unset, .unset] []))
          refine .pre (fun _ kq => XS.iload X.here hx rfl (hb hby at_271) rfl kq) ?_
          show OwnEnds p e below _ (T.setTop (mkF m 273 #[.val (.int p0), .val (.int p1), .val (.int p2), .val (.int p3), .val (.int y4), .val (.int y5), .val (.int y6), .val (.int y7), .val (.int y8), .val (.int y9), .val (.int y10), .val (.int y11), .val (.ref b8), .val (.ref b12), .val (.int t0), .unset, .unset, .unset] [(.int y6)]))
          refine .pre (fun _ kq => XS.iload X.here hx rfl (hb hby at_273) rfl kq) ?_
          show OwnEnds p e below _ (T.setTop (mkF m 275 #[.val (.int p0), .val (.int p1), .val (.int p2), .val (.int p3), .val (.int y4), .val (.int y5), .val (.int y6), .val (.int y7), .val (.int y8), .val (.int y9), .val (.int y10), .val (.int y11), .val (.ref b8), .val (.ref b12), .val (.int t0), .unset, .unset, .unset] [(.int y5), (.int y6)]))
          by_cases hc275 : y6 = y5
          · rw [if_pos hc275] at hF
            refine .pre (fun _ kq => XS.icmpNo X.here hx rfl (hb hby at_275) rfl (teq hc275).2 kq) ?_
            show OwnEnds p e below _ (T.setTop (mkF m 278 #[.val (.int p0), .val (.int p1), .val (.int p2), .val (.int p3), .val (.int y4), .val (.int y5), .val (.int y6), .val (.int y7), .val (.int y8), .val (.int y9), .val (.int y10), .val (.int y11), .val (.ref b8), .val (.ref b12), .val (.int t0), .unset, .unset, .unset] []))
            refine .pre (fun _ kq => XS.iload X.here hx rfl (hb hby at_278) rfl kq) ?_
            show OwnEnds p e below _ (T.setTop (mkF m 280 #[.val (.int p0), .val (.int p1), .val (.int p2), .val (.int p3), .val (.int y4), .val (.int y5), .val (.int y6), .val (.int y7), .val (.int y8), .val (.int y9), .val (.int y10), .val (.int y11), .val (.ref b8), .val (.ref b12), .val (.int t0), .unset, .unset, .unset] [(.int y9)]))
            refine .pre (fun _ kq => XS.iload X.here hx rfl (hb hby at_280) rfl kq) ?_
            show OwnEnds p e below _ (T.setTop (mkF m 282 #[.val (.int p0), .val (.int p1), .val (.int p2), .val (.int p3), .val (.int y4), .val (.int y5), .val (.int y6), .val (.int y7), .val (.int y8), .val (.int y9), .val (.int y10), .val (.int y11), .val (.ref b8), .val (.ref b12), .val (.int t0), .unset, .unset, .unset] [(.int y8), (.int y9)]))
            by_cases hc282 : y9 = y8
            · rw [if_pos hc282] at hF
              refine .pre (fun _ kq => XS.icmpYes X.here hx rfl (pc0 := 282) (pc' := 289) rfl (hb hby at_282) rfl (teq hc282).1 (by decide) (by decide) kq) ?_
              exact B289 T _ _ _ X eT N hk hn t0 hF
            · rw [if_neg hc282] at hF
              refine .pre (fun _ kq => XS.icmpNo X.here hx rfl (hb hby at_282) rfl (feq hc282).1 kq) ?_
              exact B285 T _ _ _ X eT N hk hn t0 hF
          · rw [if_neg hc275] at hF
            refine .pre (fun _ kq => XS.icmpYes X.here hx rfl (pc0 := 275) (pc' := 285) rfl (hb hby at_275) rfl (feq hc275).2 (by decide) (by decide) kq) ?_
            exact B285 T _ _ _ X eT N hk hn t0 hF
      · rw [if_neg hc261] at hF
        refine .pre (fun _ kq => XS.icmpYes X.here hx rfl (pc0 := 261) (pc' := 289) rfl (hb hby at_261) rfl (flt hc261).2.2.2 (by decide) (by decide) kq) ?_
        exact B289 T _ _ _ X eT N hk hn t0 hF
    have B255 : ∀ (T : State) (L : List Loc) (k n : Nat) (X : Stand p l e room_1 s m #[(.int p0), (.int p1), (.int p2), (.int p3)] below meth c T L k n) (eT : T.heap = hh) (N : Fr n0 L) (hk : k ≤ 40) (hn : n ≤ 12480), f0_255 y4 y5 y6 y7 y8 y9 y10 y11 aF11 G = (1 : Int32) → OwnEnds p e below (OwnQ s (Q0 Z p0 p1 p2 p3 xD h0 n0) 40 12480) (T.setTop (mkF m 255 #[.val (.int p0), .val (.int p1), .val (.int p2), .val (.int p3), .val (.int y4), .val (.int y5), .val (.int y6), .val (.int y7), .val (.int y8), .val (.int y9), .val (.int y10), .val (.int y11), .val (.ref b8), .val (.ref b12), .unset, .unset, .unset, .unset] [])) := by
      intro T L k n X eT N hk hn  hF
      change (f0_256 y4 y5 y6 y7 y8 y9 y10 y11 aF11 G (0 : Int32)) = _ at hF
      show OwnEnds p e below _ (T.setTop (mkF m 255 #[.val (.int p0), .val (.int p1), .val (.int p2), .val (.int p3), .val (.int y4), .val (.int y5), .val (.int y6), .val (.int y7), .val (.int y8), .val (.int y9), .val (.int y10), .val (.int y11), .val (.ref b8), .val (.ref b12), .unset, .unset, .unset, .unset] []))
      refine .pre (fun _ kq => XS.iconst X.here hx rfl (hb hby at_255) kq) ?_
      exact B256 T _ _ _ X eT N hk hn (0 : Int32) hF
    have B239 : ∀ (T : State) (L : List Loc) (k n : Nat) (X : Stand p l e room_1 s m #[(.int p0), (.int p1), (.int p2), (.int p3)] below meth c T L k n) (eT : T.heap = hh) (N : Fr n0 L) (hk : k ≤ 40) (hn : n ≤ 12480), f0_239 y4 y5 y6 y7 y8 y9 y10 y11 aF11 G = (1 : Int32) → OwnEnds p e below (OwnQ s (Q0 Z p0 p1 p2 p3 xD h0 n0) 40 12480) (T.setTop (mkF m 239 #[.val (.int p0), .val (.int p1), .val (.int p2), .val (.int p3), .val (.int y4), .val (.int y5), .val (.int y6), .val (.int y7), .val (.int y8), .val (.int y9), .val (.int y10), .val (.int y11), .val (.ref b8), .val (.ref b12), .unset, .unset, .unset, .unset] [])) := by
      intro T L k n X eT N hk hn  hF
      change (if (0 : Int32) < y4 then (if y5 = y8 then (f0_255 y4 y5 y6 y7 y8 y9 y10 y11 aF11 G) else (f0_256 y4 y5 y6 y7 y8 y9 y10 y11 aF11 G (1 : Int32))) else (f0_255 y4 y5 y6 y7 y8 y9 y10 y11 aF11 G)) = _ at hF
      show OwnEnds p e below _ (T.setTop (mkF m 239 #[.val (.int p0), .val (.int p1), .val (.int p2), .val (.int p3), .val (.int y4), .val (.int y5), .val (.int y6), .val (.int y7), .val (.int y8), .val (.int y9), .val (.int y10), .val (.int y11), .val (.ref b8), .val (.ref b12), .unset, .unset, .unset, .unset] []))
      refine .pre (fun _ kq => XS.iload X.here hx rfl (hb hby at_239) rfl kq) ?_
      show OwnEnds p e below _ (T.setTop (mkF m 241 #[.val (.int p0), .val (.int p1), .val (.int p2), .val (.int p3), .val (.int y4), .val (.int y5), .val (.int y6), .val (.int y7), .val (.int y8), .val (.int y9), .val (.int y10), .val (.int y11), .val (.ref b8), .val (.ref b12), .unset, .unset, .unset, .unset] [(.int y4)]))
      by_cases hc241 : (0 : Int32) < y4
      · rw [if_pos hc241] at hF
        refine .pre (fun _ kq => XS.ifNo X.here hx rfl (hb hby at_241) rfl ((if0 _ _).trans (tlt hc241).2.2.2) kq) ?_
        show OwnEnds p e below _ (T.setTop (mkF m 244 #[.val (.int p0), .val (.int p1), .val (.int p2), .val (.int p3), .val (.int y4), .val (.int y5), .val (.int y6), .val (.int y7), .val (.int y8), .val (.int y9), .val (.int y10), .val (.int y11), .val (.ref b8), .val (.ref b12), .unset, .unset, .unset, .unset] []))
        refine .pre (fun _ kq => XS.iload X.here hx rfl (hb hby at_244) rfl kq) ?_
        show OwnEnds p e below _ (T.setTop (mkF m 246 #[.val (.int p0), .val (.int p1), .val (.int p2), .val (.int p3), .val (.int y4), .val (.int y5), .val (.int y6), .val (.int y7), .val (.int y8), .val (.int y9), .val (.int y10), .val (.int y11), .val (.ref b8), .val (.ref b12), .unset, .unset, .unset, .unset] [(.int y5)]))
        refine .pre (fun _ kq => XS.iload X.here hx rfl (hb hby at_246) rfl kq) ?_
        show OwnEnds p e below _ (T.setTop (mkF m 248 #[.val (.int p0), .val (.int p1), .val (.int p2), .val (.int p3), .val (.int y4), .val (.int y5), .val (.int y6), .val (.int y7), .val (.int y8), .val (.int y9), .val (.int y10), .val (.int y11), .val (.ref b8), .val (.ref b12), .unset, .unset, .unset, .unset] [(.int y8), (.int y5)]))
        by_cases hc248 : y5 = y8
        · rw [if_pos hc248] at hF
          refine .pre (fun _ kq => XS.icmpYes X.here hx rfl (pc0 := 248) (pc' := 255) rfl (hb hby at_248) rfl (teq hc248).1 (by decide) (by decide) kq) ?_
          exact B255 T _ _ _ X eT N hk hn  hF
        · rw [if_neg hc248] at hF
          refine .pre (fun _ kq => XS.icmpNo X.here hx rfl (hb hby at_248) rfl (feq hc248).1 kq) ?_
          show OwnEnds p e below _ (T.setTop (mkF m 251 #[.val (.int p0), .val (.int p1), .val (.int p2), .val (.int p3), .val (.int y4), .val (.int y5), .val (.int y6), .val (.int y7), .val (.int y8), .val (.int y9), .val (.int y10), .val (.int y11), .val (.ref b8), .val (.ref b12), .unset, .unset, .unset, .unset] []))
          refine .pre (fun _ kq => XS.iconst X.here hx rfl (hb hby at_251) kq) ?_
          show OwnEnds p e below _ (T.setTop (mkF m 252 #[.val (.int p0), .val (.int p1), .val (.int p2), .val (.int p3), .val (.int y4), .val (.int y5), .val (.int y6), .val (.int y7), .val (.int y8), .val (.int y9), .val (.int y10), .val (.int y11), .val (.ref b8), .val (.ref b12), .unset, .unset, .unset, .unset] [(.int (1 : Int32))]))
          refine .pre (fun _ kq => XS.goto X.here hx rfl (pc0 := 252) (pc' := 256) rfl (hb hby at_252) (by decide) (by decide) kq) ?_
          exact B256 T _ _ _ X eT N hk hn (1 : Int32) hF
      · rw [if_neg hc241] at hF
        refine .pre (fun _ kq => XS.ifYes X.here hx rfl (pc0 := 241) (pc' := 255) rfl (hb hby at_241) rfl ((if0 _ _).trans (flt hc241).2.2.2) (by decide) (by decide) kq) ?_
        exact B255 T _ _ _ X eT N hk hn  hF
    exact B239 T _ _ _ X eT N (by decide) (by decide)  hlaw
  rcases own_four b4 with hk4 | hk4 | hk4 | hk4
  · skip
    show OwnEnds p e below _ (T27.setTop (mkF m 180 #[.val (.int p0), .val (.int p1), .val (.int p2), .val (.int p3), .val (.int y4), .val (.int y5), .val (.int y6), .val (.int y7), .val (.int y8), .val (.int y9), .val (.int y10), .val (.int y11), .val (.ref b8), .val (.ref b12), .unset, .unset, .unset, .unset] []))
    refine .pre (fun _ kq => XS.iload X27.here hx rfl (hb hby at_180) rfl kq) ?_
    show OwnEnds p e below _ (T27.setTop (mkF m 182 #[.val (.int p0), .val (.int p1), .val (.int p2), .val (.int p3), .val (.int y4), .val (.int y5), .val (.int y6), .val (.int y7), .val (.int y8), .val (.int y9), .val (.int y10), .val (.int y11), .val (.ref b8), .val (.ref b12), .unset, .unset, .unset, .unset] [(.int y4)]))
    have hc182 : ¬ ((0 : Int32) < y4) := by rw [hk4]; decide
    refine .pre (fun _ kq => XS.ifYes X27.here hx rfl (pc0 := 182) (pc' := 199) rfl (hb hby at_182) rfl ((if0 _ _).trans (flt hc182).2.2.2) (by decide) (by decide) kq) ?_
    show OwnEnds p e below _ (T27.setTop (mkF m 199 #[.val (.int p0), .val (.int p1), .val (.int p2), .val (.int p3), .val (.int y4), .val (.int y5), .val (.int y6), .val (.int y7), .val (.int y8), .val (.int y9), .val (.int y10), .val (.int y11), .val (.ref b8), .val (.ref b12), .unset, .unset, .unset, .unset] []))
    refine .pre (fun _ kq => XS.iload X27.here hx rfl (hb hby at_199) rfl kq) ?_
    show OwnEnds p e below _ (T27.setTop (mkF m 201 #[.val (.int p0), .val (.int p1), .val (.int p2), .val (.int p3), .val (.int y4), .val (.int y5), .val (.int y6), .val (.int y7), .val (.int y8), .val (.int y9), .val (.int y10), .val (.int y11), .val (.ref b8), .val (.ref b12), .unset, .unset, .unset, .unset] [(.int y4)]))
    refine .pre (fun _ kq => XS.iconst X27.here hx rfl (hb hby at_201) kq) ?_
    show OwnEnds p e below _ (T27.setTop (mkF m 202 #[.val (.int p0), .val (.int p1), .val (.int p2), .val (.int p3), .val (.int y4), .val (.int y5), .val (.int y6), .val (.int y7), .val (.int y8), .val (.int y9), .val (.int y10), .val (.int y11), .val (.ref b8), .val (.ref b12), .unset, .unset, .unset, .unset] [(.int (1 : Int32)), (.int y4)]))
    have hc202 : ¬ ((1 : Int32) < y4) := by rw [hk4]; decide
    refine .pre (fun _ kq => XS.icmpYes X27.here hx rfl (pc0 := 202) (pc' := 219) rfl (hb hby at_202) rfl (flt hc202).2.2.2 (by decide) (by decide) kq) ?_
    show OwnEnds p e below _ (T27.setTop (mkF m 219 #[.val (.int p0), .val (.int p1), .val (.int p2), .val (.int p3), .val (.int y4), .val (.int y5), .val (.int y6), .val (.int y7), .val (.int y8), .val (.int y9), .val (.int y10), .val (.int y11), .val (.ref b8), .val (.ref b12), .unset, .unset, .unset, .unset] []))
    refine .pre (fun _ kq => XS.iload X27.here hx rfl (hb hby at_219) rfl kq) ?_
    show OwnEnds p e below _ (T27.setTop (mkF m 221 #[.val (.int p0), .val (.int p1), .val (.int p2), .val (.int p3), .val (.int y4), .val (.int y5), .val (.int y6), .val (.int y7), .val (.int y8), .val (.int y9), .val (.int y10), .val (.int y11), .val (.ref b8), .val (.ref b12), .unset, .unset, .unset, .unset] [(.int y4)]))
    refine .pre (fun _ kq => XS.iconst X27.here hx rfl (hb hby at_221) kq) ?_
    show OwnEnds p e below _ (T27.setTop (mkF m 222 #[.val (.int p0), .val (.int p1), .val (.int p2), .val (.int p3), .val (.int y4), .val (.int y5), .val (.int y6), .val (.int y7), .val (.int y8), .val (.int y9), .val (.int y10), .val (.int y11), .val (.ref b8), .val (.ref b12), .unset, .unset, .unset, .unset] [(.int (2 : Int32)), (.int y4)]))
    have hc222 : ¬ ((2 : Int32) < y4) := by rw [hk4]; decide
    refine .pre (fun _ kq => XS.icmpYes X27.here hx rfl (pc0 := 222) (pc' := 239) rfl (hb hby at_222) rfl (flt hc222).2.2.2 (by decide) (by decide) kq) ?_
    exact R239 own_g0 _ T27 _ X27 rfl N27 (Nat.le_trans (Nat.le_trans (Nat.le_trans (Nat.le_trans (Nat.le_trans (Nat.le_trans (Nat.le_trans (Nat.le_trans (Nat.le_trans (Nat.le_trans (Nat.le_trans (Nat.le_trans (Nat.le_trans (Nat.le_trans (Nat.le_trans (Nat.le_trans (Nat.le_trans Z0 E8.1) E9.1) K10.1) K11.1) E12.1) E13.1) K14.1) (Keep.of_wr W15).1) E16.1) K17.1) (Keep.of_wr W18).1) E19.1) K20.1) (Keep.of_wr W21).1) K23.1) K25.1) K27.1) HG27 (own_law _ _ _ _ _ _ _ _ _ _ b4 b5 b6 b7 by8 by9 by10 by11 (by unfold own_gk; rw [hk4]; rfl))
  · skip
    show OwnEnds p e below _ (T27.setTop (mkF m 180 #[.val (.int p0), .val (.int p1), .val (.int p2), .val (.int p3), .val (.int y4), .val (.int y5), .val (.int y6), .val (.int y7), .val (.int y8), .val (.int y9), .val (.int y10), .val (.int y11), .val (.ref b8), .val (.ref b12), .unset, .unset, .unset, .unset] []))
    refine .pre (fun _ kq => XS.iload X27.here hx rfl (hb hby at_180) rfl kq) ?_
    show OwnEnds p e below _ (T27.setTop (mkF m 182 #[.val (.int p0), .val (.int p1), .val (.int p2), .val (.int p3), .val (.int y4), .val (.int y5), .val (.int y6), .val (.int y7), .val (.int y8), .val (.int y9), .val (.int y10), .val (.int y11), .val (.ref b8), .val (.ref b12), .unset, .unset, .unset, .unset] [(.int y4)]))
    have hc182 : (0 : Int32) < y4 := by rw [hk4]; decide
    refine .pre (fun _ kq => XS.ifNo X27.here hx rfl (hb hby at_182) rfl ((if0 _ _).trans (tlt hc182).2.2.2) kq) ?_
    show OwnEnds p e below _ (T27.setTop (mkF m 185 #[.val (.int p0), .val (.int p1), .val (.int p2), .val (.int p3), .val (.int y4), .val (.int y5), .val (.int y6), .val (.int y7), .val (.int y8), .val (.int y9), .val (.int y10), .val (.int y11), .val (.ref b8), .val (.ref b12), .unset, .unset, .unset, .unset] []))
    refine .pre (fun _ kq => XS.aload X27.here hx rfl (hb hby at_185) rfl rfl kq) ?_
    show OwnEnds p e below _ (T27.setTop (mkF m 187 #[.val (.int p0), .val (.int p1), .val (.int p2), .val (.int p3), .val (.int y4), .val (.int y5), .val (.int y6), .val (.int y7), .val (.int y8), .val (.int y9), .val (.int y10), .val (.int y11), .val (.ref b8), .val (.ref b12), .unset, .unset, .unset, .unset] [(.ref b8)]))
    refine .pre (fun _ kq => XS.aload X27.here hx rfl (hb hby at_187) rfl rfl kq) ?_
    show OwnEnds p e below _ (T27.setTop (mkF m 189 #[.val (.int p0), .val (.int p1), .val (.int p2), .val (.int p3), .val (.int y4), .val (.int y5), .val (.int y6), .val (.int y7), .val (.int y8), .val (.int y9), .val (.int y10), .val (.int y11), .val (.ref b8), .val (.ref b12), .unset, .unset, .unset, .unset] [(.ref b12), (.ref b8)]))
    refine .pre (fun _ kq => XS.iload X27.here hx rfl (hb hby at_189) rfl kq) ?_
    show OwnEnds p e below _ (T27.setTop (mkF m 191 #[.val (.int p0), .val (.int p1), .val (.int p2), .val (.int p3), .val (.int y4), .val (.int y5), .val (.int y6), .val (.int y7), .val (.int y8), .val (.int y9), .val (.int y10), .val (.int y11), .val (.ref b8), .val (.ref b12), .unset, .unset, .unset, .unset] [(.int y8), (.ref b12), (.ref b8)]))
    obtain ⟨cl36, Ar36, qa36, qs36, qn36, qh36, qg36⟩ := id (rq6_5.keep K27 (own_nin6 (Ne.symm (Nat.ne_of_lt (Nat.lt_of_lt_of_le EG11.lt (Nat.le_of_eq g12.symm)))) (Ne.symm (Nat.ne_of_lt (Nat.lt_of_lt_of_le EL11.lt (Nat.le_of_eq g12.symm)))) (Ne.symm (Nat.ne_of_lt (Nat.lt_of_lt_of_le AP11.lt (Nat.le_of_eq g12.symm)))) (Ne.symm (Nat.ne_of_lt (Nat.lt_of_lt_of_le AR11.lt (Nat.le_of_eq g12.symm)))) (Nat.ne_of_lt (Nat.lt_of_lt_of_le V18.lt (Nat.le_of_eq g19.symm))) (Nat.ne_of_lt (Nat.lt_of_lt_of_le V21.lt szd23))))
    have hin36 : ¬ (y8 < 0 ∨ cl36.slots.size ≤ (y8).toNatClampNeg) := inb_of qs36 (own_in3 by8)
    have hat36 : cl36.slots[(y8).toNatClampNeg]? = some (.ref (own_sel b13 b16 b19 y8)) := (qh36 _ (Nat.lt_of_not_le fun y => hin36 (Or.inr y))).trans (congrArg some (own_selv b13 b16 b19 by8))
    refine .pre (fun _ kq => X27.aaload hx (j := y8) (v := (.ref (own_sel b13 b16 b19 y8))) (by first | exact Ar36.1 | (rw [rfl]; exact Ar36.1)) (State.isArrayOf_alike hZ.alike Ar36.2.1) rfl Ar36.2.2 hin36 hat36 (g := (mkF m 191 #[.val (.int p0), .val (.int p1), .val (.int p2), .val (.int p3), .val (.int y4), .val (.int y5), .val (.int y6), .val (.int y7), .val (.int y8), .val (.int y9), .val (.int y10), .val (.int y11), .val (.ref b8), .val (.ref b12), .unset, .unset, .unset, .unset] [(.int y8), (.ref b12), (.ref b8)])) rfl rfl (hb hby at_191) _ kq) ?_
    show OwnEnds p e below _ (T27.setTop (mkF m 192 #[.val (.int p0), .val (.int p1), .val (.int p2), .val (.int p3), .val (.int y4), .val (.int y5), .val (.int y6), .val (.int y7), .val (.int y8), .val (.int y9), .val (.int y10), .val (.int y11), .val (.ref b8), .val (.ref b12), .unset, .unset, .unset, .unset] [(.ref (own_sel b13 b16 b19 y8)), (.ref b8)]))
    refine .pre (fun _ kq => XS.iload X27.here hx rfl (hb hby at_192) rfl kq) ?_
    show OwnEnds p e below _ (T27.setTop (mkF m 194 #[.val (.int p0), .val (.int p1), .val (.int p2), .val (.int p3), .val (.int y4), .val (.int y5), .val (.int y6), .val (.int y7), .val (.int y8), .val (.int y9), .val (.int y10), .val (.int y11), .val (.ref b8), .val (.ref b12), .unset, .unset, .unset, .unset] [(.int y5), (.ref (own_sel b13 b16 b19 y8)), (.ref b8)]))
    refine .pre (fun _ kq => XS.iloadN X27.here hx rfl (hb hby at_194) rfl kq) ?_
    show OwnEnds p e below _ (T27.setTop (mkF m 195 #[.val (.int p0), .val (.int p1), .val (.int p2), .val (.int p3), .val (.int y4), .val (.int y5), .val (.int y6), .val (.int y7), .val (.int y8), .val (.int y9), .val (.int y10), .val (.int y11), .val (.ref b8), .val (.ref b12), .unset, .unset, .unset, .unset] [(.int p3), (.int y5), (.ref (own_sel b13 b16 b19 y8)), (.ref b8)]))
    have rq7_5 := (rq6_5.keep K27 (own_nin6 (Ne.symm (Nat.ne_of_lt (Nat.lt_of_lt_of_le EG11.lt (Nat.le_of_eq g12.symm)))) (Ne.symm (Nat.ne_of_lt (Nat.lt_of_lt_of_le EL11.lt (Nat.le_of_eq g12.symm)))) (Ne.symm (Nat.ne_of_lt (Nat.lt_of_lt_of_le AP11.lt (Nat.le_of_eq g12.symm)))) (Ne.symm (Nat.ne_of_lt (Nat.lt_of_lt_of_le AR11.lt (Nat.le_of_eq g12.symm)))) (Nat.ne_of_lt (Nat.lt_of_lt_of_le V18.lt (Nat.le_of_eq g19.symm))) (Nat.ne_of_lt (Nat.lt_of_lt_of_le V21.lt szd23))))
    have rq7_8 := (rq6_8.keep K27 (own_nin6 (Ne.symm nq4_7) (Ne.symm nq4_14) (Ne.symm nq4_20) (Ne.symm nq4_25) (Nat.ne_of_lt (Nat.lt_of_lt_of_le ((((Ea14.wr W15).ext E16).keep K17).wr W18).lt (Nat.le_of_eq g19.symm))) (Nat.ne_of_lt (Nat.lt_of_lt_of_le ((rq3_31.keep K20).wr W21).lt szd23))))
    have rq7_9 := (rq6_9.keep K27 (own_nin6 (Ne.symm nq4_7) (Ne.symm nq4_14) (Ne.symm nq4_20) (Ne.symm nq4_25) (Nat.ne_of_lt (Nat.lt_of_lt_of_le ((((Ea14.wr W15).ext E16).keep K17).wr W18).lt (Nat.le_of_eq g19.symm))) (Nat.ne_of_lt (Nat.lt_of_lt_of_le ((rq3_31.keep K20).wr W21).lt szd23))))
    have rq7_12 := (fsN25.keep K27 (own_nin6 (Ne.symm nq5_7) (Ne.symm nq5_15) (Ne.symm nq5_22) (Ne.symm nq5_28) (Nat.ne_of_lt (Nat.lt_of_lt_of_le (Ea17.wr W18).lt (Nat.le_of_eq g19.symm))) nq5_44))
    have rq7_13 := (fsS25.keep K27 (own_nin6 (Ne.symm nq5_7) (Ne.symm nq5_15) (Ne.symm nq5_22) (Ne.symm nq5_28) (Nat.ne_of_lt (Nat.lt_of_lt_of_le (Ea17.wr W18).lt (Nat.le_of_eq g19.symm))) nq5_44))
    obtain ⟨cq37, kq37, q37a, q37b, q37c⟩ := isOf hZ rfl HG27.1
    obtain ⟨_, _, ⟨T37, L37, k37, n37⟩, -, X37, ⟨Lc37, hQ37, l37, y37, z37⟩, st37⟩ := X27.virtualBack hx (y := (⟨"com/example/changeset/changeset/check/StateGraph", "add", "(Lcom/example/changeset/changeset/check/FoundState;II)Z"⟩ : MethodName)) (z := (⟨"com/example/changeset/changeset/check/StateGraph", "add", "(Lcom/example/changeset/changeset/check/FoundState;II)Z"⟩ : MethodName)) hown (mvT hZ (hw _ (List.mem_of_getElem? (i := 88) rfl))) (mvT hZ (hw _ (List.mem_of_getElem? (i := 89) rfl))) (notFace_of_selects (args := #[]) (mvT hZ (hw _ (List.mem_of_getElem? (i := 91) rfl)))) (mvT hZ (hw _ (List.mem_of_getElem? (i := 91) rfl))) (mvT hZ (hw _ (List.mem_of_getElem? (i := 90) rfl))) (by decide) (backOf (W := 0) (rm10E l Z aZ hw [] b8 (own_sel b13 b16 b19 y8) y5 p3 aL11 aP11 aR11 aF11 aE11 aT11 aA11 own_g0.1 own_g0.2.1 (0 + 1 + 1 + 1) own_g0.2.2.1 own_g0.2.2.2 y8 T27.heap n0 (Nat.le_trans (Nat.le_trans (Nat.le_trans (Nat.le_trans (Nat.le_trans (Nat.le_trans (Nat.le_trans (Nat.le_trans (Nat.le_trans (Nat.le_trans (Nat.le_trans (Nat.le_trans (Nat.le_trans (Nat.le_trans (Nat.le_trans (Nat.le_trans (Nat.le_trans Z0 E8.1) E9.1) K10.1) K11.1) E12.1) E13.1) K14.1) (Keep.of_wr W15).1) E16.1) K17.1) (Keep.of_wr W18).1) E19.1) K20.1) (Keep.of_wr W21).1) K23.1) K25.1) K27.1) HG27 (own_sel3 (P := fun b _ => Exa Z T27.heap b "com/example/changeset/changeset/check/FoundState") ((fsE23.keep K25).keep K27) (fsE25.keep K27) fsE27 by8) (own_sel3 (P := fun b j => Fld Z T27.heap b "com/example/changeset/changeset/check/FoundState" "number" "I" (.int j)) rq7_8 rq7_12 fsN27 by8) D11 (allS g_b8 GN11) ⟨⟨i0.1, i0.2.1, by omega, by omega⟩, by8.1, by8.2, i0.2.2.1, by have := i0.2.2.2; omega⟩) hZ (hw _ (List.mem_of_getElem? (i := 92) rfl)) (hw _ (List.mem_of_getElem? (i := 6) rfl)) (by decide) (by decide)) q37a q37c (g := (mkF m 195 #[.val (.int p0), .val (.int p1), .val (.int p2), .val (.int p3), .val (.int y4), .val (.int y5), .val (.int y6), .val (.int y7), .val (.int y8), .val (.int y9), .val (.int y10), .val (.int y11), .val (.ref b8), .val (.ref b12), .unset, .unset, .unset, .unset] [(.int p3), (.int y5), (.ref (own_sel b13 b16 b19 y8)), (.ref b8)])) rfl (by rw [hml]; rfl) (Steps.refl _) (argsL := [(.ref (own_sel b13 b16 b19 y8)), (.int y5), (.int p3)]) (rest := []) (lenOf pd_20 rfl) rfl (by show 2 * 0 + _ ≤ _; exact Nat.le_of_eq rfl) (hb hby at_195) (fun _ _ => ⟨rfl, rfl, (by decide : 15 + 0 ≤ _), (by decide : 6197 + 0 ≤ _)⟩)
    dsimp only [Pt.U, Pt.locs, Pt.cells, Pt.slots] at X37 l37 y37 z37 st37 hQ37
    try dsimp only [Nat.reduceAdd] at y37 z37
    subst y37 z37
    obtain ⟨rfl, N37q, K37, Hx37⟩ := hQ37
    have N37 : Fr n0 L37 := by rw [l37]; exact Fr.app N27 N37q
    refine .pre (fun _ kq => st37.trans kq) ?_
    show OwnEnds p e below _ (T37.setTop (mkF m 198 #[.val (.int p0), .val (.int p1), .val (.int p2), .val (.int p3), .val (.int y4), .val (.int y5), .val (.int y6), .val (.int y7), .val (.int y8), .val (.int y9), .val (.int y10), .val (.int y11), .val (.ref b8), .val (.ref b12), .unset, .unset, .unset, .unset] [(.int (0 : Int32))]))
    refine .pre (fun _ kq => XS.pop X37.here hx rfl (hb hby at_198) rfl rfl kq) ?_
    show OwnEnds p e below _ (T37.setTop (mkF m 199 #[.val (.int p0), .val (.int p1), .val (.int p2), .val (.int p3), .val (.int y4), .val (.int y5), .val (.int y6), .val (.int y7), .val (.int y8), .val (.int y9), .val (.int y10), .val (.int y11), .val (.ref b8), .val (.ref b12), .unset, .unset, .unset, .unset] []))
    refine .pre (fun _ kq => XS.iload X37.here hx rfl (hb hby at_199) rfl kq) ?_
    show OwnEnds p e below _ (T37.setTop (mkF m 201 #[.val (.int p0), .val (.int p1), .val (.int p2), .val (.int p3), .val (.int y4), .val (.int y5), .val (.int y6), .val (.int y7), .val (.int y8), .val (.int y9), .val (.int y10), .val (.int y11), .val (.ref b8), .val (.ref b12), .unset, .unset, .unset, .unset] [(.int y4)]))
    refine .pre (fun _ kq => XS.iconst X37.here hx rfl (hb hby at_201) kq) ?_
    show OwnEnds p e below _ (T37.setTop (mkF m 202 #[.val (.int p0), .val (.int p1), .val (.int p2), .val (.int p3), .val (.int y4), .val (.int y5), .val (.int y6), .val (.int y7), .val (.int y8), .val (.int y9), .val (.int y10), .val (.int y11), .val (.ref b8), .val (.ref b12), .unset, .unset, .unset, .unset] [(.int (1 : Int32)), (.int y4)]))
    have hc202 : ¬ ((1 : Int32) < y4) := by rw [hk4]; decide
    refine .pre (fun _ kq => XS.icmpYes X37.here hx rfl (pc0 := 202) (pc' := 219) rfl (hb hby at_202) rfl (flt hc202).2.2.2 (by decide) (by decide) kq) ?_
    show OwnEnds p e below _ (T37.setTop (mkF m 219 #[.val (.int p0), .val (.int p1), .val (.int p2), .val (.int p3), .val (.int y4), .val (.int y5), .val (.int y6), .val (.int y7), .val (.int y8), .val (.int y9), .val (.int y10), .val (.int y11), .val (.ref b8), .val (.ref b12), .unset, .unset, .unset, .unset] []))
    refine .pre (fun _ kq => XS.iload X37.here hx rfl (hb hby at_219) rfl kq) ?_
    show OwnEnds p e below _ (T37.setTop (mkF m 221 #[.val (.int p0), .val (.int p1), .val (.int p2), .val (.int p3), .val (.int y4), .val (.int y5), .val (.int y6), .val (.int y7), .val (.int y8), .val (.int y9), .val (.int y10), .val (.int y11), .val (.ref b8), .val (.ref b12), .unset, .unset, .unset, .unset] [(.int y4)]))
    refine .pre (fun _ kq => XS.iconst X37.here hx rfl (hb hby at_221) kq) ?_
    show OwnEnds p e below _ (T37.setTop (mkF m 222 #[.val (.int p0), .val (.int p1), .val (.int p2), .val (.int p3), .val (.int y4), .val (.int y5), .val (.int y6), .val (.int y7), .val (.int y8), .val (.int y9), .val (.int y10), .val (.int y11), .val (.ref b8), .val (.ref b12), .unset, .unset, .unset, .unset] [(.int (2 : Int32)), (.int y4)]))
    have hc222 : ¬ ((2 : Int32) < y4) := by rw [hk4]; decide
    refine .pre (fun _ kq => XS.icmpYes X37.here hx rfl (pc0 := 222) (pc' := 239) rfl (hb hby at_222) rfl (flt hc222).2.2.2 (by decide) (by decide) kq) ?_
    exact R239 (own_st own_g0 y5 y8) _ T37 _ X37 rfl N37 (Nat.le_trans (Nat.le_trans (Nat.le_trans (Nat.le_trans (Nat.le_trans (Nat.le_trans (Nat.le_trans (Nat.le_trans (Nat.le_trans (Nat.le_trans (Nat.le_trans (Nat.le_trans (Nat.le_trans (Nat.le_trans (Nat.le_trans (Nat.le_trans (Nat.le_trans (Nat.le_trans Z0 E8.1) E9.1) K10.1) K11.1) E12.1) E13.1) K14.1) (Keep.of_wr W15).1) E16.1) K17.1) (Keep.of_wr W18).1) E19.1) K20.1) (Keep.of_wr W21).1) K23.1) K25.1) K27.1) K37.1) Hx37 (own_law _ _ _ _ _ _ _ _ _ _ b4 b5 b6 b7 by8 by9 by10 by11 (by unfold own_gk; rw [hk4]; rfl))
  · skip
    show OwnEnds p e below _ (T27.setTop (mkF m 180 #[.val (.int p0), .val (.int p1), .val (.int p2), .val (.int p3), .val (.int y4), .val (.int y5), .val (.int y6), .val (.int y7), .val (.int y8), .val (.int y9), .val (.int y10), .val (.int y11), .val (.ref b8), .val (.ref b12), .unset, .unset, .unset, .unset] []))
    refine .pre (fun _ kq => XS.iload X27.here hx rfl (hb hby at_180) rfl kq) ?_
    show OwnEnds p e below _ (T27.setTop (mkF m 182 #[.val (.int p0), .val (.int p1), .val (.int p2), .val (.int p3), .val (.int y4), .val (.int y5), .val (.int y6), .val (.int y7), .val (.int y8), .val (.int y9), .val (.int y10), .val (.int y11), .val (.ref b8), .val (.ref b12), .unset, .unset, .unset, .unset] [(.int y4)]))
    have hc182 : (0 : Int32) < y4 := by rw [hk4]; decide
    refine .pre (fun _ kq => XS.ifNo X27.here hx rfl (hb hby at_182) rfl ((if0 _ _).trans (tlt hc182).2.2.2) kq) ?_
    show OwnEnds p e below _ (T27.setTop (mkF m 185 #[.val (.int p0), .val (.int p1), .val (.int p2), .val (.int p3), .val (.int y4), .val (.int y5), .val (.int y6), .val (.int y7), .val (.int y8), .val (.int y9), .val (.int y10), .val (.int y11), .val (.ref b8), .val (.ref b12), .unset, .unset, .unset, .unset] []))
    refine .pre (fun _ kq => XS.aload X27.here hx rfl (hb hby at_185) rfl rfl kq) ?_
    show OwnEnds p e below _ (T27.setTop (mkF m 187 #[.val (.int p0), .val (.int p1), .val (.int p2), .val (.int p3), .val (.int y4), .val (.int y5), .val (.int y6), .val (.int y7), .val (.int y8), .val (.int y9), .val (.int y10), .val (.int y11), .val (.ref b8), .val (.ref b12), .unset, .unset, .unset, .unset] [(.ref b8)]))
    refine .pre (fun _ kq => XS.aload X27.here hx rfl (hb hby at_187) rfl rfl kq) ?_
    show OwnEnds p e below _ (T27.setTop (mkF m 189 #[.val (.int p0), .val (.int p1), .val (.int p2), .val (.int p3), .val (.int y4), .val (.int y5), .val (.int y6), .val (.int y7), .val (.int y8), .val (.int y9), .val (.int y10), .val (.int y11), .val (.ref b8), .val (.ref b12), .unset, .unset, .unset, .unset] [(.ref b12), (.ref b8)]))
    refine .pre (fun _ kq => XS.iload X27.here hx rfl (hb hby at_189) rfl kq) ?_
    show OwnEnds p e below _ (T27.setTop (mkF m 191 #[.val (.int p0), .val (.int p1), .val (.int p2), .val (.int p3), .val (.int y4), .val (.int y5), .val (.int y6), .val (.int y7), .val (.int y8), .val (.int y9), .val (.int y10), .val (.int y11), .val (.ref b8), .val (.ref b12), .unset, .unset, .unset, .unset] [(.int y8), (.ref b12), (.ref b8)]))
    obtain ⟨cl38, Ar38, qa38, qs38, qn38, qh38, qg38⟩ := id (rq6_5.keep K27 (own_nin6 (Ne.symm (Nat.ne_of_lt (Nat.lt_of_lt_of_le EG11.lt (Nat.le_of_eq g12.symm)))) (Ne.symm (Nat.ne_of_lt (Nat.lt_of_lt_of_le EL11.lt (Nat.le_of_eq g12.symm)))) (Ne.symm (Nat.ne_of_lt (Nat.lt_of_lt_of_le AP11.lt (Nat.le_of_eq g12.symm)))) (Ne.symm (Nat.ne_of_lt (Nat.lt_of_lt_of_le AR11.lt (Nat.le_of_eq g12.symm)))) (Nat.ne_of_lt (Nat.lt_of_lt_of_le V18.lt (Nat.le_of_eq g19.symm))) (Nat.ne_of_lt (Nat.lt_of_lt_of_le V21.lt szd23))))
    have hin38 : ¬ (y8 < 0 ∨ cl38.slots.size ≤ (y8).toNatClampNeg) := inb_of qs38 (own_in3 by8)
    have hat38 : cl38.slots[(y8).toNatClampNeg]? = some (.ref (own_sel b13 b16 b19 y8)) := (qh38 _ (Nat.lt_of_not_le fun y => hin38 (Or.inr y))).trans (congrArg some (own_selv b13 b16 b19 by8))
    refine .pre (fun _ kq => X27.aaload hx (j := y8) (v := (.ref (own_sel b13 b16 b19 y8))) (by first | exact Ar38.1 | (rw [rfl]; exact Ar38.1)) (State.isArrayOf_alike hZ.alike Ar38.2.1) rfl Ar38.2.2 hin38 hat38 (g := (mkF m 191 #[.val (.int p0), .val (.int p1), .val (.int p2), .val (.int p3), .val (.int y4), .val (.int y5), .val (.int y6), .val (.int y7), .val (.int y8), .val (.int y9), .val (.int y10), .val (.int y11), .val (.ref b8), .val (.ref b12), .unset, .unset, .unset, .unset] [(.int y8), (.ref b12), (.ref b8)])) rfl rfl (hb hby at_191) _ kq) ?_
    show OwnEnds p e below _ (T27.setTop (mkF m 192 #[.val (.int p0), .val (.int p1), .val (.int p2), .val (.int p3), .val (.int y4), .val (.int y5), .val (.int y6), .val (.int y7), .val (.int y8), .val (.int y9), .val (.int y10), .val (.int y11), .val (.ref b8), .val (.ref b12), .unset, .unset, .unset, .unset] [(.ref (own_sel b13 b16 b19 y8)), (.ref b8)]))
    refine .pre (fun _ kq => XS.iload X27.here hx rfl (hb hby at_192) rfl kq) ?_
    show OwnEnds p e below _ (T27.setTop (mkF m 194 #[.val (.int p0), .val (.int p1), .val (.int p2), .val (.int p3), .val (.int y4), .val (.int y5), .val (.int y6), .val (.int y7), .val (.int y8), .val (.int y9), .val (.int y10), .val (.int y11), .val (.ref b8), .val (.ref b12), .unset, .unset, .unset, .unset] [(.int y5), (.ref (own_sel b13 b16 b19 y8)), (.ref b8)]))
    refine .pre (fun _ kq => XS.iloadN X27.here hx rfl (hb hby at_194) rfl kq) ?_
    show OwnEnds p e below _ (T27.setTop (mkF m 195 #[.val (.int p0), .val (.int p1), .val (.int p2), .val (.int p3), .val (.int y4), .val (.int y5), .val (.int y6), .val (.int y7), .val (.int y8), .val (.int y9), .val (.int y10), .val (.int y11), .val (.ref b8), .val (.ref b12), .unset, .unset, .unset, .unset] [(.int p3), (.int y5), (.ref (own_sel b13 b16 b19 y8)), (.ref b8)]))
    have rq8_5 := (rq6_5.keep K27 (own_nin6 (Ne.symm (Nat.ne_of_lt (Nat.lt_of_lt_of_le EG11.lt (Nat.le_of_eq g12.symm)))) (Ne.symm (Nat.ne_of_lt (Nat.lt_of_lt_of_le EL11.lt (Nat.le_of_eq g12.symm)))) (Ne.symm (Nat.ne_of_lt (Nat.lt_of_lt_of_le AP11.lt (Nat.le_of_eq g12.symm)))) (Ne.symm (Nat.ne_of_lt (Nat.lt_of_lt_of_le AR11.lt (Nat.le_of_eq g12.symm)))) (Nat.ne_of_lt (Nat.lt_of_lt_of_le V18.lt (Nat.le_of_eq g19.symm))) (Nat.ne_of_lt (Nat.lt_of_lt_of_le V21.lt szd23))))
    have rq8_8 := (rq6_8.keep K27 (own_nin6 (Ne.symm nq4_7) (Ne.symm nq4_14) (Ne.symm nq4_20) (Ne.symm nq4_25) (Nat.ne_of_lt (Nat.lt_of_lt_of_le ((((Ea14.wr W15).ext E16).keep K17).wr W18).lt (Nat.le_of_eq g19.symm))) (Nat.ne_of_lt (Nat.lt_of_lt_of_le ((rq3_31.keep K20).wr W21).lt szd23))))
    have rq8_9 := (rq6_9.keep K27 (own_nin6 (Ne.symm nq4_7) (Ne.symm nq4_14) (Ne.symm nq4_20) (Ne.symm nq4_25) (Nat.ne_of_lt (Nat.lt_of_lt_of_le ((((Ea14.wr W15).ext E16).keep K17).wr W18).lt (Nat.le_of_eq g19.symm))) (Nat.ne_of_lt (Nat.lt_of_lt_of_le ((rq3_31.keep K20).wr W21).lt szd23))))
    have rq8_12 := (fsN25.keep K27 (own_nin6 (Ne.symm nq5_7) (Ne.symm nq5_15) (Ne.symm nq5_22) (Ne.symm nq5_28) (Nat.ne_of_lt (Nat.lt_of_lt_of_le (Ea17.wr W18).lt (Nat.le_of_eq g19.symm))) nq5_44))
    have rq8_13 := (fsS25.keep K27 (own_nin6 (Ne.symm nq5_7) (Ne.symm nq5_15) (Ne.symm nq5_22) (Ne.symm nq5_28) (Nat.ne_of_lt (Nat.lt_of_lt_of_le (Ea17.wr W18).lt (Nat.le_of_eq g19.symm))) nq5_44))
    obtain ⟨cq39, kq39, q39a, q39b, q39c⟩ := isOf hZ rfl HG27.1
    obtain ⟨_, _, ⟨T39, L39, k39, n39⟩, -, X39, ⟨Lc39, hQ39, l39, y39, z39⟩, st39⟩ := X27.virtualBack hx (y := (⟨"com/example/changeset/changeset/check/StateGraph", "add", "(Lcom/example/changeset/changeset/check/FoundState;II)Z"⟩ : MethodName)) (z := (⟨"com/example/changeset/changeset/check/StateGraph", "add", "(Lcom/example/changeset/changeset/check/FoundState;II)Z"⟩ : MethodName)) hown (mvT hZ (hw _ (List.mem_of_getElem? (i := 88) rfl))) (mvT hZ (hw _ (List.mem_of_getElem? (i := 89) rfl))) (notFace_of_selects (args := #[]) (mvT hZ (hw _ (List.mem_of_getElem? (i := 91) rfl)))) (mvT hZ (hw _ (List.mem_of_getElem? (i := 91) rfl))) (mvT hZ (hw _ (List.mem_of_getElem? (i := 90) rfl))) (by decide) (backOf (W := 0) (rm10E l Z aZ hw [] b8 (own_sel b13 b16 b19 y8) y5 p3 aL11 aP11 aR11 aF11 aE11 aT11 aA11 own_g0.1 own_g0.2.1 (0 + 1 + 1 + 1) own_g0.2.2.1 own_g0.2.2.2 y8 T27.heap n0 (Nat.le_trans (Nat.le_trans (Nat.le_trans (Nat.le_trans (Nat.le_trans (Nat.le_trans (Nat.le_trans (Nat.le_trans (Nat.le_trans (Nat.le_trans (Nat.le_trans (Nat.le_trans (Nat.le_trans (Nat.le_trans (Nat.le_trans (Nat.le_trans (Nat.le_trans Z0 E8.1) E9.1) K10.1) K11.1) E12.1) E13.1) K14.1) (Keep.of_wr W15).1) E16.1) K17.1) (Keep.of_wr W18).1) E19.1) K20.1) (Keep.of_wr W21).1) K23.1) K25.1) K27.1) HG27 (own_sel3 (P := fun b _ => Exa Z T27.heap b "com/example/changeset/changeset/check/FoundState") ((fsE23.keep K25).keep K27) (fsE25.keep K27) fsE27 by8) (own_sel3 (P := fun b j => Fld Z T27.heap b "com/example/changeset/changeset/check/FoundState" "number" "I" (.int j)) rq8_8 rq8_12 fsN27 by8) D11 (allS g_b8 GN11) ⟨⟨i0.1, i0.2.1, by omega, by omega⟩, by8.1, by8.2, i0.2.2.1, by have := i0.2.2.2; omega⟩) hZ (hw _ (List.mem_of_getElem? (i := 92) rfl)) (hw _ (List.mem_of_getElem? (i := 6) rfl)) (by decide) (by decide)) q39a q39c (g := (mkF m 195 #[.val (.int p0), .val (.int p1), .val (.int p2), .val (.int p3), .val (.int y4), .val (.int y5), .val (.int y6), .val (.int y7), .val (.int y8), .val (.int y9), .val (.int y10), .val (.int y11), .val (.ref b8), .val (.ref b12), .unset, .unset, .unset, .unset] [(.int p3), (.int y5), (.ref (own_sel b13 b16 b19 y8)), (.ref b8)])) rfl (by rw [hml]; rfl) (Steps.refl _) (argsL := [(.ref (own_sel b13 b16 b19 y8)), (.int y5), (.int p3)]) (rest := []) (lenOf pd_20 rfl) rfl (by show 2 * 0 + _ ≤ _; exact Nat.le_of_eq rfl) (hb hby at_195) (fun _ _ => ⟨rfl, rfl, (by decide : 15 + 0 ≤ _), (by decide : 6197 + 0 ≤ _)⟩)
    dsimp only [Pt.U, Pt.locs, Pt.cells, Pt.slots] at X39 l39 y39 z39 st39 hQ39
    try dsimp only [Nat.reduceAdd] at y39 z39
    subst y39 z39
    obtain ⟨rfl, N39q, K39, Hx39⟩ := hQ39
    have N39 : Fr n0 L39 := by rw [l39]; exact Fr.app N27 N39q
    refine .pre (fun _ kq => st39.trans kq) ?_
    show OwnEnds p e below _ (T39.setTop (mkF m 198 #[.val (.int p0), .val (.int p1), .val (.int p2), .val (.int p3), .val (.int y4), .val (.int y5), .val (.int y6), .val (.int y7), .val (.int y8), .val (.int y9), .val (.int y10), .val (.int y11), .val (.ref b8), .val (.ref b12), .unset, .unset, .unset, .unset] [(.int (0 : Int32))]))
    refine .pre (fun _ kq => XS.pop X39.here hx rfl (hb hby at_198) rfl rfl kq) ?_
    show OwnEnds p e below _ (T39.setTop (mkF m 199 #[.val (.int p0), .val (.int p1), .val (.int p2), .val (.int p3), .val (.int y4), .val (.int y5), .val (.int y6), .val (.int y7), .val (.int y8), .val (.int y9), .val (.int y10), .val (.int y11), .val (.ref b8), .val (.ref b12), .unset, .unset, .unset, .unset] []))
    refine .pre (fun _ kq => XS.iload X39.here hx rfl (hb hby at_199) rfl kq) ?_
    show OwnEnds p e below _ (T39.setTop (mkF m 201 #[.val (.int p0), .val (.int p1), .val (.int p2), .val (.int p3), .val (.int y4), .val (.int y5), .val (.int y6), .val (.int y7), .val (.int y8), .val (.int y9), .val (.int y10), .val (.int y11), .val (.ref b8), .val (.ref b12), .unset, .unset, .unset, .unset] [(.int y4)]))
    refine .pre (fun _ kq => XS.iconst X39.here hx rfl (hb hby at_201) kq) ?_
    show OwnEnds p e below _ (T39.setTop (mkF m 202 #[.val (.int p0), .val (.int p1), .val (.int p2), .val (.int p3), .val (.int y4), .val (.int y5), .val (.int y6), .val (.int y7), .val (.int y8), .val (.int y9), .val (.int y10), .val (.int y11), .val (.ref b8), .val (.ref b12), .unset, .unset, .unset, .unset] [(.int (1 : Int32)), (.int y4)]))
    have hc202 : (1 : Int32) < y4 := by rw [hk4]; decide
    refine .pre (fun _ kq => XS.icmpNo X39.here hx rfl (hb hby at_202) rfl (tlt hc202).2.2.2 kq) ?_
    show OwnEnds p e below _ (T39.setTop (mkF m 205 #[.val (.int p0), .val (.int p1), .val (.int p2), .val (.int p3), .val (.int y4), .val (.int y5), .val (.int y6), .val (.int y7), .val (.int y8), .val (.int y9), .val (.int y10), .val (.int y11), .val (.ref b8), .val (.ref b12), .unset, .unset, .unset, .unset] []))
    refine .pre (fun _ kq => XS.aload X39.here hx rfl (hb hby at_205) rfl rfl kq) ?_
    show OwnEnds p e below _ (T39.setTop (mkF m 207 #[.val (.int p0), .val (.int p1), .val (.int p2), .val (.int p3), .val (.int y4), .val (.int y5), .val (.int y6), .val (.int y7), .val (.int y8), .val (.int y9), .val (.int y10), .val (.int y11), .val (.ref b8), .val (.ref b12), .unset, .unset, .unset, .unset] [(.ref b8)]))
    refine .pre (fun _ kq => XS.aload X39.here hx rfl (hb hby at_207) rfl rfl kq) ?_
    show OwnEnds p e below _ (T39.setTop (mkF m 209 #[.val (.int p0), .val (.int p1), .val (.int p2), .val (.int p3), .val (.int y4), .val (.int y5), .val (.int y6), .val (.int y7), .val (.int y8), .val (.int y9), .val (.int y10), .val (.int y11), .val (.ref b8), .val (.ref b12), .unset, .unset, .unset, .unset] [(.ref b12), (.ref b8)]))
    refine .pre (fun _ kq => XS.iload X39.here hx rfl (hb hby at_209) rfl kq) ?_
    show OwnEnds p e below _ (T39.setTop (mkF m 211 #[.val (.int p0), .val (.int p1), .val (.int p2), .val (.int p3), .val (.int y4), .val (.int y5), .val (.int y6), .val (.int y7), .val (.int y8), .val (.int y9), .val (.int y10), .val (.int y11), .val (.ref b8), .val (.ref b12), .unset, .unset, .unset, .unset] [(.int y9), (.ref b12), (.ref b8)]))
    obtain ⟨cl40, Ar40, qa40, qs40, qn40, qh40, qg40⟩ := id (rq8_5.keep K39 (own_nin5 (Ne.symm (Nat.ne_of_lt (Nat.lt_of_lt_of_le EG11.lt (Nat.le_of_eq g12.symm)))) (Ne.symm (Nat.ne_of_lt (Nat.lt_of_lt_of_le AF11.lt (Nat.le_of_eq g12.symm)))) (Ne.symm (Nat.ne_of_lt (Nat.lt_of_lt_of_le AE11.lt (Nat.le_of_eq g12.symm)))) (Ne.symm (Nat.ne_of_lt (Nat.lt_of_lt_of_le AT11.lt (Nat.le_of_eq g12.symm)))) (Ne.symm (Nat.ne_of_lt (Nat.lt_of_lt_of_le AA11.lt (Nat.le_of_eq g12.symm))))))
    have hin40 : ¬ (y9 < 0 ∨ cl40.slots.size ≤ (y9).toNatClampNeg) := inb_of qs40 (own_in3 by9)
    have hat40 : cl40.slots[(y9).toNatClampNeg]? = some (.ref (own_sel b13 b16 b19 y9)) := (qh40 _ (Nat.lt_of_not_le fun y => hin40 (Or.inr y))).trans (congrArg some (own_selv b13 b16 b19 by9))
    refine .pre (fun _ kq => X39.aaload hx (j := y9) (v := (.ref (own_sel b13 b16 b19 y9))) (by first | exact Ar40.1 | (rw [rfl]; exact Ar40.1)) (State.isArrayOf_alike hZ.alike Ar40.2.1) rfl Ar40.2.2 hin40 hat40 (g := (mkF m 211 #[.val (.int p0), .val (.int p1), .val (.int p2), .val (.int p3), .val (.int y4), .val (.int y5), .val (.int y6), .val (.int y7), .val (.int y8), .val (.int y9), .val (.int y10), .val (.int y11), .val (.ref b8), .val (.ref b12), .unset, .unset, .unset, .unset] [(.int y9), (.ref b12), (.ref b8)])) rfl rfl (hb hby at_211) _ kq) ?_
    show OwnEnds p e below _ (T39.setTop (mkF m 212 #[.val (.int p0), .val (.int p1), .val (.int p2), .val (.int p3), .val (.int y4), .val (.int y5), .val (.int y6), .val (.int y7), .val (.int y8), .val (.int y9), .val (.int y10), .val (.int y11), .val (.ref b8), .val (.ref b12), .unset, .unset, .unset, .unset] [(.ref (own_sel b13 b16 b19 y9)), (.ref b8)]))
    refine .pre (fun _ kq => XS.iload X39.here hx rfl (hb hby at_212) rfl kq) ?_
    show OwnEnds p e below _ (T39.setTop (mkF m 214 #[.val (.int p0), .val (.int p1), .val (.int p2), .val (.int p3), .val (.int y4), .val (.int y5), .val (.int y6), .val (.int y7), .val (.int y8), .val (.int y9), .val (.int y10), .val (.int y11), .val (.ref b8), .val (.ref b12), .unset, .unset, .unset, .unset] [(.int y6), (.ref (own_sel b13 b16 b19 y9)), (.ref b8)]))
    refine .pre (fun _ kq => XS.iloadN X39.here hx rfl (hb hby at_214) rfl kq) ?_
    show OwnEnds p e below _ (T39.setTop (mkF m 215 #[.val (.int p0), .val (.int p1), .val (.int p2), .val (.int p3), .val (.int y4), .val (.int y5), .val (.int y6), .val (.int y7), .val (.int y8), .val (.int y9), .val (.int y10), .val (.int y11), .val (.ref b8), .val (.ref b12), .unset, .unset, .unset, .unset] [(.int p3), (.int y6), (.ref (own_sel b13 b16 b19 y9)), (.ref b8)]))
    have rq9_0 := (((rq5_0.keep K25).keep K27).keep K39)
    have rq9_2 := (((rq5_2.keep K25).keep K27).keep K39)
    have rq9_4 := (((rq5_7.keep K25).keep K27).keep K39)
    have rq9_5 := (rq8_5.keep K39 (own_nin5 (Ne.symm (Nat.ne_of_lt (Nat.lt_of_lt_of_le EG11.lt (Nat.le_of_eq g12.symm)))) (Ne.symm (Nat.ne_of_lt (Nat.lt_of_lt_of_le AF11.lt (Nat.le_of_eq g12.symm)))) (Ne.symm (Nat.ne_of_lt (Nat.lt_of_lt_of_le AE11.lt (Nat.le_of_eq g12.symm)))) (Ne.symm (Nat.ne_of_lt (Nat.lt_of_lt_of_le AT11.lt (Nat.le_of_eq g12.symm)))) (Ne.symm (Nat.ne_of_lt (Nat.lt_of_lt_of_le AA11.lt (Nat.le_of_eq g12.symm))))))
    have rq9_6 := (((fsE23.keep K25).keep K27).keep K39)
    have rq9_8 := (rq8_8.keep K39 (own_nin5 (Ne.symm nq4_7) (Ne.symm nq4_29) (Ne.symm nq4_32) (Ne.symm nq4_34) (Ne.symm nq4_35)))
    have rq9_9 := (rq8_9.keep K39 (own_nin5 (Ne.symm nq4_7) (Ne.symm nq4_29) (Ne.symm nq4_32) (Ne.symm nq4_34) (Ne.symm nq4_35)))
    have rq9_12 := (rq8_12.keep K39 (own_nin5 (Ne.symm nq5_7) (Ne.symm nq5_33) (Ne.symm nq5_37) (Ne.symm nq5_40) (Ne.symm nq5_42)))
    have rq9_13 := (rq8_13.keep K39 (own_nin5 (Ne.symm nq5_7) (Ne.symm nq5_33) (Ne.symm nq5_37) (Ne.symm nq5_40) (Ne.symm nq5_42)))
    have rq9_16 := (fsN27.keep K39 (own_nin5 (Ne.symm nq6_7) (Ne.symm nq6_33) (Ne.symm nq6_37) (Ne.symm nq6_40) (Ne.symm nq6_42)))
    have rq9_17 := (fsS27.keep K39 (own_nin5 (Ne.symm nq6_7) (Ne.symm nq6_33) (Ne.symm nq6_37) (Ne.symm nq6_40) (Ne.symm nq6_42)))
    obtain ⟨cq41, kq41, q41a, q41b, q41c⟩ := isOf hZ rfl Hx39.1
    obtain ⟨_, _, ⟨T41, L41, k41, n41⟩, -, X41, ⟨Lc41, hQ41, l41, y41, z41⟩, st41⟩ := X39.virtualBack hx (y := (⟨"com/example/changeset/changeset/check/StateGraph", "add", "(Lcom/example/changeset/changeset/check/FoundState;II)Z"⟩ : MethodName)) (z := (⟨"com/example/changeset/changeset/check/StateGraph", "add", "(Lcom/example/changeset/changeset/check/FoundState;II)Z"⟩ : MethodName)) hown (mvT hZ (hw _ (List.mem_of_getElem? (i := 88) rfl))) (mvT hZ (hw _ (List.mem_of_getElem? (i := 89) rfl))) (notFace_of_selects (args := #[]) (mvT hZ (hw _ (List.mem_of_getElem? (i := 91) rfl)))) (mvT hZ (hw _ (List.mem_of_getElem? (i := 91) rfl))) (mvT hZ (hw _ (List.mem_of_getElem? (i := 90) rfl))) (by decide) (backOf (W := 0) (rm10E l Z aZ hw [] b8 (own_sel b13 b16 b19 y9) y6 p3 aL11 aP11 aR11 aF11 aE11 aT11 aA11 (own_st own_g0 y5 y8).1 (own_st own_g0 y5 y8).2.1 (0 + 1 + 1 + 1) (own_st own_g0 y5 y8).2.2.1 (own_st own_g0 y5 y8).2.2.2 y9 T39.heap n0 (Nat.le_trans (Nat.le_trans (Nat.le_trans (Nat.le_trans (Nat.le_trans (Nat.le_trans (Nat.le_trans (Nat.le_trans (Nat.le_trans (Nat.le_trans (Nat.le_trans (Nat.le_trans (Nat.le_trans (Nat.le_trans (Nat.le_trans (Nat.le_trans (Nat.le_trans (Nat.le_trans Z0 E8.1) E9.1) K10.1) K11.1) E12.1) E13.1) K14.1) (Keep.of_wr W15).1) E16.1) K17.1) (Keep.of_wr W18).1) E19.1) K20.1) (Keep.of_wr W21).1) K23.1) K25.1) K27.1) K39.1) Hx39 (own_sel3 (P := fun b _ => Exa Z T39.heap b "com/example/changeset/changeset/check/FoundState") rq9_6 ((fsE25.keep K27).keep K39) (fsE27.keep K39) by9) (own_sel3 (P := fun b j => Fld Z T39.heap b "com/example/changeset/changeset/check/FoundState" "number" "I" (.int j)) rq9_8 rq9_12 rq9_16 by9) D11 (allS g_b8 GN11) ⟨⟨i1.1, i1.2.1, by omega, by omega⟩, by9.1, by9.2, i1.2.2.1, by have := i1.2.2.2; omega⟩) hZ (hw _ (List.mem_of_getElem? (i := 92) rfl)) (hw _ (List.mem_of_getElem? (i := 6) rfl)) (by decide) (by decide)) q41a q41c (g := (mkF m 215 #[.val (.int p0), .val (.int p1), .val (.int p2), .val (.int p3), .val (.int y4), .val (.int y5), .val (.int y6), .val (.int y7), .val (.int y8), .val (.int y9), .val (.int y10), .val (.int y11), .val (.ref b8), .val (.ref b12), .unset, .unset, .unset, .unset] [(.int p3), (.int y6), (.ref (own_sel b13 b16 b19 y9)), (.ref b8)])) rfl (by rw [hml]; rfl) (Steps.refl _) (argsL := [(.ref (own_sel b13 b16 b19 y9)), (.int y6), (.int p3)]) (rest := []) (lenOf pd_20 rfl) rfl (by show 2 * 0 + _ ≤ _; exact Nat.le_of_eq rfl) (hb hby at_215) (fun _ _ => ⟨rfl, rfl, (by decide : 15 + 0 ≤ _), (by decide : 6197 + 0 ≤ _)⟩)
    dsimp only [Pt.U, Pt.locs, Pt.cells, Pt.slots] at X41 l41 y41 z41 st41 hQ41
    try dsimp only [Nat.reduceAdd] at y41 z41
    subst y41 z41
    obtain ⟨rfl, N41q, K41, Hx41⟩ := hQ41
    have N41 : Fr n0 L41 := by rw [l41]; exact Fr.app N39 N41q
    refine .pre (fun _ kq => st41.trans kq) ?_
    show OwnEnds p e below _ (T41.setTop (mkF m 218 #[.val (.int p0), .val (.int p1), .val (.int p2), .val (.int p3), .val (.int y4), .val (.int y5), .val (.int y6), .val (.int y7), .val (.int y8), .val (.int y9), .val (.int y10), .val (.int y11), .val (.ref b8), .val (.ref b12), .unset, .unset, .unset, .unset] [(.int (0 : Int32))]))
    refine .pre (fun _ kq => XS.pop X41.here hx rfl (hb hby at_218) rfl rfl kq) ?_
    show OwnEnds p e below _ (T41.setTop (mkF m 219 #[.val (.int p0), .val (.int p1), .val (.int p2), .val (.int p3), .val (.int y4), .val (.int y5), .val (.int y6), .val (.int y7), .val (.int y8), .val (.int y9), .val (.int y10), .val (.int y11), .val (.ref b8), .val (.ref b12), .unset, .unset, .unset, .unset] []))
    refine .pre (fun _ kq => XS.iload X41.here hx rfl (hb hby at_219) rfl kq) ?_
    show OwnEnds p e below _ (T41.setTop (mkF m 221 #[.val (.int p0), .val (.int p1), .val (.int p2), .val (.int p3), .val (.int y4), .val (.int y5), .val (.int y6), .val (.int y7), .val (.int y8), .val (.int y9), .val (.int y10), .val (.int y11), .val (.ref b8), .val (.ref b12), .unset, .unset, .unset, .unset] [(.int y4)]))
    refine .pre (fun _ kq => XS.iconst X41.here hx rfl (hb hby at_221) kq) ?_
    show OwnEnds p e below _ (T41.setTop (mkF m 222 #[.val (.int p0), .val (.int p1), .val (.int p2), .val (.int p3), .val (.int y4), .val (.int y5), .val (.int y6), .val (.int y7), .val (.int y8), .val (.int y9), .val (.int y10), .val (.int y11), .val (.ref b8), .val (.ref b12), .unset, .unset, .unset, .unset] [(.int (2 : Int32)), (.int y4)]))
    have hc222 : ¬ ((2 : Int32) < y4) := by rw [hk4]; decide
    refine .pre (fun _ kq => XS.icmpYes X41.here hx rfl (pc0 := 222) (pc' := 239) rfl (hb hby at_222) rfl (flt hc222).2.2.2 (by decide) (by decide) kq) ?_
    exact R239 (own_st (own_st own_g0 y5 y8) y6 y9) _ T41 _ X41 rfl N41 (Nat.le_trans (Nat.le_trans (Nat.le_trans (Nat.le_trans (Nat.le_trans (Nat.le_trans (Nat.le_trans (Nat.le_trans (Nat.le_trans (Nat.le_trans (Nat.le_trans (Nat.le_trans (Nat.le_trans (Nat.le_trans (Nat.le_trans (Nat.le_trans (Nat.le_trans (Nat.le_trans (Nat.le_trans Z0 E8.1) E9.1) K10.1) K11.1) E12.1) E13.1) K14.1) (Keep.of_wr W15).1) E16.1) K17.1) (Keep.of_wr W18).1) E19.1) K20.1) (Keep.of_wr W21).1) K23.1) K25.1) K27.1) K39.1) K41.1) Hx41 (own_law _ _ _ _ _ _ _ _ _ _ b4 b5 b6 b7 by8 by9 by10 by11 (by unfold own_gk; rw [hk4]; rfl))
  · skip
    show OwnEnds p e below _ (T27.setTop (mkF m 180 #[.val (.int p0), .val (.int p1), .val (.int p2), .val (.int p3), .val (.int y4), .val (.int y5), .val (.int y6), .val (.int y7), .val (.int y8), .val (.int y9), .val (.int y10), .val (.int y11), .val (.ref b8), .val (.ref b12), .unset, .unset, .unset, .unset] []))
    refine .pre (fun _ kq => XS.iload X27.here hx rfl (hb hby at_180) rfl kq) ?_
    show OwnEnds p e below _ (T27.setTop (mkF m 182 #[.val (.int p0), .val (.int p1), .val (.int p2), .val (.int p3), .val (.int y4), .val (.int y5), .val (.int y6), .val (.int y7), .val (.int y8), .val (.int y9), .val (.int y10), .val (.int y11), .val (.ref b8), .val (.ref b12), .unset, .unset, .unset, .unset] [(.int y4)]))
    have hc182 : (0 : Int32) < y4 := by rw [hk4]; decide
    refine .pre (fun _ kq => XS.ifNo X27.here hx rfl (hb hby at_182) rfl ((if0 _ _).trans (tlt hc182).2.2.2) kq) ?_
    show OwnEnds p e below _ (T27.setTop (mkF m 185 #[.val (.int p0), .val (.int p1), .val (.int p2), .val (.int p3), .val (.int y4), .val (.int y5), .val (.int y6), .val (.int y7), .val (.int y8), .val (.int y9), .val (.int y10), .val (.int y11), .val (.ref b8), .val (.ref b12), .unset, .unset, .unset, .unset] []))
    refine .pre (fun _ kq => XS.aload X27.here hx rfl (hb hby at_185) rfl rfl kq) ?_
    show OwnEnds p e below _ (T27.setTop (mkF m 187 #[.val (.int p0), .val (.int p1), .val (.int p2), .val (.int p3), .val (.int y4), .val (.int y5), .val (.int y6), .val (.int y7), .val (.int y8), .val (.int y9), .val (.int y10), .val (.int y11), .val (.ref b8), .val (.ref b12), .unset, .unset, .unset, .unset] [(.ref b8)]))
    refine .pre (fun _ kq => XS.aload X27.here hx rfl (hb hby at_187) rfl rfl kq) ?_
    show OwnEnds p e below _ (T27.setTop (mkF m 189 #[.val (.int p0), .val (.int p1), .val (.int p2), .val (.int p3), .val (.int y4), .val (.int y5), .val (.int y6), .val (.int y7), .val (.int y8), .val (.int y9), .val (.int y10), .val (.int y11), .val (.ref b8), .val (.ref b12), .unset, .unset, .unset, .unset] [(.ref b12), (.ref b8)]))
    refine .pre (fun _ kq => XS.iload X27.here hx rfl (hb hby at_189) rfl kq) ?_
    show OwnEnds p e below _ (T27.setTop (mkF m 191 #[.val (.int p0), .val (.int p1), .val (.int p2), .val (.int p3), .val (.int y4), .val (.int y5), .val (.int y6), .val (.int y7), .val (.int y8), .val (.int y9), .val (.int y10), .val (.int y11), .val (.ref b8), .val (.ref b12), .unset, .unset, .unset, .unset] [(.int y8), (.ref b12), (.ref b8)]))
    obtain ⟨cl42, Ar42, qa42, qs42, qn42, qh42, qg42⟩ := id (rq6_5.keep K27 (own_nin6 (Ne.symm (Nat.ne_of_lt (Nat.lt_of_lt_of_le EG11.lt (Nat.le_of_eq g12.symm)))) (Ne.symm (Nat.ne_of_lt (Nat.lt_of_lt_of_le EL11.lt (Nat.le_of_eq g12.symm)))) (Ne.symm (Nat.ne_of_lt (Nat.lt_of_lt_of_le AP11.lt (Nat.le_of_eq g12.symm)))) (Ne.symm (Nat.ne_of_lt (Nat.lt_of_lt_of_le AR11.lt (Nat.le_of_eq g12.symm)))) (Nat.ne_of_lt (Nat.lt_of_lt_of_le V18.lt (Nat.le_of_eq g19.symm))) (Nat.ne_of_lt (Nat.lt_of_lt_of_le V21.lt szd23))))
    have hin42 : ¬ (y8 < 0 ∨ cl42.slots.size ≤ (y8).toNatClampNeg) := inb_of qs42 (own_in3 by8)
    have hat42 : cl42.slots[(y8).toNatClampNeg]? = some (.ref (own_sel b13 b16 b19 y8)) := (qh42 _ (Nat.lt_of_not_le fun y => hin42 (Or.inr y))).trans (congrArg some (own_selv b13 b16 b19 by8))
    refine .pre (fun _ kq => X27.aaload hx (j := y8) (v := (.ref (own_sel b13 b16 b19 y8))) (by first | exact Ar42.1 | (rw [rfl]; exact Ar42.1)) (State.isArrayOf_alike hZ.alike Ar42.2.1) rfl Ar42.2.2 hin42 hat42 (g := (mkF m 191 #[.val (.int p0), .val (.int p1), .val (.int p2), .val (.int p3), .val (.int y4), .val (.int y5), .val (.int y6), .val (.int y7), .val (.int y8), .val (.int y9), .val (.int y10), .val (.int y11), .val (.ref b8), .val (.ref b12), .unset, .unset, .unset, .unset] [(.int y8), (.ref b12), (.ref b8)])) rfl rfl (hb hby at_191) _ kq) ?_
    show OwnEnds p e below _ (T27.setTop (mkF m 192 #[.val (.int p0), .val (.int p1), .val (.int p2), .val (.int p3), .val (.int y4), .val (.int y5), .val (.int y6), .val (.int y7), .val (.int y8), .val (.int y9), .val (.int y10), .val (.int y11), .val (.ref b8), .val (.ref b12), .unset, .unset, .unset, .unset] [(.ref (own_sel b13 b16 b19 y8)), (.ref b8)]))
    refine .pre (fun _ kq => XS.iload X27.here hx rfl (hb hby at_192) rfl kq) ?_
    show OwnEnds p e below _ (T27.setTop (mkF m 194 #[.val (.int p0), .val (.int p1), .val (.int p2), .val (.int p3), .val (.int y4), .val (.int y5), .val (.int y6), .val (.int y7), .val (.int y8), .val (.int y9), .val (.int y10), .val (.int y11), .val (.ref b8), .val (.ref b12), .unset, .unset, .unset, .unset] [(.int y5), (.ref (own_sel b13 b16 b19 y8)), (.ref b8)]))
    refine .pre (fun _ kq => XS.iloadN X27.here hx rfl (hb hby at_194) rfl kq) ?_
    show OwnEnds p e below _ (T27.setTop (mkF m 195 #[.val (.int p0), .val (.int p1), .val (.int p2), .val (.int p3), .val (.int y4), .val (.int y5), .val (.int y6), .val (.int y7), .val (.int y8), .val (.int y9), .val (.int y10), .val (.int y11), .val (.ref b8), .val (.ref b12), .unset, .unset, .unset, .unset] [(.int p3), (.int y5), (.ref (own_sel b13 b16 b19 y8)), (.ref b8)]))
    have rq10_5 := (rq6_5.keep K27 (own_nin6 (Ne.symm (Nat.ne_of_lt (Nat.lt_of_lt_of_le EG11.lt (Nat.le_of_eq g12.symm)))) (Ne.symm (Nat.ne_of_lt (Nat.lt_of_lt_of_le EL11.lt (Nat.le_of_eq g12.symm)))) (Ne.symm (Nat.ne_of_lt (Nat.lt_of_lt_of_le AP11.lt (Nat.le_of_eq g12.symm)))) (Ne.symm (Nat.ne_of_lt (Nat.lt_of_lt_of_le AR11.lt (Nat.le_of_eq g12.symm)))) (Nat.ne_of_lt (Nat.lt_of_lt_of_le V18.lt (Nat.le_of_eq g19.symm))) (Nat.ne_of_lt (Nat.lt_of_lt_of_le V21.lt szd23))))
    have rq10_8 := (rq6_8.keep K27 (own_nin6 (Ne.symm nq4_7) (Ne.symm nq4_14) (Ne.symm nq4_20) (Ne.symm nq4_25) (Nat.ne_of_lt (Nat.lt_of_lt_of_le ((((Ea14.wr W15).ext E16).keep K17).wr W18).lt (Nat.le_of_eq g19.symm))) (Nat.ne_of_lt (Nat.lt_of_lt_of_le ((rq3_31.keep K20).wr W21).lt szd23))))
    have rq10_9 := (rq6_9.keep K27 (own_nin6 (Ne.symm nq4_7) (Ne.symm nq4_14) (Ne.symm nq4_20) (Ne.symm nq4_25) (Nat.ne_of_lt (Nat.lt_of_lt_of_le ((((Ea14.wr W15).ext E16).keep K17).wr W18).lt (Nat.le_of_eq g19.symm))) (Nat.ne_of_lt (Nat.lt_of_lt_of_le ((rq3_31.keep K20).wr W21).lt szd23))))
    have rq10_12 := (fsN25.keep K27 (own_nin6 (Ne.symm nq5_7) (Ne.symm nq5_15) (Ne.symm nq5_22) (Ne.symm nq5_28) (Nat.ne_of_lt (Nat.lt_of_lt_of_le (Ea17.wr W18).lt (Nat.le_of_eq g19.symm))) nq5_44))
    have rq10_13 := (fsS25.keep K27 (own_nin6 (Ne.symm nq5_7) (Ne.symm nq5_15) (Ne.symm nq5_22) (Ne.symm nq5_28) (Nat.ne_of_lt (Nat.lt_of_lt_of_le (Ea17.wr W18).lt (Nat.le_of_eq g19.symm))) nq5_44))
    obtain ⟨cq43, kq43, q43a, q43b, q43c⟩ := isOf hZ rfl HG27.1
    obtain ⟨_, _, ⟨T43, L43, k43, n43⟩, -, X43, ⟨Lc43, hQ43, l43, y43, z43⟩, st43⟩ := X27.virtualBack hx (y := (⟨"com/example/changeset/changeset/check/StateGraph", "add", "(Lcom/example/changeset/changeset/check/FoundState;II)Z"⟩ : MethodName)) (z := (⟨"com/example/changeset/changeset/check/StateGraph", "add", "(Lcom/example/changeset/changeset/check/FoundState;II)Z"⟩ : MethodName)) hown (mvT hZ (hw _ (List.mem_of_getElem? (i := 88) rfl))) (mvT hZ (hw _ (List.mem_of_getElem? (i := 89) rfl))) (notFace_of_selects (args := #[]) (mvT hZ (hw _ (List.mem_of_getElem? (i := 91) rfl)))) (mvT hZ (hw _ (List.mem_of_getElem? (i := 91) rfl))) (mvT hZ (hw _ (List.mem_of_getElem? (i := 90) rfl))) (by decide) (backOf (W := 0) (rm10E l Z aZ hw [] b8 (own_sel b13 b16 b19 y8) y5 p3 aL11 aP11 aR11 aF11 aE11 aT11 aA11 own_g0.1 own_g0.2.1 (0 + 1 + 1 + 1) own_g0.2.2.1 own_g0.2.2.2 y8 T27.heap n0 (Nat.le_trans (Nat.le_trans (Nat.le_trans (Nat.le_trans (Nat.le_trans (Nat.le_trans (Nat.le_trans (Nat.le_trans (Nat.le_trans (Nat.le_trans (Nat.le_trans (Nat.le_trans (Nat.le_trans (Nat.le_trans (Nat.le_trans (Nat.le_trans (Nat.le_trans Z0 E8.1) E9.1) K10.1) K11.1) E12.1) E13.1) K14.1) (Keep.of_wr W15).1) E16.1) K17.1) (Keep.of_wr W18).1) E19.1) K20.1) (Keep.of_wr W21).1) K23.1) K25.1) K27.1) HG27 (own_sel3 (P := fun b _ => Exa Z T27.heap b "com/example/changeset/changeset/check/FoundState") ((fsE23.keep K25).keep K27) (fsE25.keep K27) fsE27 by8) (own_sel3 (P := fun b j => Fld Z T27.heap b "com/example/changeset/changeset/check/FoundState" "number" "I" (.int j)) rq10_8 rq10_12 fsN27 by8) D11 (allS g_b8 GN11) ⟨⟨i0.1, i0.2.1, by omega, by omega⟩, by8.1, by8.2, i0.2.2.1, by have := i0.2.2.2; omega⟩) hZ (hw _ (List.mem_of_getElem? (i := 92) rfl)) (hw _ (List.mem_of_getElem? (i := 6) rfl)) (by decide) (by decide)) q43a q43c (g := (mkF m 195 #[.val (.int p0), .val (.int p1), .val (.int p2), .val (.int p3), .val (.int y4), .val (.int y5), .val (.int y6), .val (.int y7), .val (.int y8), .val (.int y9), .val (.int y10), .val (.int y11), .val (.ref b8), .val (.ref b12), .unset, .unset, .unset, .unset] [(.int p3), (.int y5), (.ref (own_sel b13 b16 b19 y8)), (.ref b8)])) rfl (by rw [hml]; rfl) (Steps.refl _) (argsL := [(.ref (own_sel b13 b16 b19 y8)), (.int y5), (.int p3)]) (rest := []) (lenOf pd_20 rfl) rfl (by show 2 * 0 + _ ≤ _; exact Nat.le_of_eq rfl) (hb hby at_195) (fun _ _ => ⟨rfl, rfl, (by decide : 15 + 0 ≤ _), (by decide : 6197 + 0 ≤ _)⟩)
    dsimp only [Pt.U, Pt.locs, Pt.cells, Pt.slots] at X43 l43 y43 z43 st43 hQ43
    try dsimp only [Nat.reduceAdd] at y43 z43
    subst y43 z43
    obtain ⟨rfl, N43q, K43, Hx43⟩ := hQ43
    have N43 : Fr n0 L43 := by rw [l43]; exact Fr.app N27 N43q
    refine .pre (fun _ kq => st43.trans kq) ?_
    show OwnEnds p e below _ (T43.setTop (mkF m 198 #[.val (.int p0), .val (.int p1), .val (.int p2), .val (.int p3), .val (.int y4), .val (.int y5), .val (.int y6), .val (.int y7), .val (.int y8), .val (.int y9), .val (.int y10), .val (.int y11), .val (.ref b8), .val (.ref b12), .unset, .unset, .unset, .unset] [(.int (0 : Int32))]))
    refine .pre (fun _ kq => XS.pop X43.here hx rfl (hb hby at_198) rfl rfl kq) ?_
    show OwnEnds p e below _ (T43.setTop (mkF m 199 #[.val (.int p0), .val (.int p1), .val (.int p2), .val (.int p3), .val (.int y4), .val (.int y5), .val (.int y6), .val (.int y7), .val (.int y8), .val (.int y9), .val (.int y10), .val (.int y11), .val (.ref b8), .val (.ref b12), .unset, .unset, .unset, .unset] []))
    refine .pre (fun _ kq => XS.iload X43.here hx rfl (hb hby at_199) rfl kq) ?_
    show OwnEnds p e below _ (T43.setTop (mkF m 201 #[.val (.int p0), .val (.int p1), .val (.int p2), .val (.int p3), .val (.int y4), .val (.int y5), .val (.int y6), .val (.int y7), .val (.int y8), .val (.int y9), .val (.int y10), .val (.int y11), .val (.ref b8), .val (.ref b12), .unset, .unset, .unset, .unset] [(.int y4)]))
    refine .pre (fun _ kq => XS.iconst X43.here hx rfl (hb hby at_201) kq) ?_
    show OwnEnds p e below _ (T43.setTop (mkF m 202 #[.val (.int p0), .val (.int p1), .val (.int p2), .val (.int p3), .val (.int y4), .val (.int y5), .val (.int y6), .val (.int y7), .val (.int y8), .val (.int y9), .val (.int y10), .val (.int y11), .val (.ref b8), .val (.ref b12), .unset, .unset, .unset, .unset] [(.int (1 : Int32)), (.int y4)]))
    have hc202 : (1 : Int32) < y4 := by rw [hk4]; decide
    refine .pre (fun _ kq => XS.icmpNo X43.here hx rfl (hb hby at_202) rfl (tlt hc202).2.2.2 kq) ?_
    show OwnEnds p e below _ (T43.setTop (mkF m 205 #[.val (.int p0), .val (.int p1), .val (.int p2), .val (.int p3), .val (.int y4), .val (.int y5), .val (.int y6), .val (.int y7), .val (.int y8), .val (.int y9), .val (.int y10), .val (.int y11), .val (.ref b8), .val (.ref b12), .unset, .unset, .unset, .unset] []))
    refine .pre (fun _ kq => XS.aload X43.here hx rfl (hb hby at_205) rfl rfl kq) ?_
    show OwnEnds p e below _ (T43.setTop (mkF m 207 #[.val (.int p0), .val (.int p1), .val (.int p2), .val (.int p3), .val (.int y4), .val (.int y5), .val (.int y6), .val (.int y7), .val (.int y8), .val (.int y9), .val (.int y10), .val (.int y11), .val (.ref b8), .val (.ref b12), .unset, .unset, .unset, .unset] [(.ref b8)]))
    refine .pre (fun _ kq => XS.aload X43.here hx rfl (hb hby at_207) rfl rfl kq) ?_
    show OwnEnds p e below _ (T43.setTop (mkF m 209 #[.val (.int p0), .val (.int p1), .val (.int p2), .val (.int p3), .val (.int y4), .val (.int y5), .val (.int y6), .val (.int y7), .val (.int y8), .val (.int y9), .val (.int y10), .val (.int y11), .val (.ref b8), .val (.ref b12), .unset, .unset, .unset, .unset] [(.ref b12), (.ref b8)]))
    refine .pre (fun _ kq => XS.iload X43.here hx rfl (hb hby at_209) rfl kq) ?_
    show OwnEnds p e below _ (T43.setTop (mkF m 211 #[.val (.int p0), .val (.int p1), .val (.int p2), .val (.int p3), .val (.int y4), .val (.int y5), .val (.int y6), .val (.int y7), .val (.int y8), .val (.int y9), .val (.int y10), .val (.int y11), .val (.ref b8), .val (.ref b12), .unset, .unset, .unset, .unset] [(.int y9), (.ref b12), (.ref b8)]))
    obtain ⟨cl44, Ar44, qa44, qs44, qn44, qh44, qg44⟩ := id (rq10_5.keep K43 (own_nin5 (Ne.symm (Nat.ne_of_lt (Nat.lt_of_lt_of_le EG11.lt (Nat.le_of_eq g12.symm)))) (Ne.symm (Nat.ne_of_lt (Nat.lt_of_lt_of_le AF11.lt (Nat.le_of_eq g12.symm)))) (Ne.symm (Nat.ne_of_lt (Nat.lt_of_lt_of_le AE11.lt (Nat.le_of_eq g12.symm)))) (Ne.symm (Nat.ne_of_lt (Nat.lt_of_lt_of_le AT11.lt (Nat.le_of_eq g12.symm)))) (Ne.symm (Nat.ne_of_lt (Nat.lt_of_lt_of_le AA11.lt (Nat.le_of_eq g12.symm))))))
    have hin44 : ¬ (y9 < 0 ∨ cl44.slots.size ≤ (y9).toNatClampNeg) := inb_of qs44 (own_in3 by9)
    have hat44 : cl44.slots[(y9).toNatClampNeg]? = some (.ref (own_sel b13 b16 b19 y9)) := (qh44 _ (Nat.lt_of_not_le fun y => hin44 (Or.inr y))).trans (congrArg some (own_selv b13 b16 b19 by9))
    refine .pre (fun _ kq => X43.aaload hx (j := y9) (v := (.ref (own_sel b13 b16 b19 y9))) (by first | exact Ar44.1 | (rw [rfl]; exact Ar44.1)) (State.isArrayOf_alike hZ.alike Ar44.2.1) rfl Ar44.2.2 hin44 hat44 (g := (mkF m 211 #[.val (.int p0), .val (.int p1), .val (.int p2), .val (.int p3), .val (.int y4), .val (.int y5), .val (.int y6), .val (.int y7), .val (.int y8), .val (.int y9), .val (.int y10), .val (.int y11), .val (.ref b8), .val (.ref b12), .unset, .unset, .unset, .unset] [(.int y9), (.ref b12), (.ref b8)])) rfl rfl (hb hby at_211) _ kq) ?_
    show OwnEnds p e below _ (T43.setTop (mkF m 212 #[.val (.int p0), .val (.int p1), .val (.int p2), .val (.int p3), .val (.int y4), .val (.int y5), .val (.int y6), .val (.int y7), .val (.int y8), .val (.int y9), .val (.int y10), .val (.int y11), .val (.ref b8), .val (.ref b12), .unset, .unset, .unset, .unset] [(.ref (own_sel b13 b16 b19 y9)), (.ref b8)]))
    refine .pre (fun _ kq => XS.iload X43.here hx rfl (hb hby at_212) rfl kq) ?_
    show OwnEnds p e below _ (T43.setTop (mkF m 214 #[.val (.int p0), .val (.int p1), .val (.int p2), .val (.int p3), .val (.int y4), .val (.int y5), .val (.int y6), .val (.int y7), .val (.int y8), .val (.int y9), .val (.int y10), .val (.int y11), .val (.ref b8), .val (.ref b12), .unset, .unset, .unset, .unset] [(.int y6), (.ref (own_sel b13 b16 b19 y9)), (.ref b8)]))
    refine .pre (fun _ kq => XS.iloadN X43.here hx rfl (hb hby at_214) rfl kq) ?_
    show OwnEnds p e below _ (T43.setTop (mkF m 215 #[.val (.int p0), .val (.int p1), .val (.int p2), .val (.int p3), .val (.int y4), .val (.int y5), .val (.int y6), .val (.int y7), .val (.int y8), .val (.int y9), .val (.int y10), .val (.int y11), .val (.ref b8), .val (.ref b12), .unset, .unset, .unset, .unset] [(.int p3), (.int y6), (.ref (own_sel b13 b16 b19 y9)), (.ref b8)]))
    have rq11_0 := (((rq5_0.keep K25).keep K27).keep K43)
    have rq11_2 := (((rq5_2.keep K25).keep K27).keep K43)
    have rq11_4 := (((rq5_7.keep K25).keep K27).keep K43)
    have rq11_5 := (rq10_5.keep K43 (own_nin5 (Ne.symm (Nat.ne_of_lt (Nat.lt_of_lt_of_le EG11.lt (Nat.le_of_eq g12.symm)))) (Ne.symm (Nat.ne_of_lt (Nat.lt_of_lt_of_le AF11.lt (Nat.le_of_eq g12.symm)))) (Ne.symm (Nat.ne_of_lt (Nat.lt_of_lt_of_le AE11.lt (Nat.le_of_eq g12.symm)))) (Ne.symm (Nat.ne_of_lt (Nat.lt_of_lt_of_le AT11.lt (Nat.le_of_eq g12.symm)))) (Ne.symm (Nat.ne_of_lt (Nat.lt_of_lt_of_le AA11.lt (Nat.le_of_eq g12.symm))))))
    have rq11_6 := (((fsE23.keep K25).keep K27).keep K43)
    have rq11_8 := (rq10_8.keep K43 (own_nin5 (Ne.symm nq4_7) (Ne.symm nq4_29) (Ne.symm nq4_32) (Ne.symm nq4_34) (Ne.symm nq4_35)))
    have rq11_9 := (rq10_9.keep K43 (own_nin5 (Ne.symm nq4_7) (Ne.symm nq4_29) (Ne.symm nq4_32) (Ne.symm nq4_34) (Ne.symm nq4_35)))
    have rq11_12 := (rq10_12.keep K43 (own_nin5 (Ne.symm nq5_7) (Ne.symm nq5_33) (Ne.symm nq5_37) (Ne.symm nq5_40) (Ne.symm nq5_42)))
    have rq11_13 := (rq10_13.keep K43 (own_nin5 (Ne.symm nq5_7) (Ne.symm nq5_33) (Ne.symm nq5_37) (Ne.symm nq5_40) (Ne.symm nq5_42)))
    have rq11_16 := (fsN27.keep K43 (own_nin5 (Ne.symm nq6_7) (Ne.symm nq6_33) (Ne.symm nq6_37) (Ne.symm nq6_40) (Ne.symm nq6_42)))
    have rq11_17 := (fsS27.keep K43 (own_nin5 (Ne.symm nq6_7) (Ne.symm nq6_33) (Ne.symm nq6_37) (Ne.symm nq6_40) (Ne.symm nq6_42)))
    obtain ⟨cq45, kq45, q45a, q45b, q45c⟩ := isOf hZ rfl Hx43.1
    obtain ⟨_, _, ⟨T45, L45, k45, n45⟩, -, X45, ⟨Lc45, hQ45, l45, y45, z45⟩, st45⟩ := X43.virtualBack hx (y := (⟨"com/example/changeset/changeset/check/StateGraph", "add", "(Lcom/example/changeset/changeset/check/FoundState;II)Z"⟩ : MethodName)) (z := (⟨"com/example/changeset/changeset/check/StateGraph", "add", "(Lcom/example/changeset/changeset/check/FoundState;II)Z"⟩ : MethodName)) hown (mvT hZ (hw _ (List.mem_of_getElem? (i := 88) rfl))) (mvT hZ (hw _ (List.mem_of_getElem? (i := 89) rfl))) (notFace_of_selects (args := #[]) (mvT hZ (hw _ (List.mem_of_getElem? (i := 91) rfl)))) (mvT hZ (hw _ (List.mem_of_getElem? (i := 91) rfl))) (mvT hZ (hw _ (List.mem_of_getElem? (i := 90) rfl))) (by decide) (backOf (W := 0) (rm10E l Z aZ hw [] b8 (own_sel b13 b16 b19 y9) y6 p3 aL11 aP11 aR11 aF11 aE11 aT11 aA11 (own_st own_g0 y5 y8).1 (own_st own_g0 y5 y8).2.1 (0 + 1 + 1 + 1) (own_st own_g0 y5 y8).2.2.1 (own_st own_g0 y5 y8).2.2.2 y9 T43.heap n0 (Nat.le_trans (Nat.le_trans (Nat.le_trans (Nat.le_trans (Nat.le_trans (Nat.le_trans (Nat.le_trans (Nat.le_trans (Nat.le_trans (Nat.le_trans (Nat.le_trans (Nat.le_trans (Nat.le_trans (Nat.le_trans (Nat.le_trans (Nat.le_trans (Nat.le_trans (Nat.le_trans Z0 E8.1) E9.1) K10.1) K11.1) E12.1) E13.1) K14.1) (Keep.of_wr W15).1) E16.1) K17.1) (Keep.of_wr W18).1) E19.1) K20.1) (Keep.of_wr W21).1) K23.1) K25.1) K27.1) K43.1) Hx43 (own_sel3 (P := fun b _ => Exa Z T43.heap b "com/example/changeset/changeset/check/FoundState") rq11_6 ((fsE25.keep K27).keep K43) (fsE27.keep K43) by9) (own_sel3 (P := fun b j => Fld Z T43.heap b "com/example/changeset/changeset/check/FoundState" "number" "I" (.int j)) rq11_8 rq11_12 rq11_16 by9) D11 (allS g_b8 GN11) ⟨⟨i1.1, i1.2.1, by omega, by omega⟩, by9.1, by9.2, i1.2.2.1, by have := i1.2.2.2; omega⟩) hZ (hw _ (List.mem_of_getElem? (i := 92) rfl)) (hw _ (List.mem_of_getElem? (i := 6) rfl)) (by decide) (by decide)) q45a q45c (g := (mkF m 215 #[.val (.int p0), .val (.int p1), .val (.int p2), .val (.int p3), .val (.int y4), .val (.int y5), .val (.int y6), .val (.int y7), .val (.int y8), .val (.int y9), .val (.int y10), .val (.int y11), .val (.ref b8), .val (.ref b12), .unset, .unset, .unset, .unset] [(.int p3), (.int y6), (.ref (own_sel b13 b16 b19 y9)), (.ref b8)])) rfl (by rw [hml]; rfl) (Steps.refl _) (argsL := [(.ref (own_sel b13 b16 b19 y9)), (.int y6), (.int p3)]) (rest := []) (lenOf pd_20 rfl) rfl (by show 2 * 0 + _ ≤ _; exact Nat.le_of_eq rfl) (hb hby at_215) (fun _ _ => ⟨rfl, rfl, (by decide : 15 + 0 ≤ _), (by decide : 6197 + 0 ≤ _)⟩)
    dsimp only [Pt.U, Pt.locs, Pt.cells, Pt.slots] at X45 l45 y45 z45 st45 hQ45
    try dsimp only [Nat.reduceAdd] at y45 z45
    subst y45 z45
    obtain ⟨rfl, N45q, K45, Hx45⟩ := hQ45
    have N45 : Fr n0 L45 := by rw [l45]; exact Fr.app N43 N45q
    refine .pre (fun _ kq => st45.trans kq) ?_
    show OwnEnds p e below _ (T45.setTop (mkF m 218 #[.val (.int p0), .val (.int p1), .val (.int p2), .val (.int p3), .val (.int y4), .val (.int y5), .val (.int y6), .val (.int y7), .val (.int y8), .val (.int y9), .val (.int y10), .val (.int y11), .val (.ref b8), .val (.ref b12), .unset, .unset, .unset, .unset] [(.int (0 : Int32))]))
    refine .pre (fun _ kq => XS.pop X45.here hx rfl (hb hby at_218) rfl rfl kq) ?_
    show OwnEnds p e below _ (T45.setTop (mkF m 219 #[.val (.int p0), .val (.int p1), .val (.int p2), .val (.int p3), .val (.int y4), .val (.int y5), .val (.int y6), .val (.int y7), .val (.int y8), .val (.int y9), .val (.int y10), .val (.int y11), .val (.ref b8), .val (.ref b12), .unset, .unset, .unset, .unset] []))
    refine .pre (fun _ kq => XS.iload X45.here hx rfl (hb hby at_219) rfl kq) ?_
    show OwnEnds p e below _ (T45.setTop (mkF m 221 #[.val (.int p0), .val (.int p1), .val (.int p2), .val (.int p3), .val (.int y4), .val (.int y5), .val (.int y6), .val (.int y7), .val (.int y8), .val (.int y9), .val (.int y10), .val (.int y11), .val (.ref b8), .val (.ref b12), .unset, .unset, .unset, .unset] [(.int y4)]))
    refine .pre (fun _ kq => XS.iconst X45.here hx rfl (hb hby at_221) kq) ?_
    show OwnEnds p e below _ (T45.setTop (mkF m 222 #[.val (.int p0), .val (.int p1), .val (.int p2), .val (.int p3), .val (.int y4), .val (.int y5), .val (.int y6), .val (.int y7), .val (.int y8), .val (.int y9), .val (.int y10), .val (.int y11), .val (.ref b8), .val (.ref b12), .unset, .unset, .unset, .unset] [(.int (2 : Int32)), (.int y4)]))
    have hc222 : (2 : Int32) < y4 := by rw [hk4]; decide
    refine .pre (fun _ kq => XS.icmpNo X45.here hx rfl (hb hby at_222) rfl (tlt hc222).2.2.2 kq) ?_
    show OwnEnds p e below _ (T45.setTop (mkF m 225 #[.val (.int p0), .val (.int p1), .val (.int p2), .val (.int p3), .val (.int y4), .val (.int y5), .val (.int y6), .val (.int y7), .val (.int y8), .val (.int y9), .val (.int y10), .val (.int y11), .val (.ref b8), .val (.ref b12), .unset, .unset, .unset, .unset] []))
    refine .pre (fun _ kq => XS.aload X45.here hx rfl (hb hby at_225) rfl rfl kq) ?_
    show OwnEnds p e below _ (T45.setTop (mkF m 227 #[.val (.int p0), .val (.int p1), .val (.int p2), .val (.int p3), .val (.int y4), .val (.int y5), .val (.int y6), .val (.int y7), .val (.int y8), .val (.int y9), .val (.int y10), .val (.int y11), .val (.ref b8), .val (.ref b12), .unset, .unset, .unset, .unset] [(.ref b8)]))
    refine .pre (fun _ kq => XS.aload X45.here hx rfl (hb hby at_227) rfl rfl kq) ?_
    show OwnEnds p e below _ (T45.setTop (mkF m 229 #[.val (.int p0), .val (.int p1), .val (.int p2), .val (.int p3), .val (.int y4), .val (.int y5), .val (.int y6), .val (.int y7), .val (.int y8), .val (.int y9), .val (.int y10), .val (.int y11), .val (.ref b8), .val (.ref b12), .unset, .unset, .unset, .unset] [(.ref b12), (.ref b8)]))
    refine .pre (fun _ kq => XS.iload X45.here hx rfl (hb hby at_229) rfl kq) ?_
    show OwnEnds p e below _ (T45.setTop (mkF m 231 #[.val (.int p0), .val (.int p1), .val (.int p2), .val (.int p3), .val (.int y4), .val (.int y5), .val (.int y6), .val (.int y7), .val (.int y8), .val (.int y9), .val (.int y10), .val (.int y11), .val (.ref b8), .val (.ref b12), .unset, .unset, .unset, .unset] [(.int y10), (.ref b12), (.ref b8)]))
    obtain ⟨cl46, Ar46, qa46, qs46, qn46, qh46, qg46⟩ := id (rq11_5.keep K45 (own_nin5 (Ne.symm (Nat.ne_of_lt (Nat.lt_of_lt_of_le EG11.lt (Nat.le_of_eq g12.symm)))) (Ne.symm (Nat.ne_of_lt (Nat.lt_of_lt_of_le AF11.lt (Nat.le_of_eq g12.symm)))) (Ne.symm (Nat.ne_of_lt (Nat.lt_of_lt_of_le AE11.lt (Nat.le_of_eq g12.symm)))) (Ne.symm (Nat.ne_of_lt (Nat.lt_of_lt_of_le AT11.lt (Nat.le_of_eq g12.symm)))) (Ne.symm (Nat.ne_of_lt (Nat.lt_of_lt_of_le AA11.lt (Nat.le_of_eq g12.symm))))))
    have hin46 : ¬ (y10 < 0 ∨ cl46.slots.size ≤ (y10).toNatClampNeg) := inb_of qs46 (own_in3 by10)
    have hat46 : cl46.slots[(y10).toNatClampNeg]? = some (.ref (own_sel b13 b16 b19 y10)) := (qh46 _ (Nat.lt_of_not_le fun y => hin46 (Or.inr y))).trans (congrArg some (own_selv b13 b16 b19 by10))
    refine .pre (fun _ kq => X45.aaload hx (j := y10) (v := (.ref (own_sel b13 b16 b19 y10))) (by first | exact Ar46.1 | (rw [rfl]; exact Ar46.1)) (State.isArrayOf_alike hZ.alike Ar46.2.1) rfl Ar46.2.2 hin46 hat46 (g := (mkF m 231 #[.val (.int p0), .val (.int p1), .val (.int p2), .val (.int p3), .val (.int y4), .val (.int y5), .val (.int y6), .val (.int y7), .val (.int y8), .val (.int y9), .val (.int y10), .val (.int y11), .val (.ref b8), .val (.ref b12), .unset, .unset, .unset, .unset] [(.int y10), (.ref b12), (.ref b8)])) rfl rfl (hb hby at_231) _ kq) ?_
    show OwnEnds p e below _ (T45.setTop (mkF m 232 #[.val (.int p0), .val (.int p1), .val (.int p2), .val (.int p3), .val (.int y4), .val (.int y5), .val (.int y6), .val (.int y7), .val (.int y8), .val (.int y9), .val (.int y10), .val (.int y11), .val (.ref b8), .val (.ref b12), .unset, .unset, .unset, .unset] [(.ref (own_sel b13 b16 b19 y10)), (.ref b8)]))
    refine .pre (fun _ kq => XS.iload X45.here hx rfl (hb hby at_232) rfl kq) ?_
    show OwnEnds p e below _ (T45.setTop (mkF m 234 #[.val (.int p0), .val (.int p1), .val (.int p2), .val (.int p3), .val (.int y4), .val (.int y5), .val (.int y6), .val (.int y7), .val (.int y8), .val (.int y9), .val (.int y10), .val (.int y11), .val (.ref b8), .val (.ref b12), .unset, .unset, .unset, .unset] [(.int y7), (.ref (own_sel b13 b16 b19 y10)), (.ref b8)]))
    refine .pre (fun _ kq => XS.iloadN X45.here hx rfl (hb hby at_234) rfl kq) ?_
    show OwnEnds p e below _ (T45.setTop (mkF m 235 #[.val (.int p0), .val (.int p1), .val (.int p2), .val (.int p3), .val (.int y4), .val (.int y5), .val (.int y6), .val (.int y7), .val (.int y8), .val (.int y9), .val (.int y10), .val (.int y11), .val (.ref b8), .val (.ref b12), .unset, .unset, .unset, .unset] [(.int p3), (.int y7), (.ref (own_sel b13 b16 b19 y10)), (.ref b8)]))
    have rq12_5 := (rq11_5.keep K45 (own_nin5 (Ne.symm (Nat.ne_of_lt (Nat.lt_of_lt_of_le EG11.lt (Nat.le_of_eq g12.symm)))) (Ne.symm (Nat.ne_of_lt (Nat.lt_of_lt_of_le AF11.lt (Nat.le_of_eq g12.symm)))) (Ne.symm (Nat.ne_of_lt (Nat.lt_of_lt_of_le AE11.lt (Nat.le_of_eq g12.symm)))) (Ne.symm (Nat.ne_of_lt (Nat.lt_of_lt_of_le AT11.lt (Nat.le_of_eq g12.symm)))) (Ne.symm (Nat.ne_of_lt (Nat.lt_of_lt_of_le AA11.lt (Nat.le_of_eq g12.symm))))))
    have rq12_8 := (rq11_8.keep K45 (own_nin5 (Ne.symm nq4_7) (Ne.symm nq4_29) (Ne.symm nq4_32) (Ne.symm nq4_34) (Ne.symm nq4_35)))
    have rq12_9 := (rq11_9.keep K45 (own_nin5 (Ne.symm nq4_7) (Ne.symm nq4_29) (Ne.symm nq4_32) (Ne.symm nq4_34) (Ne.symm nq4_35)))
    have rq12_10 := (((fsE25.keep K27).keep K43).keep K45)
    have rq12_12 := (rq11_12.keep K45 (own_nin5 (Ne.symm nq5_7) (Ne.symm nq5_33) (Ne.symm nq5_37) (Ne.symm nq5_40) (Ne.symm nq5_42)))
    have rq12_13 := (rq11_13.keep K45 (own_nin5 (Ne.symm nq5_7) (Ne.symm nq5_33) (Ne.symm nq5_37) (Ne.symm nq5_40) (Ne.symm nq5_42)))
    have rq12_16 := (rq11_16.keep K45 (own_nin5 (Ne.symm nq6_7) (Ne.symm nq6_33) (Ne.symm nq6_37) (Ne.symm nq6_40) (Ne.symm nq6_42)))
    have rq12_17 := (rq11_17.keep K45 (own_nin5 (Ne.symm nq6_7) (Ne.symm nq6_33) (Ne.symm nq6_37) (Ne.symm nq6_40) (Ne.symm nq6_42)))
    obtain ⟨cq47, kq47, q47a, q47b, q47c⟩ := isOf hZ rfl Hx45.1
    obtain ⟨_, _, ⟨T47, L47, k47, n47⟩, -, X47, ⟨Lc47, hQ47, l47, y47, z47⟩, st47⟩ := X45.virtualBack hx (y := (⟨"com/example/changeset/changeset/check/StateGraph", "add", "(Lcom/example/changeset/changeset/check/FoundState;II)Z"⟩ : MethodName)) (z := (⟨"com/example/changeset/changeset/check/StateGraph", "add", "(Lcom/example/changeset/changeset/check/FoundState;II)Z"⟩ : MethodName)) hown (mvT hZ (hw _ (List.mem_of_getElem? (i := 88) rfl))) (mvT hZ (hw _ (List.mem_of_getElem? (i := 89) rfl))) (notFace_of_selects (args := #[]) (mvT hZ (hw _ (List.mem_of_getElem? (i := 91) rfl)))) (mvT hZ (hw _ (List.mem_of_getElem? (i := 91) rfl))) (mvT hZ (hw _ (List.mem_of_getElem? (i := 90) rfl))) (by decide) (backOf (W := 0) (rm10E l Z aZ hw [] b8 (own_sel b13 b16 b19 y10) y7 p3 aL11 aP11 aR11 aF11 aE11 aT11 aA11 (own_st (own_st own_g0 y5 y8) y6 y9).1 (own_st (own_st own_g0 y5 y8) y6 y9).2.1 (0 + 1 + 1 + 1) (own_st (own_st own_g0 y5 y8) y6 y9).2.2.1 (own_st (own_st own_g0 y5 y8) y6 y9).2.2.2 y10 T45.heap n0 (Nat.le_trans (Nat.le_trans (Nat.le_trans (Nat.le_trans (Nat.le_trans (Nat.le_trans (Nat.le_trans (Nat.le_trans (Nat.le_trans (Nat.le_trans (Nat.le_trans (Nat.le_trans (Nat.le_trans (Nat.le_trans (Nat.le_trans (Nat.le_trans (Nat.le_trans (Nat.le_trans (Nat.le_trans Z0 E8.1) E9.1) K10.1) K11.1) E12.1) E13.1) K14.1) (Keep.of_wr W15).1) E16.1) K17.1) (Keep.of_wr W18).1) E19.1) K20.1) (Keep.of_wr W21).1) K23.1) K25.1) K27.1) K43.1) K45.1) Hx45 (own_sel3 (P := fun b _ => Exa Z T45.heap b "com/example/changeset/changeset/check/FoundState") (rq11_6.keep K45) rq12_10 ((fsE27.keep K43).keep K45) by10) (own_sel3 (P := fun b j => Fld Z T45.heap b "com/example/changeset/changeset/check/FoundState" "number" "I" (.int j)) rq12_8 rq12_12 rq12_16 by10) D11 (allS g_b8 GN11) ⟨⟨i2.1, i2.2.1, by omega, by omega⟩, by10.1, by10.2, i2.2.2.1, by have := i2.2.2.2; omega⟩) hZ (hw _ (List.mem_of_getElem? (i := 92) rfl)) (hw _ (List.mem_of_getElem? (i := 6) rfl)) (by decide) (by decide)) q47a q47c (g := (mkF m 235 #[.val (.int p0), .val (.int p1), .val (.int p2), .val (.int p3), .val (.int y4), .val (.int y5), .val (.int y6), .val (.int y7), .val (.int y8), .val (.int y9), .val (.int y10), .val (.int y11), .val (.ref b8), .val (.ref b12), .unset, .unset, .unset, .unset] [(.int p3), (.int y7), (.ref (own_sel b13 b16 b19 y10)), (.ref b8)])) rfl (by rw [hml]; rfl) (Steps.refl _) (argsL := [(.ref (own_sel b13 b16 b19 y10)), (.int y7), (.int p3)]) (rest := []) (lenOf pd_20 rfl) rfl (by show 2 * 0 + _ ≤ _; exact Nat.le_of_eq rfl) (hb hby at_235) (fun _ _ => ⟨rfl, rfl, (by decide : 15 + 0 ≤ _), (by decide : 6197 + 0 ≤ _)⟩)
    dsimp only [Pt.U, Pt.locs, Pt.cells, Pt.slots] at X47 l47 y47 z47 st47 hQ47
    try dsimp only [Nat.reduceAdd] at y47 z47
    subst y47 z47
    obtain ⟨rfl, N47q, K47, Hx47⟩ := hQ47
    have N47 : Fr n0 L47 := by rw [l47]; exact Fr.app N45 N47q
    refine .pre (fun _ kq => st47.trans kq) ?_
    show OwnEnds p e below _ (T47.setTop (mkF m 238 #[.val (.int p0), .val (.int p1), .val (.int p2), .val (.int p3), .val (.int y4), .val (.int y5), .val (.int y6), .val (.int y7), .val (.int y8), .val (.int y9), .val (.int y10), .val (.int y11), .val (.ref b8), .val (.ref b12), .unset, .unset, .unset, .unset] [(.int (0 : Int32))]))
    refine .pre (fun _ kq => XS.pop X47.here hx rfl (hb hby at_238) rfl rfl kq) ?_
    exact R239 (own_st (own_st (own_st own_g0 y5 y8) y6 y9) y7 y10) _ T47 _ X47 rfl N47 (Nat.le_trans (Nat.le_trans (Nat.le_trans (Nat.le_trans (Nat.le_trans (Nat.le_trans (Nat.le_trans (Nat.le_trans (Nat.le_trans (Nat.le_trans (Nat.le_trans (Nat.le_trans (Nat.le_trans (Nat.le_trans (Nat.le_trans (Nat.le_trans (Nat.le_trans (Nat.le_trans (Nat.le_trans (Nat.le_trans Z0 E8.1) E9.1) K10.1) K11.1) E12.1) E13.1) K14.1) (Keep.of_wr W15).1) E16.1) K17.1) (Keep.of_wr W18).1) E19.1) K20.1) (Keep.of_wr W21).1) K23.1) K25.1) K27.1) K43.1) K45.1) K47.1) Hx47 (own_law _ _ _ _ _ _ _ _ _ _ b4 b5 b6 b7 by8 by9 by10 by11 (by unfold own_gk; rw [hk4]; rfl))
theorem own_len31 {t : Term} {args : Array Value} {s : State} {x : Addr} {cl : Cell} {v : Value} (vc : t.eval args s none [] s = some (.ref x)) (ha : s.arrayAt? x = some cl) (w : (Term.length t).eval args s none [] s = some v) : cl.slots.size < 2 ^ 31 := by
  by_cases q : cl.slots.size < 2 ^ 31
  · exact q
  · exfalso
    simp [Term.eval, vc, ha, q] at w
set_option maxRecDepth 65536 in
set_option maxHeartbeats 40000000 in
theorem comes_1 {Post : Tables → Env → Array Value → State → Outcome → State → Prop} (hpost : ∀ tb e args s v u, (limb_1_1.after args s (.returned v) u = true ∧ limb_1_2.after args s (.returned v) u = true ∧ True) → FrameEnd s (.returned v) u (Jvm.fieldLocs frame_1_writes args s ++ Jvm.arrayLocs frame_1_arrays args s ++ Jvm.staticLocs frame_1_statics s) 40 12480 → Post tb e args s (.returned v) u) :
    ArmFor flags0 classFile x code maxLocals ret World_1 tables_1 room_1 Calls_1 rest_1 Pre_1 Post := by
  intro l hfl _ _ p e ha hc hk s m args below hf hA hF happ hP
  obtain ⟨hcalls, hrest, hpre⟩ := hP
  obtain ⟨-, -, -, hnamed, -, -, -, hat⟩ := (Spec.applies_iff hf).mp happ
  obtain ⟨hg, hn⟩ := and_e (Cond.before_iff.mp (show (Jvm.Cond.and given_1 narrow_1).before args s = true from hpre))
  obtain ⟨hcount, hg0⟩ := and_e hg
  obtain ⟨ha0, hg1⟩ := and_e hg0
  obtain ⟨ha1, hg2⟩ := and_e hg1
  obtain ⟨ha2, hg3⟩ := and_e hg2
  have ha3 := hg3
  obtain ⟨w0, w1, w2, w3, rfl⟩ : ∃ w0 w1 w2 w3 : Value, args = #[w0, w1, w2, w3] := by
    have hs : args.size = 4 := by simpa [Cond.value, given_1] using hcount
    obtain ⟨L⟩ := args
    match L, hs with
    | [w0, w1, w2, w3], _ => exact ⟨w0, w1, w2, w3, rfl⟩
  have hw := fun d (hd : d ∈ tables_1) => atoms_spec (ws := Jvm.Cond.code x code maxLocals ret :: tables_1) hat d (List.mem_cons_of_mem _ hd)
  have hfit : Fit s := fun {y c} hc i hi => by
    obtain ⟨ha, rfl⟩ := Array.getElem?_eq_some_iff.mp hc
    have q := List.all_eq_true.mp ((Array.all_eq_true_iff_forall_mem.mp hF) _ (Array.getElem_mem ha)) i (List.mem_range.mpr hi)
    simpa [Array.getElem?_eq_getElem hi] using q
  obtain ⟨hsets, hown0⟩ := atoms_of _ (rest_1_c_eq ▸ (show rest_1_c.before _ s = true from hrest))
  have hr0 := Cond.before_iff.mp hown0
  obtain ⟨i0, ei0⟩ := is_v ha0
  obtain rfl : w0 = (.int i0) := Option.some.inj ei0
  obtain ⟨i1, ei1⟩ := is_v ha1
  obtain rfl : w1 = (.int i1) := Option.some.inj ei1
  obtain ⟨i2, ei2⟩ := is_v ha2
  obtain rfl : w2 = (.int i2) := Option.some.inj ei2
  obtain ⟨i3, ei3⟩ := is_v ha3
  obtain rfl : w3 = (.int i3) := Option.some.inj ei3
  have w6 := Cond.before_iff.mp (hsets _ (List.mem_of_getElem? (i := 6) rfl))
  obtain ⟨xD, vD⟩ := arr_v w6
  obtain ⟨cl, AC⟩ := Arr.start vD w6
  have SD := Sta.start vD (Or.inr ⟨(hw _ (List.mem_of_getElem? (i := 9) rfl)), hsets _ (List.mem_of_getElem? (i := 2) rfl)⟩)
  have w8 := eqv_i (Term.int_eval _) (Cond.before_iff.mp (hsets _ (List.mem_of_getElem? (i := 8) rfl)))
  have q31 := own_len31 vD (AC.fin (Vm.Alike.refl _)) w8
  have e8 : cl.slots.size.toInt32 = 0 := by have := (len_f vD (AC.fin (Vm.Alike.refl _)) q31).symm.trans w8; simpa using this
  have z8 : cl.slots.size = 0 := by have := congrArg Int32.toInt e8; rw [len_toInt q31] at this; have z : (0 : Int32).toInt = 0 := rfl; omega
  obtain ⟨a', c', cell, kk, x1, x2, x3, x4, x5, x6, x7⟩ := Cond.exactly_spec (hsets _ (List.mem_of_getElem? (i := 7) rfl))
  cases vD.symm.trans x1
  cases AC.1.symm.trans x3
  obtain ⟨comp, cO, kO, y1, y2, y3, y4, y5⟩ := Cond.arrayOver_spec (hw _ (List.mem_of_getElem? (i := 143) rfl))
  have y6 : s.vm.findClass "[Ljava/lang/Object;" = some cO := y5
  have own_cl : cl.cls = cO := by have q := Option.some.inj (x2.symm.trans y6); first | exact x6.trans q | exact x6.symm.trans q
  have RX : OwnR s s.heap xD "java/lang/Object" (0 : Int32) := ⟨cl, AC, ⟨kO, comp, by rw [own_cl]; exact y3, y4, y1⟩, by rw [z8]; rfl, by decide⟩
  obtain ⟨n, o, h1, h2, h3, _, L, rfl, ⟨hv, N, -⟩, hq⟩ := rm0 l s _ hw tables_1 i0 i1 i2 i3 xD s.heap s.heap.size (Nat.le_refl _) SD RX AC.lt p e ha hc hk s m _ below hf ((Spec.applies_iff_loose hf).mp happ).1 ⟨rfl, State.Warmed39.refl s, rfl⟩ trivial
  subst hv
  refine ⟨n, _, h1, h2, h3, hpost _ _ _ _ _ _ ⟨Cond.after_iff.mpr rfl, Cond.after_iff.mpr (eq_i res_at (Term.int_eval (1)) rfl), trivial⟩ ⟨hq.1, hq.2.1, (hq.2.2.sift fun y hy => Or.inr (N y hy)).mono (by decide) (by decide)⟩⟩
theorem main_1_1 : Claimed_1_1 := comes_1 fun _ _ _ _ _ _ h hF => ⟨h.1, hF⟩
theorem main_1_2 : Claimed_1_2 := comes_1 fun _ _ _ _ _ _ h hF => ⟨h.2.1, hF⟩
end Jvm.Pilot.@@N@@
namespace Jvm.Pilot.@@N@@
open Jvm Jvm.ClassFile Sem Op Lib Jvm.Free Jvm.Stand Jvm.Pilot.@@N@@.Jvm.D
/-! MADE BY PROGRAM (witnessworld.py) out of the Statement's table words and the real class files: 25 classes; the members and pool entries that the words name. The judged class is class 1, her method 2. -/
namespace start1
open Jvm.ClassFile
def u (s : String) : CpInfo := .utf8 (stringToUtf16 s)
/-- a pool by its gaps: so many unusable entries, then the entry; so many at the end -/
def gap : Nat → List CpInfo → List CpInfo
  | 0, r => r
  | n + 1, r => .unusable :: gap n r
def poolList (es : List (Nat × CpInfo)) (last : Nat) : List CpInfo := es.foldr (fun e r => gap e.1 (e.2 :: r)) (gap last [])
def pool (es : List (Nat × CpInfo)) (last : Nat) : Array CpInfo := ⟨poolList es last⟩
def fileOf (pool : Array CpInfo) (this : Nat) (attrs : Array Attribute := #[]) (ms : Array MethodInfo := #[]) (fl : Nat := 33) (sup : Nat := 0) (ifs : Array Nat := #[]) (fds : Array FieldInfo := #[]) : ClassFile where
  minorVersion := 0
  majorVersion := 65
  constantPool := pool
  accessFlags := fl
  thisClass := this
  superClass := sup
  interfaces := ifs
  fields := fds
  methods := ms
  attributes := attrs
def plain (name : String) (sup : Option ClassId) : Class where
  name := name
  kind := .ordinary
  loader := none
  accessFlags := 33
  super := sup
  interfaces := #[]
  cf := none
  fields := #[]
  methods := #[]
  instanceTypes := #[]
  staticTypes := #[]
  resolved := #[]
  callSites := []
  init := .initialized
  statics := none
  mirror := none

def pool0 : Array CpInfo := pool [(5, u "<init>"), (0, u "()V"), (1, .class_ 10), (1, u "java/lang/Object")] 113

def k0c0 : Code := { maxStack := 0, maxLocals := 1, code := object_method_1_code, exceptionTable := #[], attributes := #[] }
def k0m0 : Method := { name := "<init>", desc := "()V", sig := { parameters := [], returnType := none }, accessFlags := 1, code := some k0c0 }
/-- java/lang/Object -/
def k0 : Class := { plain "java/lang/Object" none with
  accessFlags := 33
  interfaces := #[]
  cf := some (fileOf pool0 8 #[] #[{ accessFlags := 1, nameIndex := 5, descriptorIndex := 6, attributes := #[] }] 33 0 #[] #[])
  fields := #[]
  methods := #[k0m0]
  instanceTypes := #[]
  staticTypes := #[]
  resolved := Array.replicate 124 none
  statics := none }

def pool1 : Array CpInfo := pool [(2, .class_ 4), (0, .nameAndType 5 6), (0, u "java/lang/Object"), (0, u "<init>"), (0, u "()V"), (0, .methodref 8 9), (0, .class_ 10), (0, .nameAndType 11 12), (0, u "java/lang/Math"), (0, u "min"), (0, u "(II)I"), (0, .class_ 14), (0, u "com/example/changeset/changeset/check/StateGraph"), (0, .class_ 16), (0, u "java/util/ArrayList"), (0, .methodref 15 3), (0, .methodref 13 19), (0, .nameAndType 5 20), (0, u "(Ljava/util/List;Z)V"), (0, .class_ 22), (0, u "com/example/changeset/changeset/check/FoundState"), (0, .methodref 21 24), (0, .nameAndType 5 25), (0, u "(Lcom/example/changeset/changeset/check/State;)V"), (0, .methodref 13 27), (0, .nameAndType 28 29), (0, u "add"), (0, u "(Lcom/example/changeset/changeset/check/FoundState;II)Z"), (0, .methodref 31 32), (0, .class_ 33), (0, .nameAndType 34 35), (0, u "com/example/changeset/changeset/check/StateGraphEdgesStartPinLaw"), (0, u "one"), (0, u "(Z)I"), (0, .methodref 13 37), (0, .nameAndType 38 39), (0, u "edgesStart"), (0, u "(I)I"), (3, u "law"), (0, u "(IIII)Z")] 4

def k1m0 : Method := { name := "<init>", desc := "()V", sig := { parameters := [], returnType := none }, accessFlags := 1, code := none }
def k1c1 : Code := { maxStack := 1, maxLocals := 1, code := method_2_code, exceptionTable := #[], attributes := #[] }
def k1m1 : Method := { name := "one", desc := "(Z)I", sig := { parameters := [.boolean], returnType := some .int }, accessFlags := 10, code := some k1c1 }
def k1c2 : Code := { maxStack := 5, maxLocals := 18, code := code, exceptionTable := #[], attributes := #[] }
def k1m2 : Method := { name := "law", desc := "(IIII)Z", sig := { parameters := [.int, .int, .int, .int], returnType := some .boolean }, accessFlags := 9, code := some k1c2 }
/-- com/example/changeset/changeset/check/StateGraphEdgesStartPinLaw -/
def k1 : Class := { plain "com/example/changeset/changeset/check/StateGraphEdgesStartPinLaw" (some 0) with
  accessFlags := 49
  interfaces := #[]
  cf := some (fileOf pool1 31 #[] #[{ accessFlags := 1, nameIndex := 5, descriptorIndex := 6, attributes := #[] }, { accessFlags := 10, nameIndex := 34, descriptorIndex := 35, attributes := #[] }, { accessFlags := 9, nameIndex := 43, descriptorIndex := 44, attributes := #[] }] 49 2 #[] #[])
  fields := #[]
  methods := #[k1m0, k1m1, k1m2]
  instanceTypes := #[]
  staticTypes := #[]
  resolved := Array.replicate 49 none
  statics := none }

def pool2 : Array CpInfo := pool [(1, .class_ 2), (0, u "java/lang/Math"), (1, .class_ 6), (1, u "java/lang/Object"), (0, u "<init>"), (0, u "()V"), (89, .class_ 100), (1, u "java/lang/Math$RandomNumberGeneratorHolder"), (71, u "negativeZeroFloatBits"), (0, u "J"), (2, u "negativeZeroDoubleBits"), (21, u "max"), (2, u "min"), (43, u "$assertionsDisabled"), (0, u "Z"), (88, u "(II)I"), (2, u "twoToTheDoubleScaleDown"), (0, u "D"), (4, u "twoToTheDoubleScaleUp"), (9, u "E"), (3, u "PI"), (2, u "TAU"), (2, u "DEGREES_TO_RADIANS"), (0, u "RADIANS_TO_DEGREES")] 94

def k2m0 : Method := { name := "<init>", desc := "()V", sig := { parameters := [], returnType := none }, accessFlags := 2, code := none }
def k2c1 : Code := { maxStack := 2, maxLocals := 2, code := jdk_29_method_65_code, exceptionTable := #[], attributes := #[] }
def k2m1 : Method := { name := "max", desc := "(II)I", sig := { parameters := [.int, .int], returnType := some .int }, accessFlags := 9, code := some k2c1 }
def k2c2 : Code := { maxStack := 2, maxLocals := 2, code := jdk_29_method_69_code, exceptionTable := #[], attributes := #[] }
def k2m2 : Method := { name := "min", desc := "(II)I", sig := { parameters := [.int, .int], returnType := some .int }, accessFlags := 9, code := some k2c2 }
/-- java/lang/Math -/
def k2 : Class := { plain "java/lang/Math" (some 0) with
  accessFlags := 49
  interfaces := #[]
  cf := some (fileOf pool2 1 #[.nestMembers #[98]] #[{ accessFlags := 2, nameIndex := 7, descriptorIndex := 8, attributes := #[] }, { accessFlags := 9, nameIndex := 198, descriptorIndex := 335, attributes := #[] }, { accessFlags := 9, nameIndex := 201, descriptorIndex := 335, attributes := #[] }] 49 4 #[] #[{ accessFlags := 25, nameIndex := 354, descriptorIndex := 339, attributes := #[] }, { accessFlags := 25, nameIndex := 358, descriptorIndex := 339, attributes := #[] }, { accessFlags := 25, nameIndex := 361, descriptorIndex := 339, attributes := #[] }, { accessFlags := 26, nameIndex := 364, descriptorIndex := 339, attributes := #[] }, { accessFlags := 26, nameIndex := 365, descriptorIndex := 339, attributes := #[] }, { accessFlags := 26, nameIndex := 172, descriptorIndex := 173, attributes := #[] }, { accessFlags := 26, nameIndex := 176, descriptorIndex := 173, attributes := #[] }, { accessFlags := 8, nameIndex := 344, descriptorIndex := 339, attributes := #[] }, { accessFlags := 8, nameIndex := 338, descriptorIndex := 339, attributes := #[] }, { accessFlags := 4120, nameIndex := 245, descriptorIndex := 246, attributes := #[] }])
  fields := #[{ name := "E", type := .double, accessFlags := 25, slot := 0, constantValue := 0 }, { name := "PI", type := .double, accessFlags := 25, slot := 1, constantValue := 0 }, { name := "TAU", type := .double, accessFlags := 25, slot := 2, constantValue := 0 }, { name := "DEGREES_TO_RADIANS", type := .double, accessFlags := 26, slot := 3, constantValue := 0 }, { name := "RADIANS_TO_DEGREES", type := .double, accessFlags := 26, slot := 4, constantValue := 0 }, { name := "negativeZeroFloatBits", type := .long, accessFlags := 26, slot := 5, constantValue := 0 }, { name := "negativeZeroDoubleBits", type := .long, accessFlags := 26, slot := 6, constantValue := 0 }, { name := "twoToTheDoubleScaleUp", type := .double, accessFlags := 8, slot := 7, constantValue := 0 }, { name := "twoToTheDoubleScaleDown", type := .double, accessFlags := 8, slot := 8, constantValue := 0 }, { name := "$assertionsDisabled", type := .boolean, accessFlags := 4120, slot := 9, constantValue := 0 }]
  methods := #[k2m0, k2m1, k2m2]
  instanceTypes := #[]
  staticTypes := #[.double, .double, .double, .double, .double, .long, .long, .double, .double, .boolean]
  resolved := Array.replicate 460 none
  statics := none }

def pool3 : Array CpInfo := pool [(1, .methodref 2 3), (0, .class_ 4), (0, .nameAndType 5 6), (0, u "java/lang/Object"), (0, u "<init>"), (0, u "()V"), (0, .class_ 8), (0, u "java/util/concurrent/ConcurrentHashMap"), (0, .methodref 7 3), (0, .fieldref 11 12), (0, .class_ 13), (0, .nameAndType 14 15), (0, u "com/example/changeset/changeset/check/StateGraph"), (0, u "found"), (0, u "Ljava/util/Map;"), (0, .class_ 17), (0, u "java/util/ArrayList"), (0, .methodref 16 3), (0, .fieldref 11 20), (0, .nameAndType 21 22), (0, u "states"), (0, u "Ljava/util/List;"), (0, .fieldref 11 24), (0, .nameAndType 25 26), (0, u "predecessors"), (0, u "[I"), (0, .fieldref 11 28), (0, .nameAndType 29 26), (0, u "reachedBy"), (0, .fieldref 11 31), (0, .nameAndType 32 33), (0, u "lastWithEdges"), (0, u "I"), (0, .fieldref 11 35), (0, .nameAndType 36 22), (0, u "actions"), (0, .fieldref 11 38), (0, .nameAndType 39 40), (0, u "keepsEdges"), (0, u "Z"), (0, .fieldref 11 42), (0, .nameAndType 43 26), (0, u "firstEdges"), (0, .fieldref 11 45), (0, .nameAndType 46 26), (0, u "lastEdgeFrom"), (0, .fieldref 11 48), (0, .nameAndType 49 26), (0, u "edgeTargets"), (0, .fieldref 11 51), (0, .nameAndType 52 26), (0, u "edgeActions"), (0, .methodref 54 55), (0, .class_ 56), (0, .nameAndType 57 58), (0, u "com/example/changeset/changeset/check/FoundState"), (0, u "state"), (0, u "()Lcom/example/changeset/changeset/check/State;"), (6, .methodref 54 66), (0, .nameAndType 67 68), (0, u "number"), (0, u "()I"), (0, .interfaceMethodref 70 71), (0, .class_ 72), (0, .nameAndType 73 68), (0, u "java/util/List"), (0, u "size"), (6, .interfaceMethodref 70 81), (0, .nameAndType 82 83), (0, u "add"), (0, u "(Ljava/lang/Object;)Z"), (0, .fieldref 11 85), (0, .nameAndType 86 33), (0, u "initialStates"), (0, .methodref 54 88), (0, .nameAndType 67 89), (0, u "(I)V"), (0, .methodref 11 91), (0, .nameAndType 92 93), (0, u "addEdge"), (0, u "(III)V"), (9, .fieldref 11 104), (0, .nameAndType 105 33), (0, u "edges"), (2, u "edgesStart"), (0, u "(I)I"), (36, u "INITIAL_LABEL"), (0, u "Ljava/lang/String;"), (5, u "(Ljava/util/List;Z)V"), (6, u "(Lcom/example/changeset/changeset/check/FoundState;II)Z")] 27

def k3c0 : Code := { maxStack := 3, maxLocals := 4, code := prog_39_method_1_code, exceptionTable := #[], attributes := #[] }
def k3m0 : Method := { name := "<init>", desc := "(Ljava/util/List;Z)V", sig := { parameters := [(.object "java/util/List"), .boolean], returnType := none }, accessFlags := 0, code := some k3c0 }
def k3c1 : Code := { maxStack := 4, maxLocals := 6, code := prog_39_method_3_code, exceptionTable := #[], attributes := #[] }
def k3m1 : Method := { name := "add", desc := "(Lcom/example/changeset/changeset/check/FoundState;II)Z", sig := { parameters := [(.object "com/example/changeset/changeset/check/FoundState"), .int, .int], returnType := some .boolean }, accessFlags := 0, code := some k3c1 }
def k3c2 : Code := { maxStack := 4, maxLocals := 4, code := prog_39_method_4_code, exceptionTable := #[], attributes := #[] }
def k3m2 : Method := { name := "addEdge", desc := "(III)V", sig := { parameters := [.int, .int, .int], returnType := none }, accessFlags := 2, code := some k3c2 }
def k3c3 : Code := { maxStack := 2, maxLocals := 2, code := prog_39_method_7_code, exceptionTable := #[], attributes := #[] }
def k3m3 : Method := { name := "edgesStart", desc := "(I)I", sig := { parameters := [.int], returnType := some .int }, accessFlags := 0, code := some k3c3 }
/-- com/example/changeset/changeset/check/StateGraph -/
def k3 : Class := { plain "com/example/changeset/changeset/check/StateGraph" (some 0) with
  accessFlags := 32
  interfaces := #[]
  cf := some (fileOf pool3 11 #[] #[{ accessFlags := 0, nameIndex := 5, descriptorIndex := 153, attributes := #[] }, { accessFlags := 0, nameIndex := 82, descriptorIndex := 160, attributes := #[] }, { accessFlags := 2, nameIndex := 92, descriptorIndex := 93, attributes := #[] }, { accessFlags := 0, nameIndex := 108, descriptorIndex := 109, attributes := #[] }] 32 2 #[] #[{ accessFlags := 26, nameIndex := 146, descriptorIndex := 147, attributes := #[] }, { accessFlags := 18, nameIndex := 36, descriptorIndex := 22, attributes := #[] }, { accessFlags := 18, nameIndex := 39, descriptorIndex := 40, attributes := #[] }, { accessFlags := 18, nameIndex := 14, descriptorIndex := 15, attributes := #[] }, { accessFlags := 18, nameIndex := 21, descriptorIndex := 22, attributes := #[] }, { accessFlags := 2, nameIndex := 86, descriptorIndex := 33, attributes := #[] }, { accessFlags := 2, nameIndex := 25, descriptorIndex := 26, attributes := #[] }, { accessFlags := 2, nameIndex := 29, descriptorIndex := 26, attributes := #[] }, { accessFlags := 2, nameIndex := 43, descriptorIndex := 26, attributes := #[] }, { accessFlags := 2, nameIndex := 46, descriptorIndex := 26, attributes := #[] }, { accessFlags := 2, nameIndex := 49, descriptorIndex := 26, attributes := #[] }, { accessFlags := 2, nameIndex := 52, descriptorIndex := 26, attributes := #[] }, { accessFlags := 2, nameIndex := 105, descriptorIndex := 33, attributes := #[] }, { accessFlags := 2, nameIndex := 32, descriptorIndex := 33, attributes := #[] }])
  fields := #[{ name := "INITIAL_LABEL", type := (.object "java/lang/String"), accessFlags := 26, slot := 0, constantValue := 0 }, { name := "actions", type := (.object "java/util/List"), accessFlags := 18, slot := 0, constantValue := 0 }, { name := "keepsEdges", type := .boolean, accessFlags := 18, slot := 1, constantValue := 0 }, { name := "found", type := (.object "java/util/Map"), accessFlags := 18, slot := 2, constantValue := 0 }, { name := "states", type := (.object "java/util/List"), accessFlags := 18, slot := 3, constantValue := 0 }, { name := "initialStates", type := .int, accessFlags := 2, slot := 4, constantValue := 0 }, { name := "predecessors", type := (.array .int), accessFlags := 2, slot := 5, constantValue := 0 }, { name := "reachedBy", type := (.array .int), accessFlags := 2, slot := 6, constantValue := 0 }, { name := "firstEdges", type := (.array .int), accessFlags := 2, slot := 7, constantValue := 0 }, { name := "lastEdgeFrom", type := (.array .int), accessFlags := 2, slot := 8, constantValue := 0 }, { name := "edgeTargets", type := (.array .int), accessFlags := 2, slot := 9, constantValue := 0 }, { name := "edgeActions", type := (.array .int), accessFlags := 2, slot := 10, constantValue := 0 }, { name := "edges", type := .int, accessFlags := 2, slot := 11, constantValue := 0 }, { name := "lastWithEdges", type := .int, accessFlags := 2, slot := 12, constantValue := 0 }]
  methods := #[k3m0, k3m1, k3m2, k3m3]
  instanceTypes := #[(.object "java/util/List"), .boolean, (.object "java/util/Map"), (.object "java/util/List"), .int, (.array .int), (.array .int), (.array .int), (.array .int), (.array .int), (.array .int), .int, .int]
  staticTypes := #[(.object "java/lang/String")]
  resolved := Array.replicate 188 none
  statics := none }

def pool4 : Array CpInfo := pool [(8, .class_ 10), (1, u "java/lang/Iterable"), (24, .class_ 36), (0, u "java/lang/Object")] 25

/-- java/lang/Iterable -/
def k4 : Class := { plain "java/lang/Iterable" (some 0) with
  accessFlags := 1537
  interfaces := #[]
  cf := some (fileOf pool4 8 #[] #[] 1537 35 #[] #[])
  fields := #[]
  methods := #[]
  instanceTypes := #[]
  staticTypes := #[]
  resolved := Array.replicate 62 none
  statics := none }

def pool5 : Array CpInfo := pool [(10, .class_ 12), (1, u "java/util/Collection"), (47, .class_ 61), (0, u "java/lang/Object"), (0, .class_ 63), (0, u "java/lang/Iterable")] 51

/-- java/util/Collection -/
def k5 : Class := { plain "java/util/Collection" (some 0) with
  accessFlags := 1537
  interfaces := #[4]
  cf := some (fileOf pool5 10 #[] #[] 1537 60 #[62] #[])
  fields := #[]
  methods := #[]
  instanceTypes := #[]
  staticTypes := #[]
  resolved := Array.replicate 115 none
  statics := none }

def pool6 : Array CpInfo := pool [(1, .methodref 2 3), (0, .class_ 4), (0, .nameAndType 5 6), (0, u "java/lang/Object"), (0, u "<init>"), (0, u "()V"), (1, .class_ 10), (1, u "java/util/AbstractCollection"), (66, .class_ 78), (0, u "java/util/Collection")] 81

def k6c0 : Code := { maxStack := 1, maxLocals := 1, code := jdk_22_method_1_code, exceptionTable := #[], attributes := #[] }
def k6m0 : Method := { name := "<init>", desc := "()V", sig := { parameters := [], returnType := none }, accessFlags := 4, code := some k6c0 }
/-- java/util/AbstractCollection -/
def k6 : Class := { plain "java/util/AbstractCollection" (some 0) with
  accessFlags := 1057
  interfaces := #[5]
  cf := some (fileOf pool6 8 #[] #[{ accessFlags := 4, nameIndex := 5, descriptorIndex := 6, attributes := #[] }] 1057 2 #[77] #[])
  fields := #[]
  methods := #[k6m0]
  instanceTypes := #[]
  staticTypes := #[]
  resolved := Array.replicate 160 none
  statics := none }

def pool7 : Array CpInfo := pool [(8, .class_ 10), (1, u "java/util/SequencedCollection"), (15, .class_ 27), (0, u "java/lang/Object"), (0, .class_ 29), (0, u "java/util/Collection")] 27

/-- java/util/SequencedCollection -/
def k7 : Class := { plain "java/util/SequencedCollection" (some 0) with
  accessFlags := 1537
  interfaces := #[5]
  cf := some (fileOf pool7 8 #[] #[] 1537 26 #[28] #[])
  fields := #[]
  methods := #[]
  instanceTypes := #[]
  staticTypes := #[]
  resolved := Array.replicate 57 none
  statics := none }

def pool8 : Array CpInfo := pool [(8, .class_ 10), (1, u "java/util/List"), (49, u "add"), (3, u "(Ljava/lang/Object;)Z"), (14, u "size"), (0, u "()I"), (22, .class_ 104), (0, u "java/lang/Object"), (15, .class_ 121), (0, u "java/util/SequencedCollection")] 129

def k8m0 : Method := { name := "size", desc := "()I", sig := { parameters := [], returnType := some .int }, accessFlags := 1025, code := none }
def k8m1 : Method := { name := "add", desc := "(Ljava/lang/Object;)Z", sig := { parameters := [(.object "java/lang/Object")], returnType := some .boolean }, accessFlags := 1025, code := none }
/-- java/util/List -/
def k8 : Class := { plain "java/util/List" (some 0) with
  accessFlags := 1537
  interfaces := #[7]
  cf := some (fileOf pool8 8 #[] #[{ accessFlags := 1025, nameIndex := 79, descriptorIndex := 80, attributes := #[] }, { accessFlags := 1025, nameIndex := 60, descriptorIndex := 64, attributes := #[] }] 1537 103 #[120] #[])
  fields := #[]
  methods := #[k8m0, k8m1]
  instanceTypes := #[]
  staticTypes := #[]
  resolved := Array.replicate 251 none
  statics := none }

def pool9 : Array CpInfo := pool [(1, .methodref 2 3), (0, .class_ 4), (0, .nameAndType 5 6), (0, u "java/util/AbstractCollection"), (0, u "<init>"), (0, u "()V"), (0, .fieldref 8 9), (0, .class_ 10), (0, .nameAndType 11 12), (0, u "java/util/AbstractList"), (0, u "modCount"), (0, u "I"), (64, .class_ 78), (0, u "java/util/AbstractList$Itr"), (3, .class_ 83), (0, u "java/util/AbstractList$ListItr"), (9, .class_ 94), (0, u "java/util/AbstractList$RandomAccessSubList"), (3, .class_ 99), (0, u "java/util/AbstractList$SubList"), (33, .class_ 134), (0, u "java/util/List"), (73, .class_ 209), (0, u "java/util/AbstractList$SubList$1"), (0, .class_ 211), (0, u "java/util/AbstractList$RandomAccessSpliterator")] 6

def k9c0 : Code := { maxStack := 2, maxLocals := 1, code := jdk_39_method_1_code, exceptionTable := #[], attributes := #[] }
def k9m0 : Method := { name := "<init>", desc := "()V", sig := { parameters := [], returnType := none }, accessFlags := 4, code := some k9c0 }
/-- java/util/AbstractList -/
def k9 : Class := { plain "java/util/AbstractList" (some 6) with
  accessFlags := 1057
  interfaces := #[8]
  cf := some (fileOf pool9 8 #[.nestMembers #[93, 98, 208, 210, 82, 77]] #[{ accessFlags := 4, nameIndex := 5, descriptorIndex := 6, attributes := #[] }] 1057 2 #[133] #[{ accessFlags := 132, nameIndex := 11, descriptorIndex := 12, attributes := #[] }])
  fields := #[{ name := "modCount", type := .int, accessFlags := 132, slot := 0, constantValue := 0 }]
  methods := #[k9m0]
  instanceTypes := #[.int]
  staticTypes := #[]
  resolved := Array.replicate 218 none
  statics := none }

def pool10 : Array CpInfo := pool [(1, .class_ 2), (0, u "java/util/RandomAccess"), (0, .class_ 4), (0, u "java/lang/Object")] 2

/-- java/util/RandomAccess -/
def k10 : Class := { plain "java/util/RandomAccess" (some 0) with
  accessFlags := 1537
  interfaces := #[]
  cf := some (fileOf pool10 1 #[] #[] 1537 3 #[] #[])
  fields := #[]
  methods := #[]
  instanceTypes := #[]
  staticTypes := #[]
  resolved := Array.replicate 7 none
  statics := none }

def pool11 : Array CpInfo := pool [(1, .class_ 2), (0, u "java/lang/Cloneable"), (0, .class_ 4), (0, u "java/lang/Object")] 2

/-- java/lang/Cloneable -/
def k11 : Class := { plain "java/lang/Cloneable" (some 0) with
  accessFlags := 1537
  interfaces := #[]
  cf := some (fileOf pool11 1 #[] #[] 1537 3 #[] #[])
  fields := #[]
  methods := #[]
  instanceTypes := #[]
  staticTypes := #[]
  resolved := Array.replicate 7 none
  statics := none }

def pool12 : Array CpInfo := pool [(1, .class_ 2), (0, u "java/io/Serializable"), (0, .class_ 4), (0, u "java/lang/Object")] 2

/-- java/io/Serializable -/
def k12 : Class := { plain "java/io/Serializable" (some 0) with
  accessFlags := 1537
  interfaces := #[]
  cf := some (fileOf pool12 1 #[] #[] 1537 3 #[] #[])
  fields := #[]
  methods := #[]
  instanceTypes := #[]
  staticTypes := #[]
  resolved := Array.replicate 7 none
  statics := none }

def pool13 : Array CpInfo := pool [(1, .methodref 2 3), (0, .class_ 4), (0, .nameAndType 5 6), (0, u "java/util/AbstractList"), (0, u "<init>"), (0, u "()V"), (0, .class_ 8), (0, u "java/lang/Object"), (0, .fieldref 10 11), (0, .class_ 12), (0, .nameAndType 13 14), (0, u "java/util/ArrayList"), (0, u "elementData"), (0, u "[Ljava/lang/Object;"), (2, u "EMPTY_ELEMENTDATA"), (21, .fieldref 10 40), (0, .nameAndType 41 14), (0, u "DEFAULTCAPACITY_EMPTY_ELEMENTDATA"), (5, u "()[Ljava/lang/Object;"), (0, .fieldref 10 49), (0, .nameAndType 50 51), (0, u "size"), (0, u "I"), (11, .fieldref 10 64), (0, .nameAndType 65 51), (0, u "modCount"), (3, .methodref 10 70), (0, .nameAndType 71 72), (0, u "grow"), (0, u "(I)[Ljava/lang/Object;"), (6, .methodref 80 81), (0, .class_ 82), (0, .nameAndType 83 84), (0, u "java/lang/Math"), (0, u "max"), (0, u "(II)I"), (11, u "(Ljava/lang/Object;)Z"), (32, .methodref 10 130), (0, .nameAndType 71 47), (0, .methodref 10 132), (0, .nameAndType 133 134), (0, u "add"), (0, u "(Ljava/lang/Object;[Ljava/lang/Object;I)V"), (13, .class_ 149), (0, u "java/util/List"), (36, u "()I"), (75, .class_ 263), (0, u "java/util/ArrayList$ListItr"), (3, .class_ 268), (0, u "java/util/ArrayList$Itr"), (7, .class_ 277), (0, u "java/util/ArrayList$SubList"), (12, .class_ 291), (0, u "java/util/ArrayList$ArrayListSpliterator"), (37, .class_ 330), (0, u "java/util/RandomAccess"), (0, .class_ 332), (0, u "java/lang/Cloneable"), (0, .class_ 334), (0, u "java/io/Serializable"), (0, u "serialVersionUID"), (0, u "J"), (3, u "DEFAULT_CAPACITY"), (159, .class_ 501), (0, u "java/util/ArrayList$SubList$2"), (0, .class_ 503), (0, u "java/util/ArrayList$SubList$1")] 5

def k13c0 : Code := { maxStack := 2, maxLocals := 1, code := jdk_38_method_2_code, exceptionTable := #[], attributes := #[] }
def k13m0 : Method := { name := "<init>", desc := "()V", sig := { parameters := [], returnType := none }, accessFlags := 1, code := some k13c0 }
def k13c1 : Code := { maxStack := 4, maxLocals := 4, code := jdk_38_method_6_code, exceptionTable := #[], attributes := #[] }
def k13m1 : Method := { name := "grow", desc := "(I)[Ljava/lang/Object;", sig := { parameters := [.int], returnType := some (.array (.object "java/lang/Object")) }, accessFlags := 2, code := some k13c1 }
def k13c2 : Code := { maxStack := 3, maxLocals := 1, code := jdk_38_method_7_code, exceptionTable := #[], attributes := #[] }
def k13m2 : Method := { name := "grow", desc := "()[Ljava/lang/Object;", sig := { parameters := [], returnType := some (.array (.object "java/lang/Object")) }, accessFlags := 2, code := some k13c2 }
def k13c3 : Code := { maxStack := 1, maxLocals := 1, code := jdk_38_method_8_code, exceptionTable := #[], attributes := #[] }
def k13m3 : Method := { name := "size", desc := "()I", sig := { parameters := [], returnType := some .int }, accessFlags := 1, code := some k13c3 }
def k13c4 : Code := { maxStack := 3, maxLocals := 4, code := jdk_38_method_24_code, exceptionTable := #[], attributes := #[] }
def k13m4 : Method := { name := "add", desc := "(Ljava/lang/Object;[Ljava/lang/Object;I)V", sig := { parameters := [(.object "java/lang/Object"), (.array (.object "java/lang/Object")), .int], returnType := none }, accessFlags := 2, code := some k13c4 }
def k13c5 : Code := { maxStack := 4, maxLocals := 2, code := jdk_38_method_25_code, exceptionTable := #[], attributes := #[] }
def k13m5 : Method := { name := "add", desc := "(Ljava/lang/Object;)Z", sig := { parameters := [(.object "java/lang/Object")], returnType := some .boolean }, accessFlags := 1, code := some k13c5 }
/-- java/util/ArrayList -/
def k13 : Class := { plain "java/util/ArrayList" (some 9) with
  accessFlags := 33
  interfaces := #[8, 10, 11, 12]
  cf := some (fileOf pool13 10 #[.nestMembers #[290, 276, 500, 502, 262, 267]] #[{ accessFlags := 1, nameIndex := 5, descriptorIndex := 6, attributes := #[] }, { accessFlags := 2, nameIndex := 71, descriptorIndex := 72, attributes := #[] }, { accessFlags := 2, nameIndex := 71, descriptorIndex := 47, attributes := #[] }, { accessFlags := 1, nameIndex := 50, descriptorIndex := 186, attributes := #[] }, { accessFlags := 2, nameIndex := 133, descriptorIndex := 134, attributes := #[] }, { accessFlags := 1, nameIndex := 133, descriptorIndex := 96, attributes := #[] }] 33 2 #[148, 329, 331, 333] #[{ accessFlags := 26, nameIndex := 335, descriptorIndex := 336, attributes := #[] }, { accessFlags := 26, nameIndex := 340, descriptorIndex := 51, attributes := #[] }, { accessFlags := 26, nameIndex := 17, descriptorIndex := 14, attributes := #[] }, { accessFlags := 26, nameIndex := 41, descriptorIndex := 14, attributes := #[] }, { accessFlags := 128, nameIndex := 13, descriptorIndex := 14, attributes := #[] }, { accessFlags := 2, nameIndex := 50, descriptorIndex := 51, attributes := #[] }])
  fields := #[{ name := "serialVersionUID", type := .long, accessFlags := 26, slot := 0, constantValue := 0 }, { name := "DEFAULT_CAPACITY", type := .int, accessFlags := 26, slot := 1, constantValue := 0 }, { name := "EMPTY_ELEMENTDATA", type := (.array (.object "java/lang/Object")), accessFlags := 26, slot := 2, constantValue := 0 }, { name := "DEFAULTCAPACITY_EMPTY_ELEMENTDATA", type := (.array (.object "java/lang/Object")), accessFlags := 26, slot := 3, constantValue := 0 }, { name := "elementData", type := (.array (.object "java/lang/Object")), accessFlags := 128, slot := 1, constantValue := 0 }, { name := "size", type := .int, accessFlags := 2, slot := 2, constantValue := 0 }]
  methods := #[k13m0, k13m1, k13m2, k13m3, k13m4, k13m5]
  instanceTypes := #[.int, (.array (.object "java/lang/Object")), .int]
  staticTypes := #[.long, .int, (.array (.object "java/lang/Object")), (.array (.object "java/lang/Object"))]
  resolved := Array.replicate 509 none
  statics := some 0 }

def pool14 : Array CpInfo := pool [(2, .class_ 4), (1, u "java/util/Map"), (31, .class_ 37), (0, u "java/util/Map$Entry"), (55, .class_ 94), (0, u "java/lang/Object")] 168

/-- java/util/Map -/
def k14 : Class := { plain "java/util/Map" (some 0) with
  accessFlags := 1537
  interfaces := #[]
  cf := some (fileOf pool14 2 #[.nestMembers #[36]] #[] 1537 93 #[] #[])
  fields := #[]
  methods := #[]
  instanceTypes := #[]
  staticTypes := #[]
  resolved := Array.replicate 263 none
  statics := none }

def pool15 : Array CpInfo := pool [(1, .methodref 2 3), (0, .class_ 4), (0, .nameAndType 5 6), (0, u "java/lang/Object"), (0, u "<init>"), (0, u "()V"), (1, .class_ 10), (1, u "java/util/AbstractMap"), (42, .class_ 54), (0, u "java/util/Map"), (9, u "keySet"), (0, u "Ljava/util/Set;"), (0, .class_ 67), (0, u "java/util/AbstractMap$1"), (5, u "values"), (0, u "Ljava/util/Collection;"), (0, .class_ 76), (0, u "java/util/AbstractMap$2"), (104, .class_ 182), (0, u "java/util/AbstractMap$ViewCollection"), (0, .class_ 184), (0, u "java/util/AbstractMap$SimpleImmutableEntry"), (0, .class_ 186), (0, u "java/util/AbstractMap$SimpleEntry"), (0, .class_ 188), (0, u "java/util/AbstractMap$2$1"), (0, .class_ 190), (0, u "java/util/AbstractMap$1$1")] 5

def k15c0 : Code := { maxStack := 1, maxLocals := 1, code := jdk_71_method_1_code, exceptionTable := #[], attributes := #[] }
def k15m0 : Method := { name := "<init>", desc := "()V", sig := { parameters := [], returnType := none }, accessFlags := 4, code := some k15c0 }
/-- java/util/AbstractMap -/
def k15 : Class := { plain "java/util/AbstractMap" (some 0) with
  accessFlags := 1057
  interfaces := #[14]
  cf := some (fileOf pool15 8 #[.nestMembers #[181, 183, 185, 75, 187, 66, 189]] #[{ accessFlags := 4, nameIndex := 5, descriptorIndex := 6, attributes := #[] }] 1057 2 #[53] #[{ accessFlags := 128, nameIndex := 64, descriptorIndex := 65, attributes := #[] }, { accessFlags := 128, nameIndex := 73, descriptorIndex := 74, attributes := #[] }])
  fields := #[{ name := "keySet", type := (.object "java/util/Set"), accessFlags := 128, slot := 0, constantValue := 0 }, { name := "values", type := (.object "java/util/Collection"), accessFlags := 128, slot := 1, constantValue := 0 }]
  methods := #[k15m0]
  instanceTypes := #[(.object "java/util/Set"), (.object "java/util/Collection")]
  staticTypes := #[]
  resolved := Array.replicate 196 none
  statics := none }

def pool16 : Array CpInfo := pool [(2, .class_ 4), (1, u "java/util/concurrent/ConcurrentMap"), (71, .class_ 77), (0, u "java/lang/Object"), (0, .class_ 79), (0, u "java/util/Map")] 77

/-- java/util/concurrent/ConcurrentMap -/
def k16 : Class := { plain "java/util/concurrent/ConcurrentMap" (some 0) with
  accessFlags := 1537
  interfaces := #[14]
  cf := some (fileOf pool16 2 #[] #[] 1537 76 #[78] #[])
  fields := #[]
  methods := #[]
  instanceTypes := #[]
  staticTypes := #[]
  resolved := Array.replicate 157 none
  statics := none }

def pool17 : Array CpInfo := pool [(3, .class_ 4), (0, u "java/util/concurrent/ConcurrentHashMap"), (37, u "U"), (0, u "Ljdk/internal/misc/Unsafe;"), (2, u "ASHIFT"), (0, u "I"), (2, u "ABASE"), (6, .class_ 58), (0, u "java/util/concurrent/ConcurrentHashMap$Node"), (8, .methodref 68 69), (0, .class_ 70), (0, .nameAndType 71 72), (0, u "java/util/AbstractMap"), (0, u "<init>"), (0, u "()V"), (6, u "sizeCtl"), (27, u "table"), (0, u "[Ljava/util/concurrent/ConcurrentHashMap$Node;"), (33, .class_ 143), (0, u "java/util/concurrent/ConcurrentHashMap$Traverser"), (26, .class_ 171), (0, u "java/util/concurrent/ConcurrentHashMap$TreeBin"), (4, .class_ 177), (0, u "java/util/concurrent/ConcurrentHashMap$ReservationNode"), (26, u "entrySet"), (37, .class_ 244), (1, u "java/util/concurrent/ConcurrentHashMap$TreeNode"), (18, u "keySet"), (0, u "Ljava/util/concurrent/ConcurrentHashMap$KeySetView;"), (0, .class_ 266), (0, u "java/util/concurrent/ConcurrentHashMap$KeySetView"), (5, u "values"), (0, u "Ljava/util/concurrent/ConcurrentHashMap$ValuesView;"), (0, .class_ 275), (0, u "java/util/concurrent/ConcurrentHashMap$ValuesView"), (5, u "Ljava/util/concurrent/ConcurrentHashMap$EntrySetView;"), (0, .class_ 283), (0, u "java/util/concurrent/ConcurrentHashMap$EntrySetView"), (18, .class_ 303), (0, u "java/util/concurrent/ConcurrentHashMap$Segment"), (54, u "baseCount"), (0, u "J"), (29, .class_ 390), (0, u "java/util/concurrent/ConcurrentHashMap$KeyIterator"), (3, .class_ 395), (0, u "java/util/concurrent/ConcurrentHashMap$ValueIterator"), (18, u "SIZECTL"), (6, u "counterCells"), (0, u "[Ljava/util/concurrent/ConcurrentHashMap$CounterCell;"), (2, u "BASECOUNT"), (11, u "CELLVALUE"), (1, .class_ 441), (1, u "java/util/concurrent/ConcurrentHashMap$CounterCell"), (11, u "nextTable"), (2, u "transferIndex"), (4, .class_ 462), (0, u "java/util/concurrent/ConcurrentHashMap$ForwardingNode"), (4, u "NCPU"), (7, u "TRANSFERINDEX"), (5, u "cellsBusy"), (5, u "CELLSBUSY"), (19, .class_ 508), (0, u "java/util/concurrent/ConcurrentHashMap$ForEachMappingTask"), (10, .class_ 520), (0, u "java/util/concurrent/ConcurrentHashMap$ForEachTransformedMappingTask"), (4, .class_ 526), (0, u "java/util/concurrent/ConcurrentHashMap$SearchMappingsTask"), (7, .class_ 535), (0, u "java/util/concurrent/ConcurrentHashMap$MapReduceMappingsTask"), (4, .class_ 541), (0, u "java/util/concurrent/ConcurrentHashMap$MapReduceMappingsToDoubleTask"), (10, .class_ 553), (0, u "java/util/concurrent/ConcurrentHashMap$MapReduceMappingsToLongTask"), (7, .class_ 562), (0, u "java/util/concurrent/ConcurrentHashMap$MapReduceMappingsToIntTask"), (7, .class_ 571), (0, u "java/util/concurrent/ConcurrentHashMap$ForEachKeyTask"), (4, .class_ 577), (0, u "java/util/concurrent/ConcurrentHashMap$ForEachTransformedKeyTask"), (4, .class_ 583), (0, u "java/util/concurrent/ConcurrentHashMap$SearchKeysTask"), (4, .class_ 589), (0, u "java/util/concurrent/ConcurrentHashMap$ReduceKeysTask"), (4, .class_ 595), (0, u "java/util/concurrent/ConcurrentHashMap$MapReduceKeysTask"), (4, .class_ 601), (0, u "java/util/concurrent/ConcurrentHashMap$MapReduceKeysToDoubleTask"), (4, .class_ 607), (0, u "java/util/concurrent/ConcurrentHashMap$MapReduceKeysToLongTask"), (4, .class_ 613), (0, u "java/util/concurrent/ConcurrentHashMap$MapReduceKeysToIntTask"), (4, .class_ 619), (0, u "java/util/concurrent/ConcurrentHashMap$ForEachValueTask"), (2, .class_ 623), (0, u "java/util/concurrent/ConcurrentHashMap$ForEachTransformedValueTask"), (2, .class_ 627), (0, u "java/util/concurrent/ConcurrentHashMap$SearchValuesTask"), (2, .class_ 631), (0, u "java/util/concurrent/ConcurrentHashMap$ReduceValuesTask"), (4, .class_ 637), (0, u "java/util/concurrent/ConcurrentHashMap$MapReduceValuesTask"), (4, .class_ 643), (0, u "java/util/concurrent/ConcurrentHashMap$MapReduceValuesToDoubleTask"), (4, .class_ 649), (0, u "java/util/concurrent/ConcurrentHashMap$MapReduceValuesToLongTask"), (4, .class_ 655), (0, u "java/util/concurrent/ConcurrentHashMap$MapReduceValuesToIntTask"), (4, .class_ 661), (0, u "java/util/concurrent/ConcurrentHashMap$ForEachEntryTask"), (2, .class_ 665), (0, u "java/util/concurrent/ConcurrentHashMap$ForEachTransformedEntryTask"), (2, .class_ 669), (0, u "java/util/concurrent/ConcurrentHashMap$SearchEntriesTask"), (2, .class_ 673), (0, u "java/util/concurrent/ConcurrentHashMap$ReduceEntriesTask"), (4, .class_ 679), (0, u "java/util/concurrent/ConcurrentHashMap$MapReduceEntriesTask"), (4, .class_ 685), (0, u "java/util/concurrent/ConcurrentHashMap$MapReduceEntriesToDoubleTask"), (4, .class_ 691), (0, u "java/util/concurrent/ConcurrentHashMap$MapReduceEntriesToLongTask"), (4, .class_ 697), (0, u "java/util/concurrent/ConcurrentHashMap$MapReduceEntriesToIntTask"), (29, u "serialPersistentFields"), (0, u "[Ljava/io/ObjectStreamField;"), (28, .class_ 758), (0, u "java/util/concurrent/ConcurrentMap"), (0, .class_ 760), (0, u "java/io/Serializable"), (0, u "serialVersionUID"), (3, u "MAXIMUM_CAPACITY"), (0, u "DEFAULT_CAPACITY"), (1, u "MAX_ARRAY_SIZE"), (1, u "DEFAULT_CONCURRENCY_LEVEL"), (0, u "LOAD_FACTOR"), (0, u "F"), (0, u "TREEIFY_THRESHOLD"), (1, u "UNTREEIFY_THRESHOLD"), (1, u "MIN_TREEIFY_CAPACITY"), (1, u "MIN_TRANSFER_STRIDE"), (0, u "RESIZE_STAMP_BITS"), (0, u "MAX_RESIZERS"), (0, u "RESIZE_STAMP_SHIFT"), (0, u "MOVED"), (1, u "TREEBIN"), (1, u "RESERVED"), (1, u "HASH_BITS"), (345, .class_ 1136), (0, u "java/util/concurrent/ConcurrentHashMap$BulkTask"), (0, .class_ 1138), (0, u "java/util/concurrent/ConcurrentHashMap$CollectionView"), (0, .class_ 1140), (0, u "java/util/concurrent/ConcurrentHashMap$EntrySpliterator"), (0, .class_ 1142), (0, u "java/util/concurrent/ConcurrentHashMap$ValueSpliterator"), (0, .class_ 1144), (0, u "java/util/concurrent/ConcurrentHashMap$KeySpliterator"), (0, .class_ 1146), (0, u "java/util/concurrent/ConcurrentHashMap$MapEntry"), (0, .class_ 1148), (0, u "java/util/concurrent/ConcurrentHashMap$EntryIterator"), (0, .class_ 1150), (0, u "java/util/concurrent/ConcurrentHashMap$BaseIterator"), (0, .class_ 1152), (0, u "java/util/concurrent/ConcurrentHashMap$TableStack")] 57

def k17c0 : Code := { maxStack := 1, maxLocals := 1, code := jdk_2776_method_8_code, exceptionTable := #[], attributes := #[] }
def k17m0 : Method := { name := "<init>", desc := "()V", sig := { parameters := [], returnType := none }, accessFlags := 1, code := some k17c0 }
/-- java/util/concurrent/ConcurrentHashMap -/
def k17 : Class := { plain "java/util/concurrent/ConcurrentHashMap" (some 15) with
  accessFlags := 33
  interfaces := #[16, 12]
  cf := some (fileOf pool17 3 #[.nestMembers #[561, 696, 654, 612, 552, 690, 648, 606, 540, 684, 642, 600, 534, 678, 636, 594, 672, 630, 588, 525, 668, 626, 582, 519, 664, 622, 576, 507, 660, 618, 570, 1135, 282, 274, 265, 1137, 1139, 1141, 1143, 1145, 1147, 394, 389, 1149, 142, 1151, 170, 242, 439, 176, 461, 302, 57]] #[{ accessFlags := 1, nameIndex := 71, descriptorIndex := 72, attributes := #[] }] 33 68 #[757, 759] #[{ accessFlags := 26, nameIndex := 761, descriptorIndex := 359, attributes := #[] }, { accessFlags := 26, nameIndex := 765, descriptorIndex := 47, attributes := #[] }, { accessFlags := 26, nameIndex := 766, descriptorIndex := 47, attributes := #[] }, { accessFlags := 24, nameIndex := 768, descriptorIndex := 47, attributes := #[] }, { accessFlags := 26, nameIndex := 770, descriptorIndex := 47, attributes := #[] }, { accessFlags := 26, nameIndex := 771, descriptorIndex := 772, attributes := #[] }, { accessFlags := 24, nameIndex := 773, descriptorIndex := 47, attributes := #[] }, { accessFlags := 24, nameIndex := 775, descriptorIndex := 47, attributes := #[] }, { accessFlags := 24, nameIndex := 777, descriptorIndex := 47, attributes := #[] }, { accessFlags := 26, nameIndex := 779, descriptorIndex := 47, attributes := #[] }, { accessFlags := 26, nameIndex := 780, descriptorIndex := 47, attributes := #[] }, { accessFlags := 26, nameIndex := 781, descriptorIndex := 47, attributes := #[] }, { accessFlags := 26, nameIndex := 782, descriptorIndex := 47, attributes := #[] }, { accessFlags := 24, nameIndex := 783, descriptorIndex := 47, attributes := #[] }, { accessFlags := 24, nameIndex := 785, descriptorIndex := 47, attributes := #[] }, { accessFlags := 24, nameIndex := 787, descriptorIndex := 47, attributes := #[] }, { accessFlags := 24, nameIndex := 789, descriptorIndex := 47, attributes := #[] }, { accessFlags := 24, nameIndex := 467, descriptorIndex := 47, attributes := #[] }, { accessFlags := 26, nameIndex := 727, descriptorIndex := 728, attributes := #[] }, { accessFlags := 192, nameIndex := 107, descriptorIndex := 108, attributes := #[] }, { accessFlags := 194, nameIndex := 453, descriptorIndex := 108, attributes := #[] }, { accessFlags := 194, nameIndex := 358, descriptorIndex := 359, attributes := #[] }, { accessFlags := 194, nameIndex := 79, descriptorIndex := 47, attributes := #[] }, { accessFlags := 194, nameIndex := 456, descriptorIndex := 47, attributes := #[] }, { accessFlags := 194, nameIndex := 481, descriptorIndex := 47, attributes := #[] }, { accessFlags := 194, nameIndex := 421, descriptorIndex := 422, attributes := #[] }, { accessFlags := 130, nameIndex := 263, descriptorIndex := 264, attributes := #[] }, { accessFlags := 130, nameIndex := 272, descriptorIndex := 273, attributes := #[] }, { accessFlags := 130, nameIndex := 204, descriptorIndex := 281, attributes := #[] }, { accessFlags := 26, nameIndex := 42, descriptorIndex := 43, attributes := #[] }, { accessFlags := 26, nameIndex := 414, descriptorIndex := 359, attributes := #[] }, { accessFlags := 26, nameIndex := 475, descriptorIndex := 359, attributes := #[] }, { accessFlags := 26, nameIndex := 425, descriptorIndex := 359, attributes := #[] }, { accessFlags := 26, nameIndex := 487, descriptorIndex := 359, attributes := #[] }, { accessFlags := 26, nameIndex := 437, descriptorIndex := 359, attributes := #[] }, { accessFlags := 26, nameIndex := 50, descriptorIndex := 47, attributes := #[] }, { accessFlags := 26, nameIndex := 46, descriptorIndex := 47, attributes := #[] }])
  fields := #[{ name := "serialVersionUID", type := .long, accessFlags := 26, slot := 0, constantValue := 0 }, { name := "MAXIMUM_CAPACITY", type := .int, accessFlags := 26, slot := 1, constantValue := 0 }, { name := "DEFAULT_CAPACITY", type := .int, accessFlags := 26, slot := 2, constantValue := 0 }, { name := "MAX_ARRAY_SIZE", type := .int, accessFlags := 24, slot := 3, constantValue := 0 }, { name := "DEFAULT_CONCURRENCY_LEVEL", type := .int, accessFlags := 26, slot := 4, constantValue := 0 }, { name := "LOAD_FACTOR", type := .float, accessFlags := 26, slot := 5, constantValue := 0 }, { name := "TREEIFY_THRESHOLD", type := .int, accessFlags := 24, slot := 6, constantValue := 0 }, { name := "UNTREEIFY_THRESHOLD", type := .int, accessFlags := 24, slot := 7, constantValue := 0 }, { name := "MIN_TREEIFY_CAPACITY", type := .int, accessFlags := 24, slot := 8, constantValue := 0 }, { name := "MIN_TRANSFER_STRIDE", type := .int, accessFlags := 26, slot := 9, constantValue := 0 }, { name := "RESIZE_STAMP_BITS", type := .int, accessFlags := 26, slot := 10, constantValue := 0 }, { name := "MAX_RESIZERS", type := .int, accessFlags := 26, slot := 11, constantValue := 0 }, { name := "RESIZE_STAMP_SHIFT", type := .int, accessFlags := 26, slot := 12, constantValue := 0 }, { name := "MOVED", type := .int, accessFlags := 24, slot := 13, constantValue := 0 }, { name := "TREEBIN", type := .int, accessFlags := 24, slot := 14, constantValue := 0 }, { name := "RESERVED", type := .int, accessFlags := 24, slot := 15, constantValue := 0 }, { name := "HASH_BITS", type := .int, accessFlags := 24, slot := 16, constantValue := 0 }, { name := "NCPU", type := .int, accessFlags := 24, slot := 17, constantValue := 0 }, { name := "serialPersistentFields", type := (.array (.object "java/io/ObjectStreamField")), accessFlags := 26, slot := 18, constantValue := 0 }, { name := "table", type := (.array (.object "java/util/concurrent/ConcurrentHashMap$Node")), accessFlags := 192, slot := 2, constantValue := 0 }, { name := "nextTable", type := (.array (.object "java/util/concurrent/ConcurrentHashMap$Node")), accessFlags := 194, slot := 3, constantValue := 0 }, { name := "baseCount", type := .long, accessFlags := 194, slot := 4, constantValue := 0 }, { name := "sizeCtl", type := .int, accessFlags := 194, slot := 5, constantValue := 0 }, { name := "transferIndex", type := .int, accessFlags := 194, slot := 6, constantValue := 0 }, { name := "cellsBusy", type := .int, accessFlags := 194, slot := 7, constantValue := 0 }, { name := "counterCells", type := (.array (.object "java/util/concurrent/ConcurrentHashMap$CounterCell")), accessFlags := 194, slot := 8, constantValue := 0 }, { name := "keySet", type := (.object "java/util/concurrent/ConcurrentHashMap$KeySetView"), accessFlags := 130, slot := 9, constantValue := 0 }, { name := "values", type := (.object "java/util/concurrent/ConcurrentHashMap$ValuesView"), accessFlags := 130, slot := 10, constantValue := 0 }, { name := "entrySet", type := (.object "java/util/concurrent/ConcurrentHashMap$EntrySetView"), accessFlags := 130, slot := 11, constantValue := 0 }, { name := "U", type := (.object "jdk/internal/misc/Unsafe"), accessFlags := 26, slot := 19, constantValue := 0 }, { name := "SIZECTL", type := .long, accessFlags := 26, slot := 20, constantValue := 0 }, { name := "TRANSFERINDEX", type := .long, accessFlags := 26, slot := 21, constantValue := 0 }, { name := "BASECOUNT", type := .long, accessFlags := 26, slot := 22, constantValue := 0 }, { name := "CELLSBUSY", type := .long, accessFlags := 26, slot := 23, constantValue := 0 }, { name := "CELLVALUE", type := .long, accessFlags := 26, slot := 24, constantValue := 0 }, { name := "ABASE", type := .int, accessFlags := 26, slot := 25, constantValue := 0 }, { name := "ASHIFT", type := .int, accessFlags := 26, slot := 26, constantValue := 0 }]
  methods := #[k17m0]
  instanceTypes := #[(.object "java/util/Set"), (.object "java/util/Collection"), (.array (.object "java/util/concurrent/ConcurrentHashMap$Node")), (.array (.object "java/util/concurrent/ConcurrentHashMap$Node")), .long, .int, .int, .int, (.array (.object "java/util/concurrent/ConcurrentHashMap$CounterCell")), (.object "java/util/concurrent/ConcurrentHashMap$KeySetView"), (.object "java/util/concurrent/ConcurrentHashMap$ValuesView"), (.object "java/util/concurrent/ConcurrentHashMap$EntrySetView")]
  staticTypes := #[.long, .int, .int, .int, .int, .float, .int, .int, .int, .int, .int, .int, .int, .int, .int, .int, .int, .int, (.array (.object "java/io/ObjectStreamField")), (.object "jdk/internal/misc/Unsafe"), .long, .long, .long, .long, .long, .int, .int]
  resolved := Array.replicate 1210 none
  statics := none }

def pool18 : Array CpInfo := pool [(1, .methodref 2 3), (0, .class_ 4), (0, .nameAndType 5 6), (0, u "java/lang/Object"), (0, u "<init>"), (0, u "()V"), (0, .fieldref 8 9), (0, .class_ 10), (0, .nameAndType 11 12), (0, u "com/example/changeset/changeset/check/FoundState"), (0, u "number"), (0, u "I"), (0, .fieldref 8 14), (0, .nameAndType 15 16), (0, u "state"), (0, u "Lcom/example/changeset/changeset/check/State;"), (2, u "fault"), (0, u "Lcom/example/changeset/changeset/check/Fault;"), (26, u "(Lcom/example/changeset/changeset/check/State;)V"), (2, u "()Lcom/example/changeset/changeset/check/State;"), (0, u "()I"), (0, u "(I)V")] 8

def k18c0 : Code := { maxStack := 2, maxLocals := 2, code := prog_19_method_1_code, exceptionTable := #[], attributes := #[] }
def k18m0 : Method := { name := "<init>", desc := "(Lcom/example/changeset/changeset/check/State;)V", sig := { parameters := [(.object "com/example/changeset/changeset/check/State")], returnType := none }, accessFlags := 0, code := some k18c0 }
def k18c1 : Code := { maxStack := 1, maxLocals := 1, code := prog_19_method_2_code, exceptionTable := #[], attributes := #[] }
def k18m1 : Method := { name := "state", desc := "()Lcom/example/changeset/changeset/check/State;", sig := { parameters := [], returnType := some (.object "com/example/changeset/changeset/check/State") }, accessFlags := 0, code := some k18c1 }
def k18c2 : Code := { maxStack := 1, maxLocals := 1, code := prog_19_method_3_code, exceptionTable := #[], attributes := #[] }
def k18m2 : Method := { name := "number", desc := "()I", sig := { parameters := [], returnType := some .int }, accessFlags := 0, code := some k18c2 }
def k18c3 : Code := { maxStack := 2, maxLocals := 2, code := prog_19_method_4_code, exceptionTable := #[], attributes := #[] }
def k18m3 : Method := { name := "number", desc := "(I)V", sig := { parameters := [.int], returnType := none }, accessFlags := 0, code := some k18c3 }
/-- com/example/changeset/changeset/check/FoundState -/
def k18 : Class := { plain "com/example/changeset/changeset/check/FoundState" (some 0) with
  accessFlags := 32
  interfaces := #[]
  cf := some (fileOf pool18 8 #[] #[{ accessFlags := 0, nameIndex := 5, descriptorIndex := 47, attributes := #[] }, { accessFlags := 0, nameIndex := 15, descriptorIndex := 50, attributes := #[] }, { accessFlags := 0, nameIndex := 11, descriptorIndex := 51, attributes := #[] }, { accessFlags := 0, nameIndex := 11, descriptorIndex := 52, attributes := #[] }] 32 2 #[] #[{ accessFlags := 18, nameIndex := 15, descriptorIndex := 16, attributes := #[] }, { accessFlags := 2, nameIndex := 11, descriptorIndex := 12, attributes := #[] }, { accessFlags := 66, nameIndex := 19, descriptorIndex := 20, attributes := #[] }])
  fields := #[{ name := "state", type := (.object "com/example/changeset/changeset/check/State"), accessFlags := 18, slot := 0, constantValue := 0 }, { name := "number", type := .int, accessFlags := 2, slot := 1, constantValue := 0 }, { name := "fault", type := (.object "com/example/changeset/changeset/check/Fault"), accessFlags := 66, slot := 2, constantValue := 0 }]
  methods := #[k18m0, k18m1, k18m2, k18m3]
  instanceTypes := #[(.object "com/example/changeset/changeset/check/State"), .int, (.object "com/example/changeset/changeset/check/Fault")]
  staticTypes := #[]
  resolved := Array.replicate 61 none
  statics := none }

/-- the primitive byte -/
def k19 : Class := { plain "byte" none with kind := .primitive 'B', accessFlags := 0x411 }
/-- [B -/
def k20 : Class := { plain "[B" (some 0) with kind := .array 19 .byte, interfaces := #[11, 12], accessFlags := 1041 }

/-- the primitive int -/
def k21 : Class := { plain "int" none with kind := .primitive 'I', accessFlags := 0x411 }
/-- [I -/
def k22 : Class := { plain "[I" (some 0) with kind := .array 21 .int, interfaces := #[11, 12], accessFlags := 1041 }

/-- [Lcom/example/changeset/changeset/check/FoundState; -/
def k23 : Class := { plain "[Lcom/example/changeset/changeset/check/FoundState;" (some 0) with kind := .array 18 (.object "com/example/changeset/changeset/check/FoundState"), interfaces := #[11, 12], accessFlags := 1041 }

/-- [Ljava/lang/Object; -/
def k24 : Class := { plain "[Ljava/lang/Object;" (some 0) with kind := .array 0 (.object "java/lang/Object"), interfaces := #[11, 12], accessFlags := 1041 }

def heap : Heap := #[{ cls := 13, slots := #[.long 0, .int 0, .ref 1, .ref 2], vm := .statics 13 },
  { cls := 24, slots := #[], vm := .none },
  { cls := 24, slots := #[], vm := .none }]
def classes : Array Class := #[k0, k1, k2, k3, k4, k5, k6, k7, k8, k9, k10, k11, k12, k13, k14, k15, k16, k17, k18, k19, k20, k21, k22, k23, k24]
def interned : List (Array UInt16 × Addr) := []
def slotsUsed : Nat := 4
def theMethod : MethodId := ⟨1, 2⟩
def args0 : Array Value := #[.int 3, .int 5, .int 1, .int 0]
def aboutOver (below : List Frame) : State where
  vm := { classes := classes, interned := interned.toArray }
  heap := heap
  slotsUsed := slotsUsed
  threads := #[{ frames := .invoking theMethod args0 :: below }]
def below0 : List Frame := [.native { method := ⟨0, 0⟩, args := #[] }]
def about1 : State := aboutOver below0
def p0 : Program := .bare "" "" ""
def e0 : Env := launch0.env 0 0 0
theorem w_frames : about1.frames = Frame.invoking theMethod args0 :: below0 := rfl
set_option maxRecDepth 65536 in
theorem w_args : argsFit about1.vm theMethod args0 = true := by decide +kernel
set_option maxRecDepth 65536 in
theorem w_heap : heapFits about1 = true := by decide +kernel
set_option maxRecDepth 65536 in
theorem w_runnable : about1.curStatus? = some .runnable := by decide +kernel
set_option maxRecDepth 65536 in
theorem w_alone : about1.alone = true := by decide +kernel
set_option maxRecDepth 65536 in
theorem w_named : about1.methodNamed? x = some theMethod := by decide +kernel
set_option maxRecDepth 65536 in
theorem w_hears : about1.hears theMethod below0 = true := by decide +kernel
set_option maxRecDepth 65536 in
theorem w_ripe : about1.ripe theMethod args0 below0 = true := by decide +kernel
theorem w_running : about1.status = .running := rfl
set_option maxRecDepth 65536 in
theorem w_room : about1.hasRoom e0.platform room_1 = true :=
  launch0.hasRoom_least _ room_1 (by decide +kernel) (by decide +kernel) (by decide +kernel) (by decide +kernel) (by decide +kernel) (by decide +kernel)
theorem allAtoms_all (ts : List Jvm.Cond) (a : Array Jvm.Value) (st : Jvm.State) : (allAtoms ts).before a st = ts.all (fun c => c.before a st) := by
  induction ts with
  | nil => rfl
  | cons c t ih =>
    show (Jvm.Cond.and c (allAtoms t)).before a st = _
    rw [Jvm.Cond.before_and, ih, List.all_cons]
def words1 : List Jvm.Cond := Jvm.Cond.code x code maxLocals ret :: tables_1
/-- a 'code' word, met by the world's own term for the bytes: nothing is compared byte by byte -/
theorem code_word {y : MethodName} {bytes : ByteArray} {mx : Nat} {rt : Option FieldType} {a : Array Value} {s : State} {m : MethodId} {meth : Method} {c : Code} (h1 : s.methodNamed? y = some m) (h2 : s.vm.method? m = some meth) (h3 : meth.code = some c) (h4 : c.code = bytes)
    (h5 : (c.maxLocals == mx && c.exceptionTable.isEmpty && decide (c.maxStack ≤ mostOperands) && decide (meth.sig.returnType = rt) && !meth.locks && decide (parseMethodDescriptor y.desc = some meth.sig)) = true) : (Jvm.Cond.code y bytes mx rt).before a s = true := by
  simp only [Bool.and_eq_true, beq_iff_eq, Bool.not_eq_true', decide_eq_true_eq] at h5
  obtain ⟨⟨⟨⟨⟨g1, g2⟩, g3⟩, g4⟩, g5⟩, g6⟩ := h5
  simp [Cond.before, Cond.holds, Cond.value, h1, h2, h3, h4, g1, g2, g3, g4, g5, g6]
def isCode : Jvm.Cond → Bool
  | .code _ _ _ _ => true
  | _ => false
theorem all_split {L : List Jvm.Cond} {P : Jvm.Cond → Bool} (h1 : L.all (fun c => isCode c || P c) = true) (h2 : ∀ c ∈ L.filter isCode, P c = true) : L.all P = true := by
  refine List.all_eq_true.mpr fun c hc => ?_
  have h := List.all_eq_true.mp h1 c hc
  rcases Bool.eq_false_or_eq_true (isCode c) with hi | hi
  · exact h2 c (List.mem_filter.mpr ⟨hc, hi⟩)
  · simpa [hi] using h
set_option maxRecDepth 65536 in
theorem w_c0 : (Jvm.Cond.code x code maxLocals ret).before args0 about1 = true := code_word (m := ⟨1, 2⟩) (meth := k1m2) (c := k1c2) (by decide +kernel) rfl rfl rfl (by decide +kernel)
set_option maxRecDepth 65536 in
theorem w_c1 : (Jvm.Cond.code ({ cls := "java/lang/Math", name := "min", desc := "(II)I" } : Jvm.MethodName) jdk_29_method_69_code (2 : Nat) (Option.some Jvm.ClassFile.FieldType.int)).before args0 about1 = true := code_word (m := ⟨2, 2⟩) (meth := k2m2) (c := k2c2) (by decide +kernel) rfl rfl rfl (by decide +kernel)
set_option maxRecDepth 65536 in
theorem w_c2 : (Jvm.Cond.code ({ cls := "java/util/ArrayList", name := "<init>", desc := "()V" } : Jvm.MethodName) jdk_38_method_2_code (1 : Nat) (Option.none : Option Jvm.ClassFile.FieldType)).before args0 about1 = true := code_word (m := ⟨13, 0⟩) (meth := k13m0) (c := k13c0) (by decide +kernel) rfl rfl rfl (by decide +kernel)
set_option maxRecDepth 65536 in
theorem w_c3 : (Jvm.Cond.code ({ cls := "java/util/AbstractList", name := "<init>", desc := "()V" } : Jvm.MethodName) jdk_39_method_1_code (1 : Nat) (Option.none : Option Jvm.ClassFile.FieldType)).before args0 about1 = true := code_word (m := ⟨9, 0⟩) (meth := k9m0) (c := k9c0) (by decide +kernel) rfl rfl rfl (by decide +kernel)
set_option maxRecDepth 65536 in
theorem w_c4 : (Jvm.Cond.code ({ cls := "java/util/AbstractCollection", name := "<init>", desc := "()V" } : Jvm.MethodName) jdk_22_method_1_code (1 : Nat) (Option.none : Option Jvm.ClassFile.FieldType)).before args0 about1 = true := code_word (m := ⟨6, 0⟩) (meth := k6m0) (c := k6c0) (by decide +kernel) rfl rfl rfl (by decide +kernel)
set_option maxRecDepth 65536 in
theorem w_c5 : (Jvm.Cond.code ({ cls := "java/lang/Object", name := "<init>", desc := "()V" } : Jvm.MethodName) object_method_1_code (1 : Nat) (Option.none : Option Jvm.ClassFile.FieldType)).before args0 about1 = true := code_word (m := ⟨0, 0⟩) (meth := k0m0) (c := k0c0) (by decide +kernel) rfl rfl rfl (by decide +kernel)
set_option maxRecDepth 65536 in
theorem w_c6 : (Jvm.Cond.code ({ cls := "com/example/changeset/changeset/check/StateGraph", name := "<init>", desc := "(Ljava/util/List;Z)V" } : Jvm.MethodName) prog_39_method_1_code (4 : Nat) (Option.none : Option Jvm.ClassFile.FieldType)).before args0 about1 = true := code_word (m := ⟨3, 0⟩) (meth := k3m0) (c := k3c0) (by decide +kernel) rfl rfl rfl (by decide +kernel)
set_option maxRecDepth 65536 in
theorem w_c7 : (Jvm.Cond.code ({ cls := "java/util/concurrent/ConcurrentHashMap", name := "<init>", desc := "()V" } : Jvm.MethodName) jdk_2776_method_8_code (1 : Nat) (Option.none : Option Jvm.ClassFile.FieldType)).before args0 about1 = true := code_word (m := ⟨17, 0⟩) (meth := k17m0) (c := k17c0) (by decide +kernel) rfl rfl rfl (by decide +kernel)
set_option maxRecDepth 65536 in
theorem w_c8 : (Jvm.Cond.code ({ cls := "java/util/AbstractMap", name := "<init>", desc := "()V" } : Jvm.MethodName) jdk_71_method_1_code (1 : Nat) (Option.none : Option Jvm.ClassFile.FieldType)).before args0 about1 = true := code_word (m := ⟨15, 0⟩) (meth := k15m0) (c := k15c0) (by decide +kernel) rfl rfl rfl (by decide +kernel)
set_option maxRecDepth 65536 in
theorem w_c9 : (Jvm.Cond.code ({ cls := "com/example/changeset/changeset/check/FoundState", name := "<init>", desc := "(Lcom/example/changeset/changeset/check/State;)V" } : Jvm.MethodName) prog_19_method_1_code (2 : Nat) (Option.none : Option Jvm.ClassFile.FieldType)).before args0 about1 = true := code_word (m := ⟨18, 0⟩) (meth := k18m0) (c := k18c0) (by decide +kernel) rfl rfl rfl (by decide +kernel)
set_option maxRecDepth 65536 in
theorem w_c10 : (Jvm.Cond.code ({ cls := "com/example/changeset/changeset/check/StateGraph", name := "add", desc := "(Lcom/example/changeset/changeset/check/FoundState;II)Z" } : Jvm.MethodName) prog_39_method_3_code (6 : Nat) (Option.some Jvm.ClassFile.FieldType.boolean)).before args0 about1 = true := code_word (m := ⟨3, 1⟩) (meth := k3m1) (c := k3c1) (by decide +kernel) rfl rfl rfl (by decide +kernel)
set_option maxRecDepth 65536 in
theorem w_c11 : (Jvm.Cond.code ({ cls := "com/example/changeset/changeset/check/FoundState", name := "number", desc := "()I" } : Jvm.MethodName) prog_19_method_3_code (1 : Nat) (Option.some Jvm.ClassFile.FieldType.int)).before args0 about1 = true := code_word (m := ⟨18, 2⟩) (meth := k18m2) (c := k18c2) (by decide +kernel) rfl rfl rfl (by decide +kernel)
set_option maxRecDepth 65536 in
theorem w_c12 : (Jvm.Cond.code ({ cls := "java/util/ArrayList", name := "size", desc := "()I" } : Jvm.MethodName) jdk_38_method_8_code (1 : Nat) (Option.some Jvm.ClassFile.FieldType.int)).before args0 about1 = true := code_word (m := ⟨13, 3⟩) (meth := k13m3) (c := k13c3) (by decide +kernel) rfl rfl rfl (by decide +kernel)
set_option maxRecDepth 65536 in
theorem w_c13 : (Jvm.Cond.code ({ cls := "com/example/changeset/changeset/check/FoundState", name := "state", desc := "()Lcom/example/changeset/changeset/check/State;" } : Jvm.MethodName) prog_19_method_2_code (1 : Nat) (Option.some (Jvm.ClassFile.FieldType.object "com/example/changeset/changeset/check/State"))).before args0 about1 = true := code_word (m := ⟨18, 1⟩) (meth := k18m1) (c := k18c1) (by decide +kernel) rfl rfl rfl (by decide +kernel)
set_option maxRecDepth 65536 in
theorem w_c14 : (Jvm.Cond.code ({ cls := "java/util/ArrayList", name := "add", desc := "(Ljava/lang/Object;)Z" } : Jvm.MethodName) jdk_38_method_25_code (2 : Nat) (Option.some Jvm.ClassFile.FieldType.boolean)).before args0 about1 = true := code_word (m := ⟨13, 5⟩) (meth := k13m5) (c := k13c5) (by decide +kernel) rfl rfl rfl (by decide +kernel)
set_option maxRecDepth 65536 in
theorem w_c15 : (Jvm.Cond.code ({ cls := "java/util/ArrayList", name := "add", desc := "(Ljava/lang/Object;[Ljava/lang/Object;I)V" } : Jvm.MethodName) jdk_38_method_24_code (4 : Nat) (Option.none : Option Jvm.ClassFile.FieldType)).before args0 about1 = true := code_word (m := ⟨13, 4⟩) (meth := k13m4) (c := k13c4) (by decide +kernel) rfl rfl rfl (by decide +kernel)
set_option maxRecDepth 65536 in
theorem w_c16 : (Jvm.Cond.code ({ cls := "java/util/ArrayList", name := "grow", desc := "()[Ljava/lang/Object;" } : Jvm.MethodName) jdk_38_method_7_code (1 : Nat) (Option.some (Jvm.ClassFile.FieldType.array (Jvm.ClassFile.FieldType.object "java/lang/Object")))).before args0 about1 = true := code_word (m := ⟨13, 2⟩) (meth := k13m2) (c := k13c2) (by decide +kernel) rfl rfl rfl (by decide +kernel)
set_option maxRecDepth 65536 in
theorem w_c17 : (Jvm.Cond.code ({ cls := "java/util/ArrayList", name := "grow", desc := "(I)[Ljava/lang/Object;" } : Jvm.MethodName) jdk_38_method_6_code (4 : Nat) (Option.some (Jvm.ClassFile.FieldType.array (Jvm.ClassFile.FieldType.object "java/lang/Object")))).before args0 about1 = true := code_word (m := ⟨13, 1⟩) (meth := k13m1) (c := k13c1) (by decide +kernel) rfl rfl rfl (by decide +kernel)
set_option maxRecDepth 65536 in
theorem w_c18 : (Jvm.Cond.code ({ cls := "java/lang/Math", name := "max", desc := "(II)I" } : Jvm.MethodName) jdk_29_method_65_code (2 : Nat) (Option.some Jvm.ClassFile.FieldType.int)).before args0 about1 = true := code_word (m := ⟨2, 1⟩) (meth := k2m1) (c := k2c1) (by decide +kernel) rfl rfl rfl (by decide +kernel)
set_option maxRecDepth 65536 in
theorem w_c19 : (Jvm.Cond.code ({ cls := "com/example/changeset/changeset/check/FoundState", name := "number", desc := "(I)V" } : Jvm.MethodName) prog_19_method_4_code (2 : Nat) (Option.none : Option Jvm.ClassFile.FieldType)).before args0 about1 = true := code_word (m := ⟨18, 3⟩) (meth := k18m3) (c := k18c3) (by decide +kernel) rfl rfl rfl (by decide +kernel)
set_option maxRecDepth 65536 in
theorem w_c20 : (Jvm.Cond.code ({ cls := "com/example/changeset/changeset/check/StateGraphEdgesStartPinLaw", name := "one", desc := "(Z)I" } : Jvm.MethodName) method_2_code (1 : Nat) (Option.some Jvm.ClassFile.FieldType.int)).before args0 about1 = true := code_word (m := ⟨1, 1⟩) (meth := k1m1) (c := k1c1) (by decide +kernel) rfl rfl rfl (by decide +kernel)
set_option maxRecDepth 65536 in
theorem w_c21 : (Jvm.Cond.code ({ cls := "com/example/changeset/changeset/check/StateGraph", name := "edgesStart", desc := "(I)I" } : Jvm.MethodName) prog_39_method_7_code (2 : Nat) (Option.some Jvm.ClassFile.FieldType.int)).before args0 about1 = true := code_word (m := ⟨3, 3⟩) (meth := k3m3) (c := k3c3) (by decide +kernel) rfl rfl rfl (by decide +kernel)
set_option maxRecDepth 65536 in
theorem w_c22 : (Jvm.Cond.code ({ cls := "com/example/changeset/changeset/check/StateGraph", name := "addEdge", desc := "(III)V" } : Jvm.MethodName) prog_39_method_4_code (4 : Nat) (Option.none : Option Jvm.ClassFile.FieldType)).before args0 about1 = true := code_word (m := ⟨3, 2⟩) (meth := k3m2) (c := k3c2) (by decide +kernel) rfl rfl rfl (by decide +kernel)
def codes1 : List Jvm.Cond := [Jvm.Cond.code x code maxLocals ret, Jvm.Cond.code ({ cls := "java/lang/Math", name := "min", desc := "(II)I" } : Jvm.MethodName) jdk_29_method_69_code (2 : Nat) (Option.some Jvm.ClassFile.FieldType.int), Jvm.Cond.code ({ cls := "java/util/ArrayList", name := "<init>", desc := "()V" } : Jvm.MethodName) jdk_38_method_2_code (1 : Nat) (Option.none : Option Jvm.ClassFile.FieldType), Jvm.Cond.code ({ cls := "java/util/AbstractList", name := "<init>", desc := "()V" } : Jvm.MethodName) jdk_39_method_1_code (1 : Nat) (Option.none : Option Jvm.ClassFile.FieldType), Jvm.Cond.code ({ cls := "java/util/AbstractCollection", name := "<init>", desc := "()V" } : Jvm.MethodName) jdk_22_method_1_code (1 : Nat) (Option.none : Option Jvm.ClassFile.FieldType), Jvm.Cond.code ({ cls := "java/lang/Object", name := "<init>", desc := "()V" } : Jvm.MethodName) object_method_1_code (1 : Nat) (Option.none : Option Jvm.ClassFile.FieldType), Jvm.Cond.code ({ cls := "com/example/changeset/changeset/check/StateGraph", name := "<init>", desc := "(Ljava/util/List;Z)V" } : Jvm.MethodName) prog_39_method_1_code (4 : Nat) (Option.none : Option Jvm.ClassFile.FieldType), Jvm.Cond.code ({ cls := "java/util/concurrent/ConcurrentHashMap", name := "<init>", desc := "()V" } : Jvm.MethodName) jdk_2776_method_8_code (1 : Nat) (Option.none : Option Jvm.ClassFile.FieldType), Jvm.Cond.code ({ cls := "java/util/AbstractMap", name := "<init>", desc := "()V" } : Jvm.MethodName) jdk_71_method_1_code (1 : Nat) (Option.none : Option Jvm.ClassFile.FieldType), Jvm.Cond.code ({ cls := "com/example/changeset/changeset/check/FoundState", name := "<init>", desc := "(Lcom/example/changeset/changeset/check/State;)V" } : Jvm.MethodName) prog_19_method_1_code (2 : Nat) (Option.none : Option Jvm.ClassFile.FieldType), Jvm.Cond.code ({ cls := "com/example/changeset/changeset/check/StateGraph", name := "add", desc := "(Lcom/example/changeset/changeset/check/FoundState;II)Z" } : Jvm.MethodName) prog_39_method_3_code (6 : Nat) (Option.some Jvm.ClassFile.FieldType.boolean), Jvm.Cond.code ({ cls := "com/example/changeset/changeset/check/FoundState", name := "number", desc := "()I" } : Jvm.MethodName) prog_19_method_3_code (1 : Nat) (Option.some Jvm.ClassFile.FieldType.int), Jvm.Cond.code ({ cls := "java/util/ArrayList", name := "size", desc := "()I" } : Jvm.MethodName) jdk_38_method_8_code (1 : Nat) (Option.some Jvm.ClassFile.FieldType.int), Jvm.Cond.code ({ cls := "com/example/changeset/changeset/check/FoundState", name := "state", desc := "()Lcom/example/changeset/changeset/check/State;" } : Jvm.MethodName) prog_19_method_2_code (1 : Nat) (Option.some (Jvm.ClassFile.FieldType.object "com/example/changeset/changeset/check/State")), Jvm.Cond.code ({ cls := "java/util/ArrayList", name := "add", desc := "(Ljava/lang/Object;)Z" } : Jvm.MethodName) jdk_38_method_25_code (2 : Nat) (Option.some Jvm.ClassFile.FieldType.boolean), Jvm.Cond.code ({ cls := "java/util/ArrayList", name := "add", desc := "(Ljava/lang/Object;[Ljava/lang/Object;I)V" } : Jvm.MethodName) jdk_38_method_24_code (4 : Nat) (Option.none : Option Jvm.ClassFile.FieldType), Jvm.Cond.code ({ cls := "java/util/ArrayList", name := "grow", desc := "()[Ljava/lang/Object;" } : Jvm.MethodName) jdk_38_method_7_code (1 : Nat) (Option.some (Jvm.ClassFile.FieldType.array (Jvm.ClassFile.FieldType.object "java/lang/Object"))), Jvm.Cond.code ({ cls := "java/util/ArrayList", name := "grow", desc := "(I)[Ljava/lang/Object;" } : Jvm.MethodName) jdk_38_method_6_code (4 : Nat) (Option.some (Jvm.ClassFile.FieldType.array (Jvm.ClassFile.FieldType.object "java/lang/Object"))), Jvm.Cond.code ({ cls := "java/lang/Math", name := "max", desc := "(II)I" } : Jvm.MethodName) jdk_29_method_65_code (2 : Nat) (Option.some Jvm.ClassFile.FieldType.int), Jvm.Cond.code ({ cls := "com/example/changeset/changeset/check/FoundState", name := "number", desc := "(I)V" } : Jvm.MethodName) prog_19_method_4_code (2 : Nat) (Option.none : Option Jvm.ClassFile.FieldType), Jvm.Cond.code ({ cls := "com/example/changeset/changeset/check/StateGraphEdgesStartPinLaw", name := "one", desc := "(Z)I" } : Jvm.MethodName) method_2_code (1 : Nat) (Option.some Jvm.ClassFile.FieldType.int), Jvm.Cond.code ({ cls := "com/example/changeset/changeset/check/StateGraph", name := "edgesStart", desc := "(I)I" } : Jvm.MethodName) prog_39_method_7_code (2 : Nat) (Option.some Jvm.ClassFile.FieldType.int), Jvm.Cond.code ({ cls := "com/example/changeset/changeset/check/StateGraph", name := "addEdge", desc := "(III)V" } : Jvm.MethodName) prog_39_method_4_code (4 : Nat) (Option.none : Option Jvm.ClassFile.FieldType)]
set_option maxRecDepth 65536 in
theorem codes_eq : words1.filter isCode = codes1 := rfl
theorem w_codes : ∀ c ∈ words1.filter isCode, c.before args0 about1 = true := by
  rw [codes_eq]
  intro c hc
  simp only [codes1, List.mem_cons, List.not_mem_nil, or_false] at hc
  rcases hc with rfl | rfl | rfl | rfl | rfl | rfl | rfl | rfl | rfl | rfl | rfl | rfl | rfl | rfl | rfl | rfl | rfl | rfl | rfl | rfl | rfl | rfl | rfl
  · exact w_c0
  · exact w_c1
  · exact w_c2
  · exact w_c3
  · exact w_c4
  · exact w_c5
  · exact w_c6
  · exact w_c7
  · exact w_c8
  · exact w_c9
  · exact w_c10
  · exact w_c11
  · exact w_c12
  · exact w_c13
  · exact w_c14
  · exact w_c15
  · exact w_c16
  · exact w_c17
  · exact w_c18
  · exact w_c19
  · exact w_c20
  · exact w_c21
  · exact w_c22
set_option maxRecDepth 65536 in
theorem w_t1 : (words1.take 24).all (fun c => isCode c || c.before args0 about1) = true := by decide +kernel
set_option maxRecDepth 65536 in
theorem w_t2 : ((words1.drop 24).take 24).all (fun c => isCode c || c.before args0 about1) = true := by decide +kernel
set_option maxRecDepth 65536 in
theorem w_t3 : (((words1.drop 24).drop 24).take 24).all (fun c => isCode c || c.before args0 about1) = true := by decide +kernel
set_option maxRecDepth 65536 in
theorem w_t4 : ((((words1.drop 24).drop 24).drop 24).take 24).all (fun c => isCode c || c.before args0 about1) = true := by decide +kernel
set_option maxRecDepth 65536 in
theorem w_t5 : (((((words1.drop 24).drop 24).drop 24).drop 24).take 24).all (fun c => isCode c || c.before args0 about1) = true := by decide +kernel
set_option maxRecDepth 65536 in
theorem w_t6 : ((((((words1.drop 24).drop 24).drop 24).drop 24).drop 24).take 24).all (fun c => isCode c || c.before args0 about1) = true := by decide +kernel
set_option maxRecDepth 65536 in
theorem w_t7 : ((((((words1.drop 24).drop 24).drop 24).drop 24).drop 24).drop 24).all (fun c => isCode c || c.before args0 about1) = true := by decide +kernel
theorem w_tables : (allAtoms (Jvm.Cond.code x code maxLocals ret :: tables_1)).before args0 about1 = true := by
  rw [allAtoms_all]
  show words1.all (fun c => c.before args0 about1) = true
  refine all_split ?_ w_codes
  rw [← List.take_append_drop 24 words1, List.all_append, w_t1, ← List.take_append_drop 24 (words1.drop 24), List.all_append, w_t2, ← List.take_append_drop 24 ((words1.drop 24).drop 24), List.all_append, w_t3, ← List.take_append_drop 24 (((words1.drop 24).drop 24).drop 24), List.all_append, w_t4, ← List.take_append_drop 24 ((((words1.drop 24).drop 24).drop 24).drop 24), List.all_append, w_t5, ← List.take_append_drop 24 (((((words1.drop 24).drop 24).drop 24).drop 24).drop 24), List.all_append, w_t6, w_t7]
  rfl
set_option maxRecDepth 65536 in
theorem w_rest : rest_1_c.before args0 about1 = true := by decide +kernel
set_option maxRecDepth 65536 in
theorem w_case : (Jvm.Cond.and given_1 narrow_1).before args0 about1 = true := by decide +kernel
theorem w_applies : (headSpec (Jvm.Cond.code x code maxLocals ret :: tables_1) room_1).applies x e0.platform about1 = true :=
  (Spec.applies_iff w_frames).mpr ⟨w_running, w_runnable, w_alone, w_named, w_hears, w_ripe, w_room, w_tables⟩
theorem atStart : AtStart classFile x code maxLocals ret World_1 tables_1 room_1 Calls_1 rest_1 Pre_1 launch0 p0 e0 about1 theMethod args0 below0 :=
  ⟨lists_1, trivial, launch0.admits_env _ _ _, launch0.least_env, fairChoices_fair.cas, fairChoices_fair.clock, w_frames, w_args, w_heap, w_applies, trivial, w_rest, w_case⟩
end start1
theorem witness_1 : WitnessClaimed_1 := ⟨start1.p0, start1.e0, start1.about1, start1.theMethod, start1.args0, start1.below0, start1.atStart⟩
end Jvm.Pilot.@@N@@
