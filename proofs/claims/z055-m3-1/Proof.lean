import JvmDerived
import JvmDerived.Pilot.@@N@@Statement
import JvmDerived.Pilot.@@N@@Code
@@BLOCK:NumsL.lean.txt@@
set_option linter.unusedVariables false
set_option linter.unusedSimpArgs false
namespace Jvm.RoadKit
open Sem ClassFile Op Lib Jvm.Stand Jvm.Free Jvm.LawKit
section New
variable {p : Program} {l : Launch} {e : Env} {R : Room} {s : State} {m : MethodId} {args : Array Value} {below : List Frame} {meth : Method} {c : Code} {T : State} {locs : List Loc} {cells slots : Nat}
theorem retI (X : Stand p l e R s m args below meth c T locs cells slots) (hx : p.tables.exec = Jvm.exec) {pc : Nat} {Ls : Array Slot} {z : Int32} {rest : List Value} (hret : meth.sig.returnType = some .int) (hd : decode c.code pc = .ok (.ireturn, 1)) {fs : List Frame}
    (hl : ∀ (f : JFrame) (acts : List Action), f.method = m → f.locked = none → f.entered = [] → (doReturn e (T.setTop f) acts (some (.int z))).1 = T.setFrames fs) : Steps p.tables e below (T.setTop (mkF m pc Ls (.int z :: rest))) (T.setFrames fs) := by
  have hm' : T.vm.method? m = some meth := X.method'
  have hn : narrow .int (.int z) = .int z := rfl
  show Steps p.tables e below (T.setTop { method := m, pc := pc, locals := Ls, stack := _ :: rest, locked := none }) _
  jvm_step X.here [X.here.top, hx, hd, hm', hret, hn]
  first | (intro acts; rw [hl _ acts rfl rfl rfl]) | rw [hl _ _ rfl rfl rfl]
  exact Steps.refl _
end New
end Jvm.RoadKit
namespace Jvm.Pilot.@@N@@
open Jvm Jvm.ClassFile Sem Op Lib Jvm.Free Jvm.Stand Jvm.LawKit Jvm.RoadKit Bundle Jvm.Pilot.@@N@@.Jvm.D
/-- what a body leaves that writes nothing: the value r, and the heap as it was -/
def PQ (r : Value) (h0 : Heap) (n0 : Nat) (v : Option Value) (h : Heap) (L : List Loc) : Prop := v = some r ∧ Fr n0 L ∧ h = h0
abbrev PaysQ (l : Launch) (Z : State) (h0 : Heap) (y : MethodName) (ws : List Jvm.Cond) (rm : Room) (as : Array Value) (Q : Option Value → Heap → List Loc → Prop) : Prop :=
  MetFree l y (head1 ws rm) (fun a U => a = as ∧ Z.Warmed39 U.vm ∧ U.heap = h0) (fun _ _ _ _ _ => True) (fun _ U o U' => ∃ v L, o = .returned v ∧ Q v U'.heap L ∧ FrameEnd U o U' L rm.cells rm.slots)
abbrev Pays (l : Launch) (Z : State) (h0 : Heap) (n0 : Nat) (y : MethodName) (ws : List Jvm.Cond) (rm : Room) (as : Array Value) (r : Value) : Prop :=
  MetFree l y (head1 ws rm) (fun a U => a = as ∧ Z.Warmed39 U.vm ∧ U.heap = h0) (fun _ _ _ _ _ => True) (fun _ U o U' => ∃ v L, o = .returned v ∧ PQ r h0 n0 v U'.heap L ∧ FrameEnd U o U' L rm.cells rm.slots)
abbrev R0 : Room := { frames := 0, cells := 0, slots := 0, locals := 0 }
theorem own_eqi {args : Array Value} {first s : State} {o : Option Outcome} {idx : List Nat} {t : Term} {z : Int32} (h : (Jvm.Cond.eq t (.int z)).value args first o s idx = some true) : t.eval args first o idx s = some (.int z) := by
  simp only [Cond.value, Term.eval] at h; cases ht : t.eval args first o idx s with | none => simp [ht] at h | some x => cases x <;> simp [ht] at h ⊢; exact h
theorem own_eql {args : Array Value} {first s : State} {o : Option Outcome} {idx : List Nat} {t : Term} {z : Int64} (h : (Jvm.Cond.eq t (.long z)).value args first o s idx = some true) : t.eval args first o idx s = some (.long z) := by
  simp only [Cond.value, Term.eval] at h; cases ht : t.eval args first o idx s with | none => simp [ht] at h | some x => cases x <;> simp [ht] at h ⊢; exact h

theorem own_mod (k : Int32) : (k &&& (2147483647 : Int32)) % (3 : Int32) = (0 : Int32) ∨ (k &&& (2147483647 : Int32)) % (3 : Int32) = (1 : Int32) ∨ (k &&& (2147483647 : Int32)) % (3 : Int32) = (2 : Int32) := by
  have h1 := Jvm.Kit.i32_mask k (2147483647 : Int32) (k := 31) (by decide) (by decide)
  have h2 := Jvm.Kit.i32_rem_nonneg (x := k &&& (2147483647 : Int32)) (y := (3 : Int32)) (by rw [h1]; exact Int.emod_nonneg _ (by decide))
  have en : ((3 : Int32)).toInt = 3 := by decide
  rw [en] at h2
  have e0 : ((0 : Int32)).toInt = 0 := by decide
  have e1 : ((1 : Int32)).toInt = 1 := by decide
  have e2 : ((2 : Int32)).toInt = 2 := by decide
  simp only [← Int32.toInt_inj, e0, e1, e2]
  omega

theorem d1_0 : decode method_2_code 0 = .ok (.iload_n 0, 1) := by decide +kernel
theorem d1_1 : decode method_2_code 1 = .ok (.ifCond .ne 7, 3) := by decide +kernel
theorem d1_4 : decode method_2_code 4 = .ok (.getstatic 7, 3) := by decide +kernel
theorem d1_7 : decode method_2_code 7 = .ok (.areturn, 1) := by decide +kernel
theorem pn_TruthAndPinLaw : plainName "com/example/kascade/kascade/engine/TruthAndPinLaw" = true := by first | (simp [plainName, overriddenIn]; done) | decide +kernel
theorem ef_1 (m : MethodId) (x0 : Int32) : entryFrame m #[(.int x0)] 1 = mkF m 0 #[.val (.int x0)] [] := by first | (simp [entryFrame, mkF, argsToLocals, Value.category]; done) | rfl
set_option maxRecDepth 65536 in
set_option maxHeartbeats 40000000 in
theorem pick_0 (l : Launch) (Z : State) (a0 : Array Value) (hw : ∀ d ∈ tables_1, d.before a0 Z = true) (w : Addr) (h0 : Heap) (n0 : Nat) (Z0 : n0 ≤ h0.size) (S_FALSE : Sta Z h0 "com/example/kascade/kascade/engine/Truth" "FALSE" "Lcom/example/kascade/kascade/engine/Truth;" (.ref w)) :
    Pays l Z h0 n0 (⟨"com/example/kascade/kascade/engine/TruthAndPinLaw", "pick", "(I)Lcom/example/kascade/kascade/engine/Truth;"⟩ : MethodName) [Jvm.Cond.code (⟨"com/example/kascade/kascade/engine/TruthAndPinLaw", "pick", "(I)Lcom/example/kascade/kascade/engine/Truth;"⟩ : MethodName) method_2_code 1 (some (.object "com/example/kascade/kascade/engine/Truth"))] R0 #[(.int (0 : Int32))] (.ref w) := by
  refine MetFree.of_bodySF (plainFor_of_name pn_TruthAndPinLaw) hisR ?_
  intro p e s m args below meth c s₁ Bd hml0 hP hK
  obtain ⟨rfl, hZ, hh⟩ := hP
  have hx := Bd.exec
  have hby := Bd.bytes
  have hml : c.maxLocals = 1 := hml0
  have hown : s.vm.findClass "com/example/kascade/kascade/engine/TruthAndPinLaw" = some m.cls := findClass_of_methodNamed Bd.named
  have X0 : Stand p l e R0 s m #[(.int (0 : Int32))] below meth c s₁ [] 0 0 := Stand.of_body Bd
  have e0 : s₁.heap = h0 := by rw [← hh, Bd.state]; rfl
  have N0 := Fr.nil n0
  have pre0 : ∀ t, Steps p.tables e below (s₁.setTop (mkF m 0 #[.val (.int (0 : Int32))] [])) t → Steps p.tables e below (s₁.setTop (entryFrame m #[(.int (0 : Int32))] 1)) t := fun t k => castTop (ef_1 m (0 : Int32)) k
  obtain ⟨T1, X1, e1, st1⟩ := getS2 X0 hx hZ hown (host := "") (Or.inl (hw _ (List.mem_of_getElem? (i := 5) rfl))) Via.refl e0 S_FALSE (g := (mkF m 4 #[.val (.int (0 : Int32))] [])) rfl (hb hby d1_4)
  obtain ⟨fs, hr, hrun, hended, hW, hsame⟩ := X1.leave (v := some (.ref w)) (fun h => by rw [Bd.returns] at h; cases h)
  refine ⟨_, _, pre0 _ ?_, hrun, hended, _, _, rfl, ?_, ⟨_, rfl⟩, hW, hsame.mono (by decide) (by decide)⟩
  · show Steps p.tables e below (s₁.setTop (mkF m 0 #[.val (.int (0 : Int32))] [])) _
    refine XS.iloadN X0.here hx rfl (hb hby d1_0) rfl ?_
    show Steps p.tables e below (s₁.setTop (mkF m 1 #[.val (.int (0 : Int32))] [(.int (0 : Int32))])) _
    refine XS.ifNo X0.here hx rfl (hb hby d1_1) rfl (by decide) ?_
    show Steps p.tables e below (s₁.setTop (mkF m 4 #[.val (.int (0 : Int32))] [])) _
    refine st1 _ ?_
    show Steps p.tables e below (T1.setTop (mkF m 7 #[.val (.int (0 : Int32))] [(.ref w)])) _
    jvm_step X1.here [X1.here.top, hx, (hb hby d1_7), X1.method', Bd.returns, Value.isRef, FieldType.isReference]
    first | (intro acts; rw [hr _ acts rfl rfl rfl]) | rw [hr _ _ rfl rfl rfl]
    exact Steps.refl _
  · show PQ (.ref w) h0 n0 _ T1.heap _
    exact ⟨rfl, N0, e1⟩

theorem d1_8 : decode method_2_code 8 = .ok (.iload_n 0, 1) := by decide +kernel
theorem d1_9 : decode method_2_code 9 = .ok (.iconst 1, 1) := by decide +kernel
theorem d1_10 : decode method_2_code 10 = .ok (.if_icmp .ne 7, 3) := by decide +kernel
theorem d1_13 : decode method_2_code 13 = .ok (.getstatic 13, 3) := by decide +kernel
theorem d1_16 : decode method_2_code 16 = .ok (.areturn, 1) := by decide +kernel
set_option maxRecDepth 65536 in
set_option maxHeartbeats 40000000 in
theorem pick_1 (l : Launch) (Z : State) (a0 : Array Value) (hw : ∀ d ∈ tables_1, d.before a0 Z = true) (w : Addr) (h0 : Heap) (n0 : Nat) (Z0 : n0 ≤ h0.size) (S_UNKNOWN : Sta Z h0 "com/example/kascade/kascade/engine/Truth" "UNKNOWN" "Lcom/example/kascade/kascade/engine/Truth;" (.ref w)) :
    Pays l Z h0 n0 (⟨"com/example/kascade/kascade/engine/TruthAndPinLaw", "pick", "(I)Lcom/example/kascade/kascade/engine/Truth;"⟩ : MethodName) [Jvm.Cond.code (⟨"com/example/kascade/kascade/engine/TruthAndPinLaw", "pick", "(I)Lcom/example/kascade/kascade/engine/Truth;"⟩ : MethodName) method_2_code 1 (some (.object "com/example/kascade/kascade/engine/Truth"))] R0 #[(.int (1 : Int32))] (.ref w) := by
  refine MetFree.of_bodySF (plainFor_of_name pn_TruthAndPinLaw) hisR ?_
  intro p e s m args below meth c s₁ Bd hml0 hP hK
  obtain ⟨rfl, hZ, hh⟩ := hP
  have hx := Bd.exec
  have hby := Bd.bytes
  have hml : c.maxLocals = 1 := hml0
  have hown : s.vm.findClass "com/example/kascade/kascade/engine/TruthAndPinLaw" = some m.cls := findClass_of_methodNamed Bd.named
  have X0 : Stand p l e R0 s m #[(.int (1 : Int32))] below meth c s₁ [] 0 0 := Stand.of_body Bd
  have e0 : s₁.heap = h0 := by rw [← hh, Bd.state]; rfl
  have N0 := Fr.nil n0
  have pre0 : ∀ t, Steps p.tables e below (s₁.setTop (mkF m 0 #[.val (.int (1 : Int32))] [])) t → Steps p.tables e below (s₁.setTop (entryFrame m #[(.int (1 : Int32))] 1)) t := fun t k => castTop (ef_1 m (1 : Int32)) k
  obtain ⟨T1, X1, e1, st1⟩ := getS2 X0 hx hZ hown (host := "") (Or.inl (hw _ (List.mem_of_getElem? (i := 20) rfl))) Via.refl e0 S_UNKNOWN (g := (mkF m 13 #[.val (.int (1 : Int32))] [])) rfl (hb hby d1_13)
  obtain ⟨fs, hr, hrun, hended, hW, hsame⟩ := X1.leave (v := some (.ref w)) (fun h => by rw [Bd.returns] at h; cases h)
  refine ⟨_, _, pre0 _ ?_, hrun, hended, _, _, rfl, ?_, ⟨_, rfl⟩, hW, hsame.mono (by decide) (by decide)⟩
  · show Steps p.tables e below (s₁.setTop (mkF m 0 #[.val (.int (1 : Int32))] [])) _
    refine XS.iloadN X0.here hx rfl (hb hby d1_0) rfl ?_
    show Steps p.tables e below (s₁.setTop (mkF m 1 #[.val (.int (1 : Int32))] [(.int (1 : Int32))])) _
    refine XS.ifYes X0.here hx rfl (pc0 := 1) (pc' := 8) rfl (hb hby d1_1) rfl (by decide) (by decide) (by decide) ?_
    show Steps p.tables e below (s₁.setTop (mkF m 8 #[.val (.int (1 : Int32))] [])) _
    refine XS.iloadN X0.here hx rfl (hb hby d1_8) rfl ?_
    show Steps p.tables e below (s₁.setTop (mkF m 9 #[.val (.int (1 : Int32))] [(.int (1 : Int32))])) _
    refine XS.iconst X0.here hx rfl (hb hby d1_9) ?_
    show Steps p.tables e below (s₁.setTop (mkF m 10 #[.val (.int (1 : Int32))] [(.int (1 : Int32)), (.int (1 : Int32))])) _
    refine XS.icmpNo X0.here hx rfl (hb hby d1_10) rfl (by decide) ?_
    show Steps p.tables e below (s₁.setTop (mkF m 13 #[.val (.int (1 : Int32))] [])) _
    refine st1 _ ?_
    show Steps p.tables e below (T1.setTop (mkF m 16 #[.val (.int (1 : Int32))] [(.ref w)])) _
    jvm_step X1.here [X1.here.top, hx, (hb hby d1_16), X1.method', Bd.returns, Value.isRef, FieldType.isReference]
    first | (intro acts; rw [hr _ acts rfl rfl rfl]) | rw [hr _ _ rfl rfl rfl]
    exact Steps.refl _
  · show PQ (.ref w) h0 n0 _ T1.heap _
    exact ⟨rfl, N0, e1⟩

theorem d1_17 : decode method_2_code 17 = .ok (.getstatic 16, 3) := by decide +kernel
theorem d1_20 : decode method_2_code 20 = .ok (.areturn, 1) := by decide +kernel
set_option maxRecDepth 65536 in
set_option maxHeartbeats 40000000 in
theorem pick_2 (l : Launch) (Z : State) (a0 : Array Value) (hw : ∀ d ∈ tables_1, d.before a0 Z = true) (w : Addr) (h0 : Heap) (n0 : Nat) (Z0 : n0 ≤ h0.size) (S_TRUE : Sta Z h0 "com/example/kascade/kascade/engine/Truth" "TRUE" "Lcom/example/kascade/kascade/engine/Truth;" (.ref w)) :
    Pays l Z h0 n0 (⟨"com/example/kascade/kascade/engine/TruthAndPinLaw", "pick", "(I)Lcom/example/kascade/kascade/engine/Truth;"⟩ : MethodName) [Jvm.Cond.code (⟨"com/example/kascade/kascade/engine/TruthAndPinLaw", "pick", "(I)Lcom/example/kascade/kascade/engine/Truth;"⟩ : MethodName) method_2_code 1 (some (.object "com/example/kascade/kascade/engine/Truth"))] R0 #[(.int (2 : Int32))] (.ref w) := by
  refine MetFree.of_bodySF (plainFor_of_name pn_TruthAndPinLaw) hisR ?_
  intro p e s m args below meth c s₁ Bd hml0 hP hK
  obtain ⟨rfl, hZ, hh⟩ := hP
  have hx := Bd.exec
  have hby := Bd.bytes
  have hml : c.maxLocals = 1 := hml0
  have hown : s.vm.findClass "com/example/kascade/kascade/engine/TruthAndPinLaw" = some m.cls := findClass_of_methodNamed Bd.named
  have X0 : Stand p l e R0 s m #[(.int (2 : Int32))] below meth c s₁ [] 0 0 := Stand.of_body Bd
  have e0 : s₁.heap = h0 := by rw [← hh, Bd.state]; rfl
  have N0 := Fr.nil n0
  have pre0 : ∀ t, Steps p.tables e below (s₁.setTop (mkF m 0 #[.val (.int (2 : Int32))] [])) t → Steps p.tables e below (s₁.setTop (entryFrame m #[(.int (2 : Int32))] 1)) t := fun t k => castTop (ef_1 m (2 : Int32)) k
  obtain ⟨T1, X1, e1, st1⟩ := getS2 X0 hx hZ hown (host := "") (Or.inl (hw _ (List.mem_of_getElem? (i := 18) rfl))) Via.refl e0 S_TRUE (g := (mkF m 17 #[.val (.int (2 : Int32))] [])) rfl (hb hby d1_17)
  obtain ⟨fs, hr, hrun, hended, hW, hsame⟩ := X1.leave (v := some (.ref w)) (fun h => by rw [Bd.returns] at h; cases h)
  refine ⟨_, _, pre0 _ ?_, hrun, hended, _, _, rfl, ?_, ⟨_, rfl⟩, hW, hsame.mono (by decide) (by decide)⟩
  · show Steps p.tables e below (s₁.setTop (mkF m 0 #[.val (.int (2 : Int32))] [])) _
    refine XS.iloadN X0.here hx rfl (hb hby d1_0) rfl ?_
    show Steps p.tables e below (s₁.setTop (mkF m 1 #[.val (.int (2 : Int32))] [(.int (2 : Int32))])) _
    refine XS.ifYes X0.here hx rfl (pc0 := 1) (pc' := 8) rfl (hb hby d1_1) rfl (by decide) (by decide) (by decide) ?_
    show Steps p.tables e below (s₁.setTop (mkF m 8 #[.val (.int (2 : Int32))] [])) _
    refine XS.iloadN X0.here hx rfl (hb hby d1_8) rfl ?_
    show Steps p.tables e below (s₁.setTop (mkF m 9 #[.val (.int (2 : Int32))] [(.int (2 : Int32))])) _
    refine XS.iconst X0.here hx rfl (hb hby d1_9) ?_
    show Steps p.tables e below (s₁.setTop (mkF m 10 #[.val (.int (2 : Int32))] [(.int (1 : Int32)), (.int (2 : Int32))])) _
    refine XS.icmpYes X0.here hx rfl (pc0 := 10) (pc' := 17) rfl (hb hby d1_10) rfl (by decide) (by decide) (by decide) ?_
    show Steps p.tables e below (s₁.setTop (mkF m 17 #[.val (.int (2 : Int32))] [])) _
    refine st1 _ ?_
    show Steps p.tables e below (T1.setTop (mkF m 20 #[.val (.int (2 : Int32))] [(.ref w)])) _
    jvm_step X1.here [X1.here.top, hx, (hb hby d1_20), X1.method', Bd.returns, Value.isRef, FieldType.isReference]
    first | (intro acts; rw [hr _ acts rfl rfl rfl]) | rw [hr _ _ rfl rfl rfl]
    exact Steps.refl _
  · show PQ (.ref w) h0 n0 _ T1.heap _
    exact ⟨rfl, N0, e1⟩

theorem d2_0 : decode jdk_29_method_69_code 0 = .ok (.iload_n 0, 1) := by decide +kernel
theorem d2_1 : decode jdk_29_method_69_code 1 = .ok (.iload_n 1, 1) := by decide +kernel
theorem d2_2 : decode jdk_29_method_69_code 2 = .ok (.if_icmp .gt 7, 3) := by decide +kernel
theorem d2_5 : decode jdk_29_method_69_code 5 = .ok (.iload_n 0, 1) := by decide +kernel
theorem d2_6 : decode jdk_29_method_69_code 6 = .ok (.goto 4, 3) := by decide +kernel
theorem d2_10 : decode jdk_29_method_69_code 10 = .ok (.ireturn, 1) := by decide +kernel
theorem ef_2 (m : MethodId) (x0 : Int32) (x1 : Int32) : entryFrame m #[(.int x0), (.int x1)] 2 = mkF m 0 #[.val (.int x0), .val (.int x1)] [] := by first | (simp [entryFrame, mkF, argsToLocals, Value.category]; done) | rfl
set_option maxRecDepth 65536 in
set_option maxHeartbeats 40000000 in
theorem min_0_0 (l : Launch) (Z : State) (a0 : Array Value) (hw : ∀ d ∈ tables_1, d.before a0 Z = true)  (h0 : Heap) (n0 : Nat) (Z0 : n0 ≤ h0.size)  :
    Pays l Z h0 n0 (⟨"java/lang/Math", "min", "(II)I"⟩ : MethodName) [Jvm.Cond.code (⟨"java/lang/Math", "min", "(II)I"⟩ : MethodName) jdk_29_method_69_code 2 (some .int)] R0 #[(.int (0 : Int32)), (.int (0 : Int32))] (.int (0 : Int32)) := by
  refine MetFree.of_bodySF (Jvm.Free.JP.mathPlain rfl (by decide +kernel)) hisR ?_
  intro p e s m args below meth c s₁ Bd hml0 hP hK
  obtain ⟨rfl, hZ, hh⟩ := hP
  have hx := Bd.exec
  have hby := Bd.bytes
  have hml : c.maxLocals = 2 := hml0
  have hown : s.vm.findClass "java/lang/Math" = some m.cls := findClass_of_methodNamed Bd.named
  have X0 : Stand p l e R0 s m #[(.int (0 : Int32)), (.int (0 : Int32))] below meth c s₁ [] 0 0 := Stand.of_body Bd
  have e0 : s₁.heap = h0 := by rw [← hh, Bd.state]; rfl
  have N0 := Fr.nil n0
  have pre0 : ∀ t, Steps p.tables e below (s₁.setTop (mkF m 0 #[.val (.int (0 : Int32)), .val (.int (0 : Int32))] [])) t → Steps p.tables e below (s₁.setTop (entryFrame m #[(.int (0 : Int32)), (.int (0 : Int32))] 2)) t := fun t k => castTop (ef_2 m (0 : Int32) (0 : Int32)) k
  obtain ⟨fs, hr, hrun, hended, hW, hsame⟩ := X0.leave (v := some (.int (0 : Int32))) (fun h => by rw [Bd.returns] at h; cases h)
  refine ⟨_, _, pre0 _ ?_, hrun, hended, _, _, rfl, ?_, ⟨_, rfl⟩, hW, hsame.mono (by decide) (by decide)⟩
  · show Steps p.tables e below (s₁.setTop (mkF m 0 #[.val (.int (0 : Int32)), .val (.int (0 : Int32))] [])) _
    refine XS.iloadN X0.here hx rfl (hb hby d2_0) rfl ?_
    show Steps p.tables e below (s₁.setTop (mkF m 1 #[.val (.int (0 : Int32)), .val (.int (0 : Int32))] [(.int (0 : Int32))])) _
    refine XS.iloadN X0.here hx rfl (hb hby d2_1) rfl ?_
    show Steps p.tables e below (s₁.setTop (mkF m 2 #[.val (.int (0 : Int32)), .val (.int (0 : Int32))] [(.int (0 : Int32)), (.int (0 : Int32))])) _
    refine XS.icmpNo X0.here hx rfl (hb hby d2_2) rfl (by decide) ?_
    show Steps p.tables e below (s₁.setTop (mkF m 5 #[.val (.int (0 : Int32)), .val (.int (0 : Int32))] [])) _
    refine XS.iloadN X0.here hx rfl (hb hby d2_5) rfl ?_
    show Steps p.tables e below (s₁.setTop (mkF m 6 #[.val (.int (0 : Int32)), .val (.int (0 : Int32))] [(.int (0 : Int32))])) _
    refine XS.goto X0.here hx rfl (pc0 := 6) (pc' := 10) rfl (hb hby d2_6) (by decide) (by decide) ?_
    show Steps p.tables e below (s₁.setTop (mkF m 10 #[.val (.int (0 : Int32)), .val (.int (0 : Int32))] [(.int (0 : Int32))])) _
    exact retI X0 hx Bd.returns (hb hby d2_10) hr
  · show PQ (.int (0 : Int32)) h0 n0 _ s₁.heap _
    exact ⟨rfl, N0, e0⟩

set_option maxRecDepth 65536 in
set_option maxHeartbeats 40000000 in
theorem min_0_1 (l : Launch) (Z : State) (a0 : Array Value) (hw : ∀ d ∈ tables_1, d.before a0 Z = true)  (h0 : Heap) (n0 : Nat) (Z0 : n0 ≤ h0.size)  :
    Pays l Z h0 n0 (⟨"java/lang/Math", "min", "(II)I"⟩ : MethodName) [Jvm.Cond.code (⟨"java/lang/Math", "min", "(II)I"⟩ : MethodName) jdk_29_method_69_code 2 (some .int)] R0 #[(.int (0 : Int32)), (.int (1 : Int32))] (.int (0 : Int32)) := by
  refine MetFree.of_bodySF (Jvm.Free.JP.mathPlain rfl (by decide +kernel)) hisR ?_
  intro p e s m args below meth c s₁ Bd hml0 hP hK
  obtain ⟨rfl, hZ, hh⟩ := hP
  have hx := Bd.exec
  have hby := Bd.bytes
  have hml : c.maxLocals = 2 := hml0
  have hown : s.vm.findClass "java/lang/Math" = some m.cls := findClass_of_methodNamed Bd.named
  have X0 : Stand p l e R0 s m #[(.int (0 : Int32)), (.int (1 : Int32))] below meth c s₁ [] 0 0 := Stand.of_body Bd
  have e0 : s₁.heap = h0 := by rw [← hh, Bd.state]; rfl
  have N0 := Fr.nil n0
  have pre0 : ∀ t, Steps p.tables e below (s₁.setTop (mkF m 0 #[.val (.int (0 : Int32)), .val (.int (1 : Int32))] [])) t → Steps p.tables e below (s₁.setTop (entryFrame m #[(.int (0 : Int32)), (.int (1 : Int32))] 2)) t := fun t k => castTop (ef_2 m (0 : Int32) (1 : Int32)) k
  obtain ⟨fs, hr, hrun, hended, hW, hsame⟩ := X0.leave (v := some (.int (0 : Int32))) (fun h => by rw [Bd.returns] at h; cases h)
  refine ⟨_, _, pre0 _ ?_, hrun, hended, _, _, rfl, ?_, ⟨_, rfl⟩, hW, hsame.mono (by decide) (by decide)⟩
  · show Steps p.tables e below (s₁.setTop (mkF m 0 #[.val (.int (0 : Int32)), .val (.int (1 : Int32))] [])) _
    refine XS.iloadN X0.here hx rfl (hb hby d2_0) rfl ?_
    show Steps p.tables e below (s₁.setTop (mkF m 1 #[.val (.int (0 : Int32)), .val (.int (1 : Int32))] [(.int (0 : Int32))])) _
    refine XS.iloadN X0.here hx rfl (hb hby d2_1) rfl ?_
    show Steps p.tables e below (s₁.setTop (mkF m 2 #[.val (.int (0 : Int32)), .val (.int (1 : Int32))] [(.int (1 : Int32)), (.int (0 : Int32))])) _
    refine XS.icmpNo X0.here hx rfl (hb hby d2_2) rfl (by decide) ?_
    show Steps p.tables e below (s₁.setTop (mkF m 5 #[.val (.int (0 : Int32)), .val (.int (1 : Int32))] [])) _
    refine XS.iloadN X0.here hx rfl (hb hby d2_5) rfl ?_
    show Steps p.tables e below (s₁.setTop (mkF m 6 #[.val (.int (0 : Int32)), .val (.int (1 : Int32))] [(.int (0 : Int32))])) _
    refine XS.goto X0.here hx rfl (pc0 := 6) (pc' := 10) rfl (hb hby d2_6) (by decide) (by decide) ?_
    show Steps p.tables e below (s₁.setTop (mkF m 10 #[.val (.int (0 : Int32)), .val (.int (1 : Int32))] [(.int (0 : Int32))])) _
    exact retI X0 hx Bd.returns (hb hby d2_10) hr
  · show PQ (.int (0 : Int32)) h0 n0 _ s₁.heap _
    exact ⟨rfl, N0, e0⟩

set_option maxRecDepth 65536 in
set_option maxHeartbeats 40000000 in
theorem min_0_2 (l : Launch) (Z : State) (a0 : Array Value) (hw : ∀ d ∈ tables_1, d.before a0 Z = true)  (h0 : Heap) (n0 : Nat) (Z0 : n0 ≤ h0.size)  :
    Pays l Z h0 n0 (⟨"java/lang/Math", "min", "(II)I"⟩ : MethodName) [Jvm.Cond.code (⟨"java/lang/Math", "min", "(II)I"⟩ : MethodName) jdk_29_method_69_code 2 (some .int)] R0 #[(.int (0 : Int32)), (.int (2 : Int32))] (.int (0 : Int32)) := by
  refine MetFree.of_bodySF (Jvm.Free.JP.mathPlain rfl (by decide +kernel)) hisR ?_
  intro p e s m args below meth c s₁ Bd hml0 hP hK
  obtain ⟨rfl, hZ, hh⟩ := hP
  have hx := Bd.exec
  have hby := Bd.bytes
  have hml : c.maxLocals = 2 := hml0
  have hown : s.vm.findClass "java/lang/Math" = some m.cls := findClass_of_methodNamed Bd.named
  have X0 : Stand p l e R0 s m #[(.int (0 : Int32)), (.int (2 : Int32))] below meth c s₁ [] 0 0 := Stand.of_body Bd
  have e0 : s₁.heap = h0 := by rw [← hh, Bd.state]; rfl
  have N0 := Fr.nil n0
  have pre0 : ∀ t, Steps p.tables e below (s₁.setTop (mkF m 0 #[.val (.int (0 : Int32)), .val (.int (2 : Int32))] [])) t → Steps p.tables e below (s₁.setTop (entryFrame m #[(.int (0 : Int32)), (.int (2 : Int32))] 2)) t := fun t k => castTop (ef_2 m (0 : Int32) (2 : Int32)) k
  obtain ⟨fs, hr, hrun, hended, hW, hsame⟩ := X0.leave (v := some (.int (0 : Int32))) (fun h => by rw [Bd.returns] at h; cases h)
  refine ⟨_, _, pre0 _ ?_, hrun, hended, _, _, rfl, ?_, ⟨_, rfl⟩, hW, hsame.mono (by decide) (by decide)⟩
  · show Steps p.tables e below (s₁.setTop (mkF m 0 #[.val (.int (0 : Int32)), .val (.int (2 : Int32))] [])) _
    refine XS.iloadN X0.here hx rfl (hb hby d2_0) rfl ?_
    show Steps p.tables e below (s₁.setTop (mkF m 1 #[.val (.int (0 : Int32)), .val (.int (2 : Int32))] [(.int (0 : Int32))])) _
    refine XS.iloadN X0.here hx rfl (hb hby d2_1) rfl ?_
    show Steps p.tables e below (s₁.setTop (mkF m 2 #[.val (.int (0 : Int32)), .val (.int (2 : Int32))] [(.int (2 : Int32)), (.int (0 : Int32))])) _
    refine XS.icmpNo X0.here hx rfl (hb hby d2_2) rfl (by decide) ?_
    show Steps p.tables e below (s₁.setTop (mkF m 5 #[.val (.int (0 : Int32)), .val (.int (2 : Int32))] [])) _
    refine XS.iloadN X0.here hx rfl (hb hby d2_5) rfl ?_
    show Steps p.tables e below (s₁.setTop (mkF m 6 #[.val (.int (0 : Int32)), .val (.int (2 : Int32))] [(.int (0 : Int32))])) _
    refine XS.goto X0.here hx rfl (pc0 := 6) (pc' := 10) rfl (hb hby d2_6) (by decide) (by decide) ?_
    show Steps p.tables e below (s₁.setTop (mkF m 10 #[.val (.int (0 : Int32)), .val (.int (2 : Int32))] [(.int (0 : Int32))])) _
    exact retI X0 hx Bd.returns (hb hby d2_10) hr
  · show PQ (.int (0 : Int32)) h0 n0 _ s₁.heap _
    exact ⟨rfl, N0, e0⟩

theorem d2_9 : decode jdk_29_method_69_code 9 = .ok (.iload_n 1, 1) := by decide +kernel
set_option maxRecDepth 65536 in
set_option maxHeartbeats 40000000 in
theorem min_1_0 (l : Launch) (Z : State) (a0 : Array Value) (hw : ∀ d ∈ tables_1, d.before a0 Z = true)  (h0 : Heap) (n0 : Nat) (Z0 : n0 ≤ h0.size)  :
    Pays l Z h0 n0 (⟨"java/lang/Math", "min", "(II)I"⟩ : MethodName) [Jvm.Cond.code (⟨"java/lang/Math", "min", "(II)I"⟩ : MethodName) jdk_29_method_69_code 2 (some .int)] R0 #[(.int (1 : Int32)), (.int (0 : Int32))] (.int (0 : Int32)) := by
  refine MetFree.of_bodySF (Jvm.Free.JP.mathPlain rfl (by decide +kernel)) hisR ?_
  intro p e s m args below meth c s₁ Bd hml0 hP hK
  obtain ⟨rfl, hZ, hh⟩ := hP
  have hx := Bd.exec
  have hby := Bd.bytes
  have hml : c.maxLocals = 2 := hml0
  have hown : s.vm.findClass "java/lang/Math" = some m.cls := findClass_of_methodNamed Bd.named
  have X0 : Stand p l e R0 s m #[(.int (1 : Int32)), (.int (0 : Int32))] below meth c s₁ [] 0 0 := Stand.of_body Bd
  have e0 : s₁.heap = h0 := by rw [← hh, Bd.state]; rfl
  have N0 := Fr.nil n0
  have pre0 : ∀ t, Steps p.tables e below (s₁.setTop (mkF m 0 #[.val (.int (1 : Int32)), .val (.int (0 : Int32))] [])) t → Steps p.tables e below (s₁.setTop (entryFrame m #[(.int (1 : Int32)), (.int (0 : Int32))] 2)) t := fun t k => castTop (ef_2 m (1 : Int32) (0 : Int32)) k
  obtain ⟨fs, hr, hrun, hended, hW, hsame⟩ := X0.leave (v := some (.int (0 : Int32))) (fun h => by rw [Bd.returns] at h; cases h)
  refine ⟨_, _, pre0 _ ?_, hrun, hended, _, _, rfl, ?_, ⟨_, rfl⟩, hW, hsame.mono (by decide) (by decide)⟩
  · show Steps p.tables e below (s₁.setTop (mkF m 0 #[.val (.int (1 : Int32)), .val (.int (0 : Int32))] [])) _
    refine XS.iloadN X0.here hx rfl (hb hby d2_0) rfl ?_
    show Steps p.tables e below (s₁.setTop (mkF m 1 #[.val (.int (1 : Int32)), .val (.int (0 : Int32))] [(.int (1 : Int32))])) _
    refine XS.iloadN X0.here hx rfl (hb hby d2_1) rfl ?_
    show Steps p.tables e below (s₁.setTop (mkF m 2 #[.val (.int (1 : Int32)), .val (.int (0 : Int32))] [(.int (0 : Int32)), (.int (1 : Int32))])) _
    refine XS.icmpYes X0.here hx rfl (pc0 := 2) (pc' := 9) rfl (hb hby d2_2) rfl (by decide) (by decide) (by decide) ?_
    show Steps p.tables e below (s₁.setTop (mkF m 9 #[.val (.int (1 : Int32)), .val (.int (0 : Int32))] [])) _
    refine XS.iloadN X0.here hx rfl (hb hby d2_9) rfl ?_
    show Steps p.tables e below (s₁.setTop (mkF m 10 #[.val (.int (1 : Int32)), .val (.int (0 : Int32))] [(.int (0 : Int32))])) _
    exact retI X0 hx Bd.returns (hb hby d2_10) hr
  · show PQ (.int (0 : Int32)) h0 n0 _ s₁.heap _
    exact ⟨rfl, N0, e0⟩

set_option maxRecDepth 65536 in
set_option maxHeartbeats 40000000 in
theorem min_1_1 (l : Launch) (Z : State) (a0 : Array Value) (hw : ∀ d ∈ tables_1, d.before a0 Z = true)  (h0 : Heap) (n0 : Nat) (Z0 : n0 ≤ h0.size)  :
    Pays l Z h0 n0 (⟨"java/lang/Math", "min", "(II)I"⟩ : MethodName) [Jvm.Cond.code (⟨"java/lang/Math", "min", "(II)I"⟩ : MethodName) jdk_29_method_69_code 2 (some .int)] R0 #[(.int (1 : Int32)), (.int (1 : Int32))] (.int (1 : Int32)) := by
  refine MetFree.of_bodySF (Jvm.Free.JP.mathPlain rfl (by decide +kernel)) hisR ?_
  intro p e s m args below meth c s₁ Bd hml0 hP hK
  obtain ⟨rfl, hZ, hh⟩ := hP
  have hx := Bd.exec
  have hby := Bd.bytes
  have hml : c.maxLocals = 2 := hml0
  have hown : s.vm.findClass "java/lang/Math" = some m.cls := findClass_of_methodNamed Bd.named
  have X0 : Stand p l e R0 s m #[(.int (1 : Int32)), (.int (1 : Int32))] below meth c s₁ [] 0 0 := Stand.of_body Bd
  have e0 : s₁.heap = h0 := by rw [← hh, Bd.state]; rfl
  have N0 := Fr.nil n0
  have pre0 : ∀ t, Steps p.tables e below (s₁.setTop (mkF m 0 #[.val (.int (1 : Int32)), .val (.int (1 : Int32))] [])) t → Steps p.tables e below (s₁.setTop (entryFrame m #[(.int (1 : Int32)), (.int (1 : Int32))] 2)) t := fun t k => castTop (ef_2 m (1 : Int32) (1 : Int32)) k
  obtain ⟨fs, hr, hrun, hended, hW, hsame⟩ := X0.leave (v := some (.int (1 : Int32))) (fun h => by rw [Bd.returns] at h; cases h)
  refine ⟨_, _, pre0 _ ?_, hrun, hended, _, _, rfl, ?_, ⟨_, rfl⟩, hW, hsame.mono (by decide) (by decide)⟩
  · show Steps p.tables e below (s₁.setTop (mkF m 0 #[.val (.int (1 : Int32)), .val (.int (1 : Int32))] [])) _
    refine XS.iloadN X0.here hx rfl (hb hby d2_0) rfl ?_
    show Steps p.tables e below (s₁.setTop (mkF m 1 #[.val (.int (1 : Int32)), .val (.int (1 : Int32))] [(.int (1 : Int32))])) _
    refine XS.iloadN X0.here hx rfl (hb hby d2_1) rfl ?_
    show Steps p.tables e below (s₁.setTop (mkF m 2 #[.val (.int (1 : Int32)), .val (.int (1 : Int32))] [(.int (1 : Int32)), (.int (1 : Int32))])) _
    refine XS.icmpNo X0.here hx rfl (hb hby d2_2) rfl (by decide) ?_
    show Steps p.tables e below (s₁.setTop (mkF m 5 #[.val (.int (1 : Int32)), .val (.int (1 : Int32))] [])) _
    refine XS.iloadN X0.here hx rfl (hb hby d2_5) rfl ?_
    show Steps p.tables e below (s₁.setTop (mkF m 6 #[.val (.int (1 : Int32)), .val (.int (1 : Int32))] [(.int (1 : Int32))])) _
    refine XS.goto X0.here hx rfl (pc0 := 6) (pc' := 10) rfl (hb hby d2_6) (by decide) (by decide) ?_
    show Steps p.tables e below (s₁.setTop (mkF m 10 #[.val (.int (1 : Int32)), .val (.int (1 : Int32))] [(.int (1 : Int32))])) _
    exact retI X0 hx Bd.returns (hb hby d2_10) hr
  · show PQ (.int (1 : Int32)) h0 n0 _ s₁.heap _
    exact ⟨rfl, N0, e0⟩

set_option maxRecDepth 65536 in
set_option maxHeartbeats 40000000 in
theorem min_1_2 (l : Launch) (Z : State) (a0 : Array Value) (hw : ∀ d ∈ tables_1, d.before a0 Z = true)  (h0 : Heap) (n0 : Nat) (Z0 : n0 ≤ h0.size)  :
    Pays l Z h0 n0 (⟨"java/lang/Math", "min", "(II)I"⟩ : MethodName) [Jvm.Cond.code (⟨"java/lang/Math", "min", "(II)I"⟩ : MethodName) jdk_29_method_69_code 2 (some .int)] R0 #[(.int (1 : Int32)), (.int (2 : Int32))] (.int (1 : Int32)) := by
  refine MetFree.of_bodySF (Jvm.Free.JP.mathPlain rfl (by decide +kernel)) hisR ?_
  intro p e s m args below meth c s₁ Bd hml0 hP hK
  obtain ⟨rfl, hZ, hh⟩ := hP
  have hx := Bd.exec
  have hby := Bd.bytes
  have hml : c.maxLocals = 2 := hml0
  have hown : s.vm.findClass "java/lang/Math" = some m.cls := findClass_of_methodNamed Bd.named
  have X0 : Stand p l e R0 s m #[(.int (1 : Int32)), (.int (2 : Int32))] below meth c s₁ [] 0 0 := Stand.of_body Bd
  have e0 : s₁.heap = h0 := by rw [← hh, Bd.state]; rfl
  have N0 := Fr.nil n0
  have pre0 : ∀ t, Steps p.tables e below (s₁.setTop (mkF m 0 #[.val (.int (1 : Int32)), .val (.int (2 : Int32))] [])) t → Steps p.tables e below (s₁.setTop (entryFrame m #[(.int (1 : Int32)), (.int (2 : Int32))] 2)) t := fun t k => castTop (ef_2 m (1 : Int32) (2 : Int32)) k
  obtain ⟨fs, hr, hrun, hended, hW, hsame⟩ := X0.leave (v := some (.int (1 : Int32))) (fun h => by rw [Bd.returns] at h; cases h)
  refine ⟨_, _, pre0 _ ?_, hrun, hended, _, _, rfl, ?_, ⟨_, rfl⟩, hW, hsame.mono (by decide) (by decide)⟩
  · show Steps p.tables e below (s₁.setTop (mkF m 0 #[.val (.int (1 : Int32)), .val (.int (2 : Int32))] [])) _
    refine XS.iloadN X0.here hx rfl (hb hby d2_0) rfl ?_
    show Steps p.tables e below (s₁.setTop (mkF m 1 #[.val (.int (1 : Int32)), .val (.int (2 : Int32))] [(.int (1 : Int32))])) _
    refine XS.iloadN X0.here hx rfl (hb hby d2_1) rfl ?_
    show Steps p.tables e below (s₁.setTop (mkF m 2 #[.val (.int (1 : Int32)), .val (.int (2 : Int32))] [(.int (2 : Int32)), (.int (1 : Int32))])) _
    refine XS.icmpNo X0.here hx rfl (hb hby d2_2) rfl (by decide) ?_
    show Steps p.tables e below (s₁.setTop (mkF m 5 #[.val (.int (1 : Int32)), .val (.int (2 : Int32))] [])) _
    refine XS.iloadN X0.here hx rfl (hb hby d2_5) rfl ?_
    show Steps p.tables e below (s₁.setTop (mkF m 6 #[.val (.int (1 : Int32)), .val (.int (2 : Int32))] [(.int (1 : Int32))])) _
    refine XS.goto X0.here hx rfl (pc0 := 6) (pc' := 10) rfl (hb hby d2_6) (by decide) (by decide) ?_
    show Steps p.tables e below (s₁.setTop (mkF m 10 #[.val (.int (1 : Int32)), .val (.int (2 : Int32))] [(.int (1 : Int32))])) _
    exact retI X0 hx Bd.returns (hb hby d2_10) hr
  · show PQ (.int (1 : Int32)) h0 n0 _ s₁.heap _
    exact ⟨rfl, N0, e0⟩

set_option maxRecDepth 65536 in
set_option maxHeartbeats 40000000 in
theorem min_2_0 (l : Launch) (Z : State) (a0 : Array Value) (hw : ∀ d ∈ tables_1, d.before a0 Z = true)  (h0 : Heap) (n0 : Nat) (Z0 : n0 ≤ h0.size)  :
    Pays l Z h0 n0 (⟨"java/lang/Math", "min", "(II)I"⟩ : MethodName) [Jvm.Cond.code (⟨"java/lang/Math", "min", "(II)I"⟩ : MethodName) jdk_29_method_69_code 2 (some .int)] R0 #[(.int (2 : Int32)), (.int (0 : Int32))] (.int (0 : Int32)) := by
  refine MetFree.of_bodySF (Jvm.Free.JP.mathPlain rfl (by decide +kernel)) hisR ?_
  intro p e s m args below meth c s₁ Bd hml0 hP hK
  obtain ⟨rfl, hZ, hh⟩ := hP
  have hx := Bd.exec
  have hby := Bd.bytes
  have hml : c.maxLocals = 2 := hml0
  have hown : s.vm.findClass "java/lang/Math" = some m.cls := findClass_of_methodNamed Bd.named
  have X0 : Stand p l e R0 s m #[(.int (2 : Int32)), (.int (0 : Int32))] below meth c s₁ [] 0 0 := Stand.of_body Bd
  have e0 : s₁.heap = h0 := by rw [← hh, Bd.state]; rfl
  have N0 := Fr.nil n0
  have pre0 : ∀ t, Steps p.tables e below (s₁.setTop (mkF m 0 #[.val (.int (2 : Int32)), .val (.int (0 : Int32))] [])) t → Steps p.tables e below (s₁.setTop (entryFrame m #[(.int (2 : Int32)), (.int (0 : Int32))] 2)) t := fun t k => castTop (ef_2 m (2 : Int32) (0 : Int32)) k
  obtain ⟨fs, hr, hrun, hended, hW, hsame⟩ := X0.leave (v := some (.int (0 : Int32))) (fun h => by rw [Bd.returns] at h; cases h)
  refine ⟨_, _, pre0 _ ?_, hrun, hended, _, _, rfl, ?_, ⟨_, rfl⟩, hW, hsame.mono (by decide) (by decide)⟩
  · show Steps p.tables e below (s₁.setTop (mkF m 0 #[.val (.int (2 : Int32)), .val (.int (0 : Int32))] [])) _
    refine XS.iloadN X0.here hx rfl (hb hby d2_0) rfl ?_
    show Steps p.tables e below (s₁.setTop (mkF m 1 #[.val (.int (2 : Int32)), .val (.int (0 : Int32))] [(.int (2 : Int32))])) _
    refine XS.iloadN X0.here hx rfl (hb hby d2_1) rfl ?_
    show Steps p.tables e below (s₁.setTop (mkF m 2 #[.val (.int (2 : Int32)), .val (.int (0 : Int32))] [(.int (0 : Int32)), (.int (2 : Int32))])) _
    refine XS.icmpYes X0.here hx rfl (pc0 := 2) (pc' := 9) rfl (hb hby d2_2) rfl (by decide) (by decide) (by decide) ?_
    show Steps p.tables e below (s₁.setTop (mkF m 9 #[.val (.int (2 : Int32)), .val (.int (0 : Int32))] [])) _
    refine XS.iloadN X0.here hx rfl (hb hby d2_9) rfl ?_
    show Steps p.tables e below (s₁.setTop (mkF m 10 #[.val (.int (2 : Int32)), .val (.int (0 : Int32))] [(.int (0 : Int32))])) _
    exact retI X0 hx Bd.returns (hb hby d2_10) hr
  · show PQ (.int (0 : Int32)) h0 n0 _ s₁.heap _
    exact ⟨rfl, N0, e0⟩

set_option maxRecDepth 65536 in
set_option maxHeartbeats 40000000 in
theorem min_2_1 (l : Launch) (Z : State) (a0 : Array Value) (hw : ∀ d ∈ tables_1, d.before a0 Z = true)  (h0 : Heap) (n0 : Nat) (Z0 : n0 ≤ h0.size)  :
    Pays l Z h0 n0 (⟨"java/lang/Math", "min", "(II)I"⟩ : MethodName) [Jvm.Cond.code (⟨"java/lang/Math", "min", "(II)I"⟩ : MethodName) jdk_29_method_69_code 2 (some .int)] R0 #[(.int (2 : Int32)), (.int (1 : Int32))] (.int (1 : Int32)) := by
  refine MetFree.of_bodySF (Jvm.Free.JP.mathPlain rfl (by decide +kernel)) hisR ?_
  intro p e s m args below meth c s₁ Bd hml0 hP hK
  obtain ⟨rfl, hZ, hh⟩ := hP
  have hx := Bd.exec
  have hby := Bd.bytes
  have hml : c.maxLocals = 2 := hml0
  have hown : s.vm.findClass "java/lang/Math" = some m.cls := findClass_of_methodNamed Bd.named
  have X0 : Stand p l e R0 s m #[(.int (2 : Int32)), (.int (1 : Int32))] below meth c s₁ [] 0 0 := Stand.of_body Bd
  have e0 : s₁.heap = h0 := by rw [← hh, Bd.state]; rfl
  have N0 := Fr.nil n0
  have pre0 : ∀ t, Steps p.tables e below (s₁.setTop (mkF m 0 #[.val (.int (2 : Int32)), .val (.int (1 : Int32))] [])) t → Steps p.tables e below (s₁.setTop (entryFrame m #[(.int (2 : Int32)), (.int (1 : Int32))] 2)) t := fun t k => castTop (ef_2 m (2 : Int32) (1 : Int32)) k
  obtain ⟨fs, hr, hrun, hended, hW, hsame⟩ := X0.leave (v := some (.int (1 : Int32))) (fun h => by rw [Bd.returns] at h; cases h)
  refine ⟨_, _, pre0 _ ?_, hrun, hended, _, _, rfl, ?_, ⟨_, rfl⟩, hW, hsame.mono (by decide) (by decide)⟩
  · show Steps p.tables e below (s₁.setTop (mkF m 0 #[.val (.int (2 : Int32)), .val (.int (1 : Int32))] [])) _
    refine XS.iloadN X0.here hx rfl (hb hby d2_0) rfl ?_
    show Steps p.tables e below (s₁.setTop (mkF m 1 #[.val (.int (2 : Int32)), .val (.int (1 : Int32))] [(.int (2 : Int32))])) _
    refine XS.iloadN X0.here hx rfl (hb hby d2_1) rfl ?_
    show Steps p.tables e below (s₁.setTop (mkF m 2 #[.val (.int (2 : Int32)), .val (.int (1 : Int32))] [(.int (1 : Int32)), (.int (2 : Int32))])) _
    refine XS.icmpYes X0.here hx rfl (pc0 := 2) (pc' := 9) rfl (hb hby d2_2) rfl (by decide) (by decide) (by decide) ?_
    show Steps p.tables e below (s₁.setTop (mkF m 9 #[.val (.int (2 : Int32)), .val (.int (1 : Int32))] [])) _
    refine XS.iloadN X0.here hx rfl (hb hby d2_9) rfl ?_
    show Steps p.tables e below (s₁.setTop (mkF m 10 #[.val (.int (2 : Int32)), .val (.int (1 : Int32))] [(.int (1 : Int32))])) _
    exact retI X0 hx Bd.returns (hb hby d2_10) hr
  · show PQ (.int (1 : Int32)) h0 n0 _ s₁.heap _
    exact ⟨rfl, N0, e0⟩

set_option maxRecDepth 65536 in
set_option maxHeartbeats 40000000 in
theorem min_2_2 (l : Launch) (Z : State) (a0 : Array Value) (hw : ∀ d ∈ tables_1, d.before a0 Z = true)  (h0 : Heap) (n0 : Nat) (Z0 : n0 ≤ h0.size)  :
    Pays l Z h0 n0 (⟨"java/lang/Math", "min", "(II)I"⟩ : MethodName) [Jvm.Cond.code (⟨"java/lang/Math", "min", "(II)I"⟩ : MethodName) jdk_29_method_69_code 2 (some .int)] R0 #[(.int (2 : Int32)), (.int (2 : Int32))] (.int (2 : Int32)) := by
  refine MetFree.of_bodySF (Jvm.Free.JP.mathPlain rfl (by decide +kernel)) hisR ?_
  intro p e s m args below meth c s₁ Bd hml0 hP hK
  obtain ⟨rfl, hZ, hh⟩ := hP
  have hx := Bd.exec
  have hby := Bd.bytes
  have hml : c.maxLocals = 2 := hml0
  have hown : s.vm.findClass "java/lang/Math" = some m.cls := findClass_of_methodNamed Bd.named
  have X0 : Stand p l e R0 s m #[(.int (2 : Int32)), (.int (2 : Int32))] below meth c s₁ [] 0 0 := Stand.of_body Bd
  have e0 : s₁.heap = h0 := by rw [← hh, Bd.state]; rfl
  have N0 := Fr.nil n0
  have pre0 : ∀ t, Steps p.tables e below (s₁.setTop (mkF m 0 #[.val (.int (2 : Int32)), .val (.int (2 : Int32))] [])) t → Steps p.tables e below (s₁.setTop (entryFrame m #[(.int (2 : Int32)), (.int (2 : Int32))] 2)) t := fun t k => castTop (ef_2 m (2 : Int32) (2 : Int32)) k
  obtain ⟨fs, hr, hrun, hended, hW, hsame⟩ := X0.leave (v := some (.int (2 : Int32))) (fun h => by rw [Bd.returns] at h; cases h)
  refine ⟨_, _, pre0 _ ?_, hrun, hended, _, _, rfl, ?_, ⟨_, rfl⟩, hW, hsame.mono (by decide) (by decide)⟩
  · show Steps p.tables e below (s₁.setTop (mkF m 0 #[.val (.int (2 : Int32)), .val (.int (2 : Int32))] [])) _
    refine XS.iloadN X0.here hx rfl (hb hby d2_0) rfl ?_
    show Steps p.tables e below (s₁.setTop (mkF m 1 #[.val (.int (2 : Int32)), .val (.int (2 : Int32))] [(.int (2 : Int32))])) _
    refine XS.iloadN X0.here hx rfl (hb hby d2_1) rfl ?_
    show Steps p.tables e below (s₁.setTop (mkF m 2 #[.val (.int (2 : Int32)), .val (.int (2 : Int32))] [(.int (2 : Int32)), (.int (2 : Int32))])) _
    refine XS.icmpNo X0.here hx rfl (hb hby d2_2) rfl (by decide) ?_
    show Steps p.tables e below (s₁.setTop (mkF m 5 #[.val (.int (2 : Int32)), .val (.int (2 : Int32))] [])) _
    refine XS.iloadN X0.here hx rfl (hb hby d2_5) rfl ?_
    show Steps p.tables e below (s₁.setTop (mkF m 6 #[.val (.int (2 : Int32)), .val (.int (2 : Int32))] [(.int (2 : Int32))])) _
    refine XS.goto X0.here hx rfl (pc0 := 6) (pc' := 10) rfl (hb hby d2_6) (by decide) (by decide) ?_
    show Steps p.tables e below (s₁.setTop (mkF m 10 #[.val (.int (2 : Int32)), .val (.int (2 : Int32))] [(.int (2 : Int32))])) _
    exact retI X0 hx Bd.returns (hb hby d2_10) hr
  · show PQ (.int (2 : Int32)) h0 n0 _ s₁.heap _
    exact ⟨rfl, N0, e0⟩

theorem d3_0 : decode prog_15_method_5_code 0 = .ok (.aload_n 0, 1) := by decide +kernel
theorem d3_1 : decode prog_15_method_5_code 1 = .ok (.getstatic 7, 3) := by decide +kernel
theorem d3_4 : decode prog_15_method_5_code 4 = .ok (.if_acmp .eq 10, 3) := by decide +kernel
theorem d3_14 : decode prog_15_method_5_code 14 = .ok (.getstatic 7, 3) := by decide +kernel
theorem d3_17 : decode prog_15_method_5_code 17 = .ok (.astore_n 2, 1) := by decide +kernel
theorem d3_18 : decode prog_15_method_5_code 18 = .ok (.goto 28, 3) := by decide +kernel
theorem d3_46 : decode prog_15_method_5_code 46 = .ok (.aload_n 2, 1) := by decide +kernel
theorem d3_47 : decode prog_15_method_5_code 47 = .ok (.areturn, 1) := by decide +kernel
theorem pn_Truth : plainName "com/example/kascade/kascade/engine/Truth" = true := by first | (simp [plainName, overriddenIn]; done) | decide +kernel
theorem ef_3 (m : MethodId) (x0 : Addr) (x1 : Addr) : entryFrame m #[(.ref x0), (.ref x1)] 3 = mkF m 0 #[.val (.ref x0), .val (.ref x1), .unset] [] := by first | (simp [entryFrame, mkF, argsToLocals, Value.category]; done) | rfl
set_option maxRecDepth 65536 in
set_option maxHeartbeats 40000000 in
theorem and_0_0 (l : Launch) (Z : State) (a0 : Array Value) (hw : ∀ d ∈ tables_1, d.before a0 Z = true) (w_FALSE w_UNKNOWN w_TRUE : Addr) (h0 : Heap) (n0 : Nat) (Z0 : n0 ≤ h0.size) (S_FALSE : Sta Z h0 "com/example/kascade/kascade/engine/Truth" "FALSE" "Lcom/example/kascade/kascade/engine/Truth;" (.ref w_FALSE)) (S_UNKNOWN : Sta Z h0 "com/example/kascade/kascade/engine/Truth" "UNKNOWN" "Lcom/example/kascade/kascade/engine/Truth;" (.ref w_UNKNOWN)) (S_TRUE : Sta Z h0 "com/example/kascade/kascade/engine/Truth" "TRUE" "Lcom/example/kascade/kascade/engine/Truth;" (.ref w_TRUE)) (ne_FALSE_UNKNOWN : ¬ (w_FALSE = w_UNKNOWN)) (ne_FALSE_TRUE : ¬ (w_FALSE = w_TRUE)) (ne_UNKNOWN_FALSE : ¬ (w_UNKNOWN = w_FALSE)) (ne_UNKNOWN_TRUE : ¬ (w_UNKNOWN = w_TRUE)) (ne_TRUE_FALSE : ¬ (w_TRUE = w_FALSE)) (ne_TRUE_UNKNOWN : ¬ (w_TRUE = w_UNKNOWN)) :
    Pays l Z h0 n0 (⟨"com/example/kascade/kascade/engine/Truth", "and", "(Lcom/example/kascade/kascade/engine/Truth;)Lcom/example/kascade/kascade/engine/Truth;"⟩ : MethodName) [Jvm.Cond.code (⟨"com/example/kascade/kascade/engine/Truth", "and", "(Lcom/example/kascade/kascade/engine/Truth;)Lcom/example/kascade/kascade/engine/Truth;"⟩ : MethodName) prog_15_method_5_code 3 (some (.object "com/example/kascade/kascade/engine/Truth"))] R0 #[(.ref w_FALSE), (.ref w_FALSE)] (.ref w_FALSE) := by
  refine MetFree.of_bodySF (plainFor_of_name pn_Truth) hisR ?_
  intro p e s m args below meth c s₁ Bd hml0 hP hK
  obtain ⟨rfl, hZ, hh⟩ := hP
  have hx := Bd.exec
  have hby := Bd.bytes
  have hml : c.maxLocals = 3 := hml0
  have hown : s.vm.findClass "com/example/kascade/kascade/engine/Truth" = some m.cls := findClass_of_methodNamed Bd.named
  have X0 : Stand p l e R0 s m #[(.ref w_FALSE), (.ref w_FALSE)] below meth c s₁ [] 0 0 := Stand.of_body Bd
  have e0 : s₁.heap = h0 := by rw [← hh, Bd.state]; rfl
  have N0 := Fr.nil n0
  have pre0 : ∀ t, Steps p.tables e below (s₁.setTop (mkF m 0 #[.val (.ref w_FALSE), .val (.ref w_FALSE), .unset] [])) t → Steps p.tables e below (s₁.setTop (entryFrame m #[(.ref w_FALSE), (.ref w_FALSE)] 3)) t := fun t k => castTop (ef_3 m w_FALSE w_FALSE) k
  obtain ⟨T1, X1, e1, st1⟩ := getS2 X0 hx hZ hown (host := "") (Or.inl (hw _ (List.mem_of_getElem? (i := 17) rfl))) Via.refl e0 S_FALSE (g := (mkF m 1 #[.val (.ref w_FALSE), .val (.ref w_FALSE), .unset] [(.ref w_FALSE)])) rfl (hb hby d3_1)
  obtain ⟨T2, X2, e2, st2⟩ := getS2 X1 hx hZ hown (host := "") (Or.inl (hw _ (List.mem_of_getElem? (i := 17) rfl))) Via.refl e1 S_FALSE (g := (mkF m 14 #[.val (.ref w_FALSE), .val (.ref w_FALSE), .unset] [])) rfl (hb hby d3_14)
  obtain ⟨fs, hr, hrun, hended, hW, hsame⟩ := X2.leave (v := some (.ref w_FALSE)) (fun h => by rw [Bd.returns] at h; cases h)
  refine ⟨_, _, pre0 _ ?_, hrun, hended, _, _, rfl, ?_, ⟨_, rfl⟩, hW, hsame.mono (by decide) (by decide)⟩
  · show Steps p.tables e below (s₁.setTop (mkF m 0 #[.val (.ref w_FALSE), .val (.ref w_FALSE), .unset] [])) _
    refine XS.aloadN X0.here hx rfl (hb hby d3_0) rfl rfl ?_
    show Steps p.tables e below (s₁.setTop (mkF m 1 #[.val (.ref w_FALSE), .val (.ref w_FALSE), .unset] [(.ref w_FALSE)])) _
    refine st1 _ ?_
    show Steps p.tables e below (T1.setTop (mkF m 4 #[.val (.ref w_FALSE), .val (.ref w_FALSE), .unset] [(.ref w_FALSE), (.ref w_FALSE)])) _
    refine Jvm.RoadKit.acmp (g := (mkF m 4 #[.val (.ref w_FALSE), .val (.ref w_FALSE), .unset] [(.ref w_FALSE), (.ref w_FALSE)])) X1 hx rfl rfl rfl (pc0 := 4) (pc' := 14) (same := true) rfl (hb hby d3_4) rfl (decide_eq_true rfl) (by decide) (by decide) ?_
    show Steps p.tables e below (T1.setTop (mkF m 14 #[.val (.ref w_FALSE), .val (.ref w_FALSE), .unset] [])) _
    refine st2 _ ?_
    show Steps p.tables e below (T2.setTop (mkF m 17 #[.val (.ref w_FALSE), .val (.ref w_FALSE), .unset] [(.ref w_FALSE)])) _
    refine XS.astoreN X2.here hx rfl (hb hby d3_17) rfl rfl (l' := #[.val (.ref w_FALSE), .val (.ref w_FALSE), .val (.ref w_FALSE)]) rfl ?_
    show Steps p.tables e below (T2.setTop (mkF m 18 #[.val (.ref w_FALSE), .val (.ref w_FALSE), .val (.ref w_FALSE)] [])) _
    refine XS.goto X2.here hx rfl (pc0 := 18) (pc' := 46) rfl (hb hby d3_18) (by decide) (by decide) ?_
    show Steps p.tables e below (T2.setTop (mkF m 46 #[.val (.ref w_FALSE), .val (.ref w_FALSE), .val (.ref w_FALSE)] [])) _
    refine XS.aloadN X2.here hx rfl (hb hby d3_46) rfl rfl ?_
    show Steps p.tables e below (T2.setTop (mkF m 47 #[.val (.ref w_FALSE), .val (.ref w_FALSE), .val (.ref w_FALSE)] [(.ref w_FALSE)])) _
    jvm_step X2.here [X2.here.top, hx, (hb hby d3_47), X2.method', Bd.returns, Value.isRef, FieldType.isReference]
    first | (intro acts; rw [hr _ acts rfl rfl rfl]) | rw [hr _ _ rfl rfl rfl]
    exact Steps.refl _
  · show PQ (.ref w_FALSE) h0 n0 _ T2.heap _
    exact ⟨rfl, N0, e2⟩

set_option maxRecDepth 65536 in
set_option maxHeartbeats 40000000 in
theorem and_0_1 (l : Launch) (Z : State) (a0 : Array Value) (hw : ∀ d ∈ tables_1, d.before a0 Z = true) (w_FALSE w_UNKNOWN w_TRUE : Addr) (h0 : Heap) (n0 : Nat) (Z0 : n0 ≤ h0.size) (S_FALSE : Sta Z h0 "com/example/kascade/kascade/engine/Truth" "FALSE" "Lcom/example/kascade/kascade/engine/Truth;" (.ref w_FALSE)) (S_UNKNOWN : Sta Z h0 "com/example/kascade/kascade/engine/Truth" "UNKNOWN" "Lcom/example/kascade/kascade/engine/Truth;" (.ref w_UNKNOWN)) (S_TRUE : Sta Z h0 "com/example/kascade/kascade/engine/Truth" "TRUE" "Lcom/example/kascade/kascade/engine/Truth;" (.ref w_TRUE)) (ne_FALSE_UNKNOWN : ¬ (w_FALSE = w_UNKNOWN)) (ne_FALSE_TRUE : ¬ (w_FALSE = w_TRUE)) (ne_UNKNOWN_FALSE : ¬ (w_UNKNOWN = w_FALSE)) (ne_UNKNOWN_TRUE : ¬ (w_UNKNOWN = w_TRUE)) (ne_TRUE_FALSE : ¬ (w_TRUE = w_FALSE)) (ne_TRUE_UNKNOWN : ¬ (w_TRUE = w_UNKNOWN)) :
    Pays l Z h0 n0 (⟨"com/example/kascade/kascade/engine/Truth", "and", "(Lcom/example/kascade/kascade/engine/Truth;)Lcom/example/kascade/kascade/engine/Truth;"⟩ : MethodName) [Jvm.Cond.code (⟨"com/example/kascade/kascade/engine/Truth", "and", "(Lcom/example/kascade/kascade/engine/Truth;)Lcom/example/kascade/kascade/engine/Truth;"⟩ : MethodName) prog_15_method_5_code 3 (some (.object "com/example/kascade/kascade/engine/Truth"))] R0 #[(.ref w_FALSE), (.ref w_UNKNOWN)] (.ref w_FALSE) := by
  refine MetFree.of_bodySF (plainFor_of_name pn_Truth) hisR ?_
  intro p e s m args below meth c s₁ Bd hml0 hP hK
  obtain ⟨rfl, hZ, hh⟩ := hP
  have hx := Bd.exec
  have hby := Bd.bytes
  have hml : c.maxLocals = 3 := hml0
  have hown : s.vm.findClass "com/example/kascade/kascade/engine/Truth" = some m.cls := findClass_of_methodNamed Bd.named
  have X0 : Stand p l e R0 s m #[(.ref w_FALSE), (.ref w_UNKNOWN)] below meth c s₁ [] 0 0 := Stand.of_body Bd
  have e0 : s₁.heap = h0 := by rw [← hh, Bd.state]; rfl
  have N0 := Fr.nil n0
  have pre0 : ∀ t, Steps p.tables e below (s₁.setTop (mkF m 0 #[.val (.ref w_FALSE), .val (.ref w_UNKNOWN), .unset] [])) t → Steps p.tables e below (s₁.setTop (entryFrame m #[(.ref w_FALSE), (.ref w_UNKNOWN)] 3)) t := fun t k => castTop (ef_3 m w_FALSE w_UNKNOWN) k
  obtain ⟨T1, X1, e1, st1⟩ := getS2 X0 hx hZ hown (host := "") (Or.inl (hw _ (List.mem_of_getElem? (i := 17) rfl))) Via.refl e0 S_FALSE (g := (mkF m 1 #[.val (.ref w_FALSE), .val (.ref w_UNKNOWN), .unset] [(.ref w_FALSE)])) rfl (hb hby d3_1)
  obtain ⟨T2, X2, e2, st2⟩ := getS2 X1 hx hZ hown (host := "") (Or.inl (hw _ (List.mem_of_getElem? (i := 17) rfl))) Via.refl e1 S_FALSE (g := (mkF m 14 #[.val (.ref w_FALSE), .val (.ref w_UNKNOWN), .unset] [])) rfl (hb hby d3_14)
  obtain ⟨fs, hr, hrun, hended, hW, hsame⟩ := X2.leave (v := some (.ref w_FALSE)) (fun h => by rw [Bd.returns] at h; cases h)
  refine ⟨_, _, pre0 _ ?_, hrun, hended, _, _, rfl, ?_, ⟨_, rfl⟩, hW, hsame.mono (by decide) (by decide)⟩
  · show Steps p.tables e below (s₁.setTop (mkF m 0 #[.val (.ref w_FALSE), .val (.ref w_UNKNOWN), .unset] [])) _
    refine XS.aloadN X0.here hx rfl (hb hby d3_0) rfl rfl ?_
    show Steps p.tables e below (s₁.setTop (mkF m 1 #[.val (.ref w_FALSE), .val (.ref w_UNKNOWN), .unset] [(.ref w_FALSE)])) _
    refine st1 _ ?_
    show Steps p.tables e below (T1.setTop (mkF m 4 #[.val (.ref w_FALSE), .val (.ref w_UNKNOWN), .unset] [(.ref w_FALSE), (.ref w_FALSE)])) _
    refine Jvm.RoadKit.acmp (g := (mkF m 4 #[.val (.ref w_FALSE), .val (.ref w_UNKNOWN), .unset] [(.ref w_FALSE), (.ref w_FALSE)])) X1 hx rfl rfl rfl (pc0 := 4) (pc' := 14) (same := true) rfl (hb hby d3_4) rfl (decide_eq_true rfl) (by decide) (by decide) ?_
    show Steps p.tables e below (T1.setTop (mkF m 14 #[.val (.ref w_FALSE), .val (.ref w_UNKNOWN), .unset] [])) _
    refine st2 _ ?_
    show Steps p.tables e below (T2.setTop (mkF m 17 #[.val (.ref w_FALSE), .val (.ref w_UNKNOWN), .unset] [(.ref w_FALSE)])) _
    refine XS.astoreN X2.here hx rfl (hb hby d3_17) rfl rfl (l' := #[.val (.ref w_FALSE), .val (.ref w_UNKNOWN), .val (.ref w_FALSE)]) rfl ?_
    show Steps p.tables e below (T2.setTop (mkF m 18 #[.val (.ref w_FALSE), .val (.ref w_UNKNOWN), .val (.ref w_FALSE)] [])) _
    refine XS.goto X2.here hx rfl (pc0 := 18) (pc' := 46) rfl (hb hby d3_18) (by decide) (by decide) ?_
    show Steps p.tables e below (T2.setTop (mkF m 46 #[.val (.ref w_FALSE), .val (.ref w_UNKNOWN), .val (.ref w_FALSE)] [])) _
    refine XS.aloadN X2.here hx rfl (hb hby d3_46) rfl rfl ?_
    show Steps p.tables e below (T2.setTop (mkF m 47 #[.val (.ref w_FALSE), .val (.ref w_UNKNOWN), .val (.ref w_FALSE)] [(.ref w_FALSE)])) _
    jvm_step X2.here [X2.here.top, hx, (hb hby d3_47), X2.method', Bd.returns, Value.isRef, FieldType.isReference]
    first | (intro acts; rw [hr _ acts rfl rfl rfl]) | rw [hr _ _ rfl rfl rfl]
    exact Steps.refl _
  · show PQ (.ref w_FALSE) h0 n0 _ T2.heap _
    exact ⟨rfl, N0, e2⟩

set_option maxRecDepth 65536 in
set_option maxHeartbeats 40000000 in
theorem and_0_2 (l : Launch) (Z : State) (a0 : Array Value) (hw : ∀ d ∈ tables_1, d.before a0 Z = true) (w_FALSE w_UNKNOWN w_TRUE : Addr) (h0 : Heap) (n0 : Nat) (Z0 : n0 ≤ h0.size) (S_FALSE : Sta Z h0 "com/example/kascade/kascade/engine/Truth" "FALSE" "Lcom/example/kascade/kascade/engine/Truth;" (.ref w_FALSE)) (S_UNKNOWN : Sta Z h0 "com/example/kascade/kascade/engine/Truth" "UNKNOWN" "Lcom/example/kascade/kascade/engine/Truth;" (.ref w_UNKNOWN)) (S_TRUE : Sta Z h0 "com/example/kascade/kascade/engine/Truth" "TRUE" "Lcom/example/kascade/kascade/engine/Truth;" (.ref w_TRUE)) (ne_FALSE_UNKNOWN : ¬ (w_FALSE = w_UNKNOWN)) (ne_FALSE_TRUE : ¬ (w_FALSE = w_TRUE)) (ne_UNKNOWN_FALSE : ¬ (w_UNKNOWN = w_FALSE)) (ne_UNKNOWN_TRUE : ¬ (w_UNKNOWN = w_TRUE)) (ne_TRUE_FALSE : ¬ (w_TRUE = w_FALSE)) (ne_TRUE_UNKNOWN : ¬ (w_TRUE = w_UNKNOWN)) :
    Pays l Z h0 n0 (⟨"com/example/kascade/kascade/engine/Truth", "and", "(Lcom/example/kascade/kascade/engine/Truth;)Lcom/example/kascade/kascade/engine/Truth;"⟩ : MethodName) [Jvm.Cond.code (⟨"com/example/kascade/kascade/engine/Truth", "and", "(Lcom/example/kascade/kascade/engine/Truth;)Lcom/example/kascade/kascade/engine/Truth;"⟩ : MethodName) prog_15_method_5_code 3 (some (.object "com/example/kascade/kascade/engine/Truth"))] R0 #[(.ref w_FALSE), (.ref w_TRUE)] (.ref w_FALSE) := by
  refine MetFree.of_bodySF (plainFor_of_name pn_Truth) hisR ?_
  intro p e s m args below meth c s₁ Bd hml0 hP hK
  obtain ⟨rfl, hZ, hh⟩ := hP
  have hx := Bd.exec
  have hby := Bd.bytes
  have hml : c.maxLocals = 3 := hml0
  have hown : s.vm.findClass "com/example/kascade/kascade/engine/Truth" = some m.cls := findClass_of_methodNamed Bd.named
  have X0 : Stand p l e R0 s m #[(.ref w_FALSE), (.ref w_TRUE)] below meth c s₁ [] 0 0 := Stand.of_body Bd
  have e0 : s₁.heap = h0 := by rw [← hh, Bd.state]; rfl
  have N0 := Fr.nil n0
  have pre0 : ∀ t, Steps p.tables e below (s₁.setTop (mkF m 0 #[.val (.ref w_FALSE), .val (.ref w_TRUE), .unset] [])) t → Steps p.tables e below (s₁.setTop (entryFrame m #[(.ref w_FALSE), (.ref w_TRUE)] 3)) t := fun t k => castTop (ef_3 m w_FALSE w_TRUE) k
  obtain ⟨T1, X1, e1, st1⟩ := getS2 X0 hx hZ hown (host := "") (Or.inl (hw _ (List.mem_of_getElem? (i := 17) rfl))) Via.refl e0 S_FALSE (g := (mkF m 1 #[.val (.ref w_FALSE), .val (.ref w_TRUE), .unset] [(.ref w_FALSE)])) rfl (hb hby d3_1)
  obtain ⟨T2, X2, e2, st2⟩ := getS2 X1 hx hZ hown (host := "") (Or.inl (hw _ (List.mem_of_getElem? (i := 17) rfl))) Via.refl e1 S_FALSE (g := (mkF m 14 #[.val (.ref w_FALSE), .val (.ref w_TRUE), .unset] [])) rfl (hb hby d3_14)
  obtain ⟨fs, hr, hrun, hended, hW, hsame⟩ := X2.leave (v := some (.ref w_FALSE)) (fun h => by rw [Bd.returns] at h; cases h)
  refine ⟨_, _, pre0 _ ?_, hrun, hended, _, _, rfl, ?_, ⟨_, rfl⟩, hW, hsame.mono (by decide) (by decide)⟩
  · show Steps p.tables e below (s₁.setTop (mkF m 0 #[.val (.ref w_FALSE), .val (.ref w_TRUE), .unset] [])) _
    refine XS.aloadN X0.here hx rfl (hb hby d3_0) rfl rfl ?_
    show Steps p.tables e below (s₁.setTop (mkF m 1 #[.val (.ref w_FALSE), .val (.ref w_TRUE), .unset] [(.ref w_FALSE)])) _
    refine st1 _ ?_
    show Steps p.tables e below (T1.setTop (mkF m 4 #[.val (.ref w_FALSE), .val (.ref w_TRUE), .unset] [(.ref w_FALSE), (.ref w_FALSE)])) _
    refine Jvm.RoadKit.acmp (g := (mkF m 4 #[.val (.ref w_FALSE), .val (.ref w_TRUE), .unset] [(.ref w_FALSE), (.ref w_FALSE)])) X1 hx rfl rfl rfl (pc0 := 4) (pc' := 14) (same := true) rfl (hb hby d3_4) rfl (decide_eq_true rfl) (by decide) (by decide) ?_
    show Steps p.tables e below (T1.setTop (mkF m 14 #[.val (.ref w_FALSE), .val (.ref w_TRUE), .unset] [])) _
    refine st2 _ ?_
    show Steps p.tables e below (T2.setTop (mkF m 17 #[.val (.ref w_FALSE), .val (.ref w_TRUE), .unset] [(.ref w_FALSE)])) _
    refine XS.astoreN X2.here hx rfl (hb hby d3_17) rfl rfl (l' := #[.val (.ref w_FALSE), .val (.ref w_TRUE), .val (.ref w_FALSE)]) rfl ?_
    show Steps p.tables e below (T2.setTop (mkF m 18 #[.val (.ref w_FALSE), .val (.ref w_TRUE), .val (.ref w_FALSE)] [])) _
    refine XS.goto X2.here hx rfl (pc0 := 18) (pc' := 46) rfl (hb hby d3_18) (by decide) (by decide) ?_
    show Steps p.tables e below (T2.setTop (mkF m 46 #[.val (.ref w_FALSE), .val (.ref w_TRUE), .val (.ref w_FALSE)] [])) _
    refine XS.aloadN X2.here hx rfl (hb hby d3_46) rfl rfl ?_
    show Steps p.tables e below (T2.setTop (mkF m 47 #[.val (.ref w_FALSE), .val (.ref w_TRUE), .val (.ref w_FALSE)] [(.ref w_FALSE)])) _
    jvm_step X2.here [X2.here.top, hx, (hb hby d3_47), X2.method', Bd.returns, Value.isRef, FieldType.isReference]
    first | (intro acts; rw [hr _ acts rfl rfl rfl]) | rw [hr _ _ rfl rfl rfl]
    exact Steps.refl _
  · show PQ (.ref w_FALSE) h0 n0 _ T2.heap _
    exact ⟨rfl, N0, e2⟩

theorem d3_7 : decode prog_15_method_5_code 7 = .ok (.aload_n 1, 1) := by decide +kernel
theorem d3_8 : decode prog_15_method_5_code 8 = .ok (.getstatic 7, 3) := by decide +kernel
theorem d3_11 : decode prog_15_method_5_code 11 = .ok (.if_acmp .ne 10, 3) := by decide +kernel
set_option maxRecDepth 65536 in
set_option maxHeartbeats 40000000 in
theorem and_1_0 (l : Launch) (Z : State) (a0 : Array Value) (hw : ∀ d ∈ tables_1, d.before a0 Z = true) (w_FALSE w_UNKNOWN w_TRUE : Addr) (h0 : Heap) (n0 : Nat) (Z0 : n0 ≤ h0.size) (S_FALSE : Sta Z h0 "com/example/kascade/kascade/engine/Truth" "FALSE" "Lcom/example/kascade/kascade/engine/Truth;" (.ref w_FALSE)) (S_UNKNOWN : Sta Z h0 "com/example/kascade/kascade/engine/Truth" "UNKNOWN" "Lcom/example/kascade/kascade/engine/Truth;" (.ref w_UNKNOWN)) (S_TRUE : Sta Z h0 "com/example/kascade/kascade/engine/Truth" "TRUE" "Lcom/example/kascade/kascade/engine/Truth;" (.ref w_TRUE)) (ne_FALSE_UNKNOWN : ¬ (w_FALSE = w_UNKNOWN)) (ne_FALSE_TRUE : ¬ (w_FALSE = w_TRUE)) (ne_UNKNOWN_FALSE : ¬ (w_UNKNOWN = w_FALSE)) (ne_UNKNOWN_TRUE : ¬ (w_UNKNOWN = w_TRUE)) (ne_TRUE_FALSE : ¬ (w_TRUE = w_FALSE)) (ne_TRUE_UNKNOWN : ¬ (w_TRUE = w_UNKNOWN)) :
    Pays l Z h0 n0 (⟨"com/example/kascade/kascade/engine/Truth", "and", "(Lcom/example/kascade/kascade/engine/Truth;)Lcom/example/kascade/kascade/engine/Truth;"⟩ : MethodName) [Jvm.Cond.code (⟨"com/example/kascade/kascade/engine/Truth", "and", "(Lcom/example/kascade/kascade/engine/Truth;)Lcom/example/kascade/kascade/engine/Truth;"⟩ : MethodName) prog_15_method_5_code 3 (some (.object "com/example/kascade/kascade/engine/Truth"))] R0 #[(.ref w_UNKNOWN), (.ref w_FALSE)] (.ref w_FALSE) := by
  refine MetFree.of_bodySF (plainFor_of_name pn_Truth) hisR ?_
  intro p e s m args below meth c s₁ Bd hml0 hP hK
  obtain ⟨rfl, hZ, hh⟩ := hP
  have hx := Bd.exec
  have hby := Bd.bytes
  have hml : c.maxLocals = 3 := hml0
  have hown : s.vm.findClass "com/example/kascade/kascade/engine/Truth" = some m.cls := findClass_of_methodNamed Bd.named
  have X0 : Stand p l e R0 s m #[(.ref w_UNKNOWN), (.ref w_FALSE)] below meth c s₁ [] 0 0 := Stand.of_body Bd
  have e0 : s₁.heap = h0 := by rw [← hh, Bd.state]; rfl
  have N0 := Fr.nil n0
  have pre0 : ∀ t, Steps p.tables e below (s₁.setTop (mkF m 0 #[.val (.ref w_UNKNOWN), .val (.ref w_FALSE), .unset] [])) t → Steps p.tables e below (s₁.setTop (entryFrame m #[(.ref w_UNKNOWN), (.ref w_FALSE)] 3)) t := fun t k => castTop (ef_3 m w_UNKNOWN w_FALSE) k
  obtain ⟨T1, X1, e1, st1⟩ := getS2 X0 hx hZ hown (host := "") (Or.inl (hw _ (List.mem_of_getElem? (i := 17) rfl))) Via.refl e0 S_FALSE (g := (mkF m 1 #[.val (.ref w_UNKNOWN), .val (.ref w_FALSE), .unset] [(.ref w_UNKNOWN)])) rfl (hb hby d3_1)
  obtain ⟨T2, X2, e2, st2⟩ := getS2 X1 hx hZ hown (host := "") (Or.inl (hw _ (List.mem_of_getElem? (i := 17) rfl))) Via.refl e1 S_FALSE (g := (mkF m 8 #[.val (.ref w_UNKNOWN), .val (.ref w_FALSE), .unset] [(.ref w_FALSE)])) rfl (hb hby d3_8)
  obtain ⟨T3, X3, e3, st3⟩ := getS2 X2 hx hZ hown (host := "") (Or.inl (hw _ (List.mem_of_getElem? (i := 17) rfl))) Via.refl e2 S_FALSE (g := (mkF m 14 #[.val (.ref w_UNKNOWN), .val (.ref w_FALSE), .unset] [])) rfl (hb hby d3_14)
  obtain ⟨fs, hr, hrun, hended, hW, hsame⟩ := X3.leave (v := some (.ref w_FALSE)) (fun h => by rw [Bd.returns] at h; cases h)
  refine ⟨_, _, pre0 _ ?_, hrun, hended, _, _, rfl, ?_, ⟨_, rfl⟩, hW, hsame.mono (by decide) (by decide)⟩
  · show Steps p.tables e below (s₁.setTop (mkF m 0 #[.val (.ref w_UNKNOWN), .val (.ref w_FALSE), .unset] [])) _
    refine XS.aloadN X0.here hx rfl (hb hby d3_0) rfl rfl ?_
    show Steps p.tables e below (s₁.setTop (mkF m 1 #[.val (.ref w_UNKNOWN), .val (.ref w_FALSE), .unset] [(.ref w_UNKNOWN)])) _
    refine st1 _ ?_
    show Steps p.tables e below (T1.setTop (mkF m 4 #[.val (.ref w_UNKNOWN), .val (.ref w_FALSE), .unset] [(.ref w_FALSE), (.ref w_UNKNOWN)])) _
    refine Jvm.RoadKit.acmp (g := (mkF m 4 #[.val (.ref w_UNKNOWN), .val (.ref w_FALSE), .unset] [(.ref w_FALSE), (.ref w_UNKNOWN)])) X1 hx rfl rfl rfl (pc0 := 4) (pc' := 7) (same := false) rfl (hb hby d3_4) rfl (decide_eq_false fun q => ne_UNKNOWN_FALSE (Value.ref.inj q)) (by decide) (by decide) ?_
    show Steps p.tables e below (T1.setTop (mkF m 7 #[.val (.ref w_UNKNOWN), .val (.ref w_FALSE), .unset] [])) _
    refine XS.aloadN X1.here hx rfl (hb hby d3_7) rfl rfl ?_
    show Steps p.tables e below (T1.setTop (mkF m 8 #[.val (.ref w_UNKNOWN), .val (.ref w_FALSE), .unset] [(.ref w_FALSE)])) _
    refine st2 _ ?_
    show Steps p.tables e below (T2.setTop (mkF m 11 #[.val (.ref w_UNKNOWN), .val (.ref w_FALSE), .unset] [(.ref w_FALSE), (.ref w_FALSE)])) _
    refine Jvm.RoadKit.acmp (g := (mkF m 11 #[.val (.ref w_UNKNOWN), .val (.ref w_FALSE), .unset] [(.ref w_FALSE), (.ref w_FALSE)])) X2 hx rfl rfl rfl (pc0 := 11) (pc' := 14) (same := true) rfl (hb hby d3_11) rfl (decide_eq_true rfl) (by decide) (by decide) ?_
    show Steps p.tables e below (T2.setTop (mkF m 14 #[.val (.ref w_UNKNOWN), .val (.ref w_FALSE), .unset] [])) _
    refine st3 _ ?_
    show Steps p.tables e below (T3.setTop (mkF m 17 #[.val (.ref w_UNKNOWN), .val (.ref w_FALSE), .unset] [(.ref w_FALSE)])) _
    refine XS.astoreN X3.here hx rfl (hb hby d3_17) rfl rfl (l' := #[.val (.ref w_UNKNOWN), .val (.ref w_FALSE), .val (.ref w_FALSE)]) rfl ?_
    show Steps p.tables e below (T3.setTop (mkF m 18 #[.val (.ref w_UNKNOWN), .val (.ref w_FALSE), .val (.ref w_FALSE)] [])) _
    refine XS.goto X3.here hx rfl (pc0 := 18) (pc' := 46) rfl (hb hby d3_18) (by decide) (by decide) ?_
    show Steps p.tables e below (T3.setTop (mkF m 46 #[.val (.ref w_UNKNOWN), .val (.ref w_FALSE), .val (.ref w_FALSE)] [])) _
    refine XS.aloadN X3.here hx rfl (hb hby d3_46) rfl rfl ?_
    show Steps p.tables e below (T3.setTop (mkF m 47 #[.val (.ref w_UNKNOWN), .val (.ref w_FALSE), .val (.ref w_FALSE)] [(.ref w_FALSE)])) _
    jvm_step X3.here [X3.here.top, hx, (hb hby d3_47), X3.method', Bd.returns, Value.isRef, FieldType.isReference]
    first | (intro acts; rw [hr _ acts rfl rfl rfl]) | rw [hr _ _ rfl rfl rfl]
    exact Steps.refl _
  · show PQ (.ref w_FALSE) h0 n0 _ T3.heap _
    exact ⟨rfl, N0, e3⟩

theorem d3_21 : decode prog_15_method_5_code 21 = .ok (.aload_n 0, 1) := by decide +kernel
theorem d3_22 : decode prog_15_method_5_code 22 = .ok (.getstatic 10, 3) := by decide +kernel
theorem d3_25 : decode prog_15_method_5_code 25 = .ok (.if_acmp .eq 10, 3) := by decide +kernel
theorem d3_35 : decode prog_15_method_5_code 35 = .ok (.getstatic 10, 3) := by decide +kernel
theorem d3_38 : decode prog_15_method_5_code 38 = .ok (.astore_n 2, 1) := by decide +kernel
theorem d3_39 : decode prog_15_method_5_code 39 = .ok (.goto 7, 3) := by decide +kernel
set_option maxRecDepth 65536 in
set_option maxHeartbeats 40000000 in
theorem and_1_1 (l : Launch) (Z : State) (a0 : Array Value) (hw : ∀ d ∈ tables_1, d.before a0 Z = true) (w_FALSE w_UNKNOWN w_TRUE : Addr) (h0 : Heap) (n0 : Nat) (Z0 : n0 ≤ h0.size) (S_FALSE : Sta Z h0 "com/example/kascade/kascade/engine/Truth" "FALSE" "Lcom/example/kascade/kascade/engine/Truth;" (.ref w_FALSE)) (S_UNKNOWN : Sta Z h0 "com/example/kascade/kascade/engine/Truth" "UNKNOWN" "Lcom/example/kascade/kascade/engine/Truth;" (.ref w_UNKNOWN)) (S_TRUE : Sta Z h0 "com/example/kascade/kascade/engine/Truth" "TRUE" "Lcom/example/kascade/kascade/engine/Truth;" (.ref w_TRUE)) (ne_FALSE_UNKNOWN : ¬ (w_FALSE = w_UNKNOWN)) (ne_FALSE_TRUE : ¬ (w_FALSE = w_TRUE)) (ne_UNKNOWN_FALSE : ¬ (w_UNKNOWN = w_FALSE)) (ne_UNKNOWN_TRUE : ¬ (w_UNKNOWN = w_TRUE)) (ne_TRUE_FALSE : ¬ (w_TRUE = w_FALSE)) (ne_TRUE_UNKNOWN : ¬ (w_TRUE = w_UNKNOWN)) :
    Pays l Z h0 n0 (⟨"com/example/kascade/kascade/engine/Truth", "and", "(Lcom/example/kascade/kascade/engine/Truth;)Lcom/example/kascade/kascade/engine/Truth;"⟩ : MethodName) [Jvm.Cond.code (⟨"com/example/kascade/kascade/engine/Truth", "and", "(Lcom/example/kascade/kascade/engine/Truth;)Lcom/example/kascade/kascade/engine/Truth;"⟩ : MethodName) prog_15_method_5_code 3 (some (.object "com/example/kascade/kascade/engine/Truth"))] R0 #[(.ref w_UNKNOWN), (.ref w_UNKNOWN)] (.ref w_UNKNOWN) := by
  refine MetFree.of_bodySF (plainFor_of_name pn_Truth) hisR ?_
  intro p e s m args below meth c s₁ Bd hml0 hP hK
  obtain ⟨rfl, hZ, hh⟩ := hP
  have hx := Bd.exec
  have hby := Bd.bytes
  have hml : c.maxLocals = 3 := hml0
  have hown : s.vm.findClass "com/example/kascade/kascade/engine/Truth" = some m.cls := findClass_of_methodNamed Bd.named
  have X0 : Stand p l e R0 s m #[(.ref w_UNKNOWN), (.ref w_UNKNOWN)] below meth c s₁ [] 0 0 := Stand.of_body Bd
  have e0 : s₁.heap = h0 := by rw [← hh, Bd.state]; rfl
  have N0 := Fr.nil n0
  have pre0 : ∀ t, Steps p.tables e below (s₁.setTop (mkF m 0 #[.val (.ref w_UNKNOWN), .val (.ref w_UNKNOWN), .unset] [])) t → Steps p.tables e below (s₁.setTop (entryFrame m #[(.ref w_UNKNOWN), (.ref w_UNKNOWN)] 3)) t := fun t k => castTop (ef_3 m w_UNKNOWN w_UNKNOWN) k
  obtain ⟨T1, X1, e1, st1⟩ := getS2 X0 hx hZ hown (host := "") (Or.inl (hw _ (List.mem_of_getElem? (i := 17) rfl))) Via.refl e0 S_FALSE (g := (mkF m 1 #[.val (.ref w_UNKNOWN), .val (.ref w_UNKNOWN), .unset] [(.ref w_UNKNOWN)])) rfl (hb hby d3_1)
  obtain ⟨T2, X2, e2, st2⟩ := getS2 X1 hx hZ hown (host := "") (Or.inl (hw _ (List.mem_of_getElem? (i := 17) rfl))) Via.refl e1 S_FALSE (g := (mkF m 8 #[.val (.ref w_UNKNOWN), .val (.ref w_UNKNOWN), .unset] [(.ref w_UNKNOWN)])) rfl (hb hby d3_8)
  obtain ⟨T3, X3, e3, st3⟩ := getS2 X2 hx hZ hown (host := "") (Or.inl (hw _ (List.mem_of_getElem? (i := 22) rfl))) Via.refl e2 S_UNKNOWN (g := (mkF m 22 #[.val (.ref w_UNKNOWN), .val (.ref w_UNKNOWN), .unset] [(.ref w_UNKNOWN)])) rfl (hb hby d3_22)
  obtain ⟨T4, X4, e4, st4⟩ := getS2 X3 hx hZ hown (host := "") (Or.inl (hw _ (List.mem_of_getElem? (i := 22) rfl))) Via.refl e3 S_UNKNOWN (g := (mkF m 35 #[.val (.ref w_UNKNOWN), .val (.ref w_UNKNOWN), .unset] [])) rfl (hb hby d3_35)
  obtain ⟨fs, hr, hrun, hended, hW, hsame⟩ := X4.leave (v := some (.ref w_UNKNOWN)) (fun h => by rw [Bd.returns] at h; cases h)
  refine ⟨_, _, pre0 _ ?_, hrun, hended, _, _, rfl, ?_, ⟨_, rfl⟩, hW, hsame.mono (by decide) (by decide)⟩
  · show Steps p.tables e below (s₁.setTop (mkF m 0 #[.val (.ref w_UNKNOWN), .val (.ref w_UNKNOWN), .unset] [])) _
    refine XS.aloadN X0.here hx rfl (hb hby d3_0) rfl rfl ?_
    show Steps p.tables e below (s₁.setTop (mkF m 1 #[.val (.ref w_UNKNOWN), .val (.ref w_UNKNOWN), .unset] [(.ref w_UNKNOWN)])) _
    refine st1 _ ?_
    show Steps p.tables e below (T1.setTop (mkF m 4 #[.val (.ref w_UNKNOWN), .val (.ref w_UNKNOWN), .unset] [(.ref w_FALSE), (.ref w_UNKNOWN)])) _
    refine Jvm.RoadKit.acmp (g := (mkF m 4 #[.val (.ref w_UNKNOWN), .val (.ref w_UNKNOWN), .unset] [(.ref w_FALSE), (.ref w_UNKNOWN)])) X1 hx rfl rfl rfl (pc0 := 4) (pc' := 7) (same := false) rfl (hb hby d3_4) rfl (decide_eq_false fun q => ne_UNKNOWN_FALSE (Value.ref.inj q)) (by decide) (by decide) ?_
    show Steps p.tables e below (T1.setTop (mkF m 7 #[.val (.ref w_UNKNOWN), .val (.ref w_UNKNOWN), .unset] [])) _
    refine XS.aloadN X1.here hx rfl (hb hby d3_7) rfl rfl ?_
    show Steps p.tables e below (T1.setTop (mkF m 8 #[.val (.ref w_UNKNOWN), .val (.ref w_UNKNOWN), .unset] [(.ref w_UNKNOWN)])) _
    refine st2 _ ?_
    show Steps p.tables e below (T2.setTop (mkF m 11 #[.val (.ref w_UNKNOWN), .val (.ref w_UNKNOWN), .unset] [(.ref w_FALSE), (.ref w_UNKNOWN)])) _
    refine Jvm.RoadKit.acmp (g := (mkF m 11 #[.val (.ref w_UNKNOWN), .val (.ref w_UNKNOWN), .unset] [(.ref w_FALSE), (.ref w_UNKNOWN)])) X2 hx rfl rfl rfl (pc0 := 11) (pc' := 21) (same := false) rfl (hb hby d3_11) rfl (decide_eq_false fun q => ne_UNKNOWN_FALSE (Value.ref.inj q)) (by decide) (by decide) ?_
    show Steps p.tables e below (T2.setTop (mkF m 21 #[.val (.ref w_UNKNOWN), .val (.ref w_UNKNOWN), .unset] [])) _
    refine XS.aloadN X2.here hx rfl (hb hby d3_21) rfl rfl ?_
    show Steps p.tables e below (T2.setTop (mkF m 22 #[.val (.ref w_UNKNOWN), .val (.ref w_UNKNOWN), .unset] [(.ref w_UNKNOWN)])) _
    refine st3 _ ?_
    show Steps p.tables e below (T3.setTop (mkF m 25 #[.val (.ref w_UNKNOWN), .val (.ref w_UNKNOWN), .unset] [(.ref w_UNKNOWN), (.ref w_UNKNOWN)])) _
    refine Jvm.RoadKit.acmp (g := (mkF m 25 #[.val (.ref w_UNKNOWN), .val (.ref w_UNKNOWN), .unset] [(.ref w_UNKNOWN), (.ref w_UNKNOWN)])) X3 hx rfl rfl rfl (pc0 := 25) (pc' := 35) (same := true) rfl (hb hby d3_25) rfl (decide_eq_true rfl) (by decide) (by decide) ?_
    show Steps p.tables e below (T3.setTop (mkF m 35 #[.val (.ref w_UNKNOWN), .val (.ref w_UNKNOWN), .unset] [])) _
    refine st4 _ ?_
    show Steps p.tables e below (T4.setTop (mkF m 38 #[.val (.ref w_UNKNOWN), .val (.ref w_UNKNOWN), .unset] [(.ref w_UNKNOWN)])) _
    refine XS.astoreN X4.here hx rfl (hb hby d3_38) rfl rfl (l' := #[.val (.ref w_UNKNOWN), .val (.ref w_UNKNOWN), .val (.ref w_UNKNOWN)]) rfl ?_
    show Steps p.tables e below (T4.setTop (mkF m 39 #[.val (.ref w_UNKNOWN), .val (.ref w_UNKNOWN), .val (.ref w_UNKNOWN)] [])) _
    refine XS.goto X4.here hx rfl (pc0 := 39) (pc' := 46) rfl (hb hby d3_39) (by decide) (by decide) ?_
    show Steps p.tables e below (T4.setTop (mkF m 46 #[.val (.ref w_UNKNOWN), .val (.ref w_UNKNOWN), .val (.ref w_UNKNOWN)] [])) _
    refine XS.aloadN X4.here hx rfl (hb hby d3_46) rfl rfl ?_
    show Steps p.tables e below (T4.setTop (mkF m 47 #[.val (.ref w_UNKNOWN), .val (.ref w_UNKNOWN), .val (.ref w_UNKNOWN)] [(.ref w_UNKNOWN)])) _
    jvm_step X4.here [X4.here.top, hx, (hb hby d3_47), X4.method', Bd.returns, Value.isRef, FieldType.isReference]
    first | (intro acts; rw [hr _ acts rfl rfl rfl]) | rw [hr _ _ rfl rfl rfl]
    exact Steps.refl _
  · show PQ (.ref w_UNKNOWN) h0 n0 _ T4.heap _
    exact ⟨rfl, N0, e4⟩

set_option maxRecDepth 65536 in
set_option maxHeartbeats 40000000 in
theorem and_1_2 (l : Launch) (Z : State) (a0 : Array Value) (hw : ∀ d ∈ tables_1, d.before a0 Z = true) (w_FALSE w_UNKNOWN w_TRUE : Addr) (h0 : Heap) (n0 : Nat) (Z0 : n0 ≤ h0.size) (S_FALSE : Sta Z h0 "com/example/kascade/kascade/engine/Truth" "FALSE" "Lcom/example/kascade/kascade/engine/Truth;" (.ref w_FALSE)) (S_UNKNOWN : Sta Z h0 "com/example/kascade/kascade/engine/Truth" "UNKNOWN" "Lcom/example/kascade/kascade/engine/Truth;" (.ref w_UNKNOWN)) (S_TRUE : Sta Z h0 "com/example/kascade/kascade/engine/Truth" "TRUE" "Lcom/example/kascade/kascade/engine/Truth;" (.ref w_TRUE)) (ne_FALSE_UNKNOWN : ¬ (w_FALSE = w_UNKNOWN)) (ne_FALSE_TRUE : ¬ (w_FALSE = w_TRUE)) (ne_UNKNOWN_FALSE : ¬ (w_UNKNOWN = w_FALSE)) (ne_UNKNOWN_TRUE : ¬ (w_UNKNOWN = w_TRUE)) (ne_TRUE_FALSE : ¬ (w_TRUE = w_FALSE)) (ne_TRUE_UNKNOWN : ¬ (w_TRUE = w_UNKNOWN)) :
    Pays l Z h0 n0 (⟨"com/example/kascade/kascade/engine/Truth", "and", "(Lcom/example/kascade/kascade/engine/Truth;)Lcom/example/kascade/kascade/engine/Truth;"⟩ : MethodName) [Jvm.Cond.code (⟨"com/example/kascade/kascade/engine/Truth", "and", "(Lcom/example/kascade/kascade/engine/Truth;)Lcom/example/kascade/kascade/engine/Truth;"⟩ : MethodName) prog_15_method_5_code 3 (some (.object "com/example/kascade/kascade/engine/Truth"))] R0 #[(.ref w_UNKNOWN), (.ref w_TRUE)] (.ref w_UNKNOWN) := by
  refine MetFree.of_bodySF (plainFor_of_name pn_Truth) hisR ?_
  intro p e s m args below meth c s₁ Bd hml0 hP hK
  obtain ⟨rfl, hZ, hh⟩ := hP
  have hx := Bd.exec
  have hby := Bd.bytes
  have hml : c.maxLocals = 3 := hml0
  have hown : s.vm.findClass "com/example/kascade/kascade/engine/Truth" = some m.cls := findClass_of_methodNamed Bd.named
  have X0 : Stand p l e R0 s m #[(.ref w_UNKNOWN), (.ref w_TRUE)] below meth c s₁ [] 0 0 := Stand.of_body Bd
  have e0 : s₁.heap = h0 := by rw [← hh, Bd.state]; rfl
  have N0 := Fr.nil n0
  have pre0 : ∀ t, Steps p.tables e below (s₁.setTop (mkF m 0 #[.val (.ref w_UNKNOWN), .val (.ref w_TRUE), .unset] [])) t → Steps p.tables e below (s₁.setTop (entryFrame m #[(.ref w_UNKNOWN), (.ref w_TRUE)] 3)) t := fun t k => castTop (ef_3 m w_UNKNOWN w_TRUE) k
  obtain ⟨T1, X1, e1, st1⟩ := getS2 X0 hx hZ hown (host := "") (Or.inl (hw _ (List.mem_of_getElem? (i := 17) rfl))) Via.refl e0 S_FALSE (g := (mkF m 1 #[.val (.ref w_UNKNOWN), .val (.ref w_TRUE), .unset] [(.ref w_UNKNOWN)])) rfl (hb hby d3_1)
  obtain ⟨T2, X2, e2, st2⟩ := getS2 X1 hx hZ hown (host := "") (Or.inl (hw _ (List.mem_of_getElem? (i := 17) rfl))) Via.refl e1 S_FALSE (g := (mkF m 8 #[.val (.ref w_UNKNOWN), .val (.ref w_TRUE), .unset] [(.ref w_TRUE)])) rfl (hb hby d3_8)
  obtain ⟨T3, X3, e3, st3⟩ := getS2 X2 hx hZ hown (host := "") (Or.inl (hw _ (List.mem_of_getElem? (i := 22) rfl))) Via.refl e2 S_UNKNOWN (g := (mkF m 22 #[.val (.ref w_UNKNOWN), .val (.ref w_TRUE), .unset] [(.ref w_UNKNOWN)])) rfl (hb hby d3_22)
  obtain ⟨T4, X4, e4, st4⟩ := getS2 X3 hx hZ hown (host := "") (Or.inl (hw _ (List.mem_of_getElem? (i := 22) rfl))) Via.refl e3 S_UNKNOWN (g := (mkF m 35 #[.val (.ref w_UNKNOWN), .val (.ref w_TRUE), .unset] [])) rfl (hb hby d3_35)
  obtain ⟨fs, hr, hrun, hended, hW, hsame⟩ := X4.leave (v := some (.ref w_UNKNOWN)) (fun h => by rw [Bd.returns] at h; cases h)
  refine ⟨_, _, pre0 _ ?_, hrun, hended, _, _, rfl, ?_, ⟨_, rfl⟩, hW, hsame.mono (by decide) (by decide)⟩
  · show Steps p.tables e below (s₁.setTop (mkF m 0 #[.val (.ref w_UNKNOWN), .val (.ref w_TRUE), .unset] [])) _
    refine XS.aloadN X0.here hx rfl (hb hby d3_0) rfl rfl ?_
    show Steps p.tables e below (s₁.setTop (mkF m 1 #[.val (.ref w_UNKNOWN), .val (.ref w_TRUE), .unset] [(.ref w_UNKNOWN)])) _
    refine st1 _ ?_
    show Steps p.tables e below (T1.setTop (mkF m 4 #[.val (.ref w_UNKNOWN), .val (.ref w_TRUE), .unset] [(.ref w_FALSE), (.ref w_UNKNOWN)])) _
    refine Jvm.RoadKit.acmp (g := (mkF m 4 #[.val (.ref w_UNKNOWN), .val (.ref w_TRUE), .unset] [(.ref w_FALSE), (.ref w_UNKNOWN)])) X1 hx rfl rfl rfl (pc0 := 4) (pc' := 7) (same := false) rfl (hb hby d3_4) rfl (decide_eq_false fun q => ne_UNKNOWN_FALSE (Value.ref.inj q)) (by decide) (by decide) ?_
    show Steps p.tables e below (T1.setTop (mkF m 7 #[.val (.ref w_UNKNOWN), .val (.ref w_TRUE), .unset] [])) _
    refine XS.aloadN X1.here hx rfl (hb hby d3_7) rfl rfl ?_
    show Steps p.tables e below (T1.setTop (mkF m 8 #[.val (.ref w_UNKNOWN), .val (.ref w_TRUE), .unset] [(.ref w_TRUE)])) _
    refine st2 _ ?_
    show Steps p.tables e below (T2.setTop (mkF m 11 #[.val (.ref w_UNKNOWN), .val (.ref w_TRUE), .unset] [(.ref w_FALSE), (.ref w_TRUE)])) _
    refine Jvm.RoadKit.acmp (g := (mkF m 11 #[.val (.ref w_UNKNOWN), .val (.ref w_TRUE), .unset] [(.ref w_FALSE), (.ref w_TRUE)])) X2 hx rfl rfl rfl (pc0 := 11) (pc' := 21) (same := false) rfl (hb hby d3_11) rfl (decide_eq_false fun q => ne_TRUE_FALSE (Value.ref.inj q)) (by decide) (by decide) ?_
    show Steps p.tables e below (T2.setTop (mkF m 21 #[.val (.ref w_UNKNOWN), .val (.ref w_TRUE), .unset] [])) _
    refine XS.aloadN X2.here hx rfl (hb hby d3_21) rfl rfl ?_
    show Steps p.tables e below (T2.setTop (mkF m 22 #[.val (.ref w_UNKNOWN), .val (.ref w_TRUE), .unset] [(.ref w_UNKNOWN)])) _
    refine st3 _ ?_
    show Steps p.tables e below (T3.setTop (mkF m 25 #[.val (.ref w_UNKNOWN), .val (.ref w_TRUE), .unset] [(.ref w_UNKNOWN), (.ref w_UNKNOWN)])) _
    refine Jvm.RoadKit.acmp (g := (mkF m 25 #[.val (.ref w_UNKNOWN), .val (.ref w_TRUE), .unset] [(.ref w_UNKNOWN), (.ref w_UNKNOWN)])) X3 hx rfl rfl rfl (pc0 := 25) (pc' := 35) (same := true) rfl (hb hby d3_25) rfl (decide_eq_true rfl) (by decide) (by decide) ?_
    show Steps p.tables e below (T3.setTop (mkF m 35 #[.val (.ref w_UNKNOWN), .val (.ref w_TRUE), .unset] [])) _
    refine st4 _ ?_
    show Steps p.tables e below (T4.setTop (mkF m 38 #[.val (.ref w_UNKNOWN), .val (.ref w_TRUE), .unset] [(.ref w_UNKNOWN)])) _
    refine XS.astoreN X4.here hx rfl (hb hby d3_38) rfl rfl (l' := #[.val (.ref w_UNKNOWN), .val (.ref w_TRUE), .val (.ref w_UNKNOWN)]) rfl ?_
    show Steps p.tables e below (T4.setTop (mkF m 39 #[.val (.ref w_UNKNOWN), .val (.ref w_TRUE), .val (.ref w_UNKNOWN)] [])) _
    refine XS.goto X4.here hx rfl (pc0 := 39) (pc' := 46) rfl (hb hby d3_39) (by decide) (by decide) ?_
    show Steps p.tables e below (T4.setTop (mkF m 46 #[.val (.ref w_UNKNOWN), .val (.ref w_TRUE), .val (.ref w_UNKNOWN)] [])) _
    refine XS.aloadN X4.here hx rfl (hb hby d3_46) rfl rfl ?_
    show Steps p.tables e below (T4.setTop (mkF m 47 #[.val (.ref w_UNKNOWN), .val (.ref w_TRUE), .val (.ref w_UNKNOWN)] [(.ref w_UNKNOWN)])) _
    jvm_step X4.here [X4.here.top, hx, (hb hby d3_47), X4.method', Bd.returns, Value.isRef, FieldType.isReference]
    first | (intro acts; rw [hr _ acts rfl rfl rfl]) | rw [hr _ _ rfl rfl rfl]
    exact Steps.refl _
  · show PQ (.ref w_UNKNOWN) h0 n0 _ T4.heap _
    exact ⟨rfl, N0, e4⟩

set_option maxRecDepth 65536 in
set_option maxHeartbeats 40000000 in
theorem and_2_0 (l : Launch) (Z : State) (a0 : Array Value) (hw : ∀ d ∈ tables_1, d.before a0 Z = true) (w_FALSE w_UNKNOWN w_TRUE : Addr) (h0 : Heap) (n0 : Nat) (Z0 : n0 ≤ h0.size) (S_FALSE : Sta Z h0 "com/example/kascade/kascade/engine/Truth" "FALSE" "Lcom/example/kascade/kascade/engine/Truth;" (.ref w_FALSE)) (S_UNKNOWN : Sta Z h0 "com/example/kascade/kascade/engine/Truth" "UNKNOWN" "Lcom/example/kascade/kascade/engine/Truth;" (.ref w_UNKNOWN)) (S_TRUE : Sta Z h0 "com/example/kascade/kascade/engine/Truth" "TRUE" "Lcom/example/kascade/kascade/engine/Truth;" (.ref w_TRUE)) (ne_FALSE_UNKNOWN : ¬ (w_FALSE = w_UNKNOWN)) (ne_FALSE_TRUE : ¬ (w_FALSE = w_TRUE)) (ne_UNKNOWN_FALSE : ¬ (w_UNKNOWN = w_FALSE)) (ne_UNKNOWN_TRUE : ¬ (w_UNKNOWN = w_TRUE)) (ne_TRUE_FALSE : ¬ (w_TRUE = w_FALSE)) (ne_TRUE_UNKNOWN : ¬ (w_TRUE = w_UNKNOWN)) :
    Pays l Z h0 n0 (⟨"com/example/kascade/kascade/engine/Truth", "and", "(Lcom/example/kascade/kascade/engine/Truth;)Lcom/example/kascade/kascade/engine/Truth;"⟩ : MethodName) [Jvm.Cond.code (⟨"com/example/kascade/kascade/engine/Truth", "and", "(Lcom/example/kascade/kascade/engine/Truth;)Lcom/example/kascade/kascade/engine/Truth;"⟩ : MethodName) prog_15_method_5_code 3 (some (.object "com/example/kascade/kascade/engine/Truth"))] R0 #[(.ref w_TRUE), (.ref w_FALSE)] (.ref w_FALSE) := by
  refine MetFree.of_bodySF (plainFor_of_name pn_Truth) hisR ?_
  intro p e s m args below meth c s₁ Bd hml0 hP hK
  obtain ⟨rfl, hZ, hh⟩ := hP
  have hx := Bd.exec
  have hby := Bd.bytes
  have hml : c.maxLocals = 3 := hml0
  have hown : s.vm.findClass "com/example/kascade/kascade/engine/Truth" = some m.cls := findClass_of_methodNamed Bd.named
  have X0 : Stand p l e R0 s m #[(.ref w_TRUE), (.ref w_FALSE)] below meth c s₁ [] 0 0 := Stand.of_body Bd
  have e0 : s₁.heap = h0 := by rw [← hh, Bd.state]; rfl
  have N0 := Fr.nil n0
  have pre0 : ∀ t, Steps p.tables e below (s₁.setTop (mkF m 0 #[.val (.ref w_TRUE), .val (.ref w_FALSE), .unset] [])) t → Steps p.tables e below (s₁.setTop (entryFrame m #[(.ref w_TRUE), (.ref w_FALSE)] 3)) t := fun t k => castTop (ef_3 m w_TRUE w_FALSE) k
  obtain ⟨T1, X1, e1, st1⟩ := getS2 X0 hx hZ hown (host := "") (Or.inl (hw _ (List.mem_of_getElem? (i := 17) rfl))) Via.refl e0 S_FALSE (g := (mkF m 1 #[.val (.ref w_TRUE), .val (.ref w_FALSE), .unset] [(.ref w_TRUE)])) rfl (hb hby d3_1)
  obtain ⟨T2, X2, e2, st2⟩ := getS2 X1 hx hZ hown (host := "") (Or.inl (hw _ (List.mem_of_getElem? (i := 17) rfl))) Via.refl e1 S_FALSE (g := (mkF m 8 #[.val (.ref w_TRUE), .val (.ref w_FALSE), .unset] [(.ref w_FALSE)])) rfl (hb hby d3_8)
  obtain ⟨T3, X3, e3, st3⟩ := getS2 X2 hx hZ hown (host := "") (Or.inl (hw _ (List.mem_of_getElem? (i := 17) rfl))) Via.refl e2 S_FALSE (g := (mkF m 14 #[.val (.ref w_TRUE), .val (.ref w_FALSE), .unset] [])) rfl (hb hby d3_14)
  obtain ⟨fs, hr, hrun, hended, hW, hsame⟩ := X3.leave (v := some (.ref w_FALSE)) (fun h => by rw [Bd.returns] at h; cases h)
  refine ⟨_, _, pre0 _ ?_, hrun, hended, _, _, rfl, ?_, ⟨_, rfl⟩, hW, hsame.mono (by decide) (by decide)⟩
  · show Steps p.tables e below (s₁.setTop (mkF m 0 #[.val (.ref w_TRUE), .val (.ref w_FALSE), .unset] [])) _
    refine XS.aloadN X0.here hx rfl (hb hby d3_0) rfl rfl ?_
    show Steps p.tables e below (s₁.setTop (mkF m 1 #[.val (.ref w_TRUE), .val (.ref w_FALSE), .unset] [(.ref w_TRUE)])) _
    refine st1 _ ?_
    show Steps p.tables e below (T1.setTop (mkF m 4 #[.val (.ref w_TRUE), .val (.ref w_FALSE), .unset] [(.ref w_FALSE), (.ref w_TRUE)])) _
    refine Jvm.RoadKit.acmp (g := (mkF m 4 #[.val (.ref w_TRUE), .val (.ref w_FALSE), .unset] [(.ref w_FALSE), (.ref w_TRUE)])) X1 hx rfl rfl rfl (pc0 := 4) (pc' := 7) (same := false) rfl (hb hby d3_4) rfl (decide_eq_false fun q => ne_TRUE_FALSE (Value.ref.inj q)) (by decide) (by decide) ?_
    show Steps p.tables e below (T1.setTop (mkF m 7 #[.val (.ref w_TRUE), .val (.ref w_FALSE), .unset] [])) _
    refine XS.aloadN X1.here hx rfl (hb hby d3_7) rfl rfl ?_
    show Steps p.tables e below (T1.setTop (mkF m 8 #[.val (.ref w_TRUE), .val (.ref w_FALSE), .unset] [(.ref w_FALSE)])) _
    refine st2 _ ?_
    show Steps p.tables e below (T2.setTop (mkF m 11 #[.val (.ref w_TRUE), .val (.ref w_FALSE), .unset] [(.ref w_FALSE), (.ref w_FALSE)])) _
    refine Jvm.RoadKit.acmp (g := (mkF m 11 #[.val (.ref w_TRUE), .val (.ref w_FALSE), .unset] [(.ref w_FALSE), (.ref w_FALSE)])) X2 hx rfl rfl rfl (pc0 := 11) (pc' := 14) (same := true) rfl (hb hby d3_11) rfl (decide_eq_true rfl) (by decide) (by decide) ?_
    show Steps p.tables e below (T2.setTop (mkF m 14 #[.val (.ref w_TRUE), .val (.ref w_FALSE), .unset] [])) _
    refine st3 _ ?_
    show Steps p.tables e below (T3.setTop (mkF m 17 #[.val (.ref w_TRUE), .val (.ref w_FALSE), .unset] [(.ref w_FALSE)])) _
    refine XS.astoreN X3.here hx rfl (hb hby d3_17) rfl rfl (l' := #[.val (.ref w_TRUE), .val (.ref w_FALSE), .val (.ref w_FALSE)]) rfl ?_
    show Steps p.tables e below (T3.setTop (mkF m 18 #[.val (.ref w_TRUE), .val (.ref w_FALSE), .val (.ref w_FALSE)] [])) _
    refine XS.goto X3.here hx rfl (pc0 := 18) (pc' := 46) rfl (hb hby d3_18) (by decide) (by decide) ?_
    show Steps p.tables e below (T3.setTop (mkF m 46 #[.val (.ref w_TRUE), .val (.ref w_FALSE), .val (.ref w_FALSE)] [])) _
    refine XS.aloadN X3.here hx rfl (hb hby d3_46) rfl rfl ?_
    show Steps p.tables e below (T3.setTop (mkF m 47 #[.val (.ref w_TRUE), .val (.ref w_FALSE), .val (.ref w_FALSE)] [(.ref w_FALSE)])) _
    jvm_step X3.here [X3.here.top, hx, (hb hby d3_47), X3.method', Bd.returns, Value.isRef, FieldType.isReference]
    first | (intro acts; rw [hr _ acts rfl rfl rfl]) | rw [hr _ _ rfl rfl rfl]
    exact Steps.refl _
  · show PQ (.ref w_FALSE) h0 n0 _ T3.heap _
    exact ⟨rfl, N0, e3⟩

theorem d3_28 : decode prog_15_method_5_code 28 = .ok (.aload_n 1, 1) := by decide +kernel
theorem d3_29 : decode prog_15_method_5_code 29 = .ok (.getstatic 10, 3) := by decide +kernel
theorem d3_32 : decode prog_15_method_5_code 32 = .ok (.if_acmp .ne 10, 3) := by decide +kernel
set_option maxRecDepth 65536 in
set_option maxHeartbeats 40000000 in
theorem and_2_1 (l : Launch) (Z : State) (a0 : Array Value) (hw : ∀ d ∈ tables_1, d.before a0 Z = true) (w_FALSE w_UNKNOWN w_TRUE : Addr) (h0 : Heap) (n0 : Nat) (Z0 : n0 ≤ h0.size) (S_FALSE : Sta Z h0 "com/example/kascade/kascade/engine/Truth" "FALSE" "Lcom/example/kascade/kascade/engine/Truth;" (.ref w_FALSE)) (S_UNKNOWN : Sta Z h0 "com/example/kascade/kascade/engine/Truth" "UNKNOWN" "Lcom/example/kascade/kascade/engine/Truth;" (.ref w_UNKNOWN)) (S_TRUE : Sta Z h0 "com/example/kascade/kascade/engine/Truth" "TRUE" "Lcom/example/kascade/kascade/engine/Truth;" (.ref w_TRUE)) (ne_FALSE_UNKNOWN : ¬ (w_FALSE = w_UNKNOWN)) (ne_FALSE_TRUE : ¬ (w_FALSE = w_TRUE)) (ne_UNKNOWN_FALSE : ¬ (w_UNKNOWN = w_FALSE)) (ne_UNKNOWN_TRUE : ¬ (w_UNKNOWN = w_TRUE)) (ne_TRUE_FALSE : ¬ (w_TRUE = w_FALSE)) (ne_TRUE_UNKNOWN : ¬ (w_TRUE = w_UNKNOWN)) :
    Pays l Z h0 n0 (⟨"com/example/kascade/kascade/engine/Truth", "and", "(Lcom/example/kascade/kascade/engine/Truth;)Lcom/example/kascade/kascade/engine/Truth;"⟩ : MethodName) [Jvm.Cond.code (⟨"com/example/kascade/kascade/engine/Truth", "and", "(Lcom/example/kascade/kascade/engine/Truth;)Lcom/example/kascade/kascade/engine/Truth;"⟩ : MethodName) prog_15_method_5_code 3 (some (.object "com/example/kascade/kascade/engine/Truth"))] R0 #[(.ref w_TRUE), (.ref w_UNKNOWN)] (.ref w_UNKNOWN) := by
  refine MetFree.of_bodySF (plainFor_of_name pn_Truth) hisR ?_
  intro p e s m args below meth c s₁ Bd hml0 hP hK
  obtain ⟨rfl, hZ, hh⟩ := hP
  have hx := Bd.exec
  have hby := Bd.bytes
  have hml : c.maxLocals = 3 := hml0
  have hown : s.vm.findClass "com/example/kascade/kascade/engine/Truth" = some m.cls := findClass_of_methodNamed Bd.named
  have X0 : Stand p l e R0 s m #[(.ref w_TRUE), (.ref w_UNKNOWN)] below meth c s₁ [] 0 0 := Stand.of_body Bd
  have e0 : s₁.heap = h0 := by rw [← hh, Bd.state]; rfl
  have N0 := Fr.nil n0
  have pre0 : ∀ t, Steps p.tables e below (s₁.setTop (mkF m 0 #[.val (.ref w_TRUE), .val (.ref w_UNKNOWN), .unset] [])) t → Steps p.tables e below (s₁.setTop (entryFrame m #[(.ref w_TRUE), (.ref w_UNKNOWN)] 3)) t := fun t k => castTop (ef_3 m w_TRUE w_UNKNOWN) k
  obtain ⟨T1, X1, e1, st1⟩ := getS2 X0 hx hZ hown (host := "") (Or.inl (hw _ (List.mem_of_getElem? (i := 17) rfl))) Via.refl e0 S_FALSE (g := (mkF m 1 #[.val (.ref w_TRUE), .val (.ref w_UNKNOWN), .unset] [(.ref w_TRUE)])) rfl (hb hby d3_1)
  obtain ⟨T2, X2, e2, st2⟩ := getS2 X1 hx hZ hown (host := "") (Or.inl (hw _ (List.mem_of_getElem? (i := 17) rfl))) Via.refl e1 S_FALSE (g := (mkF m 8 #[.val (.ref w_TRUE), .val (.ref w_UNKNOWN), .unset] [(.ref w_UNKNOWN)])) rfl (hb hby d3_8)
  obtain ⟨T3, X3, e3, st3⟩ := getS2 X2 hx hZ hown (host := "") (Or.inl (hw _ (List.mem_of_getElem? (i := 22) rfl))) Via.refl e2 S_UNKNOWN (g := (mkF m 22 #[.val (.ref w_TRUE), .val (.ref w_UNKNOWN), .unset] [(.ref w_TRUE)])) rfl (hb hby d3_22)
  obtain ⟨T4, X4, e4, st4⟩ := getS2 X3 hx hZ hown (host := "") (Or.inl (hw _ (List.mem_of_getElem? (i := 22) rfl))) Via.refl e3 S_UNKNOWN (g := (mkF m 29 #[.val (.ref w_TRUE), .val (.ref w_UNKNOWN), .unset] [(.ref w_UNKNOWN)])) rfl (hb hby d3_29)
  obtain ⟨T5, X5, e5, st5⟩ := getS2 X4 hx hZ hown (host := "") (Or.inl (hw _ (List.mem_of_getElem? (i := 22) rfl))) Via.refl e4 S_UNKNOWN (g := (mkF m 35 #[.val (.ref w_TRUE), .val (.ref w_UNKNOWN), .unset] [])) rfl (hb hby d3_35)
  obtain ⟨fs, hr, hrun, hended, hW, hsame⟩ := X5.leave (v := some (.ref w_UNKNOWN)) (fun h => by rw [Bd.returns] at h; cases h)
  refine ⟨_, _, pre0 _ ?_, hrun, hended, _, _, rfl, ?_, ⟨_, rfl⟩, hW, hsame.mono (by decide) (by decide)⟩
  · show Steps p.tables e below (s₁.setTop (mkF m 0 #[.val (.ref w_TRUE), .val (.ref w_UNKNOWN), .unset] [])) _
    refine XS.aloadN X0.here hx rfl (hb hby d3_0) rfl rfl ?_
    show Steps p.tables e below (s₁.setTop (mkF m 1 #[.val (.ref w_TRUE), .val (.ref w_UNKNOWN), .unset] [(.ref w_TRUE)])) _
    refine st1 _ ?_
    show Steps p.tables e below (T1.setTop (mkF m 4 #[.val (.ref w_TRUE), .val (.ref w_UNKNOWN), .unset] [(.ref w_FALSE), (.ref w_TRUE)])) _
    refine Jvm.RoadKit.acmp (g := (mkF m 4 #[.val (.ref w_TRUE), .val (.ref w_UNKNOWN), .unset] [(.ref w_FALSE), (.ref w_TRUE)])) X1 hx rfl rfl rfl (pc0 := 4) (pc' := 7) (same := false) rfl (hb hby d3_4) rfl (decide_eq_false fun q => ne_TRUE_FALSE (Value.ref.inj q)) (by decide) (by decide) ?_
    show Steps p.tables e below (T1.setTop (mkF m 7 #[.val (.ref w_TRUE), .val (.ref w_UNKNOWN), .unset] [])) _
    refine XS.aloadN X1.here hx rfl (hb hby d3_7) rfl rfl ?_
    show Steps p.tables e below (T1.setTop (mkF m 8 #[.val (.ref w_TRUE), .val (.ref w_UNKNOWN), .unset] [(.ref w_UNKNOWN)])) _
    refine st2 _ ?_
    show Steps p.tables e below (T2.setTop (mkF m 11 #[.val (.ref w_TRUE), .val (.ref w_UNKNOWN), .unset] [(.ref w_FALSE), (.ref w_UNKNOWN)])) _
    refine Jvm.RoadKit.acmp (g := (mkF m 11 #[.val (.ref w_TRUE), .val (.ref w_UNKNOWN), .unset] [(.ref w_FALSE), (.ref w_UNKNOWN)])) X2 hx rfl rfl rfl (pc0 := 11) (pc' := 21) (same := false) rfl (hb hby d3_11) rfl (decide_eq_false fun q => ne_UNKNOWN_FALSE (Value.ref.inj q)) (by decide) (by decide) ?_
    show Steps p.tables e below (T2.setTop (mkF m 21 #[.val (.ref w_TRUE), .val (.ref w_UNKNOWN), .unset] [])) _
    refine XS.aloadN X2.here hx rfl (hb hby d3_21) rfl rfl ?_
    show Steps p.tables e below (T2.setTop (mkF m 22 #[.val (.ref w_TRUE), .val (.ref w_UNKNOWN), .unset] [(.ref w_TRUE)])) _
    refine st3 _ ?_
    show Steps p.tables e below (T3.setTop (mkF m 25 #[.val (.ref w_TRUE), .val (.ref w_UNKNOWN), .unset] [(.ref w_UNKNOWN), (.ref w_TRUE)])) _
    refine Jvm.RoadKit.acmp (g := (mkF m 25 #[.val (.ref w_TRUE), .val (.ref w_UNKNOWN), .unset] [(.ref w_UNKNOWN), (.ref w_TRUE)])) X3 hx rfl rfl rfl (pc0 := 25) (pc' := 28) (same := false) rfl (hb hby d3_25) rfl (decide_eq_false fun q => ne_TRUE_UNKNOWN (Value.ref.inj q)) (by decide) (by decide) ?_
    show Steps p.tables e below (T3.setTop (mkF m 28 #[.val (.ref w_TRUE), .val (.ref w_UNKNOWN), .unset] [])) _
    refine XS.aloadN X3.here hx rfl (hb hby d3_28) rfl rfl ?_
    show Steps p.tables e below (T3.setTop (mkF m 29 #[.val (.ref w_TRUE), .val (.ref w_UNKNOWN), .unset] [(.ref w_UNKNOWN)])) _
    refine st4 _ ?_
    show Steps p.tables e below (T4.setTop (mkF m 32 #[.val (.ref w_TRUE), .val (.ref w_UNKNOWN), .unset] [(.ref w_UNKNOWN), (.ref w_UNKNOWN)])) _
    refine Jvm.RoadKit.acmp (g := (mkF m 32 #[.val (.ref w_TRUE), .val (.ref w_UNKNOWN), .unset] [(.ref w_UNKNOWN), (.ref w_UNKNOWN)])) X4 hx rfl rfl rfl (pc0 := 32) (pc' := 35) (same := true) rfl (hb hby d3_32) rfl (decide_eq_true rfl) (by decide) (by decide) ?_
    show Steps p.tables e below (T4.setTop (mkF m 35 #[.val (.ref w_TRUE), .val (.ref w_UNKNOWN), .unset] [])) _
    refine st5 _ ?_
    show Steps p.tables e below (T5.setTop (mkF m 38 #[.val (.ref w_TRUE), .val (.ref w_UNKNOWN), .unset] [(.ref w_UNKNOWN)])) _
    refine XS.astoreN X5.here hx rfl (hb hby d3_38) rfl rfl (l' := #[.val (.ref w_TRUE), .val (.ref w_UNKNOWN), .val (.ref w_UNKNOWN)]) rfl ?_
    show Steps p.tables e below (T5.setTop (mkF m 39 #[.val (.ref w_TRUE), .val (.ref w_UNKNOWN), .val (.ref w_UNKNOWN)] [])) _
    refine XS.goto X5.here hx rfl (pc0 := 39) (pc' := 46) rfl (hb hby d3_39) (by decide) (by decide) ?_
    show Steps p.tables e below (T5.setTop (mkF m 46 #[.val (.ref w_TRUE), .val (.ref w_UNKNOWN), .val (.ref w_UNKNOWN)] [])) _
    refine XS.aloadN X5.here hx rfl (hb hby d3_46) rfl rfl ?_
    show Steps p.tables e below (T5.setTop (mkF m 47 #[.val (.ref w_TRUE), .val (.ref w_UNKNOWN), .val (.ref w_UNKNOWN)] [(.ref w_UNKNOWN)])) _
    jvm_step X5.here [X5.here.top, hx, (hb hby d3_47), X5.method', Bd.returns, Value.isRef, FieldType.isReference]
    first | (intro acts; rw [hr _ acts rfl rfl rfl]) | rw [hr _ _ rfl rfl rfl]
    exact Steps.refl _
  · show PQ (.ref w_UNKNOWN) h0 n0 _ T5.heap _
    exact ⟨rfl, N0, e5⟩

theorem d3_42 : decode prog_15_method_5_code 42 = .ok (.getstatic 3, 3) := by decide +kernel
theorem d3_45 : decode prog_15_method_5_code 45 = .ok (.astore_n 2, 1) := by decide +kernel
set_option maxRecDepth 65536 in
set_option maxHeartbeats 40000000 in
theorem and_2_2 (l : Launch) (Z : State) (a0 : Array Value) (hw : ∀ d ∈ tables_1, d.before a0 Z = true) (w_FALSE w_UNKNOWN w_TRUE : Addr) (h0 : Heap) (n0 : Nat) (Z0 : n0 ≤ h0.size) (S_FALSE : Sta Z h0 "com/example/kascade/kascade/engine/Truth" "FALSE" "Lcom/example/kascade/kascade/engine/Truth;" (.ref w_FALSE)) (S_UNKNOWN : Sta Z h0 "com/example/kascade/kascade/engine/Truth" "UNKNOWN" "Lcom/example/kascade/kascade/engine/Truth;" (.ref w_UNKNOWN)) (S_TRUE : Sta Z h0 "com/example/kascade/kascade/engine/Truth" "TRUE" "Lcom/example/kascade/kascade/engine/Truth;" (.ref w_TRUE)) (ne_FALSE_UNKNOWN : ¬ (w_FALSE = w_UNKNOWN)) (ne_FALSE_TRUE : ¬ (w_FALSE = w_TRUE)) (ne_UNKNOWN_FALSE : ¬ (w_UNKNOWN = w_FALSE)) (ne_UNKNOWN_TRUE : ¬ (w_UNKNOWN = w_TRUE)) (ne_TRUE_FALSE : ¬ (w_TRUE = w_FALSE)) (ne_TRUE_UNKNOWN : ¬ (w_TRUE = w_UNKNOWN)) :
    Pays l Z h0 n0 (⟨"com/example/kascade/kascade/engine/Truth", "and", "(Lcom/example/kascade/kascade/engine/Truth;)Lcom/example/kascade/kascade/engine/Truth;"⟩ : MethodName) [Jvm.Cond.code (⟨"com/example/kascade/kascade/engine/Truth", "and", "(Lcom/example/kascade/kascade/engine/Truth;)Lcom/example/kascade/kascade/engine/Truth;"⟩ : MethodName) prog_15_method_5_code 3 (some (.object "com/example/kascade/kascade/engine/Truth"))] R0 #[(.ref w_TRUE), (.ref w_TRUE)] (.ref w_TRUE) := by
  refine MetFree.of_bodySF (plainFor_of_name pn_Truth) hisR ?_
  intro p e s m args below meth c s₁ Bd hml0 hP hK
  obtain ⟨rfl, hZ, hh⟩ := hP
  have hx := Bd.exec
  have hby := Bd.bytes
  have hml : c.maxLocals = 3 := hml0
  have hown : s.vm.findClass "com/example/kascade/kascade/engine/Truth" = some m.cls := findClass_of_methodNamed Bd.named
  have X0 : Stand p l e R0 s m #[(.ref w_TRUE), (.ref w_TRUE)] below meth c s₁ [] 0 0 := Stand.of_body Bd
  have e0 : s₁.heap = h0 := by rw [← hh, Bd.state]; rfl
  have N0 := Fr.nil n0
  have pre0 : ∀ t, Steps p.tables e below (s₁.setTop (mkF m 0 #[.val (.ref w_TRUE), .val (.ref w_TRUE), .unset] [])) t → Steps p.tables e below (s₁.setTop (entryFrame m #[(.ref w_TRUE), (.ref w_TRUE)] 3)) t := fun t k => castTop (ef_3 m w_TRUE w_TRUE) k
  obtain ⟨T1, X1, e1, st1⟩ := getS2 X0 hx hZ hown (host := "") (Or.inl (hw _ (List.mem_of_getElem? (i := 17) rfl))) Via.refl e0 S_FALSE (g := (mkF m 1 #[.val (.ref w_TRUE), .val (.ref w_TRUE), .unset] [(.ref w_TRUE)])) rfl (hb hby d3_1)
  obtain ⟨T2, X2, e2, st2⟩ := getS2 X1 hx hZ hown (host := "") (Or.inl (hw _ (List.mem_of_getElem? (i := 17) rfl))) Via.refl e1 S_FALSE (g := (mkF m 8 #[.val (.ref w_TRUE), .val (.ref w_TRUE), .unset] [(.ref w_TRUE)])) rfl (hb hby d3_8)
  obtain ⟨T3, X3, e3, st3⟩ := getS2 X2 hx hZ hown (host := "") (Or.inl (hw _ (List.mem_of_getElem? (i := 22) rfl))) Via.refl e2 S_UNKNOWN (g := (mkF m 22 #[.val (.ref w_TRUE), .val (.ref w_TRUE), .unset] [(.ref w_TRUE)])) rfl (hb hby d3_22)
  obtain ⟨T4, X4, e4, st4⟩ := getS2 X3 hx hZ hown (host := "") (Or.inl (hw _ (List.mem_of_getElem? (i := 22) rfl))) Via.refl e3 S_UNKNOWN (g := (mkF m 29 #[.val (.ref w_TRUE), .val (.ref w_TRUE), .unset] [(.ref w_TRUE)])) rfl (hb hby d3_29)
  obtain ⟨T5, X5, e5, st5⟩ := getS2 X4 hx hZ hown (host := "") (Or.inl (hw _ (List.mem_of_getElem? (i := 23) rfl))) Via.refl e4 S_TRUE (g := (mkF m 42 #[.val (.ref w_TRUE), .val (.ref w_TRUE), .unset] [])) rfl (hb hby d3_42)
  obtain ⟨fs, hr, hrun, hended, hW, hsame⟩ := X5.leave (v := some (.ref w_TRUE)) (fun h => by rw [Bd.returns] at h; cases h)
  refine ⟨_, _, pre0 _ ?_, hrun, hended, _, _, rfl, ?_, ⟨_, rfl⟩, hW, hsame.mono (by decide) (by decide)⟩
  · show Steps p.tables e below (s₁.setTop (mkF m 0 #[.val (.ref w_TRUE), .val (.ref w_TRUE), .unset] [])) _
    refine XS.aloadN X0.here hx rfl (hb hby d3_0) rfl rfl ?_
    show Steps p.tables e below (s₁.setTop (mkF m 1 #[.val (.ref w_TRUE), .val (.ref w_TRUE), .unset] [(.ref w_TRUE)])) _
    refine st1 _ ?_
    show Steps p.tables e below (T1.setTop (mkF m 4 #[.val (.ref w_TRUE), .val (.ref w_TRUE), .unset] [(.ref w_FALSE), (.ref w_TRUE)])) _
    refine Jvm.RoadKit.acmp (g := (mkF m 4 #[.val (.ref w_TRUE), .val (.ref w_TRUE), .unset] [(.ref w_FALSE), (.ref w_TRUE)])) X1 hx rfl rfl rfl (pc0 := 4) (pc' := 7) (same := false) rfl (hb hby d3_4) rfl (decide_eq_false fun q => ne_TRUE_FALSE (Value.ref.inj q)) (by decide) (by decide) ?_
    show Steps p.tables e below (T1.setTop (mkF m 7 #[.val (.ref w_TRUE), .val (.ref w_TRUE), .unset] [])) _
    refine XS.aloadN X1.here hx rfl (hb hby d3_7) rfl rfl ?_
    show Steps p.tables e below (T1.setTop (mkF m 8 #[.val (.ref w_TRUE), .val (.ref w_TRUE), .unset] [(.ref w_TRUE)])) _
    refine st2 _ ?_
    show Steps p.tables e below (T2.setTop (mkF m 11 #[.val (.ref w_TRUE), .val (.ref w_TRUE), .unset] [(.ref w_FALSE), (.ref w_TRUE)])) _
    refine Jvm.RoadKit.acmp (g := (mkF m 11 #[.val (.ref w_TRUE), .val (.ref w_TRUE), .unset] [(.ref w_FALSE), (.ref w_TRUE)])) X2 hx rfl rfl rfl (pc0 := 11) (pc' := 21) (same := false) rfl (hb hby d3_11) rfl (decide_eq_false fun q => ne_TRUE_FALSE (Value.ref.inj q)) (by decide) (by decide) ?_
    show Steps p.tables e below (T2.setTop (mkF m 21 #[.val (.ref w_TRUE), .val (.ref w_TRUE), .unset] [])) _
    refine XS.aloadN X2.here hx rfl (hb hby d3_21) rfl rfl ?_
    show Steps p.tables e below (T2.setTop (mkF m 22 #[.val (.ref w_TRUE), .val (.ref w_TRUE), .unset] [(.ref w_TRUE)])) _
    refine st3 _ ?_
    show Steps p.tables e below (T3.setTop (mkF m 25 #[.val (.ref w_TRUE), .val (.ref w_TRUE), .unset] [(.ref w_UNKNOWN), (.ref w_TRUE)])) _
    refine Jvm.RoadKit.acmp (g := (mkF m 25 #[.val (.ref w_TRUE), .val (.ref w_TRUE), .unset] [(.ref w_UNKNOWN), (.ref w_TRUE)])) X3 hx rfl rfl rfl (pc0 := 25) (pc' := 28) (same := false) rfl (hb hby d3_25) rfl (decide_eq_false fun q => ne_TRUE_UNKNOWN (Value.ref.inj q)) (by decide) (by decide) ?_
    show Steps p.tables e below (T3.setTop (mkF m 28 #[.val (.ref w_TRUE), .val (.ref w_TRUE), .unset] [])) _
    refine XS.aloadN X3.here hx rfl (hb hby d3_28) rfl rfl ?_
    show Steps p.tables e below (T3.setTop (mkF m 29 #[.val (.ref w_TRUE), .val (.ref w_TRUE), .unset] [(.ref w_TRUE)])) _
    refine st4 _ ?_
    show Steps p.tables e below (T4.setTop (mkF m 32 #[.val (.ref w_TRUE), .val (.ref w_TRUE), .unset] [(.ref w_UNKNOWN), (.ref w_TRUE)])) _
    refine Jvm.RoadKit.acmp (g := (mkF m 32 #[.val (.ref w_TRUE), .val (.ref w_TRUE), .unset] [(.ref w_UNKNOWN), (.ref w_TRUE)])) X4 hx rfl rfl rfl (pc0 := 32) (pc' := 42) (same := false) rfl (hb hby d3_32) rfl (decide_eq_false fun q => ne_TRUE_UNKNOWN (Value.ref.inj q)) (by decide) (by decide) ?_
    show Steps p.tables e below (T4.setTop (mkF m 42 #[.val (.ref w_TRUE), .val (.ref w_TRUE), .unset] [])) _
    refine st5 _ ?_
    show Steps p.tables e below (T5.setTop (mkF m 45 #[.val (.ref w_TRUE), .val (.ref w_TRUE), .unset] [(.ref w_TRUE)])) _
    refine XS.astoreN X5.here hx rfl (hb hby d3_45) rfl rfl (l' := #[.val (.ref w_TRUE), .val (.ref w_TRUE), .val (.ref w_TRUE)]) rfl ?_
    show Steps p.tables e below (T5.setTop (mkF m 46 #[.val (.ref w_TRUE), .val (.ref w_TRUE), .val (.ref w_TRUE)] [])) _
    refine XS.aloadN X5.here hx rfl (hb hby d3_46) rfl rfl ?_
    show Steps p.tables e below (T5.setTop (mkF m 47 #[.val (.ref w_TRUE), .val (.ref w_TRUE), .val (.ref w_TRUE)] [(.ref w_TRUE)])) _
    jvm_step X5.here [X5.here.top, hx, (hb hby d3_47), X5.method', Bd.returns, Value.isRef, FieldType.isReference]
    first | (intro acts; rw [hr _ acts rfl rfl rfl]) | rw [hr _ _ rfl rfl rfl]
    exact Steps.refl _
  · show PQ (.ref w_TRUE) h0 n0 _ T5.heap _
    exact ⟨rfl, N0, e5⟩

theorem pd__I_Lcom_example_kascade_kascade_engine_Truth_ : parseMethodDescriptor "(I)Lcom/example/kascade/kascade/engine/Truth;" = some ⟨[.int], some (.object "com/example/kascade/kascade/engine/Truth")⟩ := by decide +kernel
theorem pd__II_I : parseMethodDescriptor "(II)I" = some ⟨[.int, .int], some .int⟩ := by decide +kernel
theorem pd__Lcom_example_kascade_kascade_engine_Truth__Lcom_example_kascade_kascade_engine_Truth_ : parseMethodDescriptor "(Lcom/example/kascade/kascade/engine/Truth;)Lcom/example/kascade/kascade/engine/Truth;" = some ⟨[(.object "com/example/kascade/kascade/engine/Truth")], some (.object "com/example/kascade/kascade/engine/Truth")⟩ := by decide +kernel
theorem ef_0 (m : MethodId) (x0 : Int32) (x1 : Int32) : entryFrame m #[(.int x0), (.int x1)] maxLocals = mkF m 0 #[.val (.int x0), .val (.int x1), .unset, .unset, .unset, .unset, .unset, .unset] [] := by first | (simp [entryFrame, mkF, argsToLocals, Value.category, maxLocals]; done) | rfl
set_option maxRecDepth 65536 in
set_option maxHeartbeats 40000000 in
theorem law_0 (l : Launch) (Z : State) (a0 : Array Value) (hw : ∀ d ∈ tables_1, d.before a0 Z = true) (ws : List Jvm.Cond) (p1 p2 i j k : Int32) (ax ay az : Addr) (h0 : Heap) (n0 : Nat) (Z0 : n0 ≤ h0.size) (hi : (p1 &&& (2147483647 : Int32)) % (3 : Int32) = i) (hj : (p2 &&& (2147483647 : Int32)) % (3 : Int32) = j) (EX : Exa Z h0 ax "com/example/kascade/kascade/engine/Truth") (C1 : Pays l Z h0 n0 (⟨"com/example/kascade/kascade/engine/TruthAndPinLaw", "pick", "(I)Lcom/example/kascade/kascade/engine/Truth;"⟩ : MethodName) [Jvm.Cond.code (⟨"com/example/kascade/kascade/engine/TruthAndPinLaw", "pick", "(I)Lcom/example/kascade/kascade/engine/Truth;"⟩ : MethodName) method_2_code 1 (some (.object "com/example/kascade/kascade/engine/Truth"))] R0 #[(.int i)] (.ref ax)) (C2 : Pays l Z h0 n0 (⟨"com/example/kascade/kascade/engine/TruthAndPinLaw", "pick", "(I)Lcom/example/kascade/kascade/engine/Truth;"⟩ : MethodName) [Jvm.Cond.code (⟨"com/example/kascade/kascade/engine/TruthAndPinLaw", "pick", "(I)Lcom/example/kascade/kascade/engine/Truth;"⟩ : MethodName) method_2_code 1 (some (.object "com/example/kascade/kascade/engine/Truth"))] R0 #[(.int j)] (.ref ay)) (C3 : Pays l Z h0 n0 (⟨"java/lang/Math", "min", "(II)I"⟩ : MethodName) [Jvm.Cond.code (⟨"java/lang/Math", "min", "(II)I"⟩ : MethodName) jdk_29_method_69_code 2 (some .int)] R0 #[(.int i), (.int j)] (.int k)) (C4 : Pays l Z h0 n0 (⟨"com/example/kascade/kascade/engine/TruthAndPinLaw", "pick", "(I)Lcom/example/kascade/kascade/engine/Truth;"⟩ : MethodName) [Jvm.Cond.code (⟨"com/example/kascade/kascade/engine/TruthAndPinLaw", "pick", "(I)Lcom/example/kascade/kascade/engine/Truth;"⟩ : MethodName) method_2_code 1 (some (.object "com/example/kascade/kascade/engine/Truth"))] R0 #[(.int k)] (.ref az)) (C5 : Pays l Z h0 n0 (⟨"com/example/kascade/kascade/engine/Truth", "and", "(Lcom/example/kascade/kascade/engine/Truth;)Lcom/example/kascade/kascade/engine/Truth;"⟩ : MethodName) [Jvm.Cond.code (⟨"com/example/kascade/kascade/engine/Truth", "and", "(Lcom/example/kascade/kascade/engine/Truth;)Lcom/example/kascade/kascade/engine/Truth;"⟩ : MethodName) prog_15_method_5_code 3 (some (.object "com/example/kascade/kascade/engine/Truth"))] R0 #[(.ref ax), (.ref ay)] (.ref az)) :
    Pays l Z h0 n0 x (Jvm.Cond.code x code maxLocals ret :: ws) room_1 #[(.int p1), (.int p2)] (.int (1 : Int32)) := by
  refine MetFree.of_bodySF (plainFor_of_name pn_TruthAndPinLaw) hisR ?_
  intro p e s m args below meth c s₁ Bd hml0 hP hK
  obtain ⟨rfl, hZ, hh⟩ := hP
  have hx := Bd.exec
  have hby := Bd.bytes
  have hml : c.maxLocals = 8 := hml0
  have hown : s.vm.findClass "com/example/kascade/kascade/engine/TruthAndPinLaw" = some m.cls := findClass_of_methodNamed Bd.named
  have X0 : Stand p l e room_1 s m #[(.int p1), (.int p2)] below meth c s₁ [] 0 0 := Stand.of_body Bd
  have e0 : s₁.heap = h0 := by rw [← hh, Bd.state]; rfl
  have N0 := Fr.nil n0
  have pre0 : ∀ t, Steps p.tables e below (s₁.setTop (mkF m 0 #[.val (.int p1), .val (.int p2), .unset, .unset, .unset, .unset, .unset, .unset] [])) t → Steps p.tables e below (s₁.setTop (entryFrame m #[(.int p1), (.int p2)] maxLocals)) t := fun t k => castTop (ef_0 m p1 p2) k
  obtain ⟨_, _, ⟨T1, L1, k1, n1⟩, -, X1, ⟨Lc1, hQ1, l1, y1, z1⟩, st1⟩ := Jvm.LawKit.callS X0 hx (y := (⟨"com/example/kascade/kascade/engine/TruthAndPinLaw", "pick", "(I)Lcom/example/kascade/kascade/engine/Truth;"⟩ : MethodName)) hown (mvT hZ (hw _ (List.mem_of_getElem? (i := 1) rfl))) (mvT hZ (hw _ (List.mem_of_getElem? (i := 2) rfl))) (mvT hZ (hw _ (List.mem_of_getElem? (i := 3) rfl))) (mvT hZ (hw _ (List.mem_of_getElem? (i := 4) rfl))) (by decide) (backOf (W := 0) (Q := PQ (.ref ax) h0 n0) C1 hZ (hw _ (List.mem_of_getElem? (i := 4) rfl)) (hw _ (List.mem_of_getElem? (i := 3) rfl)) (by decide) (by decide)) (g := (mkF m 15 #[.val (.int p1), .val (.int p2), .val (.int i), .val (.int j), .unset, .unset, .unset, .unset] [(.int i)])) rfl (by rw [hml]; rfl) (argsL := [(.int i)]) (rest := []) (lenOf pd__I_Lcom_example_kascade_kascade_engine_Truth_ rfl) rfl (by show 2 * 0 + _ ≤ _; exact Nat.le_of_eq rfl) (hb hby at_15) (fun _ _ => ⟨rfl, e0, (by decide : 0 + 0 ≤ _), (by decide : 0 + 0 ≤ _)⟩)
  dsimp only [Pt.U, Pt.locs, Pt.cells, Pt.slots] at X1 l1 y1 z1 st1 hQ1
  subst l1 y1 z1
  obtain ⟨rfl, Nq1, e1⟩ := hQ1
  have N1 := Fr.app N0 Nq1
  obtain ⟨_, _, ⟨T2, L2, k2, n2⟩, -, X2, ⟨Lc2, hQ2, l2, y2, z2⟩, st2⟩ := Jvm.LawKit.callS X1 hx (y := (⟨"com/example/kascade/kascade/engine/TruthAndPinLaw", "pick", "(I)Lcom/example/kascade/kascade/engine/Truth;"⟩ : MethodName)) hown (mvT hZ (hw _ (List.mem_of_getElem? (i := 1) rfl))) (mvT hZ (hw _ (List.mem_of_getElem? (i := 2) rfl))) (mvT hZ (hw _ (List.mem_of_getElem? (i := 3) rfl))) (mvT hZ (hw _ (List.mem_of_getElem? (i := 4) rfl))) (by decide) (backOf (W := 0) (Q := PQ (.ref ay) h0 n0) C2 hZ (hw _ (List.mem_of_getElem? (i := 4) rfl)) (hw _ (List.mem_of_getElem? (i := 3) rfl)) (by decide) (by decide)) (g := (mkF m 21 #[.val (.int p1), .val (.int p2), .val (.int i), .val (.int j), .val (.ref ax), .unset, .unset, .unset] [(.int j)])) rfl (by rw [hml]; rfl) (argsL := [(.int j)]) (rest := []) (lenOf pd__I_Lcom_example_kascade_kascade_engine_Truth_ rfl) rfl (by show 2 * 0 + _ ≤ _; exact Nat.le_of_eq rfl) (hb hby at_21) (fun _ _ => ⟨rfl, e1, (by decide : 0 + 0 ≤ _), (by decide : 0 + 0 ≤ _)⟩)
  dsimp only [Pt.U, Pt.locs, Pt.cells, Pt.slots] at X2 l2 y2 z2 st2 hQ2
  subst l2 y2 z2
  obtain ⟨rfl, Nq2, e2⟩ := hQ2
  have N2 := Fr.app N1 Nq2
  obtain ⟨_, _, ⟨T3, L3, k3, n3⟩, -, X3, ⟨Lc3, hQ3, l3, y3, z3⟩, st3⟩ := Jvm.LawKit.callS X2 hx (y := (⟨"java/lang/Math", "min", "(II)I"⟩ : MethodName)) hown (mvT hZ (hw _ (List.mem_of_getElem? (i := 8) rfl))) (mvT hZ (hw _ (List.mem_of_getElem? (i := 9) rfl))) (mvT hZ (hw _ (List.mem_of_getElem? (i := 10) rfl))) (mvT hZ (hw _ (List.mem_of_getElem? (i := 11) rfl))) (by decide) (backOf (W := 0) (Q := PQ (.int k) h0 n0) C3 hZ (hw _ (List.mem_of_getElem? (i := 11) rfl)) (hw _ (List.mem_of_getElem? (i := 10) rfl)) (by decide) (by decide)) (g := (mkF m 28 #[.val (.int p1), .val (.int p2), .val (.int i), .val (.int j), .val (.ref ax), .val (.ref ay), .unset, .unset] [(.int j), (.int i)])) rfl (by rw [hml]; rfl) (argsL := [(.int i), (.int j)]) (rest := []) (lenOf pd__II_I rfl) rfl (by show 2 * 0 + _ ≤ _; exact Nat.le_of_eq rfl) (hb hby at_28) (fun _ _ => ⟨rfl, e2, (by decide : 0 + 0 ≤ _), (by decide : 0 + 0 ≤ _)⟩)
  dsimp only [Pt.U, Pt.locs, Pt.cells, Pt.slots] at X3 l3 y3 z3 st3 hQ3
  subst l3 y3 z3
  obtain ⟨rfl, Nq3, e3⟩ := hQ3
  have N3 := Fr.app N2 Nq3
  obtain ⟨_, _, ⟨T4, L4, k4, n4⟩, -, X4, ⟨Lc4, hQ4, l4, y4, z4⟩, st4⟩ := Jvm.LawKit.callS X3 hx (y := (⟨"com/example/kascade/kascade/engine/TruthAndPinLaw", "pick", "(I)Lcom/example/kascade/kascade/engine/Truth;"⟩ : MethodName)) hown (mvT hZ (hw _ (List.mem_of_getElem? (i := 1) rfl))) (mvT hZ (hw _ (List.mem_of_getElem? (i := 2) rfl))) (mvT hZ (hw _ (List.mem_of_getElem? (i := 3) rfl))) (mvT hZ (hw _ (List.mem_of_getElem? (i := 4) rfl))) (by decide) (backOf (W := 0) (Q := PQ (.ref az) h0 n0) C4 hZ (hw _ (List.mem_of_getElem? (i := 4) rfl)) (hw _ (List.mem_of_getElem? (i := 3) rfl)) (by decide) (by decide)) (g := (mkF m 31 #[.val (.int p1), .val (.int p2), .val (.int i), .val (.int j), .val (.ref ax), .val (.ref ay), .unset, .unset] [(.int k)])) rfl (by rw [hml]; rfl) (argsL := [(.int k)]) (rest := []) (lenOf pd__I_Lcom_example_kascade_kascade_engine_Truth_ rfl) rfl (by show 2 * 0 + _ ≤ _; exact Nat.le_of_eq rfl) (hb hby at_31) (fun _ _ => ⟨rfl, e3, (by decide : 0 + 0 ≤ _), (by decide : 0 + 0 ≤ _)⟩)
  dsimp only [Pt.U, Pt.locs, Pt.cells, Pt.slots] at X4 l4 y4 z4 st4 hQ4
  subst l4 y4 z4
  obtain ⟨rfl, Nq4, e4⟩ := hQ4
  have N4 := Fr.app N3 Nq4
  obtain ⟨cq5, kq5, q5a, q5b, q5c⟩ := isOf hZ e4 EX
  obtain ⟨_, _, ⟨T5, L5, k5, n5⟩, -, X5, ⟨Lc5, hQ5, l5, y5, z5⟩, st5⟩ := X4.virtualBack hx (y := (⟨"com/example/kascade/kascade/engine/Truth", "and", "(Lcom/example/kascade/kascade/engine/Truth;)Lcom/example/kascade/kascade/engine/Truth;"⟩ : MethodName)) (z := (⟨"com/example/kascade/kascade/engine/Truth", "and", "(Lcom/example/kascade/kascade/engine/Truth;)Lcom/example/kascade/kascade/engine/Truth;"⟩ : MethodName)) hown (mvT hZ (hw _ (List.mem_of_getElem? (i := 12) rfl))) (mvT hZ (hw _ (List.mem_of_getElem? (i := 13) rfl))) (notFace_of_selects (args := #[]) (mvT hZ (hw _ (List.mem_of_getElem? (i := 15) rfl)))) (mvT hZ (hw _ (List.mem_of_getElem? (i := 15) rfl))) (mvT hZ (hw _ (List.mem_of_getElem? (i := 14) rfl))) (by decide) (backOf (W := 0) (Q := PQ (.ref az) h0 n0) C5 hZ (hw _ (List.mem_of_getElem? (i := 16) rfl)) (hw _ (List.mem_of_getElem? (i := 6) rfl)) (by decide) (by decide)) q5a q5c (g := (mkF m 40 #[.val (.int p1), .val (.int p2), .val (.int i), .val (.int j), .val (.ref ax), .val (.ref ay), .val (.ref az), .unset] [(.ref ay), (.ref ax)])) rfl (by rw [hml]; rfl) (Steps.refl _) (argsL := [(.ref ay)]) (rest := []) (lenOf pd__Lcom_example_kascade_kascade_engine_Truth__Lcom_example_kascade_kascade_engine_Truth_ rfl) rfl (by show 2 * 0 + _ ≤ _; exact Nat.le_of_eq rfl) (hb hby at_40) (fun _ _ => ⟨rfl, e4, (by decide : 0 + 0 ≤ _), (by decide : 0 + 0 ≤ _)⟩)
  dsimp only [Pt.U, Pt.locs, Pt.cells, Pt.slots] at X5 l5 y5 z5 st5 hQ5
  subst l5 y5 z5
  obtain ⟨rfl, Nq5, e5⟩ := hQ5
  have N5 := Fr.app N4 Nq5
  obtain ⟨fs, hr, hrun, hended, hW, hsame⟩ := X5.leave (v := some (.int (1 : Int32))) (fun h => by rw [Bd.returns] at h; cases h)
  refine ⟨_, _, pre0 _ ?_, hrun, hended, _, _, rfl, ?_, ⟨_, rfl⟩, hW, hsame.mono (by decide) (by decide)⟩
  · show Steps p.tables e below (s₁.setTop (mkF m 0 #[.val (.int p1), .val (.int p2), .unset, .unset, .unset, .unset, .unset, .unset] [])) _
    refine XS.iloadN X0.here hx rfl (hb hby at_0) rfl ?_
    show Steps p.tables e below (s₁.setTop (mkF m 1 #[.val (.int p1), .val (.int p2), .unset, .unset, .unset, .unset, .unset, .unset] [(.int p1)])) _
    refine X0.ldcI hx hown (mvT hZ (hw _ (List.mem_of_getElem? (i := 0) rfl))) (g := (mkF m 1 #[.val (.int p1), .val (.int p2), .unset, .unset, .unset, .unset, .unset, .unset] [(.int p1)])) rfl (hb hby at_1) ?_
    show Steps p.tables e below (s₁.setTop (mkF m 3 #[.val (.int p1), .val (.int p2), .unset, .unset, .unset, .unset, .unset, .unset] [(.int (2147483647 : Int32)), (.int p1)])) _
    refine XS.iand X0.here hx rfl (hb hby at_3) rfl ?_
    show Steps p.tables e below (s₁.setTop (mkF m 4 #[.val (.int p1), .val (.int p2), .unset, .unset, .unset, .unset, .unset, .unset] [(.int (p1 &&& (2147483647 : Int32)))])) _
    refine XS.iconst X0.here hx rfl (hb hby at_4) ?_
    show Steps p.tables e below (s₁.setTop (mkF m 5 #[.val (.int p1), .val (.int p2), .unset, .unset, .unset, .unset, .unset, .unset] [(.int (3 : Int32)), (.int (p1 &&& (2147483647 : Int32)))])) _
    refine iremM (g := (mkF m 5 #[.val (.int p1), .val (.int p2), .unset, .unset, .unset, .unset, .unset, .unset] [(.int (3 : Int32)), (.int (p1 &&& (2147483647 : Int32)))])) X0 hx rfl (hb hby at_5) rfl (by decide) ?_
    show Steps p.tables e below (s₁.setTop (mkF m 6 #[.val (.int p1), .val (.int p2), .unset, .unset, .unset, .unset, .unset, .unset] [(.int ((p1 &&& (2147483647 : Int32)) % (3 : Int32)))])) _
    rw [hi]
    show Steps p.tables e below (s₁.setTop (mkF m 6 #[.val (.int p1), .val (.int p2), .unset, .unset, .unset, .unset, .unset, .unset] [(.int i)])) _
    refine XS.istoreN X0.here hx rfl (hb hby at_6) rfl (l' := #[.val (.int p1), .val (.int p2), .val (.int i), .unset, .unset, .unset, .unset, .unset]) rfl ?_
    show Steps p.tables e below (s₁.setTop (mkF m 7 #[.val (.int p1), .val (.int p2), .val (.int i), .unset, .unset, .unset, .unset, .unset] [])) _
    refine XS.iloadN X0.here hx rfl (hb hby at_7) rfl ?_
    show Steps p.tables e below (s₁.setTop (mkF m 8 #[.val (.int p1), .val (.int p2), .val (.int i), .unset, .unset, .unset, .unset, .unset] [(.int p2)])) _
    refine X0.ldcI hx hown (mvT hZ (hw _ (List.mem_of_getElem? (i := 0) rfl))) (g := (mkF m 8 #[.val (.int p1), .val (.int p2), .val (.int i), .unset, .unset, .unset, .unset, .unset] [(.int p2)])) rfl (hb hby at_8) ?_
    show Steps p.tables e below (s₁.setTop (mkF m 10 #[.val (.int p1), .val (.int p2), .val (.int i), .unset, .unset, .unset, .unset, .unset] [(.int (2147483647 : Int32)), (.int p2)])) _
    refine XS.iand X0.here hx rfl (hb hby at_10) rfl ?_
    show Steps p.tables e below (s₁.setTop (mkF m 11 #[.val (.int p1), .val (.int p2), .val (.int i), .unset, .unset, .unset, .unset, .unset] [(.int (p2 &&& (2147483647 : Int32)))])) _
    refine XS.iconst X0.here hx rfl (hb hby at_11) ?_
    show Steps p.tables e below (s₁.setTop (mkF m 12 #[.val (.int p1), .val (.int p2), .val (.int i), .unset, .unset, .unset, .unset, .unset] [(.int (3 : Int32)), (.int (p2 &&& (2147483647 : Int32)))])) _
    refine iremM (g := (mkF m 12 #[.val (.int p1), .val (.int p2), .val (.int i), .unset, .unset, .unset, .unset, .unset] [(.int (3 : Int32)), (.int (p2 &&& (2147483647 : Int32)))])) X0 hx rfl (hb hby at_12) rfl (by decide) ?_
    show Steps p.tables e below (s₁.setTop (mkF m 13 #[.val (.int p1), .val (.int p2), .val (.int i), .unset, .unset, .unset, .unset, .unset] [(.int ((p2 &&& (2147483647 : Int32)) % (3 : Int32)))])) _
    rw [hj]
    show Steps p.tables e below (s₁.setTop (mkF m 13 #[.val (.int p1), .val (.int p2), .val (.int i), .unset, .unset, .unset, .unset, .unset] [(.int j)])) _
    refine XS.istoreN X0.here hx rfl (hb hby at_13) rfl (l' := #[.val (.int p1), .val (.int p2), .val (.int i), .val (.int j), .unset, .unset, .unset, .unset]) rfl ?_
    show Steps p.tables e below (s₁.setTop (mkF m 14 #[.val (.int p1), .val (.int p2), .val (.int i), .val (.int j), .unset, .unset, .unset, .unset] [])) _
    refine XS.iloadN X0.here hx rfl (hb hby at_14) rfl ?_
    show Steps p.tables e below (s₁.setTop (mkF m 15 #[.val (.int p1), .val (.int p2), .val (.int i), .val (.int j), .unset, .unset, .unset, .unset] [(.int i)])) _
    refine st1 _ ?_
    show Steps p.tables e below (T1.setTop (mkF m 18 #[.val (.int p1), .val (.int p2), .val (.int i), .val (.int j), .unset, .unset, .unset, .unset] [(.ref ax)])) _
    refine XS.astore X1.here hx rfl (hb hby at_18) rfl rfl (l' := #[.val (.int p1), .val (.int p2), .val (.int i), .val (.int j), .val (.ref ax), .unset, .unset, .unset]) rfl ?_
    show Steps p.tables e below (T1.setTop (mkF m 20 #[.val (.int p1), .val (.int p2), .val (.int i), .val (.int j), .val (.ref ax), .unset, .unset, .unset] [])) _
    refine XS.iloadN X1.here hx rfl (hb hby at_20) rfl ?_
    show Steps p.tables e below (T1.setTop (mkF m 21 #[.val (.int p1), .val (.int p2), .val (.int i), .val (.int j), .val (.ref ax), .unset, .unset, .unset] [(.int j)])) _
    refine st2 _ ?_
    show Steps p.tables e below (T2.setTop (mkF m 24 #[.val (.int p1), .val (.int p2), .val (.int i), .val (.int j), .val (.ref ax), .unset, .unset, .unset] [(.ref ay)])) _
    refine XS.astore X2.here hx rfl (hb hby at_24) rfl rfl (l' := #[.val (.int p1), .val (.int p2), .val (.int i), .val (.int j), .val (.ref ax), .val (.ref ay), .unset, .unset]) rfl ?_
    show Steps p.tables e below (T2.setTop (mkF m 26 #[.val (.int p1), .val (.int p2), .val (.int i), .val (.int j), .val (.ref ax), .val (.ref ay), .unset, .unset] [])) _
    refine XS.iloadN X2.here hx rfl (hb hby at_26) rfl ?_
    show Steps p.tables e below (T2.setTop (mkF m 27 #[.val (.int p1), .val (.int p2), .val (.int i), .val (.int j), .val (.ref ax), .val (.ref ay), .unset, .unset] [(.int i)])) _
    refine XS.iloadN X2.here hx rfl (hb hby at_27) rfl ?_
    show Steps p.tables e below (T2.setTop (mkF m 28 #[.val (.int p1), .val (.int p2), .val (.int i), .val (.int j), .val (.ref ax), .val (.ref ay), .unset, .unset] [(.int j), (.int i)])) _
    refine st3 _ ?_
    show Steps p.tables e below (T3.setTop (mkF m 31 #[.val (.int p1), .val (.int p2), .val (.int i), .val (.int j), .val (.ref ax), .val (.ref ay), .unset, .unset] [(.int k)])) _
    refine st4 _ ?_
    show Steps p.tables e below (T4.setTop (mkF m 34 #[.val (.int p1), .val (.int p2), .val (.int i), .val (.int j), .val (.ref ax), .val (.ref ay), .unset, .unset] [(.ref az)])) _
    refine XS.astore X4.here hx rfl (hb hby at_34) rfl rfl (l' := #[.val (.int p1), .val (.int p2), .val (.int i), .val (.int j), .val (.ref ax), .val (.ref ay), .val (.ref az), .unset]) rfl ?_
    show Steps p.tables e below (T4.setTop (mkF m 36 #[.val (.int p1), .val (.int p2), .val (.int i), .val (.int j), .val (.ref ax), .val (.ref ay), .val (.ref az), .unset] [])) _
    refine XS.aload X4.here hx rfl (hb hby at_36) rfl rfl ?_
    show Steps p.tables e below (T4.setTop (mkF m 38 #[.val (.int p1), .val (.int p2), .val (.int i), .val (.int j), .val (.ref ax), .val (.ref ay), .val (.ref az), .unset] [(.ref ax)])) _
    refine XS.aload X4.here hx rfl (hb hby at_38) rfl rfl ?_
    show Steps p.tables e below (T4.setTop (mkF m 40 #[.val (.int p1), .val (.int p2), .val (.int i), .val (.int j), .val (.ref ax), .val (.ref ay), .val (.ref az), .unset] [(.ref ay), (.ref ax)])) _
    refine st5.trans ?_
    show Steps p.tables e below (T5.setTop (mkF m 43 #[.val (.int p1), .val (.int p2), .val (.int i), .val (.int j), .val (.ref ax), .val (.ref ay), .val (.ref az), .unset] [(.ref az)])) _
    refine XS.astore X5.here hx rfl (hb hby at_43) rfl rfl (l' := #[.val (.int p1), .val (.int p2), .val (.int i), .val (.int j), .val (.ref ax), .val (.ref ay), .val (.ref az), .val (.ref az)]) rfl ?_
    show Steps p.tables e below (T5.setTop (mkF m 45 #[.val (.int p1), .val (.int p2), .val (.int i), .val (.int j), .val (.ref ax), .val (.ref ay), .val (.ref az), .val (.ref az)] [])) _
    refine XS.aload X5.here hx rfl (hb hby at_45) rfl rfl ?_
    show Steps p.tables e below (T5.setTop (mkF m 47 #[.val (.int p1), .val (.int p2), .val (.int i), .val (.int j), .val (.ref ax), .val (.ref ay), .val (.ref az), .val (.ref az)] [(.ref az)])) _
    refine XS.aload X5.here hx rfl (hb hby at_47) rfl rfl ?_
    show Steps p.tables e below (T5.setTop (mkF m 49 #[.val (.int p1), .val (.int p2), .val (.int i), .val (.int j), .val (.ref ax), .val (.ref ay), .val (.ref az), .val (.ref az)] [(.ref az), (.ref az)])) _
    refine Jvm.RoadKit.acmp (g := (mkF m 49 #[.val (.int p1), .val (.int p2), .val (.int i), .val (.int j), .val (.ref ax), .val (.ref ay), .val (.ref az), .val (.ref az)] [(.ref az), (.ref az)])) X5 hx rfl rfl rfl (pc0 := 49) (pc' := 52) (same := true) rfl (hb hby at_49) rfl (decide_eq_true rfl) (by decide) (by decide) ?_
    show Steps p.tables e below (T5.setTop (mkF m 52 #[.val (.int p1), .val (.int p2), .val (.int i), .val (.int j), .val (.ref ax), .val (.ref ay), .val (.ref az), .val (.ref az)] [])) _
    refine XS.iconst X5.here hx rfl (hb hby at_52) ?_
    show Steps p.tables e below (T5.setTop (mkF m 53 #[.val (.int p1), .val (.int p2), .val (.int i), .val (.int j), .val (.ref ax), .val (.ref ay), .val (.ref az), .val (.ref az)] [(.int (1 : Int32))])) _
    refine XS.goto X5.here hx rfl (pc0 := 53) (pc' := 57) rfl (hb hby at_53) (by decide) (by decide) ?_
    show Steps p.tables e below (T5.setTop (mkF m 57 #[.val (.int p1), .val (.int p2), .val (.int i), .val (.int j), .val (.ref ax), .val (.ref ay), .val (.ref az), .val (.ref az)] [(.int (1 : Int32))])) _
    exact retN X5 hx (t := .boolean) Bd.returns (by simp) (hb hby at_57) hr
  · show PQ (.int (1 : Int32)) h0 n0 _ T5.heap _
    exact ⟨rfl, N5, e5⟩

set_option maxRecDepth 65536 in
set_option maxHeartbeats 40000000 in
theorem comes_1 {Post : Tables → Env → Array Value → State → Outcome → State → Prop} (hpost : ∀ tb e args s v u, (limb_1_1.after args s (.returned v) u = true ∧ limb_1_2.after args s (.returned v) u = true ∧ True) → FrameEnd s (.returned v) u (Jvm.fieldLocs frame_1_writes args s ++ Jvm.arrayLocs frame_1_arrays args s ++ Jvm.staticLocs frame_1_statics s) 0 0 → Post tb e args s (.returned v) u) :
    ArmFor flags0 classFile x code maxLocals ret World_1 tables_1 room_1 Calls_1 rest_1 Pre_1 Post := by
  intro l hfl _ _ p e ha hc hk s m args below hf hA hF happ hP
  obtain ⟨hcalls, hrest, hpre⟩ := hP
  obtain ⟨-, -, -, hnamed, -, -, -, hat⟩ := (Spec.applies_iff hf).mp happ
  obtain ⟨hg, hn⟩ := and_e (Cond.before_iff.mp (show (Jvm.Cond.and given_1 narrow_1).before args s = true from hpre))
  obtain ⟨hg_2, hg_3⟩ := and_e hg
  obtain ⟨hg_4, hg_5⟩ := and_e hg_3
  obtain ⟨w0, w1, rfl⟩ : ∃ w0 w1 : Value, args = #[w0, w1] := by
    have hs : args.size = 2 := by simpa [Cond.value, given_1] using hg_2
    obtain ⟨L⟩ := args
    match L, hs with
    | [w0, w1], _ => exact ⟨w0, w1, rfl⟩
  have hw := fun d (hd : d ∈ tables_1) => atoms_spec (ws := Jvm.Cond.code x code maxLocals ret :: tables_1) hat d (List.mem_cons_of_mem _ hd)
  obtain ⟨i0, ei0⟩ := is_v hg_4
  obtain rfl : w0 = (.int i0) := Option.some.inj ei0
  obtain ⟨i1, ei1⟩ := is_v hg_5
  obtain rfl : w1 = (.int i1) := Option.some.inj ei1
  obtain ⟨hn_2, hn_3⟩ := and_e hn
  obtain ⟨hn_4, hn_5⟩ := and_e hn_3
  obtain ⟨hn_6, hn_7⟩ := and_e hn_5
  obtain ⟨hn_8, hn_9⟩ := and_e hn_7
  obtain ⟨hn_10, hn_11⟩ := and_e hn_9
  obtain ⟨a_FALSE, ev_FALSE⟩ := exa_v hn_2
  have E_FALSE := Exa.start ev_FALSE hn_2
  have S_FALSE := Sta.start ev_FALSE (Or.inr ⟨(hw _ (List.mem_of_getElem? (i := 6) rfl)), (hw _ (List.mem_of_getElem? (i := 7) rfl))⟩)
  obtain ⟨a_TRUE, ev_TRUE⟩ := exa_v hn_4
  have E_TRUE := Exa.start ev_TRUE hn_4
  have S_TRUE := Sta.start ev_TRUE (Or.inr ⟨(hw _ (List.mem_of_getElem? (i := 6) rfl)), (hw _ (List.mem_of_getElem? (i := 19) rfl))⟩)
  obtain ⟨a_UNKNOWN, ev_UNKNOWN⟩ := exa_v hn_6
  have E_UNKNOWN := Exa.start ev_UNKNOWN hn_6
  have S_UNKNOWN := Sta.start ev_UNKNOWN (Or.inr ⟨(hw _ (List.mem_of_getElem? (i := 6) rfl)), (hw _ (List.mem_of_getElem? (i := 21) rfl))⟩)
  have F_TRUE_ordinal := Fld.start ((fld_at ev_TRUE).symm.trans (own_eqi hn_8))
  have F_FALSE_ordinal := Fld.start ((fld_at ev_FALSE).symm.trans (own_eqi hn_10))
  have F_UNKNOWN_ordinal := Fld.start ((fld_at ev_UNKNOWN).symm.trans (own_eqi hn_11))
  have H : Pays l s s.heap s.heap.size x (Jvm.Cond.code x code maxLocals ret :: tables_1) room_1 #[(.int i0), (.int i1)] (.int (1 : Int32)) := by
    rcases own_mod i0 with hi | hi | hi <;> rcases own_mod i1 with hj | hj | hj
    · exact law_0 l s _ hw tables_1 i0 i1 0 0 0 a_FALSE a_FALSE a_FALSE s.heap s.heap.size (Nat.le_refl _) hi hj E_FALSE (pick_0 l s _ hw a_FALSE s.heap s.heap.size (Nat.le_refl _) S_FALSE) (pick_0 l s _ hw a_FALSE s.heap s.heap.size (Nat.le_refl _) S_FALSE) (min_0_0 l s _ hw s.heap s.heap.size (Nat.le_refl _)) (pick_0 l s _ hw a_FALSE s.heap s.heap.size (Nat.le_refl _) S_FALSE) (and_0_0 l s _ hw a_FALSE a_UNKNOWN a_TRUE s.heap s.heap.size (Nat.le_refl _) S_FALSE S_UNKNOWN S_TRUE (Fld.ne F_FALSE_ordinal F_UNKNOWN_ordinal (by decide)) (Fld.ne F_FALSE_ordinal F_TRUE_ordinal (by decide)) (Fld.ne F_UNKNOWN_ordinal F_FALSE_ordinal (by decide)) (Fld.ne F_UNKNOWN_ordinal F_TRUE_ordinal (by decide)) (Fld.ne F_TRUE_ordinal F_FALSE_ordinal (by decide)) (Fld.ne F_TRUE_ordinal F_UNKNOWN_ordinal (by decide)))
    · exact law_0 l s _ hw tables_1 i0 i1 0 1 0 a_FALSE a_UNKNOWN a_FALSE s.heap s.heap.size (Nat.le_refl _) hi hj E_FALSE (pick_0 l s _ hw a_FALSE s.heap s.heap.size (Nat.le_refl _) S_FALSE) (pick_1 l s _ hw a_UNKNOWN s.heap s.heap.size (Nat.le_refl _) S_UNKNOWN) (min_0_1 l s _ hw s.heap s.heap.size (Nat.le_refl _)) (pick_0 l s _ hw a_FALSE s.heap s.heap.size (Nat.le_refl _) S_FALSE) (and_0_1 l s _ hw a_FALSE a_UNKNOWN a_TRUE s.heap s.heap.size (Nat.le_refl _) S_FALSE S_UNKNOWN S_TRUE (Fld.ne F_FALSE_ordinal F_UNKNOWN_ordinal (by decide)) (Fld.ne F_FALSE_ordinal F_TRUE_ordinal (by decide)) (Fld.ne F_UNKNOWN_ordinal F_FALSE_ordinal (by decide)) (Fld.ne F_UNKNOWN_ordinal F_TRUE_ordinal (by decide)) (Fld.ne F_TRUE_ordinal F_FALSE_ordinal (by decide)) (Fld.ne F_TRUE_ordinal F_UNKNOWN_ordinal (by decide)))
    · exact law_0 l s _ hw tables_1 i0 i1 0 2 0 a_FALSE a_TRUE a_FALSE s.heap s.heap.size (Nat.le_refl _) hi hj E_FALSE (pick_0 l s _ hw a_FALSE s.heap s.heap.size (Nat.le_refl _) S_FALSE) (pick_2 l s _ hw a_TRUE s.heap s.heap.size (Nat.le_refl _) S_TRUE) (min_0_2 l s _ hw s.heap s.heap.size (Nat.le_refl _)) (pick_0 l s _ hw a_FALSE s.heap s.heap.size (Nat.le_refl _) S_FALSE) (and_0_2 l s _ hw a_FALSE a_UNKNOWN a_TRUE s.heap s.heap.size (Nat.le_refl _) S_FALSE S_UNKNOWN S_TRUE (Fld.ne F_FALSE_ordinal F_UNKNOWN_ordinal (by decide)) (Fld.ne F_FALSE_ordinal F_TRUE_ordinal (by decide)) (Fld.ne F_UNKNOWN_ordinal F_FALSE_ordinal (by decide)) (Fld.ne F_UNKNOWN_ordinal F_TRUE_ordinal (by decide)) (Fld.ne F_TRUE_ordinal F_FALSE_ordinal (by decide)) (Fld.ne F_TRUE_ordinal F_UNKNOWN_ordinal (by decide)))
    · exact law_0 l s _ hw tables_1 i0 i1 1 0 0 a_UNKNOWN a_FALSE a_FALSE s.heap s.heap.size (Nat.le_refl _) hi hj E_UNKNOWN (pick_1 l s _ hw a_UNKNOWN s.heap s.heap.size (Nat.le_refl _) S_UNKNOWN) (pick_0 l s _ hw a_FALSE s.heap s.heap.size (Nat.le_refl _) S_FALSE) (min_1_0 l s _ hw s.heap s.heap.size (Nat.le_refl _)) (pick_0 l s _ hw a_FALSE s.heap s.heap.size (Nat.le_refl _) S_FALSE) (and_1_0 l s _ hw a_FALSE a_UNKNOWN a_TRUE s.heap s.heap.size (Nat.le_refl _) S_FALSE S_UNKNOWN S_TRUE (Fld.ne F_FALSE_ordinal F_UNKNOWN_ordinal (by decide)) (Fld.ne F_FALSE_ordinal F_TRUE_ordinal (by decide)) (Fld.ne F_UNKNOWN_ordinal F_FALSE_ordinal (by decide)) (Fld.ne F_UNKNOWN_ordinal F_TRUE_ordinal (by decide)) (Fld.ne F_TRUE_ordinal F_FALSE_ordinal (by decide)) (Fld.ne F_TRUE_ordinal F_UNKNOWN_ordinal (by decide)))
    · exact law_0 l s _ hw tables_1 i0 i1 1 1 1 a_UNKNOWN a_UNKNOWN a_UNKNOWN s.heap s.heap.size (Nat.le_refl _) hi hj E_UNKNOWN (pick_1 l s _ hw a_UNKNOWN s.heap s.heap.size (Nat.le_refl _) S_UNKNOWN) (pick_1 l s _ hw a_UNKNOWN s.heap s.heap.size (Nat.le_refl _) S_UNKNOWN) (min_1_1 l s _ hw s.heap s.heap.size (Nat.le_refl _)) (pick_1 l s _ hw a_UNKNOWN s.heap s.heap.size (Nat.le_refl _) S_UNKNOWN) (and_1_1 l s _ hw a_FALSE a_UNKNOWN a_TRUE s.heap s.heap.size (Nat.le_refl _) S_FALSE S_UNKNOWN S_TRUE (Fld.ne F_FALSE_ordinal F_UNKNOWN_ordinal (by decide)) (Fld.ne F_FALSE_ordinal F_TRUE_ordinal (by decide)) (Fld.ne F_UNKNOWN_ordinal F_FALSE_ordinal (by decide)) (Fld.ne F_UNKNOWN_ordinal F_TRUE_ordinal (by decide)) (Fld.ne F_TRUE_ordinal F_FALSE_ordinal (by decide)) (Fld.ne F_TRUE_ordinal F_UNKNOWN_ordinal (by decide)))
    · exact law_0 l s _ hw tables_1 i0 i1 1 2 1 a_UNKNOWN a_TRUE a_UNKNOWN s.heap s.heap.size (Nat.le_refl _) hi hj E_UNKNOWN (pick_1 l s _ hw a_UNKNOWN s.heap s.heap.size (Nat.le_refl _) S_UNKNOWN) (pick_2 l s _ hw a_TRUE s.heap s.heap.size (Nat.le_refl _) S_TRUE) (min_1_2 l s _ hw s.heap s.heap.size (Nat.le_refl _)) (pick_1 l s _ hw a_UNKNOWN s.heap s.heap.size (Nat.le_refl _) S_UNKNOWN) (and_1_2 l s _ hw a_FALSE a_UNKNOWN a_TRUE s.heap s.heap.size (Nat.le_refl _) S_FALSE S_UNKNOWN S_TRUE (Fld.ne F_FALSE_ordinal F_UNKNOWN_ordinal (by decide)) (Fld.ne F_FALSE_ordinal F_TRUE_ordinal (by decide)) (Fld.ne F_UNKNOWN_ordinal F_FALSE_ordinal (by decide)) (Fld.ne F_UNKNOWN_ordinal F_TRUE_ordinal (by decide)) (Fld.ne F_TRUE_ordinal F_FALSE_ordinal (by decide)) (Fld.ne F_TRUE_ordinal F_UNKNOWN_ordinal (by decide)))
    · exact law_0 l s _ hw tables_1 i0 i1 2 0 0 a_TRUE a_FALSE a_FALSE s.heap s.heap.size (Nat.le_refl _) hi hj E_TRUE (pick_2 l s _ hw a_TRUE s.heap s.heap.size (Nat.le_refl _) S_TRUE) (pick_0 l s _ hw a_FALSE s.heap s.heap.size (Nat.le_refl _) S_FALSE) (min_2_0 l s _ hw s.heap s.heap.size (Nat.le_refl _)) (pick_0 l s _ hw a_FALSE s.heap s.heap.size (Nat.le_refl _) S_FALSE) (and_2_0 l s _ hw a_FALSE a_UNKNOWN a_TRUE s.heap s.heap.size (Nat.le_refl _) S_FALSE S_UNKNOWN S_TRUE (Fld.ne F_FALSE_ordinal F_UNKNOWN_ordinal (by decide)) (Fld.ne F_FALSE_ordinal F_TRUE_ordinal (by decide)) (Fld.ne F_UNKNOWN_ordinal F_FALSE_ordinal (by decide)) (Fld.ne F_UNKNOWN_ordinal F_TRUE_ordinal (by decide)) (Fld.ne F_TRUE_ordinal F_FALSE_ordinal (by decide)) (Fld.ne F_TRUE_ordinal F_UNKNOWN_ordinal (by decide)))
    · exact law_0 l s _ hw tables_1 i0 i1 2 1 1 a_TRUE a_UNKNOWN a_UNKNOWN s.heap s.heap.size (Nat.le_refl _) hi hj E_TRUE (pick_2 l s _ hw a_TRUE s.heap s.heap.size (Nat.le_refl _) S_TRUE) (pick_1 l s _ hw a_UNKNOWN s.heap s.heap.size (Nat.le_refl _) S_UNKNOWN) (min_2_1 l s _ hw s.heap s.heap.size (Nat.le_refl _)) (pick_1 l s _ hw a_UNKNOWN s.heap s.heap.size (Nat.le_refl _) S_UNKNOWN) (and_2_1 l s _ hw a_FALSE a_UNKNOWN a_TRUE s.heap s.heap.size (Nat.le_refl _) S_FALSE S_UNKNOWN S_TRUE (Fld.ne F_FALSE_ordinal F_UNKNOWN_ordinal (by decide)) (Fld.ne F_FALSE_ordinal F_TRUE_ordinal (by decide)) (Fld.ne F_UNKNOWN_ordinal F_FALSE_ordinal (by decide)) (Fld.ne F_UNKNOWN_ordinal F_TRUE_ordinal (by decide)) (Fld.ne F_TRUE_ordinal F_FALSE_ordinal (by decide)) (Fld.ne F_TRUE_ordinal F_UNKNOWN_ordinal (by decide)))
    · exact law_0 l s _ hw tables_1 i0 i1 2 2 2 a_TRUE a_TRUE a_TRUE s.heap s.heap.size (Nat.le_refl _) hi hj E_TRUE (pick_2 l s _ hw a_TRUE s.heap s.heap.size (Nat.le_refl _) S_TRUE) (pick_2 l s _ hw a_TRUE s.heap s.heap.size (Nat.le_refl _) S_TRUE) (min_2_2 l s _ hw s.heap s.heap.size (Nat.le_refl _)) (pick_2 l s _ hw a_TRUE s.heap s.heap.size (Nat.le_refl _) S_TRUE) (and_2_2 l s _ hw a_FALSE a_UNKNOWN a_TRUE s.heap s.heap.size (Nat.le_refl _) S_FALSE S_UNKNOWN S_TRUE (Fld.ne F_FALSE_ordinal F_UNKNOWN_ordinal (by decide)) (Fld.ne F_FALSE_ordinal F_TRUE_ordinal (by decide)) (Fld.ne F_UNKNOWN_ordinal F_FALSE_ordinal (by decide)) (Fld.ne F_UNKNOWN_ordinal F_TRUE_ordinal (by decide)) (Fld.ne F_TRUE_ordinal F_FALSE_ordinal (by decide)) (Fld.ne F_TRUE_ordinal F_UNKNOWN_ordinal (by decide)))
  obtain ⟨n, o, h1, h2, h3, _, L, rfl, ⟨rfl, N, -⟩, hq⟩ := H p e ha hc hk s m _ below hf ((Spec.applies_iff_loose hf).mp happ).1 ⟨rfl, State.Warmed39.refl s, rfl⟩ trivial
  refine ⟨n, _, h1, h2, h3, hpost _ _ _ _ _ _ ⟨Cond.after_iff.mpr rfl, Cond.after_iff.mpr (eq_i res_at (Term.int_eval (1)) rfl), trivial⟩ ⟨hq.1, hq.2.1, (hq.2.2.sift fun y hy => Or.inr (N y hy)).mono (by decide) (by decide)⟩⟩
theorem main_1_1 : Claimed_1_1 := comes_1 fun _ _ _ _ _ _ h hF => ⟨h.1, hF⟩
theorem main_1_2 : Claimed_1_2 := comes_1 fun _ _ _ _ _ _ h hF => ⟨h.2.1, hF⟩
end Jvm.Pilot.@@N@@
namespace Jvm.Pilot.@@N@@
open Jvm Jvm.ClassFile Sem Op Lib Jvm.Free Jvm.Stand Jvm.Pilot.@@N@@.Jvm.D
/-! MADE BY PROGRAM (witnessworld.py) out of the Statement's table words and the real class files: 13 classes; the members and pool entries that the words name. The judged class is class 1, her method 2. -/
namespace start1
open Jvm.ClassFile
def u (s : String) : CpInfo := .utf8 (stringToUtf16 s)
/-- a pool by its gaps: so many unusable entries, then the entry; so many at the end -/
def gap : Nat → List CpInfo → List CpInfo
  | 0, r => r
  | n + 1, r => .unusable :: gap n r
def poolList (es : List (Nat × CpInfo)) (last : Nat) : List CpInfo := es.foldr (fun e r => gap e.1 (e.2 :: r)) (gap last [])
def pool (es : List (Nat × CpInfo)) (last : Nat) : Array CpInfo := ⟨poolList es last⟩
def fileOf (pool : Array CpInfo) (this : Nat) (attrs : Array Attribute := #[]) (ms : Array MethodInfo := #[]) (fl : Nat := 33) (sup : Nat := 0) (ifs : Array Nat := #[]) (fds : Array FieldInfo := #[]) : ClassFile where
  minorVersion := 0
  majorVersion := 65
  constantPool := pool
  accessFlags := fl
  thisClass := this
  superClass := sup
  interfaces := ifs
  fields := fds
  methods := ms
  attributes := attrs
def plain (name : String) (sup : Option ClassId) : Class where
  name := name
  kind := .ordinary
  loader := none
  accessFlags := 33
  super := sup
  interfaces := #[]
  cf := none
  fields := #[]
  methods := #[]
  instanceTypes := #[]
  staticTypes := #[]
  resolved := #[]
  callSites := []
  init := .initialized
  statics := none
  mirror := none

def pool0 : Array CpInfo := pool [(5, u "<init>"), (0, u "()V"), (1, .class_ 10), (1, u "java/lang/Object")] 113

def k0m0 : Method := { name := "<init>", desc := "()V", sig := { parameters := [], returnType := none }, accessFlags := 1, code := none }
/-- java/lang/Object -/
def k0 : Class := { plain "java/lang/Object" none with
  accessFlags := 33
  interfaces := #[]
  cf := some (fileOf pool0 8 #[] #[{ accessFlags := 1, nameIndex := 5, descriptorIndex := 6, attributes := #[] }] 33 0 #[] #[])
  fields := #[]
  methods := #[k0m0]
  instanceTypes := #[]
  staticTypes := #[]
  resolved := Array.replicate 124 none
  statics := none }

def pool1 : Array CpInfo := pool [(2, .class_ 4), (1, u "java/lang/Object"), (0, u "<init>"), (0, u "()V"), (0, .fieldref 8 9), (0, .class_ 10), (0, .nameAndType 11 12), (0, u "com/example/kascade/kascade/engine/Truth"), (0, u "FALSE"), (0, u "Lcom/example/kascade/kascade/engine/Truth;"), (0, .fieldref 8 14), (0, .nameAndType 15 12), (0, u "UNKNOWN"), (0, .fieldref 8 17), (0, .nameAndType 18 12), (0, u "TRUE"), (0, .integer 2147483647), (0, .methodref 21 22), (0, .class_ 23), (0, .nameAndType 24 25), (0, u "com/example/kascade/kascade/engine/TruthAndPinLaw"), (0, u "pick"), (0, u "(I)Lcom/example/kascade/kascade/engine/Truth;"), (0, .methodref 27 28), (0, .class_ 29), (0, .nameAndType 30 31), (0, u "java/lang/Math"), (0, u "min"), (0, u "(II)I"), (0, .methodref 8 33), (0, .nameAndType 34 35), (0, u "and"), (0, u "(Lcom/example/kascade/kascade/engine/Truth;)Lcom/example/kascade/kascade/engine/Truth;"), (3, u "law"), (0, u "(II)Z")] 2

def k1m0 : Method := { name := "<init>", desc := "()V", sig := { parameters := [], returnType := none }, accessFlags := 2, code := none }
def k1c1 : Code := { maxStack := 2, maxLocals := 1, code := method_2_code, exceptionTable := #[], attributes := #[] }
def k1m1 : Method := { name := "pick", desc := "(I)Lcom/example/kascade/kascade/engine/Truth;", sig := { parameters := [.int], returnType := some (.object "com/example/kascade/kascade/engine/Truth") }, accessFlags := 10, code := some k1c1 }
def k1c2 : Code := { maxStack := 2, maxLocals := 8, code := code, exceptionTable := #[], attributes := #[] }
def k1m2 : Method := { name := "law", desc := "(II)Z", sig := { parameters := [.int, .int], returnType := some .boolean }, accessFlags := 9, code := some k1c2 }
/-- com/example/kascade/kascade/engine/TruthAndPinLaw -/
def k1 : Class := { plain "com/example/kascade/kascade/engine/TruthAndPinLaw" (some 0) with
  accessFlags := 49
  interfaces := #[]
  cf := some (fileOf pool1 21 #[] #[{ accessFlags := 2, nameIndex := 5, descriptorIndex := 6, attributes := #[] }, { accessFlags := 10, nameIndex := 24, descriptorIndex := 25, attributes := #[] }, { accessFlags := 9, nameIndex := 39, descriptorIndex := 40, attributes := #[] }] 49 2 #[] #[])
  fields := #[]
  methods := #[k1m0, k1m1, k1m2]
  instanceTypes := #[]
  staticTypes := #[]
  resolved := Array.replicate 43 none
  statics := none }

def pool2 : Array CpInfo := pool [(1, .class_ 2), (0, u "java/lang/constant/Constable"), (0, .class_ 4), (0, u "java/lang/Object")] 6

/-- java/lang/constant/Constable -/
def k2 : Class := { plain "java/lang/constant/Constable" (some 0) with
  accessFlags := 1537
  interfaces := #[]
  cf := some (fileOf pool2 1 #[] #[] 1537 3 #[] #[])
  fields := #[]
  methods := #[]
  instanceTypes := #[]
  staticTypes := #[]
  resolved := Array.replicate 11 none
  statics := none }

def pool3 : Array CpInfo := pool [(1, .class_ 2), (0, u "java/lang/Comparable"), (0, .class_ 4), (0, u "java/lang/Object")] 7

/-- java/lang/Comparable -/
def k3 : Class := { plain "java/lang/Comparable" (some 0) with
  accessFlags := 1537
  interfaces := #[]
  cf := some (fileOf pool3 1 #[] #[] 1537 3 #[] #[])
  fields := #[]
  methods := #[]
  instanceTypes := #[]
  staticTypes := #[]
  resolved := Array.replicate 12 none
  statics := none }

def pool4 : Array CpInfo := pool [(1, .class_ 2), (0, u "java/io/Serializable"), (0, .class_ 4), (0, u "java/lang/Object")] 2

/-- java/io/Serializable -/
def k4 : Class := { plain "java/io/Serializable" (some 0) with
  accessFlags := 1537
  interfaces := #[]
  cf := some (fileOf pool4 1 #[] #[] 1537 3 #[] #[])
  fields := #[]
  methods := #[]
  instanceTypes := #[]
  staticTypes := #[]
  resolved := Array.replicate 7 none
  statics := none }

def pool5 : Array CpInfo := pool [(2, .class_ 4), (1, u "java/lang/Enum"), (0, u "name"), (0, u "Ljava/lang/String;"), (2, u "ordinal"), (0, u "I"), (1, .class_ 14), (1, u "java/lang/Object"), (4, u "hash"), (86, .class_ 108), (1, u "java/lang/Enum$EnumDesc"), (2, .class_ 112), (0, u "java/lang/constant/Constable"), (0, .class_ 114), (0, u "java/lang/Comparable"), (0, .class_ 116), (0, u "java/io/Serializable")] 87

/-- java/lang/Enum -/
def k5 : Class := { plain "java/lang/Enum" (some 0) with
  accessFlags := 1057
  interfaces := #[2, 3, 4]
  cf := some (fileOf pool5 2 #[.nestMembers #[106]] #[] 1057 12 #[111, 113, 115] #[{ accessFlags := 18, nameIndex := 5, descriptorIndex := 6, attributes := #[] }, { accessFlags := 18, nameIndex := 9, descriptorIndex := 10, attributes := #[] }, { accessFlags := 2, nameIndex := 19, descriptorIndex := 10, attributes := #[] }])
  fields := #[{ name := "name", type := (.object "java/lang/String"), accessFlags := 18, slot := 0, constantValue := 0 }, { name := "ordinal", type := .int, accessFlags := 18, slot := 1, constantValue := 0 }, { name := "hash", type := .int, accessFlags := 2, slot := 2, constantValue := 0 }]
  methods := #[]
  instanceTypes := #[(.object "java/lang/String"), .int, .int]
  staticTypes := #[]
  resolved := Array.replicate 204 none
  statics := none }

def pool6 : Array CpInfo := pool [(1, .class_ 2), (0, u "com/example/kascade/kascade/engine/Truth"), (0, .fieldref 1 4), (0, .nameAndType 5 6), (0, u "TRUE"), (0, u "Lcom/example/kascade/kascade/engine/Truth;"), (0, .fieldref 1 8), (0, .nameAndType 9 6), (0, u "FALSE"), (0, .fieldref 1 11), (0, .nameAndType 12 6), (0, u "UNKNOWN"), (2, u "$VALUES"), (0, u "[Lcom/example/kascade/kascade/engine/Truth;"), (6, .class_ 25), (1, u "java/lang/Enum"), (33, u "and"), (0, u "(Lcom/example/kascade/kascade/engine/Truth;)Lcom/example/kascade/kascade/engine/Truth;")] 7

def k6c0 : Code := { maxStack := 2, maxLocals := 3, code := prog_15_method_5_code, exceptionTable := #[], attributes := #[] }
def k6m0 : Method := { name := "and", desc := "(Lcom/example/kascade/kascade/engine/Truth;)Lcom/example/kascade/kascade/engine/Truth;", sig := { parameters := [(.object "com/example/kascade/kascade/engine/Truth")], returnType := some (.object "com/example/kascade/kascade/engine/Truth") }, accessFlags := 0, code := some k6c0 }
/-- com/example/kascade/kascade/engine/Truth -/
def k6 : Class := { plain "com/example/kascade/kascade/engine/Truth" (some 5) with
  accessFlags := 16432
  interfaces := #[]
  cf := some (fileOf pool6 1 #[] #[{ accessFlags := 0, nameIndex := 59, descriptorIndex := 60, attributes := #[] }] 16432 23 #[] #[{ accessFlags := 16409, nameIndex := 5, descriptorIndex := 6, attributes := #[] }, { accessFlags := 16409, nameIndex := 9, descriptorIndex := 6, attributes := #[] }, { accessFlags := 16409, nameIndex := 12, descriptorIndex := 6, attributes := #[] }, { accessFlags := 4122, nameIndex := 15, descriptorIndex := 16, attributes := #[] }])
  fields := #[{ name := "TRUE", type := (.object "com/example/kascade/kascade/engine/Truth"), accessFlags := 16409, slot := 0, constantValue := 0 }, { name := "FALSE", type := (.object "com/example/kascade/kascade/engine/Truth"), accessFlags := 16409, slot := 1, constantValue := 0 }, { name := "UNKNOWN", type := (.object "com/example/kascade/kascade/engine/Truth"), accessFlags := 16409, slot := 2, constantValue := 0 }, { name := "$VALUES", type := (.array (.object "com/example/kascade/kascade/engine/Truth")), accessFlags := 4122, slot := 3, constantValue := 0 }]
  methods := #[k6m0]
  instanceTypes := #[(.object "java/lang/String"), .int, .int]
  staticTypes := #[(.object "com/example/kascade/kascade/engine/Truth"), (.object "com/example/kascade/kascade/engine/Truth"), (.object "com/example/kascade/kascade/engine/Truth"), (.array (.object "com/example/kascade/kascade/engine/Truth"))]
  resolved := Array.replicate 68 none
  statics := some 0 }

def pool7 : Array CpInfo := pool [(1, .class_ 2), (0, u "java/lang/Math"), (1, .class_ 6), (1, u "java/lang/Object"), (0, u "<init>"), (0, u "()V"), (89, .class_ 100), (1, u "java/lang/Math$RandomNumberGeneratorHolder"), (71, u "negativeZeroFloatBits"), (0, u "J"), (2, u "negativeZeroDoubleBits"), (24, u "min"), (43, u "$assertionsDisabled"), (0, u "Z"), (88, u "(II)I"), (2, u "twoToTheDoubleScaleDown"), (0, u "D"), (4, u "twoToTheDoubleScaleUp"), (9, u "E"), (3, u "PI"), (2, u "TAU"), (2, u "DEGREES_TO_RADIANS"), (0, u "RADIANS_TO_DEGREES")] 94

def k7m0 : Method := { name := "<init>", desc := "()V", sig := { parameters := [], returnType := none }, accessFlags := 2, code := none }
def k7c1 : Code := { maxStack := 2, maxLocals := 2, code := jdk_29_method_69_code, exceptionTable := #[], attributes := #[] }
def k7m1 : Method := { name := "min", desc := "(II)I", sig := { parameters := [.int, .int], returnType := some .int }, accessFlags := 9, code := some k7c1 }
/-- java/lang/Math -/
def k7 : Class := { plain "java/lang/Math" (some 0) with
  accessFlags := 49
  interfaces := #[]
  cf := some (fileOf pool7 1 #[.nestMembers #[98]] #[{ accessFlags := 2, nameIndex := 7, descriptorIndex := 8, attributes := #[] }, { accessFlags := 9, nameIndex := 201, descriptorIndex := 335, attributes := #[] }] 49 4 #[] #[{ accessFlags := 25, nameIndex := 354, descriptorIndex := 339, attributes := #[] }, { accessFlags := 25, nameIndex := 358, descriptorIndex := 339, attributes := #[] }, { accessFlags := 25, nameIndex := 361, descriptorIndex := 339, attributes := #[] }, { accessFlags := 26, nameIndex := 364, descriptorIndex := 339, attributes := #[] }, { accessFlags := 26, nameIndex := 365, descriptorIndex := 339, attributes := #[] }, { accessFlags := 26, nameIndex := 172, descriptorIndex := 173, attributes := #[] }, { accessFlags := 26, nameIndex := 176, descriptorIndex := 173, attributes := #[] }, { accessFlags := 8, nameIndex := 344, descriptorIndex := 339, attributes := #[] }, { accessFlags := 8, nameIndex := 338, descriptorIndex := 339, attributes := #[] }, { accessFlags := 4120, nameIndex := 245, descriptorIndex := 246, attributes := #[] }])
  fields := #[{ name := "E", type := .double, accessFlags := 25, slot := 0, constantValue := 0 }, { name := "PI", type := .double, accessFlags := 25, slot := 1, constantValue := 0 }, { name := "TAU", type := .double, accessFlags := 25, slot := 2, constantValue := 0 }, { name := "DEGREES_TO_RADIANS", type := .double, accessFlags := 26, slot := 3, constantValue := 0 }, { name := "RADIANS_TO_DEGREES", type := .double, accessFlags := 26, slot := 4, constantValue := 0 }, { name := "negativeZeroFloatBits", type := .long, accessFlags := 26, slot := 5, constantValue := 0 }, { name := "negativeZeroDoubleBits", type := .long, accessFlags := 26, slot := 6, constantValue := 0 }, { name := "twoToTheDoubleScaleUp", type := .double, accessFlags := 8, slot := 7, constantValue := 0 }, { name := "twoToTheDoubleScaleDown", type := .double, accessFlags := 8, slot := 8, constantValue := 0 }, { name := "$assertionsDisabled", type := .boolean, accessFlags := 4120, slot := 9, constantValue := 0 }]
  methods := #[k7m0, k7m1]
  instanceTypes := #[]
  staticTypes := #[.double, .double, .double, .double, .double, .long, .long, .double, .double, .boolean]
  resolved := Array.replicate 460 none
  statics := none }

def pool8 : Array CpInfo := pool [(1, u "java/lang/Cloneable"), (0, .class_ 1), (0, u "java/lang/Object"), (0, .class_ 3)] 3

/-- java/lang/Cloneable -/
def k8 : Class := { plain "java/lang/Cloneable" (some 0) with
  accessFlags := 1537
  interfaces := #[]
  cf := some (fileOf pool8 2 #[] #[] 1537 4 #[] #[])
  fields := #[]
  methods := #[]
  instanceTypes := #[]
  staticTypes := #[]
  resolved := Array.replicate 8 none
  statics := none }

/-- the primitive byte -/
def k9 : Class := { plain "byte" none with kind := .primitive 'B', accessFlags := 0x411 }
/-- [B -/
def k10 : Class := { plain "[B" (some 0) with kind := .array 9 .byte, interfaces := #[8, 4], accessFlags := 1041 }

/-- the primitive int -/
def k11 : Class := { plain "int" none with kind := .primitive 'I', accessFlags := 0x411 }
/-- [I -/
def k12 : Class := { plain "[I" (some 0) with kind := .array 11 .int, interfaces := #[8, 4], accessFlags := 1041 }

def heap : Heap := #[{ cls := 6, slots := #[.ref 1, .ref 2, .ref 3, .null], vm := .statics 6 },
  { cls := 6, slots := #[.null, .int 0, .int 0], vm := .none },
  { cls := 6, slots := #[.null, .int 1, .int 0], vm := .none },
  { cls := 6, slots := #[.null, .int 2, .int 0], vm := .none }]
def classes : Array Class := #[k0, k1, k2, k3, k4, k5, k6, k7, k8, k9, k10, k11, k12]
def interned : List (Array UInt16 × Addr) := []
def slotsUsed : Nat := 13
def theMethod : MethodId := ⟨1, 2⟩
def args0 : Array Value := #[.int 5, .int 4]
def aboutOver (below : List Frame) : State where
  vm := { classes := classes, interned := interned.toArray }
  heap := heap
  slotsUsed := slotsUsed
  threads := #[{ frames := .invoking theMethod args0 :: below }]
def below0 : List Frame := [.native { method := ⟨0, 0⟩, args := #[] }]
def about1 : State := aboutOver below0
def p0 : Program := .bare "" "" ""
def e0 : Env := launch0.env 0 0 0
theorem w_frames : about1.frames = Frame.invoking theMethod args0 :: below0 := rfl
set_option maxRecDepth 65536 in
theorem w_args : argsFit about1.vm theMethod args0 = true := by decide +kernel
set_option maxRecDepth 65536 in
theorem w_heap : heapFits about1 = true := by decide +kernel
set_option maxRecDepth 65536 in
theorem w_runnable : about1.curStatus? = some .runnable := by decide +kernel
set_option maxRecDepth 65536 in
theorem w_alone : about1.alone = true := by decide +kernel
set_option maxRecDepth 65536 in
theorem w_named : about1.methodNamed? x = some theMethod := by decide +kernel
set_option maxRecDepth 65536 in
theorem w_hears : about1.hears theMethod below0 = true := by decide +kernel
set_option maxRecDepth 65536 in
theorem w_ripe : about1.ripe theMethod args0 below0 = true := by decide +kernel
theorem w_running : about1.status = .running := rfl
set_option maxRecDepth 65536 in
theorem w_room : about1.hasRoom e0.platform room_1 = true :=
  launch0.hasRoom_least _ room_1 (by decide +kernel) (by decide +kernel) (by decide +kernel) (by decide +kernel) (by decide +kernel) (by decide +kernel)
theorem allAtoms_all (ts : List Jvm.Cond) (a : Array Jvm.Value) (st : Jvm.State) : (allAtoms ts).before a st = ts.all (fun c => c.before a st) := by
  induction ts with
  | nil => rfl
  | cons c t ih =>
    show (Jvm.Cond.and c (allAtoms t)).before a st = _
    rw [Jvm.Cond.before_and, ih, List.all_cons]
def words1 : List Jvm.Cond := Jvm.Cond.code x code maxLocals ret :: tables_1
/-- a 'code' word, met by the world's own term for the bytes: nothing is compared byte by byte -/
theorem code_word {y : MethodName} {bytes : ByteArray} {mx : Nat} {rt : Option FieldType} {a : Array Value} {s : State} {m : MethodId} {meth : Method} {c : Code} (h1 : s.methodNamed? y = some m) (h2 : s.vm.method? m = some meth) (h3 : meth.code = some c) (h4 : c.code = bytes)
    (h5 : (c.maxLocals == mx && c.exceptionTable.isEmpty && decide (c.maxStack ≤ mostOperands) && decide (meth.sig.returnType = rt) && !meth.locks && decide (parseMethodDescriptor y.desc = some meth.sig)) = true) : (Jvm.Cond.code y bytes mx rt).before a s = true := by
  simp only [Bool.and_eq_true, beq_iff_eq, Bool.not_eq_true', decide_eq_true_eq] at h5
  obtain ⟨⟨⟨⟨⟨g1, g2⟩, g3⟩, g4⟩, g5⟩, g6⟩ := h5
  simp [Cond.before, Cond.holds, Cond.value, h1, h2, h3, h4, g1, g2, g3, g4, g5, g6]
def isCode : Jvm.Cond → Bool
  | .code _ _ _ _ => true
  | _ => false
theorem all_split {L : List Jvm.Cond} {P : Jvm.Cond → Bool} (h1 : L.all (fun c => isCode c || P c) = true) (h2 : ∀ c ∈ L.filter isCode, P c = true) : L.all P = true := by
  refine List.all_eq_true.mpr fun c hc => ?_
  have h := List.all_eq_true.mp h1 c hc
  rcases Bool.eq_false_or_eq_true (isCode c) with hi | hi
  · exact h2 c (List.mem_filter.mpr ⟨hc, hi⟩)
  · simpa [hi] using h
set_option maxRecDepth 65536 in
theorem w_c0 : (Jvm.Cond.code x code maxLocals ret).before args0 about1 = true := code_word (m := ⟨1, 2⟩) (meth := k1m2) (c := k1c2) (by decide +kernel) rfl rfl rfl (by decide +kernel)
set_option maxRecDepth 65536 in
theorem w_c1 : (Jvm.Cond.code ({ cls := "com/example/kascade/kascade/engine/TruthAndPinLaw", name := "pick", desc := "(I)Lcom/example/kascade/kascade/engine/Truth;" } : Jvm.MethodName) method_2_code (1 : Nat) (Option.some (Jvm.ClassFile.FieldType.object "com/example/kascade/kascade/engine/Truth"))).before args0 about1 = true := code_word (m := ⟨1, 1⟩) (meth := k1m1) (c := k1c1) (by decide +kernel) rfl rfl rfl (by decide +kernel)
set_option maxRecDepth 65536 in
theorem w_c2 : (Jvm.Cond.code ({ cls := "java/lang/Math", name := "min", desc := "(II)I" } : Jvm.MethodName) jdk_29_method_69_code (2 : Nat) (Option.some Jvm.ClassFile.FieldType.int)).before args0 about1 = true := code_word (m := ⟨7, 1⟩) (meth := k7m1) (c := k7c1) (by decide +kernel) rfl rfl rfl (by decide +kernel)
set_option maxRecDepth 65536 in
theorem w_c3 : (Jvm.Cond.code ({ cls := "com/example/kascade/kascade/engine/Truth", name := "and", desc := "(Lcom/example/kascade/kascade/engine/Truth;)Lcom/example/kascade/kascade/engine/Truth;" } : Jvm.MethodName) prog_15_method_5_code (3 : Nat) (Option.some (Jvm.ClassFile.FieldType.object "com/example/kascade/kascade/engine/Truth"))).before args0 about1 = true := code_word (m := ⟨6, 0⟩) (meth := k6m0) (c := k6c0) (by decide +kernel) rfl rfl rfl (by decide +kernel)
def codes1 : List Jvm.Cond := [Jvm.Cond.code x code maxLocals ret, Jvm.Cond.code ({ cls := "com/example/kascade/kascade/engine/TruthAndPinLaw", name := "pick", desc := "(I)Lcom/example/kascade/kascade/engine/Truth;" } : Jvm.MethodName) method_2_code (1 : Nat) (Option.some (Jvm.ClassFile.FieldType.object "com/example/kascade/kascade/engine/Truth")), Jvm.Cond.code ({ cls := "java/lang/Math", name := "min", desc := "(II)I" } : Jvm.MethodName) jdk_29_method_69_code (2 : Nat) (Option.some Jvm.ClassFile.FieldType.int), Jvm.Cond.code ({ cls := "com/example/kascade/kascade/engine/Truth", name := "and", desc := "(Lcom/example/kascade/kascade/engine/Truth;)Lcom/example/kascade/kascade/engine/Truth;" } : Jvm.MethodName) prog_15_method_5_code (3 : Nat) (Option.some (Jvm.ClassFile.FieldType.object "com/example/kascade/kascade/engine/Truth"))]
set_option maxRecDepth 65536 in
theorem codes_eq : words1.filter isCode = codes1 := rfl
theorem w_codes : ∀ c ∈ words1.filter isCode, c.before args0 about1 = true := by
  rw [codes_eq]
  intro c hc
  simp only [codes1, List.mem_cons, List.not_mem_nil, or_false] at hc
  rcases hc with rfl | rfl | rfl | rfl
  · exact w_c0
  · exact w_c1
  · exact w_c2
  · exact w_c3
set_option maxRecDepth 65536 in
theorem w_t1 : (words1.take 24).all (fun c => isCode c || c.before args0 about1) = true := by decide +kernel
set_option maxRecDepth 65536 in
theorem w_t2 : (words1.drop 24).all (fun c => isCode c || c.before args0 about1) = true := by decide +kernel
theorem w_tables : (allAtoms (Jvm.Cond.code x code maxLocals ret :: tables_1)).before args0 about1 = true := by
  rw [allAtoms_all]
  show words1.all (fun c => c.before args0 about1) = true
  refine all_split ?_ w_codes
  rw [← List.take_append_drop 24 words1, List.all_append, w_t1, w_t2]
  rfl
set_option maxRecDepth 65536 in
theorem w_case : (Jvm.Cond.and given_1 narrow_1).before args0 about1 = true := by decide +kernel
theorem w_applies : (headSpec (Jvm.Cond.code x code maxLocals ret :: tables_1) room_1).applies x e0.platform about1 = true :=
  (Spec.applies_iff w_frames).mpr ⟨w_running, w_runnable, w_alone, w_named, w_hears, w_ripe, w_room, w_tables⟩
theorem atStart : AtStart classFile x code maxLocals ret World_1 tables_1 room_1 Calls_1 rest_1 Pre_1 launch0 p0 e0 about1 theMethod args0 below0 :=
  ⟨lists_1, trivial, launch0.admits_env _ _ _, launch0.least_env, fairChoices_fair.cas, fairChoices_fair.clock, w_frames, w_args, w_heap, w_applies, trivial, trivial, w_case⟩
end start1
theorem witness_1 : WitnessClaimed_1 := ⟨start1.p0, start1.e0, start1.about1, start1.theMethod, start1.args0, start1.below0, start1.atStart⟩
end Jvm.Pilot.@@N@@
