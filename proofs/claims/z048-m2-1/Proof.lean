import JvmDerived
import JvmDerived.Pilot.@@N@@Statement
import JvmDerived.Pilot.@@N@@Code
@@BLOCK:NumsL.lean.txt@@
set_option linter.unusedVariables false
set_option linter.unusedSimpArgs false
namespace Jvm.RoadKit
open Sem ClassFile Op Lib Jvm.Stand Jvm.Free Jvm.LawKit
section New
variable {p : Program} {l : Launch} {e : Env} {R : Room} {s : State} {m : MethodId} {args : Array Value} {below : List Frame} {meth : Method} {c : Code} {T : State} {locs : List Loc} {cells slots : Nat}
theorem retI (X : Stand p l e R s m args below meth c T locs cells slots) (hx : p.tables.exec = Jvm.exec) {pc : Nat} {Ls : Array Slot} {z : Int32} {rest : List Value} (hret : meth.sig.returnType = some .int) (hd : decode c.code pc = .ok (.ireturn, 1)) {fs : List Frame}
    (hl : ∀ (f : JFrame) (acts : List Action), f.method = m → f.locked = none → f.entered = [] → (doReturn e (T.setTop f) acts (some (.int z))).1 = T.setFrames fs) : Steps p.tables e below (T.setTop (mkF m pc Ls (.int z :: rest))) (T.setFrames fs) := by
  have hm' : T.vm.method? m = some meth := X.method'
  have hn : narrow .int (.int z) = .int z := rfl
  show Steps p.tables e below (T.setTop { method := m, pc := pc, locals := Ls, stack := _ :: rest, locked := none }) _
  jvm_step X.here [X.here.top, hx, hd, hm', hret, hn]
  first | (intro acts; rw [hl _ acts rfl rfl rfl]) | rw [hl _ _ rfl rfl rfl]
  exact Steps.refl _
end New
end Jvm.RoadKit
namespace Jvm.Pilot.@@N@@
open Jvm Jvm.ClassFile Sem Op Lib Jvm.Free Jvm.Stand Jvm.LawKit Jvm.RoadKit Bundle Jvm.Pilot.@@N@@.Jvm.D
/-- what a body leaves that writes nothing: the value r, and the heap as it was -/
def PQ (r : Value) (h0 : Heap) (n0 : Nat) (v : Option Value) (h : Heap) (L : List Loc) : Prop := v = some r ∧ Fr n0 L ∧ h = h0
abbrev PaysQ (l : Launch) (Z : State) (h0 : Heap) (y : MethodName) (ws : List Jvm.Cond) (rm : Room) (as : Array Value) (Q : Option Value → Heap → List Loc → Prop) : Prop :=
  MetFree l y (head1 ws rm) (fun a U => a = as ∧ Z.Warmed39 U.vm ∧ U.heap = h0) (fun _ _ _ _ _ => True) (fun _ U o U' => ∃ v L, o = .returned v ∧ Q v U'.heap L ∧ FrameEnd U o U' L rm.cells rm.slots)
abbrev Pays (l : Launch) (Z : State) (h0 : Heap) (n0 : Nat) (y : MethodName) (ws : List Jvm.Cond) (rm : Room) (as : Array Value) (r : Value) : Prop :=
  MetFree l y (head1 ws rm) (fun a U => a = as ∧ Z.Warmed39 U.vm ∧ U.heap = h0) (fun _ _ _ _ _ => True) (fun _ U o U' => ∃ v L, o = .returned v ∧ PQ r h0 n0 v U'.heap L ∧ FrameEnd U o U' L rm.cells rm.slots)
abbrev R0 : Room := { frames := 0, cells := 0, slots := 0, locals := 0 }
theorem own_eqi {args : Array Value} {first s : State} {o : Option Outcome} {idx : List Nat} {t : Term} {z : Int32} (h : (Jvm.Cond.eq t (.int z)).value args first o s idx = some true) : t.eval args first o idx s = some (.int z) := by
  simp only [Cond.value, Term.eval] at h; cases ht : t.eval args first o idx s with | none => simp [ht] at h | some x => cases x <;> simp [ht] at h ⊢; exact h
theorem own_eql {args : Array Value} {first s : State} {o : Option Outcome} {idx : List Nat} {t : Term} {z : Int64} (h : (Jvm.Cond.eq t (.long z)).value args first o s idx = some true) : t.eval args first o idx s = some (.long z) := by
  simp only [Cond.value, Term.eval] at h; cases ht : t.eval args first o idx s with | none => simp [ht] at h | some x => cases x <;> simp [ht] at h ⊢; exact h

theorem own_mod (k : Int32) : (k &&& (2147483647 : Int32)) % (7 : Int32) = (0 : Int32) ∨ (k &&& (2147483647 : Int32)) % (7 : Int32) = (1 : Int32) ∨ (k &&& (2147483647 : Int32)) % (7 : Int32) = (2 : Int32) ∨ (k &&& (2147483647 : Int32)) % (7 : Int32) = (3 : Int32) ∨ (k &&& (2147483647 : Int32)) % (7 : Int32) = (4 : Int32) ∨ (k &&& (2147483647 : Int32)) % (7 : Int32) = (5 : Int32) ∨ (k &&& (2147483647 : Int32)) % (7 : Int32) = (6 : Int32) := by
  have h1 := Jvm.Kit.i32_mask k (2147483647 : Int32) (k := 31) (by decide) (by decide)
  have h2 := Jvm.Kit.i32_rem_nonneg (x := k &&& (2147483647 : Int32)) (y := (7 : Int32)) (by rw [h1]; exact Int.emod_nonneg _ (by decide))
  have en : ((7 : Int32)).toInt = 7 := by decide
  rw [en] at h2
  have e0 : ((0 : Int32)).toInt = 0 := by decide
  have e1 : ((1 : Int32)).toInt = 1 := by decide
  have e2 : ((2 : Int32)).toInt = 2 := by decide
  have e3 : ((3 : Int32)).toInt = 3 := by decide
  have e4 : ((4 : Int32)).toInt = 4 := by decide
  have e5 : ((5 : Int32)).toInt = 5 := by decide
  have e6 : ((6 : Int32)).toInt = 6 := by decide
  simp only [← Int32.toInt_inj, e0, e1, e2, e3, e4, e5, e6]
  omega

theorem d1_0 : decode method_2_code 0 = .ok (.iload_n 0, 1) := by decide +kernel
theorem d1_1 : decode method_2_code 1 = .ok (.ifCond .ne 7, 3) := by decide +kernel
theorem d1_4 : decode method_2_code 4 = .ok (.getstatic 7, 3) := by decide +kernel
theorem d1_7 : decode method_2_code 7 = .ok (.areturn, 1) := by decide +kernel
theorem pn_XsBoundedIntegerIncludesPinLaw : plainName "com/example/dodder/dodder/model/lexical/XsBoundedIntegerIncludesPinLaw" = true := by first | (simp [plainName, overriddenIn]; done) | decide +kernel
theorem ef_1 (m : MethodId) (x0 : Int32) : entryFrame m #[(.int x0)] 1 = mkF m 0 #[.val (.int x0)] [] := by first | (simp [entryFrame, mkF, argsToLocals, Value.category]; done) | rfl
set_option maxRecDepth 65536 in
set_option maxHeartbeats 40000000 in
theorem pick_0 (l : Launch) (Z : State) (a0 : Array Value) (hw : ∀ d ∈ tables_1, d.before a0 Z = true) (w : Addr) (h0 : Heap) (n0 : Nat) (Z0 : n0 ≤ h0.size) (S_LONG : Sta Z h0 "com/example/dodder/dodder/model/lexical/XsBoundedInteger" "LONG" "Lcom/example/dodder/dodder/model/lexical/XsBoundedInteger;" (.ref w)) :
    Pays l Z h0 n0 (⟨"com/example/dodder/dodder/model/lexical/XsBoundedIntegerIncludesPinLaw", "pick", "(I)Lcom/example/dodder/dodder/model/lexical/XsBoundedInteger;"⟩ : MethodName) [Jvm.Cond.code (⟨"com/example/dodder/dodder/model/lexical/XsBoundedIntegerIncludesPinLaw", "pick", "(I)Lcom/example/dodder/dodder/model/lexical/XsBoundedInteger;"⟩ : MethodName) method_2_code 1 (some (.object "com/example/dodder/dodder/model/lexical/XsBoundedInteger"))] R0 #[(.int (0 : Int32))] (.ref w) := by
  refine MetFree.of_bodySF (plainFor_of_name pn_XsBoundedIntegerIncludesPinLaw) hisR ?_
  intro p e s m args below meth c s₁ Bd hml0 hP hK
  obtain ⟨rfl, hZ, hh⟩ := hP
  have hx := Bd.exec
  have hby := Bd.bytes
  have hml : c.maxLocals = 1 := hml0
  have hown : s.vm.findClass "com/example/dodder/dodder/model/lexical/XsBoundedIntegerIncludesPinLaw" = some m.cls := findClass_of_methodNamed Bd.named
  have X0 : Stand p l e R0 s m #[(.int (0 : Int32))] below meth c s₁ [] 0 0 := Stand.of_body Bd
  have e0 : s₁.heap = h0 := by rw [← hh, Bd.state]; rfl
  have N0 := Fr.nil n0
  have pre0 : ∀ t, Steps p.tables e below (s₁.setTop (mkF m 0 #[.val (.int (0 : Int32))] [])) t → Steps p.tables e below (s₁.setTop (entryFrame m #[(.int (0 : Int32))] 1)) t := fun t k => castTop (ef_1 m (0 : Int32)) k
  obtain ⟨T1, X1, e1, st1⟩ := getS2 X0 hx hZ hown (host := "") (Or.inl (hw _ (List.mem_of_getElem? (i := 5) rfl))) Via.refl e0 S_LONG (g := (mkF m 4 #[.val (.int (0 : Int32))] [])) rfl (hb hby d1_4)
  obtain ⟨fs, hr, hrun, hended, hW, hsame⟩ := X1.leave (v := some (.ref w)) (fun h => by rw [Bd.returns] at h; cases h)
  refine ⟨_, _, pre0 _ ?_, hrun, hended, _, _, rfl, ?_, ⟨_, rfl⟩, hW, hsame.mono (by decide) (by decide)⟩
  · show Steps p.tables e below (s₁.setTop (mkF m 0 #[.val (.int (0 : Int32))] [])) _
    refine XS.iloadN X0.here hx rfl (hb hby d1_0) rfl ?_
    show Steps p.tables e below (s₁.setTop (mkF m 1 #[.val (.int (0 : Int32))] [(.int (0 : Int32))])) _
    refine XS.ifNo X0.here hx rfl (hb hby d1_1) rfl (by decide) ?_
    show Steps p.tables e below (s₁.setTop (mkF m 4 #[.val (.int (0 : Int32))] [])) _
    refine st1 _ ?_
    show Steps p.tables e below (T1.setTop (mkF m 7 #[.val (.int (0 : Int32))] [(.ref w)])) _
    jvm_step X1.here [X1.here.top, hx, (hb hby d1_7), X1.method', Bd.returns, Value.isRef, FieldType.isReference]
    first | (intro acts; rw [hr _ acts rfl rfl rfl]) | rw [hr _ _ rfl rfl rfl]
    exact Steps.refl _
  · show PQ (.ref w) h0 n0 _ T1.heap _
    exact ⟨rfl, N0, e1⟩

theorem d2_0 : decode method_3_code 0 = .ok (.iload_n 0, 1) := by decide +kernel
theorem d2_1 : decode method_3_code 1 = .ok (.ifCond .ne 6, 3) := by decide +kernel
theorem d2_4 : decode method_3_code 4 = .ok (.bipush 127, 2) := by decide +kernel
theorem d2_6 : decode method_3_code 6 = .ok (.ireturn, 1) := by decide +kernel
theorem ef_2 (m : MethodId) (x0 : Int32) : entryFrame m #[(.int x0)] 1 = mkF m 0 #[.val (.int x0)] [] := by first | (simp [entryFrame, mkF, argsToLocals, Value.category]; done) | rfl
set_option maxRecDepth 65536 in
set_option maxHeartbeats 40000000 in
theorem row_0 (l : Launch) (Z : State) (a0 : Array Value) (hw : ∀ d ∈ tables_1, d.before a0 Z = true)  (h0 : Heap) (n0 : Nat) (Z0 : n0 ≤ h0.size)  :
    Pays l Z h0 n0 (⟨"com/example/dodder/dodder/model/lexical/XsBoundedIntegerIncludesPinLaw", "row", "(I)I"⟩ : MethodName) [Jvm.Cond.code (⟨"com/example/dodder/dodder/model/lexical/XsBoundedIntegerIncludesPinLaw", "row", "(I)I"⟩ : MethodName) method_3_code 1 (some .int)] R0 #[(.int (0 : Int32))] (.int (127 : Int32)) := by
  refine MetFree.of_bodySF (plainFor_of_name pn_XsBoundedIntegerIncludesPinLaw) hisR ?_
  intro p e s m args below meth c s₁ Bd hml0 hP hK
  obtain ⟨rfl, hZ, hh⟩ := hP
  have hx := Bd.exec
  have hby := Bd.bytes
  have hml : c.maxLocals = 1 := hml0
  have hown : s.vm.findClass "com/example/dodder/dodder/model/lexical/XsBoundedIntegerIncludesPinLaw" = some m.cls := findClass_of_methodNamed Bd.named
  have X0 : Stand p l e R0 s m #[(.int (0 : Int32))] below meth c s₁ [] 0 0 := Stand.of_body Bd
  have e0 : s₁.heap = h0 := by rw [← hh, Bd.state]; rfl
  have N0 := Fr.nil n0
  have pre0 : ∀ t, Steps p.tables e below (s₁.setTop (mkF m 0 #[.val (.int (0 : Int32))] [])) t → Steps p.tables e below (s₁.setTop (entryFrame m #[(.int (0 : Int32))] 1)) t := fun t k => castTop (ef_2 m (0 : Int32)) k
  obtain ⟨fs, hr, hrun, hended, hW, hsame⟩ := X0.leave (v := some (.int (127 : Int32))) (fun h => by rw [Bd.returns] at h; cases h)
  refine ⟨_, _, pre0 _ ?_, hrun, hended, _, _, rfl, ?_, ⟨_, rfl⟩, hW, hsame.mono (by decide) (by decide)⟩
  · show Steps p.tables e below (s₁.setTop (mkF m 0 #[.val (.int (0 : Int32))] [])) _
    refine XS.iloadN X0.here hx rfl (hb hby d2_0) rfl ?_
    show Steps p.tables e below (s₁.setTop (mkF m 1 #[.val (.int (0 : Int32))] [(.int (0 : Int32))])) _
    refine XS.ifNo X0.here hx rfl (hb hby d2_1) rfl (by decide) ?_
    show Steps p.tables e below (s₁.setTop (mkF m 4 #[.val (.int (0 : Int32))] [])) _
    refine XS.bipush X0.here hx rfl (hb hby d2_4) ?_
    show Steps p.tables e below (s₁.setTop (mkF m 6 #[.val (.int (0 : Int32))] [(.int (127 : Int32))])) _
    exact retI X0 hx Bd.returns (hb hby d2_6) hr
  · show PQ (.int (127 : Int32)) h0 n0 _ s₁.heap _
    exact ⟨rfl, N0, e0⟩

theorem d1_8 : decode method_2_code 8 = .ok (.iload_n 0, 1) := by decide +kernel
theorem d1_9 : decode method_2_code 9 = .ok (.iconst 1, 1) := by decide +kernel
theorem d1_10 : decode method_2_code 10 = .ok (.if_icmp .ne 7, 3) := by decide +kernel
theorem d1_13 : decode method_2_code 13 = .ok (.getstatic 13, 3) := by decide +kernel
theorem d1_16 : decode method_2_code 16 = .ok (.areturn, 1) := by decide +kernel
set_option maxRecDepth 65536 in
set_option maxHeartbeats 40000000 in
theorem pick_1 (l : Launch) (Z : State) (a0 : Array Value) (hw : ∀ d ∈ tables_1, d.before a0 Z = true) (w : Addr) (h0 : Heap) (n0 : Nat) (Z0 : n0 ≤ h0.size) (S_INT : Sta Z h0 "com/example/dodder/dodder/model/lexical/XsBoundedInteger" "INT" "Lcom/example/dodder/dodder/model/lexical/XsBoundedInteger;" (.ref w)) :
    Pays l Z h0 n0 (⟨"com/example/dodder/dodder/model/lexical/XsBoundedIntegerIncludesPinLaw", "pick", "(I)Lcom/example/dodder/dodder/model/lexical/XsBoundedInteger;"⟩ : MethodName) [Jvm.Cond.code (⟨"com/example/dodder/dodder/model/lexical/XsBoundedIntegerIncludesPinLaw", "pick", "(I)Lcom/example/dodder/dodder/model/lexical/XsBoundedInteger;"⟩ : MethodName) method_2_code 1 (some (.object "com/example/dodder/dodder/model/lexical/XsBoundedInteger"))] R0 #[(.int (1 : Int32))] (.ref w) := by
  refine MetFree.of_bodySF (plainFor_of_name pn_XsBoundedIntegerIncludesPinLaw) hisR ?_
  intro p e s m args below meth c s₁ Bd hml0 hP hK
  obtain ⟨rfl, hZ, hh⟩ := hP
  have hx := Bd.exec
  have hby := Bd.bytes
  have hml : c.maxLocals = 1 := hml0
  have hown : s.vm.findClass "com/example/dodder/dodder/model/lexical/XsBoundedIntegerIncludesPinLaw" = some m.cls := findClass_of_methodNamed Bd.named
  have X0 : Stand p l e R0 s m #[(.int (1 : Int32))] below meth c s₁ [] 0 0 := Stand.of_body Bd
  have e0 : s₁.heap = h0 := by rw [← hh, Bd.state]; rfl
  have N0 := Fr.nil n0
  have pre0 : ∀ t, Steps p.tables e below (s₁.setTop (mkF m 0 #[.val (.int (1 : Int32))] [])) t → Steps p.tables e below (s₁.setTop (entryFrame m #[(.int (1 : Int32))] 1)) t := fun t k => castTop (ef_1 m (1 : Int32)) k
  obtain ⟨T1, X1, e1, st1⟩ := getS2 X0 hx hZ hown (host := "") (Or.inl (hw _ (List.mem_of_getElem? (i := 22) rfl))) Via.refl e0 S_INT (g := (mkF m 13 #[.val (.int (1 : Int32))] [])) rfl (hb hby d1_13)
  obtain ⟨fs, hr, hrun, hended, hW, hsame⟩ := X1.leave (v := some (.ref w)) (fun h => by rw [Bd.returns] at h; cases h)
  refine ⟨_, _, pre0 _ ?_, hrun, hended, _, _, rfl, ?_, ⟨_, rfl⟩, hW, hsame.mono (by decide) (by decide)⟩
  · show Steps p.tables e below (s₁.setTop (mkF m 0 #[.val (.int (1 : Int32))] [])) _
    refine XS.iloadN X0.here hx rfl (hb hby d1_0) rfl ?_
    show Steps p.tables e below (s₁.setTop (mkF m 1 #[.val (.int (1 : Int32))] [(.int (1 : Int32))])) _
    refine XS.ifYes X0.here hx rfl (pc0 := 1) (pc' := 8) rfl (hb hby d1_1) rfl (by decide) (by decide) (by decide) ?_
    show Steps p.tables e below (s₁.setTop (mkF m 8 #[.val (.int (1 : Int32))] [])) _
    refine XS.iloadN X0.here hx rfl (hb hby d1_8) rfl ?_
    show Steps p.tables e below (s₁.setTop (mkF m 9 #[.val (.int (1 : Int32))] [(.int (1 : Int32))])) _
    refine XS.iconst X0.here hx rfl (hb hby d1_9) ?_
    show Steps p.tables e below (s₁.setTop (mkF m 10 #[.val (.int (1 : Int32))] [(.int (1 : Int32)), (.int (1 : Int32))])) _
    refine XS.icmpNo X0.here hx rfl (hb hby d1_10) rfl (by decide) ?_
    show Steps p.tables e below (s₁.setTop (mkF m 13 #[.val (.int (1 : Int32))] [])) _
    refine st1 _ ?_
    show Steps p.tables e below (T1.setTop (mkF m 16 #[.val (.int (1 : Int32))] [(.ref w)])) _
    jvm_step X1.here [X1.here.top, hx, (hb hby d1_16), X1.method', Bd.returns, Value.isRef, FieldType.isReference]
    first | (intro acts; rw [hr _ acts rfl rfl rfl]) | rw [hr _ _ rfl rfl rfl]
    exact Steps.refl _
  · show PQ (.ref w) h0 n0 _ T1.heap _
    exact ⟨rfl, N0, e1⟩

theorem d2_7 : decode method_3_code 7 = .ok (.iload_n 0, 1) := by decide +kernel
theorem d2_8 : decode method_3_code 8 = .ok (.iconst 1, 1) := by decide +kernel
theorem d2_9 : decode method_3_code 9 = .ok (.if_icmp .ne 6, 3) := by decide +kernel
theorem d2_12 : decode method_3_code 12 = .ok (.bipush 110, 2) := by decide +kernel
theorem d2_14 : decode method_3_code 14 = .ok (.ireturn, 1) := by decide +kernel
set_option maxRecDepth 65536 in
set_option maxHeartbeats 40000000 in
theorem row_1 (l : Launch) (Z : State) (a0 : Array Value) (hw : ∀ d ∈ tables_1, d.before a0 Z = true)  (h0 : Heap) (n0 : Nat) (Z0 : n0 ≤ h0.size)  :
    Pays l Z h0 n0 (⟨"com/example/dodder/dodder/model/lexical/XsBoundedIntegerIncludesPinLaw", "row", "(I)I"⟩ : MethodName) [Jvm.Cond.code (⟨"com/example/dodder/dodder/model/lexical/XsBoundedIntegerIncludesPinLaw", "row", "(I)I"⟩ : MethodName) method_3_code 1 (some .int)] R0 #[(.int (1 : Int32))] (.int (110 : Int32)) := by
  refine MetFree.of_bodySF (plainFor_of_name pn_XsBoundedIntegerIncludesPinLaw) hisR ?_
  intro p e s m args below meth c s₁ Bd hml0 hP hK
  obtain ⟨rfl, hZ, hh⟩ := hP
  have hx := Bd.exec
  have hby := Bd.bytes
  have hml : c.maxLocals = 1 := hml0
  have hown : s.vm.findClass "com/example/dodder/dodder/model/lexical/XsBoundedIntegerIncludesPinLaw" = some m.cls := findClass_of_methodNamed Bd.named
  have X0 : Stand p l e R0 s m #[(.int (1 : Int32))] below meth c s₁ [] 0 0 := Stand.of_body Bd
  have e0 : s₁.heap = h0 := by rw [← hh, Bd.state]; rfl
  have N0 := Fr.nil n0
  have pre0 : ∀ t, Steps p.tables e below (s₁.setTop (mkF m 0 #[.val (.int (1 : Int32))] [])) t → Steps p.tables e below (s₁.setTop (entryFrame m #[(.int (1 : Int32))] 1)) t := fun t k => castTop (ef_2 m (1 : Int32)) k
  obtain ⟨fs, hr, hrun, hended, hW, hsame⟩ := X0.leave (v := some (.int (110 : Int32))) (fun h => by rw [Bd.returns] at h; cases h)
  refine ⟨_, _, pre0 _ ?_, hrun, hended, _, _, rfl, ?_, ⟨_, rfl⟩, hW, hsame.mono (by decide) (by decide)⟩
  · show Steps p.tables e below (s₁.setTop (mkF m 0 #[.val (.int (1 : Int32))] [])) _
    refine XS.iloadN X0.here hx rfl (hb hby d2_0) rfl ?_
    show Steps p.tables e below (s₁.setTop (mkF m 1 #[.val (.int (1 : Int32))] [(.int (1 : Int32))])) _
    refine XS.ifYes X0.here hx rfl (pc0 := 1) (pc' := 7) rfl (hb hby d2_1) rfl (by decide) (by decide) (by decide) ?_
    show Steps p.tables e below (s₁.setTop (mkF m 7 #[.val (.int (1 : Int32))] [])) _
    refine XS.iloadN X0.here hx rfl (hb hby d2_7) rfl ?_
    show Steps p.tables e below (s₁.setTop (mkF m 8 #[.val (.int (1 : Int32))] [(.int (1 : Int32))])) _
    refine XS.iconst X0.here hx rfl (hb hby d2_8) ?_
    show Steps p.tables e below (s₁.setTop (mkF m 9 #[.val (.int (1 : Int32))] [(.int (1 : Int32)), (.int (1 : Int32))])) _
    refine XS.icmpNo X0.here hx rfl (hb hby d2_9) rfl (by decide) ?_
    show Steps p.tables e below (s₁.setTop (mkF m 12 #[.val (.int (1 : Int32))] [])) _
    refine XS.bipush X0.here hx rfl (hb hby d2_12) ?_
    show Steps p.tables e below (s₁.setTop (mkF m 14 #[.val (.int (1 : Int32))] [(.int (110 : Int32))])) _
    exact retI X0 hx Bd.returns (hb hby d2_14) hr
  · show PQ (.int (110 : Int32)) h0 n0 _ s₁.heap _
    exact ⟨rfl, N0, e0⟩

theorem d1_17 : decode method_2_code 17 = .ok (.iload_n 0, 1) := by decide +kernel
theorem d1_18 : decode method_2_code 18 = .ok (.iconst 2, 1) := by decide +kernel
theorem d1_19 : decode method_2_code 19 = .ok (.if_icmp .ne 7, 3) := by decide +kernel
theorem d1_22 : decode method_2_code 22 = .ok (.getstatic 16, 3) := by decide +kernel
theorem d1_25 : decode method_2_code 25 = .ok (.areturn, 1) := by decide +kernel
set_option maxRecDepth 65536 in
set_option maxHeartbeats 40000000 in
theorem pick_2 (l : Launch) (Z : State) (a0 : Array Value) (hw : ∀ d ∈ tables_1, d.before a0 Z = true) (w : Addr) (h0 : Heap) (n0 : Nat) (Z0 : n0 ≤ h0.size) (S_SHORT : Sta Z h0 "com/example/dodder/dodder/model/lexical/XsBoundedInteger" "SHORT" "Lcom/example/dodder/dodder/model/lexical/XsBoundedInteger;" (.ref w)) :
    Pays l Z h0 n0 (⟨"com/example/dodder/dodder/model/lexical/XsBoundedIntegerIncludesPinLaw", "pick", "(I)Lcom/example/dodder/dodder/model/lexical/XsBoundedInteger;"⟩ : MethodName) [Jvm.Cond.code (⟨"com/example/dodder/dodder/model/lexical/XsBoundedIntegerIncludesPinLaw", "pick", "(I)Lcom/example/dodder/dodder/model/lexical/XsBoundedInteger;"⟩ : MethodName) method_2_code 1 (some (.object "com/example/dodder/dodder/model/lexical/XsBoundedInteger"))] R0 #[(.int (2 : Int32))] (.ref w) := by
  refine MetFree.of_bodySF (plainFor_of_name pn_XsBoundedIntegerIncludesPinLaw) hisR ?_
  intro p e s m args below meth c s₁ Bd hml0 hP hK
  obtain ⟨rfl, hZ, hh⟩ := hP
  have hx := Bd.exec
  have hby := Bd.bytes
  have hml : c.maxLocals = 1 := hml0
  have hown : s.vm.findClass "com/example/dodder/dodder/model/lexical/XsBoundedIntegerIncludesPinLaw" = some m.cls := findClass_of_methodNamed Bd.named
  have X0 : Stand p l e R0 s m #[(.int (2 : Int32))] below meth c s₁ [] 0 0 := Stand.of_body Bd
  have e0 : s₁.heap = h0 := by rw [← hh, Bd.state]; rfl
  have N0 := Fr.nil n0
  have pre0 : ∀ t, Steps p.tables e below (s₁.setTop (mkF m 0 #[.val (.int (2 : Int32))] [])) t → Steps p.tables e below (s₁.setTop (entryFrame m #[(.int (2 : Int32))] 1)) t := fun t k => castTop (ef_1 m (2 : Int32)) k
  obtain ⟨T1, X1, e1, st1⟩ := getS2 X0 hx hZ hown (host := "") (Or.inl (hw _ (List.mem_of_getElem? (i := 26) rfl))) Via.refl e0 S_SHORT (g := (mkF m 22 #[.val (.int (2 : Int32))] [])) rfl (hb hby d1_22)
  obtain ⟨fs, hr, hrun, hended, hW, hsame⟩ := X1.leave (v := some (.ref w)) (fun h => by rw [Bd.returns] at h; cases h)
  refine ⟨_, _, pre0 _ ?_, hrun, hended, _, _, rfl, ?_, ⟨_, rfl⟩, hW, hsame.mono (by decide) (by decide)⟩
  · show Steps p.tables e below (s₁.setTop (mkF m 0 #[.val (.int (2 : Int32))] [])) _
    refine XS.iloadN X0.here hx rfl (hb hby d1_0) rfl ?_
    show Steps p.tables e below (s₁.setTop (mkF m 1 #[.val (.int (2 : Int32))] [(.int (2 : Int32))])) _
    refine XS.ifYes X0.here hx rfl (pc0 := 1) (pc' := 8) rfl (hb hby d1_1) rfl (by decide) (by decide) (by decide) ?_
    show Steps p.tables e below (s₁.setTop (mkF m 8 #[.val (.int (2 : Int32))] [])) _
    refine XS.iloadN X0.here hx rfl (hb hby d1_8) rfl ?_
    show Steps p.tables e below (s₁.setTop (mkF m 9 #[.val (.int (2 : Int32))] [(.int (2 : Int32))])) _
    refine XS.iconst X0.here hx rfl (hb hby d1_9) ?_
    show Steps p.tables e below (s₁.setTop (mkF m 10 #[.val (.int (2 : Int32))] [(.int (1 : Int32)), (.int (2 : Int32))])) _
    refine XS.icmpYes X0.here hx rfl (pc0 := 10) (pc' := 17) rfl (hb hby d1_10) rfl (by decide) (by decide) (by decide) ?_
    show Steps p.tables e below (s₁.setTop (mkF m 17 #[.val (.int (2 : Int32))] [])) _
    refine XS.iloadN X0.here hx rfl (hb hby d1_17) rfl ?_
    show Steps p.tables e below (s₁.setTop (mkF m 18 #[.val (.int (2 : Int32))] [(.int (2 : Int32))])) _
    refine XS.iconst X0.here hx rfl (hb hby d1_18) ?_
    show Steps p.tables e below (s₁.setTop (mkF m 19 #[.val (.int (2 : Int32))] [(.int (2 : Int32)), (.int (2 : Int32))])) _
    refine XS.icmpNo X0.here hx rfl (hb hby d1_19) rfl (by decide) ?_
    show Steps p.tables e below (s₁.setTop (mkF m 22 #[.val (.int (2 : Int32))] [])) _
    refine st1 _ ?_
    show Steps p.tables e below (T1.setTop (mkF m 25 #[.val (.int (2 : Int32))] [(.ref w)])) _
    jvm_step X1.here [X1.here.top, hx, (hb hby d1_25), X1.method', Bd.returns, Value.isRef, FieldType.isReference]
    first | (intro acts; rw [hr _ acts rfl rfl rfl]) | rw [hr _ _ rfl rfl rfl]
    exact Steps.refl _
  · show PQ (.ref w) h0 n0 _ T1.heap _
    exact ⟨rfl, N0, e1⟩

theorem d2_15 : decode method_3_code 15 = .ok (.iload_n 0, 1) := by decide +kernel
theorem d2_16 : decode method_3_code 16 = .ok (.iconst 2, 1) := by decide +kernel
theorem d2_17 : decode method_3_code 17 = .ok (.if_icmp .ne 6, 3) := by decide +kernel
theorem d2_20 : decode method_3_code 20 = .ok (.bipush 76, 2) := by decide +kernel
theorem d2_22 : decode method_3_code 22 = .ok (.ireturn, 1) := by decide +kernel
set_option maxRecDepth 65536 in
set_option maxHeartbeats 40000000 in
theorem row_2 (l : Launch) (Z : State) (a0 : Array Value) (hw : ∀ d ∈ tables_1, d.before a0 Z = true)  (h0 : Heap) (n0 : Nat) (Z0 : n0 ≤ h0.size)  :
    Pays l Z h0 n0 (⟨"com/example/dodder/dodder/model/lexical/XsBoundedIntegerIncludesPinLaw", "row", "(I)I"⟩ : MethodName) [Jvm.Cond.code (⟨"com/example/dodder/dodder/model/lexical/XsBoundedIntegerIncludesPinLaw", "row", "(I)I"⟩ : MethodName) method_3_code 1 (some .int)] R0 #[(.int (2 : Int32))] (.int (76 : Int32)) := by
  refine MetFree.of_bodySF (plainFor_of_name pn_XsBoundedIntegerIncludesPinLaw) hisR ?_
  intro p e s m args below meth c s₁ Bd hml0 hP hK
  obtain ⟨rfl, hZ, hh⟩ := hP
  have hx := Bd.exec
  have hby := Bd.bytes
  have hml : c.maxLocals = 1 := hml0
  have hown : s.vm.findClass "com/example/dodder/dodder/model/lexical/XsBoundedIntegerIncludesPinLaw" = some m.cls := findClass_of_methodNamed Bd.named
  have X0 : Stand p l e R0 s m #[(.int (2 : Int32))] below meth c s₁ [] 0 0 := Stand.of_body Bd
  have e0 : s₁.heap = h0 := by rw [← hh, Bd.state]; rfl
  have N0 := Fr.nil n0
  have pre0 : ∀ t, Steps p.tables e below (s₁.setTop (mkF m 0 #[.val (.int (2 : Int32))] [])) t → Steps p.tables e below (s₁.setTop (entryFrame m #[(.int (2 : Int32))] 1)) t := fun t k => castTop (ef_2 m (2 : Int32)) k
  obtain ⟨fs, hr, hrun, hended, hW, hsame⟩ := X0.leave (v := some (.int (76 : Int32))) (fun h => by rw [Bd.returns] at h; cases h)
  refine ⟨_, _, pre0 _ ?_, hrun, hended, _, _, rfl, ?_, ⟨_, rfl⟩, hW, hsame.mono (by decide) (by decide)⟩
  · show Steps p.tables e below (s₁.setTop (mkF m 0 #[.val (.int (2 : Int32))] [])) _
    refine XS.iloadN X0.here hx rfl (hb hby d2_0) rfl ?_
    show Steps p.tables e below (s₁.setTop (mkF m 1 #[.val (.int (2 : Int32))] [(.int (2 : Int32))])) _
    refine XS.ifYes X0.here hx rfl (pc0 := 1) (pc' := 7) rfl (hb hby d2_1) rfl (by decide) (by decide) (by decide) ?_
    show Steps p.tables e below (s₁.setTop (mkF m 7 #[.val (.int (2 : Int32))] [])) _
    refine XS.iloadN X0.here hx rfl (hb hby d2_7) rfl ?_
    show Steps p.tables e below (s₁.setTop (mkF m 8 #[.val (.int (2 : Int32))] [(.int (2 : Int32))])) _
    refine XS.iconst X0.here hx rfl (hb hby d2_8) ?_
    show Steps p.tables e below (s₁.setTop (mkF m 9 #[.val (.int (2 : Int32))] [(.int (1 : Int32)), (.int (2 : Int32))])) _
    refine XS.icmpYes X0.here hx rfl (pc0 := 9) (pc' := 15) rfl (hb hby d2_9) rfl (by decide) (by decide) (by decide) ?_
    show Steps p.tables e below (s₁.setTop (mkF m 15 #[.val (.int (2 : Int32))] [])) _
    refine XS.iloadN X0.here hx rfl (hb hby d2_15) rfl ?_
    show Steps p.tables e below (s₁.setTop (mkF m 16 #[.val (.int (2 : Int32))] [(.int (2 : Int32))])) _
    refine XS.iconst X0.here hx rfl (hb hby d2_16) ?_
    show Steps p.tables e below (s₁.setTop (mkF m 17 #[.val (.int (2 : Int32))] [(.int (2 : Int32)), (.int (2 : Int32))])) _
    refine XS.icmpNo X0.here hx rfl (hb hby d2_17) rfl (by decide) ?_
    show Steps p.tables e below (s₁.setTop (mkF m 20 #[.val (.int (2 : Int32))] [])) _
    refine XS.bipush X0.here hx rfl (hb hby d2_20) ?_
    show Steps p.tables e below (s₁.setTop (mkF m 22 #[.val (.int (2 : Int32))] [(.int (76 : Int32))])) _
    exact retI X0 hx Bd.returns (hb hby d2_22) hr
  · show PQ (.int (76 : Int32)) h0 n0 _ s₁.heap _
    exact ⟨rfl, N0, e0⟩

theorem d1_26 : decode method_2_code 26 = .ok (.iload_n 0, 1) := by decide +kernel
theorem d1_27 : decode method_2_code 27 = .ok (.iconst 3, 1) := by decide +kernel
theorem d1_28 : decode method_2_code 28 = .ok (.if_icmp .ne 7, 3) := by decide +kernel
theorem d1_31 : decode method_2_code 31 = .ok (.getstatic 19, 3) := by decide +kernel
theorem d1_34 : decode method_2_code 34 = .ok (.areturn, 1) := by decide +kernel
set_option maxRecDepth 65536 in
set_option maxHeartbeats 40000000 in
theorem pick_3 (l : Launch) (Z : State) (a0 : Array Value) (hw : ∀ d ∈ tables_1, d.before a0 Z = true) (w : Addr) (h0 : Heap) (n0 : Nat) (Z0 : n0 ≤ h0.size) (S_BYTE : Sta Z h0 "com/example/dodder/dodder/model/lexical/XsBoundedInteger" "BYTE" "Lcom/example/dodder/dodder/model/lexical/XsBoundedInteger;" (.ref w)) :
    Pays l Z h0 n0 (⟨"com/example/dodder/dodder/model/lexical/XsBoundedIntegerIncludesPinLaw", "pick", "(I)Lcom/example/dodder/dodder/model/lexical/XsBoundedInteger;"⟩ : MethodName) [Jvm.Cond.code (⟨"com/example/dodder/dodder/model/lexical/XsBoundedIntegerIncludesPinLaw", "pick", "(I)Lcom/example/dodder/dodder/model/lexical/XsBoundedInteger;"⟩ : MethodName) method_2_code 1 (some (.object "com/example/dodder/dodder/model/lexical/XsBoundedInteger"))] R0 #[(.int (3 : Int32))] (.ref w) := by
  refine MetFree.of_bodySF (plainFor_of_name pn_XsBoundedIntegerIncludesPinLaw) hisR ?_
  intro p e s m args below meth c s₁ Bd hml0 hP hK
  obtain ⟨rfl, hZ, hh⟩ := hP
  have hx := Bd.exec
  have hby := Bd.bytes
  have hml : c.maxLocals = 1 := hml0
  have hown : s.vm.findClass "com/example/dodder/dodder/model/lexical/XsBoundedIntegerIncludesPinLaw" = some m.cls := findClass_of_methodNamed Bd.named
  have X0 : Stand p l e R0 s m #[(.int (3 : Int32))] below meth c s₁ [] 0 0 := Stand.of_body Bd
  have e0 : s₁.heap = h0 := by rw [← hh, Bd.state]; rfl
  have N0 := Fr.nil n0
  have pre0 : ∀ t, Steps p.tables e below (s₁.setTop (mkF m 0 #[.val (.int (3 : Int32))] [])) t → Steps p.tables e below (s₁.setTop (entryFrame m #[(.int (3 : Int32))] 1)) t := fun t k => castTop (ef_1 m (3 : Int32)) k
  obtain ⟨T1, X1, e1, st1⟩ := getS2 X0 hx hZ hown (host := "") (Or.inl (hw _ (List.mem_of_getElem? (i := 8) rfl))) Via.refl e0 S_BYTE (g := (mkF m 31 #[.val (.int (3 : Int32))] [])) rfl (hb hby d1_31)
  obtain ⟨fs, hr, hrun, hended, hW, hsame⟩ := X1.leave (v := some (.ref w)) (fun h => by rw [Bd.returns] at h; cases h)
  refine ⟨_, _, pre0 _ ?_, hrun, hended, _, _, rfl, ?_, ⟨_, rfl⟩, hW, hsame.mono (by decide) (by decide)⟩
  · show Steps p.tables e below (s₁.setTop (mkF m 0 #[.val (.int (3 : Int32))] [])) _
    refine XS.iloadN X0.here hx rfl (hb hby d1_0) rfl ?_
    show Steps p.tables e below (s₁.setTop (mkF m 1 #[.val (.int (3 : Int32))] [(.int (3 : Int32))])) _
    refine XS.ifYes X0.here hx rfl (pc0 := 1) (pc' := 8) rfl (hb hby d1_1) rfl (by decide) (by decide) (by decide) ?_
    show Steps p.tables e below (s₁.setTop (mkF m 8 #[.val (.int (3 : Int32))] [])) _
    refine XS.iloadN X0.here hx rfl (hb hby d1_8) rfl ?_
    show Steps p.tables e below (s₁.setTop (mkF m 9 #[.val (.int (3 : Int32))] [(.int (3 : Int32))])) _
    refine XS.iconst X0.here hx rfl (hb hby d1_9) ?_
    show Steps p.tables e below (s₁.setTop (mkF m 10 #[.val (.int (3 : Int32))] [(.int (1 : Int32)), (.int (3 : Int32))])) _
    refine XS.icmpYes X0.here hx rfl (pc0 := 10) (pc' := 17) rfl (hb hby d1_10) rfl (by decide) (by decide) (by decide) ?_
    show Steps p.tables e below (s₁.setTop (mkF m 17 #[.val (.int (3 : Int32))] [])) _
    refine XS.iloadN X0.here hx rfl (hb hby d1_17) rfl ?_
    show Steps p.tables e below (s₁.setTop (mkF m 18 #[.val (.int (3 : Int32))] [(.int (3 : Int32))])) _
    refine XS.iconst X0.here hx rfl (hb hby d1_18) ?_
    show Steps p.tables e below (s₁.setTop (mkF m 19 #[.val (.int (3 : Int32))] [(.int (2 : Int32)), (.int (3 : Int32))])) _
    refine XS.icmpYes X0.here hx rfl (pc0 := 19) (pc' := 26) rfl (hb hby d1_19) rfl (by decide) (by decide) (by decide) ?_
    show Steps p.tables e below (s₁.setTop (mkF m 26 #[.val (.int (3 : Int32))] [])) _
    refine XS.iloadN X0.here hx rfl (hb hby d1_26) rfl ?_
    show Steps p.tables e below (s₁.setTop (mkF m 27 #[.val (.int (3 : Int32))] [(.int (3 : Int32))])) _
    refine XS.iconst X0.here hx rfl (hb hby d1_27) ?_
    show Steps p.tables e below (s₁.setTop (mkF m 28 #[.val (.int (3 : Int32))] [(.int (3 : Int32)), (.int (3 : Int32))])) _
    refine XS.icmpNo X0.here hx rfl (hb hby d1_28) rfl (by decide) ?_
    show Steps p.tables e below (s₁.setTop (mkF m 31 #[.val (.int (3 : Int32))] [])) _
    refine st1 _ ?_
    show Steps p.tables e below (T1.setTop (mkF m 34 #[.val (.int (3 : Int32))] [(.ref w)])) _
    jvm_step X1.here [X1.here.top, hx, (hb hby d1_34), X1.method', Bd.returns, Value.isRef, FieldType.isReference]
    first | (intro acts; rw [hr _ acts rfl rfl rfl]) | rw [hr _ _ rfl rfl rfl]
    exact Steps.refl _
  · show PQ (.ref w) h0 n0 _ T1.heap _
    exact ⟨rfl, N0, e1⟩

theorem d2_23 : decode method_3_code 23 = .ok (.iload_n 0, 1) := by decide +kernel
theorem d2_24 : decode method_3_code 24 = .ok (.iconst 3, 1) := by decide +kernel
theorem d2_25 : decode method_3_code 25 = .ok (.if_icmp .ne 6, 3) := by decide +kernel
theorem d2_28 : decode method_3_code 28 = .ok (.bipush 8, 2) := by decide +kernel
theorem d2_30 : decode method_3_code 30 = .ok (.ireturn, 1) := by decide +kernel
set_option maxRecDepth 65536 in
set_option maxHeartbeats 40000000 in
theorem row_3 (l : Launch) (Z : State) (a0 : Array Value) (hw : ∀ d ∈ tables_1, d.before a0 Z = true)  (h0 : Heap) (n0 : Nat) (Z0 : n0 ≤ h0.size)  :
    Pays l Z h0 n0 (⟨"com/example/dodder/dodder/model/lexical/XsBoundedIntegerIncludesPinLaw", "row", "(I)I"⟩ : MethodName) [Jvm.Cond.code (⟨"com/example/dodder/dodder/model/lexical/XsBoundedIntegerIncludesPinLaw", "row", "(I)I"⟩ : MethodName) method_3_code 1 (some .int)] R0 #[(.int (3 : Int32))] (.int (8 : Int32)) := by
  refine MetFree.of_bodySF (plainFor_of_name pn_XsBoundedIntegerIncludesPinLaw) hisR ?_
  intro p e s m args below meth c s₁ Bd hml0 hP hK
  obtain ⟨rfl, hZ, hh⟩ := hP
  have hx := Bd.exec
  have hby := Bd.bytes
  have hml : c.maxLocals = 1 := hml0
  have hown : s.vm.findClass "com/example/dodder/dodder/model/lexical/XsBoundedIntegerIncludesPinLaw" = some m.cls := findClass_of_methodNamed Bd.named
  have X0 : Stand p l e R0 s m #[(.int (3 : Int32))] below meth c s₁ [] 0 0 := Stand.of_body Bd
  have e0 : s₁.heap = h0 := by rw [← hh, Bd.state]; rfl
  have N0 := Fr.nil n0
  have pre0 : ∀ t, Steps p.tables e below (s₁.setTop (mkF m 0 #[.val (.int (3 : Int32))] [])) t → Steps p.tables e below (s₁.setTop (entryFrame m #[(.int (3 : Int32))] 1)) t := fun t k => castTop (ef_2 m (3 : Int32)) k
  obtain ⟨fs, hr, hrun, hended, hW, hsame⟩ := X0.leave (v := some (.int (8 : Int32))) (fun h => by rw [Bd.returns] at h; cases h)
  refine ⟨_, _, pre0 _ ?_, hrun, hended, _, _, rfl, ?_, ⟨_, rfl⟩, hW, hsame.mono (by decide) (by decide)⟩
  · show Steps p.tables e below (s₁.setTop (mkF m 0 #[.val (.int (3 : Int32))] [])) _
    refine XS.iloadN X0.here hx rfl (hb hby d2_0) rfl ?_
    show Steps p.tables e below (s₁.setTop (mkF m 1 #[.val (.int (3 : Int32))] [(.int (3 : Int32))])) _
    refine XS.ifYes X0.here hx rfl (pc0 := 1) (pc' := 7) rfl (hb hby d2_1) rfl (by decide) (by decide) (by decide) ?_
    show Steps p.tables e below (s₁.setTop (mkF m 7 #[.val (.int (3 : Int32))] [])) _
    refine XS.iloadN X0.here hx rfl (hb hby d2_7) rfl ?_
    show Steps p.tables e below (s₁.setTop (mkF m 8 #[.val (.int (3 : Int32))] [(.int (3 : Int32))])) _
    refine XS.iconst X0.here hx rfl (hb hby d2_8) ?_
    show Steps p.tables e below (s₁.setTop (mkF m 9 #[.val (.int (3 : Int32))] [(.int (1 : Int32)), (.int (3 : Int32))])) _
    refine XS.icmpYes X0.here hx rfl (pc0 := 9) (pc' := 15) rfl (hb hby d2_9) rfl (by decide) (by decide) (by decide) ?_
    show Steps p.tables e below (s₁.setTop (mkF m 15 #[.val (.int (3 : Int32))] [])) _
    refine XS.iloadN X0.here hx rfl (hb hby d2_15) rfl ?_
    show Steps p.tables e below (s₁.setTop (mkF m 16 #[.val (.int (3 : Int32))] [(.int (3 : Int32))])) _
    refine XS.iconst X0.here hx rfl (hb hby d2_16) ?_
    show Steps p.tables e below (s₁.setTop (mkF m 17 #[.val (.int (3 : Int32))] [(.int (2 : Int32)), (.int (3 : Int32))])) _
    refine XS.icmpYes X0.here hx rfl (pc0 := 17) (pc' := 23) rfl (hb hby d2_17) rfl (by decide) (by decide) (by decide) ?_
    show Steps p.tables e below (s₁.setTop (mkF m 23 #[.val (.int (3 : Int32))] [])) _
    refine XS.iloadN X0.here hx rfl (hb hby d2_23) rfl ?_
    show Steps p.tables e below (s₁.setTop (mkF m 24 #[.val (.int (3 : Int32))] [(.int (3 : Int32))])) _
    refine XS.iconst X0.here hx rfl (hb hby d2_24) ?_
    show Steps p.tables e below (s₁.setTop (mkF m 25 #[.val (.int (3 : Int32))] [(.int (3 : Int32)), (.int (3 : Int32))])) _
    refine XS.icmpNo X0.here hx rfl (hb hby d2_25) rfl (by decide) ?_
    show Steps p.tables e below (s₁.setTop (mkF m 28 #[.val (.int (3 : Int32))] [])) _
    refine XS.bipush X0.here hx rfl (hb hby d2_28) ?_
    show Steps p.tables e below (s₁.setTop (mkF m 30 #[.val (.int (3 : Int32))] [(.int (8 : Int32))])) _
    exact retI X0 hx Bd.returns (hb hby d2_30) hr
  · show PQ (.int (8 : Int32)) h0 n0 _ s₁.heap _
    exact ⟨rfl, N0, e0⟩

theorem d1_35 : decode method_2_code 35 = .ok (.iload_n 0, 1) := by decide +kernel
theorem d1_36 : decode method_2_code 36 = .ok (.iconst 4, 1) := by decide +kernel
theorem d1_37 : decode method_2_code 37 = .ok (.if_icmp .ne 7, 3) := by decide +kernel
theorem d1_40 : decode method_2_code 40 = .ok (.getstatic 22, 3) := by decide +kernel
theorem d1_43 : decode method_2_code 43 = .ok (.areturn, 1) := by decide +kernel
set_option maxRecDepth 65536 in
set_option maxHeartbeats 40000000 in
theorem pick_4 (l : Launch) (Z : State) (a0 : Array Value) (hw : ∀ d ∈ tables_1, d.before a0 Z = true) (w : Addr) (h0 : Heap) (n0 : Nat) (Z0 : n0 ≤ h0.size) (S_UNSIGNED_INT : Sta Z h0 "com/example/dodder/dodder/model/lexical/XsBoundedInteger" "UNSIGNED_INT" "Lcom/example/dodder/dodder/model/lexical/XsBoundedInteger;" (.ref w)) :
    Pays l Z h0 n0 (⟨"com/example/dodder/dodder/model/lexical/XsBoundedIntegerIncludesPinLaw", "pick", "(I)Lcom/example/dodder/dodder/model/lexical/XsBoundedInteger;"⟩ : MethodName) [Jvm.Cond.code (⟨"com/example/dodder/dodder/model/lexical/XsBoundedIntegerIncludesPinLaw", "pick", "(I)Lcom/example/dodder/dodder/model/lexical/XsBoundedInteger;"⟩ : MethodName) method_2_code 1 (some (.object "com/example/dodder/dodder/model/lexical/XsBoundedInteger"))] R0 #[(.int (4 : Int32))] (.ref w) := by
  refine MetFree.of_bodySF (plainFor_of_name pn_XsBoundedIntegerIncludesPinLaw) hisR ?_
  intro p e s m args below meth c s₁ Bd hml0 hP hK
  obtain ⟨rfl, hZ, hh⟩ := hP
  have hx := Bd.exec
  have hby := Bd.bytes
  have hml : c.maxLocals = 1 := hml0
  have hown : s.vm.findClass "com/example/dodder/dodder/model/lexical/XsBoundedIntegerIncludesPinLaw" = some m.cls := findClass_of_methodNamed Bd.named
  have X0 : Stand p l e R0 s m #[(.int (4 : Int32))] below meth c s₁ [] 0 0 := Stand.of_body Bd
  have e0 : s₁.heap = h0 := by rw [← hh, Bd.state]; rfl
  have N0 := Fr.nil n0
  have pre0 : ∀ t, Steps p.tables e below (s₁.setTop (mkF m 0 #[.val (.int (4 : Int32))] [])) t → Steps p.tables e below (s₁.setTop (entryFrame m #[(.int (4 : Int32))] 1)) t := fun t k => castTop (ef_1 m (4 : Int32)) k
  obtain ⟨T1, X1, e1, st1⟩ := getS2 X0 hx hZ hown (host := "") (Or.inl (hw _ (List.mem_of_getElem? (i := 28) rfl))) Via.refl e0 S_UNSIGNED_INT (g := (mkF m 40 #[.val (.int (4 : Int32))] [])) rfl (hb hby d1_40)
  obtain ⟨fs, hr, hrun, hended, hW, hsame⟩ := X1.leave (v := some (.ref w)) (fun h => by rw [Bd.returns] at h; cases h)
  refine ⟨_, _, pre0 _ ?_, hrun, hended, _, _, rfl, ?_, ⟨_, rfl⟩, hW, hsame.mono (by decide) (by decide)⟩
  · show Steps p.tables e below (s₁.setTop (mkF m 0 #[.val (.int (4 : Int32))] [])) _
    refine XS.iloadN X0.here hx rfl (hb hby d1_0) rfl ?_
    show Steps p.tables e below (s₁.setTop (mkF m 1 #[.val (.int (4 : Int32))] [(.int (4 : Int32))])) _
    refine XS.ifYes X0.here hx rfl (pc0 := 1) (pc' := 8) rfl (hb hby d1_1) rfl (by decide) (by decide) (by decide) ?_
    show Steps p.tables e below (s₁.setTop (mkF m 8 #[.val (.int (4 : Int32))] [])) _
    refine XS.iloadN X0.here hx rfl (hb hby d1_8) rfl ?_
    show Steps p.tables e below (s₁.setTop (mkF m 9 #[.val (.int (4 : Int32))] [(.int (4 : Int32))])) _
    refine XS.iconst X0.here hx rfl (hb hby d1_9) ?_
    show Steps p.tables e below (s₁.setTop (mkF m 10 #[.val (.int (4 : Int32))] [(.int (1 : Int32)), (.int (4 : Int32))])) _
    refine XS.icmpYes X0.here hx rfl (pc0 := 10) (pc' := 17) rfl (hb hby d1_10) rfl (by decide) (by decide) (by decide) ?_
    show Steps p.tables e below (s₁.setTop (mkF m 17 #[.val (.int (4 : Int32))] [])) _
    refine XS.iloadN X0.here hx rfl (hb hby d1_17) rfl ?_
    show Steps p.tables e below (s₁.setTop (mkF m 18 #[.val (.int (4 : Int32))] [(.int (4 : Int32))])) _
    refine XS.iconst X0.here hx rfl (hb hby d1_18) ?_
    show Steps p.tables e below (s₁.setTop (mkF m 19 #[.val (.int (4 : Int32))] [(.int (2 : Int32)), (.int (4 : Int32))])) _
    refine XS.icmpYes X0.here hx rfl (pc0 := 19) (pc' := 26) rfl (hb hby d1_19) rfl (by decide) (by decide) (by decide) ?_
    show Steps p.tables e below (s₁.setTop (mkF m 26 #[.val (.int (4 : Int32))] [])) _
    refine XS.iloadN X0.here hx rfl (hb hby d1_26) rfl ?_
    show Steps p.tables e below (s₁.setTop (mkF m 27 #[.val (.int (4 : Int32))] [(.int (4 : Int32))])) _
    refine XS.iconst X0.here hx rfl (hb hby d1_27) ?_
    show Steps p.tables e below (s₁.setTop (mkF m 28 #[.val (.int (4 : Int32))] [(.int (3 : Int32)), (.int (4 : Int32))])) _
    refine XS.icmpYes X0.here hx rfl (pc0 := 28) (pc' := 35) rfl (hb hby d1_28) rfl (by decide) (by decide) (by decide) ?_
    show Steps p.tables e below (s₁.setTop (mkF m 35 #[.val (.int (4 : Int32))] [])) _
    refine XS.iloadN X0.here hx rfl (hb hby d1_35) rfl ?_
    show Steps p.tables e below (s₁.setTop (mkF m 36 #[.val (.int (4 : Int32))] [(.int (4 : Int32))])) _
    refine XS.iconst X0.here hx rfl (hb hby d1_36) ?_
    show Steps p.tables e below (s₁.setTop (mkF m 37 #[.val (.int (4 : Int32))] [(.int (4 : Int32)), (.int (4 : Int32))])) _
    refine XS.icmpNo X0.here hx rfl (hb hby d1_37) rfl (by decide) ?_
    show Steps p.tables e below (s₁.setTop (mkF m 40 #[.val (.int (4 : Int32))] [])) _
    refine st1 _ ?_
    show Steps p.tables e below (T1.setTop (mkF m 43 #[.val (.int (4 : Int32))] [(.ref w)])) _
    jvm_step X1.here [X1.here.top, hx, (hb hby d1_43), X1.method', Bd.returns, Value.isRef, FieldType.isReference]
    first | (intro acts; rw [hr _ acts rfl rfl rfl]) | rw [hr _ _ rfl rfl rfl]
    exact Steps.refl _
  · show PQ (.ref w) h0 n0 _ T1.heap _
    exact ⟨rfl, N0, e1⟩

theorem d2_31 : decode method_3_code 31 = .ok (.iload_n 0, 1) := by decide +kernel
theorem d2_32 : decode method_3_code 32 = .ok (.iconst 4, 1) := by decide +kernel
theorem d2_33 : decode method_3_code 33 = .ok (.if_icmp .ne 6, 3) := by decide +kernel
theorem d2_36 : decode method_3_code 36 = .ok (.bipush 112, 2) := by decide +kernel
theorem d2_38 : decode method_3_code 38 = .ok (.ireturn, 1) := by decide +kernel
set_option maxRecDepth 65536 in
set_option maxHeartbeats 40000000 in
theorem row_4 (l : Launch) (Z : State) (a0 : Array Value) (hw : ∀ d ∈ tables_1, d.before a0 Z = true)  (h0 : Heap) (n0 : Nat) (Z0 : n0 ≤ h0.size)  :
    Pays l Z h0 n0 (⟨"com/example/dodder/dodder/model/lexical/XsBoundedIntegerIncludesPinLaw", "row", "(I)I"⟩ : MethodName) [Jvm.Cond.code (⟨"com/example/dodder/dodder/model/lexical/XsBoundedIntegerIncludesPinLaw", "row", "(I)I"⟩ : MethodName) method_3_code 1 (some .int)] R0 #[(.int (4 : Int32))] (.int (112 : Int32)) := by
  refine MetFree.of_bodySF (plainFor_of_name pn_XsBoundedIntegerIncludesPinLaw) hisR ?_
  intro p e s m args below meth c s₁ Bd hml0 hP hK
  obtain ⟨rfl, hZ, hh⟩ := hP
  have hx := Bd.exec
  have hby := Bd.bytes
  have hml : c.maxLocals = 1 := hml0
  have hown : s.vm.findClass "com/example/dodder/dodder/model/lexical/XsBoundedIntegerIncludesPinLaw" = some m.cls := findClass_of_methodNamed Bd.named
  have X0 : Stand p l e R0 s m #[(.int (4 : Int32))] below meth c s₁ [] 0 0 := Stand.of_body Bd
  have e0 : s₁.heap = h0 := by rw [← hh, Bd.state]; rfl
  have N0 := Fr.nil n0
  have pre0 : ∀ t, Steps p.tables e below (s₁.setTop (mkF m 0 #[.val (.int (4 : Int32))] [])) t → Steps p.tables e below (s₁.setTop (entryFrame m #[(.int (4 : Int32))] 1)) t := fun t k => castTop (ef_2 m (4 : Int32)) k
  obtain ⟨fs, hr, hrun, hended, hW, hsame⟩ := X0.leave (v := some (.int (112 : Int32))) (fun h => by rw [Bd.returns] at h; cases h)
  refine ⟨_, _, pre0 _ ?_, hrun, hended, _, _, rfl, ?_, ⟨_, rfl⟩, hW, hsame.mono (by decide) (by decide)⟩
  · show Steps p.tables e below (s₁.setTop (mkF m 0 #[.val (.int (4 : Int32))] [])) _
    refine XS.iloadN X0.here hx rfl (hb hby d2_0) rfl ?_
    show Steps p.tables e below (s₁.setTop (mkF m 1 #[.val (.int (4 : Int32))] [(.int (4 : Int32))])) _
    refine XS.ifYes X0.here hx rfl (pc0 := 1) (pc' := 7) rfl (hb hby d2_1) rfl (by decide) (by decide) (by decide) ?_
    show Steps p.tables e below (s₁.setTop (mkF m 7 #[.val (.int (4 : Int32))] [])) _
    refine XS.iloadN X0.here hx rfl (hb hby d2_7) rfl ?_
    show Steps p.tables e below (s₁.setTop (mkF m 8 #[.val (.int (4 : Int32))] [(.int (4 : Int32))])) _
    refine XS.iconst X0.here hx rfl (hb hby d2_8) ?_
    show Steps p.tables e below (s₁.setTop (mkF m 9 #[.val (.int (4 : Int32))] [(.int (1 : Int32)), (.int (4 : Int32))])) _
    refine XS.icmpYes X0.here hx rfl (pc0 := 9) (pc' := 15) rfl (hb hby d2_9) rfl (by decide) (by decide) (by decide) ?_
    show Steps p.tables e below (s₁.setTop (mkF m 15 #[.val (.int (4 : Int32))] [])) _
    refine XS.iloadN X0.here hx rfl (hb hby d2_15) rfl ?_
    show Steps p.tables e below (s₁.setTop (mkF m 16 #[.val (.int (4 : Int32))] [(.int (4 : Int32))])) _
    refine XS.iconst X0.here hx rfl (hb hby d2_16) ?_
    show Steps p.tables e below (s₁.setTop (mkF m 17 #[.val (.int (4 : Int32))] [(.int (2 : Int32)), (.int (4 : Int32))])) _
    refine XS.icmpYes X0.here hx rfl (pc0 := 17) (pc' := 23) rfl (hb hby d2_17) rfl (by decide) (by decide) (by decide) ?_
    show Steps p.tables e below (s₁.setTop (mkF m 23 #[.val (.int (4 : Int32))] [])) _
    refine XS.iloadN X0.here hx rfl (hb hby d2_23) rfl ?_
    show Steps p.tables e below (s₁.setTop (mkF m 24 #[.val (.int (4 : Int32))] [(.int (4 : Int32))])) _
    refine XS.iconst X0.here hx rfl (hb hby d2_24) ?_
    show Steps p.tables e below (s₁.setTop (mkF m 25 #[.val (.int (4 : Int32))] [(.int (3 : Int32)), (.int (4 : Int32))])) _
    refine XS.icmpYes X0.here hx rfl (pc0 := 25) (pc' := 31) rfl (hb hby d2_25) rfl (by decide) (by decide) (by decide) ?_
    show Steps p.tables e below (s₁.setTop (mkF m 31 #[.val (.int (4 : Int32))] [])) _
    refine XS.iloadN X0.here hx rfl (hb hby d2_31) rfl ?_
    show Steps p.tables e below (s₁.setTop (mkF m 32 #[.val (.int (4 : Int32))] [(.int (4 : Int32))])) _
    refine XS.iconst X0.here hx rfl (hb hby d2_32) ?_
    show Steps p.tables e below (s₁.setTop (mkF m 33 #[.val (.int (4 : Int32))] [(.int (4 : Int32)), (.int (4 : Int32))])) _
    refine XS.icmpNo X0.here hx rfl (hb hby d2_33) rfl (by decide) ?_
    show Steps p.tables e below (s₁.setTop (mkF m 36 #[.val (.int (4 : Int32))] [])) _
    refine XS.bipush X0.here hx rfl (hb hby d2_36) ?_
    show Steps p.tables e below (s₁.setTop (mkF m 38 #[.val (.int (4 : Int32))] [(.int (112 : Int32))])) _
    exact retI X0 hx Bd.returns (hb hby d2_38) hr
  · show PQ (.int (112 : Int32)) h0 n0 _ s₁.heap _
    exact ⟨rfl, N0, e0⟩

theorem d1_44 : decode method_2_code 44 = .ok (.iload_n 0, 1) := by decide +kernel
theorem d1_45 : decode method_2_code 45 = .ok (.iconst 5, 1) := by decide +kernel
theorem d1_46 : decode method_2_code 46 = .ok (.if_icmp .ne 7, 3) := by decide +kernel
theorem d1_49 : decode method_2_code 49 = .ok (.getstatic 25, 3) := by decide +kernel
theorem d1_52 : decode method_2_code 52 = .ok (.areturn, 1) := by decide +kernel
set_option maxRecDepth 65536 in
set_option maxHeartbeats 40000000 in
theorem pick_5 (l : Launch) (Z : State) (a0 : Array Value) (hw : ∀ d ∈ tables_1, d.before a0 Z = true) (w : Addr) (h0 : Heap) (n0 : Nat) (Z0 : n0 ≤ h0.size) (S_UNSIGNED_SHORT : Sta Z h0 "com/example/dodder/dodder/model/lexical/XsBoundedInteger" "UNSIGNED_SHORT" "Lcom/example/dodder/dodder/model/lexical/XsBoundedInteger;" (.ref w)) :
    Pays l Z h0 n0 (⟨"com/example/dodder/dodder/model/lexical/XsBoundedIntegerIncludesPinLaw", "pick", "(I)Lcom/example/dodder/dodder/model/lexical/XsBoundedInteger;"⟩ : MethodName) [Jvm.Cond.code (⟨"com/example/dodder/dodder/model/lexical/XsBoundedIntegerIncludesPinLaw", "pick", "(I)Lcom/example/dodder/dodder/model/lexical/XsBoundedInteger;"⟩ : MethodName) method_2_code 1 (some (.object "com/example/dodder/dodder/model/lexical/XsBoundedInteger"))] R0 #[(.int (5 : Int32))] (.ref w) := by
  refine MetFree.of_bodySF (plainFor_of_name pn_XsBoundedIntegerIncludesPinLaw) hisR ?_
  intro p e s m args below meth c s₁ Bd hml0 hP hK
  obtain ⟨rfl, hZ, hh⟩ := hP
  have hx := Bd.exec
  have hby := Bd.bytes
  have hml : c.maxLocals = 1 := hml0
  have hown : s.vm.findClass "com/example/dodder/dodder/model/lexical/XsBoundedIntegerIncludesPinLaw" = some m.cls := findClass_of_methodNamed Bd.named
  have X0 : Stand p l e R0 s m #[(.int (5 : Int32))] below meth c s₁ [] 0 0 := Stand.of_body Bd
  have e0 : s₁.heap = h0 := by rw [← hh, Bd.state]; rfl
  have N0 := Fr.nil n0
  have pre0 : ∀ t, Steps p.tables e below (s₁.setTop (mkF m 0 #[.val (.int (5 : Int32))] [])) t → Steps p.tables e below (s₁.setTop (entryFrame m #[(.int (5 : Int32))] 1)) t := fun t k => castTop (ef_1 m (5 : Int32)) k
  obtain ⟨T1, X1, e1, st1⟩ := getS2 X0 hx hZ hown (host := "") (Or.inl (hw _ (List.mem_of_getElem? (i := 24) rfl))) Via.refl e0 S_UNSIGNED_SHORT (g := (mkF m 49 #[.val (.int (5 : Int32))] [])) rfl (hb hby d1_49)
  obtain ⟨fs, hr, hrun, hended, hW, hsame⟩ := X1.leave (v := some (.ref w)) (fun h => by rw [Bd.returns] at h; cases h)
  refine ⟨_, _, pre0 _ ?_, hrun, hended, _, _, rfl, ?_, ⟨_, rfl⟩, hW, hsame.mono (by decide) (by decide)⟩
  · show Steps p.tables e below (s₁.setTop (mkF m 0 #[.val (.int (5 : Int32))] [])) _
    refine XS.iloadN X0.here hx rfl (hb hby d1_0) rfl ?_
    show Steps p.tables e below (s₁.setTop (mkF m 1 #[.val (.int (5 : Int32))] [(.int (5 : Int32))])) _
    refine XS.ifYes X0.here hx rfl (pc0 := 1) (pc' := 8) rfl (hb hby d1_1) rfl (by decide) (by decide) (by decide) ?_
    show Steps p.tables e below (s₁.setTop (mkF m 8 #[.val (.int (5 : Int32))] [])) _
    refine XS.iloadN X0.here hx rfl (hb hby d1_8) rfl ?_
    show Steps p.tables e below (s₁.setTop (mkF m 9 #[.val (.int (5 : Int32))] [(.int (5 : Int32))])) _
    refine XS.iconst X0.here hx rfl (hb hby d1_9) ?_
    show Steps p.tables e below (s₁.setTop (mkF m 10 #[.val (.int (5 : Int32))] [(.int (1 : Int32)), (.int (5 : Int32))])) _
    refine XS.icmpYes X0.here hx rfl (pc0 := 10) (pc' := 17) rfl (hb hby d1_10) rfl (by decide) (by decide) (by decide) ?_
    show Steps p.tables e below (s₁.setTop (mkF m 17 #[.val (.int (5 : Int32))] [])) _
    refine XS.iloadN X0.here hx rfl (hb hby d1_17) rfl ?_
    show Steps p.tables e below (s₁.setTop (mkF m 18 #[.val (.int (5 : Int32))] [(.int (5 : Int32))])) _
    refine XS.iconst X0.here hx rfl (hb hby d1_18) ?_
    show Steps p.tables e below (s₁.setTop (mkF m 19 #[.val (.int (5 : Int32))] [(.int (2 : Int32)), (.int (5 : Int32))])) _
    refine XS.icmpYes X0.here hx rfl (pc0 := 19) (pc' := 26) rfl (hb hby d1_19) rfl (by decide) (by decide) (by decide) ?_
    show Steps p.tables e below (s₁.setTop (mkF m 26 #[.val (.int (5 : Int32))] [])) _
    refine XS.iloadN X0.here hx rfl (hb hby d1_26) rfl ?_
    show Steps p.tables e below (s₁.setTop (mkF m 27 #[.val (.int (5 : Int32))] [(.int (5 : Int32))])) _
    refine XS.iconst X0.here hx rfl (hb hby d1_27) ?_
    show Steps p.tables e below (s₁.setTop (mkF m 28 #[.val (.int (5 : Int32))] [(.int (3 : Int32)), (.int (5 : Int32))])) _
    refine XS.icmpYes X0.here hx rfl (pc0 := 28) (pc' := 35) rfl (hb hby d1_28) rfl (by decide) (by decide) (by decide) ?_
    show Steps p.tables e below (s₁.setTop (mkF m 35 #[.val (.int (5 : Int32))] [])) _
    refine XS.iloadN X0.here hx rfl (hb hby d1_35) rfl ?_
    show Steps p.tables e below (s₁.setTop (mkF m 36 #[.val (.int (5 : Int32))] [(.int (5 : Int32))])) _
    refine XS.iconst X0.here hx rfl (hb hby d1_36) ?_
    show Steps p.tables e below (s₁.setTop (mkF m 37 #[.val (.int (5 : Int32))] [(.int (4 : Int32)), (.int (5 : Int32))])) _
    refine XS.icmpYes X0.here hx rfl (pc0 := 37) (pc' := 44) rfl (hb hby d1_37) rfl (by decide) (by decide) (by decide) ?_
    show Steps p.tables e below (s₁.setTop (mkF m 44 #[.val (.int (5 : Int32))] [])) _
    refine XS.iloadN X0.here hx rfl (hb hby d1_44) rfl ?_
    show Steps p.tables e below (s₁.setTop (mkF m 45 #[.val (.int (5 : Int32))] [(.int (5 : Int32))])) _
    refine XS.iconst X0.here hx rfl (hb hby d1_45) ?_
    show Steps p.tables e below (s₁.setTop (mkF m 46 #[.val (.int (5 : Int32))] [(.int (5 : Int32)), (.int (5 : Int32))])) _
    refine XS.icmpNo X0.here hx rfl (hb hby d1_46) rfl (by decide) ?_
    show Steps p.tables e below (s₁.setTop (mkF m 49 #[.val (.int (5 : Int32))] [])) _
    refine st1 _ ?_
    show Steps p.tables e below (T1.setTop (mkF m 52 #[.val (.int (5 : Int32))] [(.ref w)])) _
    jvm_step X1.here [X1.here.top, hx, (hb hby d1_52), X1.method', Bd.returns, Value.isRef, FieldType.isReference]
    first | (intro acts; rw [hr _ acts rfl rfl rfl]) | rw [hr _ _ rfl rfl rfl]
    exact Steps.refl _
  · show PQ (.ref w) h0 n0 _ T1.heap _
    exact ⟨rfl, N0, e1⟩

theorem d2_39 : decode method_3_code 39 = .ok (.iload_n 0, 1) := by decide +kernel
theorem d2_40 : decode method_3_code 40 = .ok (.iconst 5, 1) := by decide +kernel
theorem d2_41 : decode method_3_code 41 = .ok (.if_icmp .ne 6, 3) := by decide +kernel
theorem d2_44 : decode method_3_code 44 = .ok (.bipush 96, 2) := by decide +kernel
theorem d2_46 : decode method_3_code 46 = .ok (.ireturn, 1) := by decide +kernel
set_option maxRecDepth 65536 in
set_option maxHeartbeats 40000000 in
theorem row_5 (l : Launch) (Z : State) (a0 : Array Value) (hw : ∀ d ∈ tables_1, d.before a0 Z = true)  (h0 : Heap) (n0 : Nat) (Z0 : n0 ≤ h0.size)  :
    Pays l Z h0 n0 (⟨"com/example/dodder/dodder/model/lexical/XsBoundedIntegerIncludesPinLaw", "row", "(I)I"⟩ : MethodName) [Jvm.Cond.code (⟨"com/example/dodder/dodder/model/lexical/XsBoundedIntegerIncludesPinLaw", "row", "(I)I"⟩ : MethodName) method_3_code 1 (some .int)] R0 #[(.int (5 : Int32))] (.int (96 : Int32)) := by
  refine MetFree.of_bodySF (plainFor_of_name pn_XsBoundedIntegerIncludesPinLaw) hisR ?_
  intro p e s m args below meth c s₁ Bd hml0 hP hK
  obtain ⟨rfl, hZ, hh⟩ := hP
  have hx := Bd.exec
  have hby := Bd.bytes
  have hml : c.maxLocals = 1 := hml0
  have hown : s.vm.findClass "com/example/dodder/dodder/model/lexical/XsBoundedIntegerIncludesPinLaw" = some m.cls := findClass_of_methodNamed Bd.named
  have X0 : Stand p l e R0 s m #[(.int (5 : Int32))] below meth c s₁ [] 0 0 := Stand.of_body Bd
  have e0 : s₁.heap = h0 := by rw [← hh, Bd.state]; rfl
  have N0 := Fr.nil n0
  have pre0 : ∀ t, Steps p.tables e below (s₁.setTop (mkF m 0 #[.val (.int (5 : Int32))] [])) t → Steps p.tables e below (s₁.setTop (entryFrame m #[(.int (5 : Int32))] 1)) t := fun t k => castTop (ef_2 m (5 : Int32)) k
  obtain ⟨fs, hr, hrun, hended, hW, hsame⟩ := X0.leave (v := some (.int (96 : Int32))) (fun h => by rw [Bd.returns] at h; cases h)
  refine ⟨_, _, pre0 _ ?_, hrun, hended, _, _, rfl, ?_, ⟨_, rfl⟩, hW, hsame.mono (by decide) (by decide)⟩
  · show Steps p.tables e below (s₁.setTop (mkF m 0 #[.val (.int (5 : Int32))] [])) _
    refine XS.iloadN X0.here hx rfl (hb hby d2_0) rfl ?_
    show Steps p.tables e below (s₁.setTop (mkF m 1 #[.val (.int (5 : Int32))] [(.int (5 : Int32))])) _
    refine XS.ifYes X0.here hx rfl (pc0 := 1) (pc' := 7) rfl (hb hby d2_1) rfl (by decide) (by decide) (by decide) ?_
    show Steps p.tables e below (s₁.setTop (mkF m 7 #[.val (.int (5 : Int32))] [])) _
    refine XS.iloadN X0.here hx rfl (hb hby d2_7) rfl ?_
    show Steps p.tables e below (s₁.setTop (mkF m 8 #[.val (.int (5 : Int32))] [(.int (5 : Int32))])) _
    refine XS.iconst X0.here hx rfl (hb hby d2_8) ?_
    show Steps p.tables e below (s₁.setTop (mkF m 9 #[.val (.int (5 : Int32))] [(.int (1 : Int32)), (.int (5 : Int32))])) _
    refine XS.icmpYes X0.here hx rfl (pc0 := 9) (pc' := 15) rfl (hb hby d2_9) rfl (by decide) (by decide) (by decide) ?_
    show Steps p.tables e below (s₁.setTop (mkF m 15 #[.val (.int (5 : Int32))] [])) _
    refine XS.iloadN X0.here hx rfl (hb hby d2_15) rfl ?_
    show Steps p.tables e below (s₁.setTop (mkF m 16 #[.val (.int (5 : Int32))] [(.int (5 : Int32))])) _
    refine XS.iconst X0.here hx rfl (hb hby d2_16) ?_
    show Steps p.tables e below (s₁.setTop (mkF m 17 #[.val (.int (5 : Int32))] [(.int (2 : Int32)), (.int (5 : Int32))])) _
    refine XS.icmpYes X0.here hx rfl (pc0 := 17) (pc' := 23) rfl (hb hby d2_17) rfl (by decide) (by decide) (by decide) ?_
    show Steps p.tables e below (s₁.setTop (mkF m 23 #[.val (.int (5 : Int32))] [])) _
    refine XS.iloadN X0.here hx rfl (hb hby d2_23) rfl ?_
    show Steps p.tables e below (s₁.setTop (mkF m 24 #[.val (.int (5 : Int32))] [(.int (5 : Int32))])) _
    refine XS.iconst X0.here hx rfl (hb hby d2_24) ?_
    show Steps p.tables e below (s₁.setTop (mkF m 25 #[.val (.int (5 : Int32))] [(.int (3 : Int32)), (.int (5 : Int32))])) _
    refine XS.icmpYes X0.here hx rfl (pc0 := 25) (pc' := 31) rfl (hb hby d2_25) rfl (by decide) (by decide) (by decide) ?_
    show Steps p.tables e below (s₁.setTop (mkF m 31 #[.val (.int (5 : Int32))] [])) _
    refine XS.iloadN X0.here hx rfl (hb hby d2_31) rfl ?_
    show Steps p.tables e below (s₁.setTop (mkF m 32 #[.val (.int (5 : Int32))] [(.int (5 : Int32))])) _
    refine XS.iconst X0.here hx rfl (hb hby d2_32) ?_
    show Steps p.tables e below (s₁.setTop (mkF m 33 #[.val (.int (5 : Int32))] [(.int (4 : Int32)), (.int (5 : Int32))])) _
    refine XS.icmpYes X0.here hx rfl (pc0 := 33) (pc' := 39) rfl (hb hby d2_33) rfl (by decide) (by decide) (by decide) ?_
    show Steps p.tables e below (s₁.setTop (mkF m 39 #[.val (.int (5 : Int32))] [])) _
    refine XS.iloadN X0.here hx rfl (hb hby d2_39) rfl ?_
    show Steps p.tables e below (s₁.setTop (mkF m 40 #[.val (.int (5 : Int32))] [(.int (5 : Int32))])) _
    refine XS.iconst X0.here hx rfl (hb hby d2_40) ?_
    show Steps p.tables e below (s₁.setTop (mkF m 41 #[.val (.int (5 : Int32))] [(.int (5 : Int32)), (.int (5 : Int32))])) _
    refine XS.icmpNo X0.here hx rfl (hb hby d2_41) rfl (by decide) ?_
    show Steps p.tables e below (s₁.setTop (mkF m 44 #[.val (.int (5 : Int32))] [])) _
    refine XS.bipush X0.here hx rfl (hb hby d2_44) ?_
    show Steps p.tables e below (s₁.setTop (mkF m 46 #[.val (.int (5 : Int32))] [(.int (96 : Int32))])) _
    exact retI X0 hx Bd.returns (hb hby d2_46) hr
  · show PQ (.int (96 : Int32)) h0 n0 _ s₁.heap _
    exact ⟨rfl, N0, e0⟩

theorem d1_53 : decode method_2_code 53 = .ok (.getstatic 28, 3) := by decide +kernel
theorem d1_56 : decode method_2_code 56 = .ok (.areturn, 1) := by decide +kernel
set_option maxRecDepth 65536 in
set_option maxHeartbeats 40000000 in
theorem pick_6 (l : Launch) (Z : State) (a0 : Array Value) (hw : ∀ d ∈ tables_1, d.before a0 Z = true) (w : Addr) (h0 : Heap) (n0 : Nat) (Z0 : n0 ≤ h0.size) (S_UNSIGNED_BYTE : Sta Z h0 "com/example/dodder/dodder/model/lexical/XsBoundedInteger" "UNSIGNED_BYTE" "Lcom/example/dodder/dodder/model/lexical/XsBoundedInteger;" (.ref w)) :
    Pays l Z h0 n0 (⟨"com/example/dodder/dodder/model/lexical/XsBoundedIntegerIncludesPinLaw", "pick", "(I)Lcom/example/dodder/dodder/model/lexical/XsBoundedInteger;"⟩ : MethodName) [Jvm.Cond.code (⟨"com/example/dodder/dodder/model/lexical/XsBoundedIntegerIncludesPinLaw", "pick", "(I)Lcom/example/dodder/dodder/model/lexical/XsBoundedInteger;"⟩ : MethodName) method_2_code 1 (some (.object "com/example/dodder/dodder/model/lexical/XsBoundedInteger"))] R0 #[(.int (6 : Int32))] (.ref w) := by
  refine MetFree.of_bodySF (plainFor_of_name pn_XsBoundedIntegerIncludesPinLaw) hisR ?_
  intro p e s m args below meth c s₁ Bd hml0 hP hK
  obtain ⟨rfl, hZ, hh⟩ := hP
  have hx := Bd.exec
  have hby := Bd.bytes
  have hml : c.maxLocals = 1 := hml0
  have hown : s.vm.findClass "com/example/dodder/dodder/model/lexical/XsBoundedIntegerIncludesPinLaw" = some m.cls := findClass_of_methodNamed Bd.named
  have X0 : Stand p l e R0 s m #[(.int (6 : Int32))] below meth c s₁ [] 0 0 := Stand.of_body Bd
  have e0 : s₁.heap = h0 := by rw [← hh, Bd.state]; rfl
  have N0 := Fr.nil n0
  have pre0 : ∀ t, Steps p.tables e below (s₁.setTop (mkF m 0 #[.val (.int (6 : Int32))] [])) t → Steps p.tables e below (s₁.setTop (entryFrame m #[(.int (6 : Int32))] 1)) t := fun t k => castTop (ef_1 m (6 : Int32)) k
  obtain ⟨T1, X1, e1, st1⟩ := getS2 X0 hx hZ hown (host := "") (Or.inl (hw _ (List.mem_of_getElem? (i := 30) rfl))) Via.refl e0 S_UNSIGNED_BYTE (g := (mkF m 53 #[.val (.int (6 : Int32))] [])) rfl (hb hby d1_53)
  obtain ⟨fs, hr, hrun, hended, hW, hsame⟩ := X1.leave (v := some (.ref w)) (fun h => by rw [Bd.returns] at h; cases h)
  refine ⟨_, _, pre0 _ ?_, hrun, hended, _, _, rfl, ?_, ⟨_, rfl⟩, hW, hsame.mono (by decide) (by decide)⟩
  · show Steps p.tables e below (s₁.setTop (mkF m 0 #[.val (.int (6 : Int32))] [])) _
    refine XS.iloadN X0.here hx rfl (hb hby d1_0) rfl ?_
    show Steps p.tables e below (s₁.setTop (mkF m 1 #[.val (.int (6 : Int32))] [(.int (6 : Int32))])) _
    refine XS.ifYes X0.here hx rfl (pc0 := 1) (pc' := 8) rfl (hb hby d1_1) rfl (by decide) (by decide) (by decide) ?_
    show Steps p.tables e below (s₁.setTop (mkF m 8 #[.val (.int (6 : Int32))] [])) _
    refine XS.iloadN X0.here hx rfl (hb hby d1_8) rfl ?_
    show Steps p.tables e below (s₁.setTop (mkF m 9 #[.val (.int (6 : Int32))] [(.int (6 : Int32))])) _
    refine XS.iconst X0.here hx rfl (hb hby d1_9) ?_
    show Steps p.tables e below (s₁.setTop (mkF m 10 #[.val (.int (6 : Int32))] [(.int (1 : Int32)), (.int (6 : Int32))])) _
    refine XS.icmpYes X0.here hx rfl (pc0 := 10) (pc' := 17) rfl (hb hby d1_10) rfl (by decide) (by decide) (by decide) ?_
    show Steps p.tables e below (s₁.setTop (mkF m 17 #[.val (.int (6 : Int32))] [])) _
    refine XS.iloadN X0.here hx rfl (hb hby d1_17) rfl ?_
    show Steps p.tables e below (s₁.setTop (mkF m 18 #[.val (.int (6 : Int32))] [(.int (6 : Int32))])) _
    refine XS.iconst X0.here hx rfl (hb hby d1_18) ?_
    show Steps p.tables e below (s₁.setTop (mkF m 19 #[.val (.int (6 : Int32))] [(.int (2 : Int32)), (.int (6 : Int32))])) _
    refine XS.icmpYes X0.here hx rfl (pc0 := 19) (pc' := 26) rfl (hb hby d1_19) rfl (by decide) (by decide) (by decide) ?_
    show Steps p.tables e below (s₁.setTop (mkF m 26 #[.val (.int (6 : Int32))] [])) _
    refine XS.iloadN X0.here hx rfl (hb hby d1_26) rfl ?_
    show Steps p.tables e below (s₁.setTop (mkF m 27 #[.val (.int (6 : Int32))] [(.int (6 : Int32))])) _
    refine XS.iconst X0.here hx rfl (hb hby d1_27) ?_
    show Steps p.tables e below (s₁.setTop (mkF m 28 #[.val (.int (6 : Int32))] [(.int (3 : Int32)), (.int (6 : Int32))])) _
    refine XS.icmpYes X0.here hx rfl (pc0 := 28) (pc' := 35) rfl (hb hby d1_28) rfl (by decide) (by decide) (by decide) ?_
    show Steps p.tables e below (s₁.setTop (mkF m 35 #[.val (.int (6 : Int32))] [])) _
    refine XS.iloadN X0.here hx rfl (hb hby d1_35) rfl ?_
    show Steps p.tables e below (s₁.setTop (mkF m 36 #[.val (.int (6 : Int32))] [(.int (6 : Int32))])) _
    refine XS.iconst X0.here hx rfl (hb hby d1_36) ?_
    show Steps p.tables e below (s₁.setTop (mkF m 37 #[.val (.int (6 : Int32))] [(.int (4 : Int32)), (.int (6 : Int32))])) _
    refine XS.icmpYes X0.here hx rfl (pc0 := 37) (pc' := 44) rfl (hb hby d1_37) rfl (by decide) (by decide) (by decide) ?_
    show Steps p.tables e below (s₁.setTop (mkF m 44 #[.val (.int (6 : Int32))] [])) _
    refine XS.iloadN X0.here hx rfl (hb hby d1_44) rfl ?_
    show Steps p.tables e below (s₁.setTop (mkF m 45 #[.val (.int (6 : Int32))] [(.int (6 : Int32))])) _
    refine XS.iconst X0.here hx rfl (hb hby d1_45) ?_
    show Steps p.tables e below (s₁.setTop (mkF m 46 #[.val (.int (6 : Int32))] [(.int (5 : Int32)), (.int (6 : Int32))])) _
    refine XS.icmpYes X0.here hx rfl (pc0 := 46) (pc' := 53) rfl (hb hby d1_46) rfl (by decide) (by decide) (by decide) ?_
    show Steps p.tables e below (s₁.setTop (mkF m 53 #[.val (.int (6 : Int32))] [])) _
    refine st1 _ ?_
    show Steps p.tables e below (T1.setTop (mkF m 56 #[.val (.int (6 : Int32))] [(.ref w)])) _
    jvm_step X1.here [X1.here.top, hx, (hb hby d1_56), X1.method', Bd.returns, Value.isRef, FieldType.isReference]
    first | (intro acts; rw [hr _ acts rfl rfl rfl]) | rw [hr _ _ rfl rfl rfl]
    exact Steps.refl _
  · show PQ (.ref w) h0 n0 _ T1.heap _
    exact ⟨rfl, N0, e1⟩

theorem d2_47 : decode method_3_code 47 = .ok (.bipush 64, 2) := by decide +kernel
theorem d2_49 : decode method_3_code 49 = .ok (.ireturn, 1) := by decide +kernel
set_option maxRecDepth 65536 in
set_option maxHeartbeats 40000000 in
theorem row_6 (l : Launch) (Z : State) (a0 : Array Value) (hw : ∀ d ∈ tables_1, d.before a0 Z = true)  (h0 : Heap) (n0 : Nat) (Z0 : n0 ≤ h0.size)  :
    Pays l Z h0 n0 (⟨"com/example/dodder/dodder/model/lexical/XsBoundedIntegerIncludesPinLaw", "row", "(I)I"⟩ : MethodName) [Jvm.Cond.code (⟨"com/example/dodder/dodder/model/lexical/XsBoundedIntegerIncludesPinLaw", "row", "(I)I"⟩ : MethodName) method_3_code 1 (some .int)] R0 #[(.int (6 : Int32))] (.int (64 : Int32)) := by
  refine MetFree.of_bodySF (plainFor_of_name pn_XsBoundedIntegerIncludesPinLaw) hisR ?_
  intro p e s m args below meth c s₁ Bd hml0 hP hK
  obtain ⟨rfl, hZ, hh⟩ := hP
  have hx := Bd.exec
  have hby := Bd.bytes
  have hml : c.maxLocals = 1 := hml0
  have hown : s.vm.findClass "com/example/dodder/dodder/model/lexical/XsBoundedIntegerIncludesPinLaw" = some m.cls := findClass_of_methodNamed Bd.named
  have X0 : Stand p l e R0 s m #[(.int (6 : Int32))] below meth c s₁ [] 0 0 := Stand.of_body Bd
  have e0 : s₁.heap = h0 := by rw [← hh, Bd.state]; rfl
  have N0 := Fr.nil n0
  have pre0 : ∀ t, Steps p.tables e below (s₁.setTop (mkF m 0 #[.val (.int (6 : Int32))] [])) t → Steps p.tables e below (s₁.setTop (entryFrame m #[(.int (6 : Int32))] 1)) t := fun t k => castTop (ef_2 m (6 : Int32)) k
  obtain ⟨fs, hr, hrun, hended, hW, hsame⟩ := X0.leave (v := some (.int (64 : Int32))) (fun h => by rw [Bd.returns] at h; cases h)
  refine ⟨_, _, pre0 _ ?_, hrun, hended, _, _, rfl, ?_, ⟨_, rfl⟩, hW, hsame.mono (by decide) (by decide)⟩
  · show Steps p.tables e below (s₁.setTop (mkF m 0 #[.val (.int (6 : Int32))] [])) _
    refine XS.iloadN X0.here hx rfl (hb hby d2_0) rfl ?_
    show Steps p.tables e below (s₁.setTop (mkF m 1 #[.val (.int (6 : Int32))] [(.int (6 : Int32))])) _
    refine XS.ifYes X0.here hx rfl (pc0 := 1) (pc' := 7) rfl (hb hby d2_1) rfl (by decide) (by decide) (by decide) ?_
    show Steps p.tables e below (s₁.setTop (mkF m 7 #[.val (.int (6 : Int32))] [])) _
    refine XS.iloadN X0.here hx rfl (hb hby d2_7) rfl ?_
    show Steps p.tables e below (s₁.setTop (mkF m 8 #[.val (.int (6 : Int32))] [(.int (6 : Int32))])) _
    refine XS.iconst X0.here hx rfl (hb hby d2_8) ?_
    show Steps p.tables e below (s₁.setTop (mkF m 9 #[.val (.int (6 : Int32))] [(.int (1 : Int32)), (.int (6 : Int32))])) _
    refine XS.icmpYes X0.here hx rfl (pc0 := 9) (pc' := 15) rfl (hb hby d2_9) rfl (by decide) (by decide) (by decide) ?_
    show Steps p.tables e below (s₁.setTop (mkF m 15 #[.val (.int (6 : Int32))] [])) _
    refine XS.iloadN X0.here hx rfl (hb hby d2_15) rfl ?_
    show Steps p.tables e below (s₁.setTop (mkF m 16 #[.val (.int (6 : Int32))] [(.int (6 : Int32))])) _
    refine XS.iconst X0.here hx rfl (hb hby d2_16) ?_
    show Steps p.tables e below (s₁.setTop (mkF m 17 #[.val (.int (6 : Int32))] [(.int (2 : Int32)), (.int (6 : Int32))])) _
    refine XS.icmpYes X0.here hx rfl (pc0 := 17) (pc' := 23) rfl (hb hby d2_17) rfl (by decide) (by decide) (by decide) ?_
    show Steps p.tables e below (s₁.setTop (mkF m 23 #[.val (.int (6 : Int32))] [])) _
    refine XS.iloadN X0.here hx rfl (hb hby d2_23) rfl ?_
    show Steps p.tables e below (s₁.setTop (mkF m 24 #[.val (.int (6 : Int32))] [(.int (6 : Int32))])) _
    refine XS.iconst X0.here hx rfl (hb hby d2_24) ?_
    show Steps p.tables e below (s₁.setTop (mkF m 25 #[.val (.int (6 : Int32))] [(.int (3 : Int32)), (.int (6 : Int32))])) _
    refine XS.icmpYes X0.here hx rfl (pc0 := 25) (pc' := 31) rfl (hb hby d2_25) rfl (by decide) (by decide) (by decide) ?_
    show Steps p.tables e below (s₁.setTop (mkF m 31 #[.val (.int (6 : Int32))] [])) _
    refine XS.iloadN X0.here hx rfl (hb hby d2_31) rfl ?_
    show Steps p.tables e below (s₁.setTop (mkF m 32 #[.val (.int (6 : Int32))] [(.int (6 : Int32))])) _
    refine XS.iconst X0.here hx rfl (hb hby d2_32) ?_
    show Steps p.tables e below (s₁.setTop (mkF m 33 #[.val (.int (6 : Int32))] [(.int (4 : Int32)), (.int (6 : Int32))])) _
    refine XS.icmpYes X0.here hx rfl (pc0 := 33) (pc' := 39) rfl (hb hby d2_33) rfl (by decide) (by decide) (by decide) ?_
    show Steps p.tables e below (s₁.setTop (mkF m 39 #[.val (.int (6 : Int32))] [])) _
    refine XS.iloadN X0.here hx rfl (hb hby d2_39) rfl ?_
    show Steps p.tables e below (s₁.setTop (mkF m 40 #[.val (.int (6 : Int32))] [(.int (6 : Int32))])) _
    refine XS.iconst X0.here hx rfl (hb hby d2_40) ?_
    show Steps p.tables e below (s₁.setTop (mkF m 41 #[.val (.int (6 : Int32))] [(.int (5 : Int32)), (.int (6 : Int32))])) _
    refine XS.icmpYes X0.here hx rfl (pc0 := 41) (pc' := 47) rfl (hb hby d2_41) rfl (by decide) (by decide) (by decide) ?_
    show Steps p.tables e below (s₁.setTop (mkF m 47 #[.val (.int (6 : Int32))] [])) _
    refine XS.bipush X0.here hx rfl (hb hby d2_47) ?_
    show Steps p.tables e below (s₁.setTop (mkF m 49 #[.val (.int (6 : Int32))] [(.int (64 : Int32))])) _
    exact retI X0 hx Bd.returns (hb hby d2_49) hr
  · show PQ (.int (64 : Int32)) h0 n0 _ s₁.heap _
    exact ⟨rfl, N0, e0⟩

theorem d3_0 : decode prog_17_method_5_code 0 = .ok (.aload_n 1, 1) := by decide +kernel
theorem d3_1 : decode prog_17_method_5_code 1 = .ok (.getfield 48, 3) := by decide +kernel
theorem d3_4 : decode prog_17_method_5_code 4 = .ok (.aload_n 0, 1) := by decide +kernel
theorem d3_5 : decode prog_17_method_5_code 5 = .ok (.getfield 48, 3) := by decide +kernel
theorem d3_8 : decode prog_17_method_5_code 8 = .ok (.lcmp, 1) := by decide +kernel
theorem d3_9 : decode prog_17_method_5_code 9 = .ok (.ifCond .lt 19, 3) := by decide +kernel
theorem d3_28 : decode prog_17_method_5_code 28 = .ok (.iconst 0, 1) := by decide +kernel
theorem d3_29 : decode prog_17_method_5_code 29 = .ok (.ireturn, 1) := by decide +kernel
theorem pn_XsBoundedInteger : plainName "com/example/dodder/dodder/model/lexical/XsBoundedInteger" = true := by first | (simp [plainName, overriddenIn]; done) | decide +kernel
theorem ef_3 (m : MethodId) (x0 : Addr) (x1 : Addr) : entryFrame m #[(.ref x0), (.ref x1)] 2 = mkF m 0 #[.val (.ref x0), .val (.ref x1)] [] := by first | (simp [entryFrame, mkF, argsToLocals, Value.category]; done) | rfl
set_option maxRecDepth 65536 in
set_option maxHeartbeats 40000000 in
theorem inc_lo (l : Launch) (Z : State) (a0 : Array Value) (hw : ∀ d ∈ tables_1, d.before a0 Z = true) (ar ao : Addr) (mr xr mo xo : Int64) (h0 : Heap) (n0 : Nat) (Z0 : n0 ≤ h0.size) (Fmr : Fld Z h0 ar "com/example/dodder/dodder/model/lexical/XsBoundedInteger" "min" "J" (.long mr)) (Fxr : Fld Z h0 ar "com/example/dodder/dodder/model/lexical/XsBoundedInteger" "max" "J" (.long xr)) (Fmo : Fld Z h0 ao "com/example/dodder/dodder/model/lexical/XsBoundedInteger" "min" "J" (.long mo)) (Fxo : Fld Z h0 ao "com/example/dodder/dodder/model/lexical/XsBoundedInteger" "max" "J" (.long xo)) (h9 : lcmpW mo mr < 0) :
    Pays l Z h0 n0 (⟨"com/example/dodder/dodder/model/lexical/XsBoundedInteger", "includes", "(Lcom/example/dodder/dodder/model/lexical/XsBoundedInteger;)Z"⟩ : MethodName) [Jvm.Cond.code (⟨"com/example/dodder/dodder/model/lexical/XsBoundedInteger", "includes", "(Lcom/example/dodder/dodder/model/lexical/XsBoundedInteger;)Z"⟩ : MethodName) prog_17_method_5_code 2 (some .boolean)] R0 #[(.ref ar), (.ref ao)] (.int (0 : Int32)) := by
  refine MetFree.of_bodySF (plainFor_of_name pn_XsBoundedInteger) hisR ?_
  intro p e s m args below meth c s₁ Bd hml0 hP hK
  obtain ⟨rfl, hZ, hh⟩ := hP
  have hx := Bd.exec
  have hby := Bd.bytes
  have hml : c.maxLocals = 2 := hml0
  have hown : s.vm.findClass "com/example/dodder/dodder/model/lexical/XsBoundedInteger" = some m.cls := findClass_of_methodNamed Bd.named
  have X0 : Stand p l e R0 s m #[(.ref ar), (.ref ao)] below meth c s₁ [] 0 0 := Stand.of_body Bd
  have e0 : s₁.heap = h0 := by rw [← hh, Bd.state]; rfl
  have N0 := Fr.nil n0
  have pre0 : ∀ t, Steps p.tables e below (s₁.setTop (mkF m 0 #[.val (.ref ar), .val (.ref ao)] [])) t → Steps p.tables e below (s₁.setTop (entryFrame m #[(.ref ar), (.ref ao)] 2)) t := fun t k => castTop (ef_3 m ar ao) k
  obtain ⟨T1, X1, e1, st1⟩ := getF X0 hx hZ hown (host := "") (Or.inl (hw _ (List.mem_of_getElem? (i := 18) rfl))) Via.refl e0 Fmo (g := (mkF m 1 #[.val (.ref ar), .val (.ref ao)] [(.ref ao)])) rfl rfl (hb hby d3_1)
  obtain ⟨T2, X2, e2, st2⟩ := getF X1 hx hZ hown (host := "") (Or.inl (hw _ (List.mem_of_getElem? (i := 18) rfl))) Via.refl e1 Fmr (g := (mkF m 5 #[.val (.ref ar), .val (.ref ao)] [(.ref ar), (.long mo)])) rfl rfl (hb hby d3_5)
  obtain ⟨fs, hr, hrun, hended, hW, hsame⟩ := X2.leave (v := some (.int (0 : Int32))) (fun h => by rw [Bd.returns] at h; cases h)
  refine ⟨_, _, pre0 _ ?_, hrun, hended, _, _, rfl, ?_, ⟨_, rfl⟩, hW, hsame.mono (by decide) (by decide)⟩
  · show Steps p.tables e below (s₁.setTop (mkF m 0 #[.val (.ref ar), .val (.ref ao)] [])) _
    refine XS.aloadN X0.here hx rfl (hb hby d3_0) rfl rfl ?_
    show Steps p.tables e below (s₁.setTop (mkF m 1 #[.val (.ref ar), .val (.ref ao)] [(.ref ao)])) _
    refine st1 _ ?_
    show Steps p.tables e below (T1.setTop (mkF m 4 #[.val (.ref ar), .val (.ref ao)] [(.long mo)])) _
    refine XS.aloadN X1.here hx rfl (hb hby d3_4) rfl rfl ?_
    show Steps p.tables e below (T1.setTop (mkF m 5 #[.val (.ref ar), .val (.ref ao)] [(.ref ar), (.long mo)])) _
    refine st2 _ ?_
    show Steps p.tables e below (T2.setTop (mkF m 8 #[.val (.ref ar), .val (.ref ao)] [(.long mr), (.long mo)])) _
    refine XS.lcmp X2.here hx rfl (hb hby d3_8) rfl ?_
    show Steps p.tables e below (T2.setTop (mkF m 9 #[.val (.ref ar), .val (.ref ao)] [(.int (lcmpW mo mr))])) _
    refine XS.ifYes X2.here hx rfl (pc0 := 9) (pc' := 28) rfl (hb hby d3_9) rfl ((if0 _ _).trans (tlt h9).1) (by decide) (by decide) ?_
    show Steps p.tables e below (T2.setTop (mkF m 28 #[.val (.ref ar), .val (.ref ao)] [])) _
    refine XS.iconst X2.here hx rfl (hb hby d3_28) ?_
    show Steps p.tables e below (T2.setTop (mkF m 29 #[.val (.ref ar), .val (.ref ao)] [(.int (0 : Int32))])) _
    exact retN X2 hx (t := .boolean) Bd.returns (by simp) (hb hby d3_29) hr
  · show PQ (.int (0 : Int32)) h0 n0 _ T2.heap _
    exact ⟨rfl, N0, e2⟩

theorem d3_12 : decode prog_17_method_5_code 12 = .ok (.aload_n 1, 1) := by decide +kernel
theorem d3_13 : decode prog_17_method_5_code 13 = .ok (.getfield 52, 3) := by decide +kernel
theorem d3_16 : decode prog_17_method_5_code 16 = .ok (.aload_n 0, 1) := by decide +kernel
theorem d3_17 : decode prog_17_method_5_code 17 = .ok (.getfield 52, 3) := by decide +kernel
theorem d3_20 : decode prog_17_method_5_code 20 = .ok (.lcmp, 1) := by decide +kernel
theorem d3_21 : decode prog_17_method_5_code 21 = .ok (.ifCond .gt 7, 3) := by decide +kernel
set_option maxRecDepth 65536 in
set_option maxHeartbeats 40000000 in
theorem inc_hi (l : Launch) (Z : State) (a0 : Array Value) (hw : ∀ d ∈ tables_1, d.before a0 Z = true) (ar ao : Addr) (mr xr mo xo : Int64) (h0 : Heap) (n0 : Nat) (Z0 : n0 ≤ h0.size) (Fmr : Fld Z h0 ar "com/example/dodder/dodder/model/lexical/XsBoundedInteger" "min" "J" (.long mr)) (Fxr : Fld Z h0 ar "com/example/dodder/dodder/model/lexical/XsBoundedInteger" "max" "J" (.long xr)) (Fmo : Fld Z h0 ao "com/example/dodder/dodder/model/lexical/XsBoundedInteger" "min" "J" (.long mo)) (Fxo : Fld Z h0 ao "com/example/dodder/dodder/model/lexical/XsBoundedInteger" "max" "J" (.long xo)) (h9 : ¬ (lcmpW mo mr < 0)) (h21 : 0 < lcmpW xo xr) :
    Pays l Z h0 n0 (⟨"com/example/dodder/dodder/model/lexical/XsBoundedInteger", "includes", "(Lcom/example/dodder/dodder/model/lexical/XsBoundedInteger;)Z"⟩ : MethodName) [Jvm.Cond.code (⟨"com/example/dodder/dodder/model/lexical/XsBoundedInteger", "includes", "(Lcom/example/dodder/dodder/model/lexical/XsBoundedInteger;)Z"⟩ : MethodName) prog_17_method_5_code 2 (some .boolean)] R0 #[(.ref ar), (.ref ao)] (.int (0 : Int32)) := by
  refine MetFree.of_bodySF (plainFor_of_name pn_XsBoundedInteger) hisR ?_
  intro p e s m args below meth c s₁ Bd hml0 hP hK
  obtain ⟨rfl, hZ, hh⟩ := hP
  have hx := Bd.exec
  have hby := Bd.bytes
  have hml : c.maxLocals = 2 := hml0
  have hown : s.vm.findClass "com/example/dodder/dodder/model/lexical/XsBoundedInteger" = some m.cls := findClass_of_methodNamed Bd.named
  have X0 : Stand p l e R0 s m #[(.ref ar), (.ref ao)] below meth c s₁ [] 0 0 := Stand.of_body Bd
  have e0 : s₁.heap = h0 := by rw [← hh, Bd.state]; rfl
  have N0 := Fr.nil n0
  have pre0 : ∀ t, Steps p.tables e below (s₁.setTop (mkF m 0 #[.val (.ref ar), .val (.ref ao)] [])) t → Steps p.tables e below (s₁.setTop (entryFrame m #[(.ref ar), (.ref ao)] 2)) t := fun t k => castTop (ef_3 m ar ao) k
  obtain ⟨T1, X1, e1, st1⟩ := getF X0 hx hZ hown (host := "") (Or.inl (hw _ (List.mem_of_getElem? (i := 18) rfl))) Via.refl e0 Fmo (g := (mkF m 1 #[.val (.ref ar), .val (.ref ao)] [(.ref ao)])) rfl rfl (hb hby d3_1)
  obtain ⟨T2, X2, e2, st2⟩ := getF X1 hx hZ hown (host := "") (Or.inl (hw _ (List.mem_of_getElem? (i := 18) rfl))) Via.refl e1 Fmr (g := (mkF m 5 #[.val (.ref ar), .val (.ref ao)] [(.ref ar), (.long mo)])) rfl rfl (hb hby d3_5)
  obtain ⟨T3, X3, e3, st3⟩ := getF X2 hx hZ hown (host := "") (Or.inl (hw _ (List.mem_of_getElem? (i := 20) rfl))) Via.refl e2 Fxo (g := (mkF m 13 #[.val (.ref ar), .val (.ref ao)] [(.ref ao)])) rfl rfl (hb hby d3_13)
  obtain ⟨T4, X4, e4, st4⟩ := getF X3 hx hZ hown (host := "") (Or.inl (hw _ (List.mem_of_getElem? (i := 20) rfl))) Via.refl e3 Fxr (g := (mkF m 17 #[.val (.ref ar), .val (.ref ao)] [(.ref ar), (.long xo)])) rfl rfl (hb hby d3_17)
  obtain ⟨fs, hr, hrun, hended, hW, hsame⟩ := X4.leave (v := some (.int (0 : Int32))) (fun h => by rw [Bd.returns] at h; cases h)
  refine ⟨_, _, pre0 _ ?_, hrun, hended, _, _, rfl, ?_, ⟨_, rfl⟩, hW, hsame.mono (by decide) (by decide)⟩
  · show Steps p.tables e below (s₁.setTop (mkF m 0 #[.val (.ref ar), .val (.ref ao)] [])) _
    refine XS.aloadN X0.here hx rfl (hb hby d3_0) rfl rfl ?_
    show Steps p.tables e below (s₁.setTop (mkF m 1 #[.val (.ref ar), .val (.ref ao)] [(.ref ao)])) _
    refine st1 _ ?_
    show Steps p.tables e below (T1.setTop (mkF m 4 #[.val (.ref ar), .val (.ref ao)] [(.long mo)])) _
    refine XS.aloadN X1.here hx rfl (hb hby d3_4) rfl rfl ?_
    show Steps p.tables e below (T1.setTop (mkF m 5 #[.val (.ref ar), .val (.ref ao)] [(.ref ar), (.long mo)])) _
    refine st2 _ ?_
    show Steps p.tables e below (T2.setTop (mkF m 8 #[.val (.ref ar), .val (.ref ao)] [(.long mr), (.long mo)])) _
    refine XS.lcmp X2.here hx rfl (hb hby d3_8) rfl ?_
    show Steps p.tables e below (T2.setTop (mkF m 9 #[.val (.ref ar), .val (.ref ao)] [(.int (lcmpW mo mr))])) _
    refine XS.ifNo X2.here hx rfl (hb hby d3_9) rfl ((if0 _ _).trans (flt h9).1) ?_
    show Steps p.tables e below (T2.setTop (mkF m 12 #[.val (.ref ar), .val (.ref ao)] [])) _
    refine XS.aloadN X2.here hx rfl (hb hby d3_12) rfl rfl ?_
    show Steps p.tables e below (T2.setTop (mkF m 13 #[.val (.ref ar), .val (.ref ao)] [(.ref ao)])) _
    refine st3 _ ?_
    show Steps p.tables e below (T3.setTop (mkF m 16 #[.val (.ref ar), .val (.ref ao)] [(.long xo)])) _
    refine XS.aloadN X3.here hx rfl (hb hby d3_16) rfl rfl ?_
    show Steps p.tables e below (T3.setTop (mkF m 17 #[.val (.ref ar), .val (.ref ao)] [(.ref ar), (.long xo)])) _
    refine st4 _ ?_
    show Steps p.tables e below (T4.setTop (mkF m 20 #[.val (.ref ar), .val (.ref ao)] [(.long xr), (.long xo)])) _
    refine XS.lcmp X4.here hx rfl (hb hby d3_20) rfl ?_
    show Steps p.tables e below (T4.setTop (mkF m 21 #[.val (.ref ar), .val (.ref ao)] [(.int (lcmpW xo xr))])) _
    refine XS.ifYes X4.here hx rfl (pc0 := 21) (pc' := 28) rfl (hb hby d3_21) rfl ((if0 _ _).trans (tlt h21).2.2.1) (by decide) (by decide) ?_
    show Steps p.tables e below (T4.setTop (mkF m 28 #[.val (.ref ar), .val (.ref ao)] [])) _
    refine XS.iconst X4.here hx rfl (hb hby d3_28) ?_
    show Steps p.tables e below (T4.setTop (mkF m 29 #[.val (.ref ar), .val (.ref ao)] [(.int (0 : Int32))])) _
    exact retN X4 hx (t := .boolean) Bd.returns (by simp) (hb hby d3_29) hr
  · show PQ (.int (0 : Int32)) h0 n0 _ T4.heap _
    exact ⟨rfl, N0, e4⟩

theorem d3_24 : decode prog_17_method_5_code 24 = .ok (.iconst 1, 1) := by decide +kernel
theorem d3_25 : decode prog_17_method_5_code 25 = .ok (.goto 4, 3) := by decide +kernel
set_option maxRecDepth 65536 in
set_option maxHeartbeats 40000000 in
theorem inc_in (l : Launch) (Z : State) (a0 : Array Value) (hw : ∀ d ∈ tables_1, d.before a0 Z = true) (ar ao : Addr) (mr xr mo xo : Int64) (h0 : Heap) (n0 : Nat) (Z0 : n0 ≤ h0.size) (Fmr : Fld Z h0 ar "com/example/dodder/dodder/model/lexical/XsBoundedInteger" "min" "J" (.long mr)) (Fxr : Fld Z h0 ar "com/example/dodder/dodder/model/lexical/XsBoundedInteger" "max" "J" (.long xr)) (Fmo : Fld Z h0 ao "com/example/dodder/dodder/model/lexical/XsBoundedInteger" "min" "J" (.long mo)) (Fxo : Fld Z h0 ao "com/example/dodder/dodder/model/lexical/XsBoundedInteger" "max" "J" (.long xo)) (h9 : ¬ (lcmpW mo mr < 0)) (h21 : ¬ (0 < lcmpW xo xr)) :
    Pays l Z h0 n0 (⟨"com/example/dodder/dodder/model/lexical/XsBoundedInteger", "includes", "(Lcom/example/dodder/dodder/model/lexical/XsBoundedInteger;)Z"⟩ : MethodName) [Jvm.Cond.code (⟨"com/example/dodder/dodder/model/lexical/XsBoundedInteger", "includes", "(Lcom/example/dodder/dodder/model/lexical/XsBoundedInteger;)Z"⟩ : MethodName) prog_17_method_5_code 2 (some .boolean)] R0 #[(.ref ar), (.ref ao)] (.int (1 : Int32)) := by
  refine MetFree.of_bodySF (plainFor_of_name pn_XsBoundedInteger) hisR ?_
  intro p e s m args below meth c s₁ Bd hml0 hP hK
  obtain ⟨rfl, hZ, hh⟩ := hP
  have hx := Bd.exec
  have hby := Bd.bytes
  have hml : c.maxLocals = 2 := hml0
  have hown : s.vm.findClass "com/example/dodder/dodder/model/lexical/XsBoundedInteger" = some m.cls := findClass_of_methodNamed Bd.named
  have X0 : Stand p l e R0 s m #[(.ref ar), (.ref ao)] below meth c s₁ [] 0 0 := Stand.of_body Bd
  have e0 : s₁.heap = h0 := by rw [← hh, Bd.state]; rfl
  have N0 := Fr.nil n0
  have pre0 : ∀ t, Steps p.tables e below (s₁.setTop (mkF m 0 #[.val (.ref ar), .val (.ref ao)] [])) t → Steps p.tables e below (s₁.setTop (entryFrame m #[(.ref ar), (.ref ao)] 2)) t := fun t k => castTop (ef_3 m ar ao) k
  obtain ⟨T1, X1, e1, st1⟩ := getF X0 hx hZ hown (host := "") (Or.inl (hw _ (List.mem_of_getElem? (i := 18) rfl))) Via.refl e0 Fmo (g := (mkF m 1 #[.val (.ref ar), .val (.ref ao)] [(.ref ao)])) rfl rfl (hb hby d3_1)
  obtain ⟨T2, X2, e2, st2⟩ := getF X1 hx hZ hown (host := "") (Or.inl (hw _ (List.mem_of_getElem? (i := 18) rfl))) Via.refl e1 Fmr (g := (mkF m 5 #[.val (.ref ar), .val (.ref ao)] [(.ref ar), (.long mo)])) rfl rfl (hb hby d3_5)
  obtain ⟨T3, X3, e3, st3⟩ := getF X2 hx hZ hown (host := "") (Or.inl (hw _ (List.mem_of_getElem? (i := 20) rfl))) Via.refl e2 Fxo (g := (mkF m 13 #[.val (.ref ar), .val (.ref ao)] [(.ref ao)])) rfl rfl (hb hby d3_13)
  obtain ⟨T4, X4, e4, st4⟩ := getF X3 hx hZ hown (host := "") (Or.inl (hw _ (List.mem_of_getElem? (i := 20) rfl))) Via.refl e3 Fxr (g := (mkF m 17 #[.val (.ref ar), .val (.ref ao)] [(.ref ar), (.long xo)])) rfl rfl (hb hby d3_17)
  obtain ⟨fs, hr, hrun, hended, hW, hsame⟩ := X4.leave (v := some (.int (1 : Int32))) (fun h => by rw [Bd.returns] at h; cases h)
  refine ⟨_, _, pre0 _ ?_, hrun, hended, _, _, rfl, ?_, ⟨_, rfl⟩, hW, hsame.mono (by decide) (by decide)⟩
  · show Steps p.tables e below (s₁.setTop (mkF m 0 #[.val (.ref ar), .val (.ref ao)] [])) _
    refine XS.aloadN X0.here hx rfl (hb hby d3_0) rfl rfl ?_
    show Steps p.tables e below (s₁.setTop (mkF m 1 #[.val (.ref ar), .val (.ref ao)] [(.ref ao)])) _
    refine st1 _ ?_
    show Steps p.tables e below (T1.setTop (mkF m 4 #[.val (.ref ar), .val (.ref ao)] [(.long mo)])) _
    refine XS.aloadN X1.here hx rfl (hb hby d3_4) rfl rfl ?_
    show Steps p.tables e below (T1.setTop (mkF m 5 #[.val (.ref ar), .val (.ref ao)] [(.ref ar), (.long mo)])) _
    refine st2 _ ?_
    show Steps p.tables e below (T2.setTop (mkF m 8 #[.val (.ref ar), .val (.ref ao)] [(.long mr), (.long mo)])) _
    refine XS.lcmp X2.here hx rfl (hb hby d3_8) rfl ?_
    show Steps p.tables e below (T2.setTop (mkF m 9 #[.val (.ref ar), .val (.ref ao)] [(.int (lcmpW mo mr))])) _
    refine XS.ifNo X2.here hx rfl (hb hby d3_9) rfl ((if0 _ _).trans (flt h9).1) ?_
    show Steps p.tables e below (T2.setTop (mkF m 12 #[.val (.ref ar), .val (.ref ao)] [])) _
    refine XS.aloadN X2.here hx rfl (hb hby d3_12) rfl rfl ?_
    show Steps p.tables e below (T2.setTop (mkF m 13 #[.val (.ref ar), .val (.ref ao)] [(.ref ao)])) _
    refine st3 _ ?_
    show Steps p.tables e below (T3.setTop (mkF m 16 #[.val (.ref ar), .val (.ref ao)] [(.long xo)])) _
    refine XS.aloadN X3.here hx rfl (hb hby d3_16) rfl rfl ?_
    show Steps p.tables e below (T3.setTop (mkF m 17 #[.val (.ref ar), .val (.ref ao)] [(.ref ar), (.long xo)])) _
    refine st4 _ ?_
    show Steps p.tables e below (T4.setTop (mkF m 20 #[.val (.ref ar), .val (.ref ao)] [(.long xr), (.long xo)])) _
    refine XS.lcmp X4.here hx rfl (hb hby d3_20) rfl ?_
    show Steps p.tables e below (T4.setTop (mkF m 21 #[.val (.ref ar), .val (.ref ao)] [(.int (lcmpW xo xr))])) _
    refine XS.ifNo X4.here hx rfl (hb hby d3_21) rfl ((if0 _ _).trans (flt h21).2.2.1) ?_
    show Steps p.tables e below (T4.setTop (mkF m 24 #[.val (.ref ar), .val (.ref ao)] [])) _
    refine XS.iconst X4.here hx rfl (hb hby d3_24) ?_
    show Steps p.tables e below (T4.setTop (mkF m 25 #[.val (.ref ar), .val (.ref ao)] [(.int (1 : Int32))])) _
    refine XS.goto X4.here hx rfl (pc0 := 25) (pc' := 29) rfl (hb hby d3_25) (by decide) (by decide) ?_
    show Steps p.tables e below (T4.setTop (mkF m 29 #[.val (.ref ar), .val (.ref ao)] [(.int (1 : Int32))])) _
    exact retN X4 hx (t := .boolean) Bd.returns (by simp) (hb hby d3_29) hr
  · show PQ (.int (1 : Int32)) h0 n0 _ T4.heap _
    exact ⟨rfl, N0, e4⟩

theorem pd__I_Lcom_example_dodder_dodder_model_lexical_XsBoundedInteger_ : parseMethodDescriptor "(I)Lcom/example/dodder/dodder/model/lexical/XsBoundedInteger;" = some ⟨[.int], some (.object "com/example/dodder/dodder/model/lexical/XsBoundedInteger")⟩ := by decide +kernel
theorem pd__I_I : parseMethodDescriptor "(I)I" = some ⟨[.int], some .int⟩ := by decide +kernel
theorem pd__Lcom_example_dodder_dodder_model_lexical_XsBoundedInteger__Z : parseMethodDescriptor "(Lcom/example/dodder/dodder/model/lexical/XsBoundedInteger;)Z" = some ⟨[(.object "com/example/dodder/dodder/model/lexical/XsBoundedInteger")], some .boolean⟩ := by decide +kernel
theorem ef_0 (m : MethodId) (x0 : Int32) (x1 : Int32) : entryFrame m #[(.int x0), (.int x1)] maxLocals = mkF m 0 #[.val (.int x0), .val (.int x1), .unset, .unset, .unset, .unset, .unset] [] := by first | (simp [entryFrame, mkF, argsToLocals, Value.category, maxLocals]; done) | rfl
set_option maxRecDepth 65536 in
set_option maxHeartbeats 40000000 in
theorem law_0 (l : Launch) (Z : State) (a0 : Array Value) (hw : ∀ d ∈ tables_1, d.before a0 Z = true) (ws : List Jvm.Cond) (p1 p2 i j r : Int32) (ar ao : Addr) (h0 : Heap) (n0 : Nat) (Z0 : n0 ≤ h0.size) (hi : (p1 &&& (2147483647 : Int32)) % (7 : Int32) = i) (hj : (p2 &&& (2147483647 : Int32)) % (7 : Int32) = j) (EX : Exa Z h0 ar "com/example/dodder/dodder/model/lexical/XsBoundedInteger") (C1 : Pays l Z h0 n0 (⟨"com/example/dodder/dodder/model/lexical/XsBoundedIntegerIncludesPinLaw", "pick", "(I)Lcom/example/dodder/dodder/model/lexical/XsBoundedInteger;"⟩ : MethodName) [Jvm.Cond.code (⟨"com/example/dodder/dodder/model/lexical/XsBoundedIntegerIncludesPinLaw", "pick", "(I)Lcom/example/dodder/dodder/model/lexical/XsBoundedInteger;"⟩ : MethodName) method_2_code 1 (some (.object "com/example/dodder/dodder/model/lexical/XsBoundedInteger"))] R0 #[(.int i)] (.ref ar)) (C2 : Pays l Z h0 n0 (⟨"com/example/dodder/dodder/model/lexical/XsBoundedIntegerIncludesPinLaw", "pick", "(I)Lcom/example/dodder/dodder/model/lexical/XsBoundedInteger;"⟩ : MethodName) [Jvm.Cond.code (⟨"com/example/dodder/dodder/model/lexical/XsBoundedIntegerIncludesPinLaw", "pick", "(I)Lcom/example/dodder/dodder/model/lexical/XsBoundedInteger;"⟩ : MethodName) method_2_code 1 (some (.object "com/example/dodder/dodder/model/lexical/XsBoundedInteger"))] R0 #[(.int j)] (.ref ao)) (C3 : Pays l Z h0 n0 (⟨"com/example/dodder/dodder/model/lexical/XsBoundedIntegerIncludesPinLaw", "row", "(I)I"⟩ : MethodName) [Jvm.Cond.code (⟨"com/example/dodder/dodder/model/lexical/XsBoundedIntegerIncludesPinLaw", "row", "(I)I"⟩ : MethodName) method_3_code 1 (some .int)] R0 #[(.int i)] (.int r)) (C4 : Pays l Z h0 n0 (⟨"com/example/dodder/dodder/model/lexical/XsBoundedInteger", "includes", "(Lcom/example/dodder/dodder/model/lexical/XsBoundedInteger;)Z"⟩ : MethodName) [Jvm.Cond.code (⟨"com/example/dodder/dodder/model/lexical/XsBoundedInteger", "includes", "(Lcom/example/dodder/dodder/model/lexical/XsBoundedInteger;)Z"⟩ : MethodName) prog_17_method_5_code 2 (some .boolean)] R0 #[(.ref ar), (.ref ao)] (.int (0 : Int32))) (hbit : ((r >>> (j &&& 31)) &&& (1 : Int32)) = (0 : Int32)) :
    Pays l Z h0 n0 x (Jvm.Cond.code x code maxLocals ret :: ws) room_1 #[(.int p1), (.int p2)] (.int (1 : Int32)) := by
  refine MetFree.of_bodySF (plainFor_of_name pn_XsBoundedIntegerIncludesPinLaw) hisR ?_
  intro p e s m args below meth c s₁ Bd hml0 hP hK
  obtain ⟨rfl, hZ, hh⟩ := hP
  have hx := Bd.exec
  have hby := Bd.bytes
  have hml : c.maxLocals = 7 := hml0
  have hown : s.vm.findClass "com/example/dodder/dodder/model/lexical/XsBoundedIntegerIncludesPinLaw" = some m.cls := findClass_of_methodNamed Bd.named
  have X0 : Stand p l e room_1 s m #[(.int p1), (.int p2)] below meth c s₁ [] 0 0 := Stand.of_body Bd
  have e0 : s₁.heap = h0 := by rw [← hh, Bd.state]; rfl
  have N0 := Fr.nil n0
  have pre0 : ∀ t, Steps p.tables e below (s₁.setTop (mkF m 0 #[.val (.int p1), .val (.int p2), .unset, .unset, .unset, .unset, .unset] [])) t → Steps p.tables e below (s₁.setTop (entryFrame m #[(.int p1), (.int p2)] maxLocals)) t := fun t k => castTop (ef_0 m p1 p2) k
  obtain ⟨_, _, ⟨T1, L1, k1, n1⟩, -, X1, ⟨Lc1, hQ1, l1, y1, z1⟩, st1⟩ := Jvm.LawKit.callS X0 hx (y := (⟨"com/example/dodder/dodder/model/lexical/XsBoundedIntegerIncludesPinLaw", "pick", "(I)Lcom/example/dodder/dodder/model/lexical/XsBoundedInteger;"⟩ : MethodName)) hown (mvT hZ (hw _ (List.mem_of_getElem? (i := 1) rfl))) (mvT hZ (hw _ (List.mem_of_getElem? (i := 2) rfl))) (mvT hZ (hw _ (List.mem_of_getElem? (i := 3) rfl))) (mvT hZ (hw _ (List.mem_of_getElem? (i := 4) rfl))) (by decide) (backOf (W := 0) (Q := PQ (.ref ar) h0 n0) C1 hZ (hw _ (List.mem_of_getElem? (i := 4) rfl)) (hw _ (List.mem_of_getElem? (i := 3) rfl)) (by decide) (by decide)) (g := (mkF m 17 #[.val (.int p1), .val (.int p2), .val (.int i), .val (.int j), .unset, .unset, .unset] [(.int i)])) rfl (by rw [hml]; rfl) (argsL := [(.int i)]) (rest := []) (lenOf pd__I_Lcom_example_dodder_dodder_model_lexical_XsBoundedInteger_ rfl) rfl (by show 2 * 0 + _ ≤ _; exact Nat.le_of_eq rfl) (hb hby at_17) (fun _ _ => ⟨rfl, e0, (by decide : 0 + 0 ≤ _), (by decide : 0 + 0 ≤ _)⟩)
  dsimp only [Pt.U, Pt.locs, Pt.cells, Pt.slots] at X1 l1 y1 z1 st1 hQ1
  subst l1 y1 z1
  obtain ⟨rfl, Nq1, e1⟩ := hQ1
  have N1 := Fr.app N0 Nq1
  obtain ⟨_, _, ⟨T2, L2, k2, n2⟩, -, X2, ⟨Lc2, hQ2, l2, y2, z2⟩, st2⟩ := Jvm.LawKit.callS X1 hx (y := (⟨"com/example/dodder/dodder/model/lexical/XsBoundedIntegerIncludesPinLaw", "pick", "(I)Lcom/example/dodder/dodder/model/lexical/XsBoundedInteger;"⟩ : MethodName)) hown (mvT hZ (hw _ (List.mem_of_getElem? (i := 1) rfl))) (mvT hZ (hw _ (List.mem_of_getElem? (i := 2) rfl))) (mvT hZ (hw _ (List.mem_of_getElem? (i := 3) rfl))) (mvT hZ (hw _ (List.mem_of_getElem? (i := 4) rfl))) (by decide) (backOf (W := 0) (Q := PQ (.ref ao) h0 n0) C2 hZ (hw _ (List.mem_of_getElem? (i := 4) rfl)) (hw _ (List.mem_of_getElem? (i := 3) rfl)) (by decide) (by decide)) (g := (mkF m 23 #[.val (.int p1), .val (.int p2), .val (.int i), .val (.int j), .val (.ref ar), .unset, .unset] [(.int j)])) rfl (by rw [hml]; rfl) (argsL := [(.int j)]) (rest := []) (lenOf pd__I_Lcom_example_dodder_dodder_model_lexical_XsBoundedInteger_ rfl) rfl (by show 2 * 0 + _ ≤ _; exact Nat.le_of_eq rfl) (hb hby at_23) (fun _ _ => ⟨rfl, e1, (by decide : 0 + 0 ≤ _), (by decide : 0 + 0 ≤ _)⟩)
  dsimp only [Pt.U, Pt.locs, Pt.cells, Pt.slots] at X2 l2 y2 z2 st2 hQ2
  subst l2 y2 z2
  obtain ⟨rfl, Nq2, e2⟩ := hQ2
  have N2 := Fr.app N1 Nq2
  obtain ⟨_, _, ⟨T3, L3, k3, n3⟩, -, X3, ⟨Lc3, hQ3, l3, y3, z3⟩, st3⟩ := Jvm.LawKit.callS X2 hx (y := (⟨"com/example/dodder/dodder/model/lexical/XsBoundedIntegerIncludesPinLaw", "row", "(I)I"⟩ : MethodName)) hown (mvT hZ (hw _ (List.mem_of_getElem? (i := 10) rfl))) (mvT hZ (hw _ (List.mem_of_getElem? (i := 11) rfl))) (mvT hZ (hw _ (List.mem_of_getElem? (i := 3) rfl))) (mvT hZ (hw _ (List.mem_of_getElem? (i := 12) rfl))) (by decide) (backOf (W := 0) (Q := PQ (.int r) h0 n0) C3 hZ (hw _ (List.mem_of_getElem? (i := 12) rfl)) (hw _ (List.mem_of_getElem? (i := 3) rfl)) (by decide) (by decide)) (g := (mkF m 29 #[.val (.int p1), .val (.int p2), .val (.int i), .val (.int j), .val (.ref ar), .val (.ref ao), .unset] [(.int i)])) rfl (by rw [hml]; rfl) (argsL := [(.int i)]) (rest := []) (lenOf pd__I_I rfl) rfl (by show 2 * 0 + _ ≤ _; exact Nat.le_of_eq rfl) (hb hby at_29) (fun _ _ => ⟨rfl, e2, (by decide : 0 + 0 ≤ _), (by decide : 0 + 0 ≤ _)⟩)
  dsimp only [Pt.U, Pt.locs, Pt.cells, Pt.slots] at X3 l3 y3 z3 st3 hQ3
  subst l3 y3 z3
  obtain ⟨rfl, Nq3, e3⟩ := hQ3
  have N3 := Fr.app N2 Nq3
  obtain ⟨cq4, kq4, q4a, q4b, q4c⟩ := isOf hZ e3 EX
  obtain ⟨_, _, ⟨T4, L4, k4, n4⟩, -, X4, ⟨Lc4, hQ4, l4, y4, z4⟩, st4⟩ := X3.virtualBack hx (y := (⟨"com/example/dodder/dodder/model/lexical/XsBoundedInteger", "includes", "(Lcom/example/dodder/dodder/model/lexical/XsBoundedInteger;)Z"⟩ : MethodName)) (z := (⟨"com/example/dodder/dodder/model/lexical/XsBoundedInteger", "includes", "(Lcom/example/dodder/dodder/model/lexical/XsBoundedInteger;)Z"⟩ : MethodName)) hown (mvT hZ (hw _ (List.mem_of_getElem? (i := 13) rfl))) (mvT hZ (hw _ (List.mem_of_getElem? (i := 14) rfl))) (notFace_of_selects (args := #[]) (mvT hZ (hw _ (List.mem_of_getElem? (i := 16) rfl)))) (mvT hZ (hw _ (List.mem_of_getElem? (i := 16) rfl))) (mvT hZ (hw _ (List.mem_of_getElem? (i := 15) rfl))) (by decide) (backOf (W := 0) (Q := PQ (.int (0 : Int32)) h0 n0) C4 hZ (hw _ (List.mem_of_getElem? (i := 17) rfl)) (hw _ (List.mem_of_getElem? (i := 6) rfl)) (by decide) (by decide)) q4a q4c (g := (mkF m 50 #[.val (.int p1), .val (.int p2), .val (.int i), .val (.int j), .val (.ref ar), .val (.ref ao), .val (.int (0 : Int32))] [(.ref ao), (.ref ar)])) rfl (by rw [hml]; rfl) (Steps.refl _) (argsL := [(.ref ao)]) (rest := []) (lenOf pd__Lcom_example_dodder_dodder_model_lexical_XsBoundedInteger__Z rfl) rfl (by show 2 * 0 + _ ≤ _; exact Nat.le_of_eq rfl) (hb hby at_50) (fun _ _ => ⟨rfl, e3, (by decide : 0 + 0 ≤ _), (by decide : 0 + 0 ≤ _)⟩)
  dsimp only [Pt.U, Pt.locs, Pt.cells, Pt.slots] at X4 l4 y4 z4 st4 hQ4
  subst l4 y4 z4
  obtain ⟨rfl, Nq4, e4⟩ := hQ4
  have N4 := Fr.app N3 Nq4
  obtain ⟨fs, hr, hrun, hended, hW, hsame⟩ := X4.leave (v := some (.int (1 : Int32))) (fun h => by rw [Bd.returns] at h; cases h)
  refine ⟨_, _, pre0 _ ?_, hrun, hended, _, _, rfl, ?_, ⟨_, rfl⟩, hW, hsame.mono (by decide) (by decide)⟩
  · show Steps p.tables e below (s₁.setTop (mkF m 0 #[.val (.int p1), .val (.int p2), .unset, .unset, .unset, .unset, .unset] [])) _
    refine XS.iloadN X0.here hx rfl (hb hby at_0) rfl ?_
    show Steps p.tables e below (s₁.setTop (mkF m 1 #[.val (.int p1), .val (.int p2), .unset, .unset, .unset, .unset, .unset] [(.int p1)])) _
    refine X0.ldcI hx hown (mvT hZ (hw _ (List.mem_of_getElem? (i := 0) rfl))) (g := (mkF m 1 #[.val (.int p1), .val (.int p2), .unset, .unset, .unset, .unset, .unset] [(.int p1)])) rfl (hb hby at_1) ?_
    show Steps p.tables e below (s₁.setTop (mkF m 3 #[.val (.int p1), .val (.int p2), .unset, .unset, .unset, .unset, .unset] [(.int (2147483647 : Int32)), (.int p1)])) _
    refine XS.iand X0.here hx rfl (hb hby at_3) rfl ?_
    show Steps p.tables e below (s₁.setTop (mkF m 4 #[.val (.int p1), .val (.int p2), .unset, .unset, .unset, .unset, .unset] [(.int (p1 &&& (2147483647 : Int32)))])) _
    refine XS.bipush X0.here hx rfl (hb hby at_4) ?_
    show Steps p.tables e below (s₁.setTop (mkF m 6 #[.val (.int p1), .val (.int p2), .unset, .unset, .unset, .unset, .unset] [(.int (7 : Int32)), (.int (p1 &&& (2147483647 : Int32)))])) _
    refine iremM (g := (mkF m 6 #[.val (.int p1), .val (.int p2), .unset, .unset, .unset, .unset, .unset] [(.int (7 : Int32)), (.int (p1 &&& (2147483647 : Int32)))])) X0 hx rfl (hb hby at_6) rfl (by decide) ?_
    show Steps p.tables e below (s₁.setTop (mkF m 7 #[.val (.int p1), .val (.int p2), .unset, .unset, .unset, .unset, .unset] [(.int ((p1 &&& (2147483647 : Int32)) % (7 : Int32)))])) _
    rw [hi]
    show Steps p.tables e below (s₁.setTop (mkF m 7 #[.val (.int p1), .val (.int p2), .unset, .unset, .unset, .unset, .unset] [(.int i)])) _
    refine XS.istoreN X0.here hx rfl (hb hby at_7) rfl (l' := #[.val (.int p1), .val (.int p2), .val (.int i), .unset, .unset, .unset, .unset]) rfl ?_
    show Steps p.tables e below (s₁.setTop (mkF m 8 #[.val (.int p1), .val (.int p2), .val (.int i), .unset, .unset, .unset, .unset] [])) _
    refine XS.iloadN X0.here hx rfl (hb hby at_8) rfl ?_
    show Steps p.tables e below (s₁.setTop (mkF m 9 #[.val (.int p1), .val (.int p2), .val (.int i), .unset, .unset, .unset, .unset] [(.int p2)])) _
    refine X0.ldcI hx hown (mvT hZ (hw _ (List.mem_of_getElem? (i := 0) rfl))) (g := (mkF m 9 #[.val (.int p1), .val (.int p2), .val (.int i), .unset, .unset, .unset, .unset] [(.int p2)])) rfl (hb hby at_9) ?_
    show Steps p.tables e below (s₁.setTop (mkF m 11 #[.val (.int p1), .val (.int p2), .val (.int i), .unset, .unset, .unset, .unset] [(.int (2147483647 : Int32)), (.int p2)])) _
    refine XS.iand X0.here hx rfl (hb hby at_11) rfl ?_
    show Steps p.tables e below (s₁.setTop (mkF m 12 #[.val (.int p1), .val (.int p2), .val (.int i), .unset, .unset, .unset, .unset] [(.int (p2 &&& (2147483647 : Int32)))])) _
    refine XS.bipush X0.here hx rfl (hb hby at_12) ?_
    show Steps p.tables e below (s₁.setTop (mkF m 14 #[.val (.int p1), .val (.int p2), .val (.int i), .unset, .unset, .unset, .unset] [(.int (7 : Int32)), (.int (p2 &&& (2147483647 : Int32)))])) _
    refine iremM (g := (mkF m 14 #[.val (.int p1), .val (.int p2), .val (.int i), .unset, .unset, .unset, .unset] [(.int (7 : Int32)), (.int (p2 &&& (2147483647 : Int32)))])) X0 hx rfl (hb hby at_14) rfl (by decide) ?_
    show Steps p.tables e below (s₁.setTop (mkF m 15 #[.val (.int p1), .val (.int p2), .val (.int i), .unset, .unset, .unset, .unset] [(.int ((p2 &&& (2147483647 : Int32)) % (7 : Int32)))])) _
    rw [hj]
    show Steps p.tables e below (s₁.setTop (mkF m 15 #[.val (.int p1), .val (.int p2), .val (.int i), .unset, .unset, .unset, .unset] [(.int j)])) _
    refine XS.istoreN X0.here hx rfl (hb hby at_15) rfl (l' := #[.val (.int p1), .val (.int p2), .val (.int i), .val (.int j), .unset, .unset, .unset]) rfl ?_
    show Steps p.tables e below (s₁.setTop (mkF m 16 #[.val (.int p1), .val (.int p2), .val (.int i), .val (.int j), .unset, .unset, .unset] [])) _
    refine XS.iloadN X0.here hx rfl (hb hby at_16) rfl ?_
    show Steps p.tables e below (s₁.setTop (mkF m 17 #[.val (.int p1), .val (.int p2), .val (.int i), .val (.int j), .unset, .unset, .unset] [(.int i)])) _
    refine st1 _ ?_
    show Steps p.tables e below (T1.setTop (mkF m 20 #[.val (.int p1), .val (.int p2), .val (.int i), .val (.int j), .unset, .unset, .unset] [(.ref ar)])) _
    refine XS.astore X1.here hx rfl (hb hby at_20) rfl rfl (l' := #[.val (.int p1), .val (.int p2), .val (.int i), .val (.int j), .val (.ref ar), .unset, .unset]) rfl ?_
    show Steps p.tables e below (T1.setTop (mkF m 22 #[.val (.int p1), .val (.int p2), .val (.int i), .val (.int j), .val (.ref ar), .unset, .unset] [])) _
    refine XS.iloadN X1.here hx rfl (hb hby at_22) rfl ?_
    show Steps p.tables e below (T1.setTop (mkF m 23 #[.val (.int p1), .val (.int p2), .val (.int i), .val (.int j), .val (.ref ar), .unset, .unset] [(.int j)])) _
    refine st2 _ ?_
    show Steps p.tables e below (T2.setTop (mkF m 26 #[.val (.int p1), .val (.int p2), .val (.int i), .val (.int j), .val (.ref ar), .unset, .unset] [(.ref ao)])) _
    refine XS.astore X2.here hx rfl (hb hby at_26) rfl rfl (l' := #[.val (.int p1), .val (.int p2), .val (.int i), .val (.int j), .val (.ref ar), .val (.ref ao), .unset]) rfl ?_
    show Steps p.tables e below (T2.setTop (mkF m 28 #[.val (.int p1), .val (.int p2), .val (.int i), .val (.int j), .val (.ref ar), .val (.ref ao), .unset] [])) _
    refine XS.iloadN X2.here hx rfl (hb hby at_28) rfl ?_
    show Steps p.tables e below (T2.setTop (mkF m 29 #[.val (.int p1), .val (.int p2), .val (.int i), .val (.int j), .val (.ref ar), .val (.ref ao), .unset] [(.int i)])) _
    refine st3 _ ?_
    show Steps p.tables e below (T3.setTop (mkF m 32 #[.val (.int p1), .val (.int p2), .val (.int i), .val (.int j), .val (.ref ar), .val (.ref ao), .unset] [(.int r)])) _
    refine XS.iloadN X3.here hx rfl (hb hby at_32) rfl ?_
    show Steps p.tables e below (T3.setTop (mkF m 33 #[.val (.int p1), .val (.int p2), .val (.int i), .val (.int j), .val (.ref ar), .val (.ref ao), .unset] [(.int j), (.int r)])) _
    refine XS.ishr X3.here hx rfl (hb hby at_33) rfl ?_
    show Steps p.tables e below (T3.setTop (mkF m 34 #[.val (.int p1), .val (.int p2), .val (.int i), .val (.int j), .val (.ref ar), .val (.ref ao), .unset] [(.int (r >>> (j &&& 31)))])) _
    refine XS.iconst X3.here hx rfl (hb hby at_34) ?_
    show Steps p.tables e below (T3.setTop (mkF m 35 #[.val (.int p1), .val (.int p2), .val (.int i), .val (.int j), .val (.ref ar), .val (.ref ao), .unset] [(.int (1 : Int32)), (.int (r >>> (j &&& 31)))])) _
    refine XS.iand X3.here hx rfl (hb hby at_35) rfl ?_
    show Steps p.tables e below (T3.setTop (mkF m 36 #[.val (.int p1), .val (.int p2), .val (.int i), .val (.int j), .val (.ref ar), .val (.ref ao), .unset] [(.int ((r >>> (j &&& 31)) &&& (1 : Int32)))])) _
    refine XS.ifYes X3.here hx rfl (pc0 := 36) (pc' := 43) rfl (hb hby at_36) rfl ((if0 _ _).trans (teq hbit).1) (by decide) (by decide) ?_
    show Steps p.tables e below (T3.setTop (mkF m 43 #[.val (.int p1), .val (.int p2), .val (.int i), .val (.int j), .val (.ref ar), .val (.ref ao), .unset] [])) _
    refine XS.iconst X3.here hx rfl (hb hby at_43) ?_
    show Steps p.tables e below (T3.setTop (mkF m 44 #[.val (.int p1), .val (.int p2), .val (.int i), .val (.int j), .val (.ref ar), .val (.ref ao), .unset] [(.int (0 : Int32))])) _
    refine XS.istore X3.here hx rfl (hb hby at_44) rfl (l' := #[.val (.int p1), .val (.int p2), .val (.int i), .val (.int j), .val (.ref ar), .val (.ref ao), .val (.int (0 : Int32))]) rfl ?_
    show Steps p.tables e below (T3.setTop (mkF m 46 #[.val (.int p1), .val (.int p2), .val (.int i), .val (.int j), .val (.ref ar), .val (.ref ao), .val (.int (0 : Int32))] [])) _
    refine XS.aload X3.here hx rfl (hb hby at_46) rfl rfl ?_
    show Steps p.tables e below (T3.setTop (mkF m 48 #[.val (.int p1), .val (.int p2), .val (.int i), .val (.int j), .val (.ref ar), .val (.ref ao), .val (.int (0 : Int32))] [(.ref ar)])) _
    refine XS.aload X3.here hx rfl (hb hby at_48) rfl rfl ?_
    show Steps p.tables e below (T3.setTop (mkF m 50 #[.val (.int p1), .val (.int p2), .val (.int i), .val (.int j), .val (.ref ar), .val (.ref ao), .val (.int (0 : Int32))] [(.ref ao), (.ref ar)])) _
    refine st4.trans ?_
    show Steps p.tables e below (T4.setTop (mkF m 53 #[.val (.int p1), .val (.int p2), .val (.int i), .val (.int j), .val (.ref ar), .val (.ref ao), .val (.int (0 : Int32))] [(.int (0 : Int32))])) _
    refine XS.iload X4.here hx rfl (hb hby at_53) rfl ?_
    show Steps p.tables e below (T4.setTop (mkF m 55 #[.val (.int p1), .val (.int p2), .val (.int i), .val (.int j), .val (.ref ar), .val (.ref ao), .val (.int (0 : Int32))] [(.int (0 : Int32)), (.int (0 : Int32))])) _
    refine XS.icmpNo X4.here hx rfl (hb hby at_55) rfl (by decide) ?_
    show Steps p.tables e below (T4.setTop (mkF m 58 #[.val (.int p1), .val (.int p2), .val (.int i), .val (.int j), .val (.ref ar), .val (.ref ao), .val (.int (0 : Int32))] [])) _
    refine XS.iconst X4.here hx rfl (hb hby at_58) ?_
    show Steps p.tables e below (T4.setTop (mkF m 59 #[.val (.int p1), .val (.int p2), .val (.int i), .val (.int j), .val (.ref ar), .val (.ref ao), .val (.int (0 : Int32))] [(.int (1 : Int32))])) _
    refine XS.goto X4.here hx rfl (pc0 := 59) (pc' := 63) rfl (hb hby at_59) (by decide) (by decide) ?_
    show Steps p.tables e below (T4.setTop (mkF m 63 #[.val (.int p1), .val (.int p2), .val (.int i), .val (.int j), .val (.ref ar), .val (.ref ao), .val (.int (0 : Int32))] [(.int (1 : Int32))])) _
    exact retN X4 hx (t := .boolean) Bd.returns (by simp) (hb hby at_63) hr
  · show PQ (.int (1 : Int32)) h0 n0 _ T4.heap _
    exact ⟨rfl, N4, e4⟩

set_option maxRecDepth 65536 in
set_option maxHeartbeats 40000000 in
theorem law_1 (l : Launch) (Z : State) (a0 : Array Value) (hw : ∀ d ∈ tables_1, d.before a0 Z = true) (ws : List Jvm.Cond) (p1 p2 i j r : Int32) (ar ao : Addr) (h0 : Heap) (n0 : Nat) (Z0 : n0 ≤ h0.size) (hi : (p1 &&& (2147483647 : Int32)) % (7 : Int32) = i) (hj : (p2 &&& (2147483647 : Int32)) % (7 : Int32) = j) (EX : Exa Z h0 ar "com/example/dodder/dodder/model/lexical/XsBoundedInteger") (C1 : Pays l Z h0 n0 (⟨"com/example/dodder/dodder/model/lexical/XsBoundedIntegerIncludesPinLaw", "pick", "(I)Lcom/example/dodder/dodder/model/lexical/XsBoundedInteger;"⟩ : MethodName) [Jvm.Cond.code (⟨"com/example/dodder/dodder/model/lexical/XsBoundedIntegerIncludesPinLaw", "pick", "(I)Lcom/example/dodder/dodder/model/lexical/XsBoundedInteger;"⟩ : MethodName) method_2_code 1 (some (.object "com/example/dodder/dodder/model/lexical/XsBoundedInteger"))] R0 #[(.int i)] (.ref ar)) (C2 : Pays l Z h0 n0 (⟨"com/example/dodder/dodder/model/lexical/XsBoundedIntegerIncludesPinLaw", "pick", "(I)Lcom/example/dodder/dodder/model/lexical/XsBoundedInteger;"⟩ : MethodName) [Jvm.Cond.code (⟨"com/example/dodder/dodder/model/lexical/XsBoundedIntegerIncludesPinLaw", "pick", "(I)Lcom/example/dodder/dodder/model/lexical/XsBoundedInteger;"⟩ : MethodName) method_2_code 1 (some (.object "com/example/dodder/dodder/model/lexical/XsBoundedInteger"))] R0 #[(.int j)] (.ref ao)) (C3 : Pays l Z h0 n0 (⟨"com/example/dodder/dodder/model/lexical/XsBoundedIntegerIncludesPinLaw", "row", "(I)I"⟩ : MethodName) [Jvm.Cond.code (⟨"com/example/dodder/dodder/model/lexical/XsBoundedIntegerIncludesPinLaw", "row", "(I)I"⟩ : MethodName) method_3_code 1 (some .int)] R0 #[(.int i)] (.int r)) (C4 : Pays l Z h0 n0 (⟨"com/example/dodder/dodder/model/lexical/XsBoundedInteger", "includes", "(Lcom/example/dodder/dodder/model/lexical/XsBoundedInteger;)Z"⟩ : MethodName) [Jvm.Cond.code (⟨"com/example/dodder/dodder/model/lexical/XsBoundedInteger", "includes", "(Lcom/example/dodder/dodder/model/lexical/XsBoundedInteger;)Z"⟩ : MethodName) prog_17_method_5_code 2 (some .boolean)] R0 #[(.ref ar), (.ref ao)] (.int (1 : Int32))) (hbit : ¬ (((r >>> (j &&& 31)) &&& (1 : Int32)) = (0 : Int32))) :
    Pays l Z h0 n0 x (Jvm.Cond.code x code maxLocals ret :: ws) room_1 #[(.int p1), (.int p2)] (.int (1 : Int32)) := by
  refine MetFree.of_bodySF (plainFor_of_name pn_XsBoundedIntegerIncludesPinLaw) hisR ?_
  intro p e s m args below meth c s₁ Bd hml0 hP hK
  obtain ⟨rfl, hZ, hh⟩ := hP
  have hx := Bd.exec
  have hby := Bd.bytes
  have hml : c.maxLocals = 7 := hml0
  have hown : s.vm.findClass "com/example/dodder/dodder/model/lexical/XsBoundedIntegerIncludesPinLaw" = some m.cls := findClass_of_methodNamed Bd.named
  have X0 : Stand p l e room_1 s m #[(.int p1), (.int p2)] below meth c s₁ [] 0 0 := Stand.of_body Bd
  have e0 : s₁.heap = h0 := by rw [← hh, Bd.state]; rfl
  have N0 := Fr.nil n0
  have pre0 : ∀ t, Steps p.tables e below (s₁.setTop (mkF m 0 #[.val (.int p1), .val (.int p2), .unset, .unset, .unset, .unset, .unset] [])) t → Steps p.tables e below (s₁.setTop (entryFrame m #[(.int p1), (.int p2)] maxLocals)) t := fun t k => castTop (ef_0 m p1 p2) k
  obtain ⟨_, _, ⟨T1, L1, k1, n1⟩, -, X1, ⟨Lc1, hQ1, l1, y1, z1⟩, st1⟩ := Jvm.LawKit.callS X0 hx (y := (⟨"com/example/dodder/dodder/model/lexical/XsBoundedIntegerIncludesPinLaw", "pick", "(I)Lcom/example/dodder/dodder/model/lexical/XsBoundedInteger;"⟩ : MethodName)) hown (mvT hZ (hw _ (List.mem_of_getElem? (i := 1) rfl))) (mvT hZ (hw _ (List.mem_of_getElem? (i := 2) rfl))) (mvT hZ (hw _ (List.mem_of_getElem? (i := 3) rfl))) (mvT hZ (hw _ (List.mem_of_getElem? (i := 4) rfl))) (by decide) (backOf (W := 0) (Q := PQ (.ref ar) h0 n0) C1 hZ (hw _ (List.mem_of_getElem? (i := 4) rfl)) (hw _ (List.mem_of_getElem? (i := 3) rfl)) (by decide) (by decide)) (g := (mkF m 17 #[.val (.int p1), .val (.int p2), .val (.int i), .val (.int j), .unset, .unset, .unset] [(.int i)])) rfl (by rw [hml]; rfl) (argsL := [(.int i)]) (rest := []) (lenOf pd__I_Lcom_example_dodder_dodder_model_lexical_XsBoundedInteger_ rfl) rfl (by show 2 * 0 + _ ≤ _; exact Nat.le_of_eq rfl) (hb hby at_17) (fun _ _ => ⟨rfl, e0, (by decide : 0 + 0 ≤ _), (by decide : 0 + 0 ≤ _)⟩)
  dsimp only [Pt.U, Pt.locs, Pt.cells, Pt.slots] at X1 l1 y1 z1 st1 hQ1
  subst l1 y1 z1
  obtain ⟨rfl, Nq1, e1⟩ := hQ1
  have N1 := Fr.app N0 Nq1
  obtain ⟨_, _, ⟨T2, L2, k2, n2⟩, -, X2, ⟨Lc2, hQ2, l2, y2, z2⟩, st2⟩ := Jvm.LawKit.callS X1 hx (y := (⟨"com/example/dodder/dodder/model/lexical/XsBoundedIntegerIncludesPinLaw", "pick", "(I)Lcom/example/dodder/dodder/model/lexical/XsBoundedInteger;"⟩ : MethodName)) hown (mvT hZ (hw _ (List.mem_of_getElem? (i := 1) rfl))) (mvT hZ (hw _ (List.mem_of_getElem? (i := 2) rfl))) (mvT hZ (hw _ (List.mem_of_getElem? (i := 3) rfl))) (mvT hZ (hw _ (List.mem_of_getElem? (i := 4) rfl))) (by decide) (backOf (W := 0) (Q := PQ (.ref ao) h0 n0) C2 hZ (hw _ (List.mem_of_getElem? (i := 4) rfl)) (hw _ (List.mem_of_getElem? (i := 3) rfl)) (by decide) (by decide)) (g := (mkF m 23 #[.val (.int p1), .val (.int p2), .val (.int i), .val (.int j), .val (.ref ar), .unset, .unset] [(.int j)])) rfl (by rw [hml]; rfl) (argsL := [(.int j)]) (rest := []) (lenOf pd__I_Lcom_example_dodder_dodder_model_lexical_XsBoundedInteger_ rfl) rfl (by show 2 * 0 + _ ≤ _; exact Nat.le_of_eq rfl) (hb hby at_23) (fun _ _ => ⟨rfl, e1, (by decide : 0 + 0 ≤ _), (by decide : 0 + 0 ≤ _)⟩)
  dsimp only [Pt.U, Pt.locs, Pt.cells, Pt.slots] at X2 l2 y2 z2 st2 hQ2
  subst l2 y2 z2
  obtain ⟨rfl, Nq2, e2⟩ := hQ2
  have N2 := Fr.app N1 Nq2
  obtain ⟨_, _, ⟨T3, L3, k3, n3⟩, -, X3, ⟨Lc3, hQ3, l3, y3, z3⟩, st3⟩ := Jvm.LawKit.callS X2 hx (y := (⟨"com/example/dodder/dodder/model/lexical/XsBoundedIntegerIncludesPinLaw", "row", "(I)I"⟩ : MethodName)) hown (mvT hZ (hw _ (List.mem_of_getElem? (i := 10) rfl))) (mvT hZ (hw _ (List.mem_of_getElem? (i := 11) rfl))) (mvT hZ (hw _ (List.mem_of_getElem? (i := 3) rfl))) (mvT hZ (hw _ (List.mem_of_getElem? (i := 12) rfl))) (by decide) (backOf (W := 0) (Q := PQ (.int r) h0 n0) C3 hZ (hw _ (List.mem_of_getElem? (i := 12) rfl)) (hw _ (List.mem_of_getElem? (i := 3) rfl)) (by decide) (by decide)) (g := (mkF m 29 #[.val (.int p1), .val (.int p2), .val (.int i), .val (.int j), .val (.ref ar), .val (.ref ao), .unset] [(.int i)])) rfl (by rw [hml]; rfl) (argsL := [(.int i)]) (rest := []) (lenOf pd__I_I rfl) rfl (by show 2 * 0 + _ ≤ _; exact Nat.le_of_eq rfl) (hb hby at_29) (fun _ _ => ⟨rfl, e2, (by decide : 0 + 0 ≤ _), (by decide : 0 + 0 ≤ _)⟩)
  dsimp only [Pt.U, Pt.locs, Pt.cells, Pt.slots] at X3 l3 y3 z3 st3 hQ3
  subst l3 y3 z3
  obtain ⟨rfl, Nq3, e3⟩ := hQ3
  have N3 := Fr.app N2 Nq3
  obtain ⟨cq4, kq4, q4a, q4b, q4c⟩ := isOf hZ e3 EX
  obtain ⟨_, _, ⟨T4, L4, k4, n4⟩, -, X4, ⟨Lc4, hQ4, l4, y4, z4⟩, st4⟩ := X3.virtualBack hx (y := (⟨"com/example/dodder/dodder/model/lexical/XsBoundedInteger", "includes", "(Lcom/example/dodder/dodder/model/lexical/XsBoundedInteger;)Z"⟩ : MethodName)) (z := (⟨"com/example/dodder/dodder/model/lexical/XsBoundedInteger", "includes", "(Lcom/example/dodder/dodder/model/lexical/XsBoundedInteger;)Z"⟩ : MethodName)) hown (mvT hZ (hw _ (List.mem_of_getElem? (i := 13) rfl))) (mvT hZ (hw _ (List.mem_of_getElem? (i := 14) rfl))) (notFace_of_selects (args := #[]) (mvT hZ (hw _ (List.mem_of_getElem? (i := 16) rfl)))) (mvT hZ (hw _ (List.mem_of_getElem? (i := 16) rfl))) (mvT hZ (hw _ (List.mem_of_getElem? (i := 15) rfl))) (by decide) (backOf (W := 0) (Q := PQ (.int (1 : Int32)) h0 n0) C4 hZ (hw _ (List.mem_of_getElem? (i := 17) rfl)) (hw _ (List.mem_of_getElem? (i := 6) rfl)) (by decide) (by decide)) q4a q4c (g := (mkF m 50 #[.val (.int p1), .val (.int p2), .val (.int i), .val (.int j), .val (.ref ar), .val (.ref ao), .val (.int (1 : Int32))] [(.ref ao), (.ref ar)])) rfl (by rw [hml]; rfl) (Steps.refl _) (argsL := [(.ref ao)]) (rest := []) (lenOf pd__Lcom_example_dodder_dodder_model_lexical_XsBoundedInteger__Z rfl) rfl (by show 2 * 0 + _ ≤ _; exact Nat.le_of_eq rfl) (hb hby at_50) (fun _ _ => ⟨rfl, e3, (by decide : 0 + 0 ≤ _), (by decide : 0 + 0 ≤ _)⟩)
  dsimp only [Pt.U, Pt.locs, Pt.cells, Pt.slots] at X4 l4 y4 z4 st4 hQ4
  subst l4 y4 z4
  obtain ⟨rfl, Nq4, e4⟩ := hQ4
  have N4 := Fr.app N3 Nq4
  obtain ⟨fs, hr, hrun, hended, hW, hsame⟩ := X4.leave (v := some (.int (1 : Int32))) (fun h => by rw [Bd.returns] at h; cases h)
  refine ⟨_, _, pre0 _ ?_, hrun, hended, _, _, rfl, ?_, ⟨_, rfl⟩, hW, hsame.mono (by decide) (by decide)⟩
  · show Steps p.tables e below (s₁.setTop (mkF m 0 #[.val (.int p1), .val (.int p2), .unset, .unset, .unset, .unset, .unset] [])) _
    refine XS.iloadN X0.here hx rfl (hb hby at_0) rfl ?_
    show Steps p.tables e below (s₁.setTop (mkF m 1 #[.val (.int p1), .val (.int p2), .unset, .unset, .unset, .unset, .unset] [(.int p1)])) _
    refine X0.ldcI hx hown (mvT hZ (hw _ (List.mem_of_getElem? (i := 0) rfl))) (g := (mkF m 1 #[.val (.int p1), .val (.int p2), .unset, .unset, .unset, .unset, .unset] [(.int p1)])) rfl (hb hby at_1) ?_
    show Steps p.tables e below (s₁.setTop (mkF m 3 #[.val (.int p1), .val (.int p2), .unset, .unset, .unset, .unset, .unset] [(.int (2147483647 : Int32)), (.int p1)])) _
    refine XS.iand X0.here hx rfl (hb hby at_3) rfl ?_
    show Steps p.tables e below (s₁.setTop (mkF m 4 #[.val (.int p1), .val (.int p2), .unset, .unset, .unset, .unset, .unset] [(.int (p1 &&& (2147483647 : Int32)))])) _
    refine XS.bipush X0.here hx rfl (hb hby at_4) ?_
    show Steps p.tables e below (s₁.setTop (mkF m 6 #[.val (.int p1), .val (.int p2), .unset, .unset, .unset, .unset, .unset] [(.int (7 : Int32)), (.int (p1 &&& (2147483647 : Int32)))])) _
    refine iremM (g := (mkF m 6 #[.val (.int p1), .val (.int p2), .unset, .unset, .unset, .unset, .unset] [(.int (7 : Int32)), (.int (p1 &&& (2147483647 : Int32)))])) X0 hx rfl (hb hby at_6) rfl (by decide) ?_
    show Steps p.tables e below (s₁.setTop (mkF m 7 #[.val (.int p1), .val (.int p2), .unset, .unset, .unset, .unset, .unset] [(.int ((p1 &&& (2147483647 : Int32)) % (7 : Int32)))])) _
    rw [hi]
    show Steps p.tables e below (s₁.setTop (mkF m 7 #[.val (.int p1), .val (.int p2), .unset, .unset, .unset, .unset, .unset] [(.int i)])) _
    refine XS.istoreN X0.here hx rfl (hb hby at_7) rfl (l' := #[.val (.int p1), .val (.int p2), .val (.int i), .unset, .unset, .unset, .unset]) rfl ?_
    show Steps p.tables e below (s₁.setTop (mkF m 8 #[.val (.int p1), .val (.int p2), .val (.int i), .unset, .unset, .unset, .unset] [])) _
    refine XS.iloadN X0.here hx rfl (hb hby at_8) rfl ?_
    show Steps p.tables e below (s₁.setTop (mkF m 9 #[.val (.int p1), .val (.int p2), .val (.int i), .unset, .unset, .unset, .unset] [(.int p2)])) _
    refine X0.ldcI hx hown (mvT hZ (hw _ (List.mem_of_getElem? (i := 0) rfl))) (g := (mkF m 9 #[.val (.int p1), .val (.int p2), .val (.int i), .unset, .unset, .unset, .unset] [(.int p2)])) rfl (hb hby at_9) ?_
    show Steps p.tables e below (s₁.setTop (mkF m 11 #[.val (.int p1), .val (.int p2), .val (.int i), .unset, .unset, .unset, .unset] [(.int (2147483647 : Int32)), (.int p2)])) _
    refine XS.iand X0.here hx rfl (hb hby at_11) rfl ?_
    show Steps p.tables e below (s₁.setTop (mkF m 12 #[.val (.int p1), .val (.int p2), .val (.int i), .unset, .unset, .unset, .unset] [(.int (p2 &&& (2147483647 : Int32)))])) _
    refine XS.bipush X0.here hx rfl (hb hby at_12) ?_
    show Steps p.tables e below (s₁.setTop (mkF m 14 #[.val (.int p1), .val (.int p2), .val (.int i), .unset, .unset, .unset, .unset] [(.int (7 : Int32)), (.int (p2 &&& (2147483647 : Int32)))])) _
    refine iremM (g := (mkF m 14 #[.val (.int p1), .val (.int p2), .val (.int i), .unset, .unset, .unset, .unset] [(.int (7 : Int32)), (.int (p2 &&& (2147483647 : Int32)))])) X0 hx rfl (hb hby at_14) rfl (by decide) ?_
    show Steps p.tables e below (s₁.setTop (mkF m 15 #[.val (.int p1), .val (.int p2), .val (.int i), .unset, .unset, .unset, .unset] [(.int ((p2 &&& (2147483647 : Int32)) % (7 : Int32)))])) _
    rw [hj]
    show Steps p.tables e below (s₁.setTop (mkF m 15 #[.val (.int p1), .val (.int p2), .val (.int i), .unset, .unset, .unset, .unset] [(.int j)])) _
    refine XS.istoreN X0.here hx rfl (hb hby at_15) rfl (l' := #[.val (.int p1), .val (.int p2), .val (.int i), .val (.int j), .unset, .unset, .unset]) rfl ?_
    show Steps p.tables e below (s₁.setTop (mkF m 16 #[.val (.int p1), .val (.int p2), .val (.int i), .val (.int j), .unset, .unset, .unset] [])) _
    refine XS.iloadN X0.here hx rfl (hb hby at_16) rfl ?_
    show Steps p.tables e below (s₁.setTop (mkF m 17 #[.val (.int p1), .val (.int p2), .val (.int i), .val (.int j), .unset, .unset, .unset] [(.int i)])) _
    refine st1 _ ?_
    show Steps p.tables e below (T1.setTop (mkF m 20 #[.val (.int p1), .val (.int p2), .val (.int i), .val (.int j), .unset, .unset, .unset] [(.ref ar)])) _
    refine XS.astore X1.here hx rfl (hb hby at_20) rfl rfl (l' := #[.val (.int p1), .val (.int p2), .val (.int i), .val (.int j), .val (.ref ar), .unset, .unset]) rfl ?_
    show Steps p.tables e below (T1.setTop (mkF m 22 #[.val (.int p1), .val (.int p2), .val (.int i), .val (.int j), .val (.ref ar), .unset, .unset] [])) _
    refine XS.iloadN X1.here hx rfl (hb hby at_22) rfl ?_
    show Steps p.tables e below (T1.setTop (mkF m 23 #[.val (.int p1), .val (.int p2), .val (.int i), .val (.int j), .val (.ref ar), .unset, .unset] [(.int j)])) _
    refine st2 _ ?_
    show Steps p.tables e below (T2.setTop (mkF m 26 #[.val (.int p1), .val (.int p2), .val (.int i), .val (.int j), .val (.ref ar), .unset, .unset] [(.ref ao)])) _
    refine XS.astore X2.here hx rfl (hb hby at_26) rfl rfl (l' := #[.val (.int p1), .val (.int p2), .val (.int i), .val (.int j), .val (.ref ar), .val (.ref ao), .unset]) rfl ?_
    show Steps p.tables e below (T2.setTop (mkF m 28 #[.val (.int p1), .val (.int p2), .val (.int i), .val (.int j), .val (.ref ar), .val (.ref ao), .unset] [])) _
    refine XS.iloadN X2.here hx rfl (hb hby at_28) rfl ?_
    show Steps p.tables e below (T2.setTop (mkF m 29 #[.val (.int p1), .val (.int p2), .val (.int i), .val (.int j), .val (.ref ar), .val (.ref ao), .unset] [(.int i)])) _
    refine st3 _ ?_
    show Steps p.tables e below (T3.setTop (mkF m 32 #[.val (.int p1), .val (.int p2), .val (.int i), .val (.int j), .val (.ref ar), .val (.ref ao), .unset] [(.int r)])) _
    refine XS.iloadN X3.here hx rfl (hb hby at_32) rfl ?_
    show Steps p.tables e below (T3.setTop (mkF m 33 #[.val (.int p1), .val (.int p2), .val (.int i), .val (.int j), .val (.ref ar), .val (.ref ao), .unset] [(.int j), (.int r)])) _
    refine XS.ishr X3.here hx rfl (hb hby at_33) rfl ?_
    show Steps p.tables e below (T3.setTop (mkF m 34 #[.val (.int p1), .val (.int p2), .val (.int i), .val (.int j), .val (.ref ar), .val (.ref ao), .unset] [(.int (r >>> (j &&& 31)))])) _
    refine XS.iconst X3.here hx rfl (hb hby at_34) ?_
    show Steps p.tables e below (T3.setTop (mkF m 35 #[.val (.int p1), .val (.int p2), .val (.int i), .val (.int j), .val (.ref ar), .val (.ref ao), .unset] [(.int (1 : Int32)), (.int (r >>> (j &&& 31)))])) _
    refine XS.iand X3.here hx rfl (hb hby at_35) rfl ?_
    show Steps p.tables e below (T3.setTop (mkF m 36 #[.val (.int p1), .val (.int p2), .val (.int i), .val (.int j), .val (.ref ar), .val (.ref ao), .unset] [(.int ((r >>> (j &&& 31)) &&& (1 : Int32)))])) _
    refine XS.ifNo X3.here hx rfl (hb hby at_36) rfl ((if0 _ _).trans (feq hbit).1) ?_
    show Steps p.tables e below (T3.setTop (mkF m 39 #[.val (.int p1), .val (.int p2), .val (.int i), .val (.int j), .val (.ref ar), .val (.ref ao), .unset] [])) _
    refine XS.iconst X3.here hx rfl (hb hby at_39) ?_
    show Steps p.tables e below (T3.setTop (mkF m 40 #[.val (.int p1), .val (.int p2), .val (.int i), .val (.int j), .val (.ref ar), .val (.ref ao), .unset] [(.int (1 : Int32))])) _
    refine XS.goto X3.here hx rfl (pc0 := 40) (pc' := 44) rfl (hb hby at_40) (by decide) (by decide) ?_
    show Steps p.tables e below (T3.setTop (mkF m 44 #[.val (.int p1), .val (.int p2), .val (.int i), .val (.int j), .val (.ref ar), .val (.ref ao), .unset] [(.int (1 : Int32))])) _
    refine XS.istore X3.here hx rfl (hb hby at_44) rfl (l' := #[.val (.int p1), .val (.int p2), .val (.int i), .val (.int j), .val (.ref ar), .val (.ref ao), .val (.int (1 : Int32))]) rfl ?_
    show Steps p.tables e below (T3.setTop (mkF m 46 #[.val (.int p1), .val (.int p2), .val (.int i), .val (.int j), .val (.ref ar), .val (.ref ao), .val (.int (1 : Int32))] [])) _
    refine XS.aload X3.here hx rfl (hb hby at_46) rfl rfl ?_
    show Steps p.tables e below (T3.setTop (mkF m 48 #[.val (.int p1), .val (.int p2), .val (.int i), .val (.int j), .val (.ref ar), .val (.ref ao), .val (.int (1 : Int32))] [(.ref ar)])) _
    refine XS.aload X3.here hx rfl (hb hby at_48) rfl rfl ?_
    show Steps p.tables e below (T3.setTop (mkF m 50 #[.val (.int p1), .val (.int p2), .val (.int i), .val (.int j), .val (.ref ar), .val (.ref ao), .val (.int (1 : Int32))] [(.ref ao), (.ref ar)])) _
    refine st4.trans ?_
    show Steps p.tables e below (T4.setTop (mkF m 53 #[.val (.int p1), .val (.int p2), .val (.int i), .val (.int j), .val (.ref ar), .val (.ref ao), .val (.int (1 : Int32))] [(.int (1 : Int32))])) _
    refine XS.iload X4.here hx rfl (hb hby at_53) rfl ?_
    show Steps p.tables e below (T4.setTop (mkF m 55 #[.val (.int p1), .val (.int p2), .val (.int i), .val (.int j), .val (.ref ar), .val (.ref ao), .val (.int (1 : Int32))] [(.int (1 : Int32)), (.int (1 : Int32))])) _
    refine XS.icmpNo X4.here hx rfl (hb hby at_55) rfl (by decide) ?_
    show Steps p.tables e below (T4.setTop (mkF m 58 #[.val (.int p1), .val (.int p2), .val (.int i), .val (.int j), .val (.ref ar), .val (.ref ao), .val (.int (1 : Int32))] [])) _
    refine XS.iconst X4.here hx rfl (hb hby at_58) ?_
    show Steps p.tables e below (T4.setTop (mkF m 59 #[.val (.int p1), .val (.int p2), .val (.int i), .val (.int j), .val (.ref ar), .val (.ref ao), .val (.int (1 : Int32))] [(.int (1 : Int32))])) _
    refine XS.goto X4.here hx rfl (pc0 := 59) (pc' := 63) rfl (hb hby at_59) (by decide) (by decide) ?_
    show Steps p.tables e below (T4.setTop (mkF m 63 #[.val (.int p1), .val (.int p2), .val (.int i), .val (.int j), .val (.ref ar), .val (.ref ao), .val (.int (1 : Int32))] [(.int (1 : Int32))])) _
    exact retN X4 hx (t := .boolean) Bd.returns (by simp) (hb hby at_63) hr
  · show PQ (.int (1 : Int32)) h0 n0 _ T4.heap _
    exact ⟨rfl, N4, e4⟩

set_option maxRecDepth 65536 in
set_option maxHeartbeats 40000000 in
theorem comes_1 {Post : Tables → Env → Array Value → State → Outcome → State → Prop} (hpost : ∀ tb e args s v u, (limb_1_1.after args s (.returned v) u = true ∧ limb_1_2.after args s (.returned v) u = true ∧ True) → FrameEnd s (.returned v) u (Jvm.fieldLocs frame_1_writes args s ++ Jvm.arrayLocs frame_1_arrays args s ++ Jvm.staticLocs frame_1_statics s) 0 0 → Post tb e args s (.returned v) u) :
    ArmFor flags0 classFile x code maxLocals ret World_1 tables_1 room_1 Calls_1 rest_1 Pre_1 Post := by
  intro l hfl _ _ p e ha hc hk s m args below hf hA hF happ hP
  obtain ⟨hcalls, hrest, hpre⟩ := hP
  obtain ⟨-, -, -, hnamed, -, -, -, hat⟩ := (Spec.applies_iff hf).mp happ
  obtain ⟨hg, hn⟩ := and_e (Cond.before_iff.mp (show (Jvm.Cond.and given_1 narrow_1).before args s = true from hpre))
  obtain ⟨hg_2, hg_3⟩ := and_e hg
  obtain ⟨hg_4, hg_5⟩ := and_e hg_3
  obtain ⟨w0, w1, rfl⟩ : ∃ w0 w1 : Value, args = #[w0, w1] := by
    have hs : args.size = 2 := by simpa [Cond.value, given_1] using hg_2
    obtain ⟨L⟩ := args
    match L, hs with
    | [w0, w1], _ => exact ⟨w0, w1, rfl⟩
  have hw := fun d (hd : d ∈ tables_1) => atoms_spec (ws := Jvm.Cond.code x code maxLocals ret :: tables_1) hat d (List.mem_cons_of_mem _ hd)
  obtain ⟨i0, ei0⟩ := is_v hg_4
  obtain rfl : w0 = (.int i0) := Option.some.inj ei0
  obtain ⟨i1, ei1⟩ := is_v hg_5
  obtain rfl : w1 = (.int i1) := Option.some.inj ei1
  obtain ⟨hn_2, hn_3⟩ := and_e hn
  obtain ⟨hn_4, hn_5⟩ := and_e hn_3
  obtain ⟨hn_6, hn_7⟩ := and_e hn_5
  obtain ⟨hn_8, hn_9⟩ := and_e hn_7
  obtain ⟨hn_10, hn_11⟩ := and_e hn_9
  obtain ⟨hn_12, hn_13⟩ := and_e hn_11
  obtain ⟨hn_14, hn_15⟩ := and_e hn_13
  obtain ⟨hn_16, hn_17⟩ := and_e hn_15
  obtain ⟨hn_18, hn_19⟩ := and_e hn_17
  obtain ⟨hn_20, hn_21⟩ := and_e hn_19
  obtain ⟨hn_22, hn_23⟩ := and_e hn_21
  obtain ⟨hn_24, hn_25⟩ := and_e hn_23
  obtain ⟨hn_26, hn_27⟩ := and_e hn_25
  obtain ⟨hn_28, hn_29⟩ := and_e hn_27
  obtain ⟨hn_30, hn_31⟩ := and_e hn_29
  obtain ⟨hn_32, hn_33⟩ := and_e hn_31
  obtain ⟨hn_34, hn_35⟩ := and_e hn_33
  obtain ⟨hn_36, hn_37⟩ := and_e hn_35
  obtain ⟨hn_38, hn_39⟩ := and_e hn_37
  obtain ⟨hn_40, hn_41⟩ := and_e hn_39
  obtain ⟨a_LONG, ev_LONG⟩ := exa_v hn_2
  have E_LONG := Exa.start ev_LONG hn_2
  have S_LONG := Sta.start ev_LONG (Or.inr ⟨(hw _ (List.mem_of_getElem? (i := 6) rfl)), (hw _ (List.mem_of_getElem? (i := 7) rfl))⟩)
  obtain ⟨a_BYTE, ev_BYTE⟩ := exa_v hn_4
  have E_BYTE := Exa.start ev_BYTE hn_4
  have S_BYTE := Sta.start ev_BYTE (Or.inr ⟨(hw _ (List.mem_of_getElem? (i := 6) rfl)), (hw _ (List.mem_of_getElem? (i := 9) rfl))⟩)
  obtain ⟨a_INT, ev_INT⟩ := exa_v hn_14
  have E_INT := Exa.start ev_INT hn_14
  have S_INT := Sta.start ev_INT (Or.inr ⟨(hw _ (List.mem_of_getElem? (i := 6) rfl)), (hw _ (List.mem_of_getElem? (i := 23) rfl))⟩)
  obtain ⟨a_UNSIGNED_SHORT, ev_UNSIGNED_SHORT⟩ := exa_v hn_20
  have E_UNSIGNED_SHORT := Exa.start ev_UNSIGNED_SHORT hn_20
  have S_UNSIGNED_SHORT := Sta.start ev_UNSIGNED_SHORT (Or.inr ⟨(hw _ (List.mem_of_getElem? (i := 6) rfl)), (hw _ (List.mem_of_getElem? (i := 25) rfl))⟩)
  obtain ⟨a_SHORT, ev_SHORT⟩ := exa_v hn_26
  have E_SHORT := Exa.start ev_SHORT hn_26
  have S_SHORT := Sta.start ev_SHORT (Or.inr ⟨(hw _ (List.mem_of_getElem? (i := 6) rfl)), (hw _ (List.mem_of_getElem? (i := 27) rfl))⟩)
  obtain ⟨a_UNSIGNED_INT, ev_UNSIGNED_INT⟩ := exa_v hn_32
  have E_UNSIGNED_INT := Exa.start ev_UNSIGNED_INT hn_32
  have S_UNSIGNED_INT := Sta.start ev_UNSIGNED_INT (Or.inr ⟨(hw _ (List.mem_of_getElem? (i := 6) rfl)), (hw _ (List.mem_of_getElem? (i := 29) rfl))⟩)
  obtain ⟨a_UNSIGNED_BYTE, ev_UNSIGNED_BYTE⟩ := exa_v hn_36
  have E_UNSIGNED_BYTE := Exa.start ev_UNSIGNED_BYTE hn_36
  have S_UNSIGNED_BYTE := Sta.start ev_UNSIGNED_BYTE (Or.inr ⟨(hw _ (List.mem_of_getElem? (i := 6) rfl)), (hw _ (List.mem_of_getElem? (i := 31) rfl))⟩)
  have F_BYTE_min := Fld.start ((fld_at ev_BYTE).symm.trans (own_eql hn_6))
  have F_LONG_min := Fld.start ((fld_at ev_LONG).symm.trans (own_eql hn_8))
  have F_BYTE_max := Fld.start ((fld_at ev_BYTE).symm.trans (own_eql hn_10))
  have F_LONG_max := Fld.start ((fld_at ev_LONG).symm.trans (own_eql hn_12))
  have F_INT_min := Fld.start ((fld_at ev_INT).symm.trans (own_eql hn_16))
  have F_INT_max := Fld.start ((fld_at ev_INT).symm.trans (own_eql hn_18))
  have F_UNSIGNED_SHORT_min := Fld.start ((fld_at ev_UNSIGNED_SHORT).symm.trans (own_eql hn_22))
  have F_UNSIGNED_SHORT_max := Fld.start ((fld_at ev_UNSIGNED_SHORT).symm.trans (own_eql hn_24))
  have F_SHORT_min := Fld.start ((fld_at ev_SHORT).symm.trans (own_eql hn_28))
  have F_SHORT_max := Fld.start ((fld_at ev_SHORT).symm.trans (own_eql hn_30))
  have F_UNSIGNED_INT_min := Fld.start ((fld_at ev_UNSIGNED_INT).symm.trans (own_eql hn_34))
  have F_UNSIGNED_BYTE_min := Fld.start ((fld_at ev_UNSIGNED_BYTE).symm.trans (own_eql hn_38))
  have F_UNSIGNED_BYTE_max := Fld.start ((fld_at ev_UNSIGNED_BYTE).symm.trans (own_eql hn_40))
  have F_UNSIGNED_INT_max := Fld.start ((fld_at ev_UNSIGNED_INT).symm.trans (own_eql hn_41))
  have H : Pays l s s.heap s.heap.size x (Jvm.Cond.code x code maxLocals ret :: tables_1) room_1 #[(.int i0), (.int i1)] (.int (1 : Int32)) := by
    rcases own_mod i0 with hi | hi | hi | hi | hi | hi | hi <;> rcases own_mod i1 with hj | hj | hj | hj | hj | hj | hj
    · exact law_1 l s _ hw tables_1 i0 i1 0 0 127 a_LONG a_LONG s.heap s.heap.size (Nat.le_refl _) hi hj E_LONG (pick_0 l s _ hw a_LONG s.heap s.heap.size (Nat.le_refl _) S_LONG) (pick_0 l s _ hw a_LONG s.heap s.heap.size (Nat.le_refl _) S_LONG) (row_0 l s _ hw s.heap s.heap.size (Nat.le_refl _)) (inc_in l s _ hw a_LONG a_LONG (-9223372036854775808) (9223372036854775807) (-9223372036854775808) (9223372036854775807) s.heap s.heap.size (Nat.le_refl _) F_LONG_min F_LONG_max F_LONG_min F_LONG_max (by decide +kernel) (by decide +kernel)) (by decide +kernel)
    · exact law_1 l s _ hw tables_1 i0 i1 0 1 127 a_LONG a_INT s.heap s.heap.size (Nat.le_refl _) hi hj E_LONG (pick_0 l s _ hw a_LONG s.heap s.heap.size (Nat.le_refl _) S_LONG) (pick_1 l s _ hw a_INT s.heap s.heap.size (Nat.le_refl _) S_INT) (row_0 l s _ hw s.heap s.heap.size (Nat.le_refl _)) (inc_in l s _ hw a_LONG a_INT (-9223372036854775808) (9223372036854775807) (-2147483648) (2147483647) s.heap s.heap.size (Nat.le_refl _) F_LONG_min F_LONG_max F_INT_min F_INT_max (by decide +kernel) (by decide +kernel)) (by decide +kernel)
    · exact law_1 l s _ hw tables_1 i0 i1 0 2 127 a_LONG a_SHORT s.heap s.heap.size (Nat.le_refl _) hi hj E_LONG (pick_0 l s _ hw a_LONG s.heap s.heap.size (Nat.le_refl _) S_LONG) (pick_2 l s _ hw a_SHORT s.heap s.heap.size (Nat.le_refl _) S_SHORT) (row_0 l s _ hw s.heap s.heap.size (Nat.le_refl _)) (inc_in l s _ hw a_LONG a_SHORT (-9223372036854775808) (9223372036854775807) (-32768) (32767) s.heap s.heap.size (Nat.le_refl _) F_LONG_min F_LONG_max F_SHORT_min F_SHORT_max (by decide +kernel) (by decide +kernel)) (by decide +kernel)
    · exact law_1 l s _ hw tables_1 i0 i1 0 3 127 a_LONG a_BYTE s.heap s.heap.size (Nat.le_refl _) hi hj E_LONG (pick_0 l s _ hw a_LONG s.heap s.heap.size (Nat.le_refl _) S_LONG) (pick_3 l s _ hw a_BYTE s.heap s.heap.size (Nat.le_refl _) S_BYTE) (row_0 l s _ hw s.heap s.heap.size (Nat.le_refl _)) (inc_in l s _ hw a_LONG a_BYTE (-9223372036854775808) (9223372036854775807) (-128) (127) s.heap s.heap.size (Nat.le_refl _) F_LONG_min F_LONG_max F_BYTE_min F_BYTE_max (by decide +kernel) (by decide +kernel)) (by decide +kernel)
    · exact law_1 l s _ hw tables_1 i0 i1 0 4 127 a_LONG a_UNSIGNED_INT s.heap s.heap.size (Nat.le_refl _) hi hj E_LONG (pick_0 l s _ hw a_LONG s.heap s.heap.size (Nat.le_refl _) S_LONG) (pick_4 l s _ hw a_UNSIGNED_INT s.heap s.heap.size (Nat.le_refl _) S_UNSIGNED_INT) (row_0 l s _ hw s.heap s.heap.size (Nat.le_refl _)) (inc_in l s _ hw a_LONG a_UNSIGNED_INT (-9223372036854775808) (9223372036854775807) (0) (4294967295) s.heap s.heap.size (Nat.le_refl _) F_LONG_min F_LONG_max F_UNSIGNED_INT_min F_UNSIGNED_INT_max (by decide +kernel) (by decide +kernel)) (by decide +kernel)
    · exact law_1 l s _ hw tables_1 i0 i1 0 5 127 a_LONG a_UNSIGNED_SHORT s.heap s.heap.size (Nat.le_refl _) hi hj E_LONG (pick_0 l s _ hw a_LONG s.heap s.heap.size (Nat.le_refl _) S_LONG) (pick_5 l s _ hw a_UNSIGNED_SHORT s.heap s.heap.size (Nat.le_refl _) S_UNSIGNED_SHORT) (row_0 l s _ hw s.heap s.heap.size (Nat.le_refl _)) (inc_in l s _ hw a_LONG a_UNSIGNED_SHORT (-9223372036854775808) (9223372036854775807) (0) (65535) s.heap s.heap.size (Nat.le_refl _) F_LONG_min F_LONG_max F_UNSIGNED_SHORT_min F_UNSIGNED_SHORT_max (by decide +kernel) (by decide +kernel)) (by decide +kernel)
    · exact law_1 l s _ hw tables_1 i0 i1 0 6 127 a_LONG a_UNSIGNED_BYTE s.heap s.heap.size (Nat.le_refl _) hi hj E_LONG (pick_0 l s _ hw a_LONG s.heap s.heap.size (Nat.le_refl _) S_LONG) (pick_6 l s _ hw a_UNSIGNED_BYTE s.heap s.heap.size (Nat.le_refl _) S_UNSIGNED_BYTE) (row_0 l s _ hw s.heap s.heap.size (Nat.le_refl _)) (inc_in l s _ hw a_LONG a_UNSIGNED_BYTE (-9223372036854775808) (9223372036854775807) (0) (255) s.heap s.heap.size (Nat.le_refl _) F_LONG_min F_LONG_max F_UNSIGNED_BYTE_min F_UNSIGNED_BYTE_max (by decide +kernel) (by decide +kernel)) (by decide +kernel)
    · exact law_0 l s _ hw tables_1 i0 i1 1 0 110 a_INT a_LONG s.heap s.heap.size (Nat.le_refl _) hi hj E_INT (pick_1 l s _ hw a_INT s.heap s.heap.size (Nat.le_refl _) S_INT) (pick_0 l s _ hw a_LONG s.heap s.heap.size (Nat.le_refl _) S_LONG) (row_1 l s _ hw s.heap s.heap.size (Nat.le_refl _)) (inc_lo l s _ hw a_INT a_LONG (-2147483648) (2147483647) (-9223372036854775808) (9223372036854775807) s.heap s.heap.size (Nat.le_refl _) F_INT_min F_INT_max F_LONG_min F_LONG_max (by decide +kernel)) (by decide +kernel)
    · exact law_1 l s _ hw tables_1 i0 i1 1 1 110 a_INT a_INT s.heap s.heap.size (Nat.le_refl _) hi hj E_INT (pick_1 l s _ hw a_INT s.heap s.heap.size (Nat.le_refl _) S_INT) (pick_1 l s _ hw a_INT s.heap s.heap.size (Nat.le_refl _) S_INT) (row_1 l s _ hw s.heap s.heap.size (Nat.le_refl _)) (inc_in l s _ hw a_INT a_INT (-2147483648) (2147483647) (-2147483648) (2147483647) s.heap s.heap.size (Nat.le_refl _) F_INT_min F_INT_max F_INT_min F_INT_max (by decide +kernel) (by decide +kernel)) (by decide +kernel)
    · exact law_1 l s _ hw tables_1 i0 i1 1 2 110 a_INT a_SHORT s.heap s.heap.size (Nat.le_refl _) hi hj E_INT (pick_1 l s _ hw a_INT s.heap s.heap.size (Nat.le_refl _) S_INT) (pick_2 l s _ hw a_SHORT s.heap s.heap.size (Nat.le_refl _) S_SHORT) (row_1 l s _ hw s.heap s.heap.size (Nat.le_refl _)) (inc_in l s _ hw a_INT a_SHORT (-2147483648) (2147483647) (-32768) (32767) s.heap s.heap.size (Nat.le_refl _) F_INT_min F_INT_max F_SHORT_min F_SHORT_max (by decide +kernel) (by decide +kernel)) (by decide +kernel)
    · exact law_1 l s _ hw tables_1 i0 i1 1 3 110 a_INT a_BYTE s.heap s.heap.size (Nat.le_refl _) hi hj E_INT (pick_1 l s _ hw a_INT s.heap s.heap.size (Nat.le_refl _) S_INT) (pick_3 l s _ hw a_BYTE s.heap s.heap.size (Nat.le_refl _) S_BYTE) (row_1 l s _ hw s.heap s.heap.size (Nat.le_refl _)) (inc_in l s _ hw a_INT a_BYTE (-2147483648) (2147483647) (-128) (127) s.heap s.heap.size (Nat.le_refl _) F_INT_min F_INT_max F_BYTE_min F_BYTE_max (by decide +kernel) (by decide +kernel)) (by decide +kernel)
    · exact law_0 l s _ hw tables_1 i0 i1 1 4 110 a_INT a_UNSIGNED_INT s.heap s.heap.size (Nat.le_refl _) hi hj E_INT (pick_1 l s _ hw a_INT s.heap s.heap.size (Nat.le_refl _) S_INT) (pick_4 l s _ hw a_UNSIGNED_INT s.heap s.heap.size (Nat.le_refl _) S_UNSIGNED_INT) (row_1 l s _ hw s.heap s.heap.size (Nat.le_refl _)) (inc_hi l s _ hw a_INT a_UNSIGNED_INT (-2147483648) (2147483647) (0) (4294967295) s.heap s.heap.size (Nat.le_refl _) F_INT_min F_INT_max F_UNSIGNED_INT_min F_UNSIGNED_INT_max (by decide +kernel) (by decide +kernel)) (by decide +kernel)
    · exact law_1 l s _ hw tables_1 i0 i1 1 5 110 a_INT a_UNSIGNED_SHORT s.heap s.heap.size (Nat.le_refl _) hi hj E_INT (pick_1 l s _ hw a_INT s.heap s.heap.size (Nat.le_refl _) S_INT) (pick_5 l s _ hw a_UNSIGNED_SHORT s.heap s.heap.size (Nat.le_refl _) S_UNSIGNED_SHORT) (row_1 l s _ hw s.heap s.heap.size (Nat.le_refl _)) (inc_in l s _ hw a_INT a_UNSIGNED_SHORT (-2147483648) (2147483647) (0) (65535) s.heap s.heap.size (Nat.le_refl _) F_INT_min F_INT_max F_UNSIGNED_SHORT_min F_UNSIGNED_SHORT_max (by decide +kernel) (by decide +kernel)) (by decide +kernel)
    · exact law_1 l s _ hw tables_1 i0 i1 1 6 110 a_INT a_UNSIGNED_BYTE s.heap s.heap.size (Nat.le_refl _) hi hj E_INT (pick_1 l s _ hw a_INT s.heap s.heap.size (Nat.le_refl _) S_INT) (pick_6 l s _ hw a_UNSIGNED_BYTE s.heap s.heap.size (Nat.le_refl _) S_UNSIGNED_BYTE) (row_1 l s _ hw s.heap s.heap.size (Nat.le_refl _)) (inc_in l s _ hw a_INT a_UNSIGNED_BYTE (-2147483648) (2147483647) (0) (255) s.heap s.heap.size (Nat.le_refl _) F_INT_min F_INT_max F_UNSIGNED_BYTE_min F_UNSIGNED_BYTE_max (by decide +kernel) (by decide +kernel)) (by decide +kernel)
    · exact law_0 l s _ hw tables_1 i0 i1 2 0 76 a_SHORT a_LONG s.heap s.heap.size (Nat.le_refl _) hi hj E_SHORT (pick_2 l s _ hw a_SHORT s.heap s.heap.size (Nat.le_refl _) S_SHORT) (pick_0 l s _ hw a_LONG s.heap s.heap.size (Nat.le_refl _) S_LONG) (row_2 l s _ hw s.heap s.heap.size (Nat.le_refl _)) (inc_lo l s _ hw a_SHORT a_LONG (-32768) (32767) (-9223372036854775808) (9223372036854775807) s.heap s.heap.size (Nat.le_refl _) F_SHORT_min F_SHORT_max F_LONG_min F_LONG_max (by decide +kernel)) (by decide +kernel)
    · exact law_0 l s _ hw tables_1 i0 i1 2 1 76 a_SHORT a_INT s.heap s.heap.size (Nat.le_refl _) hi hj E_SHORT (pick_2 l s _ hw a_SHORT s.heap s.heap.size (Nat.le_refl _) S_SHORT) (pick_1 l s _ hw a_INT s.heap s.heap.size (Nat.le_refl _) S_INT) (row_2 l s _ hw s.heap s.heap.size (Nat.le_refl _)) (inc_lo l s _ hw a_SHORT a_INT (-32768) (32767) (-2147483648) (2147483647) s.heap s.heap.size (Nat.le_refl _) F_SHORT_min F_SHORT_max F_INT_min F_INT_max (by decide +kernel)) (by decide +kernel)
    · exact law_1 l s _ hw tables_1 i0 i1 2 2 76 a_SHORT a_SHORT s.heap s.heap.size (Nat.le_refl _) hi hj E_SHORT (pick_2 l s _ hw a_SHORT s.heap s.heap.size (Nat.le_refl _) S_SHORT) (pick_2 l s _ hw a_SHORT s.heap s.heap.size (Nat.le_refl _) S_SHORT) (row_2 l s _ hw s.heap s.heap.size (Nat.le_refl _)) (inc_in l s _ hw a_SHORT a_SHORT (-32768) (32767) (-32768) (32767) s.heap s.heap.size (Nat.le_refl _) F_SHORT_min F_SHORT_max F_SHORT_min F_SHORT_max (by decide +kernel) (by decide +kernel)) (by decide +kernel)
    · exact law_1 l s _ hw tables_1 i0 i1 2 3 76 a_SHORT a_BYTE s.heap s.heap.size (Nat.le_refl _) hi hj E_SHORT (pick_2 l s _ hw a_SHORT s.heap s.heap.size (Nat.le_refl _) S_SHORT) (pick_3 l s _ hw a_BYTE s.heap s.heap.size (Nat.le_refl _) S_BYTE) (row_2 l s _ hw s.heap s.heap.size (Nat.le_refl _)) (inc_in l s _ hw a_SHORT a_BYTE (-32768) (32767) (-128) (127) s.heap s.heap.size (Nat.le_refl _) F_SHORT_min F_SHORT_max F_BYTE_min F_BYTE_max (by decide +kernel) (by decide +kernel)) (by decide +kernel)
    · exact law_0 l s _ hw tables_1 i0 i1 2 4 76 a_SHORT a_UNSIGNED_INT s.heap s.heap.size (Nat.le_refl _) hi hj E_SHORT (pick_2 l s _ hw a_SHORT s.heap s.heap.size (Nat.le_refl _) S_SHORT) (pick_4 l s _ hw a_UNSIGNED_INT s.heap s.heap.size (Nat.le_refl _) S_UNSIGNED_INT) (row_2 l s _ hw s.heap s.heap.size (Nat.le_refl _)) (inc_hi l s _ hw a_SHORT a_UNSIGNED_INT (-32768) (32767) (0) (4294967295) s.heap s.heap.size (Nat.le_refl _) F_SHORT_min F_SHORT_max F_UNSIGNED_INT_min F_UNSIGNED_INT_max (by decide +kernel) (by decide +kernel)) (by decide +kernel)
    · exact law_0 l s _ hw tables_1 i0 i1 2 5 76 a_SHORT a_UNSIGNED_SHORT s.heap s.heap.size (Nat.le_refl _) hi hj E_SHORT (pick_2 l s _ hw a_SHORT s.heap s.heap.size (Nat.le_refl _) S_SHORT) (pick_5 l s _ hw a_UNSIGNED_SHORT s.heap s.heap.size (Nat.le_refl _) S_UNSIGNED_SHORT) (row_2 l s _ hw s.heap s.heap.size (Nat.le_refl _)) (inc_hi l s _ hw a_SHORT a_UNSIGNED_SHORT (-32768) (32767) (0) (65535) s.heap s.heap.size (Nat.le_refl _) F_SHORT_min F_SHORT_max F_UNSIGNED_SHORT_min F_UNSIGNED_SHORT_max (by decide +kernel) (by decide +kernel)) (by decide +kernel)
    · exact law_1 l s _ hw tables_1 i0 i1 2 6 76 a_SHORT a_UNSIGNED_BYTE s.heap s.heap.size (Nat.le_refl _) hi hj E_SHORT (pick_2 l s _ hw a_SHORT s.heap s.heap.size (Nat.le_refl _) S_SHORT) (pick_6 l s _ hw a_UNSIGNED_BYTE s.heap s.heap.size (Nat.le_refl _) S_UNSIGNED_BYTE) (row_2 l s _ hw s.heap s.heap.size (Nat.le_refl _)) (inc_in l s _ hw a_SHORT a_UNSIGNED_BYTE (-32768) (32767) (0) (255) s.heap s.heap.size (Nat.le_refl _) F_SHORT_min F_SHORT_max F_UNSIGNED_BYTE_min F_UNSIGNED_BYTE_max (by decide +kernel) (by decide +kernel)) (by decide +kernel)
    · exact law_0 l s _ hw tables_1 i0 i1 3 0 8 a_BYTE a_LONG s.heap s.heap.size (Nat.le_refl _) hi hj E_BYTE (pick_3 l s _ hw a_BYTE s.heap s.heap.size (Nat.le_refl _) S_BYTE) (pick_0 l s _ hw a_LONG s.heap s.heap.size (Nat.le_refl _) S_LONG) (row_3 l s _ hw s.heap s.heap.size (Nat.le_refl _)) (inc_lo l s _ hw a_BYTE a_LONG (-128) (127) (-9223372036854775808) (9223372036854775807) s.heap s.heap.size (Nat.le_refl _) F_BYTE_min F_BYTE_max F_LONG_min F_LONG_max (by decide +kernel)) (by decide +kernel)
    · exact law_0 l s _ hw tables_1 i0 i1 3 1 8 a_BYTE a_INT s.heap s.heap.size (Nat.le_refl _) hi hj E_BYTE (pick_3 l s _ hw a_BYTE s.heap s.heap.size (Nat.le_refl _) S_BYTE) (pick_1 l s _ hw a_INT s.heap s.heap.size (Nat.le_refl _) S_INT) (row_3 l s _ hw s.heap s.heap.size (Nat.le_refl _)) (inc_lo l s _ hw a_BYTE a_INT (-128) (127) (-2147483648) (2147483647) s.heap s.heap.size (Nat.le_refl _) F_BYTE_min F_BYTE_max F_INT_min F_INT_max (by decide +kernel)) (by decide +kernel)
    · exact law_0 l s _ hw tables_1 i0 i1 3 2 8 a_BYTE a_SHORT s.heap s.heap.size (Nat.le_refl _) hi hj E_BYTE (pick_3 l s _ hw a_BYTE s.heap s.heap.size (Nat.le_refl _) S_BYTE) (pick_2 l s _ hw a_SHORT s.heap s.heap.size (Nat.le_refl _) S_SHORT) (row_3 l s _ hw s.heap s.heap.size (Nat.le_refl _)) (inc_lo l s _ hw a_BYTE a_SHORT (-128) (127) (-32768) (32767) s.heap s.heap.size (Nat.le_refl _) F_BYTE_min F_BYTE_max F_SHORT_min F_SHORT_max (by decide +kernel)) (by decide +kernel)
    · exact law_1 l s _ hw tables_1 i0 i1 3 3 8 a_BYTE a_BYTE s.heap s.heap.size (Nat.le_refl _) hi hj E_BYTE (pick_3 l s _ hw a_BYTE s.heap s.heap.size (Nat.le_refl _) S_BYTE) (pick_3 l s _ hw a_BYTE s.heap s.heap.size (Nat.le_refl _) S_BYTE) (row_3 l s _ hw s.heap s.heap.size (Nat.le_refl _)) (inc_in l s _ hw a_BYTE a_BYTE (-128) (127) (-128) (127) s.heap s.heap.size (Nat.le_refl _) F_BYTE_min F_BYTE_max F_BYTE_min F_BYTE_max (by decide +kernel) (by decide +kernel)) (by decide +kernel)
    · exact law_0 l s _ hw tables_1 i0 i1 3 4 8 a_BYTE a_UNSIGNED_INT s.heap s.heap.size (Nat.le_refl _) hi hj E_BYTE (pick_3 l s _ hw a_BYTE s.heap s.heap.size (Nat.le_refl _) S_BYTE) (pick_4 l s _ hw a_UNSIGNED_INT s.heap s.heap.size (Nat.le_refl _) S_UNSIGNED_INT) (row_3 l s _ hw s.heap s.heap.size (Nat.le_refl _)) (inc_hi l s _ hw a_BYTE a_UNSIGNED_INT (-128) (127) (0) (4294967295) s.heap s.heap.size (Nat.le_refl _) F_BYTE_min F_BYTE_max F_UNSIGNED_INT_min F_UNSIGNED_INT_max (by decide +kernel) (by decide +kernel)) (by decide +kernel)
    · exact law_0 l s _ hw tables_1 i0 i1 3 5 8 a_BYTE a_UNSIGNED_SHORT s.heap s.heap.size (Nat.le_refl _) hi hj E_BYTE (pick_3 l s _ hw a_BYTE s.heap s.heap.size (Nat.le_refl _) S_BYTE) (pick_5 l s _ hw a_UNSIGNED_SHORT s.heap s.heap.size (Nat.le_refl _) S_UNSIGNED_SHORT) (row_3 l s _ hw s.heap s.heap.size (Nat.le_refl _)) (inc_hi l s _ hw a_BYTE a_UNSIGNED_SHORT (-128) (127) (0) (65535) s.heap s.heap.size (Nat.le_refl _) F_BYTE_min F_BYTE_max F_UNSIGNED_SHORT_min F_UNSIGNED_SHORT_max (by decide +kernel) (by decide +kernel)) (by decide +kernel)
    · exact law_0 l s _ hw tables_1 i0 i1 3 6 8 a_BYTE a_UNSIGNED_BYTE s.heap s.heap.size (Nat.le_refl _) hi hj E_BYTE (pick_3 l s _ hw a_BYTE s.heap s.heap.size (Nat.le_refl _) S_BYTE) (pick_6 l s _ hw a_UNSIGNED_BYTE s.heap s.heap.size (Nat.le_refl _) S_UNSIGNED_BYTE) (row_3 l s _ hw s.heap s.heap.size (Nat.le_refl _)) (inc_hi l s _ hw a_BYTE a_UNSIGNED_BYTE (-128) (127) (0) (255) s.heap s.heap.size (Nat.le_refl _) F_BYTE_min F_BYTE_max F_UNSIGNED_BYTE_min F_UNSIGNED_BYTE_max (by decide +kernel) (by decide +kernel)) (by decide +kernel)
    · exact law_0 l s _ hw tables_1 i0 i1 4 0 112 a_UNSIGNED_INT a_LONG s.heap s.heap.size (Nat.le_refl _) hi hj E_UNSIGNED_INT (pick_4 l s _ hw a_UNSIGNED_INT s.heap s.heap.size (Nat.le_refl _) S_UNSIGNED_INT) (pick_0 l s _ hw a_LONG s.heap s.heap.size (Nat.le_refl _) S_LONG) (row_4 l s _ hw s.heap s.heap.size (Nat.le_refl _)) (inc_lo l s _ hw a_UNSIGNED_INT a_LONG (0) (4294967295) (-9223372036854775808) (9223372036854775807) s.heap s.heap.size (Nat.le_refl _) F_UNSIGNED_INT_min F_UNSIGNED_INT_max F_LONG_min F_LONG_max (by decide +kernel)) (by decide +kernel)
    · exact law_0 l s _ hw tables_1 i0 i1 4 1 112 a_UNSIGNED_INT a_INT s.heap s.heap.size (Nat.le_refl _) hi hj E_UNSIGNED_INT (pick_4 l s _ hw a_UNSIGNED_INT s.heap s.heap.size (Nat.le_refl _) S_UNSIGNED_INT) (pick_1 l s _ hw a_INT s.heap s.heap.size (Nat.le_refl _) S_INT) (row_4 l s _ hw s.heap s.heap.size (Nat.le_refl _)) (inc_lo l s _ hw a_UNSIGNED_INT a_INT (0) (4294967295) (-2147483648) (2147483647) s.heap s.heap.size (Nat.le_refl _) F_UNSIGNED_INT_min F_UNSIGNED_INT_max F_INT_min F_INT_max (by decide +kernel)) (by decide +kernel)
    · exact law_0 l s _ hw tables_1 i0 i1 4 2 112 a_UNSIGNED_INT a_SHORT s.heap s.heap.size (Nat.le_refl _) hi hj E_UNSIGNED_INT (pick_4 l s _ hw a_UNSIGNED_INT s.heap s.heap.size (Nat.le_refl _) S_UNSIGNED_INT) (pick_2 l s _ hw a_SHORT s.heap s.heap.size (Nat.le_refl _) S_SHORT) (row_4 l s _ hw s.heap s.heap.size (Nat.le_refl _)) (inc_lo l s _ hw a_UNSIGNED_INT a_SHORT (0) (4294967295) (-32768) (32767) s.heap s.heap.size (Nat.le_refl _) F_UNSIGNED_INT_min F_UNSIGNED_INT_max F_SHORT_min F_SHORT_max (by decide +kernel)) (by decide +kernel)
    · exact law_0 l s _ hw tables_1 i0 i1 4 3 112 a_UNSIGNED_INT a_BYTE s.heap s.heap.size (Nat.le_refl _) hi hj E_UNSIGNED_INT (pick_4 l s _ hw a_UNSIGNED_INT s.heap s.heap.size (Nat.le_refl _) S_UNSIGNED_INT) (pick_3 l s _ hw a_BYTE s.heap s.heap.size (Nat.le_refl _) S_BYTE) (row_4 l s _ hw s.heap s.heap.size (Nat.le_refl _)) (inc_lo l s _ hw a_UNSIGNED_INT a_BYTE (0) (4294967295) (-128) (127) s.heap s.heap.size (Nat.le_refl _) F_UNSIGNED_INT_min F_UNSIGNED_INT_max F_BYTE_min F_BYTE_max (by decide +kernel)) (by decide +kernel)
    · exact law_1 l s _ hw tables_1 i0 i1 4 4 112 a_UNSIGNED_INT a_UNSIGNED_INT s.heap s.heap.size (Nat.le_refl _) hi hj E_UNSIGNED_INT (pick_4 l s _ hw a_UNSIGNED_INT s.heap s.heap.size (Nat.le_refl _) S_UNSIGNED_INT) (pick_4 l s _ hw a_UNSIGNED_INT s.heap s.heap.size (Nat.le_refl _) S_UNSIGNED_INT) (row_4 l s _ hw s.heap s.heap.size (Nat.le_refl _)) (inc_in l s _ hw a_UNSIGNED_INT a_UNSIGNED_INT (0) (4294967295) (0) (4294967295) s.heap s.heap.size (Nat.le_refl _) F_UNSIGNED_INT_min F_UNSIGNED_INT_max F_UNSIGNED_INT_min F_UNSIGNED_INT_max (by decide +kernel) (by decide +kernel)) (by decide +kernel)
    · exact law_1 l s _ hw tables_1 i0 i1 4 5 112 a_UNSIGNED_INT a_UNSIGNED_SHORT s.heap s.heap.size (Nat.le_refl _) hi hj E_UNSIGNED_INT (pick_4 l s _ hw a_UNSIGNED_INT s.heap s.heap.size (Nat.le_refl _) S_UNSIGNED_INT) (pick_5 l s _ hw a_UNSIGNED_SHORT s.heap s.heap.size (Nat.le_refl _) S_UNSIGNED_SHORT) (row_4 l s _ hw s.heap s.heap.size (Nat.le_refl _)) (inc_in l s _ hw a_UNSIGNED_INT a_UNSIGNED_SHORT (0) (4294967295) (0) (65535) s.heap s.heap.size (Nat.le_refl _) F_UNSIGNED_INT_min F_UNSIGNED_INT_max F_UNSIGNED_SHORT_min F_UNSIGNED_SHORT_max (by decide +kernel) (by decide +kernel)) (by decide +kernel)
    · exact law_1 l s _ hw tables_1 i0 i1 4 6 112 a_UNSIGNED_INT a_UNSIGNED_BYTE s.heap s.heap.size (Nat.le_refl _) hi hj E_UNSIGNED_INT (pick_4 l s _ hw a_UNSIGNED_INT s.heap s.heap.size (Nat.le_refl _) S_UNSIGNED_INT) (pick_6 l s _ hw a_UNSIGNED_BYTE s.heap s.heap.size (Nat.le_refl _) S_UNSIGNED_BYTE) (row_4 l s _ hw s.heap s.heap.size (Nat.le_refl _)) (inc_in l s _ hw a_UNSIGNED_INT a_UNSIGNED_BYTE (0) (4294967295) (0) (255) s.heap s.heap.size (Nat.le_refl _) F_UNSIGNED_INT_min F_UNSIGNED_INT_max F_UNSIGNED_BYTE_min F_UNSIGNED_BYTE_max (by decide +kernel) (by decide +kernel)) (by decide +kernel)
    · exact law_0 l s _ hw tables_1 i0 i1 5 0 96 a_UNSIGNED_SHORT a_LONG s.heap s.heap.size (Nat.le_refl _) hi hj E_UNSIGNED_SHORT (pick_5 l s _ hw a_UNSIGNED_SHORT s.heap s.heap.size (Nat.le_refl _) S_UNSIGNED_SHORT) (pick_0 l s _ hw a_LONG s.heap s.heap.size (Nat.le_refl _) S_LONG) (row_5 l s _ hw s.heap s.heap.size (Nat.le_refl _)) (inc_lo l s _ hw a_UNSIGNED_SHORT a_LONG (0) (65535) (-9223372036854775808) (9223372036854775807) s.heap s.heap.size (Nat.le_refl _) F_UNSIGNED_SHORT_min F_UNSIGNED_SHORT_max F_LONG_min F_LONG_max (by decide +kernel)) (by decide +kernel)
    · exact law_0 l s _ hw tables_1 i0 i1 5 1 96 a_UNSIGNED_SHORT a_INT s.heap s.heap.size (Nat.le_refl _) hi hj E_UNSIGNED_SHORT (pick_5 l s _ hw a_UNSIGNED_SHORT s.heap s.heap.size (Nat.le_refl _) S_UNSIGNED_SHORT) (pick_1 l s _ hw a_INT s.heap s.heap.size (Nat.le_refl _) S_INT) (row_5 l s _ hw s.heap s.heap.size (Nat.le_refl _)) (inc_lo l s _ hw a_UNSIGNED_SHORT a_INT (0) (65535) (-2147483648) (2147483647) s.heap s.heap.size (Nat.le_refl _) F_UNSIGNED_SHORT_min F_UNSIGNED_SHORT_max F_INT_min F_INT_max (by decide +kernel)) (by decide +kernel)
    · exact law_0 l s _ hw tables_1 i0 i1 5 2 96 a_UNSIGNED_SHORT a_SHORT s.heap s.heap.size (Nat.le_refl _) hi hj E_UNSIGNED_SHORT (pick_5 l s _ hw a_UNSIGNED_SHORT s.heap s.heap.size (Nat.le_refl _) S_UNSIGNED_SHORT) (pick_2 l s _ hw a_SHORT s.heap s.heap.size (Nat.le_refl _) S_SHORT) (row_5 l s _ hw s.heap s.heap.size (Nat.le_refl _)) (inc_lo l s _ hw a_UNSIGNED_SHORT a_SHORT (0) (65535) (-32768) (32767) s.heap s.heap.size (Nat.le_refl _) F_UNSIGNED_SHORT_min F_UNSIGNED_SHORT_max F_SHORT_min F_SHORT_max (by decide +kernel)) (by decide +kernel)
    · exact law_0 l s _ hw tables_1 i0 i1 5 3 96 a_UNSIGNED_SHORT a_BYTE s.heap s.heap.size (Nat.le_refl _) hi hj E_UNSIGNED_SHORT (pick_5 l s _ hw a_UNSIGNED_SHORT s.heap s.heap.size (Nat.le_refl _) S_UNSIGNED_SHORT) (pick_3 l s _ hw a_BYTE s.heap s.heap.size (Nat.le_refl _) S_BYTE) (row_5 l s _ hw s.heap s.heap.size (Nat.le_refl _)) (inc_lo l s _ hw a_UNSIGNED_SHORT a_BYTE (0) (65535) (-128) (127) s.heap s.heap.size (Nat.le_refl _) F_UNSIGNED_SHORT_min F_UNSIGNED_SHORT_max F_BYTE_min F_BYTE_max (by decide +kernel)) (by decide +kernel)
    · exact law_0 l s _ hw tables_1 i0 i1 5 4 96 a_UNSIGNED_SHORT a_UNSIGNED_INT s.heap s.heap.size (Nat.le_refl _) hi hj E_UNSIGNED_SHORT (pick_5 l s _ hw a_UNSIGNED_SHORT s.heap s.heap.size (Nat.le_refl _) S_UNSIGNED_SHORT) (pick_4 l s _ hw a_UNSIGNED_INT s.heap s.heap.size (Nat.le_refl _) S_UNSIGNED_INT) (row_5 l s _ hw s.heap s.heap.size (Nat.le_refl _)) (inc_hi l s _ hw a_UNSIGNED_SHORT a_UNSIGNED_INT (0) (65535) (0) (4294967295) s.heap s.heap.size (Nat.le_refl _) F_UNSIGNED_SHORT_min F_UNSIGNED_SHORT_max F_UNSIGNED_INT_min F_UNSIGNED_INT_max (by decide +kernel) (by decide +kernel)) (by decide +kernel)
    · exact law_1 l s _ hw tables_1 i0 i1 5 5 96 a_UNSIGNED_SHORT a_UNSIGNED_SHORT s.heap s.heap.size (Nat.le_refl _) hi hj E_UNSIGNED_SHORT (pick_5 l s _ hw a_UNSIGNED_SHORT s.heap s.heap.size (Nat.le_refl _) S_UNSIGNED_SHORT) (pick_5 l s _ hw a_UNSIGNED_SHORT s.heap s.heap.size (Nat.le_refl _) S_UNSIGNED_SHORT) (row_5 l s _ hw s.heap s.heap.size (Nat.le_refl _)) (inc_in l s _ hw a_UNSIGNED_SHORT a_UNSIGNED_SHORT (0) (65535) (0) (65535) s.heap s.heap.size (Nat.le_refl _) F_UNSIGNED_SHORT_min F_UNSIGNED_SHORT_max F_UNSIGNED_SHORT_min F_UNSIGNED_SHORT_max (by decide +kernel) (by decide +kernel)) (by decide +kernel)
    · exact law_1 l s _ hw tables_1 i0 i1 5 6 96 a_UNSIGNED_SHORT a_UNSIGNED_BYTE s.heap s.heap.size (Nat.le_refl _) hi hj E_UNSIGNED_SHORT (pick_5 l s _ hw a_UNSIGNED_SHORT s.heap s.heap.size (Nat.le_refl _) S_UNSIGNED_SHORT) (pick_6 l s _ hw a_UNSIGNED_BYTE s.heap s.heap.size (Nat.le_refl _) S_UNSIGNED_BYTE) (row_5 l s _ hw s.heap s.heap.size (Nat.le_refl _)) (inc_in l s _ hw a_UNSIGNED_SHORT a_UNSIGNED_BYTE (0) (65535) (0) (255) s.heap s.heap.size (Nat.le_refl _) F_UNSIGNED_SHORT_min F_UNSIGNED_SHORT_max F_UNSIGNED_BYTE_min F_UNSIGNED_BYTE_max (by decide +kernel) (by decide +kernel)) (by decide +kernel)
    · exact law_0 l s _ hw tables_1 i0 i1 6 0 64 a_UNSIGNED_BYTE a_LONG s.heap s.heap.size (Nat.le_refl _) hi hj E_UNSIGNED_BYTE (pick_6 l s _ hw a_UNSIGNED_BYTE s.heap s.heap.size (Nat.le_refl _) S_UNSIGNED_BYTE) (pick_0 l s _ hw a_LONG s.heap s.heap.size (Nat.le_refl _) S_LONG) (row_6 l s _ hw s.heap s.heap.size (Nat.le_refl _)) (inc_lo l s _ hw a_UNSIGNED_BYTE a_LONG (0) (255) (-9223372036854775808) (9223372036854775807) s.heap s.heap.size (Nat.le_refl _) F_UNSIGNED_BYTE_min F_UNSIGNED_BYTE_max F_LONG_min F_LONG_max (by decide +kernel)) (by decide +kernel)
    · exact law_0 l s _ hw tables_1 i0 i1 6 1 64 a_UNSIGNED_BYTE a_INT s.heap s.heap.size (Nat.le_refl _) hi hj E_UNSIGNED_BYTE (pick_6 l s _ hw a_UNSIGNED_BYTE s.heap s.heap.size (Nat.le_refl _) S_UNSIGNED_BYTE) (pick_1 l s _ hw a_INT s.heap s.heap.size (Nat.le_refl _) S_INT) (row_6 l s _ hw s.heap s.heap.size (Nat.le_refl _)) (inc_lo l s _ hw a_UNSIGNED_BYTE a_INT (0) (255) (-2147483648) (2147483647) s.heap s.heap.size (Nat.le_refl _) F_UNSIGNED_BYTE_min F_UNSIGNED_BYTE_max F_INT_min F_INT_max (by decide +kernel)) (by decide +kernel)
    · exact law_0 l s _ hw tables_1 i0 i1 6 2 64 a_UNSIGNED_BYTE a_SHORT s.heap s.heap.size (Nat.le_refl _) hi hj E_UNSIGNED_BYTE (pick_6 l s _ hw a_UNSIGNED_BYTE s.heap s.heap.size (Nat.le_refl _) S_UNSIGNED_BYTE) (pick_2 l s _ hw a_SHORT s.heap s.heap.size (Nat.le_refl _) S_SHORT) (row_6 l s _ hw s.heap s.heap.size (Nat.le_refl _)) (inc_lo l s _ hw a_UNSIGNED_BYTE a_SHORT (0) (255) (-32768) (32767) s.heap s.heap.size (Nat.le_refl _) F_UNSIGNED_BYTE_min F_UNSIGNED_BYTE_max F_SHORT_min F_SHORT_max (by decide +kernel)) (by decide +kernel)
    · exact law_0 l s _ hw tables_1 i0 i1 6 3 64 a_UNSIGNED_BYTE a_BYTE s.heap s.heap.size (Nat.le_refl _) hi hj E_UNSIGNED_BYTE (pick_6 l s _ hw a_UNSIGNED_BYTE s.heap s.heap.size (Nat.le_refl _) S_UNSIGNED_BYTE) (pick_3 l s _ hw a_BYTE s.heap s.heap.size (Nat.le_refl _) S_BYTE) (row_6 l s _ hw s.heap s.heap.size (Nat.le_refl _)) (inc_lo l s _ hw a_UNSIGNED_BYTE a_BYTE (0) (255) (-128) (127) s.heap s.heap.size (Nat.le_refl _) F_UNSIGNED_BYTE_min F_UNSIGNED_BYTE_max F_BYTE_min F_BYTE_max (by decide +kernel)) (by decide +kernel)
    · exact law_0 l s _ hw tables_1 i0 i1 6 4 64 a_UNSIGNED_BYTE a_UNSIGNED_INT s.heap s.heap.size (Nat.le_refl _) hi hj E_UNSIGNED_BYTE (pick_6 l s _ hw a_UNSIGNED_BYTE s.heap s.heap.size (Nat.le_refl _) S_UNSIGNED_BYTE) (pick_4 l s _ hw a_UNSIGNED_INT s.heap s.heap.size (Nat.le_refl _) S_UNSIGNED_INT) (row_6 l s _ hw s.heap s.heap.size (Nat.le_refl _)) (inc_hi l s _ hw a_UNSIGNED_BYTE a_UNSIGNED_INT (0) (255) (0) (4294967295) s.heap s.heap.size (Nat.le_refl _) F_UNSIGNED_BYTE_min F_UNSIGNED_BYTE_max F_UNSIGNED_INT_min F_UNSIGNED_INT_max (by decide +kernel) (by decide +kernel)) (by decide +kernel)
    · exact law_0 l s _ hw tables_1 i0 i1 6 5 64 a_UNSIGNED_BYTE a_UNSIGNED_SHORT s.heap s.heap.size (Nat.le_refl _) hi hj E_UNSIGNED_BYTE (pick_6 l s _ hw a_UNSIGNED_BYTE s.heap s.heap.size (Nat.le_refl _) S_UNSIGNED_BYTE) (pick_5 l s _ hw a_UNSIGNED_SHORT s.heap s.heap.size (Nat.le_refl _) S_UNSIGNED_SHORT) (row_6 l s _ hw s.heap s.heap.size (Nat.le_refl _)) (inc_hi l s _ hw a_UNSIGNED_BYTE a_UNSIGNED_SHORT (0) (255) (0) (65535) s.heap s.heap.size (Nat.le_refl _) F_UNSIGNED_BYTE_min F_UNSIGNED_BYTE_max F_UNSIGNED_SHORT_min F_UNSIGNED_SHORT_max (by decide +kernel) (by decide +kernel)) (by decide +kernel)
    · exact law_1 l s _ hw tables_1 i0 i1 6 6 64 a_UNSIGNED_BYTE a_UNSIGNED_BYTE s.heap s.heap.size (Nat.le_refl _) hi hj E_UNSIGNED_BYTE (pick_6 l s _ hw a_UNSIGNED_BYTE s.heap s.heap.size (Nat.le_refl _) S_UNSIGNED_BYTE) (pick_6 l s _ hw a_UNSIGNED_BYTE s.heap s.heap.size (Nat.le_refl _) S_UNSIGNED_BYTE) (row_6 l s _ hw s.heap s.heap.size (Nat.le_refl _)) (inc_in l s _ hw a_UNSIGNED_BYTE a_UNSIGNED_BYTE (0) (255) (0) (255) s.heap s.heap.size (Nat.le_refl _) F_UNSIGNED_BYTE_min F_UNSIGNED_BYTE_max F_UNSIGNED_BYTE_min F_UNSIGNED_BYTE_max (by decide +kernel) (by decide +kernel)) (by decide +kernel)
  obtain ⟨n, o, h1, h2, h3, _, L, rfl, ⟨rfl, N, -⟩, hq⟩ := H p e ha hc hk s m _ below hf ((Spec.applies_iff_loose hf).mp happ).1 ⟨rfl, State.Warmed39.refl s, rfl⟩ trivial
  refine ⟨n, _, h1, h2, h3, hpost _ _ _ _ _ _ ⟨Cond.after_iff.mpr rfl, Cond.after_iff.mpr (eq_i res_at (Term.int_eval (1)) rfl), trivial⟩ ⟨hq.1, hq.2.1, (hq.2.2.sift fun y hy => Or.inr (N y hy)).mono (by decide) (by decide)⟩⟩
theorem main_1_1 : Claimed_1_1 := comes_1 fun _ _ _ _ _ _ h hF => ⟨h.1, hF⟩
theorem main_1_2 : Claimed_1_2 := comes_1 fun _ _ _ _ _ _ h hF => ⟨h.2.1, hF⟩
end Jvm.Pilot.@@N@@
namespace Jvm.Pilot.@@N@@
open Jvm Jvm.ClassFile Sem Op Lib Jvm.Free Jvm.Stand Jvm.Pilot.@@N@@.Jvm.D
/-! MADE BY PROGRAM (witnessworld.py) out of the Statement's table words and the real class files: 12 classes; the members and pool entries that the words name. The judged class is class 1, her method 3. -/
namespace start1
open Jvm.ClassFile
def u (s : String) : CpInfo := .utf8 (stringToUtf16 s)
/-- a pool by its gaps: so many unusable entries, then the entry; so many at the end -/
def gap : Nat → List CpInfo → List CpInfo
  | 0, r => r
  | n + 1, r => .unusable :: gap n r
def poolList (es : List (Nat × CpInfo)) (last : Nat) : List CpInfo := es.foldr (fun e r => gap e.1 (e.2 :: r)) (gap last [])
def pool (es : List (Nat × CpInfo)) (last : Nat) : Array CpInfo := ⟨poolList es last⟩
def fileOf (pool : Array CpInfo) (this : Nat) (attrs : Array Attribute := #[]) (ms : Array MethodInfo := #[]) (fl : Nat := 33) (sup : Nat := 0) (ifs : Array Nat := #[]) (fds : Array FieldInfo := #[]) : ClassFile where
  minorVersion := 0
  majorVersion := 65
  constantPool := pool
  accessFlags := fl
  thisClass := this
  superClass := sup
  interfaces := ifs
  fields := fds
  methods := ms
  attributes := attrs
def plain (name : String) (sup : Option ClassId) : Class where
  name := name
  kind := .ordinary
  loader := none
  accessFlags := 33
  super := sup
  interfaces := #[]
  cf := none
  fields := #[]
  methods := #[]
  instanceTypes := #[]
  staticTypes := #[]
  resolved := #[]
  callSites := []
  init := .initialized
  statics := none
  mirror := none

def pool0 : Array CpInfo := pool [(5, u "<init>"), (0, u "()V"), (1, .class_ 10), (1, u "java/lang/Object")] 113

def k0m0 : Method := { name := "<init>", desc := "()V", sig := { parameters := [], returnType := none }, accessFlags := 1, code := none }
/-- java/lang/Object -/
def k0 : Class := { plain "java/lang/Object" none with
  accessFlags := 33
  interfaces := #[]
  cf := some (fileOf pool0 8 #[] #[{ accessFlags := 1, nameIndex := 5, descriptorIndex := 6, attributes := #[] }] 33 0 #[] #[])
  fields := #[]
  methods := #[k0m0]
  instanceTypes := #[]
  staticTypes := #[]
  resolved := Array.replicate 124 none
  statics := none }

def pool1 : Array CpInfo := pool [(2, .class_ 4), (1, u "java/lang/Object"), (0, u "<init>"), (0, u "()V"), (0, .fieldref 8 9), (0, .class_ 10), (0, .nameAndType 11 12), (0, u "com/example/dodder/dodder/model/lexical/XsBoundedInteger"), (0, u "LONG"), (0, u "Lcom/example/dodder/dodder/model/lexical/XsBoundedInteger;"), (0, .fieldref 8 14), (0, .nameAndType 15 12), (0, u "INT"), (0, .fieldref 8 17), (0, .nameAndType 18 12), (0, u "SHORT"), (0, .fieldref 8 20), (0, .nameAndType 21 12), (0, u "BYTE"), (0, .fieldref 8 23), (0, .nameAndType 24 12), (0, u "UNSIGNED_INT"), (0, .fieldref 8 26), (0, .nameAndType 27 12), (0, u "UNSIGNED_SHORT"), (0, .fieldref 8 29), (0, .nameAndType 30 12), (0, u "UNSIGNED_BYTE"), (0, .integer 2147483647), (0, .methodref 33 34), (0, .class_ 35), (0, .nameAndType 36 37), (0, u "com/example/dodder/dodder/model/lexical/XsBoundedIntegerIncludesPinLaw"), (0, u "pick"), (0, u "(I)Lcom/example/dodder/dodder/model/lexical/XsBoundedInteger;"), (0, .methodref 33 39), (0, .nameAndType 40 41), (0, u "row"), (0, u "(I)I"), (0, .methodref 8 43), (0, .nameAndType 44 45), (0, u "includes"), (0, u "(Lcom/example/dodder/dodder/model/lexical/XsBoundedInteger;)Z"), (3, u "law"), (0, u "(II)Z")] 2

def k1m0 : Method := { name := "<init>", desc := "()V", sig := { parameters := [], returnType := none }, accessFlags := 2, code := none }
def k1c1 : Code := { maxStack := 2, maxLocals := 1, code := method_2_code, exceptionTable := #[], attributes := #[] }
def k1m1 : Method := { name := "pick", desc := "(I)Lcom/example/dodder/dodder/model/lexical/XsBoundedInteger;", sig := { parameters := [.int], returnType := some (.object "com/example/dodder/dodder/model/lexical/XsBoundedInteger") }, accessFlags := 10, code := some k1c1 }
def k1c2 : Code := { maxStack := 2, maxLocals := 1, code := method_3_code, exceptionTable := #[], attributes := #[] }
def k1m2 : Method := { name := "row", desc := "(I)I", sig := { parameters := [.int], returnType := some .int }, accessFlags := 10, code := some k1c2 }
def k1c3 : Code := { maxStack := 2, maxLocals := 7, code := code, exceptionTable := #[], attributes := #[] }
def k1m3 : Method := { name := "law", desc := "(II)Z", sig := { parameters := [.int, .int], returnType := some .boolean }, accessFlags := 9, code := some k1c3 }
/-- com/example/dodder/dodder/model/lexical/XsBoundedIntegerIncludesPinLaw -/
def k1 : Class := { plain "com/example/dodder/dodder/model/lexical/XsBoundedIntegerIncludesPinLaw" (some 0) with
  accessFlags := 49
  interfaces := #[]
  cf := some (fileOf pool1 33 #[] #[{ accessFlags := 2, nameIndex := 5, descriptorIndex := 6, attributes := #[] }, { accessFlags := 10, nameIndex := 36, descriptorIndex := 37, attributes := #[] }, { accessFlags := 10, nameIndex := 40, descriptorIndex := 41, attributes := #[] }, { accessFlags := 9, nameIndex := 49, descriptorIndex := 50, attributes := #[] }] 49 2 #[] #[])
  fields := #[]
  methods := #[k1m0, k1m1, k1m2, k1m3]
  instanceTypes := #[]
  staticTypes := #[]
  resolved := Array.replicate 53 none
  statics := none }

def pool2 : Array CpInfo := pool [(1, .class_ 2), (0, u "java/lang/constant/Constable"), (0, .class_ 4), (0, u "java/lang/Object")] 6

/-- java/lang/constant/Constable -/
def k2 : Class := { plain "java/lang/constant/Constable" (some 0) with
  accessFlags := 1537
  interfaces := #[]
  cf := some (fileOf pool2 1 #[] #[] 1537 3 #[] #[])
  fields := #[]
  methods := #[]
  instanceTypes := #[]
  staticTypes := #[]
  resolved := Array.replicate 11 none
  statics := none }

def pool3 : Array CpInfo := pool [(1, .class_ 2), (0, u "java/lang/Comparable"), (0, .class_ 4), (0, u "java/lang/Object")] 7

/-- java/lang/Comparable -/
def k3 : Class := { plain "java/lang/Comparable" (some 0) with
  accessFlags := 1537
  interfaces := #[]
  cf := some (fileOf pool3 1 #[] #[] 1537 3 #[] #[])
  fields := #[]
  methods := #[]
  instanceTypes := #[]
  staticTypes := #[]
  resolved := Array.replicate 12 none
  statics := none }

def pool4 : Array CpInfo := pool [(1, .class_ 2), (0, u "java/io/Serializable"), (0, .class_ 4), (0, u "java/lang/Object")] 2

/-- java/io/Serializable -/
def k4 : Class := { plain "java/io/Serializable" (some 0) with
  accessFlags := 1537
  interfaces := #[]
  cf := some (fileOf pool4 1 #[] #[] 1537 3 #[] #[])
  fields := #[]
  methods := #[]
  instanceTypes := #[]
  staticTypes := #[]
  resolved := Array.replicate 7 none
  statics := none }

def pool5 : Array CpInfo := pool [(2, .class_ 4), (1, u "java/lang/Enum"), (0, u "name"), (0, u "Ljava/lang/String;"), (2, u "ordinal"), (0, u "I"), (1, .class_ 14), (1, u "java/lang/Object"), (4, u "hash"), (86, .class_ 108), (1, u "java/lang/Enum$EnumDesc"), (2, .class_ 112), (0, u "java/lang/constant/Constable"), (0, .class_ 114), (0, u "java/lang/Comparable"), (0, .class_ 116), (0, u "java/io/Serializable")] 87

/-- java/lang/Enum -/
def k5 : Class := { plain "java/lang/Enum" (some 0) with
  accessFlags := 1057
  interfaces := #[2, 3, 4]
  cf := some (fileOf pool5 2 #[.nestMembers #[106]] #[] 1057 12 #[111, 113, 115] #[{ accessFlags := 18, nameIndex := 5, descriptorIndex := 6, attributes := #[] }, { accessFlags := 18, nameIndex := 9, descriptorIndex := 10, attributes := #[] }, { accessFlags := 2, nameIndex := 19, descriptorIndex := 10, attributes := #[] }])
  fields := #[{ name := "name", type := (.object "java/lang/String"), accessFlags := 18, slot := 0, constantValue := 0 }, { name := "ordinal", type := .int, accessFlags := 18, slot := 1, constantValue := 0 }, { name := "hash", type := .int, accessFlags := 2, slot := 2, constantValue := 0 }]
  methods := #[]
  instanceTypes := #[(.object "java/lang/String"), .int, .int]
  staticTypes := #[]
  resolved := Array.replicate 204 none
  statics := none }

def pool6 : Array CpInfo := pool [(1, .class_ 2), (0, u "com/example/dodder/dodder/model/lexical/XsBoundedInteger"), (2, u "LONG"), (0, u "Lcom/example/dodder/dodder/model/lexical/XsBoundedInteger;"), (2, u "INT"), (2, u "SHORT"), (2, u "BYTE"), (2, u "UNSIGNED_INT"), (2, u "UNSIGNED_SHORT"), (2, u "UNSIGNED_BYTE"), (2, u "$VALUES"), (0, u "[Lcom/example/dodder/dodder/model/lexical/XsBoundedInteger;"), (6, .class_ 37), (1, u "java/lang/Enum"), (8, u "localName"), (0, u "Ljava/lang/String;"), (0, .fieldref 1 49), (0, .nameAndType 50 51), (0, u "min"), (0, u "J"), (0, .fieldref 1 53), (0, .nameAndType 54 51), (0, u "max"), (6, u "range"), (99, u "includes"), (0, u "(Lcom/example/dodder/dodder/model/lexical/XsBoundedInteger;)Z")] 26

def k6c0 : Code := { maxStack := 4, maxLocals := 2, code := prog_17_method_5_code, exceptionTable := #[], attributes := #[] }
def k6m0 : Method := { name := "includes", desc := "(Lcom/example/dodder/dodder/model/lexical/XsBoundedInteger;)Z", sig := { parameters := [(.object "com/example/dodder/dodder/model/lexical/XsBoundedInteger")], returnType := some .boolean }, accessFlags := 0, code := some k6c0 }
/-- com/example/dodder/dodder/model/lexical/XsBoundedInteger -/
def k6 : Class := { plain "com/example/dodder/dodder/model/lexical/XsBoundedInteger" (some 5) with
  accessFlags := 16433
  interfaces := #[]
  cf := some (fileOf pool6 1 #[] #[{ accessFlags := 0, nameIndex := 161, descriptorIndex := 162, attributes := #[] }] 16433 35 #[] #[{ accessFlags := 16409, nameIndex := 5, descriptorIndex := 6, attributes := #[] }, { accessFlags := 16409, nameIndex := 9, descriptorIndex := 6, attributes := #[] }, { accessFlags := 16409, nameIndex := 12, descriptorIndex := 6, attributes := #[] }, { accessFlags := 16409, nameIndex := 15, descriptorIndex := 6, attributes := #[] }, { accessFlags := 16409, nameIndex := 18, descriptorIndex := 6, attributes := #[] }, { accessFlags := 16409, nameIndex := 21, descriptorIndex := 6, attributes := #[] }, { accessFlags := 16409, nameIndex := 24, descriptorIndex := 6, attributes := #[] }, { accessFlags := 18, nameIndex := 46, descriptorIndex := 47, attributes := #[] }, { accessFlags := 18, nameIndex := 50, descriptorIndex := 51, attributes := #[] }, { accessFlags := 18, nameIndex := 54, descriptorIndex := 51, attributes := #[] }, { accessFlags := 18, nameIndex := 61, descriptorIndex := 47, attributes := #[] }, { accessFlags := 4122, nameIndex := 27, descriptorIndex := 28, attributes := #[] }])
  fields := #[{ name := "LONG", type := (.object "com/example/dodder/dodder/model/lexical/XsBoundedInteger"), accessFlags := 16409, slot := 0, constantValue := 0 }, { name := "INT", type := (.object "com/example/dodder/dodder/model/lexical/XsBoundedInteger"), accessFlags := 16409, slot := 1, constantValue := 0 }, { name := "SHORT", type := (.object "com/example/dodder/dodder/model/lexical/XsBoundedInteger"), accessFlags := 16409, slot := 2, constantValue := 0 }, { name := "BYTE", type := (.object "com/example/dodder/dodder/model/lexical/XsBoundedInteger"), accessFlags := 16409, slot := 3, constantValue := 0 }, { name := "UNSIGNED_INT", type := (.object "com/example/dodder/dodder/model/lexical/XsBoundedInteger"), accessFlags := 16409, slot := 4, constantValue := 0 }, { name := "UNSIGNED_SHORT", type := (.object "com/example/dodder/dodder/model/lexical/XsBoundedInteger"), accessFlags := 16409, slot := 5, constantValue := 0 }, { name := "UNSIGNED_BYTE", type := (.object "com/example/dodder/dodder/model/lexical/XsBoundedInteger"), accessFlags := 16409, slot := 6, constantValue := 0 }, { name := "localName", type := (.object "java/lang/String"), accessFlags := 18, slot := 3, constantValue := 0 }, { name := "min", type := .long, accessFlags := 18, slot := 4, constantValue := 0 }, { name := "max", type := .long, accessFlags := 18, slot := 5, constantValue := 0 }, { name := "range", type := (.object "java/lang/String"), accessFlags := 18, slot := 6, constantValue := 0 }, { name := "$VALUES", type := (.array (.object "com/example/dodder/dodder/model/lexical/XsBoundedInteger")), accessFlags := 4122, slot := 7, constantValue := 0 }]
  methods := #[k6m0]
  instanceTypes := #[(.object "java/lang/String"), .int, .int, (.object "java/lang/String"), .long, .long, (.object "java/lang/String")]
  staticTypes := #[(.object "com/example/dodder/dodder/model/lexical/XsBoundedInteger"), (.object "com/example/dodder/dodder/model/lexical/XsBoundedInteger"), (.object "com/example/dodder/dodder/model/lexical/XsBoundedInteger"), (.object "com/example/dodder/dodder/model/lexical/XsBoundedInteger"), (.object "com/example/dodder/dodder/model/lexical/XsBoundedInteger"), (.object "com/example/dodder/dodder/model/lexical/XsBoundedInteger"), (.object "com/example/dodder/dodder/model/lexical/XsBoundedInteger"), (.array (.object "com/example/dodder/dodder/model/lexical/XsBoundedInteger"))]
  resolved := Array.replicate 189 none
  statics := some 0 }

def pool7 : Array CpInfo := pool [(1, u "java/lang/Cloneable"), (0, .class_ 1), (0, u "java/lang/Object"), (0, .class_ 3)] 3

/-- java/lang/Cloneable -/
def k7 : Class := { plain "java/lang/Cloneable" (some 0) with
  accessFlags := 1537
  interfaces := #[]
  cf := some (fileOf pool7 2 #[] #[] 1537 4 #[] #[])
  fields := #[]
  methods := #[]
  instanceTypes := #[]
  staticTypes := #[]
  resolved := Array.replicate 8 none
  statics := none }

/-- the primitive byte -/
def k8 : Class := { plain "byte" none with kind := .primitive 'B', accessFlags := 0x411 }
/-- [B -/
def k9 : Class := { plain "[B" (some 0) with kind := .array 8 .byte, interfaces := #[7, 4], accessFlags := 1041 }

/-- the primitive int -/
def k10 : Class := { plain "int" none with kind := .primitive 'I', accessFlags := 0x411 }
/-- [I -/
def k11 : Class := { plain "[I" (some 0) with kind := .array 10 .int, interfaces := #[7, 4], accessFlags := 1041 }

def heap : Heap := #[{ cls := 6, slots := #[.ref 1, .ref 2, .ref 3, .ref 4, .ref 5, .ref 6, .ref 7, .null], vm := .statics 6 },
  { cls := 6, slots := #[.null, .int 0, .int 0, .null, .long (-9223372036854775808), .long (9223372036854775807), .null], vm := .none },
  { cls := 6, slots := #[.null, .int 1, .int 0, .null, .long (-2147483648), .long (2147483647), .null], vm := .none },
  { cls := 6, slots := #[.null, .int 2, .int 0, .null, .long (-32768), .long (32767), .null], vm := .none },
  { cls := 6, slots := #[.null, .int 3, .int 0, .null, .long (-128), .long (127), .null], vm := .none },
  { cls := 6, slots := #[.null, .int 4, .int 0, .null, .long (0), .long (4294967295), .null], vm := .none },
  { cls := 6, slots := #[.null, .int 5, .int 0, .null, .long (0), .long (65535), .null], vm := .none },
  { cls := 6, slots := #[.null, .int 6, .int 0, .null, .long (0), .long (255), .null], vm := .none }]
def classes : Array Class := #[k0, k1, k2, k3, k4, k5, k6, k7, k8, k9, k10, k11]
def interned : List (Array UInt16 × Addr) := []
def slotsUsed : Nat := 57
def theMethod : MethodId := ⟨1, 3⟩
def args0 : Array Value := #[.int 5, .int 4]
def aboutOver (below : List Frame) : State where
  vm := { classes := classes, interned := interned.toArray }
  heap := heap
  slotsUsed := slotsUsed
  threads := #[{ frames := .invoking theMethod args0 :: below }]
def below0 : List Frame := [.native { method := ⟨0, 0⟩, args := #[] }]
def about1 : State := aboutOver below0
def p0 : Program := .bare "" "" ""
def e0 : Env := launch0.env 0 0 0
theorem w_frames : about1.frames = Frame.invoking theMethod args0 :: below0 := rfl
set_option maxRecDepth 65536 in
theorem w_args : argsFit about1.vm theMethod args0 = true := by decide +kernel
set_option maxRecDepth 65536 in
theorem w_heap : heapFits about1 = true := by decide +kernel
set_option maxRecDepth 65536 in
theorem w_runnable : about1.curStatus? = some .runnable := by decide +kernel
set_option maxRecDepth 65536 in
theorem w_alone : about1.alone = true := by decide +kernel
set_option maxRecDepth 65536 in
theorem w_named : about1.methodNamed? x = some theMethod := by decide +kernel
set_option maxRecDepth 65536 in
theorem w_hears : about1.hears theMethod below0 = true := by decide +kernel
set_option maxRecDepth 65536 in
theorem w_ripe : about1.ripe theMethod args0 below0 = true := by decide +kernel
theorem w_running : about1.status = .running := rfl
set_option maxRecDepth 65536 in
theorem w_room : about1.hasRoom e0.platform room_1 = true :=
  launch0.hasRoom_least _ room_1 (by decide +kernel) (by decide +kernel) (by decide +kernel) (by decide +kernel) (by decide +kernel) (by decide +kernel)
theorem allAtoms_all (ts : List Jvm.Cond) (a : Array Jvm.Value) (st : Jvm.State) : (allAtoms ts).before a st = ts.all (fun c => c.before a st) := by
  induction ts with
  | nil => rfl
  | cons c t ih =>
    show (Jvm.Cond.and c (allAtoms t)).before a st = _
    rw [Jvm.Cond.before_and, ih, List.all_cons]
def words1 : List Jvm.Cond := Jvm.Cond.code x code maxLocals ret :: tables_1
/-- a 'code' word, met by the world's own term for the bytes: nothing is compared byte by byte -/
theorem code_word {y : MethodName} {bytes : ByteArray} {mx : Nat} {rt : Option FieldType} {a : Array Value} {s : State} {m : MethodId} {meth : Method} {c : Code} (h1 : s.methodNamed? y = some m) (h2 : s.vm.method? m = some meth) (h3 : meth.code = some c) (h4 : c.code = bytes)
    (h5 : (c.maxLocals == mx && c.exceptionTable.isEmpty && decide (c.maxStack ≤ mostOperands) && decide (meth.sig.returnType = rt) && !meth.locks && decide (parseMethodDescriptor y.desc = some meth.sig)) = true) : (Jvm.Cond.code y bytes mx rt).before a s = true := by
  simp only [Bool.and_eq_true, beq_iff_eq, Bool.not_eq_true', decide_eq_true_eq] at h5
  obtain ⟨⟨⟨⟨⟨g1, g2⟩, g3⟩, g4⟩, g5⟩, g6⟩ := h5
  simp [Cond.before, Cond.holds, Cond.value, h1, h2, h3, h4, g1, g2, g3, g4, g5, g6]
def isCode : Jvm.Cond → Bool
  | .code _ _ _ _ => true
  | _ => false
theorem all_split {L : List Jvm.Cond} {P : Jvm.Cond → Bool} (h1 : L.all (fun c => isCode c || P c) = true) (h2 : ∀ c ∈ L.filter isCode, P c = true) : L.all P = true := by
  refine List.all_eq_true.mpr fun c hc => ?_
  have h := List.all_eq_true.mp h1 c hc
  rcases Bool.eq_false_or_eq_true (isCode c) with hi | hi
  · exact h2 c (List.mem_filter.mpr ⟨hc, hi⟩)
  · simpa [hi] using h
set_option maxRecDepth 65536 in
theorem w_c0 : (Jvm.Cond.code x code maxLocals ret).before args0 about1 = true := code_word (m := ⟨1, 3⟩) (meth := k1m3) (c := k1c3) (by decide +kernel) rfl rfl rfl (by decide +kernel)
set_option maxRecDepth 65536 in
theorem w_c1 : (Jvm.Cond.code ({ cls := "com/example/dodder/dodder/model/lexical/XsBoundedIntegerIncludesPinLaw", name := "pick", desc := "(I)Lcom/example/dodder/dodder/model/lexical/XsBoundedInteger;" } : Jvm.MethodName) method_2_code (1 : Nat) (Option.some (Jvm.ClassFile.FieldType.object "com/example/dodder/dodder/model/lexical/XsBoundedInteger"))).before args0 about1 = true := code_word (m := ⟨1, 1⟩) (meth := k1m1) (c := k1c1) (by decide +kernel) rfl rfl rfl (by decide +kernel)
set_option maxRecDepth 65536 in
theorem w_c2 : (Jvm.Cond.code ({ cls := "com/example/dodder/dodder/model/lexical/XsBoundedIntegerIncludesPinLaw", name := "row", desc := "(I)I" } : Jvm.MethodName) method_3_code (1 : Nat) (Option.some Jvm.ClassFile.FieldType.int)).before args0 about1 = true := code_word (m := ⟨1, 2⟩) (meth := k1m2) (c := k1c2) (by decide +kernel) rfl rfl rfl (by decide +kernel)
set_option maxRecDepth 65536 in
theorem w_c3 : (Jvm.Cond.code ({ cls := "com/example/dodder/dodder/model/lexical/XsBoundedInteger", name := "includes", desc := "(Lcom/example/dodder/dodder/model/lexical/XsBoundedInteger;)Z" } : Jvm.MethodName) prog_17_method_5_code (2 : Nat) (Option.some Jvm.ClassFile.FieldType.boolean)).before args0 about1 = true := code_word (m := ⟨6, 0⟩) (meth := k6m0) (c := k6c0) (by decide +kernel) rfl rfl rfl (by decide +kernel)
def codes1 : List Jvm.Cond := [Jvm.Cond.code x code maxLocals ret, Jvm.Cond.code ({ cls := "com/example/dodder/dodder/model/lexical/XsBoundedIntegerIncludesPinLaw", name := "pick", desc := "(I)Lcom/example/dodder/dodder/model/lexical/XsBoundedInteger;" } : Jvm.MethodName) method_2_code (1 : Nat) (Option.some (Jvm.ClassFile.FieldType.object "com/example/dodder/dodder/model/lexical/XsBoundedInteger")), Jvm.Cond.code ({ cls := "com/example/dodder/dodder/model/lexical/XsBoundedIntegerIncludesPinLaw", name := "row", desc := "(I)I" } : Jvm.MethodName) method_3_code (1 : Nat) (Option.some Jvm.ClassFile.FieldType.int), Jvm.Cond.code ({ cls := "com/example/dodder/dodder/model/lexical/XsBoundedInteger", name := "includes", desc := "(Lcom/example/dodder/dodder/model/lexical/XsBoundedInteger;)Z" } : Jvm.MethodName) prog_17_method_5_code (2 : Nat) (Option.some Jvm.ClassFile.FieldType.boolean)]
set_option maxRecDepth 65536 in
theorem codes_eq : words1.filter isCode = codes1 := rfl
theorem w_codes : ∀ c ∈ words1.filter isCode, c.before args0 about1 = true := by
  rw [codes_eq]
  intro c hc
  simp only [codes1, List.mem_cons, List.not_mem_nil, or_false] at hc
  rcases hc with rfl | rfl | rfl | rfl
  · exact w_c0
  · exact w_c1
  · exact w_c2
  · exact w_c3
set_option maxRecDepth 65536 in
theorem w_t1 : (words1.take 24).all (fun c => isCode c || c.before args0 about1) = true := by decide +kernel
set_option maxRecDepth 65536 in
theorem w_t2 : (words1.drop 24).all (fun c => isCode c || c.before args0 about1) = true := by decide +kernel
theorem w_tables : (allAtoms (Jvm.Cond.code x code maxLocals ret :: tables_1)).before args0 about1 = true := by
  rw [allAtoms_all]
  show words1.all (fun c => c.before args0 about1) = true
  refine all_split ?_ w_codes
  rw [← List.take_append_drop 24 words1, List.all_append, w_t1, w_t2]
  rfl
set_option maxRecDepth 65536 in
theorem w_case : (Jvm.Cond.and given_1 narrow_1).before args0 about1 = true := by decide +kernel
theorem w_applies : (headSpec (Jvm.Cond.code x code maxLocals ret :: tables_1) room_1).applies x e0.platform about1 = true :=
  (Spec.applies_iff w_frames).mpr ⟨w_running, w_runnable, w_alone, w_named, w_hears, w_ripe, w_room, w_tables⟩
theorem atStart : AtStart classFile x code maxLocals ret World_1 tables_1 room_1 Calls_1 rest_1 Pre_1 launch0 p0 e0 about1 theMethod args0 below0 :=
  ⟨lists_1, trivial, launch0.admits_env _ _ _, launch0.least_env, fairChoices_fair.cas, fairChoices_fair.clock, w_frames, w_args, w_heap, w_applies, trivial, trivial, w_case⟩
end start1
theorem witness_1 : WitnessClaimed_1 := ⟨start1.p0, start1.e0, start1.about1, start1.theMethod, start1.args0, start1.below0, start1.atStart⟩
end Jvm.Pilot.@@N@@
