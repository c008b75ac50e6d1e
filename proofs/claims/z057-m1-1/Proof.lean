import JvmDerived
import JvmDerived.Pilot.@@N@@Statement
import JvmDerived.Pilot.@@N@@Code
@@BLOCK:NumsL.lean.txt@@
set_option linter.unusedVariables false
set_option linter.unusedSimpArgs false
namespace Jvm.RoadKit
open Sem ClassFile Op Lib Jvm.Stand Jvm.Free Jvm.LawKit
section New
variable {p : Program} {l : Launch} {e : Env} {R : Room} {s : State} {m : MethodId} {args : Array Value} {below : List Frame} {meth : Method} {c : Code} {T : State} {locs : List Loc} {cells slots : Nat}
theorem retI (X : Stand p l e R s m args below meth c T locs cells slots) (hx : p.tables.exec = Jvm.exec) {pc : Nat} {Ls : Array Slot} {z : Int32} {rest : List Value} (hret : meth.sig.returnType = some .int) (hd : decode c.code pc = .ok (.ireturn, 1)) {fs : List Frame}
    (hl : ∀ (f : JFrame) (acts : List Action), f.method = m → f.locked = none → f.entered = [] → (doReturn e (T.setTop f) acts (some (.int z))).1 = T.setFrames fs) : Steps p.tables e below (T.setTop (mkF m pc Ls (.int z :: rest))) (T.setFrames fs) := by
  have hm' : T.vm.method? m = some meth := X.method'
  have hn : narrow .int (.int z) = .int z := rfl
  show Steps p.tables e below (T.setTop { method := m, pc := pc, locals := Ls, stack := _ :: rest, locked := none }) _
  jvm_step X.here [X.here.top, hx, hd, hm', hret, hn]
  first | (intro acts; rw [hl _ acts rfl rfl rfl]) | rw [hl _ _ rfl rfl rfl]
  exact Steps.refl _
end New
end Jvm.RoadKit
namespace Jvm.Pilot.@@N@@
open Jvm Jvm.ClassFile Sem Op Lib Jvm.Free Jvm.Stand Jvm.LawKit Jvm.RoadKit Bundle Jvm.Pilot.@@N@@.Jvm.D
/-- what a body leaves that writes nothing: the value r, and the heap as it was -/
def PQ (r : Value) (h0 : Heap) (n0 : Nat) (v : Option Value) (h : Heap) (L : List Loc) : Prop := v = some r ∧ Fr n0 L ∧ h = h0
abbrev PaysQ (l : Launch) (Z : State) (h0 : Heap) (y : MethodName) (ws : List Jvm.Cond) (rm : Room) (as : Array Value) (Q : Option Value → Heap → List Loc → Prop) : Prop :=
  MetFree l y (head1 ws rm) (fun a U => a = as ∧ Z.Warmed39 U.vm ∧ U.heap = h0) (fun _ _ _ _ _ => True) (fun _ U o U' => ∃ v L, o = .returned v ∧ Q v U'.heap L ∧ FrameEnd U o U' L rm.cells rm.slots)
abbrev Pays (l : Launch) (Z : State) (h0 : Heap) (n0 : Nat) (y : MethodName) (ws : List Jvm.Cond) (rm : Room) (as : Array Value) (r : Value) : Prop :=
  MetFree l y (head1 ws rm) (fun a U => a = as ∧ Z.Warmed39 U.vm ∧ U.heap = h0) (fun _ _ _ _ _ => True) (fun _ U o U' => ∃ v L, o = .returned v ∧ PQ r h0 n0 v U'.heap L ∧ FrameEnd U o U' L rm.cells rm.slots)
abbrev R0 : Room := { frames := 0, cells := 0, slots := 0, locals := 0 }
theorem own_eqi {args : Array Value} {first s : State} {o : Option Outcome} {idx : List Nat} {t : Term} {z : Int32} (h : (Jvm.Cond.eq t (.int z)).value args first o s idx = some true) : t.eval args first o idx s = some (.int z) := by
  simp only [Cond.value, Term.eval] at h; cases ht : t.eval args first o idx s with | none => simp [ht] at h | some x => cases x <;> simp [ht] at h ⊢; exact h
theorem own_eql {args : Array Value} {first s : State} {o : Option Outcome} {idx : List Nat} {t : Term} {z : Int64} (h : (Jvm.Cond.eq t (.long z)).value args first o s idx = some true) : t.eval args first o idx s = some (.long z) := by
  simp only [Cond.value, Term.eval] at h; cases ht : t.eval args first o idx s with | none => simp [ht] at h | some x => cases x <;> simp [ht] at h ⊢; exact h

theorem own_and (k : Int32) : k &&& (7 : Int32) = (0 : Int32) ∨ k &&& (7 : Int32) = (1 : Int32) ∨ k &&& (7 : Int32) = (2 : Int32) ∨ k &&& (7 : Int32) = (3 : Int32) ∨ k &&& (7 : Int32) = (4 : Int32) ∨ k &&& (7 : Int32) = (5 : Int32) ∨ k &&& (7 : Int32) = (6 : Int32) ∨ k &&& (7 : Int32) = (7 : Int32) := by
  have h1 := Jvm.Kit.i32_mask k (7 : Int32) (k := 3) (by decide) (by decide)
  have e0 : ((0 : Int32)).toInt = 0 := by decide
  have e1 : ((1 : Int32)).toInt = 1 := by decide
  have e2 : ((2 : Int32)).toInt = 2 := by decide
  have e3 : ((3 : Int32)).toInt = 3 := by decide
  have e4 : ((4 : Int32)).toInt = 4 := by decide
  have e5 : ((5 : Int32)).toInt = 5 := by decide
  have e6 : ((6 : Int32)).toInt = 6 := by decide
  have e7 : ((7 : Int32)).toInt = 7 := by decide
  simp only [← Int32.toInt_inj, e0, e1, e2, e3, e4, e5, e6, e7]
  omega

theorem own_le0 {b : Int32} (h : ¬ ((0 : Int32) < b)) : b < (1 : Int32) := by
  have e0 : ((0 : Int32)).toInt = 0 := by decide
  have e1 : ((1 : Int32)).toInt = 1 := by decide
  rw [Int32.lt_iff_toInt_lt, e0] at h; rw [Int32.lt_iff_toInt_lt, e1]; omega
theorem own_gt0 {b : Int32} (h : (0 : Int32) < b) : ¬ (b < (1 : Int32)) := by
  have e0 : ((0 : Int32)).toInt = 0 := by decide
  have e1 : ((1 : Int32)).toInt = 1 := by decide
  rw [Int32.lt_iff_toInt_lt, e0] at h; rw [Int32.lt_iff_toInt_lt, e1]; omega
theorem own_in {b w : Int32} (q : (w + (1 : Int32)).toInt = w.toInt + 1) (h : b < w + (1 : Int32)) : ¬ (w < b) := by
  rw [Int32.lt_iff_toInt_lt, q] at h; rw [Int32.lt_iff_toInt_lt]; omega
theorem own_out {b w : Int32} (q : (w + (1 : Int32)).toInt = w.toInt + 1) (h : ¬ (b < w + (1 : Int32))) : w < b := by
  rw [Int32.lt_iff_toInt_lt, q] at h; rw [Int32.lt_iff_toInt_lt]; omega

theorem d1_0 : decode prog_51_method_14_code 0 = .ok (.aload_n 0, 1) := by decide +kernel
theorem d1_1 : decode prog_51_method_14_code 1 = .ok (.getfield 61, 3) := by decide +kernel
theorem d1_4 : decode prog_51_method_14_code 4 = .ok (.ifCond .eq 24, 3) := by decide +kernel
theorem d1_7 : decode prog_51_method_14_code 7 = .ok (.iload_n 1, 1) := by decide +kernel
theorem d1_8 : decode prog_51_method_14_code 8 = .ok (.iconst 1, 1) := by decide +kernel
theorem d1_9 : decode prog_51_method_14_code 9 = .ok (.if_icmp .lt 15, 3) := by decide +kernel
theorem d1_24 : decode prog_51_method_14_code 24 = .ok (.iconst 0, 1) := by decide +kernel
theorem d1_25 : decode prog_51_method_14_code 25 = .ok (.goto 16, 3) := by decide +kernel
theorem d1_41 : decode prog_51_method_14_code 41 = .ok (.ireturn, 1) := by decide +kernel
theorem pn_PrimitiveType : plainName "com/example/cairnstore/cairnstore/store/PrimitiveType" = true := by first | (simp [plainName, overriddenIn]; done) | decide +kernel
theorem ef_1 (m : MethodId) (x0 : Addr) (x1 : Int32) : entryFrame m #[(.ref x0), (.int x1)] 2 = mkF m 0 #[.val (.ref x0), .val (.int x1)] [] := by first | (simp [entryFrame, mkF, argsToLocals, Value.category]; done) | rfl
set_option maxRecDepth 65536 in
set_option maxHeartbeats 40000000 in
theorem al_lo (l : Launch) (Z : State) (a0 : Array Value) (hw : ∀ d ∈ tables_1, d.before a0 Z = true) (a : Addr) (b wd : Int32) (h0 : Heap) (n0 : Nat) (Z0 : n0 ≤ h0.size) (Fs : Fld Z h0 a "com/example/cairnstore/cairnstore/store/PrimitiveType" "shaved" "Z" (.int 1)) (Fw : Fld Z h0 a "com/example/cairnstore/cairnstore/store/PrimitiveType" "width" "I" (.int wd)) (h9 : b < (1 : Int32)) :
    Pays l Z h0 n0 (⟨"com/example/cairnstore/cairnstore/store/PrimitiveType", "allowsBitsPerElement", "(I)Z"⟩ : MethodName) [Jvm.Cond.code (⟨"com/example/cairnstore/cairnstore/store/PrimitiveType", "allowsBitsPerElement", "(I)Z"⟩ : MethodName) prog_51_method_14_code 2 (some .boolean)] R0 #[(.ref a), (.int b)] (.int (0 : Int32)) := by
  refine MetFree.of_bodySF (plainFor_of_name pn_PrimitiveType) hisR ?_
  intro p e s m args below meth c s₁ Bd hml0 hP hK
  obtain ⟨rfl, hZ, hh⟩ := hP
  have hx := Bd.exec
  have hby := Bd.bytes
  have hml : c.maxLocals = 2 := hml0
  have hown : s.vm.findClass "com/example/cairnstore/cairnstore/store/PrimitiveType" = some m.cls := findClass_of_methodNamed Bd.named
  have X0 : Stand p l e R0 s m #[(.ref a), (.int b)] below meth c s₁ [] 0 0 := Stand.of_body Bd
  have e0 : s₁.heap = h0 := by rw [← hh, Bd.state]; rfl
  have N0 := Fr.nil n0
  have pre0 : ∀ t, Steps p.tables e below (s₁.setTop (mkF m 0 #[.val (.ref a), .val (.int b)] [])) t → Steps p.tables e below (s₁.setTop (entryFrame m #[(.ref a), (.int b)] 2)) t := fun t k => castTop (ef_1 m a b) k
  obtain ⟨T1, X1, e1, st1⟩ := getF X0 hx hZ hown (host := "") (Or.inl (hw _ (List.mem_of_getElem? (i := 8) rfl))) Via.refl e0 Fs (g := (mkF m 1 #[.val (.ref a), .val (.int b)] [(.ref a)])) rfl rfl (hb hby d1_1)
  obtain ⟨fs, hr, hrun, hended, hW, hsame⟩ := X1.leave (v := some (.int (0 : Int32))) (fun h => by rw [Bd.returns] at h; cases h)
  refine ⟨_, _, pre0 _ ?_, hrun, hended, _, _, rfl, ?_, ⟨_, rfl⟩, hW, hsame.mono (by decide) (by decide)⟩
  · show Steps p.tables e below (s₁.setTop (mkF m 0 #[.val (.ref a), .val (.int b)] [])) _
    refine XS.aloadN X0.here hx rfl (hb hby d1_0) rfl rfl ?_
    show Steps p.tables e below (s₁.setTop (mkF m 1 #[.val (.ref a), .val (.int b)] [(.ref a)])) _
    refine st1 _ ?_
    show Steps p.tables e below (T1.setTop (mkF m 4 #[.val (.ref a), .val (.int b)] [(.int (1 : Int32))])) _
    refine XS.ifNo X1.here hx rfl (hb hby d1_4) rfl (by decide) ?_
    show Steps p.tables e below (T1.setTop (mkF m 7 #[.val (.ref a), .val (.int b)] [])) _
    refine XS.iloadN X1.here hx rfl (hb hby d1_7) rfl ?_
    show Steps p.tables e below (T1.setTop (mkF m 8 #[.val (.ref a), .val (.int b)] [(.int b)])) _
    refine XS.iconst X1.here hx rfl (hb hby d1_8) ?_
    show Steps p.tables e below (T1.setTop (mkF m 9 #[.val (.ref a), .val (.int b)] [(.int (1 : Int32)), (.int b)])) _
    refine XS.icmpYes X1.here hx rfl (pc0 := 9) (pc' := 24) rfl (hb hby d1_9) rfl (tlt h9).1 (by decide) (by decide) ?_
    show Steps p.tables e below (T1.setTop (mkF m 24 #[.val (.ref a), .val (.int b)] [])) _
    refine XS.iconst X1.here hx rfl (hb hby d1_24) ?_
    show Steps p.tables e below (T1.setTop (mkF m 25 #[.val (.ref a), .val (.int b)] [(.int (0 : Int32))])) _
    refine XS.goto X1.here hx rfl (pc0 := 25) (pc' := 41) rfl (hb hby d1_25) (by decide) (by decide) ?_
    show Steps p.tables e below (T1.setTop (mkF m 41 #[.val (.ref a), .val (.int b)] [(.int (0 : Int32))])) _
    exact retN X1 hx (t := .boolean) Bd.returns (by simp) (hb hby d1_41) hr
  · show PQ (.int (0 : Int32)) h0 n0 _ T1.heap _
    exact ⟨rfl, N0, e1⟩

theorem d1_12 : decode prog_51_method_14_code 12 = .ok (.iload_n 1, 1) := by decide +kernel
theorem d1_13 : decode prog_51_method_14_code 13 = .ok (.aload_n 0, 1) := by decide +kernel
theorem d1_14 : decode prog_51_method_14_code 14 = .ok (.getfield 58, 3) := by decide +kernel
theorem d1_17 : decode prog_51_method_14_code 17 = .ok (.if_icmp .gt 7, 3) := by decide +kernel
set_option maxRecDepth 65536 in
set_option maxHeartbeats 40000000 in
theorem al_hi (l : Launch) (Z : State) (a0 : Array Value) (hw : ∀ d ∈ tables_1, d.before a0 Z = true) (a : Addr) (b wd : Int32) (h0 : Heap) (n0 : Nat) (Z0 : n0 ≤ h0.size) (Fs : Fld Z h0 a "com/example/cairnstore/cairnstore/store/PrimitiveType" "shaved" "Z" (.int 1)) (Fw : Fld Z h0 a "com/example/cairnstore/cairnstore/store/PrimitiveType" "width" "I" (.int wd)) (h9 : ¬ (b < (1 : Int32))) (h17 : wd < b) :
    Pays l Z h0 n0 (⟨"com/example/cairnstore/cairnstore/store/PrimitiveType", "allowsBitsPerElement", "(I)Z"⟩ : MethodName) [Jvm.Cond.code (⟨"com/example/cairnstore/cairnstore/store/PrimitiveType", "allowsBitsPerElement", "(I)Z"⟩ : MethodName) prog_51_method_14_code 2 (some .boolean)] R0 #[(.ref a), (.int b)] (.int (0 : Int32)) := by
  refine MetFree.of_bodySF (plainFor_of_name pn_PrimitiveType) hisR ?_
  intro p e s m args below meth c s₁ Bd hml0 hP hK
  obtain ⟨rfl, hZ, hh⟩ := hP
  have hx := Bd.exec
  have hby := Bd.bytes
  have hml : c.maxLocals = 2 := hml0
  have hown : s.vm.findClass "com/example/cairnstore/cairnstore/store/PrimitiveType" = some m.cls := findClass_of_methodNamed Bd.named
  have X0 : Stand p l e R0 s m #[(.ref a), (.int b)] below meth c s₁ [] 0 0 := Stand.of_body Bd
  have e0 : s₁.heap = h0 := by rw [← hh, Bd.state]; rfl
  have N0 := Fr.nil n0
  have pre0 : ∀ t, Steps p.tables e below (s₁.setTop (mkF m 0 #[.val (.ref a), .val (.int b)] [])) t → Steps p.tables e below (s₁.setTop (entryFrame m #[(.ref a), (.int b)] 2)) t := fun t k => castTop (ef_1 m a b) k
  obtain ⟨T1, X1, e1, st1⟩ := getF X0 hx hZ hown (host := "") (Or.inl (hw _ (List.mem_of_getElem? (i := 8) rfl))) Via.refl e0 Fs (g := (mkF m 1 #[.val (.ref a), .val (.int b)] [(.ref a)])) rfl rfl (hb hby d1_1)
  obtain ⟨T2, X2, e2, st2⟩ := getF X1 hx hZ hown (host := "") (Or.inl (hw _ (List.mem_of_getElem? (i := 10) rfl))) Via.refl e1 Fw (g := (mkF m 14 #[.val (.ref a), .val (.int b)] [(.ref a), (.int b)])) rfl rfl (hb hby d1_14)
  obtain ⟨fs, hr, hrun, hended, hW, hsame⟩ := X2.leave (v := some (.int (0 : Int32))) (fun h => by rw [Bd.returns] at h; cases h)
  refine ⟨_, _, pre0 _ ?_, hrun, hended, _, _, rfl, ?_, ⟨_, rfl⟩, hW, hsame.mono (by decide) (by decide)⟩
  · show Steps p.tables e below (s₁.setTop (mkF m 0 #[.val (.ref a), .val (.int b)] [])) _
    refine XS.aloadN X0.here hx rfl (hb hby d1_0) rfl rfl ?_
    show Steps p.tables e below (s₁.setTop (mkF m 1 #[.val (.ref a), .val (.int b)] [(.ref a)])) _
    refine st1 _ ?_
    show Steps p.tables e below (T1.setTop (mkF m 4 #[.val (.ref a), .val (.int b)] [(.int (1 : Int32))])) _
    refine XS.ifNo X1.here hx rfl (hb hby d1_4) rfl (by decide) ?_
    show Steps p.tables e below (T1.setTop (mkF m 7 #[.val (.ref a), .val (.int b)] [])) _
    refine XS.iloadN X1.here hx rfl (hb hby d1_7) rfl ?_
    show Steps p.tables e below (T1.setTop (mkF m 8 #[.val (.ref a), .val (.int b)] [(.int b)])) _
    refine XS.iconst X1.here hx rfl (hb hby d1_8) ?_
    show Steps p.tables e below (T1.setTop (mkF m 9 #[.val (.ref a), .val (.int b)] [(.int (1 : Int32)), (.int b)])) _
    refine XS.icmpNo X1.here hx rfl (hb hby d1_9) rfl (flt h9).1 ?_
    show Steps p.tables e below (T1.setTop (mkF m 12 #[.val (.ref a), .val (.int b)] [])) _
    refine XS.iloadN X1.here hx rfl (hb hby d1_12) rfl ?_
    show Steps p.tables e below (T1.setTop (mkF m 13 #[.val (.ref a), .val (.int b)] [(.int b)])) _
    refine XS.aloadN X1.here hx rfl (hb hby d1_13) rfl rfl ?_
    show Steps p.tables e below (T1.setTop (mkF m 14 #[.val (.ref a), .val (.int b)] [(.ref a), (.int b)])) _
    refine st2 _ ?_
    show Steps p.tables e below (T2.setTop (mkF m 17 #[.val (.ref a), .val (.int b)] [(.int wd), (.int b)])) _
    refine XS.icmpYes X2.here hx rfl (pc0 := 17) (pc' := 24) rfl (hb hby d1_17) rfl (tlt h17).2.2.1 (by decide) (by decide) ?_
    show Steps p.tables e below (T2.setTop (mkF m 24 #[.val (.ref a), .val (.int b)] [])) _
    refine XS.iconst X2.here hx rfl (hb hby d1_24) ?_
    show Steps p.tables e below (T2.setTop (mkF m 25 #[.val (.ref a), .val (.int b)] [(.int (0 : Int32))])) _
    refine XS.goto X2.here hx rfl (pc0 := 25) (pc' := 41) rfl (hb hby d1_25) (by decide) (by decide) ?_
    show Steps p.tables e below (T2.setTop (mkF m 41 #[.val (.ref a), .val (.int b)] [(.int (0 : Int32))])) _
    exact retN X2 hx (t := .boolean) Bd.returns (by simp) (hb hby d1_41) hr
  · show PQ (.int (0 : Int32)) h0 n0 _ T2.heap _
    exact ⟨rfl, N0, e2⟩

theorem d1_20 : decode prog_51_method_14_code 20 = .ok (.iconst 1, 1) := by decide +kernel
theorem d1_21 : decode prog_51_method_14_code 21 = .ok (.goto 20, 3) := by decide +kernel
set_option maxRecDepth 65536 in
set_option maxHeartbeats 40000000 in
theorem al_in (l : Launch) (Z : State) (a0 : Array Value) (hw : ∀ d ∈ tables_1, d.before a0 Z = true) (a : Addr) (b wd : Int32) (h0 : Heap) (n0 : Nat) (Z0 : n0 ≤ h0.size) (Fs : Fld Z h0 a "com/example/cairnstore/cairnstore/store/PrimitiveType" "shaved" "Z" (.int 1)) (Fw : Fld Z h0 a "com/example/cairnstore/cairnstore/store/PrimitiveType" "width" "I" (.int wd)) (h9 : ¬ (b < (1 : Int32))) (h17 : ¬ (wd < b)) :
    Pays l Z h0 n0 (⟨"com/example/cairnstore/cairnstore/store/PrimitiveType", "allowsBitsPerElement", "(I)Z"⟩ : MethodName) [Jvm.Cond.code (⟨"com/example/cairnstore/cairnstore/store/PrimitiveType", "allowsBitsPerElement", "(I)Z"⟩ : MethodName) prog_51_method_14_code 2 (some .boolean)] R0 #[(.ref a), (.int b)] (.int (1 : Int32)) := by
  refine MetFree.of_bodySF (plainFor_of_name pn_PrimitiveType) hisR ?_
  intro p e s m args below meth c s₁ Bd hml0 hP hK
  obtain ⟨rfl, hZ, hh⟩ := hP
  have hx := Bd.exec
  have hby := Bd.bytes
  have hml : c.maxLocals = 2 := hml0
  have hown : s.vm.findClass "com/example/cairnstore/cairnstore/store/PrimitiveType" = some m.cls := findClass_of_methodNamed Bd.named
  have X0 : Stand p l e R0 s m #[(.ref a), (.int b)] below meth c s₁ [] 0 0 := Stand.of_body Bd
  have e0 : s₁.heap = h0 := by rw [← hh, Bd.state]; rfl
  have N0 := Fr.nil n0
  have pre0 : ∀ t, Steps p.tables e below (s₁.setTop (mkF m 0 #[.val (.ref a), .val (.int b)] [])) t → Steps p.tables e below (s₁.setTop (entryFrame m #[(.ref a), (.int b)] 2)) t := fun t k => castTop (ef_1 m a b) k
  obtain ⟨T1, X1, e1, st1⟩ := getF X0 hx hZ hown (host := "") (Or.inl (hw _ (List.mem_of_getElem? (i := 8) rfl))) Via.refl e0 Fs (g := (mkF m 1 #[.val (.ref a), .val (.int b)] [(.ref a)])) rfl rfl (hb hby d1_1)
  obtain ⟨T2, X2, e2, st2⟩ := getF X1 hx hZ hown (host := "") (Or.inl (hw _ (List.mem_of_getElem? (i := 10) rfl))) Via.refl e1 Fw (g := (mkF m 14 #[.val (.ref a), .val (.int b)] [(.ref a), (.int b)])) rfl rfl (hb hby d1_14)
  obtain ⟨fs, hr, hrun, hended, hW, hsame⟩ := X2.leave (v := some (.int (1 : Int32))) (fun h => by rw [Bd.returns] at h; cases h)
  refine ⟨_, _, pre0 _ ?_, hrun, hended, _, _, rfl, ?_, ⟨_, rfl⟩, hW, hsame.mono (by decide) (by decide)⟩
  · show Steps p.tables e below (s₁.setTop (mkF m 0 #[.val (.ref a), .val (.int b)] [])) _
    refine XS.aloadN X0.here hx rfl (hb hby d1_0) rfl rfl ?_
    show Steps p.tables e below (s₁.setTop (mkF m 1 #[.val (.ref a), .val (.int b)] [(.ref a)])) _
    refine st1 _ ?_
    show Steps p.tables e below (T1.setTop (mkF m 4 #[.val (.ref a), .val (.int b)] [(.int (1 : Int32))])) _
    refine XS.ifNo X1.here hx rfl (hb hby d1_4) rfl (by decide) ?_
    show Steps p.tables e below (T1.setTop (mkF m 7 #[.val (.ref a), .val (.int b)] [])) _
    refine XS.iloadN X1.here hx rfl (hb hby d1_7) rfl ?_
    show Steps p.tables e below (T1.setTop (mkF m 8 #[.val (.ref a), .val (.int b)] [(.int b)])) _
    refine XS.iconst X1.here hx rfl (hb hby d1_8) ?_
    show Steps p.tables e below (T1.setTop (mkF m 9 #[.val (.ref a), .val (.int b)] [(.int (1 : Int32)), (.int b)])) _
    refine XS.icmpNo X1.here hx rfl (hb hby d1_9) rfl (flt h9).1 ?_
    show Steps p.tables e below (T1.setTop (mkF m 12 #[.val (.ref a), .val (.int b)] [])) _
    refine XS.iloadN X1.here hx rfl (hb hby d1_12) rfl ?_
    show Steps p.tables e below (T1.setTop (mkF m 13 #[.val (.ref a), .val (.int b)] [(.int b)])) _
    refine XS.aloadN X1.here hx rfl (hb hby d1_13) rfl rfl ?_
    show Steps p.tables e below (T1.setTop (mkF m 14 #[.val (.ref a), .val (.int b)] [(.ref a), (.int b)])) _
    refine st2 _ ?_
    show Steps p.tables e below (T2.setTop (mkF m 17 #[.val (.ref a), .val (.int b)] [(.int wd), (.int b)])) _
    refine XS.icmpNo X2.here hx rfl (hb hby d1_17) rfl (flt h17).2.2.1 ?_
    show Steps p.tables e below (T2.setTop (mkF m 20 #[.val (.ref a), .val (.int b)] [])) _
    refine XS.iconst X2.here hx rfl (hb hby d1_20) ?_
    show Steps p.tables e below (T2.setTop (mkF m 21 #[.val (.ref a), .val (.int b)] [(.int (1 : Int32))])) _
    refine XS.goto X2.here hx rfl (pc0 := 21) (pc' := 41) rfl (hb hby d1_21) (by decide) (by decide) ?_
    show Steps p.tables e below (T2.setTop (mkF m 41 #[.val (.ref a), .val (.int b)] [(.int (1 : Int32))])) _
    exact retN X2 hx (t := .boolean) Bd.returns (by simp) (hb hby d1_41) hr
  · show PQ (.int (1 : Int32)) h0 n0 _ T2.heap _
    exact ⟨rfl, N0, e2⟩

theorem d1_28 : decode prog_51_method_14_code 28 = .ok (.iload_n 1, 1) := by decide +kernel
theorem d1_29 : decode prog_51_method_14_code 29 = .ok (.aload_n 0, 1) := by decide +kernel
theorem d1_30 : decode prog_51_method_14_code 30 = .ok (.getfield 58, 3) := by decide +kernel
theorem d1_33 : decode prog_51_method_14_code 33 = .ok (.if_icmp .ne 7, 3) := by decide +kernel
theorem d1_40 : decode prog_51_method_14_code 40 = .ok (.iconst 0, 1) := by decide +kernel
set_option maxRecDepth 65536 in
set_option maxHeartbeats 40000000 in
theorem al_ne (l : Launch) (Z : State) (a0 : Array Value) (hw : ∀ d ∈ tables_1, d.before a0 Z = true) (a : Addr) (b wd : Int32) (h0 : Heap) (n0 : Nat) (Z0 : n0 ≤ h0.size) (Fs : Fld Z h0 a "com/example/cairnstore/cairnstore/store/PrimitiveType" "shaved" "Z" (.int 0)) (Fw : Fld Z h0 a "com/example/cairnstore/cairnstore/store/PrimitiveType" "width" "I" (.int wd)) (h33 : ¬ (b = wd)) :
    Pays l Z h0 n0 (⟨"com/example/cairnstore/cairnstore/store/PrimitiveType", "allowsBitsPerElement", "(I)Z"⟩ : MethodName) [Jvm.Cond.code (⟨"com/example/cairnstore/cairnstore/store/PrimitiveType", "allowsBitsPerElement", "(I)Z"⟩ : MethodName) prog_51_method_14_code 2 (some .boolean)] R0 #[(.ref a), (.int b)] (.int (0 : Int32)) := by
  refine MetFree.of_bodySF (plainFor_of_name pn_PrimitiveType) hisR ?_
  intro p e s m args below meth c s₁ Bd hml0 hP hK
  obtain ⟨rfl, hZ, hh⟩ := hP
  have hx := Bd.exec
  have hby := Bd.bytes
  have hml : c.maxLocals = 2 := hml0
  have hown : s.vm.findClass "com/example/cairnstore/cairnstore/store/PrimitiveType" = some m.cls := findClass_of_methodNamed Bd.named
  have X0 : Stand p l e R0 s m #[(.ref a), (.int b)] below meth c s₁ [] 0 0 := Stand.of_body Bd
  have e0 : s₁.heap = h0 := by rw [← hh, Bd.state]; rfl
  have N0 := Fr.nil n0
  have pre0 : ∀ t, Steps p.tables e below (s₁.setTop (mkF m 0 #[.val (.ref a), .val (.int b)] [])) t → Steps p.tables e below (s₁.setTop (entryFrame m #[(.ref a), (.int b)] 2)) t := fun t k => castTop (ef_1 m a b) k
  obtain ⟨T1, X1, e1, st1⟩ := getF X0 hx hZ hown (host := "") (Or.inl (hw _ (List.mem_of_getElem? (i := 8) rfl))) Via.refl e0 Fs (g := (mkF m 1 #[.val (.ref a), .val (.int b)] [(.ref a)])) rfl rfl (hb hby d1_1)
  obtain ⟨T2, X2, e2, st2⟩ := getF X1 hx hZ hown (host := "") (Or.inl (hw _ (List.mem_of_getElem? (i := 10) rfl))) Via.refl e1 Fw (g := (mkF m 30 #[.val (.ref a), .val (.int b)] [(.ref a), (.int b)])) rfl rfl (hb hby d1_30)
  obtain ⟨fs, hr, hrun, hended, hW, hsame⟩ := X2.leave (v := some (.int (0 : Int32))) (fun h => by rw [Bd.returns] at h; cases h)
  refine ⟨_, _, pre0 _ ?_, hrun, hended, _, _, rfl, ?_, ⟨_, rfl⟩, hW, hsame.mono (by decide) (by decide)⟩
  · show Steps p.tables e below (s₁.setTop (mkF m 0 #[.val (.ref a), .val (.int b)] [])) _
    refine XS.aloadN X0.here hx rfl (hb hby d1_0) rfl rfl ?_
    show Steps p.tables e below (s₁.setTop (mkF m 1 #[.val (.ref a), .val (.int b)] [(.ref a)])) _
    refine st1 _ ?_
    show Steps p.tables e below (T1.setTop (mkF m 4 #[.val (.ref a), .val (.int b)] [(.int (0 : Int32))])) _
    refine XS.ifYes X1.here hx rfl (pc0 := 4) (pc' := 28) rfl (hb hby d1_4) rfl (by decide) (by decide) (by decide) ?_
    show Steps p.tables e below (T1.setTop (mkF m 28 #[.val (.ref a), .val (.int b)] [])) _
    refine XS.iloadN X1.here hx rfl (hb hby d1_28) rfl ?_
    show Steps p.tables e below (T1.setTop (mkF m 29 #[.val (.ref a), .val (.int b)] [(.int b)])) _
    refine XS.aloadN X1.here hx rfl (hb hby d1_29) rfl rfl ?_
    show Steps p.tables e below (T1.setTop (mkF m 30 #[.val (.ref a), .val (.int b)] [(.ref a), (.int b)])) _
    refine st2 _ ?_
    show Steps p.tables e below (T2.setTop (mkF m 33 #[.val (.ref a), .val (.int b)] [(.int wd), (.int b)])) _
    refine XS.icmpYes X2.here hx rfl (pc0 := 33) (pc' := 40) rfl (hb hby d1_33) rfl (feq h33).2 (by decide) (by decide) ?_
    show Steps p.tables e below (T2.setTop (mkF m 40 #[.val (.ref a), .val (.int b)] [])) _
    refine XS.iconst X2.here hx rfl (hb hby d1_40) ?_
    show Steps p.tables e below (T2.setTop (mkF m 41 #[.val (.ref a), .val (.int b)] [(.int (0 : Int32))])) _
    exact retN X2 hx (t := .boolean) Bd.returns (by simp) (hb hby d1_41) hr
  · show PQ (.int (0 : Int32)) h0 n0 _ T2.heap _
    exact ⟨rfl, N0, e2⟩

theorem d1_36 : decode prog_51_method_14_code 36 = .ok (.iconst 1, 1) := by decide +kernel
theorem d1_37 : decode prog_51_method_14_code 37 = .ok (.goto 4, 3) := by decide +kernel
set_option maxRecDepth 65536 in
set_option maxHeartbeats 40000000 in
theorem al_eq (l : Launch) (Z : State) (a0 : Array Value) (hw : ∀ d ∈ tables_1, d.before a0 Z = true) (a : Addr) (b wd : Int32) (h0 : Heap) (n0 : Nat) (Z0 : n0 ≤ h0.size) (Fs : Fld Z h0 a "com/example/cairnstore/cairnstore/store/PrimitiveType" "shaved" "Z" (.int 0)) (Fw : Fld Z h0 a "com/example/cairnstore/cairnstore/store/PrimitiveType" "width" "I" (.int wd)) (h33 : b = wd) :
    Pays l Z h0 n0 (⟨"com/example/cairnstore/cairnstore/store/PrimitiveType", "allowsBitsPerElement", "(I)Z"⟩ : MethodName) [Jvm.Cond.code (⟨"com/example/cairnstore/cairnstore/store/PrimitiveType", "allowsBitsPerElement", "(I)Z"⟩ : MethodName) prog_51_method_14_code 2 (some .boolean)] R0 #[(.ref a), (.int b)] (.int (1 : Int32)) := by
  refine MetFree.of_bodySF (plainFor_of_name pn_PrimitiveType) hisR ?_
  intro p e s m args below meth c s₁ Bd hml0 hP hK
  obtain ⟨rfl, hZ, hh⟩ := hP
  have hx := Bd.exec
  have hby := Bd.bytes
  have hml : c.maxLocals = 2 := hml0
  have hown : s.vm.findClass "com/example/cairnstore/cairnstore/store/PrimitiveType" = some m.cls := findClass_of_methodNamed Bd.named
  have X0 : Stand p l e R0 s m #[(.ref a), (.int b)] below meth c s₁ [] 0 0 := Stand.of_body Bd
  have e0 : s₁.heap = h0 := by rw [← hh, Bd.state]; rfl
  have N0 := Fr.nil n0
  have pre0 : ∀ t, Steps p.tables e below (s₁.setTop (mkF m 0 #[.val (.ref a), .val (.int b)] [])) t → Steps p.tables e below (s₁.setTop (entryFrame m #[(.ref a), (.int b)] 2)) t := fun t k => castTop (ef_1 m a b) k
  obtain ⟨T1, X1, e1, st1⟩ := getF X0 hx hZ hown (host := "") (Or.inl (hw _ (List.mem_of_getElem? (i := 8) rfl))) Via.refl e0 Fs (g := (mkF m 1 #[.val (.ref a), .val (.int b)] [(.ref a)])) rfl rfl (hb hby d1_1)
  obtain ⟨T2, X2, e2, st2⟩ := getF X1 hx hZ hown (host := "") (Or.inl (hw _ (List.mem_of_getElem? (i := 10) rfl))) Via.refl e1 Fw (g := (mkF m 30 #[.val (.ref a), .val (.int b)] [(.ref a), (.int b)])) rfl rfl (hb hby d1_30)
  obtain ⟨fs, hr, hrun, hended, hW, hsame⟩ := X2.leave (v := some (.int (1 : Int32))) (fun h => by rw [Bd.returns] at h; cases h)
  refine ⟨_, _, pre0 _ ?_, hrun, hended, _, _, rfl, ?_, ⟨_, rfl⟩, hW, hsame.mono (by decide) (by decide)⟩
  · show Steps p.tables e below (s₁.setTop (mkF m 0 #[.val (.ref a), .val (.int b)] [])) _
    refine XS.aloadN X0.here hx rfl (hb hby d1_0) rfl rfl ?_
    show Steps p.tables e below (s₁.setTop (mkF m 1 #[.val (.ref a), .val (.int b)] [(.ref a)])) _
    refine st1 _ ?_
    show Steps p.tables e below (T1.setTop (mkF m 4 #[.val (.ref a), .val (.int b)] [(.int (0 : Int32))])) _
    refine XS.ifYes X1.here hx rfl (pc0 := 4) (pc' := 28) rfl (hb hby d1_4) rfl (by decide) (by decide) (by decide) ?_
    show Steps p.tables e below (T1.setTop (mkF m 28 #[.val (.ref a), .val (.int b)] [])) _
    refine XS.iloadN X1.here hx rfl (hb hby d1_28) rfl ?_
    show Steps p.tables e below (T1.setTop (mkF m 29 #[.val (.ref a), .val (.int b)] [(.int b)])) _
    refine XS.aloadN X1.here hx rfl (hb hby d1_29) rfl rfl ?_
    show Steps p.tables e below (T1.setTop (mkF m 30 #[.val (.ref a), .val (.int b)] [(.ref a), (.int b)])) _
    refine st2 _ ?_
    show Steps p.tables e below (T2.setTop (mkF m 33 #[.val (.ref a), .val (.int b)] [(.int wd), (.int b)])) _
    refine XS.icmpNo X2.here hx rfl (hb hby d1_33) rfl (teq h33).2 ?_
    show Steps p.tables e below (T2.setTop (mkF m 36 #[.val (.ref a), .val (.int b)] [])) _
    refine XS.iconst X2.here hx rfl (hb hby d1_36) ?_
    show Steps p.tables e below (T2.setTop (mkF m 37 #[.val (.ref a), .val (.int b)] [(.int (1 : Int32))])) _
    refine XS.goto X2.here hx rfl (pc0 := 37) (pc' := 41) rfl (hb hby d1_37) (by decide) (by decide) ?_
    show Steps p.tables e below (T2.setTop (mkF m 41 #[.val (.ref a), .val (.int b)] [(.int (1 : Int32))])) _
    exact retN X2 hx (t := .boolean) Bd.returns (by simp) (hb hby d1_41) hr
  · show PQ (.int (1 : Int32)) h0 n0 _ T2.heap _
    exact ⟨rfl, N0, e2⟩

theorem pd__I_Z : parseMethodDescriptor "(I)Z" = some ⟨[.int], some .boolean⟩ := by decide +kernel
theorem pn_PrimitiveTypeAllowsBitsPerElementPinLaw : plainName "com/example/cairnstore/cairnstore/store/PrimitiveTypeAllowsBitsPerElementPinLaw" = true := by first | (simp [plainName, overriddenIn]; done) | decide +kernel
theorem ef_0 (m : MethodId) (x0 : Int32) (x1 : Int32) : entryFrame m #[(.int x0), (.int x1)] maxLocals = mkF m 0 #[.val (.int x0), .val (.int x1), .unset, .unset, .unset, .unset, .unset] [] := by first | (simp [entryFrame, mkF, argsToLocals, Value.category, maxLocals]; done) | rfl
set_option maxRecDepth 65536 in
set_option maxHeartbeats 40000000 in
theorem law_0_lo (l : Launch) (Z : State) (a0 : Array Value) (hw : ∀ d ∈ tables_1, d.before a0 Z = true) (ws : List Jvm.Cond) (p1 b : Int32) (a : Addr) (h0 : Heap) (n0 : Nat) (Z0 : n0 ≤ h0.size) (hi : p1 &&& (7 : Int32) = (0 : Int32)) (S_BOOLEAN : Sta Z h0 "com/example/cairnstore/cairnstore/store/PrimitiveType" "BOOLEAN" "Lcom/example/cairnstore/cairnstore/store/PrimitiveType;" (.ref a)) (EX : Exa Z h0 a "com/example/cairnstore/cairnstore/store/PrimitiveType$1") (C1 : Pays l Z h0 n0 (⟨"com/example/cairnstore/cairnstore/store/PrimitiveType", "allowsBitsPerElement", "(I)Z"⟩ : MethodName) [Jvm.Cond.code (⟨"com/example/cairnstore/cairnstore/store/PrimitiveType", "allowsBitsPerElement", "(I)Z"⟩ : MethodName) prog_51_method_14_code 2 (some .boolean)] R0 #[(.ref a), (.int b)] (.int (0 : Int32))) (h154 : ¬ ((0 : Int32) < b)) :
    Pays l Z h0 n0 x (Jvm.Cond.code x code maxLocals ret :: ws) room_1 #[(.int p1), (.int b)] (.int (1 : Int32)) := by
  refine MetFree.of_bodySF (plainFor_of_name pn_PrimitiveTypeAllowsBitsPerElementPinLaw) hisR ?_
  intro p e s m args below meth c s₁ Bd hml0 hP hK
  obtain ⟨rfl, hZ, hh⟩ := hP
  have hx := Bd.exec
  have hby := Bd.bytes
  have hml : c.maxLocals = 7 := hml0
  have hown : s.vm.findClass "com/example/cairnstore/cairnstore/store/PrimitiveTypeAllowsBitsPerElementPinLaw" = some m.cls := findClass_of_methodNamed Bd.named
  have X0 : Stand p l e room_1 s m #[(.int p1), (.int b)] below meth c s₁ [] 0 0 := Stand.of_body Bd
  have e0 : s₁.heap = h0 := by rw [← hh, Bd.state]; rfl
  have N0 := Fr.nil n0
  have pre0 : ∀ t, Steps p.tables e below (s₁.setTop (mkF m 0 #[.val (.int p1), .val (.int b), .unset, .unset, .unset, .unset, .unset] [])) t → Steps p.tables e below (s₁.setTop (entryFrame m #[(.int p1), (.int b)] maxLocals)) t := fun t k => castTop (ef_0 m p1 b) k
  obtain ⟨T1, X1, e1, st1⟩ := getS2 X0 hx hZ hown (host := "") (Or.inl (hw _ (List.mem_of_getElem? (i := 0) rfl))) Via.refl e0 S_BOOLEAN (g := (mkF m 9 #[.val (.int p1), .val (.int b), .val (.int (0 : Int32)), .unset, .unset, .unset, .unset] [])) rfl (hb hby at_9)
  obtain ⟨cq2, kq2, q2a, q2b, q2c⟩ := isOf hZ e1 EX
  obtain ⟨_, _, ⟨T2, L2, k2, n2⟩, -, X2, ⟨Lc2, hQ2, l2, y2, z2⟩, st2⟩ := X1.virtualBack hx (y := (⟨"com/example/cairnstore/cairnstore/store/PrimitiveType", "allowsBitsPerElement", "(I)Z"⟩ : MethodName)) (z := (⟨"com/example/cairnstore/cairnstore/store/PrimitiveType", "allowsBitsPerElement", "(I)Z"⟩ : MethodName)) hown (mvT hZ (hw _ (List.mem_of_getElem? (i := 3) rfl))) (mvT hZ (hw _ (List.mem_of_getElem? (i := 4) rfl))) (notFace_of_selects (args := #[]) (mvT hZ (hw _ (List.mem_of_getElem? (i := 6) rfl)))) (mvT hZ (hw _ (List.mem_of_getElem? (i := 6) rfl))) (mvT hZ (hw _ (List.mem_of_getElem? (i := 5) rfl))) (by decide) (backOf (W := 0) (Q := PQ (.int (0 : Int32)) h0 n0) C1 hZ (hw _ (List.mem_of_getElem? (i := 7) rfl)) (hw _ (List.mem_of_getElem? (i := 1) rfl)) (by decide) (by decide)) q2a q2c (g := (mkF m 190 #[.val (.int p1), .val (.int b), .val (.int (0 : Int32)), .val (.ref a), .val (.int (1 : Int32)), .val (.int (1 : Int32)), .val (.int (0 : Int32))] [(.int b), (.ref a)])) rfl (by rw [hml]; rfl) (Steps.refl _) (argsL := [(.int b)]) (rest := []) (lenOf pd__I_Z rfl) rfl (by show 2 * 0 + _ ≤ _; exact Nat.le_of_eq rfl) (hb hby at_190) (fun _ _ => ⟨rfl, e1, (by decide : 0 + 0 ≤ _), (by decide : 0 + 0 ≤ _)⟩)
  dsimp only [Pt.U, Pt.locs, Pt.cells, Pt.slots] at X2 l2 y2 z2 st2 hQ2
  subst l2 y2 z2
  obtain ⟨rfl, Nq2, e2⟩ := hQ2
  have N2 := Fr.app N0 Nq2
  obtain ⟨fs, hr, hrun, hended, hW, hsame⟩ := X2.leave (v := some (.int (1 : Int32))) (fun h => by rw [Bd.returns] at h; cases h)
  refine ⟨_, _, pre0 _ ?_, hrun, hended, _, _, rfl, ?_, ⟨_, rfl⟩, hW, hsame.mono (by decide) (by decide)⟩
  · show Steps p.tables e below (s₁.setTop (mkF m 0 #[.val (.int p1), .val (.int b), .unset, .unset, .unset, .unset, .unset] [])) _
    refine XS.iloadN X0.here hx rfl (hb hby at_0) rfl ?_
    show Steps p.tables e below (s₁.setTop (mkF m 1 #[.val (.int p1), .val (.int b), .unset, .unset, .unset, .unset, .unset] [(.int p1)])) _
    refine XS.bipush X0.here hx rfl (hb hby at_1) ?_
    show Steps p.tables e below (s₁.setTop (mkF m 3 #[.val (.int p1), .val (.int b), .unset, .unset, .unset, .unset, .unset] [(.int (7 : Int32)), (.int p1)])) _
    refine XS.iand X0.here hx rfl (hb hby at_3) rfl ?_
    show Steps p.tables e below (s₁.setTop (mkF m 4 #[.val (.int p1), .val (.int b), .unset, .unset, .unset, .unset, .unset] [(.int (p1 &&& (7 : Int32)))])) _
    rw [hi]
    show Steps p.tables e below (s₁.setTop (mkF m 4 #[.val (.int p1), .val (.int b), .unset, .unset, .unset, .unset, .unset] [(.int (0 : Int32))])) _
    refine XS.istoreN X0.here hx rfl (hb hby at_4) rfl (l' := #[.val (.int p1), .val (.int b), .val (.int (0 : Int32)), .unset, .unset, .unset, .unset]) rfl ?_
    show Steps p.tables e below (s₁.setTop (mkF m 5 #[.val (.int p1), .val (.int b), .val (.int (0 : Int32)), .unset, .unset, .unset, .unset] [])) _
    refine XS.iloadN X0.here hx rfl (hb hby at_5) rfl ?_
    show Steps p.tables e below (s₁.setTop (mkF m 6 #[.val (.int p1), .val (.int b), .val (.int (0 : Int32)), .unset, .unset, .unset, .unset] [(.int (0 : Int32))])) _
    refine XS.ifNo X0.here hx rfl (hb hby at_6) rfl (by decide) ?_
    show Steps p.tables e below (s₁.setTop (mkF m 9 #[.val (.int p1), .val (.int b), .val (.int (0 : Int32)), .unset, .unset, .unset, .unset] [])) _
    refine st1 _ ?_
    show Steps p.tables e below (T1.setTop (mkF m 12 #[.val (.int p1), .val (.int b), .val (.int (0 : Int32)), .unset, .unset, .unset, .unset] [(.ref a)])) _
    refine XS.astoreN X1.here hx rfl (hb hby at_12) rfl rfl (l' := #[.val (.int p1), .val (.int b), .val (.int (0 : Int32)), .val (.ref a), .unset, .unset, .unset]) rfl ?_
    show Steps p.tables e below (T1.setTop (mkF m 13 #[.val (.int p1), .val (.int b), .val (.int (0 : Int32)), .val (.ref a), .unset, .unset, .unset] [])) _
    refine XS.iconst X1.here hx rfl (hb hby at_13) ?_
    show Steps p.tables e below (T1.setTop (mkF m 14 #[.val (.int p1), .val (.int b), .val (.int (0 : Int32)), .val (.ref a), .unset, .unset, .unset] [(.int (1 : Int32))])) _
    refine XS.istore X1.here hx rfl (hb hby at_14) rfl (l' := #[.val (.int p1), .val (.int b), .val (.int (0 : Int32)), .val (.ref a), .val (.int (1 : Int32)), .unset, .unset]) rfl ?_
    show Steps p.tables e below (T1.setTop (mkF m 16 #[.val (.int p1), .val (.int b), .val (.int (0 : Int32)), .val (.ref a), .val (.int (1 : Int32)), .unset, .unset] [])) _
    refine XS.iconst X1.here hx rfl (hb hby at_16) ?_
    show Steps p.tables e below (T1.setTop (mkF m 17 #[.val (.int p1), .val (.int b), .val (.int (0 : Int32)), .val (.ref a), .val (.int (1 : Int32)), .unset, .unset] [(.int (1 : Int32))])) _
    refine XS.istore X1.here hx rfl (hb hby at_17) rfl (l' := #[.val (.int p1), .val (.int b), .val (.int (0 : Int32)), .val (.ref a), .val (.int (1 : Int32)), .val (.int (1 : Int32)), .unset]) rfl ?_
    show Steps p.tables e below (T1.setTop (mkF m 19 #[.val (.int p1), .val (.int b), .val (.int (0 : Int32)), .val (.ref a), .val (.int (1 : Int32)), .val (.int (1 : Int32)), .unset] [])) _
    refine XS.goto X1.here hx rfl (pc0 := 19) (pc' := 148) rfl (hb hby at_19) (by decide) (by decide) ?_
    show Steps p.tables e below (T1.setTop (mkF m 148 #[.val (.int p1), .val (.int b), .val (.int (0 : Int32)), .val (.ref a), .val (.int (1 : Int32)), .val (.int (1 : Int32)), .unset] [])) _
    refine XS.iload X1.here hx rfl (hb hby at_148) rfl ?_
    show Steps p.tables e below (T1.setTop (mkF m 150 #[.val (.int p1), .val (.int b), .val (.int (0 : Int32)), .val (.ref a), .val (.int (1 : Int32)), .val (.int (1 : Int32)), .unset] [(.int (1 : Int32))])) _
    refine XS.ifNo X1.here hx rfl (hb hby at_150) rfl (by decide) ?_
    show Steps p.tables e below (T1.setTop (mkF m 153 #[.val (.int p1), .val (.int b), .val (.int (0 : Int32)), .val (.ref a), .val (.int (1 : Int32)), .val (.int (1 : Int32)), .unset] [])) _
    refine XS.iloadN X1.here hx rfl (hb hby at_153) rfl ?_
    show Steps p.tables e below (T1.setTop (mkF m 154 #[.val (.int p1), .val (.int b), .val (.int (0 : Int32)), .val (.ref a), .val (.int (1 : Int32)), .val (.int (1 : Int32)), .unset] [(.int b)])) _
    refine XS.ifYes X1.here hx rfl (pc0 := 154) (pc' := 169) rfl (hb hby at_154) rfl ((if0 _ _).trans (flt h154).2.2.2) (by decide) (by decide) ?_
    show Steps p.tables e below (T1.setTop (mkF m 169 #[.val (.int p1), .val (.int b), .val (.int (0 : Int32)), .val (.ref a), .val (.int (1 : Int32)), .val (.int (1 : Int32)), .unset] [])) _
    refine XS.iconst X1.here hx rfl (hb hby at_169) ?_
    show Steps p.tables e below (T1.setTop (mkF m 170 #[.val (.int p1), .val (.int b), .val (.int (0 : Int32)), .val (.ref a), .val (.int (1 : Int32)), .val (.int (1 : Int32)), .unset] [(.int (0 : Int32))])) _
    refine XS.istore X1.here hx rfl (hb hby at_170) rfl (l' := #[.val (.int p1), .val (.int b), .val (.int (0 : Int32)), .val (.ref a), .val (.int (1 : Int32)), .val (.int (1 : Int32)), .val (.int (0 : Int32))]) rfl ?_
    show Steps p.tables e below (T1.setTop (mkF m 172 #[.val (.int p1), .val (.int b), .val (.int (0 : Int32)), .val (.ref a), .val (.int (1 : Int32)), .val (.int (1 : Int32)), .val (.int (0 : Int32))] [])) _
    refine XS.goto X1.here hx rfl (pc0 := 172) (pc' := 188) rfl (hb hby at_172) (by decide) (by decide) ?_
    show Steps p.tables e below (T1.setTop (mkF m 188 #[.val (.int p1), .val (.int b), .val (.int (0 : Int32)), .val (.ref a), .val (.int (1 : Int32)), .val (.int (1 : Int32)), .val (.int (0 : Int32))] [])) _
    refine XS.aloadN X1.here hx rfl (hb hby at_188) rfl rfl ?_
    show Steps p.tables e below (T1.setTop (mkF m 189 #[.val (.int p1), .val (.int b), .val (.int (0 : Int32)), .val (.ref a), .val (.int (1 : Int32)), .val (.int (1 : Int32)), .val (.int (0 : Int32))] [(.ref a)])) _
    refine XS.iloadN X1.here hx rfl (hb hby at_189) rfl ?_
    show Steps p.tables e below (T1.setTop (mkF m 190 #[.val (.int p1), .val (.int b), .val (.int (0 : Int32)), .val (.ref a), .val (.int (1 : Int32)), .val (.int (1 : Int32)), .val (.int (0 : Int32))] [(.int b), (.ref a)])) _
    refine st2.trans ?_
    show Steps p.tables e below (T2.setTop (mkF m 193 #[.val (.int p1), .val (.int b), .val (.int (0 : Int32)), .val (.ref a), .val (.int (1 : Int32)), .val (.int (1 : Int32)), .val (.int (0 : Int32))] [(.int (0 : Int32))])) _
    refine XS.iload X2.here hx rfl (hb hby at_193) rfl ?_
    show Steps p.tables e below (T2.setTop (mkF m 195 #[.val (.int p1), .val (.int b), .val (.int (0 : Int32)), .val (.ref a), .val (.int (1 : Int32)), .val (.int (1 : Int32)), .val (.int (0 : Int32))] [(.int (0 : Int32)), (.int (0 : Int32))])) _
    refine XS.icmpNo X2.here hx rfl (hb hby at_195) rfl (by decide) ?_
    show Steps p.tables e below (T2.setTop (mkF m 198 #[.val (.int p1), .val (.int b), .val (.int (0 : Int32)), .val (.ref a), .val (.int (1 : Int32)), .val (.int (1 : Int32)), .val (.int (0 : Int32))] [])) _
    refine XS.iconst X2.here hx rfl (hb hby at_198) ?_
    show Steps p.tables e below (T2.setTop (mkF m 199 #[.val (.int p1), .val (.int b), .val (.int (0 : Int32)), .val (.ref a), .val (.int (1 : Int32)), .val (.int (1 : Int32)), .val (.int (0 : Int32))] [(.int (1 : Int32))])) _
    refine XS.goto X2.here hx rfl (pc0 := 199) (pc' := 203) rfl (hb hby at_199) (by decide) (by decide) ?_
    show Steps p.tables e below (T2.setTop (mkF m 203 #[.val (.int p1), .val (.int b), .val (.int (0 : Int32)), .val (.ref a), .val (.int (1 : Int32)), .val (.int (1 : Int32)), .val (.int (0 : Int32))] [(.int (1 : Int32))])) _
    exact retN X2 hx (t := .boolean) Bd.returns (by simp) (hb hby at_203) hr
  · show PQ (.int (1 : Int32)) h0 n0 _ T2.heap _
    exact ⟨rfl, N2, e2⟩

set_option maxRecDepth 65536 in
set_option maxHeartbeats 40000000 in
theorem law_0_hi (l : Launch) (Z : State) (a0 : Array Value) (hw : ∀ d ∈ tables_1, d.before a0 Z = true) (ws : List Jvm.Cond) (p1 b : Int32) (a : Addr) (h0 : Heap) (n0 : Nat) (Z0 : n0 ≤ h0.size) (hi : p1 &&& (7 : Int32) = (0 : Int32)) (S_BOOLEAN : Sta Z h0 "com/example/cairnstore/cairnstore/store/PrimitiveType" "BOOLEAN" "Lcom/example/cairnstore/cairnstore/store/PrimitiveType;" (.ref a)) (EX : Exa Z h0 a "com/example/cairnstore/cairnstore/store/PrimitiveType$1") (C1 : Pays l Z h0 n0 (⟨"com/example/cairnstore/cairnstore/store/PrimitiveType", "allowsBitsPerElement", "(I)Z"⟩ : MethodName) [Jvm.Cond.code (⟨"com/example/cairnstore/cairnstore/store/PrimitiveType", "allowsBitsPerElement", "(I)Z"⟩ : MethodName) prog_51_method_14_code 2 (some .boolean)] R0 #[(.ref a), (.int b)] (.int (0 : Int32))) (h154 : (0 : Int32) < b) (h162 : ¬ (b < (1 : Int32) + (1 : Int32))) :
    Pays l Z h0 n0 x (Jvm.Cond.code x code maxLocals ret :: ws) room_1 #[(.int p1), (.int b)] (.int (1 : Int32)) := by
  refine MetFree.of_bodySF (plainFor_of_name pn_PrimitiveTypeAllowsBitsPerElementPinLaw) hisR ?_
  intro p e s m args below meth c s₁ Bd hml0 hP hK
  obtain ⟨rfl, hZ, hh⟩ := hP
  have hx := Bd.exec
  have hby := Bd.bytes
  have hml : c.maxLocals = 7 := hml0
  have hown : s.vm.findClass "com/example/cairnstore/cairnstore/store/PrimitiveTypeAllowsBitsPerElementPinLaw" = some m.cls := findClass_of_methodNamed Bd.named
  have X0 : Stand p l e room_1 s m #[(.int p1), (.int b)] below meth c s₁ [] 0 0 := Stand.of_body Bd
  have e0 : s₁.heap = h0 := by rw [← hh, Bd.state]; rfl
  have N0 := Fr.nil n0
  have pre0 : ∀ t, Steps p.tables e below (s₁.setTop (mkF m 0 #[.val (.int p1), .val (.int b), .unset, .unset, .unset, .unset, .unset] [])) t → Steps p.tables e below (s₁.setTop (entryFrame m #[(.int p1), (.int b)] maxLocals)) t := fun t k => castTop (ef_0 m p1 b) k
  obtain ⟨T1, X1, e1, st1⟩ := getS2 X0 hx hZ hown (host := "") (Or.inl (hw _ (List.mem_of_getElem? (i := 0) rfl))) Via.refl e0 S_BOOLEAN (g := (mkF m 9 #[.val (.int p1), .val (.int b), .val (.int (0 : Int32)), .unset, .unset, .unset, .unset] [])) rfl (hb hby at_9)
  obtain ⟨cq2, kq2, q2a, q2b, q2c⟩ := isOf hZ e1 EX
  obtain ⟨_, _, ⟨T2, L2, k2, n2⟩, -, X2, ⟨Lc2, hQ2, l2, y2, z2⟩, st2⟩ := X1.virtualBack hx (y := (⟨"com/example/cairnstore/cairnstore/store/PrimitiveType", "allowsBitsPerElement", "(I)Z"⟩ : MethodName)) (z := (⟨"com/example/cairnstore/cairnstore/store/PrimitiveType", "allowsBitsPerElement", "(I)Z"⟩ : MethodName)) hown (mvT hZ (hw _ (List.mem_of_getElem? (i := 3) rfl))) (mvT hZ (hw _ (List.mem_of_getElem? (i := 4) rfl))) (notFace_of_selects (args := #[]) (mvT hZ (hw _ (List.mem_of_getElem? (i := 6) rfl)))) (mvT hZ (hw _ (List.mem_of_getElem? (i := 6) rfl))) (mvT hZ (hw _ (List.mem_of_getElem? (i := 5) rfl))) (by decide) (backOf (W := 0) (Q := PQ (.int (0 : Int32)) h0 n0) C1 hZ (hw _ (List.mem_of_getElem? (i := 7) rfl)) (hw _ (List.mem_of_getElem? (i := 1) rfl)) (by decide) (by decide)) q2a q2c (g := (mkF m 190 #[.val (.int p1), .val (.int b), .val (.int (0 : Int32)), .val (.ref a), .val (.int (1 : Int32)), .val (.int (1 : Int32)), .val (.int (0 : Int32))] [(.int b), (.ref a)])) rfl (by rw [hml]; rfl) (Steps.refl _) (argsL := [(.int b)]) (rest := []) (lenOf pd__I_Z rfl) rfl (by show 2 * 0 + _ ≤ _; exact Nat.le_of_eq rfl) (hb hby at_190) (fun _ _ => ⟨rfl, e1, (by decide : 0 + 0 ≤ _), (by decide : 0 + 0 ≤ _)⟩)
  dsimp only [Pt.U, Pt.locs, Pt.cells, Pt.slots] at X2 l2 y2 z2 st2 hQ2
  subst l2 y2 z2
  obtain ⟨rfl, Nq2, e2⟩ := hQ2
  have N2 := Fr.app N0 Nq2
  obtain ⟨fs, hr, hrun, hended, hW, hsame⟩ := X2.leave (v := some (.int (1 : Int32))) (fun h => by rw [Bd.returns] at h; cases h)
  refine ⟨_, _, pre0 _ ?_, hrun, hended, _, _, rfl, ?_, ⟨_, rfl⟩, hW, hsame.mono (by decide) (by decide)⟩
  · show Steps p.tables e below (s₁.setTop (mkF m 0 #[.val (.int p1), .val (.int b), .unset, .unset, .unset, .unset, .unset] [])) _
    refine XS.iloadN X0.here hx rfl (hb hby at_0) rfl ?_
    show Steps p.tables e below (s₁.setTop (mkF m 1 #[.val (.int p1), .val (.int b), .unset, .unset, .unset, .unset, .unset] [(.int p1)])) _
    refine XS.bipush X0.here hx rfl (hb hby at_1) ?_
    show Steps p.tables e below (s₁.setTop (mkF m 3 #[.val (.int p1), .val (.int b), .unset, .unset, .unset, .unset, .unset] [(.int (7 : Int32)), (.int p1)])) _
    refine XS.iand X0.here hx rfl (hb hby at_3) rfl ?_
    show Steps p.tables e below (s₁.setTop (mkF m 4 #[.val (.int p1), .val (.int b), .unset, .unset, .unset, .unset, .unset] [(.int (p1 &&& (7 : Int32)))])) _
    rw [hi]
    show Steps p.tables e below (s₁.setTop (mkF m 4 #[.val (.int p1), .val (.int b), .unset, .unset, .unset, .unset, .unset] [(.int (0 : Int32))])) _
    refine XS.istoreN X0.here hx rfl (hb hby at_4) rfl (l' := #[.val (.int p1), .val (.int b), .val (.int (0 : Int32)), .unset, .unset, .unset, .unset]) rfl ?_
    show Steps p.tables e below (s₁.setTop (mkF m 5 #[.val (.int p1), .val (.int b), .val (.int (0 : Int32)), .unset, .unset, .unset, .unset] [])) _
    refine XS.iloadN X0.here hx rfl (hb hby at_5) rfl ?_
    show Steps p.tables e below (s₁.setTop (mkF m 6 #[.val (.int p1), .val (.int b), .val (.int (0 : Int32)), .unset, .unset, .unset, .unset] [(.int (0 : Int32))])) _
    refine XS.ifNo X0.here hx rfl (hb hby at_6) rfl (by decide) ?_
    show Steps p.tables e below (s₁.setTop (mkF m 9 #[.val (.int p1), .val (.int b), .val (.int (0 : Int32)), .unset, .unset, .unset, .unset] [])) _
    refine st1 _ ?_
    show Steps p.tables e below (T1.setTop (mkF m 12 #[.val (.int p1), .val (.int b), .val (.int (0 : Int32)), .unset, .unset, .unset, .unset] [(.ref a)])) _
    refine XS.astoreN X1.here hx rfl (hb hby at_12) rfl rfl (l' := #[.val (.int p1), .val (.int b), .val (.int (0 : Int32)), .val (.ref a), .unset, .unset, .unset]) rfl ?_
    show Steps p.tables e below (T1.setTop (mkF m 13 #[.val (.int p1), .val (.int b), .val (.int (0 : Int32)), .val (.ref a), .unset, .unset, .unset] [])) _
    refine XS.iconst X1.here hx rfl (hb hby at_13) ?_
    show Steps p.tables e below (T1.setTop (mkF m 14 #[.val (.int p1), .val (.int b), .val (.int (0 : Int32)), .val (.ref a), .unset, .unset, .unset] [(.int (1 : Int32))])) _
    refine XS.istore X1.here hx rfl (hb hby at_14) rfl (l' := #[.val (.int p1), .val (.int b), .val (.int (0 : Int32)), .val (.ref a), .val (.int (1 : Int32)), .unset, .unset]) rfl ?_
    show Steps p.tables e below (T1.setTop (mkF m 16 #[.val (.int p1), .val (.int b), .val (.int (0 : Int32)), .val (.ref a), .val (.int (1 : Int32)), .unset, .unset] [])) _
    refine XS.iconst X1.here hx rfl (hb hby at_16) ?_
    show Steps p.tables e below (T1.setTop (mkF m 17 #[.val (.int p1), .val (.int b), .val (.int (0 : Int32)), .val (.ref a), .val (.int (1 : Int32)), .unset, .unset] [(.int (1 : Int32))])) _
    refine XS.istore X1.here hx rfl (hb hby at_17) rfl (l' := #[.val (.int p1), .val (.int b), .val (.int (0 : Int32)), .val (.ref a), .val (.int (1 : Int32)), .val (.int (1 : Int32)), .unset]) rfl ?_
    show Steps p.tables e below (T1.setTop (mkF m 19 #[.val (.int p1), .val (.int b), .val (.int (0 : Int32)), .val (.ref a), .val (.int (1 : Int32)), .val (.int (1 : Int32)), .unset] [])) _
    refine XS.goto X1.here hx rfl (pc0 := 19) (pc' := 148) rfl (hb hby at_19) (by decide) (by decide) ?_
    show Steps p.tables e below (T1.setTop (mkF m 148 #[.val (.int p1), .val (.int b), .val (.int (0 : Int32)), .val (.ref a), .val (.int (1 : Int32)), .val (.int (1 : Int32)), .unset] [])) _
    refine XS.iload X1.here hx rfl (hb hby at_148) rfl ?_
    show Steps p.tables e below (T1.setTop (mkF m 150 #[.val (.int p1), .val (.int b), .val (.int (0 : Int32)), .val (.ref a), .val (.int (1 : Int32)), .val (.int (1 : Int32)), .unset] [(.int (1 : Int32))])) _
    refine XS.ifNo X1.here hx rfl (hb hby at_150) rfl (by decide) ?_
    show Steps p.tables e below (T1.setTop (mkF m 153 #[.val (.int p1), .val (.int b), .val (.int (0 : Int32)), .val (.ref a), .val (.int (1 : Int32)), .val (.int (1 : Int32)), .unset] [])) _
    refine XS.iloadN X1.here hx rfl (hb hby at_153) rfl ?_
    show Steps p.tables e below (T1.setTop (mkF m 154 #[.val (.int p1), .val (.int b), .val (.int (0 : Int32)), .val (.ref a), .val (.int (1 : Int32)), .val (.int (1 : Int32)), .unset] [(.int b)])) _
    refine XS.ifNo X1.here hx rfl (hb hby at_154) rfl ((if0 _ _).trans (tlt h154).2.2.2) ?_
    show Steps p.tables e below (T1.setTop (mkF m 157 #[.val (.int p1), .val (.int b), .val (.int (0 : Int32)), .val (.ref a), .val (.int (1 : Int32)), .val (.int (1 : Int32)), .unset] [])) _
    refine XS.iloadN X1.here hx rfl (hb hby at_157) rfl ?_
    show Steps p.tables e below (T1.setTop (mkF m 158 #[.val (.int p1), .val (.int b), .val (.int (0 : Int32)), .val (.ref a), .val (.int (1 : Int32)), .val (.int (1 : Int32)), .unset] [(.int b)])) _
    refine XS.iload X1.here hx rfl (hb hby at_158) rfl ?_
    show Steps p.tables e below (T1.setTop (mkF m 160 #[.val (.int p1), .val (.int b), .val (.int (0 : Int32)), .val (.ref a), .val (.int (1 : Int32)), .val (.int (1 : Int32)), .unset] [(.int (1 : Int32)), (.int b)])) _
    refine XS.iconst X1.here hx rfl (hb hby at_160) ?_
    show Steps p.tables e below (T1.setTop (mkF m 161 #[.val (.int p1), .val (.int b), .val (.int (0 : Int32)), .val (.ref a), .val (.int (1 : Int32)), .val (.int (1 : Int32)), .unset] [(.int (1 : Int32)), (.int (1 : Int32)), (.int b)])) _
    refine XS.iadd X1.here hx rfl (hb hby at_161) rfl ?_
    show Steps p.tables e below (T1.setTop (mkF m 162 #[.val (.int p1), .val (.int b), .val (.int (0 : Int32)), .val (.ref a), .val (.int (1 : Int32)), .val (.int (1 : Int32)), .unset] [(.int ((1 : Int32) + (1 : Int32))), (.int b)])) _
    refine XS.icmpYes X1.here hx rfl (pc0 := 162) (pc' := 169) rfl (hb hby at_162) rfl (flt h162).2.1 (by decide) (by decide) ?_
    show Steps p.tables e below (T1.setTop (mkF m 169 #[.val (.int p1), .val (.int b), .val (.int (0 : Int32)), .val (.ref a), .val (.int (1 : Int32)), .val (.int (1 : Int32)), .unset] [])) _
    refine XS.iconst X1.here hx rfl (hb hby at_169) ?_
    show Steps p.tables e below (T1.setTop (mkF m 170 #[.val (.int p1), .val (.int b), .val (.int (0 : Int32)), .val (.ref a), .val (.int (1 : Int32)), .val (.int (1 : Int32)), .unset] [(.int (0 : Int32))])) _
    refine XS.istore X1.here hx rfl (hb hby at_170) rfl (l' := #[.val (.int p1), .val (.int b), .val (.int (0 : Int32)), .val (.ref a), .val (.int (1 : Int32)), .val (.int (1 : Int32)), .val (.int (0 : Int32))]) rfl ?_
    show Steps p.tables e below (T1.setTop (mkF m 172 #[.val (.int p1), .val (.int b), .val (.int (0 : Int32)), .val (.ref a), .val (.int (1 : Int32)), .val (.int (1 : Int32)), .val (.int (0 : Int32))] [])) _
    refine XS.goto X1.here hx rfl (pc0 := 172) (pc' := 188) rfl (hb hby at_172) (by decide) (by decide) ?_
    show Steps p.tables e below (T1.setTop (mkF m 188 #[.val (.int p1), .val (.int b), .val (.int (0 : Int32)), .val (.ref a), .val (.int (1 : Int32)), .val (.int (1 : Int32)), .val (.int (0 : Int32))] [])) _
    refine XS.aloadN X1.here hx rfl (hb hby at_188) rfl rfl ?_
    show Steps p.tables e below (T1.setTop (mkF m 189 #[.val (.int p1), .val (.int b), .val (.int (0 : Int32)), .val (.ref a), .val (.int (1 : Int32)), .val (.int (1 : Int32)), .val (.int (0 : Int32))] [(.ref a)])) _
    refine XS.iloadN X1.here hx rfl (hb hby at_189) rfl ?_
    show Steps p.tables e below (T1.setTop (mkF m 190 #[.val (.int p1), .val (.int b), .val (.int (0 : Int32)), .val (.ref a), .val (.int (1 : Int32)), .val (.int (1 : Int32)), .val (.int (0 : Int32))] [(.int b), (.ref a)])) _
    refine st2.trans ?_
    show Steps p.tables e below (T2.setTop (mkF m 193 #[.val (.int p1), .val (.int b), .val (.int (0 : Int32)), .val (.ref a), .val (.int (1 : Int32)), .val (.int (1 : Int32)), .val (.int (0 : Int32))] [(.int (0 : Int32))])) _
    refine XS.iload X2.here hx rfl (hb hby at_193) rfl ?_
    show Steps p.tables e below (T2.setTop (mkF m 195 #[.val (.int p1), .val (.int b), .val (.int (0 : Int32)), .val (.ref a), .val (.int (1 : Int32)), .val (.int (1 : Int32)), .val (.int (0 : Int32))] [(.int (0 : Int32)), (.int (0 : Int32))])) _
    refine XS.icmpNo X2.here hx rfl (hb hby at_195) rfl (by decide) ?_
    show Steps p.tables e below (T2.setTop (mkF m 198 #[.val (.int p1), .val (.int b), .val (.int (0 : Int32)), .val (.ref a), .val (.int (1 : Int32)), .val (.int (1 : Int32)), .val (.int (0 : Int32))] [])) _
    refine XS.iconst X2.here hx rfl (hb hby at_198) ?_
    show Steps p.tables e below (T2.setTop (mkF m 199 #[.val (.int p1), .val (.int b), .val (.int (0 : Int32)), .val (.ref a), .val (.int (1 : Int32)), .val (.int (1 : Int32)), .val (.int (0 : Int32))] [(.int (1 : Int32))])) _
    refine XS.goto X2.here hx rfl (pc0 := 199) (pc' := 203) rfl (hb hby at_199) (by decide) (by decide) ?_
    show Steps p.tables e below (T2.setTop (mkF m 203 #[.val (.int p1), .val (.int b), .val (.int (0 : Int32)), .val (.ref a), .val (.int (1 : Int32)), .val (.int (1 : Int32)), .val (.int (0 : Int32))] [(.int (1 : Int32))])) _
    exact retN X2 hx (t := .boolean) Bd.returns (by simp) (hb hby at_203) hr
  · show PQ (.int (1 : Int32)) h0 n0 _ T2.heap _
    exact ⟨rfl, N2, e2⟩

set_option maxRecDepth 65536 in
set_option maxHeartbeats 40000000 in
theorem law_0_in (l : Launch) (Z : State) (a0 : Array Value) (hw : ∀ d ∈ tables_1, d.before a0 Z = true) (ws : List Jvm.Cond) (p1 b : Int32) (a : Addr) (h0 : Heap) (n0 : Nat) (Z0 : n0 ≤ h0.size) (hi : p1 &&& (7 : Int32) = (0 : Int32)) (S_BOOLEAN : Sta Z h0 "com/example/cairnstore/cairnstore/store/PrimitiveType" "BOOLEAN" "Lcom/example/cairnstore/cairnstore/store/PrimitiveType;" (.ref a)) (EX : Exa Z h0 a "com/example/cairnstore/cairnstore/store/PrimitiveType$1") (C1 : Pays l Z h0 n0 (⟨"com/example/cairnstore/cairnstore/store/PrimitiveType", "allowsBitsPerElement", "(I)Z"⟩ : MethodName) [Jvm.Cond.code (⟨"com/example/cairnstore/cairnstore/store/PrimitiveType", "allowsBitsPerElement", "(I)Z"⟩ : MethodName) prog_51_method_14_code 2 (some .boolean)] R0 #[(.ref a), (.int b)] (.int (1 : Int32))) (h154 : (0 : Int32) < b) (h162 : b < (1 : Int32) + (1 : Int32)) :
    Pays l Z h0 n0 x (Jvm.Cond.code x code maxLocals ret :: ws) room_1 #[(.int p1), (.int b)] (.int (1 : Int32)) := by
  refine MetFree.of_bodySF (plainFor_of_name pn_PrimitiveTypeAllowsBitsPerElementPinLaw) hisR ?_
  intro p e s m args below meth c s₁ Bd hml0 hP hK
  obtain ⟨rfl, hZ, hh⟩ := hP
  have hx := Bd.exec
  have hby := Bd.bytes
  have hml : c.maxLocals = 7 := hml0
  have hown : s.vm.findClass "com/example/cairnstore/cairnstore/store/PrimitiveTypeAllowsBitsPerElementPinLaw" = some m.cls := findClass_of_methodNamed Bd.named
  have X0 : Stand p l e room_1 s m #[(.int p1), (.int b)] below meth c s₁ [] 0 0 := Stand.of_body Bd
  have e0 : s₁.heap = h0 := by rw [← hh, Bd.state]; rfl
  have N0 := Fr.nil n0
  have pre0 : ∀ t, Steps p.tables e below (s₁.setTop (mkF m 0 #[.val (.int p1), .val (.int b), .unset, .unset, .unset, .unset, .unset] [])) t → Steps p.tables e below (s₁.setTop (entryFrame m #[(.int p1), (.int b)] maxLocals)) t := fun t k => castTop (ef_0 m p1 b) k
  obtain ⟨T1, X1, e1, st1⟩ := getS2 X0 hx hZ hown (host := "") (Or.inl (hw _ (List.mem_of_getElem? (i := 0) rfl))) Via.refl e0 S_BOOLEAN (g := (mkF m 9 #[.val (.int p1), .val (.int b), .val (.int (0 : Int32)), .unset, .unset, .unset, .unset] [])) rfl (hb hby at_9)
  obtain ⟨cq2, kq2, q2a, q2b, q2c⟩ := isOf hZ e1 EX
  obtain ⟨_, _, ⟨T2, L2, k2, n2⟩, -, X2, ⟨Lc2, hQ2, l2, y2, z2⟩, st2⟩ := X1.virtualBack hx (y := (⟨"com/example/cairnstore/cairnstore/store/PrimitiveType", "allowsBitsPerElement", "(I)Z"⟩ : MethodName)) (z := (⟨"com/example/cairnstore/cairnstore/store/PrimitiveType", "allowsBitsPerElement", "(I)Z"⟩ : MethodName)) hown (mvT hZ (hw _ (List.mem_of_getElem? (i := 3) rfl))) (mvT hZ (hw _ (List.mem_of_getElem? (i := 4) rfl))) (notFace_of_selects (args := #[]) (mvT hZ (hw _ (List.mem_of_getElem? (i := 6) rfl)))) (mvT hZ (hw _ (List.mem_of_getElem? (i := 6) rfl))) (mvT hZ (hw _ (List.mem_of_getElem? (i := 5) rfl))) (by decide) (backOf (W := 0) (Q := PQ (.int (1 : Int32)) h0 n0) C1 hZ (hw _ (List.mem_of_getElem? (i := 7) rfl)) (hw _ (List.mem_of_getElem? (i := 1) rfl)) (by decide) (by decide)) q2a q2c (g := (mkF m 190 #[.val (.int p1), .val (.int b), .val (.int (0 : Int32)), .val (.ref a), .val (.int (1 : Int32)), .val (.int (1 : Int32)), .val (.int (1 : Int32))] [(.int b), (.ref a)])) rfl (by rw [hml]; rfl) (Steps.refl _) (argsL := [(.int b)]) (rest := []) (lenOf pd__I_Z rfl) rfl (by show 2 * 0 + _ ≤ _; exact Nat.le_of_eq rfl) (hb hby at_190) (fun _ _ => ⟨rfl, e1, (by decide : 0 + 0 ≤ _), (by decide : 0 + 0 ≤ _)⟩)
  dsimp only [Pt.U, Pt.locs, Pt.cells, Pt.slots] at X2 l2 y2 z2 st2 hQ2
  subst l2 y2 z2
  obtain ⟨rfl, Nq2, e2⟩ := hQ2
  have N2 := Fr.app N0 Nq2
  obtain ⟨fs, hr, hrun, hended, hW, hsame⟩ := X2.leave (v := some (.int (1 : Int32))) (fun h => by rw [Bd.returns] at h; cases h)
  refine ⟨_, _, pre0 _ ?_, hrun, hended, _, _, rfl, ?_, ⟨_, rfl⟩, hW, hsame.mono (by decide) (by decide)⟩
  · show Steps p.tables e below (s₁.setTop (mkF m 0 #[.val (.int p1), .val (.int b), .unset, .unset, .unset, .unset, .unset] [])) _
    refine XS.iloadN X0.here hx rfl (hb hby at_0) rfl ?_
    show Steps p.tables e below (s₁.setTop (mkF m 1 #[.val (.int p1), .val (.int b), .unset, .unset, .unset, .unset, .unset] [(.int p1)])) _
    refine XS.bipush X0.here hx rfl (hb hby at_1) ?_
    show Steps p.tables e below (s₁.setTop (mkF m 3 #[.val (.int p1), .val (.int b), .unset, .unset, .unset, .unset, .unset] [(.int (7 : Int32)), (.int p1)])) _
    refine XS.iand X0.here hx rfl (hb hby at_3) rfl ?_
    show Steps p.tables e below (s₁.setTop (mkF m 4 #[.val (.int p1), .val (.int b), .unset, .unset, .unset, .unset, .unset] [(.int (p1 &&& (7 : Int32)))])) _
    rw [hi]
    show Steps p.tables e below (s₁.setTop (mkF m 4 #[.val (.int p1), .val (.int b), .unset, .unset, .unset, .unset, .unset] [(.int (0 : Int32))])) _
    refine XS.istoreN X0.here hx rfl (hb hby at_4) rfl (l' := #[.val (.int p1), .val (.int b), .val (.int (0 : Int32)), .unset, .unset, .unset, .unset]) rfl ?_
    show Steps p.tables e below (s₁.setTop (mkF m 5 #[.val (.int p1), .val (.int b), .val (.int (0 : Int32)), .unset, .unset, .unset, .unset] [])) _
    refine XS.iloadN X0.here hx rfl (hb hby at_5) rfl ?_
    show Steps p.tables e below (s₁.setTop (mkF m 6 #[.val (.int p1), .val (.int b), .val (.int (0 : Int32)), .unset, .unset, .unset, .unset] [(.int (0 : Int32))])) _
    refine XS.ifNo X0.here hx rfl (hb hby at_6) rfl (by decide) ?_
    show Steps p.tables e below (s₁.setTop (mkF m 9 #[.val (.int p1), .val (.int b), .val (.int (0 : Int32)), .unset, .unset, .unset, .unset] [])) _
    refine st1 _ ?_
    show Steps p.tables e below (T1.setTop (mkF m 12 #[.val (.int p1), .val (.int b), .val (.int (0 : Int32)), .unset, .unset, .unset, .unset] [(.ref a)])) _
    refine XS.astoreN X1.here hx rfl (hb hby at_12) rfl rfl (l' := #[.val (.int p1), .val (.int b), .val (.int (0 : Int32)), .val (.ref a), .unset, .unset, .unset]) rfl ?_
    show Steps p.tables e below (T1.setTop (mkF m 13 #[.val (.int p1), .val (.int b), .val (.int (0 : Int32)), .val (.ref a), .unset, .unset, .unset] [])) _
    refine XS.iconst X1.here hx rfl (hb hby at_13) ?_
    show Steps p.tables e below (T1.setTop (mkF m 14 #[.val (.int p1), .val (.int b), .val (.int (0 : Int32)), .val (.ref a), .unset, .unset, .unset] [(.int (1 : Int32))])) _
    refine XS.istore X1.here hx rfl (hb hby at_14) rfl (l' := #[.val (.int p1), .val (.int b), .val (.int (0 : Int32)), .val (.ref a), .val (.int (1 : Int32)), .unset, .unset]) rfl ?_
    show Steps p.tables e below (T1.setTop (mkF m 16 #[.val (.int p1), .val (.int b), .val (.int (0 : Int32)), .val (.ref a), .val (.int (1 : Int32)), .unset, .unset] [])) _
    refine XS.iconst X1.here hx rfl (hb hby at_16) ?_
    show Steps p.tables e below (T1.setTop (mkF m 17 #[.val (.int p1), .val (.int b), .val (.int (0 : Int32)), .val (.ref a), .val (.int (1 : Int32)), .unset, .unset] [(.int (1 : Int32))])) _
    refine XS.istore X1.here hx rfl (hb hby at_17) rfl (l' := #[.val (.int p1), .val (.int b), .val (.int (0 : Int32)), .val (.ref a), .val (.int (1 : Int32)), .val (.int (1 : Int32)), .unset]) rfl ?_
    show Steps p.tables e below (T1.setTop (mkF m 19 #[.val (.int p1), .val (.int b), .val (.int (0 : Int32)), .val (.ref a), .val (.int (1 : Int32)), .val (.int (1 : Int32)), .unset] [])) _
    refine XS.goto X1.here hx rfl (pc0 := 19) (pc' := 148) rfl (hb hby at_19) (by decide) (by decide) ?_
    show Steps p.tables e below (T1.setTop (mkF m 148 #[.val (.int p1), .val (.int b), .val (.int (0 : Int32)), .val (.ref a), .val (.int (1 : Int32)), .val (.int (1 : Int32)), .unset] [])) _
    refine XS.iload X1.here hx rfl (hb hby at_148) rfl ?_
    show Steps p.tables e below (T1.setTop (mkF m 150 #[.val (.int p1), .val (.int b), .val (.int (0 : Int32)), .val (.ref a), .val (.int (1 : Int32)), .val (.int (1 : Int32)), .unset] [(.int (1 : Int32))])) _
    refine XS.ifNo X1.here hx rfl (hb hby at_150) rfl (by decide) ?_
    show Steps p.tables e below (T1.setTop (mkF m 153 #[.val (.int p1), .val (.int b), .val (.int (0 : Int32)), .val (.ref a), .val (.int (1 : Int32)), .val (.int (1 : Int32)), .unset] [])) _
    refine XS.iloadN X1.here hx rfl (hb hby at_153) rfl ?_
    show Steps p.tables e below (T1.setTop (mkF m 154 #[.val (.int p1), .val (.int b), .val (.int (0 : Int32)), .val (.ref a), .val (.int (1 : Int32)), .val (.int (1 : Int32)), .unset] [(.int b)])) _
    refine XS.ifNo X1.here hx rfl (hb hby at_154) rfl ((if0 _ _).trans (tlt h154).2.2.2) ?_
    show Steps p.tables e below (T1.setTop (mkF m 157 #[.val (.int p1), .val (.int b), .val (.int (0 : Int32)), .val (.ref a), .val (.int (1 : Int32)), .val (.int (1 : Int32)), .unset] [])) _
    refine XS.iloadN X1.here hx rfl (hb hby at_157) rfl ?_
    show Steps p.tables e below (T1.setTop (mkF m 158 #[.val (.int p1), .val (.int b), .val (.int (0 : Int32)), .val (.ref a), .val (.int (1 : Int32)), .val (.int (1 : Int32)), .unset] [(.int b)])) _
    refine XS.iload X1.here hx rfl (hb hby at_158) rfl ?_
    show Steps p.tables e below (T1.setTop (mkF m 160 #[.val (.int p1), .val (.int b), .val (.int (0 : Int32)), .val (.ref a), .val (.int (1 : Int32)), .val (.int (1 : Int32)), .unset] [(.int (1 : Int32)), (.int b)])) _
    refine XS.iconst X1.here hx rfl (hb hby at_160) ?_
    show Steps p.tables e below (T1.setTop (mkF m 161 #[.val (.int p1), .val (.int b), .val (.int (0 : Int32)), .val (.ref a), .val (.int (1 : Int32)), .val (.int (1 : Int32)), .unset] [(.int (1 : Int32)), (.int (1 : Int32)), (.int b)])) _
    refine XS.iadd X1.here hx rfl (hb hby at_161) rfl ?_
    show Steps p.tables e below (T1.setTop (mkF m 162 #[.val (.int p1), .val (.int b), .val (.int (0 : Int32)), .val (.ref a), .val (.int (1 : Int32)), .val (.int (1 : Int32)), .unset] [(.int ((1 : Int32) + (1 : Int32))), (.int b)])) _
    refine XS.icmpNo X1.here hx rfl (hb hby at_162) rfl (tlt h162).2.1 ?_
    show Steps p.tables e below (T1.setTop (mkF m 165 #[.val (.int p1), .val (.int b), .val (.int (0 : Int32)), .val (.ref a), .val (.int (1 : Int32)), .val (.int (1 : Int32)), .unset] [])) _
    refine XS.iconst X1.here hx rfl (hb hby at_165) ?_
    show Steps p.tables e below (T1.setTop (mkF m 166 #[.val (.int p1), .val (.int b), .val (.int (0 : Int32)), .val (.ref a), .val (.int (1 : Int32)), .val (.int (1 : Int32)), .unset] [(.int (1 : Int32))])) _
    refine XS.goto X1.here hx rfl (pc0 := 166) (pc' := 170) rfl (hb hby at_166) (by decide) (by decide) ?_
    show Steps p.tables e below (T1.setTop (mkF m 170 #[.val (.int p1), .val (.int b), .val (.int (0 : Int32)), .val (.ref a), .val (.int (1 : Int32)), .val (.int (1 : Int32)), .unset] [(.int (1 : Int32))])) _
    refine XS.istore X1.here hx rfl (hb hby at_170) rfl (l' := #[.val (.int p1), .val (.int b), .val (.int (0 : Int32)), .val (.ref a), .val (.int (1 : Int32)), .val (.int (1 : Int32)), .val (.int (1 : Int32))]) rfl ?_
    show Steps p.tables e below (T1.setTop (mkF m 172 #[.val (.int p1), .val (.int b), .val (.int (0 : Int32)), .val (.ref a), .val (.int (1 : Int32)), .val (.int (1 : Int32)), .val (.int (1 : Int32))] [])) _
    refine XS.goto X1.here hx rfl (pc0 := 172) (pc' := 188) rfl (hb hby at_172) (by decide) (by decide) ?_
    show Steps p.tables e below (T1.setTop (mkF m 188 #[.val (.int p1), .val (.int b), .val (.int (0 : Int32)), .val (.ref a), .val (.int (1 : Int32)), .val (.int (1 : Int32)), .val (.int (1 : Int32))] [])) _
    refine XS.aloadN X1.here hx rfl (hb hby at_188) rfl rfl ?_
    show Steps p.tables e below (T1.setTop (mkF m 189 #[.val (.int p1), .val (.int b), .val (.int (0 : Int32)), .val (.ref a), .val (.int (1 : Int32)), .val (.int (1 : Int32)), .val (.int (1 : Int32))] [(.ref a)])) _
    refine XS.iloadN X1.here hx rfl (hb hby at_189) rfl ?_
    show Steps p.tables e below (T1.setTop (mkF m 190 #[.val (.int p1), .val (.int b), .val (.int (0 : Int32)), .val (.ref a), .val (.int (1 : Int32)), .val (.int (1 : Int32)), .val (.int (1 : Int32))] [(.int b), (.ref a)])) _
    refine st2.trans ?_
    show Steps p.tables e below (T2.setTop (mkF m 193 #[.val (.int p1), .val (.int b), .val (.int (0 : Int32)), .val (.ref a), .val (.int (1 : Int32)), .val (.int (1 : Int32)), .val (.int (1 : Int32))] [(.int (1 : Int32))])) _
    refine XS.iload X2.here hx rfl (hb hby at_193) rfl ?_
    show Steps p.tables e below (T2.setTop (mkF m 195 #[.val (.int p1), .val (.int b), .val (.int (0 : Int32)), .val (.ref a), .val (.int (1 : Int32)), .val (.int (1 : Int32)), .val (.int (1 : Int32))] [(.int (1 : Int32)), (.int (1 : Int32))])) _
    refine XS.icmpNo X2.here hx rfl (hb hby at_195) rfl (by decide) ?_
    show Steps p.tables e below (T2.setTop (mkF m 198 #[.val (.int p1), .val (.int b), .val (.int (0 : Int32)), .val (.ref a), .val (.int (1 : Int32)), .val (.int (1 : Int32)), .val (.int (1 : Int32))] [])) _
    refine XS.iconst X2.here hx rfl (hb hby at_198) ?_
    show Steps p.tables e below (T2.setTop (mkF m 199 #[.val (.int p1), .val (.int b), .val (.int (0 : Int32)), .val (.ref a), .val (.int (1 : Int32)), .val (.int (1 : Int32)), .val (.int (1 : Int32))] [(.int (1 : Int32))])) _
    refine XS.goto X2.here hx rfl (pc0 := 199) (pc' := 203) rfl (hb hby at_199) (by decide) (by decide) ?_
    show Steps p.tables e below (T2.setTop (mkF m 203 #[.val (.int p1), .val (.int b), .val (.int (0 : Int32)), .val (.ref a), .val (.int (1 : Int32)), .val (.int (1 : Int32)), .val (.int (1 : Int32))] [(.int (1 : Int32))])) _
    exact retN X2 hx (t := .boolean) Bd.returns (by simp) (hb hby at_203) hr
  · show PQ (.int (1 : Int32)) h0 n0 _ T2.heap _
    exact ⟨rfl, N2, e2⟩

set_option maxRecDepth 65536 in
set_option maxHeartbeats 40000000 in
theorem law_1_lo (l : Launch) (Z : State) (a0 : Array Value) (hw : ∀ d ∈ tables_1, d.before a0 Z = true) (ws : List Jvm.Cond) (p1 b : Int32) (a : Addr) (h0 : Heap) (n0 : Nat) (Z0 : n0 ≤ h0.size) (hi : p1 &&& (7 : Int32) = (1 : Int32)) (S_BYTE : Sta Z h0 "com/example/cairnstore/cairnstore/store/PrimitiveType" "BYTE" "Lcom/example/cairnstore/cairnstore/store/PrimitiveType;" (.ref a)) (EX : Exa Z h0 a "com/example/cairnstore/cairnstore/store/PrimitiveType$2") (C1 : Pays l Z h0 n0 (⟨"com/example/cairnstore/cairnstore/store/PrimitiveType", "allowsBitsPerElement", "(I)Z"⟩ : MethodName) [Jvm.Cond.code (⟨"com/example/cairnstore/cairnstore/store/PrimitiveType", "allowsBitsPerElement", "(I)Z"⟩ : MethodName) prog_51_method_14_code 2 (some .boolean)] R0 #[(.ref a), (.int b)] (.int (0 : Int32))) (h154 : ¬ ((0 : Int32) < b)) :
    Pays l Z h0 n0 x (Jvm.Cond.code x code maxLocals ret :: ws) room_1 #[(.int p1), (.int b)] (.int (1 : Int32)) := by
  refine MetFree.of_bodySF (plainFor_of_name pn_PrimitiveTypeAllowsBitsPerElementPinLaw) hisR ?_
  intro p e s m args below meth c s₁ Bd hml0 hP hK
  obtain ⟨rfl, hZ, hh⟩ := hP
  have hx := Bd.exec
  have hby := Bd.bytes
  have hml : c.maxLocals = 7 := hml0
  have hown : s.vm.findClass "com/example/cairnstore/cairnstore/store/PrimitiveTypeAllowsBitsPerElementPinLaw" = some m.cls := findClass_of_methodNamed Bd.named
  have X0 : Stand p l e room_1 s m #[(.int p1), (.int b)] below meth c s₁ [] 0 0 := Stand.of_body Bd
  have e0 : s₁.heap = h0 := by rw [← hh, Bd.state]; rfl
  have N0 := Fr.nil n0
  have pre0 : ∀ t, Steps p.tables e below (s₁.setTop (mkF m 0 #[.val (.int p1), .val (.int b), .unset, .unset, .unset, .unset, .unset] [])) t → Steps p.tables e below (s₁.setTop (entryFrame m #[(.int p1), (.int b)] maxLocals)) t := fun t k => castTop (ef_0 m p1 b) k
  obtain ⟨T1, X1, e1, st1⟩ := getS2 X0 hx hZ hown (host := "") (Or.inl (hw _ (List.mem_of_getElem? (i := 37) rfl))) Via.refl e0 S_BYTE (g := (mkF m 27 #[.val (.int p1), .val (.int b), .val (.int (1 : Int32)), .unset, .unset, .unset, .unset] [])) rfl (hb hby at_27)
  obtain ⟨cq2, kq2, q2a, q2b, q2c⟩ := isOf hZ e1 EX
  obtain ⟨_, _, ⟨T2, L2, k2, n2⟩, -, X2, ⟨Lc2, hQ2, l2, y2, z2⟩, st2⟩ := X1.virtualBack hx (y := (⟨"com/example/cairnstore/cairnstore/store/PrimitiveType", "allowsBitsPerElement", "(I)Z"⟩ : MethodName)) (z := (⟨"com/example/cairnstore/cairnstore/store/PrimitiveType", "allowsBitsPerElement", "(I)Z"⟩ : MethodName)) hown (mvT hZ (hw _ (List.mem_of_getElem? (i := 3) rfl))) (mvT hZ (hw _ (List.mem_of_getElem? (i := 4) rfl))) (notFace_of_selects (args := #[]) (mvT hZ (hw _ (List.mem_of_getElem? (i := 39) rfl)))) (mvT hZ (hw _ (List.mem_of_getElem? (i := 39) rfl))) (mvT hZ (hw _ (List.mem_of_getElem? (i := 5) rfl))) (by decide) (backOf (W := 0) (Q := PQ (.int (0 : Int32)) h0 n0) C1 hZ (hw _ (List.mem_of_getElem? (i := 7) rfl)) (hw _ (List.mem_of_getElem? (i := 1) rfl)) (by decide) (by decide)) q2a q2c (g := (mkF m 190 #[.val (.int p1), .val (.int b), .val (.int (1 : Int32)), .val (.ref a), .val (.int (8 : Int32)), .val (.int (1 : Int32)), .val (.int (0 : Int32))] [(.int b), (.ref a)])) rfl (by rw [hml]; rfl) (Steps.refl _) (argsL := [(.int b)]) (rest := []) (lenOf pd__I_Z rfl) rfl (by show 2 * 0 + _ ≤ _; exact Nat.le_of_eq rfl) (hb hby at_190) (fun _ _ => ⟨rfl, e1, (by decide : 0 + 0 ≤ _), (by decide : 0 + 0 ≤ _)⟩)
  dsimp only [Pt.U, Pt.locs, Pt.cells, Pt.slots] at X2 l2 y2 z2 st2 hQ2
  subst l2 y2 z2
  obtain ⟨rfl, Nq2, e2⟩ := hQ2
  have N2 := Fr.app N0 Nq2
  obtain ⟨fs, hr, hrun, hended, hW, hsame⟩ := X2.leave (v := some (.int (1 : Int32))) (fun h => by rw [Bd.returns] at h; cases h)
  refine ⟨_, _, pre0 _ ?_, hrun, hended, _, _, rfl, ?_, ⟨_, rfl⟩, hW, hsame.mono (by decide) (by decide)⟩
  · show Steps p.tables e below (s₁.setTop (mkF m 0 #[.val (.int p1), .val (.int b), .unset, .unset, .unset, .unset, .unset] [])) _
    refine XS.iloadN X0.here hx rfl (hb hby at_0) rfl ?_
    show Steps p.tables e below (s₁.setTop (mkF m 1 #[.val (.int p1), .val (.int b), .unset, .unset, .unset, .unset, .unset] [(.int p1)])) _
    refine XS.bipush X0.here hx rfl (hb hby at_1) ?_
    show Steps p.tables e below (s₁.setTop (mkF m 3 #[.val (.int p1), .val (.int b), .unset, .unset, .unset, .unset, .unset] [(.int (7 : Int32)), (.int p1)])) _
    refine XS.iand X0.here hx rfl (hb hby at_3) rfl ?_
    show Steps p.tables e below (s₁.setTop (mkF m 4 #[.val (.int p1), .val (.int b), .unset, .unset, .unset, .unset, .unset] [(.int (p1 &&& (7 : Int32)))])) _
    rw [hi]
    show Steps p.tables e below (s₁.setTop (mkF m 4 #[.val (.int p1), .val (.int b), .unset, .unset, .unset, .unset, .unset] [(.int (1 : Int32))])) _
    refine XS.istoreN X0.here hx rfl (hb hby at_4) rfl (l' := #[.val (.int p1), .val (.int b), .val (.int (1 : Int32)), .unset, .unset, .unset, .unset]) rfl ?_
    show Steps p.tables e below (s₁.setTop (mkF m 5 #[.val (.int p1), .val (.int b), .val (.int (1 : Int32)), .unset, .unset, .unset, .unset] [])) _
    refine XS.iloadN X0.here hx rfl (hb hby at_5) rfl ?_
    show Steps p.tables e below (s₁.setTop (mkF m 6 #[.val (.int p1), .val (.int b), .val (.int (1 : Int32)), .unset, .unset, .unset, .unset] [(.int (1 : Int32))])) _
    refine XS.ifYes X0.here hx rfl (pc0 := 6) (pc' := 22) rfl (hb hby at_6) rfl (by decide) (by decide) (by decide) ?_
    show Steps p.tables e below (s₁.setTop (mkF m 22 #[.val (.int p1), .val (.int b), .val (.int (1 : Int32)), .unset, .unset, .unset, .unset] [])) _
    refine XS.iloadN X0.here hx rfl (hb hby at_22) rfl ?_
    show Steps p.tables e below (s₁.setTop (mkF m 23 #[.val (.int p1), .val (.int b), .val (.int (1 : Int32)), .unset, .unset, .unset, .unset] [(.int (1 : Int32))])) _
    refine XS.iconst X0.here hx rfl (hb hby at_23) ?_
    show Steps p.tables e below (s₁.setTop (mkF m 24 #[.val (.int p1), .val (.int b), .val (.int (1 : Int32)), .unset, .unset, .unset, .unset] [(.int (1 : Int32)), (.int (1 : Int32))])) _
    refine XS.icmpNo X0.here hx rfl (hb hby at_24) rfl (by decide) ?_
    show Steps p.tables e below (s₁.setTop (mkF m 27 #[.val (.int p1), .val (.int b), .val (.int (1 : Int32)), .unset, .unset, .unset, .unset] [])) _
    refine st1 _ ?_
    show Steps p.tables e below (T1.setTop (mkF m 30 #[.val (.int p1), .val (.int b), .val (.int (1 : Int32)), .unset, .unset, .unset, .unset] [(.ref a)])) _
    refine XS.astoreN X1.here hx rfl (hb hby at_30) rfl rfl (l' := #[.val (.int p1), .val (.int b), .val (.int (1 : Int32)), .val (.ref a), .unset, .unset, .unset]) rfl ?_
    show Steps p.tables e below (T1.setTop (mkF m 31 #[.val (.int p1), .val (.int b), .val (.int (1 : Int32)), .val (.ref a), .unset, .unset, .unset] [])) _
    refine XS.bipush X1.here hx rfl (hb hby at_31) ?_
    show Steps p.tables e below (T1.setTop (mkF m 33 #[.val (.int p1), .val (.int b), .val (.int (1 : Int32)), .val (.ref a), .unset, .unset, .unset] [(.int (8 : Int32))])) _
    refine XS.istore X1.here hx rfl (hb hby at_33) rfl (l' := #[.val (.int p1), .val (.int b), .val (.int (1 : Int32)), .val (.ref a), .val (.int (8 : Int32)), .unset, .unset]) rfl ?_
    show Steps p.tables e below (T1.setTop (mkF m 35 #[.val (.int p1), .val (.int b), .val (.int (1 : Int32)), .val (.ref a), .val (.int (8 : Int32)), .unset, .unset] [])) _
    refine XS.iconst X1.here hx rfl (hb hby at_35) ?_
    show Steps p.tables e below (T1.setTop (mkF m 36 #[.val (.int p1), .val (.int b), .val (.int (1 : Int32)), .val (.ref a), .val (.int (8 : Int32)), .unset, .unset] [(.int (1 : Int32))])) _
    refine XS.istore X1.here hx rfl (hb hby at_36) rfl (l' := #[.val (.int p1), .val (.int b), .val (.int (1 : Int32)), .val (.ref a), .val (.int (8 : Int32)), .val (.int (1 : Int32)), .unset]) rfl ?_
    show Steps p.tables e below (T1.setTop (mkF m 38 #[.val (.int p1), .val (.int b), .val (.int (1 : Int32)), .val (.ref a), .val (.int (8 : Int32)), .val (.int (1 : Int32)), .unset] [])) _
    refine XS.goto X1.here hx rfl (pc0 := 38) (pc' := 148) rfl (hb hby at_38) (by decide) (by decide) ?_
    show Steps p.tables e below (T1.setTop (mkF m 148 #[.val (.int p1), .val (.int b), .val (.int (1 : Int32)), .val (.ref a), .val (.int (8 : Int32)), .val (.int (1 : Int32)), .unset] [])) _
    refine XS.iload X1.here hx rfl (hb hby at_148) rfl ?_
    show Steps p.tables e below (T1.setTop (mkF m 150 #[.val (.int p1), .val (.int b), .val (.int (1 : Int32)), .val (.ref a), .val (.int (8 : Int32)), .val (.int (1 : Int32)), .unset] [(.int (1 : Int32))])) _
    refine XS.ifNo X1.here hx rfl (hb hby at_150) rfl (by decide) ?_
    show Steps p.tables e below (T1.setTop (mkF m 153 #[.val (.int p1), .val (.int b), .val (.int (1 : Int32)), .val (.ref a), .val (.int (8 : Int32)), .val (.int (1 : Int32)), .unset] [])) _
    refine XS.iloadN X1.here hx rfl (hb hby at_153) rfl ?_
    show Steps p.tables e below (T1.setTop (mkF m 154 #[.val (.int p1), .val (.int b), .val (.int (1 : Int32)), .val (.ref a), .val (.int (8 : Int32)), .val (.int (1 : Int32)), .unset] [(.int b)])) _
    refine XS.ifYes X1.here hx rfl (pc0 := 154) (pc' := 169) rfl (hb hby at_154) rfl ((if0 _ _).trans (flt h154).2.2.2) (by decide) (by decide) ?_
    show Steps p.tables e below (T1.setTop (mkF m 169 #[.val (.int p1), .val (.int b), .val (.int (1 : Int32)), .val (.ref a), .val (.int (8 : Int32)), .val (.int (1 : Int32)), .unset] [])) _
    refine XS.iconst X1.here hx rfl (hb hby at_169) ?_
    show Steps p.tables e below (T1.setTop (mkF m 170 #[.val (.int p1), .val (.int b), .val (.int (1 : Int32)), .val (.ref a), .val (.int (8 : Int32)), .val (.int (1 : Int32)), .unset] [(.int (0 : Int32))])) _
    refine XS.istore X1.here hx rfl (hb hby at_170) rfl (l' := #[.val (.int p1), .val (.int b), .val (.int (1 : Int32)), .val (.ref a), .val (.int (8 : Int32)), .val (.int (1 : Int32)), .val (.int (0 : Int32))]) rfl ?_
    show Steps p.tables e below (T1.setTop (mkF m 172 #[.val (.int p1), .val (.int b), .val (.int (1 : Int32)), .val (.ref a), .val (.int (8 : Int32)), .val (.int (1 : Int32)), .val (.int (0 : Int32))] [])) _
    refine XS.goto X1.here hx rfl (pc0 := 172) (pc' := 188) rfl (hb hby at_172) (by decide) (by decide) ?_
    show Steps p.tables e below (T1.setTop (mkF m 188 #[.val (.int p1), .val (.int b), .val (.int (1 : Int32)), .val (.ref a), .val (.int (8 : Int32)), .val (.int (1 : Int32)), .val (.int (0 : Int32))] [])) _
    refine XS.aloadN X1.here hx rfl (hb hby at_188) rfl rfl ?_
    show Steps p.tables e below (T1.setTop (mkF m 189 #[.val (.int p1), .val (.int b), .val (.int (1 : Int32)), .val (.ref a), .val (.int (8 : Int32)), .val (.int (1 : Int32)), .val (.int (0 : Int32))] [(.ref a)])) _
    refine XS.iloadN X1.here hx rfl (hb hby at_189) rfl ?_
    show Steps p.tables e below (T1.setTop (mkF m 190 #[.val (.int p1), .val (.int b), .val (.int (1 : Int32)), .val (.ref a), .val (.int (8 : Int32)), .val (.int (1 : Int32)), .val (.int (0 : Int32))] [(.int b), (.ref a)])) _
    refine st2.trans ?_
    show Steps p.tables e below (T2.setTop (mkF m 193 #[.val (.int p1), .val (.int b), .val (.int (1 : Int32)), .val (.ref a), .val (.int (8 : Int32)), .val (.int (1 : Int32)), .val (.int (0 : Int32))] [(.int (0 : Int32))])) _
    refine XS.iload X2.here hx rfl (hb hby at_193) rfl ?_
    show Steps p.tables e below (T2.setTop (mkF m 195 #[.val (.int p1), .val (.int b), .val (.int (1 : Int32)), .val (.ref a), .val (.int (8 : Int32)), .val (.int (1 : Int32)), .val (.int (0 : Int32))] [(.int (0 : Int32)), (.int (0 : Int32))])) _
    refine XS.icmpNo X2.here hx rfl (hb hby at_195) rfl (by decide) ?_
    show Steps p.tables e below (T2.setTop (mkF m 198 #[.val (.int p1), .val (.int b), .val (.int (1 : Int32)), .val (.ref a), .val (.int (8 : Int32)), .val (.int (1 : Int32)), .val (.int (0 : Int32))] [])) _
    refine XS.iconst X2.here hx rfl (hb hby at_198) ?_
    show Steps p.tables e below (T2.setTop (mkF m 199 #[.val (.int p1), .val (.int b), .val (.int (1 : Int32)), .val (.ref a), .val (.int (8 : Int32)), .val (.int (1 : Int32)), .val (.int (0 : Int32))] [(.int (1 : Int32))])) _
    refine XS.goto X2.here hx rfl (pc0 := 199) (pc' := 203) rfl (hb hby at_199) (by decide) (by decide) ?_
    show Steps p.tables e below (T2.setTop (mkF m 203 #[.val (.int p1), .val (.int b), .val (.int (1 : Int32)), .val (.ref a), .val (.int (8 : Int32)), .val (.int (1 : Int32)), .val (.int (0 : Int32))] [(.int (1 : Int32))])) _
    exact retN X2 hx (t := .boolean) Bd.returns (by simp) (hb hby at_203) hr
  · show PQ (.int (1 : Int32)) h0 n0 _ T2.heap _
    exact ⟨rfl, N2, e2⟩

set_option maxRecDepth 65536 in
set_option maxHeartbeats 40000000 in
theorem law_1_hi (l : Launch) (Z : State) (a0 : Array Value) (hw : ∀ d ∈ tables_1, d.before a0 Z = true) (ws : List Jvm.Cond) (p1 b : Int32) (a : Addr) (h0 : Heap) (n0 : Nat) (Z0 : n0 ≤ h0.size) (hi : p1 &&& (7 : Int32) = (1 : Int32)) (S_BYTE : Sta Z h0 "com/example/cairnstore/cairnstore/store/PrimitiveType" "BYTE" "Lcom/example/cairnstore/cairnstore/store/PrimitiveType;" (.ref a)) (EX : Exa Z h0 a "com/example/cairnstore/cairnstore/store/PrimitiveType$2") (C1 : Pays l Z h0 n0 (⟨"com/example/cairnstore/cairnstore/store/PrimitiveType", "allowsBitsPerElement", "(I)Z"⟩ : MethodName) [Jvm.Cond.code (⟨"com/example/cairnstore/cairnstore/store/PrimitiveType", "allowsBitsPerElement", "(I)Z"⟩ : MethodName) prog_51_method_14_code 2 (some .boolean)] R0 #[(.ref a), (.int b)] (.int (0 : Int32))) (h154 : (0 : Int32) < b) (h162 : ¬ (b < (8 : Int32) + (1 : Int32))) :
    Pays l Z h0 n0 x (Jvm.Cond.code x code maxLocals ret :: ws) room_1 #[(.int p1), (.int b)] (.int (1 : Int32)) := by
  refine MetFree.of_bodySF (plainFor_of_name pn_PrimitiveTypeAllowsBitsPerElementPinLaw) hisR ?_
  intro p e s m args below meth c s₁ Bd hml0 hP hK
  obtain ⟨rfl, hZ, hh⟩ := hP
  have hx := Bd.exec
  have hby := Bd.bytes
  have hml : c.maxLocals = 7 := hml0
  have hown : s.vm.findClass "com/example/cairnstore/cairnstore/store/PrimitiveTypeAllowsBitsPerElementPinLaw" = some m.cls := findClass_of_methodNamed Bd.named
  have X0 : Stand p l e room_1 s m #[(.int p1), (.int b)] below meth c s₁ [] 0 0 := Stand.of_body Bd
  have e0 : s₁.heap = h0 := by rw [← hh, Bd.state]; rfl
  have N0 := Fr.nil n0
  have pre0 : ∀ t, Steps p.tables e below (s₁.setTop (mkF m 0 #[.val (.int p1), .val (.int b), .unset, .unset, .unset, .unset, .unset] [])) t → Steps p.tables e below (s₁.setTop (entryFrame m #[(.int p1), (.int b)] maxLocals)) t := fun t k => castTop (ef_0 m p1 b) k
  obtain ⟨T1, X1, e1, st1⟩ := getS2 X0 hx hZ hown (host := "") (Or.inl (hw _ (List.mem_of_getElem? (i := 37) rfl))) Via.refl e0 S_BYTE (g := (mkF m 27 #[.val (.int p1), .val (.int b), .val (.int (1 : Int32)), .unset, .unset, .unset, .unset] [])) rfl (hb hby at_27)
  obtain ⟨cq2, kq2, q2a, q2b, q2c⟩ := isOf hZ e1 EX
  obtain ⟨_, _, ⟨T2, L2, k2, n2⟩, -, X2, ⟨Lc2, hQ2, l2, y2, z2⟩, st2⟩ := X1.virtualBack hx (y := (⟨"com/example/cairnstore/cairnstore/store/PrimitiveType", "allowsBitsPerElement", "(I)Z"⟩ : MethodName)) (z := (⟨"com/example/cairnstore/cairnstore/store/PrimitiveType", "allowsBitsPerElement", "(I)Z"⟩ : MethodName)) hown (mvT hZ (hw _ (List.mem_of_getElem? (i := 3) rfl))) (mvT hZ (hw _ (List.mem_of_getElem? (i := 4) rfl))) (notFace_of_selects (args := #[]) (mvT hZ (hw _ (List.mem_of_getElem? (i := 39) rfl)))) (mvT hZ (hw _ (List.mem_of_getElem? (i := 39) rfl))) (mvT hZ (hw _ (List.mem_of_getElem? (i := 5) rfl))) (by decide) (backOf (W := 0) (Q := PQ (.int (0 : Int32)) h0 n0) C1 hZ (hw _ (List.mem_of_getElem? (i := 7) rfl)) (hw _ (List.mem_of_getElem? (i := 1) rfl)) (by decide) (by decide)) q2a q2c (g := (mkF m 190 #[.val (.int p1), .val (.int b), .val (.int (1 : Int32)), .val (.ref a), .val (.int (8 : Int32)), .val (.int (1 : Int32)), .val (.int (0 : Int32))] [(.int b), (.ref a)])) rfl (by rw [hml]; rfl) (Steps.refl _) (argsL := [(.int b)]) (rest := []) (lenOf pd__I_Z rfl) rfl (by show 2 * 0 + _ ≤ _; exact Nat.le_of_eq rfl) (hb hby at_190) (fun _ _ => ⟨rfl, e1, (by decide : 0 + 0 ≤ _), (by decide : 0 + 0 ≤ _)⟩)
  dsimp only [Pt.U, Pt.locs, Pt.cells, Pt.slots] at X2 l2 y2 z2 st2 hQ2
  subst l2 y2 z2
  obtain ⟨rfl, Nq2, e2⟩ := hQ2
  have N2 := Fr.app N0 Nq2
  obtain ⟨fs, hr, hrun, hended, hW, hsame⟩ := X2.leave (v := some (.int (1 : Int32))) (fun h => by rw [Bd.returns] at h; cases h)
  refine ⟨_, _, pre0 _ ?_, hrun, hended, _, _, rfl, ?_, ⟨_, rfl⟩, hW, hsame.mono (by decide) (by decide)⟩
  · show Steps p.tables e below (s₁.setTop (mkF m 0 #[.val (.int p1), .val (.int b), .unset, .unset, .unset, .unset, .unset] [])) _
    refine XS.iloadN X0.here hx rfl (hb hby at_0) rfl ?_
    show Steps p.tables e below (s₁.setTop (mkF m 1 #[.val (.int p1), .val (.int b), .unset, .unset, .unset, .unset, .unset] [(.int p1)])) _
    refine XS.bipush X0.here hx rfl (hb hby at_1) ?_
    show Steps p.tables e below (s₁.setTop (mkF m 3 #[.val (.int p1), .val (.int b), .unset, .unset, .unset, .unset, .unset] [(.int (7 : Int32)), (.int p1)])) _
    refine XS.iand X0.here hx rfl (hb hby at_3) rfl ?_
    show Steps p.tables e below (s₁.setTop (mkF m 4 #[.val (.int p1), .val (.int b), .unset, .unset, .unset, .unset, .unset] [(.int (p1 &&& (7 : Int32)))])) _
    rw [hi]
    show Steps p.tables e below (s₁.setTop (mkF m 4 #[.val (.int p1), .val (.int b), .unset, .unset, .unset, .unset, .unset] [(.int (1 : Int32))])) _
    refine XS.istoreN X0.here hx rfl (hb hby at_4) rfl (l' := #[.val (.int p1), .val (.int b), .val (.int (1 : Int32)), .unset, .unset, .unset, .unset]) rfl ?_
    show Steps p.tables e below (s₁.setTop (mkF m 5 #[.val (.int p1), .val (.int b), .val (.int (1 : Int32)), .unset, .unset, .unset, .unset] [])) _
    refine XS.iloadN X0.here hx rfl (hb hby at_5) rfl ?_
    show Steps p.tables e below (s₁.setTop (mkF m 6 #[.val (.int p1), .val (.int b), .val (.int (1 : Int32)), .unset, .unset, .unset, .unset] [(.int (1 : Int32))])) _
    refine XS.ifYes X0.here hx rfl (pc0 := 6) (pc' := 22) rfl (hb hby at_6) rfl (by decide) (by decide) (by decide) ?_
    show Steps p.tables e below (s₁.setTop (mkF m 22 #[.val (.int p1), .val (.int b), .val (.int (1 : Int32)), .unset, .unset, .unset, .unset] [])) _
    refine XS.iloadN X0.here hx rfl (hb hby at_22) rfl ?_
    show Steps p.tables e below (s₁.setTop (mkF m 23 #[.val (.int p1), .val (.int b), .val (.int (1 : Int32)), .unset, .unset, .unset, .unset] [(.int (1 : Int32))])) _
    refine XS.iconst X0.here hx rfl (hb hby at_23) ?_
    show Steps p.tables e below (s₁.setTop (mkF m 24 #[.val (.int p1), .val (.int b), .val (.int (1 : Int32)), .unset, .unset, .unset, .unset] [(.int (1 : Int32)), (.int (1 : Int32))])) _
    refine XS.icmpNo X0.here hx rfl (hb hby at_24) rfl (by decide) ?_
    show Steps p.tables e below (s₁.setTop (mkF m 27 #[.val (.int p1), .val (.int b), .val (.int (1 : Int32)), .unset, .unset, .unset, .unset] [])) _
    refine st1 _ ?_
    show Steps p.tables e below (T1.setTop (mkF m 30 #[.val (.int p1), .val (.int b), .val (.int (1 : Int32)), .unset, .unset, .unset, .unset] [(.ref a)])) _
    refine XS.astoreN X1.here hx rfl (hb hby at_30) rfl rfl (l' := #[.val (.int p1), .val (.int b), .val (.int (1 : Int32)), .val (.ref a), .unset, .unset, .unset]) rfl ?_
    show Steps p.tables e below (T1.setTop (mkF m 31 #[.val (.int p1), .val (.int b), .val (.int (1 : Int32)), .val (.ref a), .unset, .unset, .unset] [])) _
    refine XS.bipush X1.here hx rfl (hb hby at_31) ?_
    show Steps p.tables e below (T1.setTop (mkF m 33 #[.val (.int p1), .val (.int b), .val (.int (1 : Int32)), .val (.ref a), .unset, .unset, .unset] [(.int (8 : Int32))])) _
    refine XS.istore X1.here hx rfl (hb hby at_33) rfl (l' := #[.val (.int p1), .val (.int b), .val (.int (1 : Int32)), .val (.ref a), .val (.int (8 : Int32)), .unset, .unset]) rfl ?_
    show Steps p.tables e below (T1.setTop (mkF m 35 #[.val (.int p1), .val (.int b), .val (.int (1 : Int32)), .val (.ref a), .val (.int (8 : Int32)), .unset, .unset] [])) _
    refine XS.iconst X1.here hx rfl (hb hby at_35) ?_
    show Steps p.tables e below (T1.setTop (mkF m 36 #[.val (.int p1), .val (.int b), .val (.int (1 : Int32)), .val (.ref a), .val (.int (8 : Int32)), .unset, .unset] [(.int (1 : Int32))])) _
    refine XS.istore X1.here hx rfl (hb hby at_36) rfl (l' := #[.val (.int p1), .val (.int b), .val (.int (1 : Int32)), .val (.ref a), .val (.int (8 : Int32)), .val (.int (1 : Int32)), .unset]) rfl ?_
    show Steps p.tables e below (T1.setTop (mkF m 38 #[.val (.int p1), .val (.int b), .val (.int (1 : Int32)), .val (.ref a), .val (.int (8 : Int32)), .val (.int (1 : Int32)), .unset] [])) _
    refine XS.goto X1.here hx rfl (pc0 := 38) (pc' := 148) rfl (hb hby at_38) (by decide) (by decide) ?_
    show Steps p.tables e below (T1.setTop (mkF m 148 #[.val (.int p1), .val (.int b), .val (.int (1 : Int32)), .val (.ref a), .val (.int (8 : Int32)), .val (.int (1 : Int32)), .unset] [])) _
    refine XS.iload X1.here hx rfl (hb hby at_148) rfl ?_
    show Steps p.tables e below (T1.setTop (mkF m 150 #[.val (.int p1), .val (.int b), .val (.int (1 : Int32)), .val (.ref a), .val (.int (8 : Int32)), .val (.int (1 : Int32)), .unset] [(.int (1 : Int32))])) _
    refine XS.ifNo X1.here hx rfl (hb hby at_150) rfl (by decide) ?_
    show Steps p.tables e below (T1.setTop (mkF m 153 #[.val (.int p1), .val (.int b), .val (.int (1 : Int32)), .val (.ref a), .val (.int (8 : Int32)), .val (.int (1 : Int32)), .unset] [])) _
    refine XS.iloadN X1.here hx rfl (hb hby at_153) rfl ?_
    show Steps p.tables e below (T1.setTop (mkF m 154 #[.val (.int p1), .val (.int b), .val (.int (1 : Int32)), .val (.ref a), .val (.int (8 : Int32)), .val (.int (1 : Int32)), .unset] [(.int b)])) _
    refine XS.ifNo X1.here hx rfl (hb hby at_154) rfl ((if0 _ _).trans (tlt h154).2.2.2) ?_
    show Steps p.tables e below (T1.setTop (mkF m 157 #[.val (.int p1), .val (.int b), .val (.int (1 : Int32)), .val (.ref a), .val (.int (8 : Int32)), .val (.int (1 : Int32)), .unset] [])) _
    refine XS.iloadN X1.here hx rfl (hb hby at_157) rfl ?_
    show Steps p.tables e below (T1.setTop (mkF m 158 #[.val (.int p1), .val (.int b), .val (.int (1 : Int32)), .val (.ref a), .val (.int (8 : Int32)), .val (.int (1 : Int32)), .unset] [(.int b)])) _
    refine XS.iload X1.here hx rfl (hb hby at_158) rfl ?_
    show Steps p.tables e below (T1.setTop (mkF m 160 #[.val (.int p1), .val (.int b), .val (.int (1 : Int32)), .val (.ref a), .val (.int (8 : Int32)), .val (.int (1 : Int32)), .unset] [(.int (8 : Int32)), (.int b)])) _
    refine XS.iconst X1.here hx rfl (hb hby at_160) ?_
    show Steps p.tables e below (T1.setTop (mkF m 161 #[.val (.int p1), .val (.int b), .val (.int (1 : Int32)), .val (.ref a), .val (.int (8 : Int32)), .val (.int (1 : Int32)), .unset] [(.int (1 : Int32)), (.int (8 : Int32)), (.int b)])) _
    refine XS.iadd X1.here hx rfl (hb hby at_161) rfl ?_
    show Steps p.tables e below (T1.setTop (mkF m 162 #[.val (.int p1), .val (.int b), .val (.int (1 : Int32)), .val (.ref a), .val (.int (8 : Int32)), .val (.int (1 : Int32)), .unset] [(.int ((8 : Int32) + (1 : Int32))), (.int b)])) _
    refine XS.icmpYes X1.here hx rfl (pc0 := 162) (pc' := 169) rfl (hb hby at_162) rfl (flt h162).2.1 (by decide) (by decide) ?_
    show Steps p.tables e below (T1.setTop (mkF m 169 #[.val (.int p1), .val (.int b), .val (.int (1 : Int32)), .val (.ref a), .val (.int (8 : Int32)), .val (.int (1 : Int32)), .unset] [])) _
    refine XS.iconst X1.here hx rfl (hb hby at_169) ?_
    show Steps p.tables e below (T1.setTop (mkF m 170 #[.val (.int p1), .val (.int b), .val (.int (1 : Int32)), .val (.ref a), .val (.int (8 : Int32)), .val (.int (1 : Int32)), .unset] [(.int (0 : Int32))])) _
    refine XS.istore X1.here hx rfl (hb hby at_170) rfl (l' := #[.val (.int p1), .val (.int b), .val (.int (1 : Int32)), .val (.ref a), .val (.int (8 : Int32)), .val (.int (1 : Int32)), .val (.int (0 : Int32))]) rfl ?_
    show Steps p.tables e below (T1.setTop (mkF m 172 #[.val (.int p1), .val (.int b), .val (.int (1 : Int32)), .val (.ref a), .val (.int (8 : Int32)), .val (.int (1 : Int32)), .val (.int (0 : Int32))] [])) _
    refine XS.goto X1.here hx rfl (pc0 := 172) (pc' := 188) rfl (hb hby at_172) (by decide) (by decide) ?_
    show Steps p.tables e below (T1.setTop (mkF m 188 #[.val (.int p1), .val (.int b), .val (.int (1 : Int32)), .val (.ref a), .val (.int (8 : Int32)), .val (.int (1 : Int32)), .val (.int (0 : Int32))] [])) _
    refine XS.aloadN X1.here hx rfl (hb hby at_188) rfl rfl ?_
    show Steps p.tables e below (T1.setTop (mkF m 189 #[.val (.int p1), .val (.int b), .val (.int (1 : Int32)), .val (.ref a), .val (.int (8 : Int32)), .val (.int (1 : Int32)), .val (.int (0 : Int32))] [(.ref a)])) _
    refine XS.iloadN X1.here hx rfl (hb hby at_189) rfl ?_
    show Steps p.tables e below (T1.setTop (mkF m 190 #[.val (.int p1), .val (.int b), .val (.int (1 : Int32)), .val (.ref a), .val (.int (8 : Int32)), .val (.int (1 : Int32)), .val (.int (0 : Int32))] [(.int b), (.ref a)])) _
    refine st2.trans ?_
    show Steps p.tables e below (T2.setTop (mkF m 193 #[.val (.int p1), .val (.int b), .val (.int (1 : Int32)), .val (.ref a), .val (.int (8 : Int32)), .val (.int (1 : Int32)), .val (.int (0 : Int32))] [(.int (0 : Int32))])) _
    refine XS.iload X2.here hx rfl (hb hby at_193) rfl ?_
    show Steps p.tables e below (T2.setTop (mkF m 195 #[.val (.int p1), .val (.int b), .val (.int (1 : Int32)), .val (.ref a), .val (.int (8 : Int32)), .val (.int (1 : Int32)), .val (.int (0 : Int32))] [(.int (0 : Int32)), (.int (0 : Int32))])) _
    refine XS.icmpNo X2.here hx rfl (hb hby at_195) rfl (by decide) ?_
    show Steps p.tables e below (T2.setTop (mkF m 198 #[.val (.int p1), .val (.int b), .val (.int (1 : Int32)), .val (.ref a), .val (.int (8 : Int32)), .val (.int (1 : Int32)), .val (.int (0 : Int32))] [])) _
    refine XS.iconst X2.here hx rfl (hb hby at_198) ?_
    show Steps p.tables e below (T2.setTop (mkF m 199 #[.val (.int p1), .val (.int b), .val (.int (1 : Int32)), .val (.ref a), .val (.int (8 : Int32)), .val (.int (1 : Int32)), .val (.int (0 : Int32))] [(.int (1 : Int32))])) _
    refine XS.goto X2.here hx rfl (pc0 := 199) (pc' := 203) rfl (hb hby at_199) (by decide) (by decide) ?_
    show Steps p.tables e below (T2.setTop (mkF m 203 #[.val (.int p1), .val (.int b), .val (.int (1 : Int32)), .val (.ref a), .val (.int (8 : Int32)), .val (.int (1 : Int32)), .val (.int (0 : Int32))] [(.int (1 : Int32))])) _
    exact retN X2 hx (t := .boolean) Bd.returns (by simp) (hb hby at_203) hr
  · show PQ (.int (1 : Int32)) h0 n0 _ T2.heap _
    exact ⟨rfl, N2, e2⟩

set_option maxRecDepth 65536 in
set_option maxHeartbeats 40000000 in
theorem law_1_in (l : Launch) (Z : State) (a0 : Array Value) (hw : ∀ d ∈ tables_1, d.before a0 Z = true) (ws : List Jvm.Cond) (p1 b : Int32) (a : Addr) (h0 : Heap) (n0 : Nat) (Z0 : n0 ≤ h0.size) (hi : p1 &&& (7 : Int32) = (1 : Int32)) (S_BYTE : Sta Z h0 "com/example/cairnstore/cairnstore/store/PrimitiveType" "BYTE" "Lcom/example/cairnstore/cairnstore/store/PrimitiveType;" (.ref a)) (EX : Exa Z h0 a "com/example/cairnstore/cairnstore/store/PrimitiveType$2") (C1 : Pays l Z h0 n0 (⟨"com/example/cairnstore/cairnstore/store/PrimitiveType", "allowsBitsPerElement", "(I)Z"⟩ : MethodName) [Jvm.Cond.code (⟨"com/example/cairnstore/cairnstore/store/PrimitiveType", "allowsBitsPerElement", "(I)Z"⟩ : MethodName) prog_51_method_14_code 2 (some .boolean)] R0 #[(.ref a), (.int b)] (.int (1 : Int32))) (h154 : (0 : Int32) < b) (h162 : b < (8 : Int32) + (1 : Int32)) :
    Pays l Z h0 n0 x (Jvm.Cond.code x code maxLocals ret :: ws) room_1 #[(.int p1), (.int b)] (.int (1 : Int32)) := by
  refine MetFree.of_bodySF (plainFor_of_name pn_PrimitiveTypeAllowsBitsPerElementPinLaw) hisR ?_
  intro p e s m args below meth c s₁ Bd hml0 hP hK
  obtain ⟨rfl, hZ, hh⟩ := hP
  have hx := Bd.exec
  have hby := Bd.bytes
  have hml : c.maxLocals = 7 := hml0
  have hown : s.vm.findClass "com/example/cairnstore/cairnstore/store/PrimitiveTypeAllowsBitsPerElementPinLaw" = some m.cls := findClass_of_methodNamed Bd.named
  have X0 : Stand p l e room_1 s m #[(.int p1), (.int b)] below meth c s₁ [] 0 0 := Stand.of_body Bd
  have e0 : s₁.heap = h0 := by rw [← hh, Bd.state]; rfl
  have N0 := Fr.nil n0
  have pre0 : ∀ t, Steps p.tables e below (s₁.setTop (mkF m 0 #[.val (.int p1), .val (.int b), .unset, .unset, .unset, .unset, .unset] [])) t → Steps p.tables e below (s₁.setTop (entryFrame m #[(.int p1), (.int b)] maxLocals)) t := fun t k => castTop (ef_0 m p1 b) k
  obtain ⟨T1, X1, e1, st1⟩ := getS2 X0 hx hZ hown (host := "") (Or.inl (hw _ (List.mem_of_getElem? (i := 37) rfl))) Via.refl e0 S_BYTE (g := (mkF m 27 #[.val (.int p1), .val (.int b), .val (.int (1 : Int32)), .unset, .unset, .unset, .unset] [])) rfl (hb hby at_27)
  obtain ⟨cq2, kq2, q2a, q2b, q2c⟩ := isOf hZ e1 EX
  obtain ⟨_, _, ⟨T2, L2, k2, n2⟩, -, X2, ⟨Lc2, hQ2, l2, y2, z2⟩, st2⟩ := X1.virtualBack hx (y := (⟨"com/example/cairnstore/cairnstore/store/PrimitiveType", "allowsBitsPerElement", "(I)Z"⟩ : MethodName)) (z := (⟨"com/example/cairnstore/cairnstore/store/PrimitiveType", "allowsBitsPerElement", "(I)Z"⟩ : MethodName)) hown (mvT hZ (hw _ (List.mem_of_getElem? (i := 3) rfl))) (mvT hZ (hw _ (List.mem_of_getElem? (i := 4) rfl))) (notFace_of_selects (args := #[]) (mvT hZ (hw _ (List.mem_of_getElem? (i := 39) rfl)))) (mvT hZ (hw _ (List.mem_of_getElem? (i := 39) rfl))) (mvT hZ (hw _ (List.mem_of_getElem? (i := 5) rfl))) (by decide) (backOf (W := 0) (Q := PQ (.int (1 : Int32)) h0 n0) C1 hZ (hw _ (List.mem_of_getElem? (i := 7) rfl)) (hw _ (List.mem_of_getElem? (i := 1) rfl)) (by decide) (by decide)) q2a q2c (g := (mkF m 190 #[.val (.int p1), .val (.int b), .val (.int (1 : Int32)), .val (.ref a), .val (.int (8 : Int32)), .val (.int (1 : Int32)), .val (.int (1 : Int32))] [(.int b), (.ref a)])) rfl (by rw [hml]; rfl) (Steps.refl _) (argsL := [(.int b)]) (rest := []) (lenOf pd__I_Z rfl) rfl (by show 2 * 0 + _ ≤ _; exact Nat.le_of_eq rfl) (hb hby at_190) (fun _ _ => ⟨rfl, e1, (by decide : 0 + 0 ≤ _), (by decide : 0 + 0 ≤ _)⟩)
  dsimp only [Pt.U, Pt.locs, Pt.cells, Pt.slots] at X2 l2 y2 z2 st2 hQ2
  subst l2 y2 z2
  obtain ⟨rfl, Nq2, e2⟩ := hQ2
  have N2 := Fr.app N0 Nq2
  obtain ⟨fs, hr, hrun, hended, hW, hsame⟩ := X2.leave (v := some (.int (1 : Int32))) (fun h => by rw [Bd.returns] at h; cases h)
  refine ⟨_, _, pre0 _ ?_, hrun, hended, _, _, rfl, ?_, ⟨_, rfl⟩, hW, hsame.mono (by decide) (by decide)⟩
  · show Steps p.tables e below (s₁.setTop (mkF m 0 #[.val (.int p1), .val (.int b), .unset, .unset, .unset, .unset, .unset] [])) _
    refine XS.iloadN X0.here hx rfl (hb hby at_0) rfl ?_
    show Steps p.tables e below (s₁.setTop (mkF m 1 #[.val (.int p1), .val (.int b), .unset, .unset, .unset, .unset, .unset] [(.int p1)])) _
    refine XS.bipush X0.here hx rfl (hb hby at_1) ?_
    show Steps p.tables e below (s₁.setTop (mkF m 3 #[.val (.int p1), .val (.int b), .unset, .unset, .unset, .unset, .unset] [(.int (7 : Int32)), (.int p1)])) _
    refine XS.iand X0.here hx rfl (hb hby at_3) rfl ?_
    show Steps p.tables e below (s₁.setTop (mkF m 4 #[.val (.int p1), .val (.int b), .unset, .unset, .unset, .unset, .unset] [(.int (p1 &&& (7 : Int32)))])) _
    rw [hi]
    show Steps p.tables e below (s₁.setTop (mkF m 4 #[.val (.int p1), .val (.int b), .unset, .unset, .unset, .unset, .unset] [(.int (1 : Int32))])) _
    refine XS.istoreN X0.here hx rfl (hb hby at_4) rfl (l' := #[.val (.int p1), .val (.int b), .val (.int (1 : Int32)), .unset, .unset, .unset, .unset]) rfl ?_
    show Steps p.tables e below (s₁.setTop (mkF m 5 #[.val (.int p1), .val (.int b), .val (.int (1 : Int32)), .unset, .unset, .unset, .unset] [])) _
    refine XS.iloadN X0.here hx rfl (hb hby at_5) rfl ?_
    show Steps p.tables e below (s₁.setTop (mkF m 6 #[.val (.int p1), .val (.int b), .val (.int (1 : Int32)), .unset, .unset, .unset, .unset] [(.int (1 : Int32))])) _
    refine XS.ifYes X0.here hx rfl (pc0 := 6) (pc' := 22) rfl (hb hby at_6) rfl (by decide) (by decide) (by decide) ?_
    show Steps p.tables e below (s₁.setTop (mkF m 22 #[.val (.int p1), .val (.int b), .val (.int (1 : Int32)), .unset, .unset, .unset, .unset] [])) _
    refine XS.iloadN X0.here hx rfl (hb hby at_22) rfl ?_
    show Steps p.tables e below (s₁.setTop (mkF m 23 #[.val (.int p1), .val (.int b), .val (.int (1 : Int32)), .unset, .unset, .unset, .unset] [(.int (1 : Int32))])) _
    refine XS.iconst X0.here hx rfl (hb hby at_23) ?_
    show Steps p.tables e below (s₁.setTop (mkF m 24 #[.val (.int p1), .val (.int b), .val (.int (1 : Int32)), .unset, .unset, .unset, .unset] [(.int (1 : Int32)), (.int (1 : Int32))])) _
    refine XS.icmpNo X0.here hx rfl (hb hby at_24) rfl (by decide) ?_
    show Steps p.tables e below (s₁.setTop (mkF m 27 #[.val (.int p1), .val (.int b), .val (.int (1 : Int32)), .unset, .unset, .unset, .unset] [])) _
    refine st1 _ ?_
    show Steps p.tables e below (T1.setTop (mkF m 30 #[.val (.int p1), .val (.int b), .val (.int (1 : Int32)), .unset, .unset, .unset, .unset] [(.ref a)])) _
    refine XS.astoreN X1.here hx rfl (hb hby at_30) rfl rfl (l' := #[.val (.int p1), .val (.int b), .val (.int (1 : Int32)), .val (.ref a), .unset, .unset, .unset]) rfl ?_
    show Steps p.tables e below (T1.setTop (mkF m 31 #[.val (.int p1), .val (.int b), .val (.int (1 : Int32)), .val (.ref a), .unset, .unset, .unset] [])) _
    refine XS.bipush X1.here hx rfl (hb hby at_31) ?_
    show Steps p.tables e below (T1.setTop (mkF m 33 #[.val (.int p1), .val (.int b), .val (.int (1 : Int32)), .val (.ref a), .unset, .unset, .unset] [(.int (8 : Int32))])) _
    refine XS.istore X1.here hx rfl (hb hby at_33) rfl (l' := #[.val (.int p1), .val (.int b), .val (.int (1 : Int32)), .val (.ref a), .val (.int (8 : Int32)), .unset, .unset]) rfl ?_
    show Steps p.tables e below (T1.setTop (mkF m 35 #[.val (.int p1), .val (.int b), .val (.int (1 : Int32)), .val (.ref a), .val (.int (8 : Int32)), .unset, .unset] [])) _
    refine XS.iconst X1.here hx rfl (hb hby at_35) ?_
    show Steps p.tables e below (T1.setTop (mkF m 36 #[.val (.int p1), .val (.int b), .val (.int (1 : Int32)), .val (.ref a), .val (.int (8 : Int32)), .unset, .unset] [(.int (1 : Int32))])) _
    refine XS.istore X1.here hx rfl (hb hby at_36) rfl (l' := #[.val (.int p1), .val (.int b), .val (.int (1 : Int32)), .val (.ref a), .val (.int (8 : Int32)), .val (.int (1 : Int32)), .unset]) rfl ?_
    show Steps p.tables e below (T1.setTop (mkF m 38 #[.val (.int p1), .val (.int b), .val (.int (1 : Int32)), .val (.ref a), .val (.int (8 : Int32)), .val (.int (1 : Int32)), .unset] [])) _
    refine XS.goto X1.here hx rfl (pc0 := 38) (pc' := 148) rfl (hb hby at_38) (by decide) (by decide) ?_
    show Steps p.tables e below (T1.setTop (mkF m 148 #[.val (.int p1), .val (.int b), .val (.int (1 : Int32)), .val (.ref a), .val (.int (8 : Int32)), .val (.int (1 : Int32)), .unset] [])) _
    refine XS.iload X1.here hx rfl (hb hby at_148) rfl ?_
    show Steps p.tables e below (T1.setTop (mkF m 150 #[.val (.int p1), .val (.int b), .val (.int (1 : Int32)), .val (.ref a), .val (.int (8 : Int32)), .val (.int (1 : Int32)), .unset] [(.int (1 : Int32))])) _
    refine XS.ifNo X1.here hx rfl (hb hby at_150) rfl (by decide) ?_
    show Steps p.tables e below (T1.setTop (mkF m 153 #[.val (.int p1), .val (.int b), .val (.int (1 : Int32)), .val (.ref a), .val (.int (8 : Int32)), .val (.int (1 : Int32)), .unset] [])) _
    refine XS.iloadN X1.here hx rfl (hb hby at_153) rfl ?_
    show Steps p.tables e below (T1.setTop (mkF m 154 #[.val (.int p1), .val (.int b), .val (.int (1 : Int32)), .val (.ref a), .val (.int (8 : Int32)), .val (.int (1 : Int32)), .unset] [(.int b)])) _
    refine XS.ifNo X1.here hx rfl (hb hby at_154) rfl ((if0 _ _).trans (tlt h154).2.2.2) ?_
    show Steps p.tables e below (T1.setTop (mkF m 157 #[.val (.int p1), .val (.int b), .val (.int (1 : Int32)), .val (.ref a), .val (.int (8 : Int32)), .val (.int (1 : Int32)), .unset] [])) _
    refine XS.iloadN X1.here hx rfl (hb hby at_157) rfl ?_
    show Steps p.tables e below (T1.setTop (mkF m 158 #[.val (.int p1), .val (.int b), .val (.int (1 : Int32)), .val (.ref a), .val (.int (8 : Int32)), .val (.int (1 : Int32)), .unset] [(.int b)])) _
    refine XS.iload X1.here hx rfl (hb hby at_158) rfl ?_
    show Steps p.tables e below (T1.setTop (mkF m 160 #[.val (.int p1), .val (.int b), .val (.int (1 : Int32)), .val (.ref a), .val (.int (8 : Int32)), .val (.int (1 : Int32)), .unset] [(.int (8 : Int32)), (.int b)])) _
    refine XS.iconst X1.here hx rfl (hb hby at_160) ?_
    show Steps p.tables e below (T1.setTop (mkF m 161 #[.val (.int p1), .val (.int b), .val (.int (1 : Int32)), .val (.ref a), .val (.int (8 : Int32)), .val (.int (1 : Int32)), .unset] [(.int (1 : Int32)), (.int (8 : Int32)), (.int b)])) _
    refine XS.iadd X1.here hx rfl (hb hby at_161) rfl ?_
    show Steps p.tables e below (T1.setTop (mkF m 162 #[.val (.int p1), .val (.int b), .val (.int (1 : Int32)), .val (.ref a), .val (.int (8 : Int32)), .val (.int (1 : Int32)), .unset] [(.int ((8 : Int32) + (1 : Int32))), (.int b)])) _
    refine XS.icmpNo X1.here hx rfl (hb hby at_162) rfl (tlt h162).2.1 ?_
    show Steps p.tables e below (T1.setTop (mkF m 165 #[.val (.int p1), .val (.int b), .val (.int (1 : Int32)), .val (.ref a), .val (.int (8 : Int32)), .val (.int (1 : Int32)), .unset] [])) _
    refine XS.iconst X1.here hx rfl (hb hby at_165) ?_
    show Steps p.tables e below (T1.setTop (mkF m 166 #[.val (.int p1), .val (.int b), .val (.int (1 : Int32)), .val (.ref a), .val (.int (8 : Int32)), .val (.int (1 : Int32)), .unset] [(.int (1 : Int32))])) _
    refine XS.goto X1.here hx rfl (pc0 := 166) (pc' := 170) rfl (hb hby at_166) (by decide) (by decide) ?_
    show Steps p.tables e below (T1.setTop (mkF m 170 #[.val (.int p1), .val (.int b), .val (.int (1 : Int32)), .val (.ref a), .val (.int (8 : Int32)), .val (.int (1 : Int32)), .unset] [(.int (1 : Int32))])) _
    refine XS.istore X1.here hx rfl (hb hby at_170) rfl (l' := #[.val (.int p1), .val (.int b), .val (.int (1 : Int32)), .val (.ref a), .val (.int (8 : Int32)), .val (.int (1 : Int32)), .val (.int (1 : Int32))]) rfl ?_
    show Steps p.tables e below (T1.setTop (mkF m 172 #[.val (.int p1), .val (.int b), .val (.int (1 : Int32)), .val (.ref a), .val (.int (8 : Int32)), .val (.int (1 : Int32)), .val (.int (1 : Int32))] [])) _
    refine XS.goto X1.here hx rfl (pc0 := 172) (pc' := 188) rfl (hb hby at_172) (by decide) (by decide) ?_
    show Steps p.tables e below (T1.setTop (mkF m 188 #[.val (.int p1), .val (.int b), .val (.int (1 : Int32)), .val (.ref a), .val (.int (8 : Int32)), .val (.int (1 : Int32)), .val (.int (1 : Int32))] [])) _
    refine XS.aloadN X1.here hx rfl (hb hby at_188) rfl rfl ?_
    show Steps p.tables e below (T1.setTop (mkF m 189 #[.val (.int p1), .val (.int b), .val (.int (1 : Int32)), .val (.ref a), .val (.int (8 : Int32)), .val (.int (1 : Int32)), .val (.int (1 : Int32))] [(.ref a)])) _
    refine XS.iloadN X1.here hx rfl (hb hby at_189) rfl ?_
    show Steps p.tables e below (T1.setTop (mkF m 190 #[.val (.int p1), .val (.int b), .val (.int (1 : Int32)), .val (.ref a), .val (.int (8 : Int32)), .val (.int (1 : Int32)), .val (.int (1 : Int32))] [(.int b), (.ref a)])) _
    refine st2.trans ?_
    show Steps p.tables e below (T2.setTop (mkF m 193 #[.val (.int p1), .val (.int b), .val (.int (1 : Int32)), .val (.ref a), .val (.int (8 : Int32)), .val (.int (1 : Int32)), .val (.int (1 : Int32))] [(.int (1 : Int32))])) _
    refine XS.iload X2.here hx rfl (hb hby at_193) rfl ?_
    show Steps p.tables e below (T2.setTop (mkF m 195 #[.val (.int p1), .val (.int b), .val (.int (1 : Int32)), .val (.ref a), .val (.int (8 : Int32)), .val (.int (1 : Int32)), .val (.int (1 : Int32))] [(.int (1 : Int32)), (.int (1 : Int32))])) _
    refine XS.icmpNo X2.here hx rfl (hb hby at_195) rfl (by decide) ?_
    show Steps p.tables e below (T2.setTop (mkF m 198 #[.val (.int p1), .val (.int b), .val (.int (1 : Int32)), .val (.ref a), .val (.int (8 : Int32)), .val (.int (1 : Int32)), .val (.int (1 : Int32))] [])) _
    refine XS.iconst X2.here hx rfl (hb hby at_198) ?_
    show Steps p.tables e below (T2.setTop (mkF m 199 #[.val (.int p1), .val (.int b), .val (.int (1 : Int32)), .val (.ref a), .val (.int (8 : Int32)), .val (.int (1 : Int32)), .val (.int (1 : Int32))] [(.int (1 : Int32))])) _
    refine XS.goto X2.here hx rfl (pc0 := 199) (pc' := 203) rfl (hb hby at_199) (by decide) (by decide) ?_
    show Steps p.tables e below (T2.setTop (mkF m 203 #[.val (.int p1), .val (.int b), .val (.int (1 : Int32)), .val (.ref a), .val (.int (8 : Int32)), .val (.int (1 : Int32)), .val (.int (1 : Int32))] [(.int (1 : Int32))])) _
    exact retN X2 hx (t := .boolean) Bd.returns (by simp) (hb hby at_203) hr
  · show PQ (.int (1 : Int32)) h0 n0 _ T2.heap _
    exact ⟨rfl, N2, e2⟩

set_option maxRecDepth 65536 in
set_option maxHeartbeats 40000000 in
theorem law_2_lo (l : Launch) (Z : State) (a0 : Array Value) (hw : ∀ d ∈ tables_1, d.before a0 Z = true) (ws : List Jvm.Cond) (p1 b : Int32) (a : Addr) (h0 : Heap) (n0 : Nat) (Z0 : n0 ≤ h0.size) (hi : p1 &&& (7 : Int32) = (2 : Int32)) (S_SHORT : Sta Z h0 "com/example/cairnstore/cairnstore/store/PrimitiveType" "SHORT" "Lcom/example/cairnstore/cairnstore/store/PrimitiveType;" (.ref a)) (EX : Exa Z h0 a "com/example/cairnstore/cairnstore/store/PrimitiveType$3") (C1 : Pays l Z h0 n0 (⟨"com/example/cairnstore/cairnstore/store/PrimitiveType", "allowsBitsPerElement", "(I)Z"⟩ : MethodName) [Jvm.Cond.code (⟨"com/example/cairnstore/cairnstore/store/PrimitiveType", "allowsBitsPerElement", "(I)Z"⟩ : MethodName) prog_51_method_14_code 2 (some .boolean)] R0 #[(.ref a), (.int b)] (.int (0 : Int32))) (h154 : ¬ ((0 : Int32) < b)) :
    Pays l Z h0 n0 x (Jvm.Cond.code x code maxLocals ret :: ws) room_1 #[(.int p1), (.int b)] (.int (1 : Int32)) := by
  refine MetFree.of_bodySF (plainFor_of_name pn_PrimitiveTypeAllowsBitsPerElementPinLaw) hisR ?_
  intro p e s m args below meth c s₁ Bd hml0 hP hK
  obtain ⟨rfl, hZ, hh⟩ := hP
  have hx := Bd.exec
  have hby := Bd.bytes
  have hml : c.maxLocals = 7 := hml0
  have hown : s.vm.findClass "com/example/cairnstore/cairnstore/store/PrimitiveTypeAllowsBitsPerElementPinLaw" = some m.cls := findClass_of_methodNamed Bd.named
  have X0 : Stand p l e room_1 s m #[(.int p1), (.int b)] below meth c s₁ [] 0 0 := Stand.of_body Bd
  have e0 : s₁.heap = h0 := by rw [← hh, Bd.state]; rfl
  have N0 := Fr.nil n0
  have pre0 : ∀ t, Steps p.tables e below (s₁.setTop (mkF m 0 #[.val (.int p1), .val (.int b), .unset, .unset, .unset, .unset, .unset] [])) t → Steps p.tables e below (s₁.setTop (entryFrame m #[(.int p1), (.int b)] maxLocals)) t := fun t k => castTop (ef_0 m p1 b) k
  obtain ⟨T1, X1, e1, st1⟩ := getS2 X0 hx hZ hown (host := "") (Or.inl (hw _ (List.mem_of_getElem? (i := 42) rfl))) Via.refl e0 S_SHORT (g := (mkF m 46 #[.val (.int p1), .val (.int b), .val (.int (2 : Int32)), .unset, .unset, .unset, .unset] [])) rfl (hb hby at_46)
  obtain ⟨cq2, kq2, q2a, q2b, q2c⟩ := isOf hZ e1 EX
  obtain ⟨_, _, ⟨T2, L2, k2, n2⟩, -, X2, ⟨Lc2, hQ2, l2, y2, z2⟩, st2⟩ := X1.virtualBack hx (y := (⟨"com/example/cairnstore/cairnstore/store/PrimitiveType", "allowsBitsPerElement", "(I)Z"⟩ : MethodName)) (z := (⟨"com/example/cairnstore/cairnstore/store/PrimitiveType", "allowsBitsPerElement", "(I)Z"⟩ : MethodName)) hown (mvT hZ (hw _ (List.mem_of_getElem? (i := 3) rfl))) (mvT hZ (hw _ (List.mem_of_getElem? (i := 4) rfl))) (notFace_of_selects (args := #[]) (mvT hZ (hw _ (List.mem_of_getElem? (i := 44) rfl)))) (mvT hZ (hw _ (List.mem_of_getElem? (i := 44) rfl))) (mvT hZ (hw _ (List.mem_of_getElem? (i := 5) rfl))) (by decide) (backOf (W := 0) (Q := PQ (.int (0 : Int32)) h0 n0) C1 hZ (hw _ (List.mem_of_getElem? (i := 7) rfl)) (hw _ (List.mem_of_getElem? (i := 1) rfl)) (by decide) (by decide)) q2a q2c (g := (mkF m 190 #[.val (.int p1), .val (.int b), .val (.int (2 : Int32)), .val (.ref a), .val (.int (16 : Int32)), .val (.int (1 : Int32)), .val (.int (0 : Int32))] [(.int b), (.ref a)])) rfl (by rw [hml]; rfl) (Steps.refl _) (argsL := [(.int b)]) (rest := []) (lenOf pd__I_Z rfl) rfl (by show 2 * 0 + _ ≤ _; exact Nat.le_of_eq rfl) (hb hby at_190) (fun _ _ => ⟨rfl, e1, (by decide : 0 + 0 ≤ _), (by decide : 0 + 0 ≤ _)⟩)
  dsimp only [Pt.U, Pt.locs, Pt.cells, Pt.slots] at X2 l2 y2 z2 st2 hQ2
  subst l2 y2 z2
  obtain ⟨rfl, Nq2, e2⟩ := hQ2
  have N2 := Fr.app N0 Nq2
  obtain ⟨fs, hr, hrun, hended, hW, hsame⟩ := X2.leave (v := some (.int (1 : Int32))) (fun h => by rw [Bd.returns] at h; cases h)
  refine ⟨_, _, pre0 _ ?_, hrun, hended, _, _, rfl, ?_, ⟨_, rfl⟩, hW, hsame.mono (by decide) (by decide)⟩
  · show Steps p.tables e below (s₁.setTop (mkF m 0 #[.val (.int p1), .val (.int b), .unset, .unset, .unset, .unset, .unset] [])) _
    refine XS.iloadN X0.here hx rfl (hb hby at_0) rfl ?_
    show Steps p.tables e below (s₁.setTop (mkF m 1 #[.val (.int p1), .val (.int b), .unset, .unset, .unset, .unset, .unset] [(.int p1)])) _
    refine XS.bipush X0.here hx rfl (hb hby at_1) ?_
    show Steps p.tables e below (s₁.setTop (mkF m 3 #[.val (.int p1), .val (.int b), .unset, .unset, .unset, .unset, .unset] [(.int (7 : Int32)), (.int p1)])) _
    refine XS.iand X0.here hx rfl (hb hby at_3) rfl ?_
    show Steps p.tables e below (s₁.setTop (mkF m 4 #[.val (.int p1), .val (.int b), .unset, .unset, .unset, .unset, .unset] [(.int (p1 &&& (7 : Int32)))])) _
    rw [hi]
    show Steps p.tables e below (s₁.setTop (mkF m 4 #[.val (.int p1), .val (.int b), .unset, .unset, .unset, .unset, .unset] [(.int (2 : Int32))])) _
    refine XS.istoreN X0.here hx rfl (hb hby at_4) rfl (l' := #[.val (.int p1), .val (.int b), .val (.int (2 : Int32)), .unset, .unset, .unset, .unset]) rfl ?_
    show Steps p.tables e below (s₁.setTop (mkF m 5 #[.val (.int p1), .val (.int b), .val (.int (2 : Int32)), .unset, .unset, .unset, .unset] [])) _
    refine XS.iloadN X0.here hx rfl (hb hby at_5) rfl ?_
    show Steps p.tables e below (s₁.setTop (mkF m 6 #[.val (.int p1), .val (.int b), .val (.int (2 : Int32)), .unset, .unset, .unset, .unset] [(.int (2 : Int32))])) _
    refine XS.ifYes X0.here hx rfl (pc0 := 6) (pc' := 22) rfl (hb hby at_6) rfl (by decide) (by decide) (by decide) ?_
    show Steps p.tables e below (s₁.setTop (mkF m 22 #[.val (.int p1), .val (.int b), .val (.int (2 : Int32)), .unset, .unset, .unset, .unset] [])) _
    refine XS.iloadN X0.here hx rfl (hb hby at_22) rfl ?_
    show Steps p.tables e below (s₁.setTop (mkF m 23 #[.val (.int p1), .val (.int b), .val (.int (2 : Int32)), .unset, .unset, .unset, .unset] [(.int (2 : Int32))])) _
    refine XS.iconst X0.here hx rfl (hb hby at_23) ?_
    show Steps p.tables e below (s₁.setTop (mkF m 24 #[.val (.int p1), .val (.int b), .val (.int (2 : Int32)), .unset, .unset, .unset, .unset] [(.int (1 : Int32)), (.int (2 : Int32))])) _
    refine XS.icmpYes X0.here hx rfl (pc0 := 24) (pc' := 41) rfl (hb hby at_24) rfl (by decide) (by decide) (by decide) ?_
    show Steps p.tables e below (s₁.setTop (mkF m 41 #[.val (.int p1), .val (.int b), .val (.int (2 : Int32)), .unset, .unset, .unset, .unset] [])) _
    refine XS.iloadN X0.here hx rfl (hb hby at_41) rfl ?_
    show Steps p.tables e below (s₁.setTop (mkF m 42 #[.val (.int p1), .val (.int b), .val (.int (2 : Int32)), .unset, .unset, .unset, .unset] [(.int (2 : Int32))])) _
    refine XS.iconst X0.here hx rfl (hb hby at_42) ?_
    show Steps p.tables e below (s₁.setTop (mkF m 43 #[.val (.int p1), .val (.int b), .val (.int (2 : Int32)), .unset, .unset, .unset, .unset] [(.int (2 : Int32)), (.int (2 : Int32))])) _
    refine XS.icmpNo X0.here hx rfl (hb hby at_43) rfl (by decide) ?_
    show Steps p.tables e below (s₁.setTop (mkF m 46 #[.val (.int p1), .val (.int b), .val (.int (2 : Int32)), .unset, .unset, .unset, .unset] [])) _
    refine st1 _ ?_
    show Steps p.tables e below (T1.setTop (mkF m 49 #[.val (.int p1), .val (.int b), .val (.int (2 : Int32)), .unset, .unset, .unset, .unset] [(.ref a)])) _
    refine XS.astoreN X1.here hx rfl (hb hby at_49) rfl rfl (l' := #[.val (.int p1), .val (.int b), .val (.int (2 : Int32)), .val (.ref a), .unset, .unset, .unset]) rfl ?_
    show Steps p.tables e below (T1.setTop (mkF m 50 #[.val (.int p1), .val (.int b), .val (.int (2 : Int32)), .val (.ref a), .unset, .unset, .unset] [])) _
    refine XS.bipush X1.here hx rfl (hb hby at_50) ?_
    show Steps p.tables e below (T1.setTop (mkF m 52 #[.val (.int p1), .val (.int b), .val (.int (2 : Int32)), .val (.ref a), .unset, .unset, .unset] [(.int (16 : Int32))])) _
    refine XS.istore X1.here hx rfl (hb hby at_52) rfl (l' := #[.val (.int p1), .val (.int b), .val (.int (2 : Int32)), .val (.ref a), .val (.int (16 : Int32)), .unset, .unset]) rfl ?_
    show Steps p.tables e below (T1.setTop (mkF m 54 #[.val (.int p1), .val (.int b), .val (.int (2 : Int32)), .val (.ref a), .val (.int (16 : Int32)), .unset, .unset] [])) _
    refine XS.iconst X1.here hx rfl (hb hby at_54) ?_
    show Steps p.tables e below (T1.setTop (mkF m 55 #[.val (.int p1), .val (.int b), .val (.int (2 : Int32)), .val (.ref a), .val (.int (16 : Int32)), .unset, .unset] [(.int (1 : Int32))])) _
    refine XS.istore X1.here hx rfl (hb hby at_55) rfl (l' := #[.val (.int p1), .val (.int b), .val (.int (2 : Int32)), .val (.ref a), .val (.int (16 : Int32)), .val (.int (1 : Int32)), .unset]) rfl ?_
    show Steps p.tables e below (T1.setTop (mkF m 57 #[.val (.int p1), .val (.int b), .val (.int (2 : Int32)), .val (.ref a), .val (.int (16 : Int32)), .val (.int (1 : Int32)), .unset] [])) _
    refine XS.goto X1.here hx rfl (pc0 := 57) (pc' := 148) rfl (hb hby at_57) (by decide) (by decide) ?_
    show Steps p.tables e below (T1.setTop (mkF m 148 #[.val (.int p1), .val (.int b), .val (.int (2 : Int32)), .val (.ref a), .val (.int (16 : Int32)), .val (.int (1 : Int32)), .unset] [])) _
    refine XS.iload X1.here hx rfl (hb hby at_148) rfl ?_
    show Steps p.tables e below (T1.setTop (mkF m 150 #[.val (.int p1), .val (.int b), .val (.int (2 : Int32)), .val (.ref a), .val (.int (16 : Int32)), .val (.int (1 : Int32)), .unset] [(.int (1 : Int32))])) _
    refine XS.ifNo X1.here hx rfl (hb hby at_150) rfl (by decide) ?_
    show Steps p.tables e below (T1.setTop (mkF m 153 #[.val (.int p1), .val (.int b), .val (.int (2 : Int32)), .val (.ref a), .val (.int (16 : Int32)), .val (.int (1 : Int32)), .unset] [])) _
    refine XS.iloadN X1.here hx rfl (hb hby at_153) rfl ?_
    show Steps p.tables e below (T1.setTop (mkF m 154 #[.val (.int p1), .val (.int b), .val (.int (2 : Int32)), .val (.ref a), .val (.int (16 : Int32)), .val (.int (1 : Int32)), .unset] [(.int b)])) _
    refine XS.ifYes X1.here hx rfl (pc0 := 154) (pc' := 169) rfl (hb hby at_154) rfl ((if0 _ _).trans (flt h154).2.2.2) (by decide) (by decide) ?_
    show Steps p.tables e below (T1.setTop (mkF m 169 #[.val (.int p1), .val (.int b), .val (.int (2 : Int32)), .val (.ref a), .val (.int (16 : Int32)), .val (.int (1 : Int32)), .unset] [])) _
    refine XS.iconst X1.here hx rfl (hb hby at_169) ?_
    show Steps p.tables e below (T1.setTop (mkF m 170 #[.val (.int p1), .val (.int b), .val (.int (2 : Int32)), .val (.ref a), .val (.int (16 : Int32)), .val (.int (1 : Int32)), .unset] [(.int (0 : Int32))])) _
    refine XS.istore X1.here hx rfl (hb hby at_170) rfl (l' := #[.val (.int p1), .val (.int b), .val (.int (2 : Int32)), .val (.ref a), .val (.int (16 : Int32)), .val (.int (1 : Int32)), .val (.int (0 : Int32))]) rfl ?_
    show Steps p.tables e below (T1.setTop (mkF m 172 #[.val (.int p1), .val (.int b), .val (.int (2 : Int32)), .val (.ref a), .val (.int (16 : Int32)), .val (.int (1 : Int32)), .val (.int (0 : Int32))] [])) _
    refine XS.goto X1.here hx rfl (pc0 := 172) (pc' := 188) rfl (hb hby at_172) (by decide) (by decide) ?_
    show Steps p.tables e below (T1.setTop (mkF m 188 #[.val (.int p1), .val (.int b), .val (.int (2 : Int32)), .val (.ref a), .val (.int (16 : Int32)), .val (.int (1 : Int32)), .val (.int (0 : Int32))] [])) _
    refine XS.aloadN X1.here hx rfl (hb hby at_188) rfl rfl ?_
    show Steps p.tables e below (T1.setTop (mkF m 189 #[.val (.int p1), .val (.int b), .val (.int (2 : Int32)), .val (.ref a), .val (.int (16 : Int32)), .val (.int (1 : Int32)), .val (.int (0 : Int32))] [(.ref a)])) _
    refine XS.iloadN X1.here hx rfl (hb hby at_189) rfl ?_
    show Steps p.tables e below (T1.setTop (mkF m 190 #[.val (.int p1), .val (.int b), .val (.int (2 : Int32)), .val (.ref a), .val (.int (16 : Int32)), .val (.int (1 : Int32)), .val (.int (0 : Int32))] [(.int b), (.ref a)])) _
    refine st2.trans ?_
    show Steps p.tables e below (T2.setTop (mkF m 193 #[.val (.int p1), .val (.int b), .val (.int (2 : Int32)), .val (.ref a), .val (.int (16 : Int32)), .val (.int (1 : Int32)), .val (.int (0 : Int32))] [(.int (0 : Int32))])) _
    refine XS.iload X2.here hx rfl (hb hby at_193) rfl ?_
    show Steps p.tables e below (T2.setTop (mkF m 195 #[.val (.int p1), .val (.int b), .val (.int (2 : Int32)), .val (.ref a), .val (.int (16 : Int32)), .val (.int (1 : Int32)), .val (.int (0 : Int32))] [(.int (0 : Int32)), (.int (0 : Int32))])) _
    refine XS.icmpNo X2.here hx rfl (hb hby at_195) rfl (by decide) ?_
    show Steps p.tables e below (T2.setTop (mkF m 198 #[.val (.int p1), .val (.int b), .val (.int (2 : Int32)), .val (.ref a), .val (.int (16 : Int32)), .val (.int (1 : Int32)), .val (.int (0 : Int32))] [])) _
    refine XS.iconst X2.here hx rfl (hb hby at_198) ?_
    show Steps p.tables e below (T2.setTop (mkF m 199 #[.val (.int p1), .val (.int b), .val (.int (2 : Int32)), .val (.ref a), .val (.int (16 : Int32)), .val (.int (1 : Int32)), .val (.int (0 : Int32))] [(.int (1 : Int32))])) _
    refine XS.goto X2.here hx rfl (pc0 := 199) (pc' := 203) rfl (hb hby at_199) (by decide) (by decide) ?_
    show Steps p.tables e below (T2.setTop (mkF m 203 #[.val (.int p1), .val (.int b), .val (.int (2 : Int32)), .val (.ref a), .val (.int (16 : Int32)), .val (.int (1 : Int32)), .val (.int (0 : Int32))] [(.int (1 : Int32))])) _
    exact retN X2 hx (t := .boolean) Bd.returns (by simp) (hb hby at_203) hr
  · show PQ (.int (1 : Int32)) h0 n0 _ T2.heap _
    exact ⟨rfl, N2, e2⟩

set_option maxRecDepth 65536 in
set_option maxHeartbeats 40000000 in
theorem law_2_hi (l : Launch) (Z : State) (a0 : Array Value) (hw : ∀ d ∈ tables_1, d.before a0 Z = true) (ws : List Jvm.Cond) (p1 b : Int32) (a : Addr) (h0 : Heap) (n0 : Nat) (Z0 : n0 ≤ h0.size) (hi : p1 &&& (7 : Int32) = (2 : Int32)) (S_SHORT : Sta Z h0 "com/example/cairnstore/cairnstore/store/PrimitiveType" "SHORT" "Lcom/example/cairnstore/cairnstore/store/PrimitiveType;" (.ref a)) (EX : Exa Z h0 a "com/example/cairnstore/cairnstore/store/PrimitiveType$3") (C1 : Pays l Z h0 n0 (⟨"com/example/cairnstore/cairnstore/store/PrimitiveType", "allowsBitsPerElement", "(I)Z"⟩ : MethodName) [Jvm.Cond.code (⟨"com/example/cairnstore/cairnstore/store/PrimitiveType", "allowsBitsPerElement", "(I)Z"⟩ : MethodName) prog_51_method_14_code 2 (some .boolean)] R0 #[(.ref a), (.int b)] (.int (0 : Int32))) (h154 : (0 : Int32) < b) (h162 : ¬ (b < (16 : Int32) + (1 : Int32))) :
    Pays l Z h0 n0 x (Jvm.Cond.code x code maxLocals ret :: ws) room_1 #[(.int p1), (.int b)] (.int (1 : Int32)) := by
  refine MetFree.of_bodySF (plainFor_of_name pn_PrimitiveTypeAllowsBitsPerElementPinLaw) hisR ?_
  intro p e s m args below meth c s₁ Bd hml0 hP hK
  obtain ⟨rfl, hZ, hh⟩ := hP
  have hx := Bd.exec
  have hby := Bd.bytes
  have hml : c.maxLocals = 7 := hml0
  have hown : s.vm.findClass "com/example/cairnstore/cairnstore/store/PrimitiveTypeAllowsBitsPerElementPinLaw" = some m.cls := findClass_of_methodNamed Bd.named
  have X0 : Stand p l e room_1 s m #[(.int p1), (.int b)] below meth c s₁ [] 0 0 := Stand.of_body Bd
  have e0 : s₁.heap = h0 := by rw [← hh, Bd.state]; rfl
  have N0 := Fr.nil n0
  have pre0 : ∀ t, Steps p.tables e below (s₁.setTop (mkF m 0 #[.val (.int p1), .val (.int b), .unset, .unset, .unset, .unset, .unset] [])) t → Steps p.tables e below (s₁.setTop (entryFrame m #[(.int p1), (.int b)] maxLocals)) t := fun t k => castTop (ef_0 m p1 b) k
  obtain ⟨T1, X1, e1, st1⟩ := getS2 X0 hx hZ hown (host := "") (Or.inl (hw _ (List.mem_of_getElem? (i := 42) rfl))) Via.refl e0 S_SHORT (g := (mkF m 46 #[.val (.int p1), .val (.int b), .val (.int (2 : Int32)), .unset, .unset, .unset, .unset] [])) rfl (hb hby at_46)
  obtain ⟨cq2, kq2, q2a, q2b, q2c⟩ := isOf hZ e1 EX
  obtain ⟨_, _, ⟨T2, L2, k2, n2⟩, -, X2, ⟨Lc2, hQ2, l2, y2, z2⟩, st2⟩ := X1.virtualBack hx (y := (⟨"com/example/cairnstore/cairnstore/store/PrimitiveType", "allowsBitsPerElement", "(I)Z"⟩ : MethodName)) (z := (⟨"com/example/cairnstore/cairnstore/store/PrimitiveType", "allowsBitsPerElement", "(I)Z"⟩ : MethodName)) hown (mvT hZ (hw _ (List.mem_of_getElem? (i := 3) rfl))) (mvT hZ (hw _ (List.mem_of_getElem? (i := 4) rfl))) (notFace_of_selects (args := #[]) (mvT hZ (hw _ (List.mem_of_getElem? (i := 44) rfl)))) (mvT hZ (hw _ (List.mem_of_getElem? (i := 44) rfl))) (mvT hZ (hw _ (List.mem_of_getElem? (i := 5) rfl))) (by decide) (backOf (W := 0) (Q := PQ (.int (0 : Int32)) h0 n0) C1 hZ (hw _ (List.mem_of_getElem? (i := 7) rfl)) (hw _ (List.mem_of_getElem? (i := 1) rfl)) (by decide) (by decide)) q2a q2c (g := (mkF m 190 #[.val (.int p1), .val (.int b), .val (.int (2 : Int32)), .val (.ref a), .val (.int (16 : Int32)), .val (.int (1 : Int32)), .val (.int (0 : Int32))] [(.int b), (.ref a)])) rfl (by rw [hml]; rfl) (Steps.refl _) (argsL := [(.int b)]) (rest := []) (lenOf pd__I_Z rfl) rfl (by show 2 * 0 + _ ≤ _; exact Nat.le_of_eq rfl) (hb hby at_190) (fun _ _ => ⟨rfl, e1, (by decide : 0 + 0 ≤ _), (by decide : 0 + 0 ≤ _)⟩)
  dsimp only [Pt.U, Pt.locs, Pt.cells, Pt.slots] at X2 l2 y2 z2 st2 hQ2
  subst l2 y2 z2
  obtain ⟨rfl, Nq2, e2⟩ := hQ2
  have N2 := Fr.app N0 Nq2
  obtain ⟨fs, hr, hrun, hended, hW, hsame⟩ := X2.leave (v := some (.int (1 : Int32))) (fun h => by rw [Bd.returns] at h; cases h)
  refine ⟨_, _, pre0 _ ?_, hrun, hended, _, _, rfl, ?_, ⟨_, rfl⟩, hW, hsame.mono (by decide) (by decide)⟩
  · show Steps p.tables e below (s₁.setTop (mkF m 0 #[.val (.int p1), .val (.int b), .unset, .unset, .unset, .unset, .unset] [])) _
    refine XS.iloadN X0.here hx rfl (hb hby at_0) rfl ?_
    show Steps p.tables e below (s₁.setTop (mkF m 1 #[.val (.int p1), .val (.int b), .unset, .unset, .unset, .unset, .unset] [(.int p1)])) _
    refine XS.bipush X0.here hx rfl (hb hby at_1) ?_
    show Steps p.tables e below (s₁.setTop (mkF m 3 #[.val (.int p1), .val (.int b), .unset, .unset, .unset, .unset, .unset] [(.int (7 : Int32)), (.int p1)])) _
    refine XS.iand X0.here hx rfl (hb hby at_3) rfl ?_
    show Steps p.tables e below (s₁.setTop (mkF m 4 #[.val (.int p1), .val (.int b), .unset, .unset, .unset, .unset, .unset] [(.int (p1 &&& (7 : Int32)))])) _
    rw [hi]
    show Steps p.tables e below (s₁.setTop (mkF m 4 #[.val (.int p1), .val (.int b), .unset, .unset, .unset, .unset, .unset] [(.int (2 : Int32))])) _
    refine XS.istoreN X0.here hx rfl (hb hby at_4) rfl (l' := #[.val (.int p1), .val (.int b), .val (.int (2 : Int32)), .unset, .unset, .unset, .unset]) rfl ?_
    show Steps p.tables e below (s₁.setTop (mkF m 5 #[.val (.int p1), .val (.int b), .val (.int (2 : Int32)), .unset, .unset, .unset, .unset] [])) _
    refine XS.iloadN X0.here hx rfl (hb hby at_5) rfl ?_
    show Steps p.tables e below (s₁.setTop (mkF m 6 #[.val (.int p1), .val (.int b), .val (.int (2 : Int32)), .unset, .unset, .unset, .unset] [(.int (2 : Int32))])) _
    refine XS.ifYes X0.here hx rfl (pc0 := 6) (pc' := 22) rfl (hb hby at_6) rfl (by decide) (by decide) (by decide) ?_
    show Steps p.tables e below (s₁.setTop (mkF m 22 #[.val (.int p1), .val (.int b), .val (.int (2 : Int32)), .unset, .unset, .unset, .unset] [])) _
    refine XS.iloadN X0.here hx rfl (hb hby at_22) rfl ?_
    show Steps p.tables e below (s₁.setTop (mkF m 23 #[.val (.int p1), .val (.int b), .val (.int (2 : Int32)), .unset, .unset, .unset, .unset] [(.int (2 : Int32))])) _
    refine XS.iconst X0.here hx rfl (hb hby at_23) ?_
    show Steps p.tables e below (s₁.setTop (mkF m 24 #[.val (.int p1), .val (.int b), .val (.int (2 : Int32)), .unset, .unset, .unset, .unset] [(.int (1 : Int32)), (.int (2 : Int32))])) _
    refine XS.icmpYes X0.here hx rfl (pc0 := 24) (pc' := 41) rfl (hb hby at_24) rfl (by decide) (by decide) (by decide) ?_
    show Steps p.tables e below (s₁.setTop (mkF m 41 #[.val (.int p1), .val (.int b), .val (.int (2 : Int32)), .unset, .unset, .unset, .unset] [])) _
    refine XS.iloadN X0.here hx rfl (hb hby at_41) rfl ?_
    show Steps p.tables e below (s₁.setTop (mkF m 42 #[.val (.int p1), .val (.int b), .val (.int (2 : Int32)), .unset, .unset, .unset, .unset] [(.int (2 : Int32))])) _
    refine XS.iconst X0.here hx rfl (hb hby at_42) ?_
    show Steps p.tables e below (s₁.setTop (mkF m 43 #[.val (.int p1), .val (.int b), .val (.int (2 : Int32)), .unset, .unset, .unset, .unset] [(.int (2 : Int32)), (.int (2 : Int32))])) _
    refine XS.icmpNo X0.here hx rfl (hb hby at_43) rfl (by decide) ?_
    show Steps p.tables e below (s₁.setTop (mkF m 46 #[.val (.int p1), .val (.int b), .val (.int (2 : Int32)), .unset, .unset, .unset, .unset] [])) _
    refine st1 _ ?_
    show Steps p.tables e below (T1.setTop (mkF m 49 #[.val (.int p1), .val (.int b), .val (.int (2 : Int32)), .unset, .unset, .unset, .unset] [(.ref a)])) _
    refine XS.astoreN X1.here hx rfl (hb hby at_49) rfl rfl (l' := #[.val (.int p1), .val (.int b), .val (.int (2 : Int32)), .val (.ref a), .unset, .unset, .unset]) rfl ?_
    show Steps p.tables e below (T1.setTop (mkF m 50 #[.val (.int p1), .val (.int b), .val (.int (2 : Int32)), .val (.ref a), .unset, .unset, .unset] [])) _
    refine XS.bipush X1.here hx rfl (hb hby at_50) ?_
    show Steps p.tables e below (T1.setTop (mkF m 52 #[.val (.int p1), .val (.int b), .val (.int (2 : Int32)), .val (.ref a), .unset, .unset, .unset] [(.int (16 : Int32))])) _
    refine XS.istore X1.here hx rfl (hb hby at_52) rfl (l' := #[.val (.int p1), .val (.int b), .val (.int (2 : Int32)), .val (.ref a), .val (.int (16 : Int32)), .unset, .unset]) rfl ?_
    show Steps p.tables e below (T1.setTop (mkF m 54 #[.val (.int p1), .val (.int b), .val (.int (2 : Int32)), .val (.ref a), .val (.int (16 : Int32)), .unset, .unset] [])) _
    refine XS.iconst X1.here hx rfl (hb hby at_54) ?_
    show Steps p.tables e below (T1.setTop (mkF m 55 #[.val (.int p1), .val (.int b), .val (.int (2 : Int32)), .val (.ref a), .val (.int (16 : Int32)), .unset, .unset] [(.int (1 : Int32))])) _
    refine XS.istore X1.here hx rfl (hb hby at_55) rfl (l' := #[.val (.int p1), .val (.int b), .val (.int (2 : Int32)), .val (.ref a), .val (.int (16 : Int32)), .val (.int (1 : Int32)), .unset]) rfl ?_
    show Steps p.tables e below (T1.setTop (mkF m 57 #[.val (.int p1), .val (.int b), .val (.int (2 : Int32)), .val (.ref a), .val (.int (16 : Int32)), .val (.int (1 : Int32)), .unset] [])) _
    refine XS.goto X1.here hx rfl (pc0 := 57) (pc' := 148) rfl (hb hby at_57) (by decide) (by decide) ?_
    show Steps p.tables e below (T1.setTop (mkF m 148 #[.val (.int p1), .val (.int b), .val (.int (2 : Int32)), .val (.ref a), .val (.int (16 : Int32)), .val (.int (1 : Int32)), .unset] [])) _
    refine XS.iload X1.here hx rfl (hb hby at_148) rfl ?_
    show Steps p.tables e below (T1.setTop (mkF m 150 #[.val (.int p1), .val (.int b), .val (.int (2 : Int32)), .val (.ref a), .val (.int (16 : Int32)), .val (.int (1 : Int32)), .unset] [(.int (1 : Int32))])) _
    refine XS.ifNo X1.here hx rfl (hb hby at_150) rfl (by decide) ?_
    show Steps p.tables e below (T1.setTop (mkF m 153 #[.val (.int p1), .val (.int b), .val (.int (2 : Int32)), .val (.ref a), .val (.int (16 : Int32)), .val (.int (1 : Int32)), .unset] [])) _
    refine XS.iloadN X1.here hx rfl (hb hby at_153) rfl ?_
    show Steps p.tables e below (T1.setTop (mkF m 154 #[.val (.int p1), .val (.int b), .val (.int (2 : Int32)), .val (.ref a), .val (.int (16 : Int32)), .val (.int (1 : Int32)), .unset] [(.int b)])) _
    refine XS.ifNo X1.here hx rfl (hb hby at_154) rfl ((if0 _ _).trans (tlt h154).2.2.2) ?_
    show Steps p.tables e below (T1.setTop (mkF m 157 #[.val (.int p1), .val (.int b), .val (.int (2 : Int32)), .val (.ref a), .val (.int (16 : Int32)), .val (.int (1 : Int32)), .unset] [])) _
    refine XS.iloadN X1.here hx rfl (hb hby at_157) rfl ?_
    show Steps p.tables e below (T1.setTop (mkF m 158 #[.val (.int p1), .val (.int b), .val (.int (2 : Int32)), .val (.ref a), .val (.int (16 : Int32)), .val (.int (1 : Int32)), .unset] [(.int b)])) _
    refine XS.iload X1.here hx rfl (hb hby at_158) rfl ?_
    show Steps p.tables e below (T1.setTop (mkF m 160 #[.val (.int p1), .val (.int b), .val (.int (2 : Int32)), .val (.ref a), .val (.int (16 : Int32)), .val (.int (1 : Int32)), .unset] [(.int (16 : Int32)), (.int b)])) _
    refine XS.iconst X1.here hx rfl (hb hby at_160) ?_
    show Steps p.tables e below (T1.setTop (mkF m 161 #[.val (.int p1), .val (.int b), .val (.int (2 : Int32)), .val (.ref a), .val (.int (16 : Int32)), .val (.int (1 : Int32)), .unset] [(.int (1 : Int32)), (.int (16 : Int32)), (.int b)])) _
    refine XS.iadd X1.here hx rfl (hb hby at_161) rfl ?_
    show Steps p.tables e below (T1.setTop (mkF m 162 #[.val (.int p1), .val (.int b), .val (.int (2 : Int32)), .val (.ref a), .val (.int (16 : Int32)), .val (.int (1 : Int32)), .unset] [(.int ((16 : Int32) + (1 : Int32))), (.int b)])) _
    refine XS.icmpYes X1.here hx rfl (pc0 := 162) (pc' := 169) rfl (hb hby at_162) rfl (flt h162).2.1 (by decide) (by decide) ?_
    show Steps p.tables e below (T1.setTop (mkF m 169 #[.val (.int p1), .val (.int b), .val (.int (2 : Int32)), .val (.ref a), .val (.int (16 : Int32)), .val (.int (1 : Int32)), .unset] [])) _
    refine XS.iconst X1.here hx rfl (hb hby at_169) ?_
    show Steps p.tables e below (T1.setTop (mkF m 170 #[.val (.int p1), .val (.int b), .val (.int (2 : Int32)), .val (.ref a), .val (.int (16 : Int32)), .val (.int (1 : Int32)), .unset] [(.int (0 : Int32))])) _
    refine XS.istore X1.here hx rfl (hb hby at_170) rfl (l' := #[.val (.int p1), .val (.int b), .val (.int (2 : Int32)), .val (.ref a), .val (.int (16 : Int32)), .val (.int (1 : Int32)), .val (.int (0 : Int32))]) rfl ?_
    show Steps p.tables e below (T1.setTop (mkF m 172 #[.val (.int p1), .val (.int b), .val (.int (2 : Int32)), .val (.ref a), .val (.int (16 : Int32)), .val (.int (1 : Int32)), .val (.int (0 : Int32))] [])) _
    refine XS.goto X1.here hx rfl (pc0 := 172) (pc' := 188) rfl (hb hby at_172) (by decide) (by decide) ?_
    show Steps p.tables e below (T1.setTop (mkF m 188 #[.val (.int p1), .val (.int b), .val (.int (2 : Int32)), .val (.ref a), .val (.int (16 : Int32)), .val (.int (1 : Int32)), .val (.int (0 : Int32))] [])) _
    refine XS.aloadN X1.here hx rfl (hb hby at_188) rfl rfl ?_
    show Steps p.tables e below (T1.setTop (mkF m 189 #[.val (.int p1), .val (.int b), .val (.int (2 : Int32)), .val (.ref a), .val (.int (16 : Int32)), .val (.int (1 : Int32)), .val (.int (0 : Int32))] [(.ref a)])) _
    refine XS.iloadN X1.here hx rfl (hb hby at_189) rfl ?_
    show Steps p.tables e below (T1.setTop (mkF m 190 #[.val (.int p1), .val (.int b), .val (.int (2 : Int32)), .val (.ref a), .val (.int (16 : Int32)), .val (.int (1 : Int32)), .val (.int (0 : Int32))] [(.int b), (.ref a)])) _
    refine st2.trans ?_
    show Steps p.tables e below (T2.setTop (mkF m 193 #[.val (.int p1), .val (.int b), .val (.int (2 : Int32)), .val (.ref a), .val (.int (16 : Int32)), .val (.int (1 : Int32)), .val (.int (0 : Int32))] [(.int (0 : Int32))])) _
    refine XS.iload X2.here hx rfl (hb hby at_193) rfl ?_
    show Steps p.tables e below (T2.setTop (mkF m 195 #[.val (.int p1), .val (.int b), .val (.int (2 : Int32)), .val (.ref a), .val (.int (16 : Int32)), .val (.int (1 : Int32)), .val (.int (0 : Int32))] [(.int (0 : Int32)), (.int (0 : Int32))])) _
    refine XS.icmpNo X2.here hx rfl (hb hby at_195) rfl (by decide) ?_
    show Steps p.tables e below (T2.setTop (mkF m 198 #[.val (.int p1), .val (.int b), .val (.int (2 : Int32)), .val (.ref a), .val (.int (16 : Int32)), .val (.int (1 : Int32)), .val (.int (0 : Int32))] [])) _
    refine XS.iconst X2.here hx rfl (hb hby at_198) ?_
    show Steps p.tables e below (T2.setTop (mkF m 199 #[.val (.int p1), .val (.int b), .val (.int (2 : Int32)), .val (.ref a), .val (.int (16 : Int32)), .val (.int (1 : Int32)), .val (.int (0 : Int32))] [(.int (1 : Int32))])) _
    refine XS.goto X2.here hx rfl (pc0 := 199) (pc' := 203) rfl (hb hby at_199) (by decide) (by decide) ?_
    show Steps p.tables e below (T2.setTop (mkF m 203 #[.val (.int p1), .val (.int b), .val (.int (2 : Int32)), .val (.ref a), .val (.int (16 : Int32)), .val (.int (1 : Int32)), .val (.int (0 : Int32))] [(.int (1 : Int32))])) _
    exact retN X2 hx (t := .boolean) Bd.returns (by simp) (hb hby at_203) hr
  · show PQ (.int (1 : Int32)) h0 n0 _ T2.heap _
    exact ⟨rfl, N2, e2⟩

set_option maxRecDepth 65536 in
set_option maxHeartbeats 40000000 in
theorem law_2_in (l : Launch) (Z : State) (a0 : Array Value) (hw : ∀ d ∈ tables_1, d.before a0 Z = true) (ws : List Jvm.Cond) (p1 b : Int32) (a : Addr) (h0 : Heap) (n0 : Nat) (Z0 : n0 ≤ h0.size) (hi : p1 &&& (7 : Int32) = (2 : Int32)) (S_SHORT : Sta Z h0 "com/example/cairnstore/cairnstore/store/PrimitiveType" "SHORT" "Lcom/example/cairnstore/cairnstore/store/PrimitiveType;" (.ref a)) (EX : Exa Z h0 a "com/example/cairnstore/cairnstore/store/PrimitiveType$3") (C1 : Pays l Z h0 n0 (⟨"com/example/cairnstore/cairnstore/store/PrimitiveType", "allowsBitsPerElement", "(I)Z"⟩ : MethodName) [Jvm.Cond.code (⟨"com/example/cairnstore/cairnstore/store/PrimitiveType", "allowsBitsPerElement", "(I)Z"⟩ : MethodName) prog_51_method_14_code 2 (some .boolean)] R0 #[(.ref a), (.int b)] (.int (1 : Int32))) (h154 : (0 : Int32) < b) (h162 : b < (16 : Int32) + (1 : Int32)) :
    Pays l Z h0 n0 x (Jvm.Cond.code x code maxLocals ret :: ws) room_1 #[(.int p1), (.int b)] (.int (1 : Int32)) := by
  refine MetFree.of_bodySF (plainFor_of_name pn_PrimitiveTypeAllowsBitsPerElementPinLaw) hisR ?_
  intro p e s m args below meth c s₁ Bd hml0 hP hK
  obtain ⟨rfl, hZ, hh⟩ := hP
  have hx := Bd.exec
  have hby := Bd.bytes
  have hml : c.maxLocals = 7 := hml0
  have hown : s.vm.findClass "com/example/cairnstore/cairnstore/store/PrimitiveTypeAllowsBitsPerElementPinLaw" = some m.cls := findClass_of_methodNamed Bd.named
  have X0 : Stand p l e room_1 s m #[(.int p1), (.int b)] below meth c s₁ [] 0 0 := Stand.of_body Bd
  have e0 : s₁.heap = h0 := by rw [← hh, Bd.state]; rfl
  have N0 := Fr.nil n0
  have pre0 : ∀ t, Steps p.tables e below (s₁.setTop (mkF m 0 #[.val (.int p1), .val (.int b), .unset, .unset, .unset, .unset, .unset] [])) t → Steps p.tables e below (s₁.setTop (entryFrame m #[(.int p1), (.int b)] maxLocals)) t := fun t k => castTop (ef_0 m p1 b) k
  obtain ⟨T1, X1, e1, st1⟩ := getS2 X0 hx hZ hown (host := "") (Or.inl (hw _ (List.mem_of_getElem? (i := 42) rfl))) Via.refl e0 S_SHORT (g := (mkF m 46 #[.val (.int p1), .val (.int b), .val (.int (2 : Int32)), .unset, .unset, .unset, .unset] [])) rfl (hb hby at_46)
  obtain ⟨cq2, kq2, q2a, q2b, q2c⟩ := isOf hZ e1 EX
  obtain ⟨_, _, ⟨T2, L2, k2, n2⟩, -, X2, ⟨Lc2, hQ2, l2, y2, z2⟩, st2⟩ := X1.virtualBack hx (y := (⟨"com/example/cairnstore/cairnstore/store/PrimitiveType", "allowsBitsPerElement", "(I)Z"⟩ : MethodName)) (z := (⟨"com/example/cairnstore/cairnstore/store/PrimitiveType", "allowsBitsPerElement", "(I)Z"⟩ : MethodName)) hown (mvT hZ (hw _ (List.mem_of_getElem? (i := 3) rfl))) (mvT hZ (hw _ (List.mem_of_getElem? (i := 4) rfl))) (notFace_of_selects (args := #[]) (mvT hZ (hw _ (List.mem_of_getElem? (i := 44) rfl)))) (mvT hZ (hw _ (List.mem_of_getElem? (i := 44) rfl))) (mvT hZ (hw _ (List.mem_of_getElem? (i := 5) rfl))) (by decide) (backOf (W := 0) (Q := PQ (.int (1 : Int32)) h0 n0) C1 hZ (hw _ (List.mem_of_getElem? (i := 7) rfl)) (hw _ (List.mem_of_getElem? (i := 1) rfl)) (by decide) (by decide)) q2a q2c (g := (mkF m 190 #[.val (.int p1), .val (.int b), .val (.int (2 : Int32)), .val (.ref a), .val (.int (16 : Int32)), .val (.int (1 : Int32)), .val (.int (1 : Int32))] [(.int b), (.ref a)])) rfl (by rw [hml]; rfl) (Steps.refl _) (argsL := [(.int b)]) (rest := []) (lenOf pd__I_Z rfl) rfl (by show 2 * 0 + _ ≤ _; exact Nat.le_of_eq rfl) (hb hby at_190) (fun _ _ => ⟨rfl, e1, (by decide : 0 + 0 ≤ _), (by decide : 0 + 0 ≤ _)⟩)
  dsimp only [Pt.U, Pt.locs, Pt.cells, Pt.slots] at X2 l2 y2 z2 st2 hQ2
  subst l2 y2 z2
  obtain ⟨rfl, Nq2, e2⟩ := hQ2
  have N2 := Fr.app N0 Nq2
  obtain ⟨fs, hr, hrun, hended, hW, hsame⟩ := X2.leave (v := some (.int (1 : Int32))) (fun h => by rw [Bd.returns] at h; cases h)
  refine ⟨_, _, pre0 _ ?_, hrun, hended, _, _, rfl, ?_, ⟨_, rfl⟩, hW, hsame.mono (by decide) (by decide)⟩
  · show Steps p.tables e below (s₁.setTop (mkF m 0 #[.val (.int p1), .val (.int b), .unset, .unset, .unset, .unset, .unset] [])) _
    refine XS.iloadN X0.here hx rfl (hb hby at_0) rfl ?_
    show Steps p.tables e below (s₁.setTop (mkF m 1 #[.val (.int p1), .val (.int b), .unset, .unset, .unset, .unset, .unset] [(.int p1)])) _
    refine XS.bipush X0.here hx rfl (hb hby at_1) ?_
    show Steps p.tables e below (s₁.setTop (mkF m 3 #[.val (.int p1), .val (.int b), .unset, .unset, .unset, .unset, .unset] [(.int (7 : Int32)), (.int p1)])) _
    refine XS.iand X0.here hx rfl (hb hby at_3) rfl ?_
    show Steps p.tables e below (s₁.setTop (mkF m 4 #[.val (.int p1), .val (.int b), .unset, .unset, .unset, .unset, .unset] [(.int (p1 &&& (7 : Int32)))])) _
    rw [hi]
    show Steps p.tables e below (s₁.setTop (mkF m 4 #[.val (.int p1), .val (.int b), .unset, .unset, .unset, .unset, .unset] [(.int (2 : Int32))])) _
    refine XS.istoreN X0.here hx rfl (hb hby at_4) rfl (l' := #[.val (.int p1), .val (.int b), .val (.int (2 : Int32)), .unset, .unset, .unset, .unset]) rfl ?_
    show Steps p.tables e below (s₁.setTop (mkF m 5 #[.val (.int p1), .val (.int b), .val (.int (2 : Int32)), .unset, .unset, .unset, .unset] [])) _
    refine XS.iloadN X0.here hx rfl (hb hby at_5) rfl ?_
    show Steps p.tables e below (s₁.setTop (mkF m 6 #[.val (.int p1), .val (.int b), .val (.int (2 : Int32)), .unset, .unset, .unset, .unset] [(.int (2 : Int32))])) _
    refine XS.ifYes X0.here hx rfl (pc0 := 6) (pc' := 22) rfl (hb hby at_6) rfl (by decide) (by decide) (by decide) ?_
    show Steps p.tables e below (s₁.setTop (mkF m 22 #[.val (.int p1), .val (.int b), .val (.int (2 : Int32)), .unset, .unset, .unset, .unset] [])) _
    refine XS.iloadN X0.here hx rfl (hb hby at_22) rfl ?_
    show Steps p.tables e below (s₁.setTop (mkF m 23 #[.val (.int p1), .val (.int b), .val (.int (2 : Int32)), .unset, .unset, .unset, .unset] [(.int (2 : Int32))])) _
    refine XS.iconst X0.here hx rfl (hb hby at_23) ?_
    show Steps p.tables e below (s₁.setTop (mkF m 24 #[.val (.int p1), .val (.int b), .val (.int (2 : Int32)), .unset, .unset, .unset, .unset] [(.int (1 : Int32)), (.int (2 : Int32))])) _
    refine XS.icmpYes X0.here hx rfl (pc0 := 24) (pc' := 41) rfl (hb hby at_24) rfl (by decide) (by decide) (by decide) ?_
    show Steps p.tables e below (s₁.setTop (mkF m 41 #[.val (.int p1), .val (.int b), .val (.int (2 : Int32)), .unset, .unset, .unset, .unset] [])) _
    refine XS.iloadN X0.here hx rfl (hb hby at_41) rfl ?_
    show Steps p.tables e below (s₁.setTop (mkF m 42 #[.val (.int p1), .val (.int b), .val (.int (2 : Int32)), .unset, .unset, .unset, .unset] [(.int (2 : Int32))])) _
    refine XS.iconst X0.here hx rfl (hb hby at_42) ?_
    show Steps p.tables e below (s₁.setTop (mkF m 43 #[.val (.int p1), .val (.int b), .val (.int (2 : Int32)), .unset, .unset, .unset, .unset] [(.int (2 : Int32)), (.int (2 : Int32))])) _
    refine XS.icmpNo X0.here hx rfl (hb hby at_43) rfl (by decide) ?_
    show Steps p.tables e below (s₁.setTop (mkF m 46 #[.val (.int p1), .val (.int b), .val (.int (2 : Int32)), .unset, .unset, .unset, .unset] [])) _
    refine st1 _ ?_
    show Steps p.tables e below (T1.setTop (mkF m 49 #[.val (.int p1), .val (.int b), .val (.int (2 : Int32)), .unset, .unset, .unset, .unset] [(.ref a)])) _
    refine XS.astoreN X1.here hx rfl (hb hby at_49) rfl rfl (l' := #[.val (.int p1), .val (.int b), .val (.int (2 : Int32)), .val (.ref a), .unset, .unset, .unset]) rfl ?_
    show Steps p.tables e below (T1.setTop (mkF m 50 #[.val (.int p1), .val (.int b), .val (.int (2 : Int32)), .val (.ref a), .unset, .unset, .unset] [])) _
    refine XS.bipush X1.here hx rfl (hb hby at_50) ?_
    show Steps p.tables e below (T1.setTop (mkF m 52 #[.val (.int p1), .val (.int b), .val (.int (2 : Int32)), .val (.ref a), .unset, .unset, .unset] [(.int (16 : Int32))])) _
    refine XS.istore X1.here hx rfl (hb hby at_52) rfl (l' := #[.val (.int p1), .val (.int b), .val (.int (2 : Int32)), .val (.ref a), .val (.int (16 : Int32)), .unset, .unset]) rfl ?_
    show Steps p.tables e below (T1.setTop (mkF m 54 #[.val (.int p1), .val (.int b), .val (.int (2 : Int32)), .val (.ref a), .val (.int (16 : Int32)), .unset, .unset] [])) _
    refine XS.iconst X1.here hx rfl (hb hby at_54) ?_
    show Steps p.tables e below (T1.setTop (mkF m 55 #[.val (.int p1), .val (.int b), .val (.int (2 : Int32)), .val (.ref a), .val (.int (16 : Int32)), .unset, .unset] [(.int (1 : Int32))])) _
    refine XS.istore X1.here hx rfl (hb hby at_55) rfl (l' := #[.val (.int p1), .val (.int b), .val (.int (2 : Int32)), .val (.ref a), .val (.int (16 : Int32)), .val (.int (1 : Int32)), .unset]) rfl ?_
    show Steps p.tables e below (T1.setTop (mkF m 57 #[.val (.int p1), .val (.int b), .val (.int (2 : Int32)), .val (.ref a), .val (.int (16 : Int32)), .val (.int (1 : Int32)), .unset] [])) _
    refine XS.goto X1.here hx rfl (pc0 := 57) (pc' := 148) rfl (hb hby at_57) (by decide) (by decide) ?_
    show Steps p.tables e below (T1.setTop (mkF m 148 #[.val (.int p1), .val (.int b), .val (.int (2 : Int32)), .val (.ref a), .val (.int (16 : Int32)), .val (.int (1 : Int32)), .unset] [])) _
    refine XS.iload X1.here hx rfl (hb hby at_148) rfl ?_
    show Steps p.tables e below (T1.setTop (mkF m 150 #[.val (.int p1), .val (.int b), .val (.int (2 : Int32)), .val (.ref a), .val (.int (16 : Int32)), .val (.int (1 : Int32)), .unset] [(.int (1 : Int32))])) _
    refine XS.ifNo X1.here hx rfl (hb hby at_150) rfl (by decide) ?_
    show Steps p.tables e below (T1.setTop (mkF m 153 #[.val (.int p1), .val (.int b), .val (.int (2 : Int32)), .val (.ref a), .val (.int (16 : Int32)), .val (.int (1 : Int32)), .unset] [])) _
    refine XS.iloadN X1.here hx rfl (hb hby at_153) rfl ?_
    show Steps p.tables e below (T1.setTop (mkF m 154 #[.val (.int p1), .val (.int b), .val (.int (2 : Int32)), .val (.ref a), .val (.int (16 : Int32)), .val (.int (1 : Int32)), .unset] [(.int b)])) _
    refine XS.ifNo X1.here hx rfl (hb hby at_154) rfl ((if0 _ _).trans (tlt h154).2.2.2) ?_
    show Steps p.tables e below (T1.setTop (mkF m 157 #[.val (.int p1), .val (.int b), .val (.int (2 : Int32)), .val (.ref a), .val (.int (16 : Int32)), .val (.int (1 : Int32)), .unset] [])) _
    refine XS.iloadN X1.here hx rfl (hb hby at_157) rfl ?_
    show Steps p.tables e below (T1.setTop (mkF m 158 #[.val (.int p1), .val (.int b), .val (.int (2 : Int32)), .val (.ref a), .val (.int (16 : Int32)), .val (.int (1 : Int32)), .unset] [(.int b)])) _
    refine XS.iload X1.here hx rfl (hb hby at_158) rfl ?_
    show Steps p.tables e below (T1.setTop (mkF m 160 #[.val (.int p1), .val (.int b), .val (.int (2 : Int32)), .val (.ref a), .val (.int (16 : Int32)), .val (.int (1 : Int32)), .unset] [(.int (16 : Int32)), (.int b)])) _
    refine XS.iconst X1.here hx rfl (hb hby at_160) ?_
    show Steps p.tables e below (T1.setTop (mkF m 161 #[.val (.int p1), .val (.int b), .val (.int (2 : Int32)), .val (.ref a), .val (.int (16 : Int32)), .val (.int (1 : Int32)), .unset] [(.int (1 : Int32)), (.int (16 : Int32)), (.int b)])) _
    refine XS.iadd X1.here hx rfl (hb hby at_161) rfl ?_
    show Steps p.tables e below (T1.setTop (mkF m 162 #[.val (.int p1), .val (.int b), .val (.int (2 : Int32)), .val (.ref a), .val (.int (16 : Int32)), .val (.int (1 : Int32)), .unset] [(.int ((16 : Int32) + (1 : Int32))), (.int b)])) _
    refine XS.icmpNo X1.here hx rfl (hb hby at_162) rfl (tlt h162).2.1 ?_
    show Steps p.tables e below (T1.setTop (mkF m 165 #[.val (.int p1), .val (.int b), .val (.int (2 : Int32)), .val (.ref a), .val (.int (16 : Int32)), .val (.int (1 : Int32)), .unset] [])) _
    refine XS.iconst X1.here hx rfl (hb hby at_165) ?_
    show Steps p.tables e below (T1.setTop (mkF m 166 #[.val (.int p1), .val (.int b), .val (.int (2 : Int32)), .val (.ref a), .val (.int (16 : Int32)), .val (.int (1 : Int32)), .unset] [(.int (1 : Int32))])) _
    refine XS.goto X1.here hx rfl (pc0 := 166) (pc' := 170) rfl (hb hby at_166) (by decide) (by decide) ?_
    show Steps p.tables e below (T1.setTop (mkF m 170 #[.val (.int p1), .val (.int b), .val (.int (2 : Int32)), .val (.ref a), .val (.int (16 : Int32)), .val (.int (1 : Int32)), .unset] [(.int (1 : Int32))])) _
    refine XS.istore X1.here hx rfl (hb hby at_170) rfl (l' := #[.val (.int p1), .val (.int b), .val (.int (2 : Int32)), .val (.ref a), .val (.int (16 : Int32)), .val (.int (1 : Int32)), .val (.int (1 : Int32))]) rfl ?_
    show Steps p.tables e below (T1.setTop (mkF m 172 #[.val (.int p1), .val (.int b), .val (.int (2 : Int32)), .val (.ref a), .val (.int (16 : Int32)), .val (.int (1 : Int32)), .val (.int (1 : Int32))] [])) _
    refine XS.goto X1.here hx rfl (pc0 := 172) (pc' := 188) rfl (hb hby at_172) (by decide) (by decide) ?_
    show Steps p.tables e below (T1.setTop (mkF m 188 #[.val (.int p1), .val (.int b), .val (.int (2 : Int32)), .val (.ref a), .val (.int (16 : Int32)), .val (.int (1 : Int32)), .val (.int (1 : Int32))] [])) _
    refine XS.aloadN X1.here hx rfl (hb hby at_188) rfl rfl ?_
    show Steps p.tables e below (T1.setTop (mkF m 189 #[.val (.int p1), .val (.int b), .val (.int (2 : Int32)), .val (.ref a), .val (.int (16 : Int32)), .val (.int (1 : Int32)), .val (.int (1 : Int32))] [(.ref a)])) _
    refine XS.iloadN X1.here hx rfl (hb hby at_189) rfl ?_
    show Steps p.tables e below (T1.setTop (mkF m 190 #[.val (.int p1), .val (.int b), .val (.int (2 : Int32)), .val (.ref a), .val (.int (16 : Int32)), .val (.int (1 : Int32)), .val (.int (1 : Int32))] [(.int b), (.ref a)])) _
    refine st2.trans ?_
    show Steps p.tables e below (T2.setTop (mkF m 193 #[.val (.int p1), .val (.int b), .val (.int (2 : Int32)), .val (.ref a), .val (.int (16 : Int32)), .val (.int (1 : Int32)), .val (.int (1 : Int32))] [(.int (1 : Int32))])) _
    refine XS.iload X2.here hx rfl (hb hby at_193) rfl ?_
    show Steps p.tables e below (T2.setTop (mkF m 195 #[.val (.int p1), .val (.int b), .val (.int (2 : Int32)), .val (.ref a), .val (.int (16 : Int32)), .val (.int (1 : Int32)), .val (.int (1 : Int32))] [(.int (1 : Int32)), (.int (1 : Int32))])) _
    refine XS.icmpNo X2.here hx rfl (hb hby at_195) rfl (by decide) ?_
    show Steps p.tables e below (T2.setTop (mkF m 198 #[.val (.int p1), .val (.int b), .val (.int (2 : Int32)), .val (.ref a), .val (.int (16 : Int32)), .val (.int (1 : Int32)), .val (.int (1 : Int32))] [])) _
    refine XS.iconst X2.here hx rfl (hb hby at_198) ?_
    show Steps p.tables e below (T2.setTop (mkF m 199 #[.val (.int p1), .val (.int b), .val (.int (2 : Int32)), .val (.ref a), .val (.int (16 : Int32)), .val (.int (1 : Int32)), .val (.int (1 : Int32))] [(.int (1 : Int32))])) _
    refine XS.goto X2.here hx rfl (pc0 := 199) (pc' := 203) rfl (hb hby at_199) (by decide) (by decide) ?_
    show Steps p.tables e below (T2.setTop (mkF m 203 #[.val (.int p1), .val (.int b), .val (.int (2 : Int32)), .val (.ref a), .val (.int (16 : Int32)), .val (.int (1 : Int32)), .val (.int (1 : Int32))] [(.int (1 : Int32))])) _
    exact retN X2 hx (t := .boolean) Bd.returns (by simp) (hb hby at_203) hr
  · show PQ (.int (1 : Int32)) h0 n0 _ T2.heap _
    exact ⟨rfl, N2, e2⟩

set_option maxRecDepth 65536 in
set_option maxHeartbeats 40000000 in
theorem law_3_lo (l : Launch) (Z : State) (a0 : Array Value) (hw : ∀ d ∈ tables_1, d.before a0 Z = true) (ws : List Jvm.Cond) (p1 b : Int32) (a : Addr) (h0 : Heap) (n0 : Nat) (Z0 : n0 ≤ h0.size) (hi : p1 &&& (7 : Int32) = (3 : Int32)) (S_CHAR : Sta Z h0 "com/example/cairnstore/cairnstore/store/PrimitiveType" "CHAR" "Lcom/example/cairnstore/cairnstore/store/PrimitiveType;" (.ref a)) (EX : Exa Z h0 a "com/example/cairnstore/cairnstore/store/PrimitiveType$4") (C1 : Pays l Z h0 n0 (⟨"com/example/cairnstore/cairnstore/store/PrimitiveType", "allowsBitsPerElement", "(I)Z"⟩ : MethodName) [Jvm.Cond.code (⟨"com/example/cairnstore/cairnstore/store/PrimitiveType", "allowsBitsPerElement", "(I)Z"⟩ : MethodName) prog_51_method_14_code 2 (some .boolean)] R0 #[(.ref a), (.int b)] (.int (0 : Int32))) (h154 : ¬ ((0 : Int32) < b)) :
    Pays l Z h0 n0 x (Jvm.Cond.code x code maxLocals ret :: ws) room_1 #[(.int p1), (.int b)] (.int (1 : Int32)) := by
  refine MetFree.of_bodySF (plainFor_of_name pn_PrimitiveTypeAllowsBitsPerElementPinLaw) hisR ?_
  intro p e s m args below meth c s₁ Bd hml0 hP hK
  obtain ⟨rfl, hZ, hh⟩ := hP
  have hx := Bd.exec
  have hby := Bd.bytes
  have hml : c.maxLocals = 7 := hml0
  have hown : s.vm.findClass "com/example/cairnstore/cairnstore/store/PrimitiveTypeAllowsBitsPerElementPinLaw" = some m.cls := findClass_of_methodNamed Bd.named
  have X0 : Stand p l e room_1 s m #[(.int p1), (.int b)] below meth c s₁ [] 0 0 := Stand.of_body Bd
  have e0 : s₁.heap = h0 := by rw [← hh, Bd.state]; rfl
  have N0 := Fr.nil n0
  have pre0 : ∀ t, Steps p.tables e below (s₁.setTop (mkF m 0 #[.val (.int p1), .val (.int b), .unset, .unset, .unset, .unset, .unset] [])) t → Steps p.tables e below (s₁.setTop (entryFrame m #[(.int p1), (.int b)] maxLocals)) t := fun t k => castTop (ef_0 m p1 b) k
  obtain ⟨T1, X1, e1, st1⟩ := getS2 X0 hx hZ hown (host := "") (Or.inl (hw _ (List.mem_of_getElem? (i := 32) rfl))) Via.refl e0 S_CHAR (g := (mkF m 65 #[.val (.int p1), .val (.int b), .val (.int (3 : Int32)), .unset, .unset, .unset, .unset] [])) rfl (hb hby at_65)
  obtain ⟨cq2, kq2, q2a, q2b, q2c⟩ := isOf hZ e1 EX
  obtain ⟨_, _, ⟨T2, L2, k2, n2⟩, -, X2, ⟨Lc2, hQ2, l2, y2, z2⟩, st2⟩ := X1.virtualBack hx (y := (⟨"com/example/cairnstore/cairnstore/store/PrimitiveType", "allowsBitsPerElement", "(I)Z"⟩ : MethodName)) (z := (⟨"com/example/cairnstore/cairnstore/store/PrimitiveType", "allowsBitsPerElement", "(I)Z"⟩ : MethodName)) hown (mvT hZ (hw _ (List.mem_of_getElem? (i := 3) rfl))) (mvT hZ (hw _ (List.mem_of_getElem? (i := 4) rfl))) (notFace_of_selects (args := #[]) (mvT hZ (hw _ (List.mem_of_getElem? (i := 34) rfl)))) (mvT hZ (hw _ (List.mem_of_getElem? (i := 34) rfl))) (mvT hZ (hw _ (List.mem_of_getElem? (i := 5) rfl))) (by decide) (backOf (W := 0) (Q := PQ (.int (0 : Int32)) h0 n0) C1 hZ (hw _ (List.mem_of_getElem? (i := 7) rfl)) (hw _ (List.mem_of_getElem? (i := 1) rfl)) (by decide) (by decide)) q2a q2c (g := (mkF m 190 #[.val (.int p1), .val (.int b), .val (.int (3 : Int32)), .val (.ref a), .val (.int (16 : Int32)), .val (.int (1 : Int32)), .val (.int (0 : Int32))] [(.int b), (.ref a)])) rfl (by rw [hml]; rfl) (Steps.refl _) (argsL := [(.int b)]) (rest := []) (lenOf pd__I_Z rfl) rfl (by show 2 * 0 + _ ≤ _; exact Nat.le_of_eq rfl) (hb hby at_190) (fun _ _ => ⟨rfl, e1, (by decide : 0 + 0 ≤ _), (by decide : 0 + 0 ≤ _)⟩)
  dsimp only [Pt.U, Pt.locs, Pt.cells, Pt.slots] at X2 l2 y2 z2 st2 hQ2
  subst l2 y2 z2
  obtain ⟨rfl, Nq2, e2⟩ := hQ2
  have N2 := Fr.app N0 Nq2
  obtain ⟨fs, hr, hrun, hended, hW, hsame⟩ := X2.leave (v := some (.int (1 : Int32))) (fun h => by rw [Bd.returns] at h; cases h)
  refine ⟨_, _, pre0 _ ?_, hrun, hended, _, _, rfl, ?_, ⟨_, rfl⟩, hW, hsame.mono (by decide) (by decide)⟩
  · show Steps p.tables e below (s₁.setTop (mkF m 0 #[.val (.int p1), .val (.int b), .unset, .unset, .unset, .unset, .unset] [])) _
    refine XS.iloadN X0.here hx rfl (hb hby at_0) rfl ?_
    show Steps p.tables e below (s₁.setTop (mkF m 1 #[.val (.int p1), .val (.int b), .unset, .unset, .unset, .unset, .unset] [(.int p1)])) _
    refine XS.bipush X0.here hx rfl (hb hby at_1) ?_
    show Steps p.tables e below (s₁.setTop (mkF m 3 #[.val (.int p1), .val (.int b), .unset, .unset, .unset, .unset, .unset] [(.int (7 : Int32)), (.int p1)])) _
    refine XS.iand X0.here hx rfl (hb hby at_3) rfl ?_
    show Steps p.tables e below (s₁.setTop (mkF m 4 #[.val (.int p1), .val (.int b), .unset, .unset, .unset, .unset, .unset] [(.int (p1 &&& (7 : Int32)))])) _
    rw [hi]
    show Steps p.tables e below (s₁.setTop (mkF m 4 #[.val (.int p1), .val (.int b), .unset, .unset, .unset, .unset, .unset] [(.int (3 : Int32))])) _
    refine XS.istoreN X0.here hx rfl (hb hby at_4) rfl (l' := #[.val (.int p1), .val (.int b), .val (.int (3 : Int32)), .unset, .unset, .unset, .unset]) rfl ?_
    show Steps p.tables e below (s₁.setTop (mkF m 5 #[.val (.int p1), .val (.int b), .val (.int (3 : Int32)), .unset, .unset, .unset, .unset] [])) _
    refine XS.iloadN X0.here hx rfl (hb hby at_5) rfl ?_
    show Steps p.tables e below (s₁.setTop (mkF m 6 #[.val (.int p1), .val (.int b), .val (.int (3 : Int32)), .unset, .unset, .unset, .unset] [(.int (3 : Int32))])) _
    refine XS.ifYes X0.here hx rfl (pc0 := 6) (pc' := 22) rfl (hb hby at_6) rfl (by decide) (by decide) (by decide) ?_
    show Steps p.tables e below (s₁.setTop (mkF m 22 #[.val (.int p1), .val (.int b), .val (.int (3 : Int32)), .unset, .unset, .unset, .unset] [])) _
    refine XS.iloadN X0.here hx rfl (hb hby at_22) rfl ?_
    show Steps p.tables e below (s₁.setTop (mkF m 23 #[.val (.int p1), .val (.int b), .val (.int (3 : Int32)), .unset, .unset, .unset, .unset] [(.int (3 : Int32))])) _
    refine XS.iconst X0.here hx rfl (hb hby at_23) ?_
    show Steps p.tables e below (s₁.setTop (mkF m 24 #[.val (.int p1), .val (.int b), .val (.int (3 : Int32)), .unset, .unset, .unset, .unset] [(.int (1 : Int32)), (.int (3 : Int32))])) _
    refine XS.icmpYes X0.here hx rfl (pc0 := 24) (pc' := 41) rfl (hb hby at_24) rfl (by decide) (by decide) (by decide) ?_
    show Steps p.tables e below (s₁.setTop (mkF m 41 #[.val (.int p1), .val (.int b), .val (.int (3 : Int32)), .unset, .unset, .unset, .unset] [])) _
    refine XS.iloadN X0.here hx rfl (hb hby at_41) rfl ?_
    show Steps p.tables e below (s₁.setTop (mkF m 42 #[.val (.int p1), .val (.int b), .val (.int (3 : Int32)), .unset, .unset, .unset, .unset] [(.int (3 : Int32))])) _
    refine XS.iconst X0.here hx rfl (hb hby at_42) ?_
    show Steps p.tables e below (s₁.setTop (mkF m 43 #[.val (.int p1), .val (.int b), .val (.int (3 : Int32)), .unset, .unset, .unset, .unset] [(.int (2 : Int32)), (.int (3 : Int32))])) _
    refine XS.icmpYes X0.here hx rfl (pc0 := 43) (pc' := 60) rfl (hb hby at_43) rfl (by decide) (by decide) (by decide) ?_
    show Steps p.tables e below (s₁.setTop (mkF m 60 #[.val (.int p1), .val (.int b), .val (.int (3 : Int32)), .unset, .unset, .unset, .unset] [])) _
    refine XS.iloadN X0.here hx rfl (hb hby at_60) rfl ?_
    show Steps p.tables e below (s₁.setTop (mkF m 61 #[.val (.int p1), .val (.int b), .val (.int (3 : Int32)), .unset, .unset, .unset, .unset] [(.int (3 : Int32))])) _
    refine XS.iconst X0.here hx rfl (hb hby at_61) ?_
    show Steps p.tables e below (s₁.setTop (mkF m 62 #[.val (.int p1), .val (.int b), .val (.int (3 : Int32)), .unset, .unset, .unset, .unset] [(.int (3 : Int32)), (.int (3 : Int32))])) _
    refine XS.icmpNo X0.here hx rfl (hb hby at_62) rfl (by decide) ?_
    show Steps p.tables e below (s₁.setTop (mkF m 65 #[.val (.int p1), .val (.int b), .val (.int (3 : Int32)), .unset, .unset, .unset, .unset] [])) _
    refine st1 _ ?_
    show Steps p.tables e below (T1.setTop (mkF m 68 #[.val (.int p1), .val (.int b), .val (.int (3 : Int32)), .unset, .unset, .unset, .unset] [(.ref a)])) _
    refine XS.astoreN X1.here hx rfl (hb hby at_68) rfl rfl (l' := #[.val (.int p1), .val (.int b), .val (.int (3 : Int32)), .val (.ref a), .unset, .unset, .unset]) rfl ?_
    show Steps p.tables e below (T1.setTop (mkF m 69 #[.val (.int p1), .val (.int b), .val (.int (3 : Int32)), .val (.ref a), .unset, .unset, .unset] [])) _
    refine XS.bipush X1.here hx rfl (hb hby at_69) ?_
    show Steps p.tables e below (T1.setTop (mkF m 71 #[.val (.int p1), .val (.int b), .val (.int (3 : Int32)), .val (.ref a), .unset, .unset, .unset] [(.int (16 : Int32))])) _
    refine XS.istore X1.here hx rfl (hb hby at_71) rfl (l' := #[.val (.int p1), .val (.int b), .val (.int (3 : Int32)), .val (.ref a), .val (.int (16 : Int32)), .unset, .unset]) rfl ?_
    show Steps p.tables e below (T1.setTop (mkF m 73 #[.val (.int p1), .val (.int b), .val (.int (3 : Int32)), .val (.ref a), .val (.int (16 : Int32)), .unset, .unset] [])) _
    refine XS.iconst X1.here hx rfl (hb hby at_73) ?_
    show Steps p.tables e below (T1.setTop (mkF m 74 #[.val (.int p1), .val (.int b), .val (.int (3 : Int32)), .val (.ref a), .val (.int (16 : Int32)), .unset, .unset] [(.int (1 : Int32))])) _
    refine XS.istore X1.here hx rfl (hb hby at_74) rfl (l' := #[.val (.int p1), .val (.int b), .val (.int (3 : Int32)), .val (.ref a), .val (.int (16 : Int32)), .val (.int (1 : Int32)), .unset]) rfl ?_
    show Steps p.tables e below (T1.setTop (mkF m 76 #[.val (.int p1), .val (.int b), .val (.int (3 : Int32)), .val (.ref a), .val (.int (16 : Int32)), .val (.int (1 : Int32)), .unset] [])) _
    refine XS.goto X1.here hx rfl (pc0 := 76) (pc' := 148) rfl (hb hby at_76) (by decide) (by decide) ?_
    show Steps p.tables e below (T1.setTop (mkF m 148 #[.val (.int p1), .val (.int b), .val (.int (3 : Int32)), .val (.ref a), .val (.int (16 : Int32)), .val (.int (1 : Int32)), .unset] [])) _
    refine XS.iload X1.here hx rfl (hb hby at_148) rfl ?_
    show Steps p.tables e below (T1.setTop (mkF m 150 #[.val (.int p1), .val (.int b), .val (.int (3 : Int32)), .val (.ref a), .val (.int (16 : Int32)), .val (.int (1 : Int32)), .unset] [(.int (1 : Int32))])) _
    refine XS.ifNo X1.here hx rfl (hb hby at_150) rfl (by decide) ?_
    show Steps p.tables e below (T1.setTop (mkF m 153 #[.val (.int p1), .val (.int b), .val (.int (3 : Int32)), .val (.ref a), .val (.int (16 : Int32)), .val (.int (1 : Int32)), .unset] [])) _
    refine XS.iloadN X1.here hx rfl (hb hby at_153) rfl ?_
    show Steps p.tables e below (T1.setTop (mkF m 154 #[.val (.int p1), .val (.int b), .val (.int (3 : Int32)), .val (.ref a), .val (.int (16 : Int32)), .val (.int (1 : Int32)), .unset] [(.int b)])) _
    refine XS.ifYes X1.here hx rfl (pc0 := 154) (pc' := 169) rfl (hb hby at_154) rfl ((if0 _ _).trans (flt h154).2.2.2) (by decide) (by decide) ?_
    show Steps p.tables e below (T1.setTop (mkF m 169 #[.val (.int p1), .val (.int b), .val (.int (3 : Int32)), .val (.ref a), .val (.int (16 : Int32)), .val (.int (1 : Int32)), .unset] [])) _
    refine XS.iconst X1.here hx rfl (hb hby at_169) ?_
    show Steps p.tables e below (T1.setTop (mkF m 170 #[.val (.int p1), .val (.int b), .val (.int (3 : Int32)), .val (.ref a), .val (.int (16 : Int32)), .val (.int (1 : Int32)), .unset] [(.int (0 : Int32))])) _
    refine XS.istore X1.here hx rfl (hb hby at_170) rfl (l' := #[.val (.int p1), .val (.int b), .val (.int (3 : Int32)), .val (.ref a), .val (.int (16 : Int32)), .val (.int (1 : Int32)), .val (.int (0 : Int32))]) rfl ?_
    show Steps p.tables e below (T1.setTop (mkF m 172 #[.val (.int p1), .val (.int b), .val (.int (3 : Int32)), .val (.ref a), .val (.int (16 : Int32)), .val (.int (1 : Int32)), .val (.int (0 : Int32))] [])) _
    refine XS.goto X1.here hx rfl (pc0 := 172) (pc' := 188) rfl (hb hby at_172) (by decide) (by decide) ?_
    show Steps p.tables e below (T1.setTop (mkF m 188 #[.val (.int p1), .val (.int b), .val (.int (3 : Int32)), .val (.ref a), .val (.int (16 : Int32)), .val (.int (1 : Int32)), .val (.int (0 : Int32))] [])) _
    refine XS.aloadN X1.here hx rfl (hb hby at_188) rfl rfl ?_
    show Steps p.tables e below (T1.setTop (mkF m 189 #[.val (.int p1), .val (.int b), .val (.int (3 : Int32)), .val (.ref a), .val (.int (16 : Int32)), .val (.int (1 : Int32)), .val (.int (0 : Int32))] [(.ref a)])) _
    refine XS.iloadN X1.here hx rfl (hb hby at_189) rfl ?_
    show Steps p.tables e below (T1.setTop (mkF m 190 #[.val (.int p1), .val (.int b), .val (.int (3 : Int32)), .val (.ref a), .val (.int (16 : Int32)), .val (.int (1 : Int32)), .val (.int (0 : Int32))] [(.int b), (.ref a)])) _
    refine st2.trans ?_
    show Steps p.tables e below (T2.setTop (mkF m 193 #[.val (.int p1), .val (.int b), .val (.int (3 : Int32)), .val (.ref a), .val (.int (16 : Int32)), .val (.int (1 : Int32)), .val (.int (0 : Int32))] [(.int (0 : Int32))])) _
    refine XS.iload X2.here hx rfl (hb hby at_193) rfl ?_
    show Steps p.tables e below (T2.setTop (mkF m 195 #[.val (.int p1), .val (.int b), .val (.int (3 : Int32)), .val (.ref a), .val (.int (16 : Int32)), .val (.int (1 : Int32)), .val (.int (0 : Int32))] [(.int (0 : Int32)), (.int (0 : Int32))])) _
    refine XS.icmpNo X2.here hx rfl (hb hby at_195) rfl (by decide) ?_
    show Steps p.tables e below (T2.setTop (mkF m 198 #[.val (.int p1), .val (.int b), .val (.int (3 : Int32)), .val (.ref a), .val (.int (16 : Int32)), .val (.int (1 : Int32)), .val (.int (0 : Int32))] [])) _
    refine XS.iconst X2.here hx rfl (hb hby at_198) ?_
    show Steps p.tables e below (T2.setTop (mkF m 199 #[.val (.int p1), .val (.int b), .val (.int (3 : Int32)), .val (.ref a), .val (.int (16 : Int32)), .val (.int (1 : Int32)), .val (.int (0 : Int32))] [(.int (1 : Int32))])) _
    refine XS.goto X2.here hx rfl (pc0 := 199) (pc' := 203) rfl (hb hby at_199) (by decide) (by decide) ?_
    show Steps p.tables e below (T2.setTop (mkF m 203 #[.val (.int p1), .val (.int b), .val (.int (3 : Int32)), .val (.ref a), .val (.int (16 : Int32)), .val (.int (1 : Int32)), .val (.int (0 : Int32))] [(.int (1 : Int32))])) _
    exact retN X2 hx (t := .boolean) Bd.returns (by simp) (hb hby at_203) hr
  · show PQ (.int (1 : Int32)) h0 n0 _ T2.heap _
    exact ⟨rfl, N2, e2⟩

set_option maxRecDepth 65536 in
set_option maxHeartbeats 40000000 in
theorem law_3_hi (l : Launch) (Z : State) (a0 : Array Value) (hw : ∀ d ∈ tables_1, d.before a0 Z = true) (ws : List Jvm.Cond) (p1 b : Int32) (a : Addr) (h0 : Heap) (n0 : Nat) (Z0 : n0 ≤ h0.size) (hi : p1 &&& (7 : Int32) = (3 : Int32)) (S_CHAR : Sta Z h0 "com/example/cairnstore/cairnstore/store/PrimitiveType" "CHAR" "Lcom/example/cairnstore/cairnstore/store/PrimitiveType;" (.ref a)) (EX : Exa Z h0 a "com/example/cairnstore/cairnstore/store/PrimitiveType$4") (C1 : Pays l Z h0 n0 (⟨"com/example/cairnstore/cairnstore/store/PrimitiveType", "allowsBitsPerElement", "(I)Z"⟩ : MethodName) [Jvm.Cond.code (⟨"com/example/cairnstore/cairnstore/store/PrimitiveType", "allowsBitsPerElement", "(I)Z"⟩ : MethodName) prog_51_method_14_code 2 (some .boolean)] R0 #[(.ref a), (.int b)] (.int (0 : Int32))) (h154 : (0 : Int32) < b) (h162 : ¬ (b < (16 : Int32) + (1 : Int32))) :
    Pays l Z h0 n0 x (Jvm.Cond.code x code maxLocals ret :: ws) room_1 #[(.int p1), (.int b)] (.int (1 : Int32)) := by
  refine MetFree.of_bodySF (plainFor_of_name pn_PrimitiveTypeAllowsBitsPerElementPinLaw) hisR ?_
  intro p e s m args below meth c s₁ Bd hml0 hP hK
  obtain ⟨rfl, hZ, hh⟩ := hP
  have hx := Bd.exec
  have hby := Bd.bytes
  have hml : c.maxLocals = 7 := hml0
  have hown : s.vm.findClass "com/example/cairnstore/cairnstore/store/PrimitiveTypeAllowsBitsPerElementPinLaw" = some m.cls := findClass_of_methodNamed Bd.named
  have X0 : Stand p l e room_1 s m #[(.int p1), (.int b)] below meth c s₁ [] 0 0 := Stand.of_body Bd
  have e0 : s₁.heap = h0 := by rw [← hh, Bd.state]; rfl
  have N0 := Fr.nil n0
  have pre0 : ∀ t, Steps p.tables e below (s₁.setTop (mkF m 0 #[.val (.int p1), .val (.int b), .unset, .unset, .unset, .unset, .unset] [])) t → Steps p.tables e below (s₁.setTop (entryFrame m #[(.int p1), (.int b)] maxLocals)) t := fun t k => castTop (ef_0 m p1 b) k
  obtain ⟨T1, X1, e1, st1⟩ := getS2 X0 hx hZ hown (host := "") (Or.inl (hw _ (List.mem_of_getElem? (i := 32) rfl))) Via.refl e0 S_CHAR (g := (mkF m 65 #[.val (.int p1), .val (.int b), .val (.int (3 : Int32)), .unset, .unset, .unset, .unset] [])) rfl (hb hby at_65)
  obtain ⟨cq2, kq2, q2a, q2b, q2c⟩ := isOf hZ e1 EX
  obtain ⟨_, _, ⟨T2, L2, k2, n2⟩, -, X2, ⟨Lc2, hQ2, l2, y2, z2⟩, st2⟩ := X1.virtualBack hx (y := (⟨"com/example/cairnstore/cairnstore/store/PrimitiveType", "allowsBitsPerElement", "(I)Z"⟩ : MethodName)) (z := (⟨"com/example/cairnstore/cairnstore/store/PrimitiveType", "allowsBitsPerElement", "(I)Z"⟩ : MethodName)) hown (mvT hZ (hw _ (List.mem_of_getElem? (i := 3) rfl))) (mvT hZ (hw _ (List.mem_of_getElem? (i := 4) rfl))) (notFace_of_selects (args := #[]) (mvT hZ (hw _ (List.mem_of_getElem? (i := 34) rfl)))) (mvT hZ (hw _ (List.mem_of_getElem? (i := 34) rfl))) (mvT hZ (hw _ (List.mem_of_getElem? (i := 5) rfl))) (by decide) (backOf (W := 0) (Q := PQ (.int (0 : Int32)) h0 n0) C1 hZ (hw _ (List.mem_of_getElem? (i := 7) rfl)) (hw _ (List.mem_of_getElem? (i := 1) rfl)) (by decide) (by decide)) q2a q2c (g := (mkF m 190 #[.val (.int p1), .val (.int b), .val (.int (3 : Int32)), .val (.ref a), .val (.int (16 : Int32)), .val (.int (1 : Int32)), .val (.int (0 : Int32))] [(.int b), (.ref a)])) rfl (by rw [hml]; rfl) (Steps.refl _) (argsL := [(.int b)]) (rest := []) (lenOf pd__I_Z rfl) rfl (by show 2 * 0 + _ ≤ _; exact Nat.le_of_eq rfl) (hb hby at_190) (fun _ _ => ⟨rfl, e1, (by decide : 0 + 0 ≤ _), (by decide : 0 + 0 ≤ _)⟩)
  dsimp only [Pt.U, Pt.locs, Pt.cells, Pt.slots] at X2 l2 y2 z2 st2 hQ2
  subst l2 y2 z2
  obtain ⟨rfl, Nq2, e2⟩ := hQ2
  have N2 := Fr.app N0 Nq2
  obtain ⟨fs, hr, hrun, hended, hW, hsame⟩ := X2.leave (v := some (.int (1 : Int32))) (fun h => by rw [Bd.returns] at h; cases h)
  refine ⟨_, _, pre0 _ ?_, hrun, hended, _, _, rfl, ?_, ⟨_, rfl⟩, hW, hsame.mono (by decide) (by decide)⟩
  · show Steps p.tables e below (s₁.setTop (mkF m 0 #[.val (.int p1), .val (.int b), .unset, .unset, .unset, .unset, .unset] [])) _
    refine XS.iloadN X0.here hx rfl (hb hby at_0) rfl ?_
    show Steps p.tables e below (s₁.setTop (mkF m 1 #[.val (.int p1), .val (.int b), .unset, .unset, .unset, .unset, .unset] [(.int p1)])) _
    refine XS.bipush X0.here hx rfl (hb hby at_1) ?_
    show Steps p.tables e below (s₁.setTop (mkF m 3 #[.val (.int p1), .val (.int b), .unset, .unset, .unset, .unset, .unset] [(.int (7 : Int32)), (.int p1)])) _
    refine XS.iand X0.here hx rfl (hb hby at_3) rfl ?_
    show Steps p.tables e below (s₁.setTop (mkF m 4 #[.val (.int p1), .val (.int b), .unset, .unset, .unset, .unset, .unset] [(.int (p1 &&& (7 : Int32)))])) _
    rw [hi]
    show Steps p.tables e below (s₁.setTop (mkF m 4 #[.val (.int p1), .val (.int b), .unset, .unset, .unset, .unset, .unset] [(.int (3 : Int32))])) _
    refine XS.istoreN X0.here hx rfl (hb hby at_4) rfl (l' := #[.val (.int p1), .val (.int b), .val (.int (3 : Int32)), .unset, .unset, .unset, .unset]) rfl ?_
    show Steps p.tables e below (s₁.setTop (mkF m 5 #[.val (.int p1), .val (.int b), .val (.int (3 : Int32)), .unset, .unset, .unset, .unset] [])) _
    refine XS.iloadN X0.here hx rfl (hb hby at_5) rfl ?_
    show Steps p.tables e below (s₁.setTop (mkF m 6 #[.val (.int p1), .val (.int b), .val (.int (3 : Int32)), .unset, .unset, .unset, .unset] [(.int (3 : Int32))])) _
    refine XS.ifYes X0.here hx rfl (pc0 := 6) (pc' := 22) rfl (hb hby at_6) rfl (by decide) (by decide) (by decide) ?_
    show Steps p.tables e below (s₁.setTop (mkF m 22 #[.val (.int p1), .val (.int b), .val (.int (3 : Int32)), .unset, .unset, .unset, .unset] [])) _
    refine XS.iloadN X0.here hx rfl (hb hby at_22) rfl ?_
    show Steps p.tables e below (s₁.setTop (mkF m 23 #[.val (.int p1), .val (.int b), .val (.int (3 : Int32)), .unset, .unset, .unset, .unset] [(.int (3 : Int32))])) _
    refine XS.iconst X0.here hx rfl (hb hby at_23) ?_
    show Steps p.tables e below (s₁.setTop (mkF m 24 #[.val (.int p1), .val (.int b), .val (.int (3 : Int32)), .unset, .unset, .unset, .unset] [(.int (1 : Int32)), (.int (3 : Int32))])) _
    refine XS.icmpYes X0.here hx rfl (pc0 := 24) (pc' := 41) rfl (hb hby at_24) rfl (by decide) (by decide) (by decide) ?_
    show Steps p.tables e below (s₁.setTop (mkF m 41 #[.val (.int p1), .val (.int b), .val (.int (3 : Int32)), .unset, .unset, .unset, .unset] [])) _
    refine XS.iloadN X0.here hx rfl (hb hby at_41) rfl ?_
    show Steps p.tables e below (s₁.setTop (mkF m 42 #[.val (.int p1), .val (.int b), .val (.int (3 : Int32)), .unset, .unset, .unset, .unset] [(.int (3 : Int32))])) _
    refine XS.iconst X0.here hx rfl (hb hby at_42) ?_
    show Steps p.tables e below (s₁.setTop (mkF m 43 #[.val (.int p1), .val (.int b), .val (.int (3 : Int32)), .unset, .unset, .unset, .unset] [(.int (2 : Int32)), (.int (3 : Int32))])) _
    refine XS.icmpYes X0.here hx rfl (pc0 := 43) (pc' := 60) rfl (hb hby at_43) rfl (by decide) (by decide) (by decide) ?_
    show Steps p.tables e below (s₁.setTop (mkF m 60 #[.val (.int p1), .val (.int b), .val (.int (3 : Int32)), .unset, .unset, .unset, .unset] [])) _
    refine XS.iloadN X0.here hx rfl (hb hby at_60) rfl ?_
    show Steps p.tables e below (s₁.setTop (mkF m 61 #[.val (.int p1), .val (.int b), .val (.int (3 : Int32)), .unset, .unset, .unset, .unset] [(.int (3 : Int32))])) _
    refine XS.iconst X0.here hx rfl (hb hby at_61) ?_
    show Steps p.tables e below (s₁.setTop (mkF m 62 #[.val (.int p1), .val (.int b), .val (.int (3 : Int32)), .unset, .unset, .unset, .unset] [(.int (3 : Int32)), (.int (3 : Int32))])) _
    refine XS.icmpNo X0.here hx rfl (hb hby at_62) rfl (by decide) ?_
    show Steps p.tables e below (s₁.setTop (mkF m 65 #[.val (.int p1), .val (.int b), .val (.int (3 : Int32)), .unset, .unset, .unset, .unset] [])) _
    refine st1 _ ?_
    show Steps p.tables e below (T1.setTop (mkF m 68 #[.val (.int p1), .val (.int b), .val (.int (3 : Int32)), .unset, .unset, .unset, .unset] [(.ref a)])) _
    refine XS.astoreN X1.here hx rfl (hb hby at_68) rfl rfl (l' := #[.val (.int p1), .val (.int b), .val (.int (3 : Int32)), .val (.ref a), .unset, .unset, .unset]) rfl ?_
    show Steps p.tables e below (T1.setTop (mkF m 69 #[.val (.int p1), .val (.int b), .val (.int (3 : Int32)), .val (.ref a), .unset, .unset, .unset] [])) _
    refine XS.bipush X1.here hx rfl (hb hby at_69) ?_
    show Steps p.tables e below (T1.setTop (mkF m 71 #[.val (.int p1), .val (.int b), .val (.int (3 : Int32)), .val (.ref a), .unset, .unset, .unset] [(.int (16 : Int32))])) _
    refine XS.istore X1.here hx rfl (hb hby at_71) rfl (l' := #[.val (.int p1), .val (.int b), .val (.int (3 : Int32)), .val (.ref a), .val (.int (16 : Int32)), .unset, .unset]) rfl ?_
    show Steps p.tables e below (T1.setTop (mkF m 73 #[.val (.int p1), .val (.int b), .val (.int (3 : Int32)), .val (.ref a), .val (.int (16 : Int32)), .unset, .unset] [])) _
    refine XS.iconst X1.here hx rfl (hb hby at_73) ?_
    show Steps p.tables e below (T1.setTop (mkF m 74 #[.val (.int p1), .val (.int b), .val (.int (3 : Int32)), .val (.ref a), .val (.int (16 : Int32)), .unset, .unset] [(.int (1 : Int32))])) _
    refine XS.istore X1.here hx rfl (hb hby at_74) rfl (l' := #[.val (.int p1), .val (.int b), .val (.int (3 : Int32)), .val (.ref a), .val (.int (16 : Int32)), .val (.int (1 : Int32)), .unset]) rfl ?_
    show Steps p.tables e below (T1.setTop (mkF m 76 #[.val (.int p1), .val (.int b), .val (.int (3 : Int32)), .val (.ref a), .val (.int (16 : Int32)), .val (.int (1 : Int32)), .unset] [])) _
    refine XS.goto X1.here hx rfl (pc0 := 76) (pc' := 148) rfl (hb hby at_76) (by decide) (by decide) ?_
    show Steps p.tables e below (T1.setTop (mkF m 148 #[.val (.int p1), .val (.int b), .val (.int (3 : Int32)), .val (.ref a), .val (.int (16 : Int32)), .val (.int (1 : Int32)), .unset] [])) _
    refine XS.iload X1.here hx rfl (hb hby at_148) rfl ?_
    show Steps p.tables e below (T1.setTop (mkF m 150 #[.val (.int p1), .val (.int b), .val (.int (3 : Int32)), .val (.ref a), .val (.int (16 : Int32)), .val (.int (1 : Int32)), .unset] [(.int (1 : Int32))])) _
    refine XS.ifNo X1.here hx rfl (hb hby at_150) rfl (by decide) ?_
    show Steps p.tables e below (T1.setTop (mkF m 153 #[.val (.int p1), .val (.int b), .val (.int (3 : Int32)), .val (.ref a), .val (.int (16 : Int32)), .val (.int (1 : Int32)), .unset] [])) _
    refine XS.iloadN X1.here hx rfl (hb hby at_153) rfl ?_
    show Steps p.tables e below (T1.setTop (mkF m 154 #[.val (.int p1), .val (.int b), .val (.int (3 : Int32)), .val (.ref a), .val (.int (16 : Int32)), .val (.int (1 : Int32)), .unset] [(.int b)])) _
    refine XS.ifNo X1.here hx rfl (hb hby at_154) rfl ((if0 _ _).trans (tlt h154).2.2.2) ?_
    show Steps p.tables e below (T1.setTop (mkF m 157 #[.val (.int p1), .val (.int b), .val (.int (3 : Int32)), .val (.ref a), .val (.int (16 : Int32)), .val (.int (1 : Int32)), .unset] [])) _
    refine XS.iloadN X1.here hx rfl (hb hby at_157) rfl ?_
    show Steps p.tables e below (T1.setTop (mkF m 158 #[.val (.int p1), .val (.int b), .val (.int (3 : Int32)), .val (.ref a), .val (.int (16 : Int32)), .val (.int (1 : Int32)), .unset] [(.int b)])) _
    refine XS.iload X1.here hx rfl (hb hby at_158) rfl ?_
    show Steps p.tables e below (T1.setTop (mkF m 160 #[.val (.int p1), .val (.int b), .val (.int (3 : Int32)), .val (.ref a), .val (.int (16 : Int32)), .val (.int (1 : Int32)), .unset] [(.int (16 : Int32)), (.int b)])) _
    refine XS.iconst X1.here hx rfl (hb hby at_160) ?_
    show Steps p.tables e below (T1.setTop (mkF m 161 #[.val (.int p1), .val (.int b), .val (.int (3 : Int32)), .val (.ref a), .val (.int (16 : Int32)), .val (.int (1 : Int32)), .unset] [(.int (1 : Int32)), (.int (16 : Int32)), (.int b)])) _
    refine XS.iadd X1.here hx rfl (hb hby at_161) rfl ?_
    show Steps p.tables e below (T1.setTop (mkF m 162 #[.val (.int p1), .val (.int b), .val (.int (3 : Int32)), .val (.ref a), .val (.int (16 : Int32)), .val (.int (1 : Int32)), .unset] [(.int ((16 : Int32) + (1 : Int32))), (.int b)])) _
    refine XS.icmpYes X1.here hx rfl (pc0 := 162) (pc' := 169) rfl (hb hby at_162) rfl (flt h162).2.1 (by decide) (by decide) ?_
    show Steps p.tables e below (T1.setTop (mkF m 169 #[.val (.int p1), .val (.int b), .val (.int (3 : Int32)), .val (.ref a), .val (.int (16 : Int32)), .val (.int (1 : Int32)), .unset] [])) _
    refine XS.iconst X1.here hx rfl (hb hby at_169) ?_
    show Steps p.tables e below (T1.setTop (mkF m 170 #[.val (.int p1), .val (.int b), .val (.int (3 : Int32)), .val (.ref a), .val (.int (16 : Int32)), .val (.int (1 : Int32)), .unset] [(.int (0 : Int32))])) _
    refine XS.istore X1.here hx rfl (hb hby at_170) rfl (l' := #[.val (.int p1), .val (.int b), .val (.int (3 : Int32)), .val (.ref a), .val (.int (16 : Int32)), .val (.int (1 : Int32)), .val (.int (0 : Int32))]) rfl ?_
    show Steps p.tables e below (T1.setTop (mkF m 172 #[.val (.int p1), .val (.int b), .val (.int (3 : Int32)), .val (.ref a), .val (.int (16 : Int32)), .val (.int (1 : Int32)), .val (.int (0 : Int32))] [])) _
    refine XS.goto X1.here hx rfl (pc0 := 172) (pc' := 188) rfl (hb hby at_172) (by decide) (by decide) ?_
    show Steps p.tables e below (T1.setTop (mkF m 188 #[.val (.int p1), .val (.int b), .val (.int (3 : Int32)), .val (.ref a), .val (.int (16 : Int32)), .val (.int (1 : Int32)), .val (.int (0 : Int32))] [])) _
    refine XS.aloadN X1.here hx rfl (hb hby at_188) rfl rfl ?_
    show Steps p.tables e below (T1.setTop (mkF m 189 #[.val (.int p1), .val (.int b), .val (.int (3 : Int32)), .val (.ref a), .val (.int (16 : Int32)), .val (.int (1 : Int32)), .val (.int (0 : Int32))] [(.ref a)])) _
    refine XS.iloadN X1.here hx rfl (hb hby at_189) rfl ?_
    show Steps p.tables e below (T1.setTop (mkF m 190 #[.val (.int p1), .val (.int b), .val (.int (3 : Int32)), .val (.ref a), .val (.int (16 : Int32)), .val (.int (1 : Int32)), .val (.int (0 : Int32))] [(.int b), (.ref a)])) _
    refine st2.trans ?_
    show Steps p.tables e below (T2.setTop (mkF m 193 #[.val (.int p1), .val (.int b), .val (.int (3 : Int32)), .val (.ref a), .val (.int (16 : Int32)), .val (.int (1 : Int32)), .val (.int (0 : Int32))] [(.int (0 : Int32))])) _
    refine XS.iload X2.here hx rfl (hb hby at_193) rfl ?_
    show Steps p.tables e below (T2.setTop (mkF m 195 #[.val (.int p1), .val (.int b), .val (.int (3 : Int32)), .val (.ref a), .val (.int (16 : Int32)), .val (.int (1 : Int32)), .val (.int (0 : Int32))] [(.int (0 : Int32)), (.int (0 : Int32))])) _
    refine XS.icmpNo X2.here hx rfl (hb hby at_195) rfl (by decide) ?_
    show Steps p.tables e below (T2.setTop (mkF m 198 #[.val (.int p1), .val (.int b), .val (.int (3 : Int32)), .val (.ref a), .val (.int (16 : Int32)), .val (.int (1 : Int32)), .val (.int (0 : Int32))] [])) _
    refine XS.iconst X2.here hx rfl (hb hby at_198) ?_
    show Steps p.tables e below (T2.setTop (mkF m 199 #[.val (.int p1), .val (.int b), .val (.int (3 : Int32)), .val (.ref a), .val (.int (16 : Int32)), .val (.int (1 : Int32)), .val (.int (0 : Int32))] [(.int (1 : Int32))])) _
    refine XS.goto X2.here hx rfl (pc0 := 199) (pc' := 203) rfl (hb hby at_199) (by decide) (by decide) ?_
    show Steps p.tables e below (T2.setTop (mkF m 203 #[.val (.int p1), .val (.int b), .val (.int (3 : Int32)), .val (.ref a), .val (.int (16 : Int32)), .val (.int (1 : Int32)), .val (.int (0 : Int32))] [(.int (1 : Int32))])) _
    exact retN X2 hx (t := .boolean) Bd.returns (by simp) (hb hby at_203) hr
  · show PQ (.int (1 : Int32)) h0 n0 _ T2.heap _
    exact ⟨rfl, N2, e2⟩

set_option maxRecDepth 65536 in
set_option maxHeartbeats 40000000 in
theorem law_3_in (l : Launch) (Z : State) (a0 : Array Value) (hw : ∀ d ∈ tables_1, d.before a0 Z = true) (ws : List Jvm.Cond) (p1 b : Int32) (a : Addr) (h0 : Heap) (n0 : Nat) (Z0 : n0 ≤ h0.size) (hi : p1 &&& (7 : Int32) = (3 : Int32)) (S_CHAR : Sta Z h0 "com/example/cairnstore/cairnstore/store/PrimitiveType" "CHAR" "Lcom/example/cairnstore/cairnstore/store/PrimitiveType;" (.ref a)) (EX : Exa Z h0 a "com/example/cairnstore/cairnstore/store/PrimitiveType$4") (C1 : Pays l Z h0 n0 (⟨"com/example/cairnstore/cairnstore/store/PrimitiveType", "allowsBitsPerElement", "(I)Z"⟩ : MethodName) [Jvm.Cond.code (⟨"com/example/cairnstore/cairnstore/store/PrimitiveType", "allowsBitsPerElement", "(I)Z"⟩ : MethodName) prog_51_method_14_code 2 (some .boolean)] R0 #[(.ref a), (.int b)] (.int (1 : Int32))) (h154 : (0 : Int32) < b) (h162 : b < (16 : Int32) + (1 : Int32)) :
    Pays l Z h0 n0 x (Jvm.Cond.code x code maxLocals ret :: ws) room_1 #[(.int p1), (.int b)] (.int (1 : Int32)) := by
  refine MetFree.of_bodySF (plainFor_of_name pn_PrimitiveTypeAllowsBitsPerElementPinLaw) hisR ?_
  intro p e s m args below meth c s₁ Bd hml0 hP hK
  obtain ⟨rfl, hZ, hh⟩ := hP
  have hx := Bd.exec
  have hby := Bd.bytes
  have hml : c.maxLocals = 7 := hml0
  have hown : s.vm.findClass "com/example/cairnstore/cairnstore/store/PrimitiveTypeAllowsBitsPerElementPinLaw" = some m.cls := findClass_of_methodNamed Bd.named
  have X0 : Stand p l e room_1 s m #[(.int p1), (.int b)] below meth c s₁ [] 0 0 := Stand.of_body Bd
  have e0 : s₁.heap = h0 := by rw [← hh, Bd.state]; rfl
  have N0 := Fr.nil n0
  have pre0 : ∀ t, Steps p.tables e below (s₁.setTop (mkF m 0 #[.val (.int p1), .val (.int b), .unset, .unset, .unset, .unset, .unset] [])) t → Steps p.tables e below (s₁.setTop (entryFrame m #[(.int p1), (.int b)] maxLocals)) t := fun t k => castTop (ef_0 m p1 b) k
  obtain ⟨T1, X1, e1, st1⟩ := getS2 X0 hx hZ hown (host := "") (Or.inl (hw _ (List.mem_of_getElem? (i := 32) rfl))) Via.refl e0 S_CHAR (g := (mkF m 65 #[.val (.int p1), .val (.int b), .val (.int (3 : Int32)), .unset, .unset, .unset, .unset] [])) rfl (hb hby at_65)
  obtain ⟨cq2, kq2, q2a, q2b, q2c⟩ := isOf hZ e1 EX
  obtain ⟨_, _, ⟨T2, L2, k2, n2⟩, -, X2, ⟨Lc2, hQ2, l2, y2, z2⟩, st2⟩ := X1.virtualBack hx (y := (⟨"com/example/cairnstore/cairnstore/store/PrimitiveType", "allowsBitsPerElement", "(I)Z"⟩ : MethodName)) (z := (⟨"com/example/cairnstore/cairnstore/store/PrimitiveType", "allowsBitsPerElement", "(I)Z"⟩ : MethodName)) hown (mvT hZ (hw _ (List.mem_of_getElem? (i := 3) rfl))) (mvT hZ (hw _ (List.mem_of_getElem? (i := 4) rfl))) (notFace_of_selects (args := #[]) (mvT hZ (hw _ (List.mem_of_getElem? (i := 34) rfl)))) (mvT hZ (hw _ (List.mem_of_getElem? (i := 34) rfl))) (mvT hZ (hw _ (List.mem_of_getElem? (i := 5) rfl))) (by decide) (backOf (W := 0) (Q := PQ (.int (1 : Int32)) h0 n0) C1 hZ (hw _ (List.mem_of_getElem? (i := 7) rfl)) (hw _ (List.mem_of_getElem? (i := 1) rfl)) (by decide) (by decide)) q2a q2c (g := (mkF m 190 #[.val (.int p1), .val (.int b), .val (.int (3 : Int32)), .val (.ref a), .val (.int (16 : Int32)), .val (.int (1 : Int32)), .val (.int (1 : Int32))] [(.int b), (.ref a)])) rfl (by rw [hml]; rfl) (Steps.refl _) (argsL := [(.int b)]) (rest := []) (lenOf pd__I_Z rfl) rfl (by show 2 * 0 + _ ≤ _; exact Nat.le_of_eq rfl) (hb hby at_190) (fun _ _ => ⟨rfl, e1, (by decide : 0 + 0 ≤ _), (by decide : 0 + 0 ≤ _)⟩)
  dsimp only [Pt.U, Pt.locs, Pt.cells, Pt.slots] at X2 l2 y2 z2 st2 hQ2
  subst l2 y2 z2
  obtain ⟨rfl, Nq2, e2⟩ := hQ2
  have N2 := Fr.app N0 Nq2
  obtain ⟨fs, hr, hrun, hended, hW, hsame⟩ := X2.leave (v := some (.int (1 : Int32))) (fun h => by rw [Bd.returns] at h; cases h)
  refine ⟨_, _, pre0 _ ?_, hrun, hended, _, _, rfl, ?_, ⟨_, rfl⟩, hW, hsame.mono (by decide) (by decide)⟩
  · show Steps p.tables e below (s₁.setTop (mkF m 0 #[.val (.int p1), .val (.int b), .unset, .unset, .unset, .unset, .unset] [])) _
    refine XS.iloadN X0.here hx rfl (hb hby at_0) rfl ?_
    show Steps p.tables e below (s₁.setTop (mkF m 1 #[.val (.int p1), .val (.int b), .unset, .unset, .unset, .unset, .unset] [(.int p1)])) _
    refine XS.bipush X0.here hx rfl (hb hby at_1) ?_
    show Steps p.tables e below (s₁.setTop (mkF m 3 #[.val (.int p1), .val (.int b), .unset, .unset, .unset, .unset, .unset] [(.int (7 : Int32)), (.int p1)])) _
    refine XS.iand X0.here hx rfl (hb hby at_3) rfl ?_
    show Steps p.tables e below (s₁.setTop (mkF m 4 #[.val (.int p1), .val (.int b), .unset, .unset, .unset, .unset, .unset] [(.int (p1 &&& (7 : Int32)))])) _
    rw [hi]
    show Steps p.tables e below (s₁.setTop (mkF m 4 #[.val (.int p1), .val (.int b), .unset, .unset, .unset, .unset, .unset] [(.int (3 : Int32))])) _
    refine XS.istoreN X0.here hx rfl (hb hby at_4) rfl (l' := #[.val (.int p1), .val (.int b), .val (.int (3 : Int32)), .unset, .unset, .unset, .unset]) rfl ?_
    show Steps p.tables e below (s₁.setTop (mkF m 5 #[.val (.int p1), .val (.int b), .val (.int (3 : Int32)), .unset, .unset, .unset, .unset] [])) _
    refine XS.iloadN X0.here hx rfl (hb hby at_5) rfl ?_
    show Steps p.tables e below (s₁.setTop (mkF m 6 #[.val (.int p1), .val (.int b), .val (.int (3 : Int32)), .unset, .unset, .unset, .unset] [(.int (3 : Int32))])) _
    refine XS.ifYes X0.here hx rfl (pc0 := 6) (pc' := 22) rfl (hb hby at_6) rfl (by decide) (by decide) (by decide) ?_
    show Steps p.tables e below (s₁.setTop (mkF m 22 #[.val (.int p1), .val (.int b), .val (.int (3 : Int32)), .unset, .unset, .unset, .unset] [])) _
    refine XS.iloadN X0.here hx rfl (hb hby at_22) rfl ?_
    show Steps p.tables e below (s₁.setTop (mkF m 23 #[.val (.int p1), .val (.int b), .val (.int (3 : Int32)), .unset, .unset, .unset, .unset] [(.int (3 : Int32))])) _
    refine XS.iconst X0.here hx rfl (hb hby at_23) ?_
    show Steps p.tables e below (s₁.setTop (mkF m 24 #[.val (.int p1), .val (.int b), .val (.int (3 : Int32)), .unset, .unset, .unset, .unset] [(.int (1 : Int32)), (.int (3 : Int32))])) _
    refine XS.icmpYes X0.here hx rfl (pc0 := 24) (pc' := 41) rfl (hb hby at_24) rfl (by decide) (by decide) (by decide) ?_
    show Steps p.tables e below (s₁.setTop (mkF m 41 #[.val (.int p1), .val (.int b), .val (.int (3 : Int32)), .unset, .unset, .unset, .unset] [])) _
    refine XS.iloadN X0.here hx rfl (hb hby at_41) rfl ?_
    show Steps p.tables e below (s₁.setTop (mkF m 42 #[.val (.int p1), .val (.int b), .val (.int (3 : Int32)), .unset, .unset, .unset, .unset] [(.int (3 : Int32))])) _
    refine XS.iconst X0.here hx rfl (hb hby at_42) ?_
    show Steps p.tables e below (s₁.setTop (mkF m 43 #[.val (.int p1), .val (.int b), .val (.int (3 : Int32)), .unset, .unset, .unset, .unset] [(.int (2 : Int32)), (.int (3 : Int32))])) _
    refine XS.icmpYes X0.here hx rfl (pc0 := 43) (pc' := 60) rfl (hb hby at_43) rfl (by decide) (by decide) (by decide) ?_
    show Steps p.tables e below (s₁.setTop (mkF m 60 #[.val (.int p1), .val (.int b), .val (.int (3 : Int32)), .unset, .unset, .unset, .unset] [])) _
    refine XS.iloadN X0.here hx rfl (hb hby at_60) rfl ?_
    show Steps p.tables e below (s₁.setTop (mkF m 61 #[.val (.int p1), .val (.int b), .val (.int (3 : Int32)), .unset, .unset, .unset, .unset] [(.int (3 : Int32))])) _
    refine XS.iconst X0.here hx rfl (hb hby at_61) ?_
    show Steps p.tables e below (s₁.setTop (mkF m 62 #[.val (.int p1), .val (.int b), .val (.int (3 : Int32)), .unset, .unset, .unset, .unset] [(.int (3 : Int32)), (.int (3 : Int32))])) _
    refine XS.icmpNo X0.here hx rfl (hb hby at_62) rfl (by decide) ?_
    show Steps p.tables e below (s₁.setTop (mkF m 65 #[.val (.int p1), .val (.int b), .val (.int (3 : Int32)), .unset, .unset, .unset, .unset] [])) _
    refine st1 _ ?_
    show Steps p.tables e below (T1.setTop (mkF m 68 #[.val (.int p1), .val (.int b), .val (.int (3 : Int32)), .unset, .unset, .unset, .unset] [(.ref a)])) _
    refine XS.astoreN X1.here hx rfl (hb hby at_68) rfl rfl (l' := #[.val (.int p1), .val (.int b), .val (.int (3 : Int32)), .val (.ref a), .unset, .unset, .unset]) rfl ?_
    show Steps p.tables e below (T1.setTop (mkF m 69 #[.val (.int p1), .val (.int b), .val (.int (3 : Int32)), .val (.ref a), .unset, .unset, .unset] [])) _
    refine XS.bipush X1.here hx rfl (hb hby at_69) ?_
    show Steps p.tables e below (T1.setTop (mkF m 71 #[.val (.int p1), .val (.int b), .val (.int (3 : Int32)), .val (.ref a), .unset, .unset, .unset] [(.int (16 : Int32))])) _
    refine XS.istore X1.here hx rfl (hb hby at_71) rfl (l' := #[.val (.int p1), .val (.int b), .val (.int (3 : Int32)), .val (.ref a), .val (.int (16 : Int32)), .unset, .unset]) rfl ?_
    show Steps p.tables e below (T1.setTop (mkF m 73 #[.val (.int p1), .val (.int b), .val (.int (3 : Int32)), .val (.ref a), .val (.int (16 : Int32)), .unset, .unset] [])) _
    refine XS.iconst X1.here hx rfl (hb hby at_73) ?_
    show Steps p.tables e below (T1.setTop (mkF m 74 #[.val (.int p1), .val (.int b), .val (.int (3 : Int32)), .val (.ref a), .val (.int (16 : Int32)), .unset, .unset] [(.int (1 : Int32))])) _
    refine XS.istore X1.here hx rfl (hb hby at_74) rfl (l' := #[.val (.int p1), .val (.int b), .val (.int (3 : Int32)), .val (.ref a), .val (.int (16 : Int32)), .val (.int (1 : Int32)), .unset]) rfl ?_
    show Steps p.tables e below (T1.setTop (mkF m 76 #[.val (.int p1), .val (.int b), .val (.int (3 : Int32)), .val (.ref a), .val (.int (16 : Int32)), .val (.int (1 : Int32)), .unset] [])) _
    refine XS.goto X1.here hx rfl (pc0 := 76) (pc' := 148) rfl (hb hby at_76) (by decide) (by decide) ?_
    show Steps p.tables e below (T1.setTop (mkF m 148 #[.val (.int p1), .val (.int b), .val (.int (3 : Int32)), .val (.ref a), .val (.int (16 : Int32)), .val (.int (1 : Int32)), .unset] [])) _
    refine XS.iload X1.here hx rfl (hb hby at_148) rfl ?_
    show Steps p.tables e below (T1.setTop (mkF m 150 #[.val (.int p1), .val (.int b), .val (.int (3 : Int32)), .val (.ref a), .val (.int (16 : Int32)), .val (.int (1 : Int32)), .unset] [(.int (1 : Int32))])) _
    refine XS.ifNo X1.here hx rfl (hb hby at_150) rfl (by decide) ?_
    show Steps p.tables e below (T1.setTop (mkF m 153 #[.val (.int p1), .val (.int b), .val (.int (3 : Int32)), .val (.ref a), .val (.int (16 : Int32)), .val (.int (1 : Int32)), .unset] [])) _
    refine XS.iloadN X1.here hx rfl (hb hby at_153) rfl ?_
    show Steps p.tables e below (T1.setTop (mkF m 154 #[.val (.int p1), .val (.int b), .val (.int (3 : Int32)), .val (.ref a), .val (.int (16 : Int32)), .val (.int (1 : Int32)), .unset] [(.int b)])) _
    refine XS.ifNo X1.here hx rfl (hb hby at_154) rfl ((if0 _ _).trans (tlt h154).2.2.2) ?_
    show Steps p.tables e below (T1.setTop (mkF m 157 #[.val (.int p1), .val (.int b), .val (.int (3 : Int32)), .val (.ref a), .val (.int (16 : Int32)), .val (.int (1 : Int32)), .unset] [])) _
    refine XS.iloadN X1.here hx rfl (hb hby at_157) rfl ?_
    show Steps p.tables e below (T1.setTop (mkF m 158 #[.val (.int p1), .val (.int b), .val (.int (3 : Int32)), .val (.ref a), .val (.int (16 : Int32)), .val (.int (1 : Int32)), .unset] [(.int b)])) _
    refine XS.iload X1.here hx rfl (hb hby at_158) rfl ?_
    show Steps p.tables e below (T1.setTop (mkF m 160 #[.val (.int p1), .val (.int b), .val (.int (3 : Int32)), .val (.ref a), .val (.int (16 : Int32)), .val (.int (1 : Int32)), .unset] [(.int (16 : Int32)), (.int b)])) _
    refine XS.iconst X1.here hx rfl (hb hby at_160) ?_
    show Steps p.tables e below (T1.setTop (mkF m 161 #[.val (.int p1), .val (.int b), .val (.int (3 : Int32)), .val (.ref a), .val (.int (16 : Int32)), .val (.int (1 : Int32)), .unset] [(.int (1 : Int32)), (.int (16 : Int32)), (.int b)])) _
    refine XS.iadd X1.here hx rfl (hb hby at_161) rfl ?_
    show Steps p.tables e below (T1.setTop (mkF m 162 #[.val (.int p1), .val (.int b), .val (.int (3 : Int32)), .val (.ref a), .val (.int (16 : Int32)), .val (.int (1 : Int32)), .unset] [(.int ((16 : Int32) + (1 : Int32))), (.int b)])) _
    refine XS.icmpNo X1.here hx rfl (hb hby at_162) rfl (tlt h162).2.1 ?_
    show Steps p.tables e below (T1.setTop (mkF m 165 #[.val (.int p1), .val (.int b), .val (.int (3 : Int32)), .val (.ref a), .val (.int (16 : Int32)), .val (.int (1 : Int32)), .unset] [])) _
    refine XS.iconst X1.here hx rfl (hb hby at_165) ?_
    show Steps p.tables e below (T1.setTop (mkF m 166 #[.val (.int p1), .val (.int b), .val (.int (3 : Int32)), .val (.ref a), .val (.int (16 : Int32)), .val (.int (1 : Int32)), .unset] [(.int (1 : Int32))])) _
    refine XS.goto X1.here hx rfl (pc0 := 166) (pc' := 170) rfl (hb hby at_166) (by decide) (by decide) ?_
    show Steps p.tables e below (T1.setTop (mkF m 170 #[.val (.int p1), .val (.int b), .val (.int (3 : Int32)), .val (.ref a), .val (.int (16 : Int32)), .val (.int (1 : Int32)), .unset] [(.int (1 : Int32))])) _
    refine XS.istore X1.here hx rfl (hb hby at_170) rfl (l' := #[.val (.int p1), .val (.int b), .val (.int (3 : Int32)), .val (.ref a), .val (.int (16 : Int32)), .val (.int (1 : Int32)), .val (.int (1 : Int32))]) rfl ?_
    show Steps p.tables e below (T1.setTop (mkF m 172 #[.val (.int p1), .val (.int b), .val (.int (3 : Int32)), .val (.ref a), .val (.int (16 : Int32)), .val (.int (1 : Int32)), .val (.int (1 : Int32))] [])) _
    refine XS.goto X1.here hx rfl (pc0 := 172) (pc' := 188) rfl (hb hby at_172) (by decide) (by decide) ?_
    show Steps p.tables e below (T1.setTop (mkF m 188 #[.val (.int p1), .val (.int b), .val (.int (3 : Int32)), .val (.ref a), .val (.int (16 : Int32)), .val (.int (1 : Int32)), .val (.int (1 : Int32))] [])) _
    refine XS.aloadN X1.here hx rfl (hb hby at_188) rfl rfl ?_
    show Steps p.tables e below (T1.setTop (mkF m 189 #[.val (.int p1), .val (.int b), .val (.int (3 : Int32)), .val (.ref a), .val (.int (16 : Int32)), .val (.int (1 : Int32)), .val (.int (1 : Int32))] [(.ref a)])) _
    refine XS.iloadN X1.here hx rfl (hb hby at_189) rfl ?_
    show Steps p.tables e below (T1.setTop (mkF m 190 #[.val (.int p1), .val (.int b), .val (.int (3 : Int32)), .val (.ref a), .val (.int (16 : Int32)), .val (.int (1 : Int32)), .val (.int (1 : Int32))] [(.int b), (.ref a)])) _
    refine st2.trans ?_
    show Steps p.tables e below (T2.setTop (mkF m 193 #[.val (.int p1), .val (.int b), .val (.int (3 : Int32)), .val (.ref a), .val (.int (16 : Int32)), .val (.int (1 : Int32)), .val (.int (1 : Int32))] [(.int (1 : Int32))])) _
    refine XS.iload X2.here hx rfl (hb hby at_193) rfl ?_
    show Steps p.tables e below (T2.setTop (mkF m 195 #[.val (.int p1), .val (.int b), .val (.int (3 : Int32)), .val (.ref a), .val (.int (16 : Int32)), .val (.int (1 : Int32)), .val (.int (1 : Int32))] [(.int (1 : Int32)), (.int (1 : Int32))])) _
    refine XS.icmpNo X2.here hx rfl (hb hby at_195) rfl (by decide) ?_
    show Steps p.tables e below (T2.setTop (mkF m 198 #[.val (.int p1), .val (.int b), .val (.int (3 : Int32)), .val (.ref a), .val (.int (16 : Int32)), .val (.int (1 : Int32)), .val (.int (1 : Int32))] [])) _
    refine XS.iconst X2.here hx rfl (hb hby at_198) ?_
    show Steps p.tables e below (T2.setTop (mkF m 199 #[.val (.int p1), .val (.int b), .val (.int (3 : Int32)), .val (.ref a), .val (.int (16 : Int32)), .val (.int (1 : Int32)), .val (.int (1 : Int32))] [(.int (1 : Int32))])) _
    refine XS.goto X2.here hx rfl (pc0 := 199) (pc' := 203) rfl (hb hby at_199) (by decide) (by decide) ?_
    show Steps p.tables e below (T2.setTop (mkF m 203 #[.val (.int p1), .val (.int b), .val (.int (3 : Int32)), .val (.ref a), .val (.int (16 : Int32)), .val (.int (1 : Int32)), .val (.int (1 : Int32))] [(.int (1 : Int32))])) _
    exact retN X2 hx (t := .boolean) Bd.returns (by simp) (hb hby at_203) hr
  · show PQ (.int (1 : Int32)) h0 n0 _ T2.heap _
    exact ⟨rfl, N2, e2⟩

set_option maxRecDepth 65536 in
set_option maxHeartbeats 40000000 in
theorem law_4_lo (l : Launch) (Z : State) (a0 : Array Value) (hw : ∀ d ∈ tables_1, d.before a0 Z = true) (ws : List Jvm.Cond) (p1 b : Int32) (a : Addr) (h0 : Heap) (n0 : Nat) (Z0 : n0 ≤ h0.size) (hi : p1 &&& (7 : Int32) = (4 : Int32)) (S_INT : Sta Z h0 "com/example/cairnstore/cairnstore/store/PrimitiveType" "INT" "Lcom/example/cairnstore/cairnstore/store/PrimitiveType;" (.ref a)) (EX : Exa Z h0 a "com/example/cairnstore/cairnstore/store/PrimitiveType$5") (C1 : Pays l Z h0 n0 (⟨"com/example/cairnstore/cairnstore/store/PrimitiveType", "allowsBitsPerElement", "(I)Z"⟩ : MethodName) [Jvm.Cond.code (⟨"com/example/cairnstore/cairnstore/store/PrimitiveType", "allowsBitsPerElement", "(I)Z"⟩ : MethodName) prog_51_method_14_code 2 (some .boolean)] R0 #[(.ref a), (.int b)] (.int (0 : Int32))) (h154 : ¬ ((0 : Int32) < b)) :
    Pays l Z h0 n0 x (Jvm.Cond.code x code maxLocals ret :: ws) room_1 #[(.int p1), (.int b)] (.int (1 : Int32)) := by
  refine MetFree.of_bodySF (plainFor_of_name pn_PrimitiveTypeAllowsBitsPerElementPinLaw) hisR ?_
  intro p e s m args below meth c s₁ Bd hml0 hP hK
  obtain ⟨rfl, hZ, hh⟩ := hP
  have hx := Bd.exec
  have hby := Bd.bytes
  have hml : c.maxLocals = 7 := hml0
  have hown : s.vm.findClass "com/example/cairnstore/cairnstore/store/PrimitiveTypeAllowsBitsPerElementPinLaw" = some m.cls := findClass_of_methodNamed Bd.named
  have X0 : Stand p l e room_1 s m #[(.int p1), (.int b)] below meth c s₁ [] 0 0 := Stand.of_body Bd
  have e0 : s₁.heap = h0 := by rw [← hh, Bd.state]; rfl
  have N0 := Fr.nil n0
  have pre0 : ∀ t, Steps p.tables e below (s₁.setTop (mkF m 0 #[.val (.int p1), .val (.int b), .unset, .unset, .unset, .unset, .unset] [])) t → Steps p.tables e below (s₁.setTop (entryFrame m #[(.int p1), (.int b)] maxLocals)) t := fun t k => castTop (ef_0 m p1 b) k
  obtain ⟨T1, X1, e1, st1⟩ := getS2 X0 hx hZ hown (host := "") (Or.inl (hw _ (List.mem_of_getElem? (i := 17) rfl))) Via.refl e0 S_INT (g := (mkF m 84 #[.val (.int p1), .val (.int b), .val (.int (4 : Int32)), .unset, .unset, .unset, .unset] [])) rfl (hb hby at_84)
  obtain ⟨cq2, kq2, q2a, q2b, q2c⟩ := isOf hZ e1 EX
  obtain ⟨_, _, ⟨T2, L2, k2, n2⟩, -, X2, ⟨Lc2, hQ2, l2, y2, z2⟩, st2⟩ := X1.virtualBack hx (y := (⟨"com/example/cairnstore/cairnstore/store/PrimitiveType", "allowsBitsPerElement", "(I)Z"⟩ : MethodName)) (z := (⟨"com/example/cairnstore/cairnstore/store/PrimitiveType", "allowsBitsPerElement", "(I)Z"⟩ : MethodName)) hown (mvT hZ (hw _ (List.mem_of_getElem? (i := 3) rfl))) (mvT hZ (hw _ (List.mem_of_getElem? (i := 4) rfl))) (notFace_of_selects (args := #[]) (mvT hZ (hw _ (List.mem_of_getElem? (i := 19) rfl)))) (mvT hZ (hw _ (List.mem_of_getElem? (i := 19) rfl))) (mvT hZ (hw _ (List.mem_of_getElem? (i := 5) rfl))) (by decide) (backOf (W := 0) (Q := PQ (.int (0 : Int32)) h0 n0) C1 hZ (hw _ (List.mem_of_getElem? (i := 7) rfl)) (hw _ (List.mem_of_getElem? (i := 1) rfl)) (by decide) (by decide)) q2a q2c (g := (mkF m 190 #[.val (.int p1), .val (.int b), .val (.int (4 : Int32)), .val (.ref a), .val (.int (32 : Int32)), .val (.int (1 : Int32)), .val (.int (0 : Int32))] [(.int b), (.ref a)])) rfl (by rw [hml]; rfl) (Steps.refl _) (argsL := [(.int b)]) (rest := []) (lenOf pd__I_Z rfl) rfl (by show 2 * 0 + _ ≤ _; exact Nat.le_of_eq rfl) (hb hby at_190) (fun _ _ => ⟨rfl, e1, (by decide : 0 + 0 ≤ _), (by decide : 0 + 0 ≤ _)⟩)
  dsimp only [Pt.U, Pt.locs, Pt.cells, Pt.slots] at X2 l2 y2 z2 st2 hQ2
  subst l2 y2 z2
  obtain ⟨rfl, Nq2, e2⟩ := hQ2
  have N2 := Fr.app N0 Nq2
  obtain ⟨fs, hr, hrun, hended, hW, hsame⟩ := X2.leave (v := some (.int (1 : Int32))) (fun h => by rw [Bd.returns] at h; cases h)
  refine ⟨_, _, pre0 _ ?_, hrun, hended, _, _, rfl, ?_, ⟨_, rfl⟩, hW, hsame.mono (by decide) (by decide)⟩
  · show Steps p.tables e below (s₁.setTop (mkF m 0 #[.val (.int p1), .val (.int b), .unset, .unset, .unset, .unset, .unset] [])) _
    refine XS.iloadN X0.here hx rfl (hb hby at_0) rfl ?_
    show Steps p.tables e below (s₁.setTop (mkF m 1 #[.val (.int p1), .val (.int b), .unset, .unset, .unset, .unset, .unset] [(.int p1)])) _
    refine XS.bipush X0.here hx rfl (hb hby at_1) ?_
    show Steps p.tables e below (s₁.setTop (mkF m 3 #[.val (.int p1), .val (.int b), .unset, .unset, .unset, .unset, .unset] [(.int (7 : Int32)), (.int p1)])) _
    refine XS.iand X0.here hx rfl (hb hby at_3) rfl ?_
    show Steps p.tables e below (s₁.setTop (mkF m 4 #[.val (.int p1), .val (.int b), .unset, .unset, .unset, .unset, .unset] [(.int (p1 &&& (7 : Int32)))])) _
    rw [hi]
    show Steps p.tables e below (s₁.setTop (mkF m 4 #[.val (.int p1), .val (.int b), .unset, .unset, .unset, .unset, .unset] [(.int (4 : Int32))])) _
    refine XS.istoreN X0.here hx rfl (hb hby at_4) rfl (l' := #[.val (.int p1), .val (.int b), .val (.int (4 : Int32)), .unset, .unset, .unset, .unset]) rfl ?_
    show Steps p.tables e below (s₁.setTop (mkF m 5 #[.val (.int p1), .val (.int b), .val (.int (4 : Int32)), .unset, .unset, .unset, .unset] [])) _
    refine XS.iloadN X0.here hx rfl (hb hby at_5) rfl ?_
    show Steps p.tables e below (s₁.setTop (mkF m 6 #[.val (.int p1), .val (.int b), .val (.int (4 : Int32)), .unset, .unset, .unset, .unset] [(.int (4 : Int32))])) _
    refine XS.ifYes X0.here hx rfl (pc0 := 6) (pc' := 22) rfl (hb hby at_6) rfl (by decide) (by decide) (by decide) ?_
    show Steps p.tables e below (s₁.setTop (mkF m 22 #[.val (.int p1), .val (.int b), .val (.int (4 : Int32)), .unset, .unset, .unset, .unset] [])) _
    refine XS.iloadN X0.here hx rfl (hb hby at_22) rfl ?_
    show Steps p.tables e below (s₁.setTop (mkF m 23 #[.val (.int p1), .val (.int b), .val (.int (4 : Int32)), .unset, .unset, .unset, .unset] [(.int (4 : Int32))])) _
    refine XS.iconst X0.here hx rfl (hb hby at_23) ?_
    show Steps p.tables e below (s₁.setTop (mkF m 24 #[.val (.int p1), .val (.int b), .val (.int (4 : Int32)), .unset, .unset, .unset, .unset] [(.int (1 : Int32)), (.int (4 : Int32))])) _
    refine XS.icmpYes X0.here hx rfl (pc0 := 24) (pc' := 41) rfl (hb hby at_24) rfl (by decide) (by decide) (by decide) ?_
    show Steps p.tables e below (s₁.setTop (mkF m 41 #[.val (.int p1), .val (.int b), .val (.int (4 : Int32)), .unset, .unset, .unset, .unset] [])) _
    refine XS.iloadN X0.here hx rfl (hb hby at_41) rfl ?_
    show Steps p.tables e below (s₁.setTop (mkF m 42 #[.val (.int p1), .val (.int b), .val (.int (4 : Int32)), .unset, .unset, .unset, .unset] [(.int (4 : Int32))])) _
    refine XS.iconst X0.here hx rfl (hb hby at_42) ?_
    show Steps p.tables e below (s₁.setTop (mkF m 43 #[.val (.int p1), .val (.int b), .val (.int (4 : Int32)), .unset, .unset, .unset, .unset] [(.int (2 : Int32)), (.int (4 : Int32))])) _
    refine XS.icmpYes X0.here hx rfl (pc0 := 43) (pc' := 60) rfl (hb hby at_43) rfl (by decide) (by decide) (by decide) ?_
    show Steps p.tables e below (s₁.setTop (mkF m 60 #[.val (.int p1), .val (.int b), .val (.int (4 : Int32)), .unset, .unset, .unset, .unset] [])) _
    refine XS.iloadN X0.here hx rfl (hb hby at_60) rfl ?_
    show Steps p.tables e below (s₁.setTop (mkF m 61 #[.val (.int p1), .val (.int b), .val (.int (4 : Int32)), .unset, .unset, .unset, .unset] [(.int (4 : Int32))])) _
    refine XS.iconst X0.here hx rfl (hb hby at_61) ?_
    show Steps p.tables e below (s₁.setTop (mkF m 62 #[.val (.int p1), .val (.int b), .val (.int (4 : Int32)), .unset, .unset, .unset, .unset] [(.int (3 : Int32)), (.int (4 : Int32))])) _
    refine XS.icmpYes X0.here hx rfl (pc0 := 62) (pc' := 79) rfl (hb hby at_62) rfl (by decide) (by decide) (by decide) ?_
    show Steps p.tables e below (s₁.setTop (mkF m 79 #[.val (.int p1), .val (.int b), .val (.int (4 : Int32)), .unset, .unset, .unset, .unset] [])) _
    refine XS.iloadN X0.here hx rfl (hb hby at_79) rfl ?_
    show Steps p.tables e below (s₁.setTop (mkF m 80 #[.val (.int p1), .val (.int b), .val (.int (4 : Int32)), .unset, .unset, .unset, .unset] [(.int (4 : Int32))])) _
    refine XS.iconst X0.here hx rfl (hb hby at_80) ?_
    show Steps p.tables e below (s₁.setTop (mkF m 81 #[.val (.int p1), .val (.int b), .val (.int (4 : Int32)), .unset, .unset, .unset, .unset] [(.int (4 : Int32)), (.int (4 : Int32))])) _
    refine XS.icmpNo X0.here hx rfl (hb hby at_81) rfl (by decide) ?_
    show Steps p.tables e below (s₁.setTop (mkF m 84 #[.val (.int p1), .val (.int b), .val (.int (4 : Int32)), .unset, .unset, .unset, .unset] [])) _
    refine st1 _ ?_
    show Steps p.tables e below (T1.setTop (mkF m 87 #[.val (.int p1), .val (.int b), .val (.int (4 : Int32)), .unset, .unset, .unset, .unset] [(.ref a)])) _
    refine XS.astoreN X1.here hx rfl (hb hby at_87) rfl rfl (l' := #[.val (.int p1), .val (.int b), .val (.int (4 : Int32)), .val (.ref a), .unset, .unset, .unset]) rfl ?_
    show Steps p.tables e below (T1.setTop (mkF m 88 #[.val (.int p1), .val (.int b), .val (.int (4 : Int32)), .val (.ref a), .unset, .unset, .unset] [])) _
    refine XS.bipush X1.here hx rfl (hb hby at_88) ?_
    show Steps p.tables e below (T1.setTop (mkF m 90 #[.val (.int p1), .val (.int b), .val (.int (4 : Int32)), .val (.ref a), .unset, .unset, .unset] [(.int (32 : Int32))])) _
    refine XS.istore X1.here hx rfl (hb hby at_90) rfl (l' := #[.val (.int p1), .val (.int b), .val (.int (4 : Int32)), .val (.ref a), .val (.int (32 : Int32)), .unset, .unset]) rfl ?_
    show Steps p.tables e below (T1.setTop (mkF m 92 #[.val (.int p1), .val (.int b), .val (.int (4 : Int32)), .val (.ref a), .val (.int (32 : Int32)), .unset, .unset] [])) _
    refine XS.iconst X1.here hx rfl (hb hby at_92) ?_
    show Steps p.tables e below (T1.setTop (mkF m 93 #[.val (.int p1), .val (.int b), .val (.int (4 : Int32)), .val (.ref a), .val (.int (32 : Int32)), .unset, .unset] [(.int (1 : Int32))])) _
    refine XS.istore X1.here hx rfl (hb hby at_93) rfl (l' := #[.val (.int p1), .val (.int b), .val (.int (4 : Int32)), .val (.ref a), .val (.int (32 : Int32)), .val (.int (1 : Int32)), .unset]) rfl ?_
    show Steps p.tables e below (T1.setTop (mkF m 95 #[.val (.int p1), .val (.int b), .val (.int (4 : Int32)), .val (.ref a), .val (.int (32 : Int32)), .val (.int (1 : Int32)), .unset] [])) _
    refine XS.goto X1.here hx rfl (pc0 := 95) (pc' := 148) rfl (hb hby at_95) (by decide) (by decide) ?_
    show Steps p.tables e below (T1.setTop (mkF m 148 #[.val (.int p1), .val (.int b), .val (.int (4 : Int32)), .val (.ref a), .val (.int (32 : Int32)), .val (.int (1 : Int32)), .unset] [])) _
    refine XS.iload X1.here hx rfl (hb hby at_148) rfl ?_
    show Steps p.tables e below (T1.setTop (mkF m 150 #[.val (.int p1), .val (.int b), .val (.int (4 : Int32)), .val (.ref a), .val (.int (32 : Int32)), .val (.int (1 : Int32)), .unset] [(.int (1 : Int32))])) _
    refine XS.ifNo X1.here hx rfl (hb hby at_150) rfl (by decide) ?_
    show Steps p.tables e below (T1.setTop (mkF m 153 #[.val (.int p1), .val (.int b), .val (.int (4 : Int32)), .val (.ref a), .val (.int (32 : Int32)), .val (.int (1 : Int32)), .unset] [])) _
    refine XS.iloadN X1.here hx rfl (hb hby at_153) rfl ?_
    show Steps p.tables e below (T1.setTop (mkF m 154 #[.val (.int p1), .val (.int b), .val (.int (4 : Int32)), .val (.ref a), .val (.int (32 : Int32)), .val (.int (1 : Int32)), .unset] [(.int b)])) _
    refine XS.ifYes X1.here hx rfl (pc0 := 154) (pc' := 169) rfl (hb hby at_154) rfl ((if0 _ _).trans (flt h154).2.2.2) (by decide) (by decide) ?_
    show Steps p.tables e below (T1.setTop (mkF m 169 #[.val (.int p1), .val (.int b), .val (.int (4 : Int32)), .val (.ref a), .val (.int (32 : Int32)), .val (.int (1 : Int32)), .unset] [])) _
    refine XS.iconst X1.here hx rfl (hb hby at_169) ?_
    show Steps p.tables e below (T1.setTop (mkF m 170 #[.val (.int p1), .val (.int b), .val (.int (4 : Int32)), .val (.ref a), .val (.int (32 : Int32)), .val (.int (1 : Int32)), .unset] [(.int (0 : Int32))])) _
    refine XS.istore X1.here hx rfl (hb hby at_170) rfl (l' := #[.val (.int p1), .val (.int b), .val (.int (4 : Int32)), .val (.ref a), .val (.int (32 : Int32)), .val (.int (1 : Int32)), .val (.int (0 : Int32))]) rfl ?_
    show Steps p.tables e below (T1.setTop (mkF m 172 #[.val (.int p1), .val (.int b), .val (.int (4 : Int32)), .val (.ref a), .val (.int (32 : Int32)), .val (.int (1 : Int32)), .val (.int (0 : Int32))] [])) _
    refine XS.goto X1.here hx rfl (pc0 := 172) (pc' := 188) rfl (hb hby at_172) (by decide) (by decide) ?_
    show Steps p.tables e below (T1.setTop (mkF m 188 #[.val (.int p1), .val (.int b), .val (.int (4 : Int32)), .val (.ref a), .val (.int (32 : Int32)), .val (.int (1 : Int32)), .val (.int (0 : Int32))] [])) _
    refine XS.aloadN X1.here hx rfl (hb hby at_188) rfl rfl ?_
    show Steps p.tables e below (T1.setTop (mkF m 189 #[.val (.int p1), .val (.int b), .val (.int (4 : Int32)), .val (.ref a), .val (.int (32 : Int32)), .val (.int (1 : Int32)), .val (.int (0 : Int32))] [(.ref a)])) _
    refine XS.iloadN X1.here hx rfl (hb hby at_189) rfl ?_
    show Steps p.tables e below (T1.setTop (mkF m 190 #[.val (.int p1), .val (.int b), .val (.int (4 : Int32)), .val (.ref a), .val (.int (32 : Int32)), .val (.int (1 : Int32)), .val (.int (0 : Int32))] [(.int b), (.ref a)])) _
    refine st2.trans ?_
    show Steps p.tables e below (T2.setTop (mkF m 193 #[.val (.int p1), .val (.int b), .val (.int (4 : Int32)), .val (.ref a), .val (.int (32 : Int32)), .val (.int (1 : Int32)), .val (.int (0 : Int32))] [(.int (0 : Int32))])) _
    refine XS.iload X2.here hx rfl (hb hby at_193) rfl ?_
    show Steps p.tables e below (T2.setTop (mkF m 195 #[.val (.int p1), .val (.int b), .val (.int (4 : Int32)), .val (.ref a), .val (.int (32 : Int32)), .val (.int (1 : Int32)), .val (.int (0 : Int32))] [(.int (0 : Int32)), (.int (0 : Int32))])) _
    refine XS.icmpNo X2.here hx rfl (hb hby at_195) rfl (by decide) ?_
    show Steps p.tables e below (T2.setTop (mkF m 198 #[.val (.int p1), .val (.int b), .val (.int (4 : Int32)), .val (.ref a), .val (.int (32 : Int32)), .val (.int (1 : Int32)), .val (.int (0 : Int32))] [])) _
    refine XS.iconst X2.here hx rfl (hb hby at_198) ?_
    show Steps p.tables e below (T2.setTop (mkF m 199 #[.val (.int p1), .val (.int b), .val (.int (4 : Int32)), .val (.ref a), .val (.int (32 : Int32)), .val (.int (1 : Int32)), .val (.int (0 : Int32))] [(.int (1 : Int32))])) _
    refine XS.goto X2.here hx rfl (pc0 := 199) (pc' := 203) rfl (hb hby at_199) (by decide) (by decide) ?_
    show Steps p.tables e below (T2.setTop (mkF m 203 #[.val (.int p1), .val (.int b), .val (.int (4 : Int32)), .val (.ref a), .val (.int (32 : Int32)), .val (.int (1 : Int32)), .val (.int (0 : Int32))] [(.int (1 : Int32))])) _
    exact retN X2 hx (t := .boolean) Bd.returns (by simp) (hb hby at_203) hr
  · show PQ (.int (1 : Int32)) h0 n0 _ T2.heap _
    exact ⟨rfl, N2, e2⟩

set_option maxRecDepth 65536 in
set_option maxHeartbeats 40000000 in
theorem law_4_hi (l : Launch) (Z : State) (a0 : Array Value) (hw : ∀ d ∈ tables_1, d.before a0 Z = true) (ws : List Jvm.Cond) (p1 b : Int32) (a : Addr) (h0 : Heap) (n0 : Nat) (Z0 : n0 ≤ h0.size) (hi : p1 &&& (7 : Int32) = (4 : Int32)) (S_INT : Sta Z h0 "com/example/cairnstore/cairnstore/store/PrimitiveType" "INT" "Lcom/example/cairnstore/cairnstore/store/PrimitiveType;" (.ref a)) (EX : Exa Z h0 a "com/example/cairnstore/cairnstore/store/PrimitiveType$5") (C1 : Pays l Z h0 n0 (⟨"com/example/cairnstore/cairnstore/store/PrimitiveType", "allowsBitsPerElement", "(I)Z"⟩ : MethodName) [Jvm.Cond.code (⟨"com/example/cairnstore/cairnstore/store/PrimitiveType", "allowsBitsPerElement", "(I)Z"⟩ : MethodName) prog_51_method_14_code 2 (some .boolean)] R0 #[(.ref a), (.int b)] (.int (0 : Int32))) (h154 : (0 : Int32) < b) (h162 : ¬ (b < (32 : Int32) + (1 : Int32))) :
    Pays l Z h0 n0 x (Jvm.Cond.code x code maxLocals ret :: ws) room_1 #[(.int p1), (.int b)] (.int (1 : Int32)) := by
  refine MetFree.of_bodySF (plainFor_of_name pn_PrimitiveTypeAllowsBitsPerElementPinLaw) hisR ?_
  intro p e s m args below meth c s₁ Bd hml0 hP hK
  obtain ⟨rfl, hZ, hh⟩ := hP
  have hx := Bd.exec
  have hby := Bd.bytes
  have hml : c.maxLocals = 7 := hml0
  have hown : s.vm.findClass "com/example/cairnstore/cairnstore/store/PrimitiveTypeAllowsBitsPerElementPinLaw" = some m.cls := findClass_of_methodNamed Bd.named
  have X0 : Stand p l e room_1 s m #[(.int p1), (.int b)] below meth c s₁ [] 0 0 := Stand.of_body Bd
  have e0 : s₁.heap = h0 := by rw [← hh, Bd.state]; rfl
  have N0 := Fr.nil n0
  have pre0 : ∀ t, Steps p.tables e below (s₁.setTop (mkF m 0 #[.val (.int p1), .val (.int b), .unset, .unset, .unset, .unset, .unset] [])) t → Steps p.tables e below (s₁.setTop (entryFrame m #[(.int p1), (.int b)] maxLocals)) t := fun t k => castTop (ef_0 m p1 b) k
  obtain ⟨T1, X1, e1, st1⟩ := getS2 X0 hx hZ hown (host := "") (Or.inl (hw _ (List.mem_of_getElem? (i := 17) rfl))) Via.refl e0 S_INT (g := (mkF m 84 #[.val (.int p1), .val (.int b), .val (.int (4 : Int32)), .unset, .unset, .unset, .unset] [])) rfl (hb hby at_84)
  obtain ⟨cq2, kq2, q2a, q2b, q2c⟩ := isOf hZ e1 EX
  obtain ⟨_, _, ⟨T2, L2, k2, n2⟩, -, X2, ⟨Lc2, hQ2, l2, y2, z2⟩, st2⟩ := X1.virtualBack hx (y := (⟨"com/example/cairnstore/cairnstore/store/PrimitiveType", "allowsBitsPerElement", "(I)Z"⟩ : MethodName)) (z := (⟨"com/example/cairnstore/cairnstore/store/PrimitiveType", "allowsBitsPerElement", "(I)Z"⟩ : MethodName)) hown (mvT hZ (hw _ (List.mem_of_getElem? (i := 3) rfl))) (mvT hZ (hw _ (List.mem_of_getElem? (i := 4) rfl))) (notFace_of_selects (args := #[]) (mvT hZ (hw _ (List.mem_of_getElem? (i := 19) rfl)))) (mvT hZ (hw _ (List.mem_of_getElem? (i := 19) rfl))) (mvT hZ (hw _ (List.mem_of_getElem? (i := 5) rfl))) (by decide) (backOf (W := 0) (Q := PQ (.int (0 : Int32)) h0 n0) C1 hZ (hw _ (List.mem_of_getElem? (i := 7) rfl)) (hw _ (List.mem_of_getElem? (i := 1) rfl)) (by decide) (by decide)) q2a q2c (g := (mkF m 190 #[.val (.int p1), .val (.int b), .val (.int (4 : Int32)), .val (.ref a), .val (.int (32 : Int32)), .val (.int (1 : Int32)), .val (.int (0 : Int32))] [(.int b), (.ref a)])) rfl (by rw [hml]; rfl) (Steps.refl _) (argsL := [(.int b)]) (rest := []) (lenOf pd__I_Z rfl) rfl (by show 2 * 0 + _ ≤ _; exact Nat.le_of_eq rfl) (hb hby at_190) (fun _ _ => ⟨rfl, e1, (by decide : 0 + 0 ≤ _), (by decide : 0 + 0 ≤ _)⟩)
  dsimp only [Pt.U, Pt.locs, Pt.cells, Pt.slots] at X2 l2 y2 z2 st2 hQ2
  subst l2 y2 z2
  obtain ⟨rfl, Nq2, e2⟩ := hQ2
  have N2 := Fr.app N0 Nq2
  obtain ⟨fs, hr, hrun, hended, hW, hsame⟩ := X2.leave (v := some (.int (1 : Int32))) (fun h => by rw [Bd.returns] at h; cases h)
  refine ⟨_, _, pre0 _ ?_, hrun, hended, _, _, rfl, ?_, ⟨_, rfl⟩, hW, hsame.mono (by decide) (by decide)⟩
  · show Steps p.tables e below (s₁.setTop (mkF m 0 #[.val (.int p1), .val (.int b), .unset, .unset, .unset, .unset, .unset] [])) _
    refine XS.iloadN X0.here hx rfl (hb hby at_0) rfl ?_
    show Steps p.tables e below (s₁.setTop (mkF m 1 #[.val (.int p1), .val (.int b), .unset, .unset, .unset, .unset, .unset] [(.int p1)])) _
    refine XS.bipush X0.here hx rfl (hb hby at_1) ?_
    show Steps p.tables e below (s₁.setTop (mkF m 3 #[.val (.int p1), .val (.int b), .unset, .unset, .unset, .unset, .unset] [(.int (7 : Int32)), (.int p1)])) _
    refine XS.iand X0.here hx rfl (hb hby at_3) rfl ?_
    show Steps p.tables e below (s₁.setTop (mkF m 4 #[.val (.int p1), .val (.int b), .unset, .unset, .unset, .unset, .unset] [(.int (p1 &&& (7 : Int32)))])) _
    rw [hi]
    show Steps p.tables e below (s₁.setTop (mkF m 4 #[.val (.int p1), .val (.int b), .unset, .unset, .unset, .unset, .unset] [(.int (4 : Int32))])) _
    refine XS.istoreN X0.here hx rfl (hb hby at_4) rfl (l' := #[.val (.int p1), .val (.int b), .val (.int (4 : Int32)), .unset, .unset, .unset, .unset]) rfl ?_
    show Steps p.tables e below (s₁.setTop (mkF m 5 #[.val (.int p1), .val (.int b), .val (.int (4 : Int32)), .unset, .unset, .unset, .unset] [])) _
    refine XS.iloadN X0.here hx rfl (hb hby at_5) rfl ?_
    show Steps p.tables e below (s₁.setTop (mkF m 6 #[.val (.int p1), .val (.int b), .val (.int (4 : Int32)), .unset, .unset, .unset, .unset] [(.int (4 : Int32))])) _
    refine XS.ifYes X0.here hx rfl (pc0 := 6) (pc' := 22) rfl (hb hby at_6) rfl (by decide) (by decide) (by decide) ?_
    show Steps p.tables e below (s₁.setTop (mkF m 22 #[.val (.int p1), .val (.int b), .val (.int (4 : Int32)), .unset, .unset, .unset, .unset] [])) _
    refine XS.iloadN X0.here hx rfl (hb hby at_22) rfl ?_
    show Steps p.tables e below (s₁.setTop (mkF m 23 #[.val (.int p1), .val (.int b), .val (.int (4 : Int32)), .unset, .unset, .unset, .unset] [(.int (4 : Int32))])) _
    refine XS.iconst X0.here hx rfl (hb hby at_23) ?_
    show Steps p.tables e below (s₁.setTop (mkF m 24 #[.val (.int p1), .val (.int b), .val (.int (4 : Int32)), .unset, .unset, .unset, .unset] [(.int (1 : Int32)), (.int (4 : Int32))])) _
    refine XS.icmpYes X0.here hx rfl (pc0 := 24) (pc' := 41) rfl (hb hby at_24) rfl (by decide) (by decide) (by decide) ?_
    show Steps p.tables e below (s₁.setTop (mkF m 41 #[.val (.int p1), .val (.int b), .val (.int (4 : Int32)), .unset, .unset, .unset, .unset] [])) _
    refine XS.iloadN X0.here hx rfl (hb hby at_41) rfl ?_
    show Steps p.tables e below (s₁.setTop (mkF m 42 #[.val (.int p1), .val (.int b), .val (.int (4 : Int32)), .unset, .unset, .unset, .unset] [(.int (4 : Int32))])) _
    refine XS.iconst X0.here hx rfl (hb hby at_42) ?_
    show Steps p.tables e below (s₁.setTop (mkF m 43 #[.val (.int p1), .val (.int b), .val (.int (4 : Int32)), .unset, .unset, .unset, .unset] [(.int (2 : Int32)), (.int (4 : Int32))])) _
    refine XS.icmpYes X0.here hx rfl (pc0 := 43) (pc' := 60) rfl (hb hby at_43) rfl (by decide) (by decide) (by decide) ?_
    show Steps p.tables e below (s₁.setTop (mkF m 60 #[.val (.int p1), .val (.int b), .val (.int (4 : Int32)), .unset, .unset, .unset, .unset] [])) _
    refine XS.iloadN X0.here hx rfl (hb hby at_60) rfl ?_
    show Steps p.tables e below (s₁.setTop (mkF m 61 #[.val (.int p1), .val (.int b), .val (.int (4 : Int32)), .unset, .unset, .unset, .unset] [(.int (4 : Int32))])) _
    refine XS.iconst X0.here hx rfl (hb hby at_61) ?_
    show Steps p.tables e below (s₁.setTop (mkF m 62 #[.val (.int p1), .val (.int b), .val (.int (4 : Int32)), .unset, .unset, .unset, .unset] [(.int (3 : Int32)), (.int (4 : Int32))])) _
    refine XS.icmpYes X0.here hx rfl (pc0 := 62) (pc' := 79) rfl (hb hby at_62) rfl (by decide) (by decide) (by decide) ?_
    show Steps p.tables e below (s₁.setTop (mkF m 79 #[.val (.int p1), .val (.int b), .val (.int (4 : Int32)), .unset, .unset, .unset, .unset] [])) _
    refine XS.iloadN X0.here hx rfl (hb hby at_79) rfl ?_
    show Steps p.tables e below (s₁.setTop (mkF m 80 #[.val (.int p1), .val (.int b), .val (.int (4 : Int32)), .unset, .unset, .unset, .unset] [(.int (4 : Int32))])) _
    refine XS.iconst X0.here hx rfl (hb hby at_80) ?_
    show Steps p.tables e below (s₁.setTop (mkF m 81 #[.val (.int p1), .val (.int b), .val (.int (4 : Int32)), .unset, .unset, .unset, .unset] [(.int (4 : Int32)), (.int (4 : Int32))])) _
    refine XS.icmpNo X0.here hx rfl (hb hby at_81) rfl (by decide) ?_
    show Steps p.tables e below (s₁.setTop (mkF m 84 #[.val (.int p1), .val (.int b), .val (.int (4 : Int32)), .unset, .unset, .unset, .unset] [])) _
    refine st1 _ ?_
    show Steps p.tables e below (T1.setTop (mkF m 87 #[.val (.int p1), .val (.int b), .val (.int (4 : Int32)), .unset, .unset, .unset, .unset] [(.ref a)])) _
    refine XS.astoreN X1.here hx rfl (hb hby at_87) rfl rfl (l' := #[.val (.int p1), .val (.int b), .val (.int (4 : Int32)), .val (.ref a), .unset, .unset, .unset]) rfl ?_
    show Steps p.tables e below (T1.setTop (mkF m 88 #[.val (.int p1), .val (.int b), .val (.int (4 : Int32)), .val (.ref a), .unset, .unset, .unset] [])) _
    refine XS.bipush X1.here hx rfl (hb hby at_88) ?_
    show Steps p.tables e below (T1.setTop (mkF m 90 #[.val (.int p1), .val (.int b), .val (.int (4 : Int32)), .val (.ref a), .unset, .unset, .unset] [(.int (32 : Int32))])) _
    refine XS.istore X1.here hx rfl (hb hby at_90) rfl (l' := #[.val (.int p1), .val (.int b), .val (.int (4 : Int32)), .val (.ref a), .val (.int (32 : Int32)), .unset, .unset]) rfl ?_
    show Steps p.tables e below (T1.setTop (mkF m 92 #[.val (.int p1), .val (.int b), .val (.int (4 : Int32)), .val (.ref a), .val (.int (32 : Int32)), .unset, .unset] [])) _
    refine XS.iconst X1.here hx rfl (hb hby at_92) ?_
    show Steps p.tables e below (T1.setTop (mkF m 93 #[.val (.int p1), .val (.int b), .val (.int (4 : Int32)), .val (.ref a), .val (.int (32 : Int32)), .unset, .unset] [(.int (1 : Int32))])) _
    refine XS.istore X1.here hx rfl (hb hby at_93) rfl (l' := #[.val (.int p1), .val (.int b), .val (.int (4 : Int32)), .val (.ref a), .val (.int (32 : Int32)), .val (.int (1 : Int32)), .unset]) rfl ?_
    show Steps p.tables e below (T1.setTop (mkF m 95 #[.val (.int p1), .val (.int b), .val (.int (4 : Int32)), .val (.ref a), .val (.int (32 : Int32)), .val (.int (1 : Int32)), .unset] [])) _
    refine XS.goto X1.here hx rfl (pc0 := 95) (pc' := 148) rfl (hb hby at_95) (by decide) (by decide) ?_
    show Steps p.tables e below (T1.setTop (mkF m 148 #[.val (.int p1), .val (.int b), .val (.int (4 : Int32)), .val (.ref a), .val (.int (32 : Int32)), .val (.int (1 : Int32)), .unset] [])) _
    refine XS.iload X1.here hx rfl (hb hby at_148) rfl ?_
    show Steps p.tables e below (T1.setTop (mkF m 150 #[.val (.int p1), .val (.int b), .val (.int (4 : Int32)), .val (.ref a), .val (.int (32 : Int32)), .val (.int (1 : Int32)), .unset] [(.int (1 : Int32))])) _
    refine XS.ifNo X1.here hx rfl (hb hby at_150) rfl (by decide) ?_
    show Steps p.tables e below (T1.setTop (mkF m 153 #[.val (.int p1), .val (.int b), .val (.int (4 : Int32)), .val (.ref a), .val (.int (32 : Int32)), .val (.int (1 : Int32)), .unset] [])) _
    refine XS.iloadN X1.here hx rfl (hb hby at_153) rfl ?_
    show Steps p.tables e below (T1.setTop (mkF m 154 #[.val (.int p1), .val (.int b), .val (.int (4 : Int32)), .val (.ref a), .val (.int (32 : Int32)), .val (.int (1 : Int32)), .unset] [(.int b)])) _
    refine XS.ifNo X1.here hx rfl (hb hby at_154) rfl ((if0 _ _).trans (tlt h154).2.2.2) ?_
    show Steps p.tables e below (T1.setTop (mkF m 157 #[.val (.int p1), .val (.int b), .val (.int (4 : Int32)), .val (.ref a), .val (.int (32 : Int32)), .val (.int (1 : Int32)), .unset] [])) _
    refine XS.iloadN X1.here hx rfl (hb hby at_157) rfl ?_
    show Steps p.tables e below (T1.setTop (mkF m 158 #[.val (.int p1), .val (.int b), .val (.int (4 : Int32)), .val (.ref a), .val (.int (32 : Int32)), .val (.int (1 : Int32)), .unset] [(.int b)])) _
    refine XS.iload X1.here hx rfl (hb hby at_158) rfl ?_
    show Steps p.tables e below (T1.setTop (mkF m 160 #[.val (.int p1), .val (.int b), .val (.int (4 : Int32)), .val (.ref a), .val (.int (32 : Int32)), .val (.int (1 : Int32)), .unset] [(.int (32 : Int32)), (.int b)])) _
    refine XS.iconst X1.here hx rfl (hb hby at_160) ?_
    show Steps p.tables e below (T1.setTop (mkF m 161 #[.val (.int p1), .val (.int b), .val (.int (4 : Int32)), .val (.ref a), .val (.int (32 : Int32)), .val (.int (1 : Int32)), .unset] [(.int (1 : Int32)), (.int (32 : Int32)), (.int b)])) _
    refine XS.iadd X1.here hx rfl (hb hby at_161) rfl ?_
    show Steps p.tables e below (T1.setTop (mkF m 162 #[.val (.int p1), .val (.int b), .val (.int (4 : Int32)), .val (.ref a), .val (.int (32 : Int32)), .val (.int (1 : Int32)), .unset] [(.int ((32 : Int32) + (1 : Int32))), (.int b)])) _
    refine XS.icmpYes X1.here hx rfl (pc0 := 162) (pc' := 169) rfl (hb hby at_162) rfl (flt h162).2.1 (by decide) (by decide) ?_
    show Steps p.tables e below (T1.setTop (mkF m 169 #[.val (.int p1), .val (.int b), .val (.int (4 : Int32)), .val (.ref a), .val (.int (32 : Int32)), .val (.int (1 : Int32)), .unset] [])) _
    refine XS.iconst X1.here hx rfl (hb hby at_169) ?_
    show Steps p.tables e below (T1.setTop (mkF m 170 #[.val (.int p1), .val (.int b), .val (.int (4 : Int32)), .val (.ref a), .val (.int (32 : Int32)), .val (.int (1 : Int32)), .unset] [(.int (0 : Int32))])) _
    refine XS.istore X1.here hx rfl (hb hby at_170) rfl (l' := #[.val (.int p1), .val (.int b), .val (.int (4 : Int32)), .val (.ref a), .val (.int (32 : Int32)), .val (.int (1 : Int32)), .val (.int (0 : Int32))]) rfl ?_
    show Steps p.tables e below (T1.setTop (mkF m 172 #[.val (.int p1), .val (.int b), .val (.int (4 : Int32)), .val (.ref a), .val (.int (32 : Int32)), .val (.int (1 : Int32)), .val (.int (0 : Int32))] [])) _
    refine XS.goto X1.here hx rfl (pc0 := 172) (pc' := 188) rfl (hb hby at_172) (by decide) (by decide) ?_
    show Steps p.tables e below (T1.setTop (mkF m 188 #[.val (.int p1), .val (.int b), .val (.int (4 : Int32)), .val (.ref a), .val (.int (32 : Int32)), .val (.int (1 : Int32)), .val (.int (0 : Int32))] [])) _
    refine XS.aloadN X1.here hx rfl (hb hby at_188) rfl rfl ?_
    show Steps p.tables e below (T1.setTop (mkF m 189 #[.val (.int p1), .val (.int b), .val (.int (4 : Int32)), .val (.ref a), .val (.int (32 : Int32)), .val (.int (1 : Int32)), .val (.int (0 : Int32))] [(.ref a)])) _
    refine XS.iloadN X1.here hx rfl (hb hby at_189) rfl ?_
    show Steps p.tables e below (T1.setTop (mkF m 190 #[.val (.int p1), .val (.int b), .val (.int (4 : Int32)), .val (.ref a), .val (.int (32 : Int32)), .val (.int (1 : Int32)), .val (.int (0 : Int32))] [(.int b), (.ref a)])) _
    refine st2.trans ?_
    show Steps p.tables e below (T2.setTop (mkF m 193 #[.val (.int p1), .val (.int b), .val (.int (4 : Int32)), .val (.ref a), .val (.int (32 : Int32)), .val (.int (1 : Int32)), .val (.int (0 : Int32))] [(.int (0 : Int32))])) _
    refine XS.iload X2.here hx rfl (hb hby at_193) rfl ?_
    show Steps p.tables e below (T2.setTop (mkF m 195 #[.val (.int p1), .val (.int b), .val (.int (4 : Int32)), .val (.ref a), .val (.int (32 : Int32)), .val (.int (1 : Int32)), .val (.int (0 : Int32))] [(.int (0 : Int32)), (.int (0 : Int32))])) _
    refine XS.icmpNo X2.here hx rfl (hb hby at_195) rfl (by decide) ?_
    show Steps p.tables e below (T2.setTop (mkF m 198 #[.val (.int p1), .val (.int b), .val (.int (4 : Int32)), .val (.ref a), .val (.int (32 : Int32)), .val (.int (1 : Int32)), .val (.int (0 : Int32))] [])) _
    refine XS.iconst X2.here hx rfl (hb hby at_198) ?_
    show Steps p.tables e below (T2.setTop (mkF m 199 #[.val (.int p1), .val (.int b), .val (.int (4 : Int32)), .val (.ref a), .val (.int (32 : Int32)), .val (.int (1 : Int32)), .val (.int (0 : Int32))] [(.int (1 : Int32))])) _
    refine XS.goto X2.here hx rfl (pc0 := 199) (pc' := 203) rfl (hb hby at_199) (by decide) (by decide) ?_
    show Steps p.tables e below (T2.setTop (mkF m 203 #[.val (.int p1), .val (.int b), .val (.int (4 : Int32)), .val (.ref a), .val (.int (32 : Int32)), .val (.int (1 : Int32)), .val (.int (0 : Int32))] [(.int (1 : Int32))])) _
    exact retN X2 hx (t := .boolean) Bd.returns (by simp) (hb hby at_203) hr
  · show PQ (.int (1 : Int32)) h0 n0 _ T2.heap _
    exact ⟨rfl, N2, e2⟩

set_option maxRecDepth 65536 in
set_option maxHeartbeats 40000000 in
theorem law_4_in (l : Launch) (Z : State) (a0 : Array Value) (hw : ∀ d ∈ tables_1, d.before a0 Z = true) (ws : List Jvm.Cond) (p1 b : Int32) (a : Addr) (h0 : Heap) (n0 : Nat) (Z0 : n0 ≤ h0.size) (hi : p1 &&& (7 : Int32) = (4 : Int32)) (S_INT : Sta Z h0 "com/example/cairnstore/cairnstore/store/PrimitiveType" "INT" "Lcom/example/cairnstore/cairnstore/store/PrimitiveType;" (.ref a)) (EX : Exa Z h0 a "com/example/cairnstore/cairnstore/store/PrimitiveType$5") (C1 : Pays l Z h0 n0 (⟨"com/example/cairnstore/cairnstore/store/PrimitiveType", "allowsBitsPerElement", "(I)Z"⟩ : MethodName) [Jvm.Cond.code (⟨"com/example/cairnstore/cairnstore/store/PrimitiveType", "allowsBitsPerElement", "(I)Z"⟩ : MethodName) prog_51_method_14_code 2 (some .boolean)] R0 #[(.ref a), (.int b)] (.int (1 : Int32))) (h154 : (0 : Int32) < b) (h162 : b < (32 : Int32) + (1 : Int32)) :
    Pays l Z h0 n0 x (Jvm.Cond.code x code maxLocals ret :: ws) room_1 #[(.int p1), (.int b)] (.int (1 : Int32)) := by
  refine MetFree.of_bodySF (plainFor_of_name pn_PrimitiveTypeAllowsBitsPerElementPinLaw) hisR ?_
  intro p e s m args below meth c s₁ Bd hml0 hP hK
  obtain ⟨rfl, hZ, hh⟩ := hP
  have hx := Bd.exec
  have hby := Bd.bytes
  have hml : c.maxLocals = 7 := hml0
  have hown : s.vm.findClass "com/example/cairnstore/cairnstore/store/PrimitiveTypeAllowsBitsPerElementPinLaw" = some m.cls := findClass_of_methodNamed Bd.named
  have X0 : Stand p l e room_1 s m #[(.int p1), (.int b)] below meth c s₁ [] 0 0 := Stand.of_body Bd
  have e0 : s₁.heap = h0 := by rw [← hh, Bd.state]; rfl
  have N0 := Fr.nil n0
  have pre0 : ∀ t, Steps p.tables e below (s₁.setTop (mkF m 0 #[.val (.int p1), .val (.int b), .unset, .unset, .unset, .unset, .unset] [])) t → Steps p.tables e below (s₁.setTop (entryFrame m #[(.int p1), (.int b)] maxLocals)) t := fun t k => castTop (ef_0 m p1 b) k
  obtain ⟨T1, X1, e1, st1⟩ := getS2 X0 hx hZ hown (host := "") (Or.inl (hw _ (List.mem_of_getElem? (i := 17) rfl))) Via.refl e0 S_INT (g := (mkF m 84 #[.val (.int p1), .val (.int b), .val (.int (4 : Int32)), .unset, .unset, .unset, .unset] [])) rfl (hb hby at_84)
  obtain ⟨cq2, kq2, q2a, q2b, q2c⟩ := isOf hZ e1 EX
  obtain ⟨_, _, ⟨T2, L2, k2, n2⟩, -, X2, ⟨Lc2, hQ2, l2, y2, z2⟩, st2⟩ := X1.virtualBack hx (y := (⟨"com/example/cairnstore/cairnstore/store/PrimitiveType", "allowsBitsPerElement", "(I)Z"⟩ : MethodName)) (z := (⟨"com/example/cairnstore/cairnstore/store/PrimitiveType", "allowsBitsPerElement", "(I)Z"⟩ : MethodName)) hown (mvT hZ (hw _ (List.mem_of_getElem? (i := 3) rfl))) (mvT hZ (hw _ (List.mem_of_getElem? (i := 4) rfl))) (notFace_of_selects (args := #[]) (mvT hZ (hw _ (List.mem_of_getElem? (i := 19) rfl)))) (mvT hZ (hw _ (List.mem_of_getElem? (i := 19) rfl))) (mvT hZ (hw _ (List.mem_of_getElem? (i := 5) rfl))) (by decide) (backOf (W := 0) (Q := PQ (.int (1 : Int32)) h0 n0) C1 hZ (hw _ (List.mem_of_getElem? (i := 7) rfl)) (hw _ (List.mem_of_getElem? (i := 1) rfl)) (by decide) (by decide)) q2a q2c (g := (mkF m 190 #[.val (.int p1), .val (.int b), .val (.int (4 : Int32)), .val (.ref a), .val (.int (32 : Int32)), .val (.int (1 : Int32)), .val (.int (1 : Int32))] [(.int b), (.ref a)])) rfl (by rw [hml]; rfl) (Steps.refl _) (argsL := [(.int b)]) (rest := []) (lenOf pd__I_Z rfl) rfl (by show 2 * 0 + _ ≤ _; exact Nat.le_of_eq rfl) (hb hby at_190) (fun _ _ => ⟨rfl, e1, (by decide : 0 + 0 ≤ _), (by decide : 0 + 0 ≤ _)⟩)
  dsimp only [Pt.U, Pt.locs, Pt.cells, Pt.slots] at X2 l2 y2 z2 st2 hQ2
  subst l2 y2 z2
  obtain ⟨rfl, Nq2, e2⟩ := hQ2
  have N2 := Fr.app N0 Nq2
  obtain ⟨fs, hr, hrun, hended, hW, hsame⟩ := X2.leave (v := some (.int (1 : Int32))) (fun h => by rw [Bd.returns] at h; cases h)
  refine ⟨_, _, pre0 _ ?_, hrun, hended, _, _, rfl, ?_, ⟨_, rfl⟩, hW, hsame.mono (by decide) (by decide)⟩
  · show Steps p.tables e below (s₁.setTop (mkF m 0 #[.val (.int p1), .val (.int b), .unset, .unset, .unset, .unset, .unset] [])) _
    refine XS.iloadN X0.here hx rfl (hb hby at_0) rfl ?_
    show Steps p.tables e below (s₁.setTop (mkF m 1 #[.val (.int p1), .val (.int b), .unset, .unset, .unset, .unset, .unset] [(.int p1)])) _
    refine XS.bipush X0.here hx rfl (hb hby at_1) ?_
    show Steps p.tables e below (s₁.setTop (mkF m 3 #[.val (.int p1), .val (.int b), .unset, .unset, .unset, .unset, .unset] [(.int (7 : Int32)), (.int p1)])) _
    refine XS.iand X0.here hx rfl (hb hby at_3) rfl ?_
    show Steps p.tables e below (s₁.setTop (mkF m 4 #[.val (.int p1), .val (.int b), .unset, .unset, .unset, .unset, .unset] [(.int (p1 &&& (7 : Int32)))])) _
    rw [hi]
    show Steps p.tables e below (s₁.setTop (mkF m 4 #[.val (.int p1), .val (.int b), .unset, .unset, .unset, .unset, .unset] [(.int (4 : Int32))])) _
    refine XS.istoreN X0.here hx rfl (hb hby at_4) rfl (l' := #[.val (.int p1), .val (.int b), .val (.int (4 : Int32)), .unset, .unset, .unset, .unset]) rfl ?_
    show Steps p.tables e below (s₁.setTop (mkF m 5 #[.val (.int p1), .val (.int b), .val (.int (4 : Int32)), .unset, .unset, .unset, .unset] [])) _
    refine XS.iloadN X0.here hx rfl (hb hby at_5) rfl ?_
    show Steps p.tables e below (s₁.setTop (mkF m 6 #[.val (.int p1), .val (.int b), .val (.int (4 : Int32)), .unset, .unset, .unset, .unset] [(.int (4 : Int32))])) _
    refine XS.ifYes X0.here hx rfl (pc0 := 6) (pc' := 22) rfl (hb hby at_6) rfl (by decide) (by decide) (by decide) ?_
    show Steps p.tables e below (s₁.setTop (mkF m 22 #[.val (.int p1), .val (.int b), .val (.int (4 : Int32)), .unset, .unset, .unset, .unset] [])) _
    refine XS.iloadN X0.here hx rfl (hb hby at_22) rfl ?_
    show Steps p.tables e below (s₁.setTop (mkF m 23 #[.val (.int p1), .val (.int b), .val (.int (4 : Int32)), .unset, .unset, .unset, .unset] [(.int (4 : Int32))])) _
    refine XS.iconst X0.here hx rfl (hb hby at_23) ?_
    show Steps p.tables e below (s₁.setTop (mkF m 24 #[.val (.int p1), .val (.int b), .val (.int (4 : Int32)), .unset, .unset, .unset, .unset] [(.int (1 : Int32)), (.int (4 : Int32))])) _
    refine XS.icmpYes X0.here hx rfl (pc0 := 24) (pc' := 41) rfl (hb hby at_24) rfl (by decide) (by decide) (by decide) ?_
    show Steps p.tables e below (s₁.setTop (mkF m 41 #[.val (.int p1), .val (.int b), .val (.int (4 : Int32)), .unset, .unset, .unset, .unset] [])) _
    refine XS.iloadN X0.here hx rfl (hb hby at_41) rfl ?_
    show Steps p.tables e below (s₁.setTop (mkF m 42 #[.val (.int p1), .val (.int b), .val (.int (4 : Int32)), .unset, .unset, .unset, .unset] [(.int (4 : Int32))])) _
    refine XS.iconst X0.here hx rfl (hb hby at_42) ?_
    show Steps p.tables e below (s₁.setTop (mkF m 43 #[.val (.int p1), .val (.int b), .val (.int (4 : Int32)), .unset, .unset, .unset, .unset] [(.int (2 : Int32)), (.int (4 : Int32))])) _
    refine XS.icmpYes X0.here hx rfl (pc0 := 43) (pc' := 60) rfl (hb hby at_43) rfl (by decide) (by decide) (by decide) ?_
    show Steps p.tables e below (s₁.setTop (mkF m 60 #[.val (.int p1), .val (.int b), .val (.int (4 : Int32)), .unset, .unset, .unset, .unset] [])) _
    refine XS.iloadN X0.here hx rfl (hb hby at_60) rfl ?_
    show Steps p.tables e below (s₁.setTop (mkF m 61 #[.val (.int p1), .val (.int b), .val (.int (4 : Int32)), .unset, .unset, .unset, .unset] [(.int (4 : Int32))])) _
    refine XS.iconst X0.here hx rfl (hb hby at_61) ?_
    show Steps p.tables e below (s₁.setTop (mkF m 62 #[.val (.int p1), .val (.int b), .val (.int (4 : Int32)), .unset, .unset, .unset, .unset] [(.int (3 : Int32)), (.int (4 : Int32))])) _
    refine XS.icmpYes X0.here hx rfl (pc0 := 62) (pc' := 79) rfl (hb hby at_62) rfl (by decide) (by decide) (by decide) ?_
    show Steps p.tables e below (s₁.setTop (mkF m 79 #[.val (.int p1), .val (.int b), .val (.int (4 : Int32)), .unset, .unset, .unset, .unset] [])) _
    refine XS.iloadN X0.here hx rfl (hb hby at_79) rfl ?_
    show Steps p.tables e below (s₁.setTop (mkF m 80 #[.val (.int p1), .val (.int b), .val (.int (4 : Int32)), .unset, .unset, .unset, .unset] [(.int (4 : Int32))])) _
    refine XS.iconst X0.here hx rfl (hb hby at_80) ?_
    show Steps p.tables e below (s₁.setTop (mkF m 81 #[.val (.int p1), .val (.int b), .val (.int (4 : Int32)), .unset, .unset, .unset, .unset] [(.int (4 : Int32)), (.int (4 : Int32))])) _
    refine XS.icmpNo X0.here hx rfl (hb hby at_81) rfl (by decide) ?_
    show Steps p.tables e below (s₁.setTop (mkF m 84 #[.val (.int p1), .val (.int b), .val (.int (4 : Int32)), .unset, .unset, .unset, .unset] [])) _
    refine st1 _ ?_
    show Steps p.tables e below (T1.setTop (mkF m 87 #[.val (.int p1), .val (.int b), .val (.int (4 : Int32)), .unset, .unset, .unset, .unset] [(.ref a)])) _
    refine XS.astoreN X1.here hx rfl (hb hby at_87) rfl rfl (l' := #[.val (.int p1), .val (.int b), .val (.int (4 : Int32)), .val (.ref a), .unset, .unset, .unset]) rfl ?_
    show Steps p.tables e below (T1.setTop (mkF m 88 #[.val (.int p1), .val (.int b), .val (.int (4 : Int32)), .val (.ref a), .unset, .unset, .unset] [])) _
    refine XS.bipush X1.here hx rfl (hb hby at_88) ?_
    show Steps p.tables e below (T1.setTop (mkF m 90 #[.val (.int p1), .val (.int b), .val (.int (4 : Int32)), .val (.ref a), .unset, .unset, .unset] [(.int (32 : Int32))])) _
    refine XS.istore X1.here hx rfl (hb hby at_90) rfl (l' := #[.val (.int p1), .val (.int b), .val (.int (4 : Int32)), .val (.ref a), .val (.int (32 : Int32)), .unset, .unset]) rfl ?_
    show Steps p.tables e below (T1.setTop (mkF m 92 #[.val (.int p1), .val (.int b), .val (.int (4 : Int32)), .val (.ref a), .val (.int (32 : Int32)), .unset, .unset] [])) _
    refine XS.iconst X1.here hx rfl (hb hby at_92) ?_
    show Steps p.tables e below (T1.setTop (mkF m 93 #[.val (.int p1), .val (.int b), .val (.int (4 : Int32)), .val (.ref a), .val (.int (32 : Int32)), .unset, .unset] [(.int (1 : Int32))])) _
    refine XS.istore X1.here hx rfl (hb hby at_93) rfl (l' := #[.val (.int p1), .val (.int b), .val (.int (4 : Int32)), .val (.ref a), .val (.int (32 : Int32)), .val (.int (1 : Int32)), .unset]) rfl ?_
    show Steps p.tables e below (T1.setTop (mkF m 95 #[.val (.int p1), .val (.int b), .val (.int (4 : Int32)), .val (.ref a), .val (.int (32 : Int32)), .val (.int (1 : Int32)), .unset] [])) _
    refine XS.goto X1.here hx rfl (pc0 := 95) (pc' := 148) rfl (hb hby at_95) (by decide) (by decide) ?_
    show Steps p.tables e below (T1.setTop (mkF m 148 #[.val (.int p1), .val (.int b), .val (.int (4 : Int32)), .val (.ref a), .val (.int (32 : Int32)), .val (.int (1 : Int32)), .unset] [])) _
    refine XS.iload X1.here hx rfl (hb hby at_148) rfl ?_
    show Steps p.tables e below (T1.setTop (mkF m 150 #[.val (.int p1), .val (.int b), .val (.int (4 : Int32)), .val (.ref a), .val (.int (32 : Int32)), .val (.int (1 : Int32)), .unset] [(.int (1 : Int32))])) _
    refine XS.ifNo X1.here hx rfl (hb hby at_150) rfl (by decide) ?_
    show Steps p.tables e below (T1.setTop (mkF m 153 #[.val (.int p1), .val (.int b), .val (.int (4 : Int32)), .val (.ref a), .val (.int (32 : Int32)), .val (.int (1 : Int32)), .unset] [])) _
    refine XS.iloadN X1.here hx rfl (hb hby at_153) rfl ?_
    show Steps p.tables e below (T1.setTop (mkF m 154 #[.val (.int p1), .val (.int b), .val (.int (4 : Int32)), .val (.ref a), .val (.int (32 : Int32)), .val (.int (1 : Int32)), .unset] [(.int b)])) _
    refine XS.ifNo X1.here hx rfl (hb hby at_154) rfl ((if0 _ _).trans (tlt h154).2.2.2) ?_
    show Steps p.tables e below (T1.setTop (mkF m 157 #[.val (.int p1), .val (.int b), .val (.int (4 : Int32)), .val (.ref a), .val (.int (32 : Int32)), .val (.int (1 : Int32)), .unset] [])) _
    refine XS.iloadN X1.here hx rfl (hb hby at_157) rfl ?_
    show Steps p.tables e below (T1.setTop (mkF m 158 #[.val (.int p1), .val (.int b), .val (.int (4 : Int32)), .val (.ref a), .val (.int (32 : Int32)), .val (.int (1 : Int32)), .unset] [(.int b)])) _
    refine XS.iload X1.here hx rfl (hb hby at_158) rfl ?_
    show Steps p.tables e below (T1.setTop (mkF m 160 #[.val (.int p1), .val (.int b), .val (.int (4 : Int32)), .val (.ref a), .val (.int (32 : Int32)), .val (.int (1 : Int32)), .unset] [(.int (32 : Int32)), (.int b)])) _
    refine XS.iconst X1.here hx rfl (hb hby at_160) ?_
    show Steps p.tables e below (T1.setTop (mkF m 161 #[.val (.int p1), .val (.int b), .val (.int (4 : Int32)), .val (.ref a), .val (.int (32 : Int32)), .val (.int (1 : Int32)), .unset] [(.int (1 : Int32)), (.int (32 : Int32)), (.int b)])) _
    refine XS.iadd X1.here hx rfl (hb hby at_161) rfl ?_
    show Steps p.tables e below (T1.setTop (mkF m 162 #[.val (.int p1), .val (.int b), .val (.int (4 : Int32)), .val (.ref a), .val (.int (32 : Int32)), .val (.int (1 : Int32)), .unset] [(.int ((32 : Int32) + (1 : Int32))), (.int b)])) _
    refine XS.icmpNo X1.here hx rfl (hb hby at_162) rfl (tlt h162).2.1 ?_
    show Steps p.tables e below (T1.setTop (mkF m 165 #[.val (.int p1), .val (.int b), .val (.int (4 : Int32)), .val (.ref a), .val (.int (32 : Int32)), .val (.int (1 : Int32)), .unset] [])) _
    refine XS.iconst X1.here hx rfl (hb hby at_165) ?_
    show Steps p.tables e below (T1.setTop (mkF m 166 #[.val (.int p1), .val (.int b), .val (.int (4 : Int32)), .val (.ref a), .val (.int (32 : Int32)), .val (.int (1 : Int32)), .unset] [(.int (1 : Int32))])) _
    refine XS.goto X1.here hx rfl (pc0 := 166) (pc' := 170) rfl (hb hby at_166) (by decide) (by decide) ?_
    show Steps p.tables e below (T1.setTop (mkF m 170 #[.val (.int p1), .val (.int b), .val (.int (4 : Int32)), .val (.ref a), .val (.int (32 : Int32)), .val (.int (1 : Int32)), .unset] [(.int (1 : Int32))])) _
    refine XS.istore X1.here hx rfl (hb hby at_170) rfl (l' := #[.val (.int p1), .val (.int b), .val (.int (4 : Int32)), .val (.ref a), .val (.int (32 : Int32)), .val (.int (1 : Int32)), .val (.int (1 : Int32))]) rfl ?_
    show Steps p.tables e below (T1.setTop (mkF m 172 #[.val (.int p1), .val (.int b), .val (.int (4 : Int32)), .val (.ref a), .val (.int (32 : Int32)), .val (.int (1 : Int32)), .val (.int (1 : Int32))] [])) _
    refine XS.goto X1.here hx rfl (pc0 := 172) (pc' := 188) rfl (hb hby at_172) (by decide) (by decide) ?_
    show Steps p.tables e below (T1.setTop (mkF m 188 #[.val (.int p1), .val (.int b), .val (.int (4 : Int32)), .val (.ref a), .val (.int (32 : Int32)), .val (.int (1 : Int32)), .val (.int (1 : Int32))] [])) _
    refine XS.aloadN X1.here hx rfl (hb hby at_188) rfl rfl ?_
    show Steps p.tables e below (T1.setTop (mkF m 189 #[.val (.int p1), .val (.int b), .val (.int (4 : Int32)), .val (.ref a), .val (.int (32 : Int32)), .val (.int (1 : Int32)), .val (.int (1 : Int32))] [(.ref a)])) _
    refine XS.iloadN X1.here hx rfl (hb hby at_189) rfl ?_
    show Steps p.tables e below (T1.setTop (mkF m 190 #[.val (.int p1), .val (.int b), .val (.int (4 : Int32)), .val (.ref a), .val (.int (32 : Int32)), .val (.int (1 : Int32)), .val (.int (1 : Int32))] [(.int b), (.ref a)])) _
    refine st2.trans ?_
    show Steps p.tables e below (T2.setTop (mkF m 193 #[.val (.int p1), .val (.int b), .val (.int (4 : Int32)), .val (.ref a), .val (.int (32 : Int32)), .val (.int (1 : Int32)), .val (.int (1 : Int32))] [(.int (1 : Int32))])) _
    refine XS.iload X2.here hx rfl (hb hby at_193) rfl ?_
    show Steps p.tables e below (T2.setTop (mkF m 195 #[.val (.int p1), .val (.int b), .val (.int (4 : Int32)), .val (.ref a), .val (.int (32 : Int32)), .val (.int (1 : Int32)), .val (.int (1 : Int32))] [(.int (1 : Int32)), (.int (1 : Int32))])) _
    refine XS.icmpNo X2.here hx rfl (hb hby at_195) rfl (by decide) ?_
    show Steps p.tables e below (T2.setTop (mkF m 198 #[.val (.int p1), .val (.int b), .val (.int (4 : Int32)), .val (.ref a), .val (.int (32 : Int32)), .val (.int (1 : Int32)), .val (.int (1 : Int32))] [])) _
    refine XS.iconst X2.here hx rfl (hb hby at_198) ?_
    show Steps p.tables e below (T2.setTop (mkF m 199 #[.val (.int p1), .val (.int b), .val (.int (4 : Int32)), .val (.ref a), .val (.int (32 : Int32)), .val (.int (1 : Int32)), .val (.int (1 : Int32))] [(.int (1 : Int32))])) _
    refine XS.goto X2.here hx rfl (pc0 := 199) (pc' := 203) rfl (hb hby at_199) (by decide) (by decide) ?_
    show Steps p.tables e below (T2.setTop (mkF m 203 #[.val (.int p1), .val (.int b), .val (.int (4 : Int32)), .val (.ref a), .val (.int (32 : Int32)), .val (.int (1 : Int32)), .val (.int (1 : Int32))] [(.int (1 : Int32))])) _
    exact retN X2 hx (t := .boolean) Bd.returns (by simp) (hb hby at_203) hr
  · show PQ (.int (1 : Int32)) h0 n0 _ T2.heap _
    exact ⟨rfl, N2, e2⟩

set_option maxRecDepth 65536 in
set_option maxHeartbeats 40000000 in
theorem law_5_ne (l : Launch) (Z : State) (a0 : Array Value) (hw : ∀ d ∈ tables_1, d.before a0 Z = true) (ws : List Jvm.Cond) (p1 b : Int32) (a : Addr) (h0 : Heap) (n0 : Nat) (Z0 : n0 ≤ h0.size) (hi : p1 &&& (7 : Int32) = (5 : Int32)) (S_FLOAT : Sta Z h0 "com/example/cairnstore/cairnstore/store/PrimitiveType" "FLOAT" "Lcom/example/cairnstore/cairnstore/store/PrimitiveType;" (.ref a)) (EX : Exa Z h0 a "com/example/cairnstore/cairnstore/store/PrimitiveType$6") (C1 : Pays l Z h0 n0 (⟨"com/example/cairnstore/cairnstore/store/PrimitiveType", "allowsBitsPerElement", "(I)Z"⟩ : MethodName) [Jvm.Cond.code (⟨"com/example/cairnstore/cairnstore/store/PrimitiveType", "allowsBitsPerElement", "(I)Z"⟩ : MethodName) prog_51_method_14_code 2 (some .boolean)] R0 #[(.ref a), (.int b)] (.int (0 : Int32))) (h178 : ¬ (b = (32 : Int32))) :
    Pays l Z h0 n0 x (Jvm.Cond.code x code maxLocals ret :: ws) room_1 #[(.int p1), (.int b)] (.int (1 : Int32)) := by
  refine MetFree.of_bodySF (plainFor_of_name pn_PrimitiveTypeAllowsBitsPerElementPinLaw) hisR ?_
  intro p e s m args below meth c s₁ Bd hml0 hP hK
  obtain ⟨rfl, hZ, hh⟩ := hP
  have hx := Bd.exec
  have hby := Bd.bytes
  have hml : c.maxLocals = 7 := hml0
  have hown : s.vm.findClass "com/example/cairnstore/cairnstore/store/PrimitiveTypeAllowsBitsPerElementPinLaw" = some m.cls := findClass_of_methodNamed Bd.named
  have X0 : Stand p l e room_1 s m #[(.int p1), (.int b)] below meth c s₁ [] 0 0 := Stand.of_body Bd
  have e0 : s₁.heap = h0 := by rw [← hh, Bd.state]; rfl
  have N0 := Fr.nil n0
  have pre0 : ∀ t, Steps p.tables e below (s₁.setTop (mkF m 0 #[.val (.int p1), .val (.int b), .unset, .unset, .unset, .unset, .unset] [])) t → Steps p.tables e below (s₁.setTop (entryFrame m #[(.int p1), (.int b)] maxLocals)) t := fun t k => castTop (ef_0 m p1 b) k
  obtain ⟨T1, X1, e1, st1⟩ := getS2 X0 hx hZ hown (host := "") (Or.inl (hw _ (List.mem_of_getElem? (i := 22) rfl))) Via.refl e0 S_FLOAT (g := (mkF m 103 #[.val (.int p1), .val (.int b), .val (.int (5 : Int32)), .unset, .unset, .unset, .unset] [])) rfl (hb hby at_103)
  obtain ⟨cq2, kq2, q2a, q2b, q2c⟩ := isOf hZ e1 EX
  obtain ⟨_, _, ⟨T2, L2, k2, n2⟩, -, X2, ⟨Lc2, hQ2, l2, y2, z2⟩, st2⟩ := X1.virtualBack hx (y := (⟨"com/example/cairnstore/cairnstore/store/PrimitiveType", "allowsBitsPerElement", "(I)Z"⟩ : MethodName)) (z := (⟨"com/example/cairnstore/cairnstore/store/PrimitiveType", "allowsBitsPerElement", "(I)Z"⟩ : MethodName)) hown (mvT hZ (hw _ (List.mem_of_getElem? (i := 3) rfl))) (mvT hZ (hw _ (List.mem_of_getElem? (i := 4) rfl))) (notFace_of_selects (args := #[]) (mvT hZ (hw _ (List.mem_of_getElem? (i := 24) rfl)))) (mvT hZ (hw _ (List.mem_of_getElem? (i := 24) rfl))) (mvT hZ (hw _ (List.mem_of_getElem? (i := 5) rfl))) (by decide) (backOf (W := 0) (Q := PQ (.int (0 : Int32)) h0 n0) C1 hZ (hw _ (List.mem_of_getElem? (i := 7) rfl)) (hw _ (List.mem_of_getElem? (i := 1) rfl)) (by decide) (by decide)) q2a q2c (g := (mkF m 190 #[.val (.int p1), .val (.int b), .val (.int (5 : Int32)), .val (.ref a), .val (.int (32 : Int32)), .val (.int (0 : Int32)), .val (.int (0 : Int32))] [(.int b), (.ref a)])) rfl (by rw [hml]; rfl) (Steps.refl _) (argsL := [(.int b)]) (rest := []) (lenOf pd__I_Z rfl) rfl (by show 2 * 0 + _ ≤ _; exact Nat.le_of_eq rfl) (hb hby at_190) (fun _ _ => ⟨rfl, e1, (by decide : 0 + 0 ≤ _), (by decide : 0 + 0 ≤ _)⟩)
  dsimp only [Pt.U, Pt.locs, Pt.cells, Pt.slots] at X2 l2 y2 z2 st2 hQ2
  subst l2 y2 z2
  obtain ⟨rfl, Nq2, e2⟩ := hQ2
  have N2 := Fr.app N0 Nq2
  obtain ⟨fs, hr, hrun, hended, hW, hsame⟩ := X2.leave (v := some (.int (1 : Int32))) (fun h => by rw [Bd.returns] at h; cases h)
  refine ⟨_, _, pre0 _ ?_, hrun, hended, _, _, rfl, ?_, ⟨_, rfl⟩, hW, hsame.mono (by decide) (by decide)⟩
  · show Steps p.tables e below (s₁.setTop (mkF m 0 #[.val (.int p1), .val (.int b), .unset, .unset, .unset, .unset, .unset] [])) _
    refine XS.iloadN X0.here hx rfl (hb hby at_0) rfl ?_
    show Steps p.tables e below (s₁.setTop (mkF m 1 #[.val (.int p1), .val (.int b), .unset, .unset, .unset, .unset, .unset] [(.int p1)])) _
    refine XS.bipush X0.here hx rfl (hb hby at_1) ?_
    show Steps p.tables e below (s₁.setTop (mkF m 3 #[.val (.int p1), .val (.int b), .unset, .unset, .unset, .unset, .unset] [(.int (7 : Int32)), (.int p1)])) _
    refine XS.iand X0.here hx rfl (hb hby at_3) rfl ?_
    show Steps p.tables e below (s₁.setTop (mkF m 4 #[.val (.int p1), .val (.int b), .unset, .unset, .unset, .unset, .unset] [(.int (p1 &&& (7 : Int32)))])) _
    rw [hi]
    show Steps p.tables e below (s₁.setTop (mkF m 4 #[.val (.int p1), .val (.int b), .unset, .unset, .unset, .unset, .unset] [(.int (5 : Int32))])) _
    refine XS.istoreN X0.here hx rfl (hb hby at_4) rfl (l' := #[.val (.int p1), .val (.int b), .val (.int (5 : Int32)), .unset, .unset, .unset, .unset]) rfl ?_
    show Steps p.tables e below (s₁.setTop (mkF m 5 #[.val (.int p1), .val (.int b), .val (.int (5 : Int32)), .unset, .unset, .unset, .unset] [])) _
    refine XS.iloadN X0.here hx rfl (hb hby at_5) rfl ?_
    show Steps p.tables e below (s₁.setTop (mkF m 6 #[.val (.int p1), .val (.int b), .val (.int (5 : Int32)), .unset, .unset, .unset, .unset] [(.int (5 : Int32))])) _
    refine XS.ifYes X0.here hx rfl (pc0 := 6) (pc' := 22) rfl (hb hby at_6) rfl (by decide) (by decide) (by decide) ?_
    show Steps p.tables e below (s₁.setTop (mkF m 22 #[.val (.int p1), .val (.int b), .val (.int (5 : Int32)), .unset, .unset, .unset, .unset] [])) _
    refine XS.iloadN X0.here hx rfl (hb hby at_22) rfl ?_
    show Steps p.tables e below (s₁.setTop (mkF m 23 #[.val (.int p1), .val (.int b), .val (.int (5 : Int32)), .unset, .unset, .unset, .unset] [(.int (5 : Int32))])) _
    refine XS.iconst X0.here hx rfl (hb hby at_23) ?_
    show Steps p.tables e below (s₁.setTop (mkF m 24 #[.val (.int p1), .val (.int b), .val (.int (5 : Int32)), .unset, .unset, .unset, .unset] [(.int (1 : Int32)), (.int (5 : Int32))])) _
    refine XS.icmpYes X0.here hx rfl (pc0 := 24) (pc' := 41) rfl (hb hby at_24) rfl (by decide) (by decide) (by decide) ?_
    show Steps p.tables e below (s₁.setTop (mkF m 41 #[.val (.int p1), .val (.int b), .val (.int (5 : Int32)), .unset, .unset, .unset, .unset] [])) _
    refine XS.iloadN X0.here hx rfl (hb hby at_41) rfl ?_
    show Steps p.tables e below (s₁.setTop (mkF m 42 #[.val (.int p1), .val (.int b), .val (.int (5 : Int32)), .unset, .unset, .unset, .unset] [(.int (5 : Int32))])) _
    refine XS.iconst X0.here hx rfl (hb hby at_42) ?_
    show Steps p.tables e below (s₁.setTop (mkF m 43 #[.val (.int p1), .val (.int b), .val (.int (5 : Int32)), .unset, .unset, .unset, .unset] [(.int (2 : Int32)), (.int (5 : Int32))])) _
    refine XS.icmpYes X0.here hx rfl (pc0 := 43) (pc' := 60) rfl (hb hby at_43) rfl (by decide) (by decide) (by decide) ?_
    show Steps p.tables e below (s₁.setTop (mkF m 60 #[.val (.int p1), .val (.int b), .val (.int (5 : Int32)), .unset, .unset, .unset, .unset] [])) _
    refine XS.iloadN X0.here hx rfl (hb hby at_60) rfl ?_
    show Steps p.tables e below (s₁.setTop (mkF m 61 #[.val (.int p1), .val (.int b), .val (.int (5 : Int32)), .unset, .unset, .unset, .unset] [(.int (5 : Int32))])) _
    refine XS.iconst X0.here hx rfl (hb hby at_61) ?_
    show Steps p.tables e below (s₁.setTop (mkF m 62 #[.val (.int p1), .val (.int b), .val (.int (5 : Int32)), .unset, .unset, .unset, .unset] [(.int (3 : Int32)), (.int (5 : Int32))])) _
    refine XS.icmpYes X0.here hx rfl (pc0 := 62) (pc' := 79) rfl (hb hby at_62) rfl (by decide) (by decide) (by decide) ?_
    show Steps p.tables e below (s₁.setTop (mkF m 79 #[.val (.int p1), .val (.int b), .val (.int (5 : Int32)), .unset, .unset, .unset, .unset] [])) _
    refine XS.iloadN X0.here hx rfl (hb hby at_79) rfl ?_
    show Steps p.tables e below (s₁.setTop (mkF m 80 #[.val (.int p1), .val (.int b), .val (.int (5 : Int32)), .unset, .unset, .unset, .unset] [(.int (5 : Int32))])) _
    refine XS.iconst X0.here hx rfl (hb hby at_80) ?_
    show Steps p.tables e below (s₁.setTop (mkF m 81 #[.val (.int p1), .val (.int b), .val (.int (5 : Int32)), .unset, .unset, .unset, .unset] [(.int (4 : Int32)), (.int (5 : Int32))])) _
    refine XS.icmpYes X0.here hx rfl (pc0 := 81) (pc' := 98) rfl (hb hby at_81) rfl (by decide) (by decide) (by decide) ?_
    show Steps p.tables e below (s₁.setTop (mkF m 98 #[.val (.int p1), .val (.int b), .val (.int (5 : Int32)), .unset, .unset, .unset, .unset] [])) _
    refine XS.iloadN X0.here hx rfl (hb hby at_98) rfl ?_
    show Steps p.tables e below (s₁.setTop (mkF m 99 #[.val (.int p1), .val (.int b), .val (.int (5 : Int32)), .unset, .unset, .unset, .unset] [(.int (5 : Int32))])) _
    refine XS.iconst X0.here hx rfl (hb hby at_99) ?_
    show Steps p.tables e below (s₁.setTop (mkF m 100 #[.val (.int p1), .val (.int b), .val (.int (5 : Int32)), .unset, .unset, .unset, .unset] [(.int (5 : Int32)), (.int (5 : Int32))])) _
    refine XS.icmpNo X0.here hx rfl (hb hby at_100) rfl (by decide) ?_
    show Steps p.tables e below (s₁.setTop (mkF m 103 #[.val (.int p1), .val (.int b), .val (.int (5 : Int32)), .unset, .unset, .unset, .unset] [])) _
    refine st1 _ ?_
    show Steps p.tables e below (T1.setTop (mkF m 106 #[.val (.int p1), .val (.int b), .val (.int (5 : Int32)), .unset, .unset, .unset, .unset] [(.ref a)])) _
    refine XS.astoreN X1.here hx rfl (hb hby at_106) rfl rfl (l' := #[.val (.int p1), .val (.int b), .val (.int (5 : Int32)), .val (.ref a), .unset, .unset, .unset]) rfl ?_
    show Steps p.tables e below (T1.setTop (mkF m 107 #[.val (.int p1), .val (.int b), .val (.int (5 : Int32)), .val (.ref a), .unset, .unset, .unset] [])) _
    refine XS.bipush X1.here hx rfl (hb hby at_107) ?_
    show Steps p.tables e below (T1.setTop (mkF m 109 #[.val (.int p1), .val (.int b), .val (.int (5 : Int32)), .val (.ref a), .unset, .unset, .unset] [(.int (32 : Int32))])) _
    refine XS.istore X1.here hx rfl (hb hby at_109) rfl (l' := #[.val (.int p1), .val (.int b), .val (.int (5 : Int32)), .val (.ref a), .val (.int (32 : Int32)), .unset, .unset]) rfl ?_
    show Steps p.tables e below (T1.setTop (mkF m 111 #[.val (.int p1), .val (.int b), .val (.int (5 : Int32)), .val (.ref a), .val (.int (32 : Int32)), .unset, .unset] [])) _
    refine XS.iconst X1.here hx rfl (hb hby at_111) ?_
    show Steps p.tables e below (T1.setTop (mkF m 112 #[.val (.int p1), .val (.int b), .val (.int (5 : Int32)), .val (.ref a), .val (.int (32 : Int32)), .unset, .unset] [(.int (0 : Int32))])) _
    refine XS.istore X1.here hx rfl (hb hby at_112) rfl (l' := #[.val (.int p1), .val (.int b), .val (.int (5 : Int32)), .val (.ref a), .val (.int (32 : Int32)), .val (.int (0 : Int32)), .unset]) rfl ?_
    show Steps p.tables e below (T1.setTop (mkF m 114 #[.val (.int p1), .val (.int b), .val (.int (5 : Int32)), .val (.ref a), .val (.int (32 : Int32)), .val (.int (0 : Int32)), .unset] [])) _
    refine XS.goto X1.here hx rfl (pc0 := 114) (pc' := 148) rfl (hb hby at_114) (by decide) (by decide) ?_
    show Steps p.tables e below (T1.setTop (mkF m 148 #[.val (.int p1), .val (.int b), .val (.int (5 : Int32)), .val (.ref a), .val (.int (32 : Int32)), .val (.int (0 : Int32)), .unset] [])) _
    refine XS.iload X1.here hx rfl (hb hby at_148) rfl ?_
    show Steps p.tables e below (T1.setTop (mkF m 150 #[.val (.int p1), .val (.int b), .val (.int (5 : Int32)), .val (.ref a), .val (.int (32 : Int32)), .val (.int (0 : Int32)), .unset] [(.int (0 : Int32))])) _
    refine XS.ifYes X1.here hx rfl (pc0 := 150) (pc' := 175) rfl (hb hby at_150) rfl (by decide) (by decide) (by decide) ?_
    show Steps p.tables e below (T1.setTop (mkF m 175 #[.val (.int p1), .val (.int b), .val (.int (5 : Int32)), .val (.ref a), .val (.int (32 : Int32)), .val (.int (0 : Int32)), .unset] [])) _
    refine XS.iloadN X1.here hx rfl (hb hby at_175) rfl ?_
    show Steps p.tables e below (T1.setTop (mkF m 176 #[.val (.int p1), .val (.int b), .val (.int (5 : Int32)), .val (.ref a), .val (.int (32 : Int32)), .val (.int (0 : Int32)), .unset] [(.int b)])) _
    refine XS.iload X1.here hx rfl (hb hby at_176) rfl ?_
    show Steps p.tables e below (T1.setTop (mkF m 178 #[.val (.int p1), .val (.int b), .val (.int (5 : Int32)), .val (.ref a), .val (.int (32 : Int32)), .val (.int (0 : Int32)), .unset] [(.int (32 : Int32)), (.int b)])) _
    refine XS.icmpYes X1.here hx rfl (pc0 := 178) (pc' := 185) rfl (hb hby at_178) rfl (feq h178).2 (by decide) (by decide) ?_
    show Steps p.tables e below (T1.setTop (mkF m 185 #[.val (.int p1), .val (.int b), .val (.int (5 : Int32)), .val (.ref a), .val (.int (32 : Int32)), .val (.int (0 : Int32)), .unset] [])) _
    refine XS.iconst X1.here hx rfl (hb hby at_185) ?_
    show Steps p.tables e below (T1.setTop (mkF m 186 #[.val (.int p1), .val (.int b), .val (.int (5 : Int32)), .val (.ref a), .val (.int (32 : Int32)), .val (.int (0 : Int32)), .unset] [(.int (0 : Int32))])) _
    refine XS.istore X1.here hx rfl (hb hby at_186) rfl (l' := #[.val (.int p1), .val (.int b), .val (.int (5 : Int32)), .val (.ref a), .val (.int (32 : Int32)), .val (.int (0 : Int32)), .val (.int (0 : Int32))]) rfl ?_
    show Steps p.tables e below (T1.setTop (mkF m 188 #[.val (.int p1), .val (.int b), .val (.int (5 : Int32)), .val (.ref a), .val (.int (32 : Int32)), .val (.int (0 : Int32)), .val (.int (0 : Int32))] [])) _
    refine XS.aloadN X1.here hx rfl (hb hby at_188) rfl rfl ?_
    show Steps p.tables e below (T1.setTop (mkF m 189 #[.val (.int p1), .val (.int b), .val (.int (5 : Int32)), .val (.ref a), .val (.int (32 : Int32)), .val (.int (0 : Int32)), .val (.int (0 : Int32))] [(.ref a)])) _
    refine XS.iloadN X1.here hx rfl (hb hby at_189) rfl ?_
    show Steps p.tables e below (T1.setTop (mkF m 190 #[.val (.int p1), .val (.int b), .val (.int (5 : Int32)), .val (.ref a), .val (.int (32 : Int32)), .val (.int (0 : Int32)), .val (.int (0 : Int32))] [(.int b), (.ref a)])) _
    refine st2.trans ?_
    show Steps p.tables e below (T2.setTop (mkF m 193 #[.val (.int p1), .val (.int b), .val (.int (5 : Int32)), .val (.ref a), .val (.int (32 : Int32)), .val (.int (0 : Int32)), .val (.int (0 : Int32))] [(.int (0 : Int32))])) _
    refine XS.iload X2.here hx rfl (hb hby at_193) rfl ?_
    show Steps p.tables e below (T2.setTop (mkF m 195 #[.val (.int p1), .val (.int b), .val (.int (5 : Int32)), .val (.ref a), .val (.int (32 : Int32)), .val (.int (0 : Int32)), .val (.int (0 : Int32))] [(.int (0 : Int32)), (.int (0 : Int32))])) _
    refine XS.icmpNo X2.here hx rfl (hb hby at_195) rfl (by decide) ?_
    show Steps p.tables e below (T2.setTop (mkF m 198 #[.val (.int p1), .val (.int b), .val (.int (5 : Int32)), .val (.ref a), .val (.int (32 : Int32)), .val (.int (0 : Int32)), .val (.int (0 : Int32))] [])) _
    refine XS.iconst X2.here hx rfl (hb hby at_198) ?_
    show Steps p.tables e below (T2.setTop (mkF m 199 #[.val (.int p1), .val (.int b), .val (.int (5 : Int32)), .val (.ref a), .val (.int (32 : Int32)), .val (.int (0 : Int32)), .val (.int (0 : Int32))] [(.int (1 : Int32))])) _
    refine XS.goto X2.here hx rfl (pc0 := 199) (pc' := 203) rfl (hb hby at_199) (by decide) (by decide) ?_
    show Steps p.tables e below (T2.setTop (mkF m 203 #[.val (.int p1), .val (.int b), .val (.int (5 : Int32)), .val (.ref a), .val (.int (32 : Int32)), .val (.int (0 : Int32)), .val (.int (0 : Int32))] [(.int (1 : Int32))])) _
    exact retN X2 hx (t := .boolean) Bd.returns (by simp) (hb hby at_203) hr
  · show PQ (.int (1 : Int32)) h0 n0 _ T2.heap _
    exact ⟨rfl, N2, e2⟩

set_option maxRecDepth 65536 in
set_option maxHeartbeats 40000000 in
theorem law_5_eq (l : Launch) (Z : State) (a0 : Array Value) (hw : ∀ d ∈ tables_1, d.before a0 Z = true) (ws : List Jvm.Cond) (p1 b : Int32) (a : Addr) (h0 : Heap) (n0 : Nat) (Z0 : n0 ≤ h0.size) (hi : p1 &&& (7 : Int32) = (5 : Int32)) (S_FLOAT : Sta Z h0 "com/example/cairnstore/cairnstore/store/PrimitiveType" "FLOAT" "Lcom/example/cairnstore/cairnstore/store/PrimitiveType;" (.ref a)) (EX : Exa Z h0 a "com/example/cairnstore/cairnstore/store/PrimitiveType$6") (C1 : Pays l Z h0 n0 (⟨"com/example/cairnstore/cairnstore/store/PrimitiveType", "allowsBitsPerElement", "(I)Z"⟩ : MethodName) [Jvm.Cond.code (⟨"com/example/cairnstore/cairnstore/store/PrimitiveType", "allowsBitsPerElement", "(I)Z"⟩ : MethodName) prog_51_method_14_code 2 (some .boolean)] R0 #[(.ref a), (.int b)] (.int (1 : Int32))) (h178 : b = (32 : Int32)) :
    Pays l Z h0 n0 x (Jvm.Cond.code x code maxLocals ret :: ws) room_1 #[(.int p1), (.int b)] (.int (1 : Int32)) := by
  refine MetFree.of_bodySF (plainFor_of_name pn_PrimitiveTypeAllowsBitsPerElementPinLaw) hisR ?_
  intro p e s m args below meth c s₁ Bd hml0 hP hK
  obtain ⟨rfl, hZ, hh⟩ := hP
  have hx := Bd.exec
  have hby := Bd.bytes
  have hml : c.maxLocals = 7 := hml0
  have hown : s.vm.findClass "com/example/cairnstore/cairnstore/store/PrimitiveTypeAllowsBitsPerElementPinLaw" = some m.cls := findClass_of_methodNamed Bd.named
  have X0 : Stand p l e room_1 s m #[(.int p1), (.int b)] below meth c s₁ [] 0 0 := Stand.of_body Bd
  have e0 : s₁.heap = h0 := by rw [← hh, Bd.state]; rfl
  have N0 := Fr.nil n0
  have pre0 : ∀ t, Steps p.tables e below (s₁.setTop (mkF m 0 #[.val (.int p1), .val (.int b), .unset, .unset, .unset, .unset, .unset] [])) t → Steps p.tables e below (s₁.setTop (entryFrame m #[(.int p1), (.int b)] maxLocals)) t := fun t k => castTop (ef_0 m p1 b) k
  obtain ⟨T1, X1, e1, st1⟩ := getS2 X0 hx hZ hown (host := "") (Or.inl (hw _ (List.mem_of_getElem? (i := 22) rfl))) Via.refl e0 S_FLOAT (g := (mkF m 103 #[.val (.int p1), .val (.int b), .val (.int (5 : Int32)), .unset, .unset, .unset, .unset] [])) rfl (hb hby at_103)
  obtain ⟨cq2, kq2, q2a, q2b, q2c⟩ := isOf hZ e1 EX
  obtain ⟨_, _, ⟨T2, L2, k2, n2⟩, -, X2, ⟨Lc2, hQ2, l2, y2, z2⟩, st2⟩ := X1.virtualBack hx (y := (⟨"com/example/cairnstore/cairnstore/store/PrimitiveType", "allowsBitsPerElement", "(I)Z"⟩ : MethodName)) (z := (⟨"com/example/cairnstore/cairnstore/store/PrimitiveType", "allowsBitsPerElement", "(I)Z"⟩ : MethodName)) hown (mvT hZ (hw _ (List.mem_of_getElem? (i := 3) rfl))) (mvT hZ (hw _ (List.mem_of_getElem? (i := 4) rfl))) (notFace_of_selects (args := #[]) (mvT hZ (hw _ (List.mem_of_getElem? (i := 24) rfl)))) (mvT hZ (hw _ (List.mem_of_getElem? (i := 24) rfl))) (mvT hZ (hw _ (List.mem_of_getElem? (i := 5) rfl))) (by decide) (backOf (W := 0) (Q := PQ (.int (1 : Int32)) h0 n0) C1 hZ (hw _ (List.mem_of_getElem? (i := 7) rfl)) (hw _ (List.mem_of_getElem? (i := 1) rfl)) (by decide) (by decide)) q2a q2c (g := (mkF m 190 #[.val (.int p1), .val (.int b), .val (.int (5 : Int32)), .val (.ref a), .val (.int (32 : Int32)), .val (.int (0 : Int32)), .val (.int (1 : Int32))] [(.int b), (.ref a)])) rfl (by rw [hml]; rfl) (Steps.refl _) (argsL := [(.int b)]) (rest := []) (lenOf pd__I_Z rfl) rfl (by show 2 * 0 + _ ≤ _; exact Nat.le_of_eq rfl) (hb hby at_190) (fun _ _ => ⟨rfl, e1, (by decide : 0 + 0 ≤ _), (by decide : 0 + 0 ≤ _)⟩)
  dsimp only [Pt.U, Pt.locs, Pt.cells, Pt.slots] at X2 l2 y2 z2 st2 hQ2
  subst l2 y2 z2
  obtain ⟨rfl, Nq2, e2⟩ := hQ2
  have N2 := Fr.app N0 Nq2
  obtain ⟨fs, hr, hrun, hended, hW, hsame⟩ := X2.leave (v := some (.int (1 : Int32))) (fun h => by rw [Bd.returns] at h; cases h)
  refine ⟨_, _, pre0 _ ?_, hrun, hended, _, _, rfl, ?_, ⟨_, rfl⟩, hW, hsame.mono (by decide) (by decide)⟩
  · show Steps p.tables e below (s₁.setTop (mkF m 0 #[.val (.int p1), .val (.int b), .unset, .unset, .unset, .unset, .unset] [])) _
    refine XS.iloadN X0.here hx rfl (hb hby at_0) rfl ?_
    show Steps p.tables e below (s₁.setTop (mkF m 1 #[.val (.int p1), .val (.int b), .unset, .unset, .unset, .unset, .unset] [(.int p1)])) _
    refine XS.bipush X0.here hx rfl (hb hby at_1) ?_
    show Steps p.tables e below (s₁.setTop (mkF m 3 #[.val (.int p1), .val (.int b), .unset, .unset, .unset, .unset, .unset] [(.int (7 : Int32)), (.int p1)])) _
    refine XS.iand X0.here hx rfl (hb hby at_3) rfl ?_
    show Steps p.tables e below (s₁.setTop (mkF m 4 #[.val (.int p1), .val (.int b), .unset, .unset, .unset, .unset, .unset] [(.int (p1 &&& (7 : Int32)))])) _
    rw [hi]
    show Steps p.tables e below (s₁.setTop (mkF m 4 #[.val (.int p1), .val (.int b), .unset, .unset, .unset, .unset, .unset] [(.int (5 : Int32))])) _
    refine XS.istoreN X0.here hx rfl (hb hby at_4) rfl (l' := #[.val (.int p1), .val (.int b), .val (.int (5 : Int32)), .unset, .unset, .unset, .unset]) rfl ?_
    show Steps p.tables e below (s₁.setTop (mkF m 5 #[.val (.int p1), .val (.int b), .val (.int (5 : Int32)), .unset, .unset, .unset, .unset] [])) _
    refine XS.iloadN X0.here hx rfl (hb hby at_5) rfl ?_
    show Steps p.tables e below (s₁.setTop (mkF m 6 #[.val (.int p1), .val (.int b), .val (.int (5 : Int32)), .unset, .unset, .unset, .unset] [(.int (5 : Int32))])) _
    refine XS.ifYes X0.here hx rfl (pc0 := 6) (pc' := 22) rfl (hb hby at_6) rfl (by decide) (by decide) (by decide) ?_
    show Steps p.tables e below (s₁.setTop (mkF m 22 #[.val (.int p1), .val (.int b), .val (.int (5 : Int32)), .unset, .unset, .unset, .unset] [])) _
    refine XS.iloadN X0.here hx rfl (hb hby at_22) rfl ?_
    show Steps p.tables e below (s₁.setTop (mkF m 23 #[.val (.int p1), .val (.int b), .val (.int (5 : Int32)), .unset, .unset, .unset, .unset] [(.int (5 : Int32))])) _
    refine XS.iconst X0.here hx rfl (hb hby at_23) ?_
    show Steps p.tables e below (s₁.setTop (mkF m 24 #[.val (.int p1), .val (.int b), .val (.int (5 : Int32)), .unset, .unset, .unset, .unset] [(.int (1 : Int32)), (.int (5 : Int32))])) _
    refine XS.icmpYes X0.here hx rfl (pc0 := 24) (pc' := 41) rfl (hb hby at_24) rfl (by decide) (by decide) (by decide) ?_
    show Steps p.tables e below (s₁.setTop (mkF m 41 #[.val (.int p1), .val (.int b), .val (.int (5 : Int32)), .unset, .unset, .unset, .unset] [])) _
    refine XS.iloadN X0.here hx rfl (hb hby at_41) rfl ?_
    show Steps p.tables e below (s₁.setTop (mkF m 42 #[.val (.int p1), .val (.int b), .val (.int (5 : Int32)), .unset, .unset, .unset, .unset] [(.int (5 : Int32))])) _
    refine XS.iconst X0.here hx rfl (hb hby at_42) ?_
    show Steps p.tables e below (s₁.setTop (mkF m 43 #[.val (.int p1), .val (.int b), .val (.int (5 : Int32)), .unset, .unset, .unset, .unset] [(.int (2 : Int32)), (.int (5 : Int32))])) _
    refine XS.icmpYes X0.here hx rfl (pc0 := 43) (pc' := 60) rfl (hb hby at_43) rfl (by decide) (by decide) (by decide) ?_
    show Steps p.tables e below (s₁.setTop (mkF m 60 #[.val (.int p1), .val (.int b), .val (.int (5 : Int32)), .unset, .unset, .unset, .unset] [])) _
    refine XS.iloadN X0.here hx rfl (hb hby at_60) rfl ?_
    show Steps p.tables e below (s₁.setTop (mkF m 61 #[.val (.int p1), .val (.int b), .val (.int (5 : Int32)), .unset, .unset, .unset, .unset] [(.int (5 : Int32))])) _
    refine XS.iconst X0.here hx rfl (hb hby at_61) ?_
    show Steps p.tables e below (s₁.setTop (mkF m 62 #[.val (.int p1), .val (.int b), .val (.int (5 : Int32)), .unset, .unset, .unset, .unset] [(.int (3 : Int32)), (.int (5 : Int32))])) _
    refine XS.icmpYes X0.here hx rfl (pc0 := 62) (pc' := 79) rfl (hb hby at_62) rfl (by decide) (by decide) (by decide) ?_
    show Steps p.tables e below (s₁.setTop (mkF m 79 #[.val (.int p1), .val (.int b), .val (.int (5 : Int32)), .unset, .unset, .unset, .unset] [])) _
    refine XS.iloadN X0.here hx rfl (hb hby at_79) rfl ?_
    show Steps p.tables e below (s₁.setTop (mkF m 80 #[.val (.int p1), .val (.int b), .val (.int (5 : Int32)), .unset, .unset, .unset, .unset] [(.int (5 : Int32))])) _
    refine XS.iconst X0.here hx rfl (hb hby at_80) ?_
    show Steps p.tables e below (s₁.setTop (mkF m 81 #[.val (.int p1), .val (.int b), .val (.int (5 : Int32)), .unset, .unset, .unset, .unset] [(.int (4 : Int32)), (.int (5 : Int32))])) _
    refine XS.icmpYes X0.here hx rfl (pc0 := 81) (pc' := 98) rfl (hb hby at_81) rfl (by decide) (by decide) (by decide) ?_
    show Steps p.tables e below (s₁.setTop (mkF m 98 #[.val (.int p1), .val (.int b), .val (.int (5 : Int32)), .unset, .unset, .unset, .unset] [])) _
    refine XS.iloadN X0.here hx rfl (hb hby at_98) rfl ?_
    show Steps p.tables e below (s₁.setTop (mkF m 99 #[.val (.int p1), .val (.int b), .val (.int (5 : Int32)), .unset, .unset, .unset, .unset] [(.int (5 : Int32))])) _
    refine XS.iconst X0.here hx rfl (hb hby at_99) ?_
    show Steps p.tables e below (s₁.setTop (mkF m 100 #[.val (.int p1), .val (.int b), .val (.int (5 : Int32)), .unset, .unset, .unset, .unset] [(.int (5 : Int32)), (.int (5 : Int32))])) _
    refine XS.icmpNo X0.here hx rfl (hb hby at_100) rfl (by decide) ?_
    show Steps p.tables e below (s₁.setTop (mkF m 103 #[.val (.int p1), .val (.int b), .val (.int (5 : Int32)), .unset, .unset, .unset, .unset] [])) _
    refine st1 _ ?_
    show Steps p.tables e below (T1.setTop (mkF m 106 #[.val (.int p1), .val (.int b), .val (.int (5 : Int32)), .unset, .unset, .unset, .unset] [(.ref a)])) _
    refine XS.astoreN X1.here hx rfl (hb hby at_106) rfl rfl (l' := #[.val (.int p1), .val (.int b), .val (.int (5 : Int32)), .val (.ref a), .unset, .unset, .unset]) rfl ?_
    show Steps p.tables e below (T1.setTop (mkF m 107 #[.val (.int p1), .val (.int b), .val (.int (5 : Int32)), .val (.ref a), .unset, .unset, .unset] [])) _
    refine XS.bipush X1.here hx rfl (hb hby at_107) ?_
    show Steps p.tables e below (T1.setTop (mkF m 109 #[.val (.int p1), .val (.int b), .val (.int (5 : Int32)), .val (.ref a), .unset, .unset, .unset] [(.int (32 : Int32))])) _
    refine XS.istore X1.here hx rfl (hb hby at_109) rfl (l' := #[.val (.int p1), .val (.int b), .val (.int (5 : Int32)), .val (.ref a), .val (.int (32 : Int32)), .unset, .unset]) rfl ?_
    show Steps p.tables e below (T1.setTop (mkF m 111 #[.val (.int p1), .val (.int b), .val (.int (5 : Int32)), .val (.ref a), .val (.int (32 : Int32)), .unset, .unset] [])) _
    refine XS.iconst X1.here hx rfl (hb hby at_111) ?_
    show Steps p.tables e below (T1.setTop (mkF m 112 #[.val (.int p1), .val (.int b), .val (.int (5 : Int32)), .val (.ref a), .val (.int (32 : Int32)), .unset, .unset] [(.int (0 : Int32))])) _
    refine XS.istore X1.here hx rfl (hb hby at_112) rfl (l' := #[.val (.int p1), .val (.int b), .val (.int (5 : Int32)), .val (.ref a), .val (.int (32 : Int32)), .val (.int (0 : Int32)), .unset]) rfl ?_
    show Steps p.tables e below (T1.setTop (mkF m 114 #[.val (.int p1), .val (.int b), .val (.int (5 : Int32)), .val (.ref a), .val (.int (32 : Int32)), .val (.int (0 : Int32)), .unset] [])) _
    refine XS.goto X1.here hx rfl (pc0 := 114) (pc' := 148) rfl (hb hby at_114) (by decide) (by decide) ?_
    show Steps p.tables e below (T1.setTop (mkF m 148 #[.val (.int p1), .val (.int b), .val (.int (5 : Int32)), .val (.ref a), .val (.int (32 : Int32)), .val (.int (0 : Int32)), .unset] [])) _
    refine XS.iload X1.here hx rfl (hb hby at_148) rfl ?_
    show Steps p.tables e below (T1.setTop (mkF m 150 #[.val (.int p1), .val (.int b), .val (.int (5 : Int32)), .val (.ref a), .val (.int (32 : Int32)), .val (.int (0 : Int32)), .unset] [(.int (0 : Int32))])) _
    refine XS.ifYes X1.here hx rfl (pc0 := 150) (pc' := 175) rfl (hb hby at_150) rfl (by decide) (by decide) (by decide) ?_
    show Steps p.tables e below (T1.setTop (mkF m 175 #[.val (.int p1), .val (.int b), .val (.int (5 : Int32)), .val (.ref a), .val (.int (32 : Int32)), .val (.int (0 : Int32)), .unset] [])) _
    refine XS.iloadN X1.here hx rfl (hb hby at_175) rfl ?_
    show Steps p.tables e below (T1.setTop (mkF m 176 #[.val (.int p1), .val (.int b), .val (.int (5 : Int32)), .val (.ref a), .val (.int (32 : Int32)), .val (.int (0 : Int32)), .unset] [(.int b)])) _
    refine XS.iload X1.here hx rfl (hb hby at_176) rfl ?_
    show Steps p.tables e below (T1.setTop (mkF m 178 #[.val (.int p1), .val (.int b), .val (.int (5 : Int32)), .val (.ref a), .val (.int (32 : Int32)), .val (.int (0 : Int32)), .unset] [(.int (32 : Int32)), (.int b)])) _
    refine XS.icmpNo X1.here hx rfl (hb hby at_178) rfl (teq h178).2 ?_
    show Steps p.tables e below (T1.setTop (mkF m 181 #[.val (.int p1), .val (.int b), .val (.int (5 : Int32)), .val (.ref a), .val (.int (32 : Int32)), .val (.int (0 : Int32)), .unset] [])) _
    refine XS.iconst X1.here hx rfl (hb hby at_181) ?_
    show Steps p.tables e below (T1.setTop (mkF m 182 #[.val (.int p1), .val (.int b), .val (.int (5 : Int32)), .val (.ref a), .val (.int (32 : Int32)), .val (.int (0 : Int32)), .unset] [(.int (1 : Int32))])) _
    refine XS.goto X1.here hx rfl (pc0 := 182) (pc' := 186) rfl (hb hby at_182) (by decide) (by decide) ?_
    show Steps p.tables e below (T1.setTop (mkF m 186 #[.val (.int p1), .val (.int b), .val (.int (5 : Int32)), .val (.ref a), .val (.int (32 : Int32)), .val (.int (0 : Int32)), .unset] [(.int (1 : Int32))])) _
    refine XS.istore X1.here hx rfl (hb hby at_186) rfl (l' := #[.val (.int p1), .val (.int b), .val (.int (5 : Int32)), .val (.ref a), .val (.int (32 : Int32)), .val (.int (0 : Int32)), .val (.int (1 : Int32))]) rfl ?_
    show Steps p.tables e below (T1.setTop (mkF m 188 #[.val (.int p1), .val (.int b), .val (.int (5 : Int32)), .val (.ref a), .val (.int (32 : Int32)), .val (.int (0 : Int32)), .val (.int (1 : Int32))] [])) _
    refine XS.aloadN X1.here hx rfl (hb hby at_188) rfl rfl ?_
    show Steps p.tables e below (T1.setTop (mkF m 189 #[.val (.int p1), .val (.int b), .val (.int (5 : Int32)), .val (.ref a), .val (.int (32 : Int32)), .val (.int (0 : Int32)), .val (.int (1 : Int32))] [(.ref a)])) _
    refine XS.iloadN X1.here hx rfl (hb hby at_189) rfl ?_
    show Steps p.tables e below (T1.setTop (mkF m 190 #[.val (.int p1), .val (.int b), .val (.int (5 : Int32)), .val (.ref a), .val (.int (32 : Int32)), .val (.int (0 : Int32)), .val (.int (1 : Int32))] [(.int b), (.ref a)])) _
    refine st2.trans ?_
    show Steps p.tables e below (T2.setTop (mkF m 193 #[.val (.int p1), .val (.int b), .val (.int (5 : Int32)), .val (.ref a), .val (.int (32 : Int32)), .val (.int (0 : Int32)), .val (.int (1 : Int32))] [(.int (1 : Int32))])) _
    refine XS.iload X2.here hx rfl (hb hby at_193) rfl ?_
    show Steps p.tables e below (T2.setTop (mkF m 195 #[.val (.int p1), .val (.int b), .val (.int (5 : Int32)), .val (.ref a), .val (.int (32 : Int32)), .val (.int (0 : Int32)), .val (.int (1 : Int32))] [(.int (1 : Int32)), (.int (1 : Int32))])) _
    refine XS.icmpNo X2.here hx rfl (hb hby at_195) rfl (by decide) ?_
    show Steps p.tables e below (T2.setTop (mkF m 198 #[.val (.int p1), .val (.int b), .val (.int (5 : Int32)), .val (.ref a), .val (.int (32 : Int32)), .val (.int (0 : Int32)), .val (.int (1 : Int32))] [])) _
    refine XS.iconst X2.here hx rfl (hb hby at_198) ?_
    show Steps p.tables e below (T2.setTop (mkF m 199 #[.val (.int p1), .val (.int b), .val (.int (5 : Int32)), .val (.ref a), .val (.int (32 : Int32)), .val (.int (0 : Int32)), .val (.int (1 : Int32))] [(.int (1 : Int32))])) _
    refine XS.goto X2.here hx rfl (pc0 := 199) (pc' := 203) rfl (hb hby at_199) (by decide) (by decide) ?_
    show Steps p.tables e below (T2.setTop (mkF m 203 #[.val (.int p1), .val (.int b), .val (.int (5 : Int32)), .val (.ref a), .val (.int (32 : Int32)), .val (.int (0 : Int32)), .val (.int (1 : Int32))] [(.int (1 : Int32))])) _
    exact retN X2 hx (t := .boolean) Bd.returns (by simp) (hb hby at_203) hr
  · show PQ (.int (1 : Int32)) h0 n0 _ T2.heap _
    exact ⟨rfl, N2, e2⟩

set_option maxRecDepth 65536 in
set_option maxHeartbeats 40000000 in
theorem law_6_lo (l : Launch) (Z : State) (a0 : Array Value) (hw : ∀ d ∈ tables_1, d.before a0 Z = true) (ws : List Jvm.Cond) (p1 b : Int32) (a : Addr) (h0 : Heap) (n0 : Nat) (Z0 : n0 ≤ h0.size) (hi : p1 &&& (7 : Int32) = (6 : Int32)) (S_LONG : Sta Z h0 "com/example/cairnstore/cairnstore/store/PrimitiveType" "LONG" "Lcom/example/cairnstore/cairnstore/store/PrimitiveType;" (.ref a)) (EX : Exa Z h0 a "com/example/cairnstore/cairnstore/store/PrimitiveType$7") (C1 : Pays l Z h0 n0 (⟨"com/example/cairnstore/cairnstore/store/PrimitiveType", "allowsBitsPerElement", "(I)Z"⟩ : MethodName) [Jvm.Cond.code (⟨"com/example/cairnstore/cairnstore/store/PrimitiveType", "allowsBitsPerElement", "(I)Z"⟩ : MethodName) prog_51_method_14_code 2 (some .boolean)] R0 #[(.ref a), (.int b)] (.int (0 : Int32))) (h154 : ¬ ((0 : Int32) < b)) :
    Pays l Z h0 n0 x (Jvm.Cond.code x code maxLocals ret :: ws) room_1 #[(.int p1), (.int b)] (.int (1 : Int32)) := by
  refine MetFree.of_bodySF (plainFor_of_name pn_PrimitiveTypeAllowsBitsPerElementPinLaw) hisR ?_
  intro p e s m args below meth c s₁ Bd hml0 hP hK
  obtain ⟨rfl, hZ, hh⟩ := hP
  have hx := Bd.exec
  have hby := Bd.bytes
  have hml : c.maxLocals = 7 := hml0
  have hown : s.vm.findClass "com/example/cairnstore/cairnstore/store/PrimitiveTypeAllowsBitsPerElementPinLaw" = some m.cls := findClass_of_methodNamed Bd.named
  have X0 : Stand p l e room_1 s m #[(.int p1), (.int b)] below meth c s₁ [] 0 0 := Stand.of_body Bd
  have e0 : s₁.heap = h0 := by rw [← hh, Bd.state]; rfl
  have N0 := Fr.nil n0
  have pre0 : ∀ t, Steps p.tables e below (s₁.setTop (mkF m 0 #[.val (.int p1), .val (.int b), .unset, .unset, .unset, .unset, .unset] [])) t → Steps p.tables e below (s₁.setTop (entryFrame m #[(.int p1), (.int b)] maxLocals)) t := fun t k => castTop (ef_0 m p1 b) k
  obtain ⟨T1, X1, e1, st1⟩ := getS2 X0 hx hZ hown (host := "") (Or.inl (hw _ (List.mem_of_getElem? (i := 12) rfl))) Via.refl e0 S_LONG (g := (mkF m 123 #[.val (.int p1), .val (.int b), .val (.int (6 : Int32)), .unset, .unset, .unset, .unset] [])) rfl (hb hby at_123)
  obtain ⟨cq2, kq2, q2a, q2b, q2c⟩ := isOf hZ e1 EX
  obtain ⟨_, _, ⟨T2, L2, k2, n2⟩, -, X2, ⟨Lc2, hQ2, l2, y2, z2⟩, st2⟩ := X1.virtualBack hx (y := (⟨"com/example/cairnstore/cairnstore/store/PrimitiveType", "allowsBitsPerElement", "(I)Z"⟩ : MethodName)) (z := (⟨"com/example/cairnstore/cairnstore/store/PrimitiveType", "allowsBitsPerElement", "(I)Z"⟩ : MethodName)) hown (mvT hZ (hw _ (List.mem_of_getElem? (i := 3) rfl))) (mvT hZ (hw _ (List.mem_of_getElem? (i := 4) rfl))) (notFace_of_selects (args := #[]) (mvT hZ (hw _ (List.mem_of_getElem? (i := 14) rfl)))) (mvT hZ (hw _ (List.mem_of_getElem? (i := 14) rfl))) (mvT hZ (hw _ (List.mem_of_getElem? (i := 5) rfl))) (by decide) (backOf (W := 0) (Q := PQ (.int (0 : Int32)) h0 n0) C1 hZ (hw _ (List.mem_of_getElem? (i := 7) rfl)) (hw _ (List.mem_of_getElem? (i := 1) rfl)) (by decide) (by decide)) q2a q2c (g := (mkF m 190 #[.val (.int p1), .val (.int b), .val (.int (6 : Int32)), .val (.ref a), .val (.int (64 : Int32)), .val (.int (1 : Int32)), .val (.int (0 : Int32))] [(.int b), (.ref a)])) rfl (by rw [hml]; rfl) (Steps.refl _) (argsL := [(.int b)]) (rest := []) (lenOf pd__I_Z rfl) rfl (by show 2 * 0 + _ ≤ _; exact Nat.le_of_eq rfl) (hb hby at_190) (fun _ _ => ⟨rfl, e1, (by decide : 0 + 0 ≤ _), (by decide : 0 + 0 ≤ _)⟩)
  dsimp only [Pt.U, Pt.locs, Pt.cells, Pt.slots] at X2 l2 y2 z2 st2 hQ2
  subst l2 y2 z2
  obtain ⟨rfl, Nq2, e2⟩ := hQ2
  have N2 := Fr.app N0 Nq2
  obtain ⟨fs, hr, hrun, hended, hW, hsame⟩ := X2.leave (v := some (.int (1 : Int32))) (fun h => by rw [Bd.returns] at h; cases h)
  refine ⟨_, _, pre0 _ ?_, hrun, hended, _, _, rfl, ?_, ⟨_, rfl⟩, hW, hsame.mono (by decide) (by decide)⟩
  · show Steps p.tables e below (s₁.setTop (mkF m 0 #[.val (.int p1), .val (.int b), .unset, .unset, .unset, .unset, .unset] [])) _
    refine XS.iloadN X0.here hx rfl (hb hby at_0) rfl ?_
    show Steps p.tables e below (s₁.setTop (mkF m 1 #[.val (.int p1), .val (.int b), .unset, .unset, .unset, .unset, .unset] [(.int p1)])) _
    refine XS.bipush X0.here hx rfl (hb hby at_1) ?_
    show Steps p.tables e below (s₁.setTop (mkF m 3 #[.val (.int p1), .val (.int b), .unset, .unset, .unset, .unset, .unset] [(.int (7 : Int32)), (.int p1)])) _
    refine XS.iand X0.here hx rfl (hb hby at_3) rfl ?_
    show Steps p.tables e below (s₁.setTop (mkF m 4 #[.val (.int p1), .val (.int b), .unset, .unset, .unset, .unset, .unset] [(.int (p1 &&& (7 : Int32)))])) _
    rw [hi]
    show Steps p.tables e below (s₁.setTop (mkF m 4 #[.val (.int p1), .val (.int b), .unset, .unset, .unset, .unset, .unset] [(.int (6 : Int32))])) _
    refine XS.istoreN X0.here hx rfl (hb hby at_4) rfl (l' := #[.val (.int p1), .val (.int b), .val (.int (6 : Int32)), .unset, .unset, .unset, .unset]) rfl ?_
    show Steps p.tables e below (s₁.setTop (mkF m 5 #[.val (.int p1), .val (.int b), .val (.int (6 : Int32)), .unset, .unset, .unset, .unset] [])) _
    refine XS.iloadN X0.here hx rfl (hb hby at_5) rfl ?_
    show Steps p.tables e below (s₁.setTop (mkF m 6 #[.val (.int p1), .val (.int b), .val (.int (6 : Int32)), .unset, .unset, .unset, .unset] [(.int (6 : Int32))])) _
    refine XS.ifYes X0.here hx rfl (pc0 := 6) (pc' := 22) rfl (hb hby at_6) rfl (by decide) (by decide) (by decide) ?_
    show Steps p.tables e below (s₁.setTop (mkF m 22 #[.val (.int p1), .val (.int b), .val (.int (6 : Int32)), .unset, .unset, .unset, .unset] [])) _
    refine XS.iloadN X0.here hx rfl (hb hby at_22) rfl ?_
    show Steps p.tables e below (s₁.setTop (mkF m 23 #[.val (.int p1), .val (.int b), .val (.int (6 : Int32)), .unset, .unset, .unset, .unset] [(.int (6 : Int32))])) _
    refine XS.iconst X0.here hx rfl (hb hby at_23) ?_
    show Steps p.tables e below (s₁.setTop (mkF m 24 #[.val (.int p1), .val (.int b), .val (.int (6 : Int32)), .unset, .unset, .unset, .unset] [(.int (1 : Int32)), (.int (6 : Int32))])) _
    refine XS.icmpYes X0.here hx rfl (pc0 := 24) (pc' := 41) rfl (hb hby at_24) rfl (by decide) (by decide) (by decide) ?_
    show Steps p.tables e below (s₁.setTop (mkF m 41 #[.val (.int p1), .val (.int b), .val (.int (6 : Int32)), .unset, .unset, .unset, .unset] [])) _
    refine XS.iloadN X0.here hx rfl (hb hby at_41) rfl ?_
    show Steps p.tables e below (s₁.setTop (mkF m 42 #[.val (.int p1), .val (.int b), .val (.int (6 : Int32)), .unset, .unset, .unset, .unset] [(.int (6 : Int32))])) _
    refine XS.iconst X0.here hx rfl (hb hby at_42) ?_
    show Steps p.tables e below (s₁.setTop (mkF m 43 #[.val (.int p1), .val (.int b), .val (.int (6 : Int32)), .unset, .unset, .unset, .unset] [(.int (2 : Int32)), (.int (6 : Int32))])) _
    refine XS.icmpYes X0.here hx rfl (pc0 := 43) (pc' := 60) rfl (hb hby at_43) rfl (by decide) (by decide) (by decide) ?_
    show Steps p.tables e below (s₁.setTop (mkF m 60 #[.val (.int p1), .val (.int b), .val (.int (6 : Int32)), .unset, .unset, .unset, .unset] [])) _
    refine XS.iloadN X0.here hx rfl (hb hby at_60) rfl ?_
    show Steps p.tables e below (s₁.setTop (mkF m 61 #[.val (.int p1), .val (.int b), .val (.int (6 : Int32)), .unset, .unset, .unset, .unset] [(.int (6 : Int32))])) _
    refine XS.iconst X0.here hx rfl (hb hby at_61) ?_
    show Steps p.tables e below (s₁.setTop (mkF m 62 #[.val (.int p1), .val (.int b), .val (.int (6 : Int32)), .unset, .unset, .unset, .unset] [(.int (3 : Int32)), (.int (6 : Int32))])) _
    refine XS.icmpYes X0.here hx rfl (pc0 := 62) (pc' := 79) rfl (hb hby at_62) rfl (by decide) (by decide) (by decide) ?_
    show Steps p.tables e below (s₁.setTop (mkF m 79 #[.val (.int p1), .val (.int b), .val (.int (6 : Int32)), .unset, .unset, .unset, .unset] [])) _
    refine XS.iloadN X0.here hx rfl (hb hby at_79) rfl ?_
    show Steps p.tables e below (s₁.setTop (mkF m 80 #[.val (.int p1), .val (.int b), .val (.int (6 : Int32)), .unset, .unset, .unset, .unset] [(.int (6 : Int32))])) _
    refine XS.iconst X0.here hx rfl (hb hby at_80) ?_
    show Steps p.tables e below (s₁.setTop (mkF m 81 #[.val (.int p1), .val (.int b), .val (.int (6 : Int32)), .unset, .unset, .unset, .unset] [(.int (4 : Int32)), (.int (6 : Int32))])) _
    refine XS.icmpYes X0.here hx rfl (pc0 := 81) (pc' := 98) rfl (hb hby at_81) rfl (by decide) (by decide) (by decide) ?_
    show Steps p.tables e below (s₁.setTop (mkF m 98 #[.val (.int p1), .val (.int b), .val (.int (6 : Int32)), .unset, .unset, .unset, .unset] [])) _
    refine XS.iloadN X0.here hx rfl (hb hby at_98) rfl ?_
    show Steps p.tables e below (s₁.setTop (mkF m 99 #[.val (.int p1), .val (.int b), .val (.int (6 : Int32)), .unset, .unset, .unset, .unset] [(.int (6 : Int32))])) _
    refine XS.iconst X0.here hx rfl (hb hby at_99) ?_
    show Steps p.tables e below (s₁.setTop (mkF m 100 #[.val (.int p1), .val (.int b), .val (.int (6 : Int32)), .unset, .unset, .unset, .unset] [(.int (5 : Int32)), (.int (6 : Int32))])) _
    refine XS.icmpYes X0.here hx rfl (pc0 := 100) (pc' := 117) rfl (hb hby at_100) rfl (by decide) (by decide) (by decide) ?_
    show Steps p.tables e below (s₁.setTop (mkF m 117 #[.val (.int p1), .val (.int b), .val (.int (6 : Int32)), .unset, .unset, .unset, .unset] [])) _
    refine XS.iloadN X0.here hx rfl (hb hby at_117) rfl ?_
    show Steps p.tables e below (s₁.setTop (mkF m 118 #[.val (.int p1), .val (.int b), .val (.int (6 : Int32)), .unset, .unset, .unset, .unset] [(.int (6 : Int32))])) _
    refine XS.bipush X0.here hx rfl (hb hby at_118) ?_
    show Steps p.tables e below (s₁.setTop (mkF m 120 #[.val (.int p1), .val (.int b), .val (.int (6 : Int32)), .unset, .unset, .unset, .unset] [(.int (6 : Int32)), (.int (6 : Int32))])) _
    refine XS.icmpNo X0.here hx rfl (hb hby at_120) rfl (by decide) ?_
    show Steps p.tables e below (s₁.setTop (mkF m 123 #[.val (.int p1), .val (.int b), .val (.int (6 : Int32)), .unset, .unset, .unset, .unset] [])) _
    refine st1 _ ?_
    show Steps p.tables e below (T1.setTop (mkF m 126 #[.val (.int p1), .val (.int b), .val (.int (6 : Int32)), .unset, .unset, .unset, .unset] [(.ref a)])) _
    refine XS.astoreN X1.here hx rfl (hb hby at_126) rfl rfl (l' := #[.val (.int p1), .val (.int b), .val (.int (6 : Int32)), .val (.ref a), .unset, .unset, .unset]) rfl ?_
    show Steps p.tables e below (T1.setTop (mkF m 127 #[.val (.int p1), .val (.int b), .val (.int (6 : Int32)), .val (.ref a), .unset, .unset, .unset] [])) _
    refine XS.bipush X1.here hx rfl (hb hby at_127) ?_
    show Steps p.tables e below (T1.setTop (mkF m 129 #[.val (.int p1), .val (.int b), .val (.int (6 : Int32)), .val (.ref a), .unset, .unset, .unset] [(.int (64 : Int32))])) _
    refine XS.istore X1.here hx rfl (hb hby at_129) rfl (l' := #[.val (.int p1), .val (.int b), .val (.int (6 : Int32)), .val (.ref a), .val (.int (64 : Int32)), .unset, .unset]) rfl ?_
    show Steps p.tables e below (T1.setTop (mkF m 131 #[.val (.int p1), .val (.int b), .val (.int (6 : Int32)), .val (.ref a), .val (.int (64 : Int32)), .unset, .unset] [])) _
    refine XS.iconst X1.here hx rfl (hb hby at_131) ?_
    show Steps p.tables e below (T1.setTop (mkF m 132 #[.val (.int p1), .val (.int b), .val (.int (6 : Int32)), .val (.ref a), .val (.int (64 : Int32)), .unset, .unset] [(.int (1 : Int32))])) _
    refine XS.istore X1.here hx rfl (hb hby at_132) rfl (l' := #[.val (.int p1), .val (.int b), .val (.int (6 : Int32)), .val (.ref a), .val (.int (64 : Int32)), .val (.int (1 : Int32)), .unset]) rfl ?_
    show Steps p.tables e below (T1.setTop (mkF m 134 #[.val (.int p1), .val (.int b), .val (.int (6 : Int32)), .val (.ref a), .val (.int (64 : Int32)), .val (.int (1 : Int32)), .unset] [])) _
    refine XS.goto X1.here hx rfl (pc0 := 134) (pc' := 148) rfl (hb hby at_134) (by decide) (by decide) ?_
    show Steps p.tables e below (T1.setTop (mkF m 148 #[.val (.int p1), .val (.int b), .val (.int (6 : Int32)), .val (.ref a), .val (.int (64 : Int32)), .val (.int (1 : Int32)), .unset] [])) _
    refine XS.iload X1.here hx rfl (hb hby at_148) rfl ?_
    show Steps p.tables e below (T1.setTop (mkF m 150 #[.val (.int p1), .val (.int b), .val (.int (6 : Int32)), .val (.ref a), .val (.int (64 : Int32)), .val (.int (1 : Int32)), .unset] [(.int (1 : Int32))])) _
    refine XS.ifNo X1.here hx rfl (hb hby at_150) rfl (by decide) ?_
    show Steps p.tables e below (T1.setTop (mkF m 153 #[.val (.int p1), .val (.int b), .val (.int (6 : Int32)), .val (.ref a), .val (.int (64 : Int32)), .val (.int (1 : Int32)), .unset] [])) _
    refine XS.iloadN X1.here hx rfl (hb hby at_153) rfl ?_
    show Steps p.tables e below (T1.setTop (mkF m 154 #[.val (.int p1), .val (.int b), .val (.int (6 : Int32)), .val (.ref a), .val (.int (64 : Int32)), .val (.int (1 : Int32)), .unset] [(.int b)])) _
    refine XS.ifYes X1.here hx rfl (pc0 := 154) (pc' := 169) rfl (hb hby at_154) rfl ((if0 _ _).trans (flt h154).2.2.2) (by decide) (by decide) ?_
    show Steps p.tables e below (T1.setTop (mkF m 169 #[.val (.int p1), .val (.int b), .val (.int (6 : Int32)), .val (.ref a), .val (.int (64 : Int32)), .val (.int (1 : Int32)), .unset] [])) _
    refine XS.iconst X1.here hx rfl (hb hby at_169) ?_
    show Steps p.tables e below (T1.setTop (mkF m 170 #[.val (.int p1), .val (.int b), .val (.int (6 : Int32)), .val (.ref a), .val (.int (64 : Int32)), .val (.int (1 : Int32)), .unset] [(.int (0 : Int32))])) _
    refine XS.istore X1.here hx rfl (hb hby at_170) rfl (l' := #[.val (.int p1), .val (.int b), .val (.int (6 : Int32)), .val (.ref a), .val (.int (64 : Int32)), .val (.int (1 : Int32)), .val (.int (0 : Int32))]) rfl ?_
    show Steps p.tables e below (T1.setTop (mkF m 172 #[.val (.int p1), .val (.int b), .val (.int (6 : Int32)), .val (.ref a), .val (.int (64 : Int32)), .val (.int (1 : Int32)), .val (.int (0 : Int32))] [])) _
    refine XS.goto X1.here hx rfl (pc0 := 172) (pc' := 188) rfl (hb hby at_172) (by decide) (by decide) ?_
    show Steps p.tables e below (T1.setTop (mkF m 188 #[.val (.int p1), .val (.int b), .val (.int (6 : Int32)), .val (.ref a), .val (.int (64 : Int32)), .val (.int (1 : Int32)), .val (.int (0 : Int32))] [])) _
    refine XS.aloadN X1.here hx rfl (hb hby at_188) rfl rfl ?_
    show Steps p.tables e below (T1.setTop (mkF m 189 #[.val (.int p1), .val (.int b), .val (.int (6 : Int32)), .val (.ref a), .val (.int (64 : Int32)), .val (.int (1 : Int32)), .val (.int (0 : Int32))] [(.ref a)])) _
    refine XS.iloadN X1.here hx rfl (hb hby at_189) rfl ?_
    show Steps p.tables e below (T1.setTop (mkF m 190 #[.val (.int p1), .val (.int b), .val (.int (6 : Int32)), .val (.ref a), .val (.int (64 : Int32)), .val (.int (1 : Int32)), .val (.int (0 : Int32))] [(.int b), (.ref a)])) _
    refine st2.trans ?_
    show Steps p.tables e below (T2.setTop (mkF m 193 #[.val (.int p1), .val (.int b), .val (.int (6 : Int32)), .val (.ref a), .val (.int (64 : Int32)), .val (.int (1 : Int32)), .val (.int (0 : Int32))] [(.int (0 : Int32))])) _
    refine XS.iload X2.here hx rfl (hb hby at_193) rfl ?_
    show Steps p.tables e below (T2.setTop (mkF m 195 #[.val (.int p1), .val (.int b), .val (.int (6 : Int32)), .val (.ref a), .val (.int (64 : Int32)), .val (.int (1 : Int32)), .val (.int (0 : Int32))] [(.int (0 : Int32)), (.int (0 : Int32))])) _
    refine XS.icmpNo X2.here hx rfl (hb hby at_195) rfl (by decide) ?_
    show Steps p.tables e below (T2.setTop (mkF m 198 #[.val (.int p1), .val (.int b), .val (.int (6 : Int32)), .val (.ref a), .val (.int (64 : Int32)), .val (.int (1 : Int32)), .val (.int (0 : Int32))] [])) _
    refine XS.iconst X2.here hx rfl (hb hby at_198) ?_
    show Steps p.tables e below (T2.setTop (mkF m 199 #[.val (.int p1), .val (.int b), .val (.int (6 : Int32)), .val (.ref a), .val (.int (64 : Int32)), .val (.int (1 : Int32)), .val (.int (0 : Int32))] [(.int (1 : Int32))])) _
    refine XS.goto X2.here hx rfl (pc0 := 199) (pc' := 203) rfl (hb hby at_199) (by decide) (by decide) ?_
    show Steps p.tables e below (T2.setTop (mkF m 203 #[.val (.int p1), .val (.int b), .val (.int (6 : Int32)), .val (.ref a), .val (.int (64 : Int32)), .val (.int (1 : Int32)), .val (.int (0 : Int32))] [(.int (1 : Int32))])) _
    exact retN X2 hx (t := .boolean) Bd.returns (by simp) (hb hby at_203) hr
  · show PQ (.int (1 : Int32)) h0 n0 _ T2.heap _
    exact ⟨rfl, N2, e2⟩

set_option maxRecDepth 65536 in
set_option maxHeartbeats 40000000 in
theorem law_6_hi (l : Launch) (Z : State) (a0 : Array Value) (hw : ∀ d ∈ tables_1, d.before a0 Z = true) (ws : List Jvm.Cond) (p1 b : Int32) (a : Addr) (h0 : Heap) (n0 : Nat) (Z0 : n0 ≤ h0.size) (hi : p1 &&& (7 : Int32) = (6 : Int32)) (S_LONG : Sta Z h0 "com/example/cairnstore/cairnstore/store/PrimitiveType" "LONG" "Lcom/example/cairnstore/cairnstore/store/PrimitiveType;" (.ref a)) (EX : Exa Z h0 a "com/example/cairnstore/cairnstore/store/PrimitiveType$7") (C1 : Pays l Z h0 n0 (⟨"com/example/cairnstore/cairnstore/store/PrimitiveType", "allowsBitsPerElement", "(I)Z"⟩ : MethodName) [Jvm.Cond.code (⟨"com/example/cairnstore/cairnstore/store/PrimitiveType", "allowsBitsPerElement", "(I)Z"⟩ : MethodName) prog_51_method_14_code 2 (some .boolean)] R0 #[(.ref a), (.int b)] (.int (0 : Int32))) (h154 : (0 : Int32) < b) (h162 : ¬ (b < (64 : Int32) + (1 : Int32))) :
    Pays l Z h0 n0 x (Jvm.Cond.code x code maxLocals ret :: ws) room_1 #[(.int p1), (.int b)] (.int (1 : Int32)) := by
  refine MetFree.of_bodySF (plainFor_of_name pn_PrimitiveTypeAllowsBitsPerElementPinLaw) hisR ?_
  intro p e s m args below meth c s₁ Bd hml0 hP hK
  obtain ⟨rfl, hZ, hh⟩ := hP
  have hx := Bd.exec
  have hby := Bd.bytes
  have hml : c.maxLocals = 7 := hml0
  have hown : s.vm.findClass "com/example/cairnstore/cairnstore/store/PrimitiveTypeAllowsBitsPerElementPinLaw" = some m.cls := findClass_of_methodNamed Bd.named
  have X0 : Stand p l e room_1 s m #[(.int p1), (.int b)] below meth c s₁ [] 0 0 := Stand.of_body Bd
  have e0 : s₁.heap = h0 := by rw [← hh, Bd.state]; rfl
  have N0 := Fr.nil n0
  have pre0 : ∀ t, Steps p.tables e below (s₁.setTop (mkF m 0 #[.val (.int p1), .val (.int b), .unset, .unset, .unset, .unset, .unset] [])) t → Steps p.tables e below (s₁.setTop (entryFrame m #[(.int p1), (.int b)] maxLocals)) t := fun t k => castTop (ef_0 m p1 b) k
  obtain ⟨T1, X1, e1, st1⟩ := getS2 X0 hx hZ hown (host := "") (Or.inl (hw _ (List.mem_of_getElem? (i := 12) rfl))) Via.refl e0 S_LONG (g := (mkF m 123 #[.val (.int p1), .val (.int b), .val (.int (6 : Int32)), .unset, .unset, .unset, .unset] [])) rfl (hb hby at_123)
  obtain ⟨cq2, kq2, q2a, q2b, q2c⟩ := isOf hZ e1 EX
  obtain ⟨_, _, ⟨T2, L2, k2, n2⟩, -, X2, ⟨Lc2, hQ2, l2, y2, z2⟩, st2⟩ := X1.virtualBack hx (y := (⟨"com/example/cairnstore/cairnstore/store/PrimitiveType", "allowsBitsPerElement", "(I)Z"⟩ : MethodName)) (z := (⟨"com/example/cairnstore/cairnstore/store/PrimitiveType", "allowsBitsPerElement", "(I)Z"⟩ : MethodName)) hown (mvT hZ (hw _ (List.mem_of_getElem? (i := 3) rfl))) (mvT hZ (hw _ (List.mem_of_getElem? (i := 4) rfl))) (notFace_of_selects (args := #[]) (mvT hZ (hw _ (List.mem_of_getElem? (i := 14) rfl)))) (mvT hZ (hw _ (List.mem_of_getElem? (i := 14) rfl))) (mvT hZ (hw _ (List.mem_of_getElem? (i := 5) rfl))) (by decide) (backOf (W := 0) (Q := PQ (.int (0 : Int32)) h0 n0) C1 hZ (hw _ (List.mem_of_getElem? (i := 7) rfl)) (hw _ (List.mem_of_getElem? (i := 1) rfl)) (by decide) (by decide)) q2a q2c (g := (mkF m 190 #[.val (.int p1), .val (.int b), .val (.int (6 : Int32)), .val (.ref a), .val (.int (64 : Int32)), .val (.int (1 : Int32)), .val (.int (0 : Int32))] [(.int b), (.ref a)])) rfl (by rw [hml]; rfl) (Steps.refl _) (argsL := [(.int b)]) (rest := []) (lenOf pd__I_Z rfl) rfl (by show 2 * 0 + _ ≤ _; exact Nat.le_of_eq rfl) (hb hby at_190) (fun _ _ => ⟨rfl, e1, (by decide : 0 + 0 ≤ _), (by decide : 0 + 0 ≤ _)⟩)
  dsimp only [Pt.U, Pt.locs, Pt.cells, Pt.slots] at X2 l2 y2 z2 st2 hQ2
  subst l2 y2 z2
  obtain ⟨rfl, Nq2, e2⟩ := hQ2
  have N2 := Fr.app N0 Nq2
  obtain ⟨fs, hr, hrun, hended, hW, hsame⟩ := X2.leave (v := some (.int (1 : Int32))) (fun h => by rw [Bd.returns] at h; cases h)
  refine ⟨_, _, pre0 _ ?_, hrun, hended, _, _, rfl, ?_, ⟨_, rfl⟩, hW, hsame.mono (by decide) (by decide)⟩
  · show Steps p.tables e below (s₁.setTop (mkF m 0 #[.val (.int p1), .val (.int b), .unset, .unset, .unset, .unset, .unset] [])) _
    refine XS.iloadN X0.here hx rfl (hb hby at_0) rfl ?_
    show Steps p.tables e below (s₁.setTop (mkF m 1 #[.val (.int p1), .val (.int b), .unset, .unset, .unset, .unset, .unset] [(.int p1)])) _
    refine XS.bipush X0.here hx rfl (hb hby at_1) ?_
    show Steps p.tables e below (s₁.setTop (mkF m 3 #[.val (.int p1), .val (.int b), .unset, .unset, .unset, .unset, .unset] [(.int (7 : Int32)), (.int p1)])) _
    refine XS.iand X0.here hx rfl (hb hby at_3) rfl ?_
    show Steps p.tables e below (s₁.setTop (mkF m 4 #[.val (.int p1), .val (.int b), .unset, .unset, .unset, .unset, .unset] [(.int (p1 &&& (7 : Int32)))])) _
    rw [hi]
    show Steps p.tables e below (s₁.setTop (mkF m 4 #[.val (.int p1), .val (.int b), .unset, .unset, .unset, .unset, .unset] [(.int (6 : Int32))])) _
    refine XS.istoreN X0.here hx rfl (hb hby at_4) rfl (l' := #[.val (.int p1), .val (.int b), .val (.int (6 : Int32)), .unset, .unset, .unset, .unset]) rfl ?_
    show Steps p.tables e below (s₁.setTop (mkF m 5 #[.val (.int p1), .val (.int b), .val (.int (6 : Int32)), .unset, .unset, .unset, .unset] [])) _
    refine XS.iloadN X0.here hx rfl (hb hby at_5) rfl ?_
    show Steps p.tables e below (s₁.setTop (mkF m 6 #[.val (.int p1), .val (.int b), .val (.int (6 : Int32)), .unset, .unset, .unset, .unset] [(.int (6 : Int32))])) _
    refine XS.ifYes X0.here hx rfl (pc0 := 6) (pc' := 22) rfl (hb hby at_6) rfl (by decide) (by decide) (by decide) ?_
    show Steps p.tables e below (s₁.setTop (mkF m 22 #[.val (.int p1), .val (.int b), .val (.int (6 : Int32)), .unset, .unset, .unset, .unset] [])) _
    refine XS.iloadN X0.here hx rfl (hb hby at_22) rfl ?_
    show Steps p.tables e below (s₁.setTop (mkF m 23 #[.val (.int p1), .val (.int b), .val (.int (6 : Int32)), .unset, .unset, .unset, .unset] [(.int (6 : Int32))])) _
    refine XS.iconst X0.here hx rfl (hb hby at_23) ?_
    show Steps p.tables e below (s₁.setTop (mkF m 24 #[.val (.int p1), .val (.int b), .val (.int (6 : Int32)), .unset, .unset, .unset, .unset] [(.int (1 : Int32)), (.int (6 : Int32))])) _
    refine XS.icmpYes X0.here hx rfl (pc0 := 24) (pc' := 41) rfl (hb hby at_24) rfl (by decide) (by decide) (by decide) ?_
    show Steps p.tables e below (s₁.setTop (mkF m 41 #[.val (.int p1), .val (.int b), .val (.int (6 : Int32)), .unset, .unset, .unset, .unset] [])) _
    refine XS.iloadN X0.here hx rfl (hb hby at_41) rfl ?_
    show Steps p.tables e below (s₁.setTop (mkF m 42 #[.val (.int p1), .val (.int b), .val (.int (6 : Int32)), .unset, .unset, .unset, .unset] [(.int (6 : Int32))])) _
    refine XS.iconst X0.here hx rfl (hb hby at_42) ?_
    show Steps p.tables e below (s₁.setTop (mkF m 43 #[.val (.int p1), .val (.int b), .val (.int (6 : Int32)), .unset, .unset, .unset, .unset] [(.int (2 : Int32)), (.int (6 : Int32))])) _
    refine XS.icmpYes X0.here hx rfl (pc0 := 43) (pc' := 60) rfl (hb hby at_43) rfl (by decide) (by decide) (by decide) ?_
    show Steps p.tables e below (s₁.setTop (mkF m 60 #[.val (.int p1), .val (.int b), .val (.int (6 : Int32)), .unset, .unset, .unset, .unset] [])) _
    refine XS.iloadN X0.here hx rfl (hb hby at_60) rfl ?_
    show Steps p.tables e below (s₁.setTop (mkF m 61 #[.val (.int p1), .val (.int b), .val (.int (6 : Int32)), .unset, .unset, .unset, .unset] [(.int (6 : Int32))])) _
    refine XS.iconst X0.here hx rfl (hb hby at_61) ?_
    show Steps p.tables e below (s₁.setTop (mkF m 62 #[.val (.int p1), .val (.int b), .val (.int (6 : Int32)), .unset, .unset, .unset, .unset] [(.int (3 : Int32)), (.int (6 : Int32))])) _
    refine XS.icmpYes X0.here hx rfl (pc0 := 62) (pc' := 79) rfl (hb hby at_62) rfl (by decide) (by decide) (by decide) ?_
    show Steps p.tables e below (s₁.setTop (mkF m 79 #[.val (.int p1), .val (.int b), .val (.int (6 : Int32)), .unset, .unset, .unset, .unset] [])) _
    refine XS.iloadN X0.here hx rfl (hb hby at_79) rfl ?_
    show Steps p.tables e below (s₁.setTop (mkF m 80 #[.val (.int p1), .val (.int b), .val (.int (6 : Int32)), .unset, .unset, .unset, .unset] [(.int (6 : Int32))])) _
    refine XS.iconst X0.here hx rfl (hb hby at_80) ?_
    show Steps p.tables e below (s₁.setTop (mkF m 81 #[.val (.int p1), .val (.int b), .val (.int (6 : Int32)), .unset, .unset, .unset, .unset] [(.int (4 : Int32)), (.int (6 : Int32))])) _
    refine XS.icmpYes X0.here hx rfl (pc0 := 81) (pc' := 98) rfl (hb hby at_81) rfl (by decide) (by decide) (by decide) ?_
    show Steps p.tables e below (s₁.setTop (mkF m 98 #[.val (.int p1), .val (.int b), .val (.int (6 : Int32)), .unset, .unset, .unset, .unset] [])) _
    refine XS.iloadN X0.here hx rfl (hb hby at_98) rfl ?_
    show Steps p.tables e below (s₁.setTop (mkF m 99 #[.val (.int p1), .val (.int b), .val (.int (6 : Int32)), .unset, .unset, .unset, .unset] [(.int (6 : Int32))])) _
    refine XS.iconst X0.here hx rfl (hb hby at_99) ?_
    show Steps p.tables e below (s₁.setTop (mkF m 100 #[.val (.int p1), .val (.int b), .val (.int (6 : Int32)), .unset, .unset, .unset, .unset] [(.int (5 : Int32)), (.int (6 : Int32))])) _
    refine XS.icmpYes X0.here hx rfl (pc0 := 100) (pc' := 117) rfl (hb hby at_100) rfl (by decide) (by decide) (by decide) ?_
    show Steps p.tables e below (s₁.setTop (mkF m 117 #[.val (.int p1), .val (.int b), .val (.int (6 : Int32)), .unset, .unset, .unset, .unset] [])) _
    refine XS.iloadN X0.here hx rfl (hb hby at_117) rfl ?_
    show Steps p.tables e below (s₁.setTop (mkF m 118 #[.val (.int p1), .val (.int b), .val (.int (6 : Int32)), .unset, .unset, .unset, .unset] [(.int (6 : Int32))])) _
    refine XS.bipush X0.here hx rfl (hb hby at_118) ?_
    show Steps p.tables e below (s₁.setTop (mkF m 120 #[.val (.int p1), .val (.int b), .val (.int (6 : Int32)), .unset, .unset, .unset, .unset] [(.int (6 : Int32)), (.int (6 : Int32))])) _
    refine XS.icmpNo X0.here hx rfl (hb hby at_120) rfl (by decide) ?_
    show Steps p.tables e below (s₁.setTop (mkF m 123 #[.val (.int p1), .val (.int b), .val (.int (6 : Int32)), .unset, .unset, .unset, .unset] [])) _
    refine st1 _ ?_
    show Steps p.tables e below (T1.setTop (mkF m 126 #[.val (.int p1), .val (.int b), .val (.int (6 : Int32)), .unset, .unset, .unset, .unset] [(.ref a)])) _
    refine XS.astoreN X1.here hx rfl (hb hby at_126) rfl rfl (l' := #[.val (.int p1), .val (.int b), .val (.int (6 : Int32)), .val (.ref a), .unset, .unset, .unset]) rfl ?_
    show Steps p.tables e below (T1.setTop (mkF m 127 #[.val (.int p1), .val (.int b), .val (.int (6 : Int32)), .val (.ref a), .unset, .unset, .unset] [])) _
    refine XS.bipush X1.here hx rfl (hb hby at_127) ?_
    show Steps p.tables e below (T1.setTop (mkF m 129 #[.val (.int p1), .val (.int b), .val (.int (6 : Int32)), .val (.ref a), .unset, .unset, .unset] [(.int (64 : Int32))])) _
    refine XS.istore X1.here hx rfl (hb hby at_129) rfl (l' := #[.val (.int p1), .val (.int b), .val (.int (6 : Int32)), .val (.ref a), .val (.int (64 : Int32)), .unset, .unset]) rfl ?_
    show Steps p.tables e below (T1.setTop (mkF m 131 #[.val (.int p1), .val (.int b), .val (.int (6 : Int32)), .val (.ref a), .val (.int (64 : Int32)), .unset, .unset] [])) _
    refine XS.iconst X1.here hx rfl (hb hby at_131) ?_
    show Steps p.tables e below (T1.setTop (mkF m 132 #[.val (.int p1), .val (.int b), .val (.int (6 : Int32)), .val (.ref a), .val (.int (64 : Int32)), .unset, .unset] [(.int (1 : Int32))])) _
    refine XS.istore X1.here hx rfl (hb hby at_132) rfl (l' := #[.val (.int p1), .val (.int b), .val (.int (6 : Int32)), .val (.ref a), .val (.int (64 : Int32)), .val (.int (1 : Int32)), .unset]) rfl ?_
    show Steps p.tables e below (T1.setTop (mkF m 134 #[.val (.int p1), .val (.int b), .val (.int (6 : Int32)), .val (.ref a), .val (.int (64 : Int32)), .val (.int (1 : Int32)), .unset] [])) _
    refine XS.goto X1.here hx rfl (pc0 := 134) (pc' := 148) rfl (hb hby at_134) (by decide) (by decide) ?_
    show Steps p.tables e below (T1.setTop (mkF m 148 #[.val (.int p1), .val (.int b), .val (.int (6 : Int32)), .val (.ref a), .val (.int (64 : Int32)), .val (.int (1 : Int32)), .unset] [])) _
    refine XS.iload X1.here hx rfl (hb hby at_148) rfl ?_
    show Steps p.tables e below (T1.setTop (mkF m 150 #[.val (.int p1), .val (.int b), .val (.int (6 : Int32)), .val (.ref a), .val (.int (64 : Int32)), .val (.int (1 : Int32)), .unset] [(.int (1 : Int32))])) _
    refine XS.ifNo X1.here hx rfl (hb hby at_150) rfl (by decide) ?_
    show Steps p.tables e below (T1.setTop (mkF m 153 #[.val (.int p1), .val (.int b), .val (.int (6 : Int32)), .val (.ref a), .val (.int (64 : Int32)), .val (.int (1 : Int32)), .unset] [])) _
    refine XS.iloadN X1.here hx rfl (hb hby at_153) rfl ?_
    show Steps p.tables e below (T1.setTop (mkF m 154 #[.val (.int p1), .val (.int b), .val (.int (6 : Int32)), .val (.ref a), .val (.int (64 : Int32)), .val (.int (1 : Int32)), .unset] [(.int b)])) _
    refine XS.ifNo X1.here hx rfl (hb hby at_154) rfl ((if0 _ _).trans (tlt h154).2.2.2) ?_
    show Steps p.tables e below (T1.setTop (mkF m 157 #[.val (.int p1), .val (.int b), .val (.int (6 : Int32)), .val (.ref a), .val (.int (64 : Int32)), .val (.int (1 : Int32)), .unset] [])) _
    refine XS.iloadN X1.here hx rfl (hb hby at_157) rfl ?_
    show Steps p.tables e below (T1.setTop (mkF m 158 #[.val (.int p1), .val (.int b), .val (.int (6 : Int32)), .val (.ref a), .val (.int (64 : Int32)), .val (.int (1 : Int32)), .unset] [(.int b)])) _
    refine XS.iload X1.here hx rfl (hb hby at_158) rfl ?_
    show Steps p.tables e below (T1.setTop (mkF m 160 #[.val (.int p1), .val (.int b), .val (.int (6 : Int32)), .val (.ref a), .val (.int (64 : Int32)), .val (.int (1 : Int32)), .unset] [(.int (64 : Int32)), (.int b)])) _
    refine XS.iconst X1.here hx rfl (hb hby at_160) ?_
    show Steps p.tables e below (T1.setTop (mkF m 161 #[.val (.int p1), .val (.int b), .val (.int (6 : Int32)), .val (.ref a), .val (.int (64 : Int32)), .val (.int (1 : Int32)), .unset] [(.int (1 : Int32)), (.int (64 : Int32)), (.int b)])) _
    refine XS.iadd X1.here hx rfl (hb hby at_161) rfl ?_
    show Steps p.tables e below (T1.setTop (mkF m 162 #[.val (.int p1), .val (.int b), .val (.int (6 : Int32)), .val (.ref a), .val (.int (64 : Int32)), .val (.int (1 : Int32)), .unset] [(.int ((64 : Int32) + (1 : Int32))), (.int b)])) _
    refine XS.icmpYes X1.here hx rfl (pc0 := 162) (pc' := 169) rfl (hb hby at_162) rfl (flt h162).2.1 (by decide) (by decide) ?_
    show Steps p.tables e below (T1.setTop (mkF m 169 #[.val (.int p1), .val (.int b), .val (.int (6 : Int32)), .val (.ref a), .val (.int (64 : Int32)), .val (.int (1 : Int32)), .unset] [])) _
    refine XS.iconst X1.here hx rfl (hb hby at_169) ?_
    show Steps p.tables e below (T1.setTop (mkF m 170 #[.val (.int p1), .val (.int b), .val (.int (6 : Int32)), .val (.ref a), .val (.int (64 : Int32)), .val (.int (1 : Int32)), .unset] [(.int (0 : Int32))])) _
    refine XS.istore X1.here hx rfl (hb hby at_170) rfl (l' := #[.val (.int p1), .val (.int b), .val (.int (6 : Int32)), .val (.ref a), .val (.int (64 : Int32)), .val (.int (1 : Int32)), .val (.int (0 : Int32))]) rfl ?_
    show Steps p.tables e below (T1.setTop (mkF m 172 #[.val (.int p1), .val (.int b), .val (.int (6 : Int32)), .val (.ref a), .val (.int (64 : Int32)), .val (.int (1 : Int32)), .val (.int (0 : Int32))] [])) _
    refine XS.goto X1.here hx rfl (pc0 := 172) (pc' := 188) rfl (hb hby at_172) (by decide) (by decide) ?_
    show Steps p.tables e below (T1.setTop (mkF m 188 #[.val (.int p1), .val (.int b), .val (.int (6 : Int32)), .val (.ref a), .val (.int (64 : Int32)), .val (.int (1 : Int32)), .val (.int (0 : Int32))] [])) _
    refine XS.aloadN X1.here hx rfl (hb hby at_188) rfl rfl ?_
    show Steps p.tables e below (T1.setTop (mkF m 189 #[.val (.int p1), .val (.int b), .val (.int (6 : Int32)), .val (.ref a), .val (.int (64 : Int32)), .val (.int (1 : Int32)), .val (.int (0 : Int32))] [(.ref a)])) _
    refine XS.iloadN X1.here hx rfl (hb hby at_189) rfl ?_
    show Steps p.tables e below (T1.setTop (mkF m 190 #[.val (.int p1), .val (.int b), .val (.int (6 : Int32)), .val (.ref a), .val (.int (64 : Int32)), .val (.int (1 : Int32)), .val (.int (0 : Int32))] [(.int b), (.ref a)])) _
    refine st2.trans ?_
    show Steps p.tables e below (T2.setTop (mkF m 193 #[.val (.int p1), .val (.int b), .val (.int (6 : Int32)), .val (.ref a), .val (.int (64 : Int32)), .val (.int (1 : Int32)), .val (.int (0 : Int32))] [(.int (0 : Int32))])) _
    refine XS.iload X2.here hx rfl (hb hby at_193) rfl ?_
    show Steps p.tables e below (T2.setTop (mkF m 195 #[.val (.int p1), .val (.int b), .val (.int (6 : Int32)), .val (.ref a), .val (.int (64 : Int32)), .val (.int (1 : Int32)), .val (.int (0 : Int32))] [(.int (0 : Int32)), (.int (0 : Int32))])) _
    refine XS.icmpNo X2.here hx rfl (hb hby at_195) rfl (by decide) ?_
    show Steps p.tables e below (T2.setTop (mkF m 198 #[.val (.int p1), .val (.int b), .val (.int (6 : Int32)), .val (.ref a), .val (.int (64 : Int32)), .val (.int (1 : Int32)), .val (.int (0 : Int32))] [])) _
    refine XS.iconst X2.here hx rfl (hb hby at_198) ?_
    show Steps p.tables e below (T2.setTop (mkF m 199 #[.val (.int p1), .val (.int b), .val (.int (6 : Int32)), .val (.ref a), .val (.int (64 : Int32)), .val (.int (1 : Int32)), .val (.int (0 : Int32))] [(.int (1 : Int32))])) _
    refine XS.goto X2.here hx rfl (pc0 := 199) (pc' := 203) rfl (hb hby at_199) (by decide) (by decide) ?_
    show Steps p.tables e below (T2.setTop (mkF m 203 #[.val (.int p1), .val (.int b), .val (.int (6 : Int32)), .val (.ref a), .val (.int (64 : Int32)), .val (.int (1 : Int32)), .val (.int (0 : Int32))] [(.int (1 : Int32))])) _
    exact retN X2 hx (t := .boolean) Bd.returns (by simp) (hb hby at_203) hr
  · show PQ (.int (1 : Int32)) h0 n0 _ T2.heap _
    exact ⟨rfl, N2, e2⟩

set_option maxRecDepth 65536 in
set_option maxHeartbeats 40000000 in
theorem law_6_in (l : Launch) (Z : State) (a0 : Array Value) (hw : ∀ d ∈ tables_1, d.before a0 Z = true) (ws : List Jvm.Cond) (p1 b : Int32) (a : Addr) (h0 : Heap) (n0 : Nat) (Z0 : n0 ≤ h0.size) (hi : p1 &&& (7 : Int32) = (6 : Int32)) (S_LONG : Sta Z h0 "com/example/cairnstore/cairnstore/store/PrimitiveType" "LONG" "Lcom/example/cairnstore/cairnstore/store/PrimitiveType;" (.ref a)) (EX : Exa Z h0 a "com/example/cairnstore/cairnstore/store/PrimitiveType$7") (C1 : Pays l Z h0 n0 (⟨"com/example/cairnstore/cairnstore/store/PrimitiveType", "allowsBitsPerElement", "(I)Z"⟩ : MethodName) [Jvm.Cond.code (⟨"com/example/cairnstore/cairnstore/store/PrimitiveType", "allowsBitsPerElement", "(I)Z"⟩ : MethodName) prog_51_method_14_code 2 (some .boolean)] R0 #[(.ref a), (.int b)] (.int (1 : Int32))) (h154 : (0 : Int32) < b) (h162 : b < (64 : Int32) + (1 : Int32)) :
    Pays l Z h0 n0 x (Jvm.Cond.code x code maxLocals ret :: ws) room_1 #[(.int p1), (.int b)] (.int (1 : Int32)) := by
  refine MetFree.of_bodySF (plainFor_of_name pn_PrimitiveTypeAllowsBitsPerElementPinLaw) hisR ?_
  intro p e s m args below meth c s₁ Bd hml0 hP hK
  obtain ⟨rfl, hZ, hh⟩ := hP
  have hx := Bd.exec
  have hby := Bd.bytes
  have hml : c.maxLocals = 7 := hml0
  have hown : s.vm.findClass "com/example/cairnstore/cairnstore/store/PrimitiveTypeAllowsBitsPerElementPinLaw" = some m.cls := findClass_of_methodNamed Bd.named
  have X0 : Stand p l e room_1 s m #[(.int p1), (.int b)] below meth c s₁ [] 0 0 := Stand.of_body Bd
  have e0 : s₁.heap = h0 := by rw [← hh, Bd.state]; rfl
  have N0 := Fr.nil n0
  have pre0 : ∀ t, Steps p.tables e below (s₁.setTop (mkF m 0 #[.val (.int p1), .val (.int b), .unset, .unset, .unset, .unset, .unset] [])) t → Steps p.tables e below (s₁.setTop (entryFrame m #[(.int p1), (.int b)] maxLocals)) t := fun t k => castTop (ef_0 m p1 b) k
  obtain ⟨T1, X1, e1, st1⟩ := getS2 X0 hx hZ hown (host := "") (Or.inl (hw _ (List.mem_of_getElem? (i := 12) rfl))) Via.refl e0 S_LONG (g := (mkF m 123 #[.val (.int p1), .val (.int b), .val (.int (6 : Int32)), .unset, .unset, .unset, .unset] [])) rfl (hb hby at_123)
  obtain ⟨cq2, kq2, q2a, q2b, q2c⟩ := isOf hZ e1 EX
  obtain ⟨_, _, ⟨T2, L2, k2, n2⟩, -, X2, ⟨Lc2, hQ2, l2, y2, z2⟩, st2⟩ := X1.virtualBack hx (y := (⟨"com/example/cairnstore/cairnstore/store/PrimitiveType", "allowsBitsPerElement", "(I)Z"⟩ : MethodName)) (z := (⟨"com/example/cairnstore/cairnstore/store/PrimitiveType", "allowsBitsPerElement", "(I)Z"⟩ : MethodName)) hown (mvT hZ (hw _ (List.mem_of_getElem? (i := 3) rfl))) (mvT hZ (hw _ (List.mem_of_getElem? (i := 4) rfl))) (notFace_of_selects (args := #[]) (mvT hZ (hw _ (List.mem_of_getElem? (i := 14) rfl)))) (mvT hZ (hw _ (List.mem_of_getElem? (i := 14) rfl))) (mvT hZ (hw _ (List.mem_of_getElem? (i := 5) rfl))) (by decide) (backOf (W := 0) (Q := PQ (.int (1 : Int32)) h0 n0) C1 hZ (hw _ (List.mem_of_getElem? (i := 7) rfl)) (hw _ (List.mem_of_getElem? (i := 1) rfl)) (by decide) (by decide)) q2a q2c (g := (mkF m 190 #[.val (.int p1), .val (.int b), .val (.int (6 : Int32)), .val (.ref a), .val (.int (64 : Int32)), .val (.int (1 : Int32)), .val (.int (1 : Int32))] [(.int b), (.ref a)])) rfl (by rw [hml]; rfl) (Steps.refl _) (argsL := [(.int b)]) (rest := []) (lenOf pd__I_Z rfl) rfl (by show 2 * 0 + _ ≤ _; exact Nat.le_of_eq rfl) (hb hby at_190) (fun _ _ => ⟨rfl, e1, (by decide : 0 + 0 ≤ _), (by decide : 0 + 0 ≤ _)⟩)
  dsimp only [Pt.U, Pt.locs, Pt.cells, Pt.slots] at X2 l2 y2 z2 st2 hQ2
  subst l2 y2 z2
  obtain ⟨rfl, Nq2, e2⟩ := hQ2
  have N2 := Fr.app N0 Nq2
  obtain ⟨fs, hr, hrun, hended, hW, hsame⟩ := X2.leave (v := some (.int (1 : Int32))) (fun h => by rw [Bd.returns] at h; cases h)
  refine ⟨_, _, pre0 _ ?_, hrun, hended, _, _, rfl, ?_, ⟨_, rfl⟩, hW, hsame.mono (by decide) (by decide)⟩
  · show Steps p.tables e below (s₁.setTop (mkF m 0 #[.val (.int p1), .val (.int b), .unset, .unset, .unset, .unset, .unset] [])) _
    refine XS.iloadN X0.here hx rfl (hb hby at_0) rfl ?_
    show Steps p.tables e below (s₁.setTop (mkF m 1 #[.val (.int p1), .val (.int b), .unset, .unset, .unset, .unset, .unset] [(.int p1)])) _
    refine XS.bipush X0.here hx rfl (hb hby at_1) ?_
    show Steps p.tables e below (s₁.setTop (mkF m 3 #[.val (.int p1), .val (.int b), .unset, .unset, .unset, .unset, .unset] [(.int (7 : Int32)), (.int p1)])) _
    refine XS.iand X0.here hx rfl (hb hby at_3) rfl ?_
    show Steps p.tables e below (s₁.setTop (mkF m 4 #[.val (.int p1), .val (.int b), .unset, .unset, .unset, .unset, .unset] [(.int (p1 &&& (7 : Int32)))])) _
    rw [hi]
    show Steps p.tables e below (s₁.setTop (mkF m 4 #[.val (.int p1), .val (.int b), .unset, .unset, .unset, .unset, .unset] [(.int (6 : Int32))])) _
    refine XS.istoreN X0.here hx rfl (hb hby at_4) rfl (l' := #[.val (.int p1), .val (.int b), .val (.int (6 : Int32)), .unset, .unset, .unset, .unset]) rfl ?_
    show Steps p.tables e below (s₁.setTop (mkF m 5 #[.val (.int p1), .val (.int b), .val (.int (6 : Int32)), .unset, .unset, .unset, .unset] [])) _
    refine XS.iloadN X0.here hx rfl (hb hby at_5) rfl ?_
    show Steps p.tables e below (s₁.setTop (mkF m 6 #[.val (.int p1), .val (.int b), .val (.int (6 : Int32)), .unset, .unset, .unset, .unset] [(.int (6 : Int32))])) _
    refine XS.ifYes X0.here hx rfl (pc0 := 6) (pc' := 22) rfl (hb hby at_6) rfl (by decide) (by decide) (by decide) ?_
    show Steps p.tables e below (s₁.setTop (mkF m 22 #[.val (.int p1), .val (.int b), .val (.int (6 : Int32)), .unset, .unset, .unset, .unset] [])) _
    refine XS.iloadN X0.here hx rfl (hb hby at_22) rfl ?_
    show Steps p.tables e below (s₁.setTop (mkF m 23 #[.val (.int p1), .val (.int b), .val (.int (6 : Int32)), .unset, .unset, .unset, .unset] [(.int (6 : Int32))])) _
    refine XS.iconst X0.here hx rfl (hb hby at_23) ?_
    show Steps p.tables e below (s₁.setTop (mkF m 24 #[.val (.int p1), .val (.int b), .val (.int (6 : Int32)), .unset, .unset, .unset, .unset] [(.int (1 : Int32)), (.int (6 : Int32))])) _
    refine XS.icmpYes X0.here hx rfl (pc0 := 24) (pc' := 41) rfl (hb hby at_24) rfl (by decide) (by decide) (by decide) ?_
    show Steps p.tables e below (s₁.setTop (mkF m 41 #[.val (.int p1), .val (.int b), .val (.int (6 : Int32)), .unset, .unset, .unset, .unset] [])) _
    refine XS.iloadN X0.here hx rfl (hb hby at_41) rfl ?_
    show Steps p.tables e below (s₁.setTop (mkF m 42 #[.val (.int p1), .val (.int b), .val (.int (6 : Int32)), .unset, .unset, .unset, .unset] [(.int (6 : Int32))])) _
    refine XS.iconst X0.here hx rfl (hb hby at_42) ?_
    show Steps p.tables e below (s₁.setTop (mkF m 43 #[.val (.int p1), .val (.int b), .val (.int (6 : Int32)), .unset, .unset, .unset, .unset] [(.int (2 : Int32)), (.int (6 : Int32))])) _
    refine XS.icmpYes X0.here hx rfl (pc0 := 43) (pc' := 60) rfl (hb hby at_43) rfl (by decide) (by decide) (by decide) ?_
    show Steps p.tables e below (s₁.setTop (mkF m 60 #[.val (.int p1), .val (.int b), .val (.int (6 : Int32)), .unset, .unset, .unset, .unset] [])) _
    refine XS.iloadN X0.here hx rfl (hb hby at_60) rfl ?_
    show Steps p.tables e below (s₁.setTop (mkF m 61 #[.val (.int p1), .val (.int b), .val (.int (6 : Int32)), .unset, .unset, .unset, .unset] [(.int (6 : Int32))])) _
    refine XS.iconst X0.here hx rfl (hb hby at_61) ?_
    show Steps p.tables e below (s₁.setTop (mkF m 62 #[.val (.int p1), .val (.int b), .val (.int (6 : Int32)), .unset, .unset, .unset, .unset] [(.int (3 : Int32)), (.int (6 : Int32))])) _
    refine XS.icmpYes X0.here hx rfl (pc0 := 62) (pc' := 79) rfl (hb hby at_62) rfl (by decide) (by decide) (by decide) ?_
    show Steps p.tables e below (s₁.setTop (mkF m 79 #[.val (.int p1), .val (.int b), .val (.int (6 : Int32)), .unset, .unset, .unset, .unset] [])) _
    refine XS.iloadN X0.here hx rfl (hb hby at_79) rfl ?_
    show Steps p.tables e below (s₁.setTop (mkF m 80 #[.val (.int p1), .val (.int b), .val (.int (6 : Int32)), .unset, .unset, .unset, .unset] [(.int (6 : Int32))])) _
    refine XS.iconst X0.here hx rfl (hb hby at_80) ?_
    show Steps p.tables e below (s₁.setTop (mkF m 81 #[.val (.int p1), .val (.int b), .val (.int (6 : Int32)), .unset, .unset, .unset, .unset] [(.int (4 : Int32)), (.int (6 : Int32))])) _
    refine XS.icmpYes X0.here hx rfl (pc0 := 81) (pc' := 98) rfl (hb hby at_81) rfl (by decide) (by decide) (by decide) ?_
    show Steps p.tables e below (s₁.setTop (mkF m 98 #[.val (.int p1), .val (.int b), .val (.int (6 : Int32)), .unset, .unset, .unset, .unset] [])) _
    refine XS.iloadN X0.here hx rfl (hb hby at_98) rfl ?_
    show Steps p.tables e below (s₁.setTop (mkF m 99 #[.val (.int p1), .val (.int b), .val (.int (6 : Int32)), .unset, .unset, .unset, .unset] [(.int (6 : Int32))])) _
    refine XS.iconst X0.here hx rfl (hb hby at_99) ?_
    show Steps p.tables e below (s₁.setTop (mkF m 100 #[.val (.int p1), .val (.int b), .val (.int (6 : Int32)), .unset, .unset, .unset, .unset] [(.int (5 : Int32)), (.int (6 : Int32))])) _
    refine XS.icmpYes X0.here hx rfl (pc0 := 100) (pc' := 117) rfl (hb hby at_100) rfl (by decide) (by decide) (by decide) ?_
    show Steps p.tables e below (s₁.setTop (mkF m 117 #[.val (.int p1), .val (.int b), .val (.int (6 : Int32)), .unset, .unset, .unset, .unset] [])) _
    refine XS.iloadN X0.here hx rfl (hb hby at_117) rfl ?_
    show Steps p.tables e below (s₁.setTop (mkF m 118 #[.val (.int p1), .val (.int b), .val (.int (6 : Int32)), .unset, .unset, .unset, .unset] [(.int (6 : Int32))])) _
    refine XS.bipush X0.here hx rfl (hb hby at_118) ?_
    show Steps p.tables e below (s₁.setTop (mkF m 120 #[.val (.int p1), .val (.int b), .val (.int (6 : Int32)), .unset, .unset, .unset, .unset] [(.int (6 : Int32)), (.int (6 : Int32))])) _
    refine XS.icmpNo X0.here hx rfl (hb hby at_120) rfl (by decide) ?_
    show Steps p.tables e below (s₁.setTop (mkF m 123 #[.val (.int p1), .val (.int b), .val (.int (6 : Int32)), .unset, .unset, .unset, .unset] [])) _
    refine st1 _ ?_
    show Steps p.tables e below (T1.setTop (mkF m 126 #[.val (.int p1), .val (.int b), .val (.int (6 : Int32)), .unset, .unset, .unset, .unset] [(.ref a)])) _
    refine XS.astoreN X1.here hx rfl (hb hby at_126) rfl rfl (l' := #[.val (.int p1), .val (.int b), .val (.int (6 : Int32)), .val (.ref a), .unset, .unset, .unset]) rfl ?_
    show Steps p.tables e below (T1.setTop (mkF m 127 #[.val (.int p1), .val (.int b), .val (.int (6 : Int32)), .val (.ref a), .unset, .unset, .unset] [])) _
    refine XS.bipush X1.here hx rfl (hb hby at_127) ?_
    show Steps p.tables e below (T1.setTop (mkF m 129 #[.val (.int p1), .val (.int b), .val (.int (6 : Int32)), .val (.ref a), .unset, .unset, .unset] [(.int (64 : Int32))])) _
    refine XS.istore X1.here hx rfl (hb hby at_129) rfl (l' := #[.val (.int p1), .val (.int b), .val (.int (6 : Int32)), .val (.ref a), .val (.int (64 : Int32)), .unset, .unset]) rfl ?_
    show Steps p.tables e below (T1.setTop (mkF m 131 #[.val (.int p1), .val (.int b), .val (.int (6 : Int32)), .val (.ref a), .val (.int (64 : Int32)), .unset, .unset] [])) _
    refine XS.iconst X1.here hx rfl (hb hby at_131) ?_
    show Steps p.tables e below (T1.setTop (mkF m 132 #[.val (.int p1), .val (.int b), .val (.int (6 : Int32)), .val (.ref a), .val (.int (64 : Int32)), .unset, .unset] [(.int (1 : Int32))])) _
    refine XS.istore X1.here hx rfl (hb hby at_132) rfl (l' := #[.val (.int p1), .val (.int b), .val (.int (6 : Int32)), .val (.ref a), .val (.int (64 : Int32)), .val (.int (1 : Int32)), .unset]) rfl ?_
    show Steps p.tables e below (T1.setTop (mkF m 134 #[.val (.int p1), .val (.int b), .val (.int (6 : Int32)), .val (.ref a), .val (.int (64 : Int32)), .val (.int (1 : Int32)), .unset] [])) _
    refine XS.goto X1.here hx rfl (pc0 := 134) (pc' := 148) rfl (hb hby at_134) (by decide) (by decide) ?_
    show Steps p.tables e below (T1.setTop (mkF m 148 #[.val (.int p1), .val (.int b), .val (.int (6 : Int32)), .val (.ref a), .val (.int (64 : Int32)), .val (.int (1 : Int32)), .unset] [])) _
    refine XS.iload X1.here hx rfl (hb hby at_148) rfl ?_
    show Steps p.tables e below (T1.setTop (mkF m 150 #[.val (.int p1), .val (.int b), .val (.int (6 : Int32)), .val (.ref a), .val (.int (64 : Int32)), .val (.int (1 : Int32)), .unset] [(.int (1 : Int32))])) _
    refine XS.ifNo X1.here hx rfl (hb hby at_150) rfl (by decide) ?_
    show Steps p.tables e below (T1.setTop (mkF m 153 #[.val (.int p1), .val (.int b), .val (.int (6 : Int32)), .val (.ref a), .val (.int (64 : Int32)), .val (.int (1 : Int32)), .unset] [])) _
    refine XS.iloadN X1.here hx rfl (hb hby at_153) rfl ?_
    show Steps p.tables e below (T1.setTop (mkF m 154 #[.val (.int p1), .val (.int b), .val (.int (6 : Int32)), .val (.ref a), .val (.int (64 : Int32)), .val (.int (1 : Int32)), .unset] [(.int b)])) _
    refine XS.ifNo X1.here hx rfl (hb hby at_154) rfl ((if0 _ _).trans (tlt h154).2.2.2) ?_
    show Steps p.tables e below (T1.setTop (mkF m 157 #[.val (.int p1), .val (.int b), .val (.int (6 : Int32)), .val (.ref a), .val (.int (64 : Int32)), .val (.int (1 : Int32)), .unset] [])) _
    refine XS.iloadN X1.here hx rfl (hb hby at_157) rfl ?_
    show Steps p.tables e below (T1.setTop (mkF m 158 #[.val (.int p1), .val (.int b), .val (.int (6 : Int32)), .val (.ref a), .val (.int (64 : Int32)), .val (.int (1 : Int32)), .unset] [(.int b)])) _
    refine XS.iload X1.here hx rfl (hb hby at_158) rfl ?_
    show Steps p.tables e below (T1.setTop (mkF m 160 #[.val (.int p1), .val (.int b), .val (.int (6 : Int32)), .val (.ref a), .val (.int (64 : Int32)), .val (.int (1 : Int32)), .unset] [(.int (64 : Int32)), (.int b)])) _
    refine XS.iconst X1.here hx rfl (hb hby at_160) ?_
    show Steps p.tables e below (T1.setTop (mkF m 161 #[.val (.int p1), .val (.int b), .val (.int (6 : Int32)), .val (.ref a), .val (.int (64 : Int32)), .val (.int (1 : Int32)), .unset] [(.int (1 : Int32)), (.int (64 : Int32)), (.int b)])) _
    refine XS.iadd X1.here hx rfl (hb hby at_161) rfl ?_
    show Steps p.tables e below (T1.setTop (mkF m 162 #[.val (.int p1), .val (.int b), .val (.int (6 : Int32)), .val (.ref a), .val (.int (64 : Int32)), .val (.int (1 : Int32)), .unset] [(.int ((64 : Int32) + (1 : Int32))), (.int b)])) _
    refine XS.icmpNo X1.here hx rfl (hb hby at_162) rfl (tlt h162).2.1 ?_
    show Steps p.tables e below (T1.setTop (mkF m 165 #[.val (.int p1), .val (.int b), .val (.int (6 : Int32)), .val (.ref a), .val (.int (64 : Int32)), .val (.int (1 : Int32)), .unset] [])) _
    refine XS.iconst X1.here hx rfl (hb hby at_165) ?_
    show Steps p.tables e below (T1.setTop (mkF m 166 #[.val (.int p1), .val (.int b), .val (.int (6 : Int32)), .val (.ref a), .val (.int (64 : Int32)), .val (.int (1 : Int32)), .unset] [(.int (1 : Int32))])) _
    refine XS.goto X1.here hx rfl (pc0 := 166) (pc' := 170) rfl (hb hby at_166) (by decide) (by decide) ?_
    show Steps p.tables e below (T1.setTop (mkF m 170 #[.val (.int p1), .val (.int b), .val (.int (6 : Int32)), .val (.ref a), .val (.int (64 : Int32)), .val (.int (1 : Int32)), .unset] [(.int (1 : Int32))])) _
    refine XS.istore X1.here hx rfl (hb hby at_170) rfl (l' := #[.val (.int p1), .val (.int b), .val (.int (6 : Int32)), .val (.ref a), .val (.int (64 : Int32)), .val (.int (1 : Int32)), .val (.int (1 : Int32))]) rfl ?_
    show Steps p.tables e below (T1.setTop (mkF m 172 #[.val (.int p1), .val (.int b), .val (.int (6 : Int32)), .val (.ref a), .val (.int (64 : Int32)), .val (.int (1 : Int32)), .val (.int (1 : Int32))] [])) _
    refine XS.goto X1.here hx rfl (pc0 := 172) (pc' := 188) rfl (hb hby at_172) (by decide) (by decide) ?_
    show Steps p.tables e below (T1.setTop (mkF m 188 #[.val (.int p1), .val (.int b), .val (.int (6 : Int32)), .val (.ref a), .val (.int (64 : Int32)), .val (.int (1 : Int32)), .val (.int (1 : Int32))] [])) _
    refine XS.aloadN X1.here hx rfl (hb hby at_188) rfl rfl ?_
    show Steps p.tables e below (T1.setTop (mkF m 189 #[.val (.int p1), .val (.int b), .val (.int (6 : Int32)), .val (.ref a), .val (.int (64 : Int32)), .val (.int (1 : Int32)), .val (.int (1 : Int32))] [(.ref a)])) _
    refine XS.iloadN X1.here hx rfl (hb hby at_189) rfl ?_
    show Steps p.tables e below (T1.setTop (mkF m 190 #[.val (.int p1), .val (.int b), .val (.int (6 : Int32)), .val (.ref a), .val (.int (64 : Int32)), .val (.int (1 : Int32)), .val (.int (1 : Int32))] [(.int b), (.ref a)])) _
    refine st2.trans ?_
    show Steps p.tables e below (T2.setTop (mkF m 193 #[.val (.int p1), .val (.int b), .val (.int (6 : Int32)), .val (.ref a), .val (.int (64 : Int32)), .val (.int (1 : Int32)), .val (.int (1 : Int32))] [(.int (1 : Int32))])) _
    refine XS.iload X2.here hx rfl (hb hby at_193) rfl ?_
    show Steps p.tables e below (T2.setTop (mkF m 195 #[.val (.int p1), .val (.int b), .val (.int (6 : Int32)), .val (.ref a), .val (.int (64 : Int32)), .val (.int (1 : Int32)), .val (.int (1 : Int32))] [(.int (1 : Int32)), (.int (1 : Int32))])) _
    refine XS.icmpNo X2.here hx rfl (hb hby at_195) rfl (by decide) ?_
    show Steps p.tables e below (T2.setTop (mkF m 198 #[.val (.int p1), .val (.int b), .val (.int (6 : Int32)), .val (.ref a), .val (.int (64 : Int32)), .val (.int (1 : Int32)), .val (.int (1 : Int32))] [])) _
    refine XS.iconst X2.here hx rfl (hb hby at_198) ?_
    show Steps p.tables e below (T2.setTop (mkF m 199 #[.val (.int p1), .val (.int b), .val (.int (6 : Int32)), .val (.ref a), .val (.int (64 : Int32)), .val (.int (1 : Int32)), .val (.int (1 : Int32))] [(.int (1 : Int32))])) _
    refine XS.goto X2.here hx rfl (pc0 := 199) (pc' := 203) rfl (hb hby at_199) (by decide) (by decide) ?_
    show Steps p.tables e below (T2.setTop (mkF m 203 #[.val (.int p1), .val (.int b), .val (.int (6 : Int32)), .val (.ref a), .val (.int (64 : Int32)), .val (.int (1 : Int32)), .val (.int (1 : Int32))] [(.int (1 : Int32))])) _
    exact retN X2 hx (t := .boolean) Bd.returns (by simp) (hb hby at_203) hr
  · show PQ (.int (1 : Int32)) h0 n0 _ T2.heap _
    exact ⟨rfl, N2, e2⟩

set_option maxRecDepth 65536 in
set_option maxHeartbeats 40000000 in
theorem law_7_ne (l : Launch) (Z : State) (a0 : Array Value) (hw : ∀ d ∈ tables_1, d.before a0 Z = true) (ws : List Jvm.Cond) (p1 b : Int32) (a : Addr) (h0 : Heap) (n0 : Nat) (Z0 : n0 ≤ h0.size) (hi : p1 &&& (7 : Int32) = (7 : Int32)) (S_DOUBLE : Sta Z h0 "com/example/cairnstore/cairnstore/store/PrimitiveType" "DOUBLE" "Lcom/example/cairnstore/cairnstore/store/PrimitiveType;" (.ref a)) (EX : Exa Z h0 a "com/example/cairnstore/cairnstore/store/PrimitiveType$8") (C1 : Pays l Z h0 n0 (⟨"com/example/cairnstore/cairnstore/store/PrimitiveType", "allowsBitsPerElement", "(I)Z"⟩ : MethodName) [Jvm.Cond.code (⟨"com/example/cairnstore/cairnstore/store/PrimitiveType", "allowsBitsPerElement", "(I)Z"⟩ : MethodName) prog_51_method_14_code 2 (some .boolean)] R0 #[(.ref a), (.int b)] (.int (0 : Int32))) (h178 : ¬ (b = (64 : Int32))) :
    Pays l Z h0 n0 x (Jvm.Cond.code x code maxLocals ret :: ws) room_1 #[(.int p1), (.int b)] (.int (1 : Int32)) := by
  refine MetFree.of_bodySF (plainFor_of_name pn_PrimitiveTypeAllowsBitsPerElementPinLaw) hisR ?_
  intro p e s m args below meth c s₁ Bd hml0 hP hK
  obtain ⟨rfl, hZ, hh⟩ := hP
  have hx := Bd.exec
  have hby := Bd.bytes
  have hml : c.maxLocals = 7 := hml0
  have hown : s.vm.findClass "com/example/cairnstore/cairnstore/store/PrimitiveTypeAllowsBitsPerElementPinLaw" = some m.cls := findClass_of_methodNamed Bd.named
  have X0 : Stand p l e room_1 s m #[(.int p1), (.int b)] below meth c s₁ [] 0 0 := Stand.of_body Bd
  have e0 : s₁.heap = h0 := by rw [← hh, Bd.state]; rfl
  have N0 := Fr.nil n0
  have pre0 : ∀ t, Steps p.tables e below (s₁.setTop (mkF m 0 #[.val (.int p1), .val (.int b), .unset, .unset, .unset, .unset, .unset] [])) t → Steps p.tables e below (s₁.setTop (entryFrame m #[(.int p1), (.int b)] maxLocals)) t := fun t k => castTop (ef_0 m p1 b) k
  obtain ⟨T1, X1, e1, st1⟩ := getS2 X0 hx hZ hown (host := "") (Or.inl (hw _ (List.mem_of_getElem? (i := 27) rfl))) Via.refl e0 S_DOUBLE (g := (mkF m 137 #[.val (.int p1), .val (.int b), .val (.int (7 : Int32)), .unset, .unset, .unset, .unset] [])) rfl (hb hby at_137)
  obtain ⟨cq2, kq2, q2a, q2b, q2c⟩ := isOf hZ e1 EX
  obtain ⟨_, _, ⟨T2, L2, k2, n2⟩, -, X2, ⟨Lc2, hQ2, l2, y2, z2⟩, st2⟩ := X1.virtualBack hx (y := (⟨"com/example/cairnstore/cairnstore/store/PrimitiveType", "allowsBitsPerElement", "(I)Z"⟩ : MethodName)) (z := (⟨"com/example/cairnstore/cairnstore/store/PrimitiveType", "allowsBitsPerElement", "(I)Z"⟩ : MethodName)) hown (mvT hZ (hw _ (List.mem_of_getElem? (i := 3) rfl))) (mvT hZ (hw _ (List.mem_of_getElem? (i := 4) rfl))) (notFace_of_selects (args := #[]) (mvT hZ (hw _ (List.mem_of_getElem? (i := 29) rfl)))) (mvT hZ (hw _ (List.mem_of_getElem? (i := 29) rfl))) (mvT hZ (hw _ (List.mem_of_getElem? (i := 5) rfl))) (by decide) (backOf (W := 0) (Q := PQ (.int (0 : Int32)) h0 n0) C1 hZ (hw _ (List.mem_of_getElem? (i := 7) rfl)) (hw _ (List.mem_of_getElem? (i := 1) rfl)) (by decide) (by decide)) q2a q2c (g := (mkF m 190 #[.val (.int p1), .val (.int b), .val (.int (7 : Int32)), .val (.ref a), .val (.int (64 : Int32)), .val (.int (0 : Int32)), .val (.int (0 : Int32))] [(.int b), (.ref a)])) rfl (by rw [hml]; rfl) (Steps.refl _) (argsL := [(.int b)]) (rest := []) (lenOf pd__I_Z rfl) rfl (by show 2 * 0 + _ ≤ _; exact Nat.le_of_eq rfl) (hb hby at_190) (fun _ _ => ⟨rfl, e1, (by decide : 0 + 0 ≤ _), (by decide : 0 + 0 ≤ _)⟩)
  dsimp only [Pt.U, Pt.locs, Pt.cells, Pt.slots] at X2 l2 y2 z2 st2 hQ2
  subst l2 y2 z2
  obtain ⟨rfl, Nq2, e2⟩ := hQ2
  have N2 := Fr.app N0 Nq2
  obtain ⟨fs, hr, hrun, hended, hW, hsame⟩ := X2.leave (v := some (.int (1 : Int32))) (fun h => by rw [Bd.returns] at h; cases h)
  refine ⟨_, _, pre0 _ ?_, hrun, hended, _, _, rfl, ?_, ⟨_, rfl⟩, hW, hsame.mono (by decide) (by decide)⟩
  · show Steps p.tables e below (s₁.setTop (mkF m 0 #[.val (.int p1), .val (.int b), .unset, .unset, .unset, .unset, .unset] [])) _
    refine XS.iloadN X0.here hx rfl (hb hby at_0) rfl ?_
    show Steps p.tables e below (s₁.setTop (mkF m 1 #[.val (.int p1), .val (.int b), .unset, .unset, .unset, .unset, .unset] [(.int p1)])) _
    refine XS.bipush X0.here hx rfl (hb hby at_1) ?_
    show Steps p.tables e below (s₁.setTop (mkF m 3 #[.val (.int p1), .val (.int b), .unset, .unset, .unset, .unset, .unset] [(.int (7 : Int32)), (.int p1)])) _
    refine XS.iand X0.here hx rfl (hb hby at_3) rfl ?_
    show Steps p.tables e below (s₁.setTop (mkF m 4 #[.val (.int p1), .val (.int b), .unset, .unset, .unset, .unset, .unset] [(.int (p1 &&& (7 : Int32)))])) _
    rw [hi]
    show Steps p.tables e below (s₁.setTop (mkF m 4 #[.val (.int p1), .val (.int b), .unset, .unset, .unset, .unset, .unset] [(.int (7 : Int32))])) _
    refine XS.istoreN X0.here hx rfl (hb hby at_4) rfl (l' := #[.val (.int p1), .val (.int b), .val (.int (7 : Int32)), .unset, .unset, .unset, .unset]) rfl ?_
    show Steps p.tables e below (s₁.setTop (mkF m 5 #[.val (.int p1), .val (.int b), .val (.int (7 : Int32)), .unset, .unset, .unset, .unset] [])) _
    refine XS.iloadN X0.here hx rfl (hb hby at_5) rfl ?_
    show Steps p.tables e below (s₁.setTop (mkF m 6 #[.val (.int p1), .val (.int b), .val (.int (7 : Int32)), .unset, .unset, .unset, .unset] [(.int (7 : Int32))])) _
    refine XS.ifYes X0.here hx rfl (pc0 := 6) (pc' := 22) rfl (hb hby at_6) rfl (by decide) (by decide) (by decide) ?_
    show Steps p.tables e below (s₁.setTop (mkF m 22 #[.val (.int p1), .val (.int b), .val (.int (7 : Int32)), .unset, .unset, .unset, .unset] [])) _
    refine XS.iloadN X0.here hx rfl (hb hby at_22) rfl ?_
    show Steps p.tables e below (s₁.setTop (mkF m 23 #[.val (.int p1), .val (.int b), .val (.int (7 : Int32)), .unset, .unset, .unset, .unset] [(.int (7 : Int32))])) _
    refine XS.iconst X0.here hx rfl (hb hby at_23) ?_
    show Steps p.tables e below (s₁.setTop (mkF m 24 #[.val (.int p1), .val (.int b), .val (.int (7 : Int32)), .unset, .unset, .unset, .unset] [(.int (1 : Int32)), (.int (7 : Int32))])) _
    refine XS.icmpYes X0.here hx rfl (pc0 := 24) (pc' := 41) rfl (hb hby at_24) rfl (by decide) (by decide) (by decide) ?_
    show Steps p.tables e below (s₁.setTop (mkF m 41 #[.val (.int p1), .val (.int b), .val (.int (7 : Int32)), .unset, .unset, .unset, .unset] [])) _
    refine XS.iloadN X0.here hx rfl (hb hby at_41) rfl ?_
    show Steps p.tables e below (s₁.setTop (mkF m 42 #[.val (.int p1), .val (.int b), .val (.int (7 : Int32)), .unset, .unset, .unset, .unset] [(.int (7 : Int32))])) _
    refine XS.iconst X0.here hx rfl (hb hby at_42) ?_
    show Steps p.tables e below (s₁.setTop (mkF m 43 #[.val (.int p1), .val (.int b), .val (.int (7 : Int32)), .unset, .unset, .unset, .unset] [(.int (2 : Int32)), (.int (7 : Int32))])) _
    refine XS.icmpYes X0.here hx rfl (pc0 := 43) (pc' := 60) rfl (hb hby at_43) rfl (by decide) (by decide) (by decide) ?_
    show Steps p.tables e below (s₁.setTop (mkF m 60 #[.val (.int p1), .val (.int b), .val (.int (7 : Int32)), .unset, .unset, .unset, .unset] [])) _
    refine XS.iloadN X0.here hx rfl (hb hby at_60) rfl ?_
    show Steps p.tables e below (s₁.setTop (mkF m 61 #[.val (.int p1), .val (.int b), .val (.int (7 : Int32)), .unset, .unset, .unset, .unset] [(.int (7 : Int32))])) _
    refine XS.iconst X0.here hx rfl (hb hby at_61) ?_
    show Steps p.tables e below (s₁.setTop (mkF m 62 #[.val (.int p1), .val (.int b), .val (.int (7 : Int32)), .unset, .unset, .unset, .unset] [(.int (3 : Int32)), (.int (7 : Int32))])) _
    refine XS.icmpYes X0.here hx rfl (pc0 := 62) (pc' := 79) rfl (hb hby at_62) rfl (by decide) (by decide) (by decide) ?_
    show Steps p.tables e below (s₁.setTop (mkF m 79 #[.val (.int p1), .val (.int b), .val (.int (7 : Int32)), .unset, .unset, .unset, .unset] [])) _
    refine XS.iloadN X0.here hx rfl (hb hby at_79) rfl ?_
    show Steps p.tables e below (s₁.setTop (mkF m 80 #[.val (.int p1), .val (.int b), .val (.int (7 : Int32)), .unset, .unset, .unset, .unset] [(.int (7 : Int32))])) _
    refine XS.iconst X0.here hx rfl (hb hby at_80) ?_
    show Steps p.tables e below (s₁.setTop (mkF m 81 #[.val (.int p1), .val (.int b), .val (.int (7 : Int32)), .unset, .unset, .unset, .unset] [(.int (4 : Int32)), (.int (7 : Int32))])) _
    refine XS.icmpYes X0.here hx rfl (pc0 := 81) (pc' := 98) rfl (hb hby at_81) rfl (by decide) (by decide) (by decide) ?_
    show Steps p.tables e below (s₁.setTop (mkF m 98 #[.val (.int p1), .val (.int b), .val (.int (7 : Int32)), .unset, .unset, .unset, .unset] [])) _
    refine XS.iloadN X0.here hx rfl (hb hby at_98) rfl ?_
    show Steps p.tables e below (s₁.setTop (mkF m 99 #[.val (.int p1), .val (.int b), .val (.int (7 : Int32)), .unset, .unset, .unset, .unset] [(.int (7 : Int32))])) _
    refine XS.iconst X0.here hx rfl (hb hby at_99) ?_
    show Steps p.tables e below (s₁.setTop (mkF m 100 #[.val (.int p1), .val (.int b), .val (.int (7 : Int32)), .unset, .unset, .unset, .unset] [(.int (5 : Int32)), (.int (7 : Int32))])) _
    refine XS.icmpYes X0.here hx rfl (pc0 := 100) (pc' := 117) rfl (hb hby at_100) rfl (by decide) (by decide) (by decide) ?_
    show Steps p.tables e below (s₁.setTop (mkF m 117 #[.val (.int p1), .val (.int b), .val (.int (7 : Int32)), .unset, .unset, .unset, .unset] [])) _
    refine XS.iloadN X0.here hx rfl (hb hby at_117) rfl ?_
    show Steps p.tables e below (s₁.setTop (mkF m 118 #[.val (.int p1), .val (.int b), .val (.int (7 : Int32)), .unset, .unset, .unset, .unset] [(.int (7 : Int32))])) _
    refine XS.bipush X0.here hx rfl (hb hby at_118) ?_
    show Steps p.tables e below (s₁.setTop (mkF m 120 #[.val (.int p1), .val (.int b), .val (.int (7 : Int32)), .unset, .unset, .unset, .unset] [(.int (6 : Int32)), (.int (7 : Int32))])) _
    refine XS.icmpYes X0.here hx rfl (pc0 := 120) (pc' := 137) rfl (hb hby at_120) rfl (by decide) (by decide) (by decide) ?_
    show Steps p.tables e below (s₁.setTop (mkF m 137 #[.val (.int p1), .val (.int b), .val (.int (7 : Int32)), .unset, .unset, .unset, .unset] [])) _
    refine st1 _ ?_
    show Steps p.tables e below (T1.setTop (mkF m 140 #[.val (.int p1), .val (.int b), .val (.int (7 : Int32)), .unset, .unset, .unset, .unset] [(.ref a)])) _
    refine XS.astoreN X1.here hx rfl (hb hby at_140) rfl rfl (l' := #[.val (.int p1), .val (.int b), .val (.int (7 : Int32)), .val (.ref a), .unset, .unset, .unset]) rfl ?_
    show Steps p.tables e below (T1.setTop (mkF m 141 #[.val (.int p1), .val (.int b), .val (.int (7 : Int32)), .val (.ref a), .unset, .unset, .unset] [])) _
    refine XS.bipush X1.here hx rfl (hb hby at_141) ?_
    show Steps p.tables e below (T1.setTop (mkF m 143 #[.val (.int p1), .val (.int b), .val (.int (7 : Int32)), .val (.ref a), .unset, .unset, .unset] [(.int (64 : Int32))])) _
    refine XS.istore X1.here hx rfl (hb hby at_143) rfl (l' := #[.val (.int p1), .val (.int b), .val (.int (7 : Int32)), .val (.ref a), .val (.int (64 : Int32)), .unset, .unset]) rfl ?_
    show Steps p.tables e below (T1.setTop (mkF m 145 #[.val (.int p1), .val (.int b), .val (.int (7 : Int32)), .val (.ref a), .val (.int (64 : Int32)), .unset, .unset] [])) _
    refine XS.iconst X1.here hx rfl (hb hby at_145) ?_
    show Steps p.tables e below (T1.setTop (mkF m 146 #[.val (.int p1), .val (.int b), .val (.int (7 : Int32)), .val (.ref a), .val (.int (64 : Int32)), .unset, .unset] [(.int (0 : Int32))])) _
    refine XS.istore X1.here hx rfl (hb hby at_146) rfl (l' := #[.val (.int p1), .val (.int b), .val (.int (7 : Int32)), .val (.ref a), .val (.int (64 : Int32)), .val (.int (0 : Int32)), .unset]) rfl ?_
    show Steps p.tables e below (T1.setTop (mkF m 148 #[.val (.int p1), .val (.int b), .val (.int (7 : Int32)), .val (.ref a), .val (.int (64 : Int32)), .val (.int (0 : Int32)), .unset] [])) _
    refine XS.iload X1.here hx rfl (hb hby at_148) rfl ?_
    show Steps p.tables e below (T1.setTop (mkF m 150 #[.val (.int p1), .val (.int b), .val (.int (7 : Int32)), .val (.ref a), .val (.int (64 : Int32)), .val (.int (0 : Int32)), .unset] [(.int (0 : Int32))])) _
    refine XS.ifYes X1.here hx rfl (pc0 := 150) (pc' := 175) rfl (hb hby at_150) rfl (by decide) (by decide) (by decide) ?_
    show Steps p.tables e below (T1.setTop (mkF m 175 #[.val (.int p1), .val (.int b), .val (.int (7 : Int32)), .val (.ref a), .val (.int (64 : Int32)), .val (.int (0 : Int32)), .unset] [])) _
    refine XS.iloadN X1.here hx rfl (hb hby at_175) rfl ?_
    show Steps p.tables e below (T1.setTop (mkF m 176 #[.val (.int p1), .val (.int b), .val (.int (7 : Int32)), .val (.ref a), .val (.int (64 : Int32)), .val (.int (0 : Int32)), .unset] [(.int b)])) _
    refine XS.iload X1.here hx rfl (hb hby at_176) rfl ?_
    show Steps p.tables e below (T1.setTop (mkF m 178 #[.val (.int p1), .val (.int b), .val (.int (7 : Int32)), .val (.ref a), .val (.int (64 : Int32)), .val (.int (0 : Int32)), .unset] [(.int (64 : Int32)), (.int b)])) _
    refine XS.icmpYes X1.here hx rfl (pc0 := 178) (pc' := 185) rfl (hb hby at_178) rfl (feq h178).2 (by decide) (by decide) ?_
    show Steps p.tables e below (T1.setTop (mkF m 185 #[.val (.int p1), .val (.int b), .val (.int (7 : Int32)), .val (.ref a), .val (.int (64 : Int32)), .val (.int (0 : Int32)), .unset] [])) _
    refine XS.iconst X1.here hx rfl (hb hby at_185) ?_
    show Steps p.tables e below (T1.setTop (mkF m 186 #[.val (.int p1), .val (.int b), .val (.int (7 : Int32)), .val (.ref a), .val (.int (64 : Int32)), .val (.int (0 : Int32)), .unset] [(.int (0 : Int32))])) _
    refine XS.istore X1.here hx rfl (hb hby at_186) rfl (l' := #[.val (.int p1), .val (.int b), .val (.int (7 : Int32)), .val (.ref a), .val (.int (64 : Int32)), .val (.int (0 : Int32)), .val (.int (0 : Int32))]) rfl ?_
    show Steps p.tables e below (T1.setTop (mkF m 188 #[.val (.int p1), .val (.int b), .val (.int (7 : Int32)), .val (.ref a), .val (.int (64 : Int32)), .val (.int (0 : Int32)), .val (.int (0 : Int32))] [])) _
    refine XS.aloadN X1.here hx rfl (hb hby at_188) rfl rfl ?_
    show Steps p.tables e below (T1.setTop (mkF m 189 #[.val (.int p1), .val (.int b), .val (.int (7 : Int32)), .val (.ref a), .val (.int (64 : Int32)), .val (.int (0 : Int32)), .val (.int (0 : Int32))] [(.ref a)])) _
    refine XS.iloadN X1.here hx rfl (hb hby at_189) rfl ?_
    show Steps p.tables e below (T1.setTop (mkF m 190 #[.val (.int p1), .val (.int b), .val (.int (7 : Int32)), .val (.ref a), .val (.int (64 : Int32)), .val (.int (0 : Int32)), .val (.int (0 : Int32))] [(.int b), (.ref a)])) _
    refine st2.trans ?_
    show Steps p.tables e below (T2.setTop (mkF m 193 #[.val (.int p1), .val (.int b), .val (.int (7 : Int32)), .val (.ref a), .val (.int (64 : Int32)), .val (.int (0 : Int32)), .val (.int (0 : Int32))] [(.int (0 : Int32))])) _
    refine XS.iload X2.here hx rfl (hb hby at_193) rfl ?_
    show Steps p.tables e below (T2.setTop (mkF m 195 #[.val (.int p1), .val (.int b), .val (.int (7 : Int32)), .val (.ref a), .val (.int (64 : Int32)), .val (.int (0 : Int32)), .val (.int (0 : Int32))] [(.int (0 : Int32)), (.int (0 : Int32))])) _
    refine XS.icmpNo X2.here hx rfl (hb hby at_195) rfl (by decide) ?_
    show Steps p.tables e below (T2.setTop (mkF m 198 #[.val (.int p1), .val (.int b), .val (.int (7 : Int32)), .val (.ref a), .val (.int (64 : Int32)), .val (.int (0 : Int32)), .val (.int (0 : Int32))] [])) _
    refine XS.iconst X2.here hx rfl (hb hby at_198) ?_
    show Steps p.tables e below (T2.setTop (mkF m 199 #[.val (.int p1), .val (.int b), .val (.int (7 : Int32)), .val (.ref a), .val (.int (64 : Int32)), .val (.int (0 : Int32)), .val (.int (0 : Int32))] [(.int (1 : Int32))])) _
    refine XS.goto X2.here hx rfl (pc0 := 199) (pc' := 203) rfl (hb hby at_199) (by decide) (by decide) ?_
    show Steps p.tables e below (T2.setTop (mkF m 203 #[.val (.int p1), .val (.int b), .val (.int (7 : Int32)), .val (.ref a), .val (.int (64 : Int32)), .val (.int (0 : Int32)), .val (.int (0 : Int32))] [(.int (1 : Int32))])) _
    exact retN X2 hx (t := .boolean) Bd.returns (by simp) (hb hby at_203) hr
  · show PQ (.int (1 : Int32)) h0 n0 _ T2.heap _
    exact ⟨rfl, N2, e2⟩

set_option maxRecDepth 65536 in
set_option maxHeartbeats 40000000 in
theorem law_7_eq (l : Launch) (Z : State) (a0 : Array Value) (hw : ∀ d ∈ tables_1, d.before a0 Z = true) (ws : List Jvm.Cond) (p1 b : Int32) (a : Addr) (h0 : Heap) (n0 : Nat) (Z0 : n0 ≤ h0.size) (hi : p1 &&& (7 : Int32) = (7 : Int32)) (S_DOUBLE : Sta Z h0 "com/example/cairnstore/cairnstore/store/PrimitiveType" "DOUBLE" "Lcom/example/cairnstore/cairnstore/store/PrimitiveType;" (.ref a)) (EX : Exa Z h0 a "com/example/cairnstore/cairnstore/store/PrimitiveType$8") (C1 : Pays l Z h0 n0 (⟨"com/example/cairnstore/cairnstore/store/PrimitiveType", "allowsBitsPerElement", "(I)Z"⟩ : MethodName) [Jvm.Cond.code (⟨"com/example/cairnstore/cairnstore/store/PrimitiveType", "allowsBitsPerElement", "(I)Z"⟩ : MethodName) prog_51_method_14_code 2 (some .boolean)] R0 #[(.ref a), (.int b)] (.int (1 : Int32))) (h178 : b = (64 : Int32)) :
    Pays l Z h0 n0 x (Jvm.Cond.code x code maxLocals ret :: ws) room_1 #[(.int p1), (.int b)] (.int (1 : Int32)) := by
  refine MetFree.of_bodySF (plainFor_of_name pn_PrimitiveTypeAllowsBitsPerElementPinLaw) hisR ?_
  intro p e s m args below meth c s₁ Bd hml0 hP hK
  obtain ⟨rfl, hZ, hh⟩ := hP
  have hx := Bd.exec
  have hby := Bd.bytes
  have hml : c.maxLocals = 7 := hml0
  have hown : s.vm.findClass "com/example/cairnstore/cairnstore/store/PrimitiveTypeAllowsBitsPerElementPinLaw" = some m.cls := findClass_of_methodNamed Bd.named
  have X0 : Stand p l e room_1 s m #[(.int p1), (.int b)] below meth c s₁ [] 0 0 := Stand.of_body Bd
  have e0 : s₁.heap = h0 := by rw [← hh, Bd.state]; rfl
  have N0 := Fr.nil n0
  have pre0 : ∀ t, Steps p.tables e below (s₁.setTop (mkF m 0 #[.val (.int p1), .val (.int b), .unset, .unset, .unset, .unset, .unset] [])) t → Steps p.tables e below (s₁.setTop (entryFrame m #[(.int p1), (.int b)] maxLocals)) t := fun t k => castTop (ef_0 m p1 b) k
  obtain ⟨T1, X1, e1, st1⟩ := getS2 X0 hx hZ hown (host := "") (Or.inl (hw _ (List.mem_of_getElem? (i := 27) rfl))) Via.refl e0 S_DOUBLE (g := (mkF m 137 #[.val (.int p1), .val (.int b), .val (.int (7 : Int32)), .unset, .unset, .unset, .unset] [])) rfl (hb hby at_137)
  obtain ⟨cq2, kq2, q2a, q2b, q2c⟩ := isOf hZ e1 EX
  obtain ⟨_, _, ⟨T2, L2, k2, n2⟩, -, X2, ⟨Lc2, hQ2, l2, y2, z2⟩, st2⟩ := X1.virtualBack hx (y := (⟨"com/example/cairnstore/cairnstore/store/PrimitiveType", "allowsBitsPerElement", "(I)Z"⟩ : MethodName)) (z := (⟨"com/example/cairnstore/cairnstore/store/PrimitiveType", "allowsBitsPerElement", "(I)Z"⟩ : MethodName)) hown (mvT hZ (hw _ (List.mem_of_getElem? (i := 3) rfl))) (mvT hZ (hw _ (List.mem_of_getElem? (i := 4) rfl))) (notFace_of_selects (args := #[]) (mvT hZ (hw _ (List.mem_of_getElem? (i := 29) rfl)))) (mvT hZ (hw _ (List.mem_of_getElem? (i := 29) rfl))) (mvT hZ (hw _ (List.mem_of_getElem? (i := 5) rfl))) (by decide) (backOf (W := 0) (Q := PQ (.int (1 : Int32)) h0 n0) C1 hZ (hw _ (List.mem_of_getElem? (i := 7) rfl)) (hw _ (List.mem_of_getElem? (i := 1) rfl)) (by decide) (by decide)) q2a q2c (g := (mkF m 190 #[.val (.int p1), .val (.int b), .val (.int (7 : Int32)), .val (.ref a), .val (.int (64 : Int32)), .val (.int (0 : Int32)), .val (.int (1 : Int32))] [(.int b), (.ref a)])) rfl (by rw [hml]; rfl) (Steps.refl _) (argsL := [(.int b)]) (rest := []) (lenOf pd__I_Z rfl) rfl (by show 2 * 0 + _ ≤ _; exact Nat.le_of_eq rfl) (hb hby at_190) (fun _ _ => ⟨rfl, e1, (by decide : 0 + 0 ≤ _), (by decide : 0 + 0 ≤ _)⟩)
  dsimp only [Pt.U, Pt.locs, Pt.cells, Pt.slots] at X2 l2 y2 z2 st2 hQ2
  subst l2 y2 z2
  obtain ⟨rfl, Nq2, e2⟩ := hQ2
  have N2 := Fr.app N0 Nq2
  obtain ⟨fs, hr, hrun, hended, hW, hsame⟩ := X2.leave (v := some (.int (1 : Int32))) (fun h => by rw [Bd.returns] at h; cases h)
  refine ⟨_, _, pre0 _ ?_, hrun, hended, _, _, rfl, ?_, ⟨_, rfl⟩, hW, hsame.mono (by decide) (by decide)⟩
  · show Steps p.tables e below (s₁.setTop (mkF m 0 #[.val (.int p1), .val (.int b), .unset, .unset, .unset, .unset, .unset] [])) _
    refine XS.iloadN X0.here hx rfl (hb hby at_0) rfl ?_
    show Steps p.tables e below (s₁.setTop (mkF m 1 #[.val (.int p1), .val (.int b), .unset, .unset, .unset, .unset, .unset] [(.int p1)])) _
    refine XS.bipush X0.here hx rfl (hb hby at_1) ?_
    show Steps p.tables e below (s₁.setTop (mkF m 3 #[.val (.int p1), .val (.int b), .unset, .unset, .unset, .unset, .unset] [(.int (7 : Int32)), (.int p1)])) _
    refine XS.iand X0.here hx rfl (hb hby at_3) rfl ?_
    show Steps p.tables e below (s₁.setTop (mkF m 4 #[.val (.int p1), .val (.int b), .unset, .unset, .unset, .unset, .unset] [(.int (p1 &&& (7 : Int32)))])) _
    rw [hi]
    show Steps p.tables e below (s₁.setTop (mkF m 4 #[.val (.int p1), .val (.int b), .unset, .unset, .unset, .unset, .unset] [(.int (7 : Int32))])) _
    refine XS.istoreN X0.here hx rfl (hb hby at_4) rfl (l' := #[.val (.int p1), .val (.int b), .val (.int (7 : Int32)), .unset, .unset, .unset, .unset]) rfl ?_
    show Steps p.tables e below (s₁.setTop (mkF m 5 #[.val (.int p1), .val (.int b), .val (.int (7 : Int32)), .unset, .unset, .unset, .unset] [])) _
    refine XS.iloadN X0.here hx rfl (hb hby at_5) rfl ?_
    show Steps p.tables e below (s₁.setTop (mkF m 6 #[.val (.int p1), .val (.int b), .val (.int (7 : Int32)), .unset, .unset, .unset, .unset] [(.int (7 : Int32))])) _
    refine XS.ifYes X0.here hx rfl (pc0 := 6) (pc' := 22) rfl (hb hby at_6) rfl (by decide) (by decide) (by decide) ?_
    show Steps p.tables e below (s₁.setTop (mkF m 22 #[.val (.int p1), .val (.int b), .val (.int (7 : Int32)), .unset, .unset, .unset, .unset] [])) _
    refine XS.iloadN X0.here hx rfl (hb hby at_22) rfl ?_
    show Steps p.tables e below (s₁.setTop (mkF m 23 #[.val (.int p1), .val (.int b), .val (.int (7 : Int32)), .unset, .unset, .unset, .unset] [(.int (7 : Int32))])) _
    refine XS.iconst X0.here hx rfl (hb hby at_23) ?_
    show Steps p.tables e below (s₁.setTop (mkF m 24 #[.val (.int p1), .val (.int b), .val (.int (7 : Int32)), .unset, .unset, .unset, .unset] [(.int (1 : Int32)), (.int (7 : Int32))])) _
    refine XS.icmpYes X0.here hx rfl (pc0 := 24) (pc' := 41) rfl (hb hby at_24) rfl (by decide) (by decide) (by decide) ?_
    show Steps p.tables e below (s₁.setTop (mkF m 41 #[.val (.int p1), .val (.int b), .val (.int (7 : Int32)), .unset, .unset, .unset, .unset] [])) _
    refine XS.iloadN X0.here hx rfl (hb hby at_41) rfl ?_
    show Steps p.tables e below (s₁.setTop (mkF m 42 #[.val (.int p1), .val (.int b), .val (.int (7 : Int32)), .unset, .unset, .unset, .unset] [(.int (7 : Int32))])) _
    refine XS.iconst X0.here hx rfl (hb hby at_42) ?_
    show Steps p.tables e below (s₁.setTop (mkF m 43 #[.val (.int p1), .val (.int b), .val (.int (7 : Int32)), .unset, .unset, .unset, .unset] [(.int (2 : Int32)), (.int (7 : Int32))])) _
    refine XS.icmpYes X0.here hx rfl (pc0 := 43) (pc' := 60) rfl (hb hby at_43) rfl (by decide) (by decide) (by decide) ?_
    show Steps p.tables e below (s₁.setTop (mkF m 60 #[.val (.int p1), .val (.int b), .val (.int (7 : Int32)), .unset, .unset, .unset, .unset] [])) _
    refine XS.iloadN X0.here hx rfl (hb hby at_60) rfl ?_
    show Steps p.tables e below (s₁.setTop (mkF m 61 #[.val (.int p1), .val (.int b), .val (.int (7 : Int32)), .unset, .unset, .unset, .unset] [(.int (7 : Int32))])) _
    refine XS.iconst X0.here hx rfl (hb hby at_61) ?_
    show Steps p.tables e below (s₁.setTop (mkF m 62 #[.val (.int p1), .val (.int b), .val (.int (7 : Int32)), .unset, .unset, .unset, .unset] [(.int (3 : Int32)), (.int (7 : Int32))])) _
    refine XS.icmpYes X0.here hx rfl (pc0 := 62) (pc' := 79) rfl (hb hby at_62) rfl (by decide) (by decide) (by decide) ?_
    show Steps p.tables e below (s₁.setTop (mkF m 79 #[.val (.int p1), .val (.int b), .val (.int (7 : Int32)), .unset, .unset, .unset, .unset] [])) _
    refine XS.iloadN X0.here hx rfl (hb hby at_79) rfl ?_
    show Steps p.tables e below (s₁.setTop (mkF m 80 #[.val (.int p1), .val (.int b), .val (.int (7 : Int32)), .unset, .unset, .unset, .unset] [(.int (7 : Int32))])) _
    refine XS.iconst X0.here hx rfl (hb hby at_80) ?_
    show Steps p.tables e below (s₁.setTop (mkF m 81 #[.val (.int p1), .val (.int b), .val (.int (7 : Int32)), .unset, .unset, .unset, .unset] [(.int (4 : Int32)), (.int (7 : Int32))])) _
    refine XS.icmpYes X0.here hx rfl (pc0 := 81) (pc' := 98) rfl (hb hby at_81) rfl (by decide) (by decide) (by decide) ?_
    show Steps p.tables e below (s₁.setTop (mkF m 98 #[.val (.int p1), .val (.int b), .val (.int (7 : Int32)), .unset, .unset, .unset, .unset] [])) _
    refine XS.iloadN X0.here hx rfl (hb hby at_98) rfl ?_
    show Steps p.tables e below (s₁.setTop (mkF m 99 #[.val (.int p1), .val (.int b), .val (.int (7 : Int32)), .unset, .unset, .unset, .unset] [(.int (7 : Int32))])) _
    refine XS.iconst X0.here hx rfl (hb hby at_99) ?_
    show Steps p.tables e below (s₁.setTop (mkF m 100 #[.val (.int p1), .val (.int b), .val (.int (7 : Int32)), .unset, .unset, .unset, .unset] [(.int (5 : Int32)), (.int (7 : Int32))])) _
    refine XS.icmpYes X0.here hx rfl (pc0 := 100) (pc' := 117) rfl (hb hby at_100) rfl (by decide) (by decide) (by decide) ?_
    show Steps p.tables e below (s₁.setTop (mkF m 117 #[.val (.int p1), .val (.int b), .val (.int (7 : Int32)), .unset, .unset, .unset, .unset] [])) _
    refine XS.iloadN X0.here hx rfl (hb hby at_117) rfl ?_
    show Steps p.tables e below (s₁.setTop (mkF m 118 #[.val (.int p1), .val (.int b), .val (.int (7 : Int32)), .unset, .unset, .unset, .unset] [(.int (7 : Int32))])) _
    refine XS.bipush X0.here hx rfl (hb hby at_118) ?_
    show Steps p.tables e below (s₁.setTop (mkF m 120 #[.val (.int p1), .val (.int b), .val (.int (7 : Int32)), .unset, .unset, .unset, .unset] [(.int (6 : Int32)), (.int (7 : Int32))])) _
    refine XS.icmpYes X0.here hx rfl (pc0 := 120) (pc' := 137) rfl (hb hby at_120) rfl (by decide) (by decide) (by decide) ?_
    show Steps p.tables e below (s₁.setTop (mkF m 137 #[.val (.int p1), .val (.int b), .val (.int (7 : Int32)), .unset, .unset, .unset, .unset] [])) _
    refine st1 _ ?_
    show Steps p.tables e below (T1.setTop (mkF m 140 #[.val (.int p1), .val (.int b), .val (.int (7 : Int32)), .unset, .unset, .unset, .unset] [(.ref a)])) _
    refine XS.astoreN X1.here hx rfl (hb hby at_140) rfl rfl (l' := #[.val (.int p1), .val (.int b), .val (.int (7 : Int32)), .val (.ref a), .unset, .unset, .unset]) rfl ?_
    show Steps p.tables e below (T1.setTop (mkF m 141 #[.val (.int p1), .val (.int b), .val (.int (7 : Int32)), .val (.ref a), .unset, .unset, .unset] [])) _
    refine XS.bipush X1.here hx rfl (hb hby at_141) ?_
    show Steps p.tables e below (T1.setTop (mkF m 143 #[.val (.int p1), .val (.int b), .val (.int (7 : Int32)), .val (.ref a), .unset, .unset, .unset] [(.int (64 : Int32))])) _
    refine XS.istore X1.here hx rfl (hb hby at_143) rfl (l' := #[.val (.int p1), .val (.int b), .val (.int (7 : Int32)), .val (.ref a), .val (.int (64 : Int32)), .unset, .unset]) rfl ?_
    show Steps p.tables e below (T1.setTop (mkF m 145 #[.val (.int p1), .val (.int b), .val (.int (7 : Int32)), .val (.ref a), .val (.int (64 : Int32)), .unset, .unset] [])) _
    refine XS.iconst X1.here hx rfl (hb hby at_145) ?_
    show Steps p.tables e below (T1.setTop (mkF m 146 #[.val (.int p1), .val (.int b), .val (.int (7 : Int32)), .val (.ref a), .val (.int (64 : Int32)), .unset, .unset] [(.int (0 : Int32))])) _
    refine XS.istore X1.here hx rfl (hb hby at_146) rfl (l' := #[.val (.int p1), .val (.int b), .val (.int (7 : Int32)), .val (.ref a), .val (.int (64 : Int32)), .val (.int (0 : Int32)), .unset]) rfl ?_
    show Steps p.tables e below (T1.setTop (mkF m 148 #[.val (.int p1), .val (.int b), .val (.int (7 : Int32)), .val (.ref a), .val (.int (64 : Int32)), .val (.int (0 : Int32)), .unset] [])) _
    refine XS.iload X1.here hx rfl (hb hby at_148) rfl ?_
    show Steps p.tables e below (T1.setTop (mkF m 150 #[.val (.int p1), .val (.int b), .val (.int (7 : Int32)), .val (.ref a), .val (.int (64 : Int32)), .val (.int (0 : Int32)), .unset] [(.int (0 : Int32))])) _
    refine XS.ifYes X1.here hx rfl (pc0 := 150) (pc' := 175) rfl (hb hby at_150) rfl (by decide) (by decide) (by decide) ?_
    show Steps p.tables e below (T1.setTop (mkF m 175 #[.val (.int p1), .val (.int b), .val (.int (7 : Int32)), .val (.ref a), .val (.int (64 : Int32)), .val (.int (0 : Int32)), .unset] [])) _
    refine XS.iloadN X1.here hx rfl (hb hby at_175) rfl ?_
    show Steps p.tables e below (T1.setTop (mkF m 176 #[.val (.int p1), .val (.int b), .val (.int (7 : Int32)), .val (.ref a), .val (.int (64 : Int32)), .val (.int (0 : Int32)), .unset] [(.int b)])) _
    refine XS.iload X1.here hx rfl (hb hby at_176) rfl ?_
    show Steps p.tables e below (T1.setTop (mkF m 178 #[.val (.int p1), .val (.int b), .val (.int (7 : Int32)), .val (.ref a), .val (.int (64 : Int32)), .val (.int (0 : Int32)), .unset] [(.int (64 : Int32)), (.int b)])) _
    refine XS.icmpNo X1.here hx rfl (hb hby at_178) rfl (teq h178).2 ?_
    show Steps p.tables e below (T1.setTop (mkF m 181 #[.val (.int p1), .val (.int b), .val (.int (7 : Int32)), .val (.ref a), .val (.int (64 : Int32)), .val (.int (0 : Int32)), .unset] [])) _
    refine XS.iconst X1.here hx rfl (hb hby at_181) ?_
    show Steps p.tables e below (T1.setTop (mkF m 182 #[.val (.int p1), .val (.int b), .val (.int (7 : Int32)), .val (.ref a), .val (.int (64 : Int32)), .val (.int (0 : Int32)), .unset] [(.int (1 : Int32))])) _
    refine XS.goto X1.here hx rfl (pc0 := 182) (pc' := 186) rfl (hb hby at_182) (by decide) (by decide) ?_
    show Steps p.tables e below (T1.setTop (mkF m 186 #[.val (.int p1), .val (.int b), .val (.int (7 : Int32)), .val (.ref a), .val (.int (64 : Int32)), .val (.int (0 : Int32)), .unset] [(.int (1 : Int32))])) _
    refine XS.istore X1.here hx rfl (hb hby at_186) rfl (l' := #[.val (.int p1), .val (.int b), .val (.int (7 : Int32)), .val (.ref a), .val (.int (64 : Int32)), .val (.int (0 : Int32)), .val (.int (1 : Int32))]) rfl ?_
    show Steps p.tables e below (T1.setTop (mkF m 188 #[.val (.int p1), .val (.int b), .val (.int (7 : Int32)), .val (.ref a), .val (.int (64 : Int32)), .val (.int (0 : Int32)), .val (.int (1 : Int32))] [])) _
    refine XS.aloadN X1.here hx rfl (hb hby at_188) rfl rfl ?_
    show Steps p.tables e below (T1.setTop (mkF m 189 #[.val (.int p1), .val (.int b), .val (.int (7 : Int32)), .val (.ref a), .val (.int (64 : Int32)), .val (.int (0 : Int32)), .val (.int (1 : Int32))] [(.ref a)])) _
    refine XS.iloadN X1.here hx rfl (hb hby at_189) rfl ?_
    show Steps p.tables e below (T1.setTop (mkF m 190 #[.val (.int p1), .val (.int b), .val (.int (7 : Int32)), .val (.ref a), .val (.int (64 : Int32)), .val (.int (0 : Int32)), .val (.int (1 : Int32))] [(.int b), (.ref a)])) _
    refine st2.trans ?_
    show Steps p.tables e below (T2.setTop (mkF m 193 #[.val (.int p1), .val (.int b), .val (.int (7 : Int32)), .val (.ref a), .val (.int (64 : Int32)), .val (.int (0 : Int32)), .val (.int (1 : Int32))] [(.int (1 : Int32))])) _
    refine XS.iload X2.here hx rfl (hb hby at_193) rfl ?_
    show Steps p.tables e below (T2.setTop (mkF m 195 #[.val (.int p1), .val (.int b), .val (.int (7 : Int32)), .val (.ref a), .val (.int (64 : Int32)), .val (.int (0 : Int32)), .val (.int (1 : Int32))] [(.int (1 : Int32)), (.int (1 : Int32))])) _
    refine XS.icmpNo X2.here hx rfl (hb hby at_195) rfl (by decide) ?_
    show Steps p.tables e below (T2.setTop (mkF m 198 #[.val (.int p1), .val (.int b), .val (.int (7 : Int32)), .val (.ref a), .val (.int (64 : Int32)), .val (.int (0 : Int32)), .val (.int (1 : Int32))] [])) _
    refine XS.iconst X2.here hx rfl (hb hby at_198) ?_
    show Steps p.tables e below (T2.setTop (mkF m 199 #[.val (.int p1), .val (.int b), .val (.int (7 : Int32)), .val (.ref a), .val (.int (64 : Int32)), .val (.int (0 : Int32)), .val (.int (1 : Int32))] [(.int (1 : Int32))])) _
    refine XS.goto X2.here hx rfl (pc0 := 199) (pc' := 203) rfl (hb hby at_199) (by decide) (by decide) ?_
    show Steps p.tables e below (T2.setTop (mkF m 203 #[.val (.int p1), .val (.int b), .val (.int (7 : Int32)), .val (.ref a), .val (.int (64 : Int32)), .val (.int (0 : Int32)), .val (.int (1 : Int32))] [(.int (1 : Int32))])) _
    exact retN X2 hx (t := .boolean) Bd.returns (by simp) (hb hby at_203) hr
  · show PQ (.int (1 : Int32)) h0 n0 _ T2.heap _
    exact ⟨rfl, N2, e2⟩

set_option maxRecDepth 65536 in
set_option maxHeartbeats 40000000 in
theorem comes_1 {Post : Tables → Env → Array Value → State → Outcome → State → Prop} (hpost : ∀ tb e args s v u, (limb_1_1.after args s (.returned v) u = true ∧ limb_1_2.after args s (.returned v) u = true ∧ True) → FrameEnd s (.returned v) u (Jvm.fieldLocs frame_1_writes args s ++ Jvm.arrayLocs frame_1_arrays args s ++ Jvm.staticLocs frame_1_statics s) 0 0 → Post tb e args s (.returned v) u) :
    ArmFor flags0 classFile x code maxLocals ret World_1 tables_1 room_1 Calls_1 rest_1 Pre_1 Post := by
  intro l hfl _ _ p e ha hc hk s m args below hf hA hF happ hP
  obtain ⟨hcalls, hrest, hpre⟩ := hP
  obtain ⟨-, -, -, hnamed, -, -, -, hat⟩ := (Spec.applies_iff hf).mp happ
  obtain ⟨hg, hn⟩ := and_e (Cond.before_iff.mp (show (Jvm.Cond.and given_1 narrow_1).before args s = true from hpre))
  obtain ⟨hg_2, hg_3⟩ := and_e hg
  obtain ⟨hg_4, hg_5⟩ := and_e hg_3
  obtain ⟨w0, w1, rfl⟩ : ∃ w0 w1 : Value, args = #[w0, w1] := by
    have hs : args.size = 2 := by simpa [Cond.value, given_1] using hg_2
    obtain ⟨L⟩ := args
    match L, hs with
    | [w0, w1], _ => exact ⟨w0, w1, rfl⟩
  have hw := fun d (hd : d ∈ tables_1) => atoms_spec (ws := Jvm.Cond.code x code maxLocals ret :: tables_1) hat d (List.mem_cons_of_mem _ hd)
  obtain ⟨i0, ei0⟩ := is_v hg_4
  obtain rfl : w0 = (.int i0) := Option.some.inj ei0
  obtain ⟨i1, ei1⟩ := is_v hg_5
  obtain rfl : w1 = (.int i1) := Option.some.inj ei1
  obtain ⟨hn_2, hn_3⟩ := and_e hn
  obtain ⟨hn_4, hn_5⟩ := and_e hn_3
  obtain ⟨hn_6, hn_7⟩ := and_e hn_5
  obtain ⟨hn_8, hn_9⟩ := and_e hn_7
  obtain ⟨hn_10, hn_11⟩ := and_e hn_9
  obtain ⟨hn_12, hn_13⟩ := and_e hn_11
  obtain ⟨hn_14, hn_15⟩ := and_e hn_13
  obtain ⟨hn_16, hn_17⟩ := and_e hn_15
  obtain ⟨hn_18, hn_19⟩ := and_e hn_17
  obtain ⟨hn_20, hn_21⟩ := and_e hn_19
  obtain ⟨hn_22, hn_23⟩ := and_e hn_21
  obtain ⟨hn_24, hn_25⟩ := and_e hn_23
  obtain ⟨hn_26, hn_27⟩ := and_e hn_25
  obtain ⟨hn_28, hn_29⟩ := and_e hn_27
  obtain ⟨hn_30, hn_31⟩ := and_e hn_29
  obtain ⟨hn_32, hn_33⟩ := and_e hn_31
  obtain ⟨hn_34, hn_35⟩ := and_e hn_33
  obtain ⟨hn_36, hn_37⟩ := and_e hn_35
  obtain ⟨hn_38, hn_39⟩ := and_e hn_37
  obtain ⟨hn_40, hn_41⟩ := and_e hn_39
  obtain ⟨hn_42, hn_43⟩ := and_e hn_41
  obtain ⟨hn_44, hn_45⟩ := and_e hn_43
  obtain ⟨hn_46, hn_47⟩ := and_e hn_45
  obtain ⟨a_BOOLEAN, ev_BOOLEAN⟩ := exa_v hn_2
  have E_BOOLEAN := Exa.start ev_BOOLEAN hn_2
  have S_BOOLEAN := Sta.start ev_BOOLEAN (Or.inr ⟨(hw _ (List.mem_of_getElem? (i := 1) rfl)), (hw _ (List.mem_of_getElem? (i := 2) rfl))⟩)
  obtain ⟨a_LONG, ev_LONG⟩ := exa_v hn_8
  have E_LONG := Exa.start ev_LONG hn_8
  have S_LONG := Sta.start ev_LONG (Or.inr ⟨(hw _ (List.mem_of_getElem? (i := 1) rfl)), (hw _ (List.mem_of_getElem? (i := 13) rfl))⟩)
  obtain ⟨a_INT, ev_INT⟩ := exa_v hn_14
  have E_INT := Exa.start ev_INT hn_14
  have S_INT := Sta.start ev_INT (Or.inr ⟨(hw _ (List.mem_of_getElem? (i := 1) rfl)), (hw _ (List.mem_of_getElem? (i := 18) rfl))⟩)
  obtain ⟨a_FLOAT, ev_FLOAT⟩ := exa_v hn_20
  have E_FLOAT := Exa.start ev_FLOAT hn_20
  have S_FLOAT := Sta.start ev_FLOAT (Or.inr ⟨(hw _ (List.mem_of_getElem? (i := 1) rfl)), (hw _ (List.mem_of_getElem? (i := 23) rfl))⟩)
  obtain ⟨a_DOUBLE, ev_DOUBLE⟩ := exa_v hn_26
  have E_DOUBLE := Exa.start ev_DOUBLE hn_26
  have S_DOUBLE := Sta.start ev_DOUBLE (Or.inr ⟨(hw _ (List.mem_of_getElem? (i := 1) rfl)), (hw _ (List.mem_of_getElem? (i := 28) rfl))⟩)
  obtain ⟨a_CHAR, ev_CHAR⟩ := exa_v hn_32
  have E_CHAR := Exa.start ev_CHAR hn_32
  have S_CHAR := Sta.start ev_CHAR (Or.inr ⟨(hw _ (List.mem_of_getElem? (i := 1) rfl)), (hw _ (List.mem_of_getElem? (i := 33) rfl))⟩)
  obtain ⟨a_BYTE, ev_BYTE⟩ := exa_v hn_38
  have E_BYTE := Exa.start ev_BYTE hn_38
  have S_BYTE := Sta.start ev_BYTE (Or.inr ⟨(hw _ (List.mem_of_getElem? (i := 1) rfl)), (hw _ (List.mem_of_getElem? (i := 38) rfl))⟩)
  obtain ⟨a_SHORT, ev_SHORT⟩ := exa_v hn_44
  have E_SHORT := Exa.start ev_SHORT hn_44
  have S_SHORT := Sta.start ev_SHORT (Or.inr ⟨(hw _ (List.mem_of_getElem? (i := 1) rfl)), (hw _ (List.mem_of_getElem? (i := 43) rfl))⟩)
  have F_BOOLEAN_shaved := Fld.start ((fld_at ev_BOOLEAN).symm.trans (own_eqi hn_4))
  have F_BOOLEAN_width := Fld.start ((fld_at ev_BOOLEAN).symm.trans (own_eqi hn_6))
  have F_LONG_shaved := Fld.start ((fld_at ev_LONG).symm.trans (own_eqi hn_10))
  have F_LONG_width := Fld.start ((fld_at ev_LONG).symm.trans (own_eqi hn_12))
  have F_INT_shaved := Fld.start ((fld_at ev_INT).symm.trans (own_eqi hn_16))
  have F_INT_width := Fld.start ((fld_at ev_INT).symm.trans (own_eqi hn_18))
  have F_FLOAT_shaved := Fld.start ((fld_at ev_FLOAT).symm.trans (own_eqi hn_22))
  have F_FLOAT_width := Fld.start ((fld_at ev_FLOAT).symm.trans (own_eqi hn_24))
  have F_DOUBLE_shaved := Fld.start ((fld_at ev_DOUBLE).symm.trans (own_eqi hn_28))
  have F_DOUBLE_width := Fld.start ((fld_at ev_DOUBLE).symm.trans (own_eqi hn_30))
  have F_CHAR_shaved := Fld.start ((fld_at ev_CHAR).symm.trans (own_eqi hn_34))
  have F_CHAR_width := Fld.start ((fld_at ev_CHAR).symm.trans (own_eqi hn_36))
  have F_BYTE_shaved := Fld.start ((fld_at ev_BYTE).symm.trans (own_eqi hn_40))
  have F_BYTE_width := Fld.start ((fld_at ev_BYTE).symm.trans (own_eqi hn_42))
  have F_SHORT_shaved := Fld.start ((fld_at ev_SHORT).symm.trans (own_eqi hn_46))
  have F_SHORT_width := Fld.start ((fld_at ev_SHORT).symm.trans (own_eqi hn_47))
  have H : Pays l s s.heap s.heap.size x (Jvm.Cond.code x code maxLocals ret :: tables_1) room_1 #[(.int i0), (.int i1)] (.int (1 : Int32)) := by
    rcases own_and i0 with hi | hi | hi | hi | hi | hi | hi | hi
    · by_cases q1 : (0 : Int32) < i1
      · by_cases q2 : i1 < (1 : Int32) + (1 : Int32)
        · exact law_0_in l s _ hw tables_1 i0 i1 a_BOOLEAN s.heap s.heap.size (Nat.le_refl _) hi S_BOOLEAN E_BOOLEAN (al_in l s _ hw a_BOOLEAN i1 1 s.heap s.heap.size (Nat.le_refl _) F_BOOLEAN_shaved F_BOOLEAN_width (own_gt0 q1) (own_in (by decide) q2)) q1 q2
        · exact law_0_hi l s _ hw tables_1 i0 i1 a_BOOLEAN s.heap s.heap.size (Nat.le_refl _) hi S_BOOLEAN E_BOOLEAN (al_hi l s _ hw a_BOOLEAN i1 1 s.heap s.heap.size (Nat.le_refl _) F_BOOLEAN_shaved F_BOOLEAN_width (own_gt0 q1) (own_out (by decide) q2)) q1 q2
      · exact law_0_lo l s _ hw tables_1 i0 i1 a_BOOLEAN s.heap s.heap.size (Nat.le_refl _) hi S_BOOLEAN E_BOOLEAN (al_lo l s _ hw a_BOOLEAN i1 1 s.heap s.heap.size (Nat.le_refl _) F_BOOLEAN_shaved F_BOOLEAN_width (own_le0 q1)) q1
    · by_cases q1 : (0 : Int32) < i1
      · by_cases q2 : i1 < (8 : Int32) + (1 : Int32)
        · exact law_1_in l s _ hw tables_1 i0 i1 a_BYTE s.heap s.heap.size (Nat.le_refl _) hi S_BYTE E_BYTE (al_in l s _ hw a_BYTE i1 8 s.heap s.heap.size (Nat.le_refl _) F_BYTE_shaved F_BYTE_width (own_gt0 q1) (own_in (by decide) q2)) q1 q2
        · exact law_1_hi l s _ hw tables_1 i0 i1 a_BYTE s.heap s.heap.size (Nat.le_refl _) hi S_BYTE E_BYTE (al_hi l s _ hw a_BYTE i1 8 s.heap s.heap.size (Nat.le_refl _) F_BYTE_shaved F_BYTE_width (own_gt0 q1) (own_out (by decide) q2)) q1 q2
      · exact law_1_lo l s _ hw tables_1 i0 i1 a_BYTE s.heap s.heap.size (Nat.le_refl _) hi S_BYTE E_BYTE (al_lo l s _ hw a_BYTE i1 8 s.heap s.heap.size (Nat.le_refl _) F_BYTE_shaved F_BYTE_width (own_le0 q1)) q1
    · by_cases q1 : (0 : Int32) < i1
      · by_cases q2 : i1 < (16 : Int32) + (1 : Int32)
        · exact law_2_in l s _ hw tables_1 i0 i1 a_SHORT s.heap s.heap.size (Nat.le_refl _) hi S_SHORT E_SHORT (al_in l s _ hw a_SHORT i1 16 s.heap s.heap.size (Nat.le_refl _) F_SHORT_shaved F_SHORT_width (own_gt0 q1) (own_in (by decide) q2)) q1 q2
        · exact law_2_hi l s _ hw tables_1 i0 i1 a_SHORT s.heap s.heap.size (Nat.le_refl _) hi S_SHORT E_SHORT (al_hi l s _ hw a_SHORT i1 16 s.heap s.heap.size (Nat.le_refl _) F_SHORT_shaved F_SHORT_width (own_gt0 q1) (own_out (by decide) q2)) q1 q2
      · exact law_2_lo l s _ hw tables_1 i0 i1 a_SHORT s.heap s.heap.size (Nat.le_refl _) hi S_SHORT E_SHORT (al_lo l s _ hw a_SHORT i1 16 s.heap s.heap.size (Nat.le_refl _) F_SHORT_shaved F_SHORT_width (own_le0 q1)) q1
    · by_cases q1 : (0 : Int32) < i1
      · by_cases q2 : i1 < (16 : Int32) + (1 : Int32)
        · exact law_3_in l s _ hw tables_1 i0 i1 a_CHAR s.heap s.heap.size (Nat.le_refl _) hi S_CHAR E_CHAR (al_in l s _ hw a_CHAR i1 16 s.heap s.heap.size (Nat.le_refl _) F_CHAR_shaved F_CHAR_width (own_gt0 q1) (own_in (by decide) q2)) q1 q2
        · exact law_3_hi l s _ hw tables_1 i0 i1 a_CHAR s.heap s.heap.size (Nat.le_refl _) hi S_CHAR E_CHAR (al_hi l s _ hw a_CHAR i1 16 s.heap s.heap.size (Nat.le_refl _) F_CHAR_shaved F_CHAR_width (own_gt0 q1) (own_out (by decide) q2)) q1 q2
      · exact law_3_lo l s _ hw tables_1 i0 i1 a_CHAR s.heap s.heap.size (Nat.le_refl _) hi S_CHAR E_CHAR (al_lo l s _ hw a_CHAR i1 16 s.heap s.heap.size (Nat.le_refl _) F_CHAR_shaved F_CHAR_width (own_le0 q1)) q1
    · by_cases q1 : (0 : Int32) < i1
      · by_cases q2 : i1 < (32 : Int32) + (1 : Int32)
        · exact law_4_in l s _ hw tables_1 i0 i1 a_INT s.heap s.heap.size (Nat.le_refl _) hi S_INT E_INT (al_in l s _ hw a_INT i1 32 s.heap s.heap.size (Nat.le_refl _) F_INT_shaved F_INT_width (own_gt0 q1) (own_in (by decide) q2)) q1 q2
        · exact law_4_hi l s _ hw tables_1 i0 i1 a_INT s.heap s.heap.size (Nat.le_refl _) hi S_INT E_INT (al_hi l s _ hw a_INT i1 32 s.heap s.heap.size (Nat.le_refl _) F_INT_shaved F_INT_width (own_gt0 q1) (own_out (by decide) q2)) q1 q2
      · exact law_4_lo l s _ hw tables_1 i0 i1 a_INT s.heap s.heap.size (Nat.le_refl _) hi S_INT E_INT (al_lo l s _ hw a_INT i1 32 s.heap s.heap.size (Nat.le_refl _) F_INT_shaved F_INT_width (own_le0 q1)) q1
    · by_cases q1 : i1 = (32 : Int32)
      · exact law_5_eq l s _ hw tables_1 i0 i1 a_FLOAT s.heap s.heap.size (Nat.le_refl _) hi S_FLOAT E_FLOAT (al_eq l s _ hw a_FLOAT i1 32 s.heap s.heap.size (Nat.le_refl _) F_FLOAT_shaved F_FLOAT_width q1) q1
      · exact law_5_ne l s _ hw tables_1 i0 i1 a_FLOAT s.heap s.heap.size (Nat.le_refl _) hi S_FLOAT E_FLOAT (al_ne l s _ hw a_FLOAT i1 32 s.heap s.heap.size (Nat.le_refl _) F_FLOAT_shaved F_FLOAT_width q1) q1
    · by_cases q1 : (0 : Int32) < i1
      · by_cases q2 : i1 < (64 : Int32) + (1 : Int32)
        · exact law_6_in l s _ hw tables_1 i0 i1 a_LONG s.heap s.heap.size (Nat.le_refl _) hi S_LONG E_LONG (al_in l s _ hw a_LONG i1 64 s.heap s.heap.size (Nat.le_refl _) F_LONG_shaved F_LONG_width (own_gt0 q1) (own_in (by decide) q2)) q1 q2
        · exact law_6_hi l s _ hw tables_1 i0 i1 a_LONG s.heap s.heap.size (Nat.le_refl _) hi S_LONG E_LONG (al_hi l s _ hw a_LONG i1 64 s.heap s.heap.size (Nat.le_refl _) F_LONG_shaved F_LONG_width (own_gt0 q1) (own_out (by decide) q2)) q1 q2
      · exact law_6_lo l s _ hw tables_1 i0 i1 a_LONG s.heap s.heap.size (Nat.le_refl _) hi S_LONG E_LONG (al_lo l s _ hw a_LONG i1 64 s.heap s.heap.size (Nat.le_refl _) F_LONG_shaved F_LONG_width (own_le0 q1)) q1
    · by_cases q1 : i1 = (64 : Int32)
      · exact law_7_eq l s _ hw tables_1 i0 i1 a_DOUBLE s.heap s.heap.size (Nat.le_refl _) hi S_DOUBLE E_DOUBLE (al_eq l s _ hw a_DOUBLE i1 64 s.heap s.heap.size (Nat.le_refl _) F_DOUBLE_shaved F_DOUBLE_width q1) q1
      · exact law_7_ne l s _ hw tables_1 i0 i1 a_DOUBLE s.heap s.heap.size (Nat.le_refl _) hi S_DOUBLE E_DOUBLE (al_ne l s _ hw a_DOUBLE i1 64 s.heap s.heap.size (Nat.le_refl _) F_DOUBLE_shaved F_DOUBLE_width q1) q1
  obtain ⟨n, o, h1, h2, h3, _, L, rfl, ⟨rfl, N, -⟩, hq⟩ := H p e ha hc hk s m _ below hf ((Spec.applies_iff_loose hf).mp happ).1 ⟨rfl, State.Warmed39.refl s, rfl⟩ trivial
  refine ⟨n, _, h1, h2, h3, hpost _ _ _ _ _ _ ⟨Cond.after_iff.mpr rfl, Cond.after_iff.mpr (eq_i res_at (Term.int_eval (1)) rfl), trivial⟩ ⟨hq.1, hq.2.1, (hq.2.2.sift fun y hy => Or.inr (N y hy)).mono (by decide) (by decide)⟩⟩
theorem main_1_1 : Claimed_1_1 := comes_1 fun _ _ _ _ _ _ h hF => ⟨h.1, hF⟩
theorem main_1_2 : Claimed_1_2 := comes_1 fun _ _ _ _ _ _ h hF => ⟨h.2.1, hF⟩
end Jvm.Pilot.@@N@@
namespace Jvm.Pilot.@@N@@
open Jvm Jvm.ClassFile Sem Op Lib Jvm.Free Jvm.Stand Jvm.Pilot.@@N@@.Jvm.D
/-! MADE BY PROGRAM (witnessworld.py) out of the Statement's table words and the real class files: 20 classes; the members and pool entries that the words name. The judged class is class 1, her method 1. -/
namespace start1
open Jvm.ClassFile
def u (s : String) : CpInfo := .utf8 (stringToUtf16 s)
/-- a pool by its gaps: so many unusable entries, then the entry; so many at the end -/
def gap : Nat → List CpInfo → List CpInfo
  | 0, r => r
  | n + 1, r => .unusable :: gap n r
def poolList (es : List (Nat × CpInfo)) (last : Nat) : List CpInfo := es.foldr (fun e r => gap e.1 (e.2 :: r)) (gap last [])
def pool (es : List (Nat × CpInfo)) (last : Nat) : Array CpInfo := ⟨poolList es last⟩
def fileOf (pool : Array CpInfo) (this : Nat) (attrs : Array Attribute := #[]) (ms : Array MethodInfo := #[]) (fl : Nat := 33) (sup : Nat := 0) (ifs : Array Nat := #[]) (fds : Array FieldInfo := #[]) : ClassFile where
  minorVersion := 0
  majorVersion := 65
  constantPool := pool
  accessFlags := fl
  thisClass := this
  superClass := sup
  interfaces := ifs
  fields := fds
  methods := ms
  attributes := attrs
def plain (name : String) (sup : Option ClassId) : Class where
  name := name
  kind := .ordinary
  loader := none
  accessFlags := 33
  super := sup
  interfaces := #[]
  cf := none
  fields := #[]
  methods := #[]
  instanceTypes := #[]
  staticTypes := #[]
  resolved := #[]
  callSites := []
  init := .initialized
  statics := none
  mirror := none

def pool0 : Array CpInfo := pool [(5, u "<init>"), (0, u "()V"), (1, .class_ 10), (1, u "java/lang/Object")] 113

def k0m0 : Method := { name := "<init>", desc := "()V", sig := { parameters := [], returnType := none }, accessFlags := 1, code := none }
/-- java/lang/Object -/
def k0 : Class := { plain "java/lang/Object" none with
  accessFlags := 33
  interfaces := #[]
  cf := some (fileOf pool0 8 #[] #[{ accessFlags := 1, nameIndex := 5, descriptorIndex := 6, attributes := #[] }] 33 0 #[] #[])
  fields := #[]
  methods := #[k0m0]
  instanceTypes := #[]
  staticTypes := #[]
  resolved := Array.replicate 124 none
  statics := none }

def pool1 : Array CpInfo := pool [(2, .class_ 4), (1, u "java/lang/Object"), (0, u "<init>"), (0, u "()V"), (0, .fieldref 8 9), (0, .class_ 10), (0, .nameAndType 11 12), (0, u "com/example/cairnstore/cairnstore/store/PrimitiveType"), (0, u "BOOLEAN"), (0, u "Lcom/example/cairnstore/cairnstore/store/PrimitiveType;"), (0, .fieldref 8 14), (0, .nameAndType 15 12), (0, u "BYTE"), (0, .fieldref 8 17), (0, .nameAndType 18 12), (0, u "SHORT"), (0, .fieldref 8 20), (0, .nameAndType 21 12), (0, u "CHAR"), (0, .fieldref 8 23), (0, .nameAndType 24 12), (0, u "INT"), (0, .fieldref 8 26), (0, .nameAndType 27 12), (0, u "FLOAT"), (0, .fieldref 8 29), (0, .nameAndType 30 12), (0, u "LONG"), (0, .fieldref 8 32), (0, .nameAndType 33 12), (0, u "DOUBLE"), (0, .methodref 8 35), (0, .nameAndType 36 37), (0, u "allowsBitsPerElement"), (0, u "(I)Z"), (0, .class_ 39), (0, u "com/example/cairnstore/cairnstore/store/PrimitiveTypeAllowsBitsPerElementPinLaw"), (2, u "law"), (0, u "(II)Z")] 3

def k1m0 : Method := { name := "<init>", desc := "()V", sig := { parameters := [], returnType := none }, accessFlags := 1, code := none }
def k1c1 : Code := { maxStack := 3, maxLocals := 7, code := code, exceptionTable := #[], attributes := #[] }
def k1m1 : Method := { name := "law", desc := "(II)Z", sig := { parameters := [.int, .int], returnType := some .boolean }, accessFlags := 9, code := some k1c1 }
/-- com/example/cairnstore/cairnstore/store/PrimitiveTypeAllowsBitsPerElementPinLaw -/
def k1 : Class := { plain "com/example/cairnstore/cairnstore/store/PrimitiveTypeAllowsBitsPerElementPinLaw" (some 0) with
  accessFlags := 49
  interfaces := #[]
  cf := some (fileOf pool1 38 #[] #[{ accessFlags := 1, nameIndex := 5, descriptorIndex := 6, attributes := #[] }, { accessFlags := 9, nameIndex := 42, descriptorIndex := 43, attributes := #[] }] 49 2 #[] #[])
  fields := #[]
  methods := #[k1m0, k1m1]
  instanceTypes := #[]
  staticTypes := #[]
  resolved := Array.replicate 47 none
  statics := none }

def pool2 : Array CpInfo := pool [(1, .class_ 2), (0, u "java/lang/constant/Constable"), (0, .class_ 4), (0, u "java/lang/Object")] 6

/-- java/lang/constant/Constable -/
def k2 : Class := { plain "java/lang/constant/Constable" (some 0) with
  accessFlags := 1537
  interfaces := #[]
  cf := some (fileOf pool2 1 #[] #[] 1537 3 #[] #[])
  fields := #[]
  methods := #[]
  instanceTypes := #[]
  staticTypes := #[]
  resolved := Array.replicate 11 none
  statics := none }

def pool3 : Array CpInfo := pool [(1, .class_ 2), (0, u "java/lang/Comparable"), (0, .class_ 4), (0, u "java/lang/Object")] 7

/-- java/lang/Comparable -/
def k3 : Class := { plain "java/lang/Comparable" (some 0) with
  accessFlags := 1537
  interfaces := #[]
  cf := some (fileOf pool3 1 #[] #[] 1537 3 #[] #[])
  fields := #[]
  methods := #[]
  instanceTypes := #[]
  staticTypes := #[]
  resolved := Array.replicate 12 none
  statics := none }

def pool4 : Array CpInfo := pool [(1, .class_ 2), (0, u "java/io/Serializable"), (0, .class_ 4), (0, u "java/lang/Object")] 2

/-- java/io/Serializable -/
def k4 : Class := { plain "java/io/Serializable" (some 0) with
  accessFlags := 1537
  interfaces := #[]
  cf := some (fileOf pool4 1 #[] #[] 1537 3 #[] #[])
  fields := #[]
  methods := #[]
  instanceTypes := #[]
  staticTypes := #[]
  resolved := Array.replicate 7 none
  statics := none }

def pool5 : Array CpInfo := pool [(2, .class_ 4), (1, u "java/lang/Enum"), (0, u "name"), (0, u "Ljava/lang/String;"), (2, u "ordinal"), (0, u "I"), (1, .class_ 14), (1, u "java/lang/Object"), (4, u "hash"), (86, .class_ 108), (1, u "java/lang/Enum$EnumDesc"), (2, .class_ 112), (0, u "java/lang/constant/Constable"), (0, .class_ 114), (0, u "java/lang/Comparable"), (0, .class_ 116), (0, u "java/io/Serializable")] 87

/-- java/lang/Enum -/
def k5 : Class := { plain "java/lang/Enum" (some 0) with
  accessFlags := 1057
  interfaces := #[2, 3, 4]
  cf := some (fileOf pool5 2 #[.nestMembers #[106]] #[] 1057 12 #[111, 113, 115] #[{ accessFlags := 18, nameIndex := 5, descriptorIndex := 6, attributes := #[] }, { accessFlags := 18, nameIndex := 9, descriptorIndex := 10, attributes := #[] }, { accessFlags := 2, nameIndex := 19, descriptorIndex := 10, attributes := #[] }])
  fields := #[{ name := "name", type := (.object "java/lang/String"), accessFlags := 18, slot := 0, constantValue := 0 }, { name := "ordinal", type := .int, accessFlags := 18, slot := 1, constantValue := 0 }, { name := "hash", type := .int, accessFlags := 2, slot := 2, constantValue := 0 }]
  methods := #[]
  instanceTypes := #[(.object "java/lang/String"), .int, .int]
  staticTypes := #[]
  resolved := Array.replicate 204 none
  statics := none }

def pool6 : Array CpInfo := pool [(1, .class_ 2), (0, u "com/example/cairnstore/cairnstore/store/PrimitiveType"), (2, u "BOOLEAN"), (0, u "Lcom/example/cairnstore/cairnstore/store/PrimitiveType;"), (2, u "BYTE"), (2, u "SHORT"), (2, u "CHAR"), (2, u "INT"), (2, u "FLOAT"), (2, u "LONG"), (2, u "DOUBLE"), (2, u "$VALUES"), (0, u "[Lcom/example/cairnstore/cairnstore/store/PrimitiveType;"), (6, .class_ 40), (1, u "java/lang/Enum"), (8, u "code"), (0, u "I"), (2, u "arrayClass"), (0, u "Ljava/lang/Class;"), (2, u "valueClass"), (0, .fieldref 1 59), (0, .nameAndType 60 50), (0, u "width"), (0, .fieldref 1 62), (0, .nameAndType 63 64), (0, u "shaved"), (0, u "Z"), (70, .class_ 136), (0, u "com/example/cairnstore/cairnstore/store/PrimitiveType$1"), (8, .class_ 146), (0, u "com/example/cairnstore/cairnstore/store/PrimitiveType$2"), (6, .class_ 154), (0, u "com/example/cairnstore/cairnstore/store/PrimitiveType$3"), (6, .class_ 162), (0, u "com/example/cairnstore/cairnstore/store/PrimitiveType$4"), (6, .class_ 170), (0, u "com/example/cairnstore/cairnstore/store/PrimitiveType$5"), (6, .class_ 178), (0, u "com/example/cairnstore/cairnstore/store/PrimitiveType$6"), (6, .class_ 186), (0, u "com/example/cairnstore/cairnstore/store/PrimitiveType$7"), (4, .class_ 192), (0, u "com/example/cairnstore/cairnstore/store/PrimitiveType$8"), (25, u "allowsBitsPerElement"), (0, u "(I)Z")] 13

def k6c0 : Code := { maxStack := 2, maxLocals := 2, code := prog_51_method_14_code, exceptionTable := #[], attributes := #[] }
def k6m0 : Method := { name := "allowsBitsPerElement", desc := "(I)Z", sig := { parameters := [.int], returnType := some .boolean }, accessFlags := 0, code := some k6c0 }
/-- com/example/cairnstore/cairnstore/store/PrimitiveType -/
def k6 : Class := { plain "com/example/cairnstore/cairnstore/store/PrimitiveType" (some 5) with
  accessFlags := 17440
  interfaces := #[]
  cf := some (fileOf pool6 1 #[.nestMembers #[191, 185, 177, 169, 161, 153, 145, 135]] #[{ accessFlags := 0, nameIndex := 218, descriptorIndex := 219, attributes := #[] }] 17440 38 #[] #[{ accessFlags := 16409, nameIndex := 5, descriptorIndex := 6, attributes := #[] }, { accessFlags := 16409, nameIndex := 9, descriptorIndex := 6, attributes := #[] }, { accessFlags := 16409, nameIndex := 12, descriptorIndex := 6, attributes := #[] }, { accessFlags := 16409, nameIndex := 15, descriptorIndex := 6, attributes := #[] }, { accessFlags := 16409, nameIndex := 18, descriptorIndex := 6, attributes := #[] }, { accessFlags := 16409, nameIndex := 21, descriptorIndex := 6, attributes := #[] }, { accessFlags := 16409, nameIndex := 24, descriptorIndex := 6, attributes := #[] }, { accessFlags := 16409, nameIndex := 27, descriptorIndex := 6, attributes := #[] }, { accessFlags := 18, nameIndex := 49, descriptorIndex := 50, attributes := #[] }, { accessFlags := 18, nameIndex := 53, descriptorIndex := 54, attributes := #[] }, { accessFlags := 18, nameIndex := 57, descriptorIndex := 54, attributes := #[] }, { accessFlags := 18, nameIndex := 60, descriptorIndex := 50, attributes := #[] }, { accessFlags := 18, nameIndex := 63, descriptorIndex := 64, attributes := #[] }, { accessFlags := 4122, nameIndex := 30, descriptorIndex := 31, attributes := #[] }])
  fields := #[{ name := "BOOLEAN", type := (.object "com/example/cairnstore/cairnstore/store/PrimitiveType"), accessFlags := 16409, slot := 0, constantValue := 0 }, { name := "BYTE", type := (.object "com/example/cairnstore/cairnstore/store/PrimitiveType"), accessFlags := 16409, slot := 1, constantValue := 0 }, { name := "SHORT", type := (.object "com/example/cairnstore/cairnstore/store/PrimitiveType"), accessFlags := 16409, slot := 2, constantValue := 0 }, { name := "CHAR", type := (.object "com/example/cairnstore/cairnstore/store/PrimitiveType"), accessFlags := 16409, slot := 3, constantValue := 0 }, { name := "INT", type := (.object "com/example/cairnstore/cairnstore/store/PrimitiveType"), accessFlags := 16409, slot := 4, constantValue := 0 }, { name := "FLOAT", type := (.object "com/example/cairnstore/cairnstore/store/PrimitiveType"), accessFlags := 16409, slot := 5, constantValue := 0 }, { name := "LONG", type := (.object "com/example/cairnstore/cairnstore/store/PrimitiveType"), accessFlags := 16409, slot := 6, constantValue := 0 }, { name := "DOUBLE", type := (.object "com/example/cairnstore/cairnstore/store/PrimitiveType"), accessFlags := 16409, slot := 7, constantValue := 0 }, { name := "code", type := .int, accessFlags := 18, slot := 3, constantValue := 0 }, { name := "arrayClass", type := (.object "java/lang/Class"), accessFlags := 18, slot := 4, constantValue := 0 }, { name := "valueClass", type := (.object "java/lang/Class"), accessFlags := 18, slot := 5, constantValue := 0 }, { name := "width", type := .int, accessFlags := 18, slot := 6, constantValue := 0 }, { name := "shaved", type := .boolean, accessFlags := 18, slot := 7, constantValue := 0 }, { name := "$VALUES", type := (.array (.object "com/example/cairnstore/cairnstore/store/PrimitiveType")), accessFlags := 4122, slot := 8, constantValue := 0 }]
  methods := #[k6m0]
  instanceTypes := #[(.object "java/lang/String"), .int, .int, .int, (.object "java/lang/Class"), (.object "java/lang/Class"), .int, .boolean]
  staticTypes := #[(.object "com/example/cairnstore/cairnstore/store/PrimitiveType"), (.object "com/example/cairnstore/cairnstore/store/PrimitiveType"), (.object "com/example/cairnstore/cairnstore/store/PrimitiveType"), (.object "com/example/cairnstore/cairnstore/store/PrimitiveType"), (.object "com/example/cairnstore/cairnstore/store/PrimitiveType"), (.object "com/example/cairnstore/cairnstore/store/PrimitiveType"), (.object "com/example/cairnstore/cairnstore/store/PrimitiveType"), (.object "com/example/cairnstore/cairnstore/store/PrimitiveType"), (.array (.object "com/example/cairnstore/cairnstore/store/PrimitiveType"))]
  resolved := Array.replicate 233 none
  statics := some 0 }

def pool7 : Array CpInfo := pool [(2, .class_ 4), (1, u "com/example/cairnstore/cairnstore/store/PrimitiveType"), (4, .class_ 10), (0, u "com/example/cairnstore/cairnstore/store/PrimitiveType$1")] 15

/-- com/example/cairnstore/cairnstore/store/PrimitiveType$1 -/
def k7 : Class := { plain "com/example/cairnstore/cairnstore/store/PrimitiveType$1" (some 6) with
  accessFlags := 16432
  interfaces := #[]
  cf := some (fileOf pool7 9 #[.nestHost 2] #[] 16432 2 #[] #[])
  fields := #[]
  methods := #[]
  instanceTypes := #[(.object "java/lang/String"), .int, .int, .int, (.object "java/lang/Class"), (.object "java/lang/Class"), .int, .boolean]
  staticTypes := #[]
  resolved := Array.replicate 26 none
  statics := none }

def pool8 : Array CpInfo := pool [(2, .class_ 4), (1, u "com/example/cairnstore/cairnstore/store/PrimitiveType"), (4, .class_ 10), (0, u "com/example/cairnstore/cairnstore/store/PrimitiveType$7")] 12

/-- com/example/cairnstore/cairnstore/store/PrimitiveType$7 -/
def k8 : Class := { plain "com/example/cairnstore/cairnstore/store/PrimitiveType$7" (some 6) with
  accessFlags := 16432
  interfaces := #[]
  cf := some (fileOf pool8 9 #[.nestHost 2] #[] 16432 2 #[] #[])
  fields := #[]
  methods := #[]
  instanceTypes := #[(.object "java/lang/String"), .int, .int, .int, (.object "java/lang/Class"), (.object "java/lang/Class"), .int, .boolean]
  staticTypes := #[]
  resolved := Array.replicate 23 none
  statics := none }

def pool9 : Array CpInfo := pool [(2, .class_ 4), (1, u "com/example/cairnstore/cairnstore/store/PrimitiveType"), (4, .class_ 10), (0, u "com/example/cairnstore/cairnstore/store/PrimitiveType$5")] 12

/-- com/example/cairnstore/cairnstore/store/PrimitiveType$5 -/
def k9 : Class := { plain "com/example/cairnstore/cairnstore/store/PrimitiveType$5" (some 6) with
  accessFlags := 16432
  interfaces := #[]
  cf := some (fileOf pool9 9 #[.nestHost 2] #[] 16432 2 #[] #[])
  fields := #[]
  methods := #[]
  instanceTypes := #[(.object "java/lang/String"), .int, .int, .int, (.object "java/lang/Class"), (.object "java/lang/Class"), .int, .boolean]
  staticTypes := #[]
  resolved := Array.replicate 23 none
  statics := none }

def pool10 : Array CpInfo := pool [(2, .class_ 4), (1, u "com/example/cairnstore/cairnstore/store/PrimitiveType"), (14, .class_ 20), (0, u "com/example/cairnstore/cairnstore/store/PrimitiveType$6")] 12

/-- com/example/cairnstore/cairnstore/store/PrimitiveType$6 -/
def k10 : Class := { plain "com/example/cairnstore/cairnstore/store/PrimitiveType$6" (some 6) with
  accessFlags := 16432
  interfaces := #[]
  cf := some (fileOf pool10 19 #[.nestHost 2] #[] 16432 2 #[] #[])
  fields := #[]
  methods := #[]
  instanceTypes := #[(.object "java/lang/String"), .int, .int, .int, (.object "java/lang/Class"), (.object "java/lang/Class"), .int, .boolean]
  staticTypes := #[]
  resolved := Array.replicate 33 none
  statics := none }

def pool11 : Array CpInfo := pool [(2, .class_ 4), (1, u "com/example/cairnstore/cairnstore/store/PrimitiveType"), (14, .class_ 20), (0, u "com/example/cairnstore/cairnstore/store/PrimitiveType$8")] 12

/-- com/example/cairnstore/cairnstore/store/PrimitiveType$8 -/
def k11 : Class := { plain "com/example/cairnstore/cairnstore/store/PrimitiveType$8" (some 6) with
  accessFlags := 16432
  interfaces := #[]
  cf := some (fileOf pool11 19 #[.nestHost 2] #[] 16432 2 #[] #[])
  fields := #[]
  methods := #[]
  instanceTypes := #[(.object "java/lang/String"), .int, .int, .int, (.object "java/lang/Class"), (.object "java/lang/Class"), .int, .boolean]
  staticTypes := #[]
  resolved := Array.replicate 33 none
  statics := none }

def pool12 : Array CpInfo := pool [(2, .class_ 4), (1, u "com/example/cairnstore/cairnstore/store/PrimitiveType"), (4, .class_ 10), (0, u "com/example/cairnstore/cairnstore/store/PrimitiveType$4")] 12

/-- com/example/cairnstore/cairnstore/store/PrimitiveType$4 -/
def k12 : Class := { plain "com/example/cairnstore/cairnstore/store/PrimitiveType$4" (some 6) with
  accessFlags := 16432
  interfaces := #[]
  cf := some (fileOf pool12 9 #[.nestHost 2] #[] 16432 2 #[] #[])
  fields := #[]
  methods := #[]
  instanceTypes := #[(.object "java/lang/String"), .int, .int, .int, (.object "java/lang/Class"), (.object "java/lang/Class"), .int, .boolean]
  staticTypes := #[]
  resolved := Array.replicate 23 none
  statics := none }

def pool13 : Array CpInfo := pool [(2, .class_ 4), (1, u "com/example/cairnstore/cairnstore/store/PrimitiveType"), (4, .class_ 10), (0, u "com/example/cairnstore/cairnstore/store/PrimitiveType$2")] 12

/-- com/example/cairnstore/cairnstore/store/PrimitiveType$2 -/
def k13 : Class := { plain "com/example/cairnstore/cairnstore/store/PrimitiveType$2" (some 6) with
  accessFlags := 16432
  interfaces := #[]
  cf := some (fileOf pool13 9 #[.nestHost 2] #[] 16432 2 #[] #[])
  fields := #[]
  methods := #[]
  instanceTypes := #[(.object "java/lang/String"), .int, .int, .int, (.object "java/lang/Class"), (.object "java/lang/Class"), .int, .boolean]
  staticTypes := #[]
  resolved := Array.replicate 23 none
  statics := none }

def pool14 : Array CpInfo := pool [(2, .class_ 4), (1, u "com/example/cairnstore/cairnstore/store/PrimitiveType"), (4, .class_ 10), (0, u "com/example/cairnstore/cairnstore/store/PrimitiveType$3")] 12

/-- com/example/cairnstore/cairnstore/store/PrimitiveType$3 -/
def k14 : Class := { plain "com/example/cairnstore/cairnstore/store/PrimitiveType$3" (some 6) with
  accessFlags := 16432
  interfaces := #[]
  cf := some (fileOf pool14 9 #[.nestHost 2] #[] 16432 2 #[] #[])
  fields := #[]
  methods := #[]
  instanceTypes := #[(.object "java/lang/String"), .int, .int, .int, (.object "java/lang/Class"), (.object "java/lang/Class"), .int, .boolean]
  staticTypes := #[]
  resolved := Array.replicate 23 none
  statics := none }

def pool15 : Array CpInfo := pool [(1, u "java/lang/Cloneable"), (0, .class_ 1), (0, u "java/lang/Object"), (0, .class_ 3)] 3

/-- java/lang/Cloneable -/
def k15 : Class := { plain "java/lang/Cloneable" (some 0) with
  accessFlags := 1537
  interfaces := #[]
  cf := some (fileOf pool15 2 #[] #[] 1537 4 #[] #[])
  fields := #[]
  methods := #[]
  instanceTypes := #[]
  staticTypes := #[]
  resolved := Array.replicate 8 none
  statics := none }

/-- the primitive byte -/
def k16 : Class := { plain "byte" none with kind := .primitive 'B', accessFlags := 0x411 }
/-- [B -/
def k17 : Class := { plain "[B" (some 0) with kind := .array 16 .byte, interfaces := #[15, 4], accessFlags := 1041 }

/-- the primitive int -/
def k18 : Class := { plain "int" none with kind := .primitive 'I', accessFlags := 0x411 }
/-- [I -/
def k19 : Class := { plain "[I" (some 0) with kind := .array 18 .int, interfaces := #[15, 4], accessFlags := 1041 }

def heap : Heap := #[{ cls := 6, slots := #[.ref 1, .ref 2, .ref 3, .ref 4, .ref 5, .ref 6, .ref 7, .ref 8, .null], vm := .statics 6 },
  { cls := 7, slots := #[.null, .int 0, .int 0, .int 0, .null, .null, .int 1, .int 1], vm := .none },
  { cls := 13, slots := #[.null, .int 1, .int 0, .int 0, .null, .null, .int 8, .int 1], vm := .none },
  { cls := 14, slots := #[.null, .int 2, .int 0, .int 0, .null, .null, .int 16, .int 1], vm := .none },
  { cls := 12, slots := #[.null, .int 3, .int 0, .int 0, .null, .null, .int 16, .int 1], vm := .none },
  { cls := 9, slots := #[.null, .int 4, .int 0, .int 0, .null, .null, .int 32, .int 1], vm := .none },
  { cls := 10, slots := #[.null, .int 5, .int 0, .int 0, .null, .null, .int 32, .int 0], vm := .none },
  { cls := 8, slots := #[.null, .int 6, .int 0, .int 0, .null, .null, .int 64, .int 1], vm := .none },
  { cls := 11, slots := #[.null, .int 7, .int 0, .int 0, .null, .null, .int 64, .int 0], vm := .none }]
def classes : Array Class := #[k0, k1, k2, k3, k4, k5, k6, k7, k8, k9, k10, k11, k12, k13, k14, k15, k16, k17, k18, k19]
def interned : List (Array UInt16 × Addr) := []
def slotsUsed : Nat := 73
def theMethod : MethodId := ⟨1, 1⟩
def args0 : Array Value := #[.int 5, .int 4]
def aboutOver (below : List Frame) : State where
  vm := { classes := classes, interned := interned.toArray }
  heap := heap
  slotsUsed := slotsUsed
  threads := #[{ frames := .invoking theMethod args0 :: below }]
def below0 : List Frame := [.native { method := ⟨0, 0⟩, args := #[] }]
def about1 : State := aboutOver below0
def p0 : Program := .bare "" "" ""
def e0 : Env := launch0.env 0 0 0
theorem w_frames : about1.frames = Frame.invoking theMethod args0 :: below0 := rfl
set_option maxRecDepth 65536 in
theorem w_args : argsFit about1.vm theMethod args0 = true := by decide +kernel
set_option maxRecDepth 65536 in
theorem w_heap : heapFits about1 = true := by decide +kernel
set_option maxRecDepth 65536 in
theorem w_runnable : about1.curStatus? = some .runnable := by decide +kernel
set_option maxRecDepth 65536 in
theorem w_alone : about1.alone = true := by decide +kernel
set_option maxRecDepth 65536 in
theorem w_named : about1.methodNamed? x = some theMethod := by decide +kernel
set_option maxRecDepth 65536 in
theorem w_hears : about1.hears theMethod below0 = true := by decide +kernel
set_option maxRecDepth 65536 in
theorem w_ripe : about1.ripe theMethod args0 below0 = true := by decide +kernel
theorem w_running : about1.status = .running := rfl
set_option maxRecDepth 65536 in
theorem w_room : about1.hasRoom e0.platform room_1 = true :=
  launch0.hasRoom_least _ room_1 (by decide +kernel) (by decide +kernel) (by decide +kernel) (by decide +kernel) (by decide +kernel) (by decide +kernel)
theorem allAtoms_all (ts : List Jvm.Cond) (a : Array Jvm.Value) (st : Jvm.State) : (allAtoms ts).before a st = ts.all (fun c => c.before a st) := by
  induction ts with
  | nil => rfl
  | cons c t ih =>
    show (Jvm.Cond.and c (allAtoms t)).before a st = _
    rw [Jvm.Cond.before_and, ih, List.all_cons]
def words1 : List Jvm.Cond := Jvm.Cond.code x code maxLocals ret :: tables_1
/-- a 'code' word, met by the world's own term for the bytes: nothing is compared byte by byte -/
theorem code_word {y : MethodName} {bytes : ByteArray} {mx : Nat} {rt : Option FieldType} {a : Array Value} {s : State} {m : MethodId} {meth : Method} {c : Code} (h1 : s.methodNamed? y = some m) (h2 : s.vm.method? m = some meth) (h3 : meth.code = some c) (h4 : c.code = bytes)
    (h5 : (c.maxLocals == mx && c.exceptionTable.isEmpty && decide (c.maxStack ≤ mostOperands) && decide (meth.sig.returnType = rt) && !meth.locks && decide (parseMethodDescriptor y.desc = some meth.sig)) = true) : (Jvm.Cond.code y bytes mx rt).before a s = true := by
  simp only [Bool.and_eq_true, beq_iff_eq, Bool.not_eq_true', decide_eq_true_eq] at h5
  obtain ⟨⟨⟨⟨⟨g1, g2⟩, g3⟩, g4⟩, g5⟩, g6⟩ := h5
  simp [Cond.before, Cond.holds, Cond.value, h1, h2, h3, h4, g1, g2, g3, g4, g5, g6]
def isCode : Jvm.Cond → Bool
  | .code _ _ _ _ => true
  | _ => false
theorem all_split {L : List Jvm.Cond} {P : Jvm.Cond → Bool} (h1 : L.all (fun c => isCode c || P c) = true) (h2 : ∀ c ∈ L.filter isCode, P c = true) : L.all P = true := by
  refine List.all_eq_true.mpr fun c hc => ?_
  have h := List.all_eq_true.mp h1 c hc
  rcases Bool.eq_false_or_eq_true (isCode c) with hi | hi
  · exact h2 c (List.mem_filter.mpr ⟨hc, hi⟩)
  · simpa [hi] using h
set_option maxRecDepth 65536 in
theorem w_c0 : (Jvm.Cond.code x code maxLocals ret).before args0 about1 = true := code_word (m := ⟨1, 1⟩) (meth := k1m1) (c := k1c1) (by decide +kernel) rfl rfl rfl (by decide +kernel)
set_option maxRecDepth 65536 in
theorem w_c1 : (Jvm.Cond.code ({ cls := "com/example/cairnstore/cairnstore/store/PrimitiveType", name := "allowsBitsPerElement", desc := "(I)Z" } : Jvm.MethodName) prog_51_method_14_code (2 : Nat) (Option.some Jvm.ClassFile.FieldType.boolean)).before args0 about1 = true := code_word (m := ⟨6, 0⟩) (meth := k6m0) (c := k6c0) (by decide +kernel) rfl rfl rfl (by decide +kernel)
def codes1 : List Jvm.Cond := [Jvm.Cond.code x code maxLocals ret, Jvm.Cond.code ({ cls := "com/example/cairnstore/cairnstore/store/PrimitiveType", name := "allowsBitsPerElement", desc := "(I)Z" } : Jvm.MethodName) prog_51_method_14_code (2 : Nat) (Option.some Jvm.ClassFile.FieldType.boolean)]
set_option maxRecDepth 65536 in
theorem codes_eq : words1.filter isCode = codes1 := rfl
theorem w_codes : ∀ c ∈ words1.filter isCode, c.before args0 about1 = true := by
  rw [codes_eq]
  intro c hc
  simp only [codes1, List.mem_cons, List.not_mem_nil, or_false] at hc
  rcases hc with rfl | rfl
  · exact w_c0
  · exact w_c1
set_option maxRecDepth 65536 in
theorem w_t1 : (words1.take 24).all (fun c => isCode c || c.before args0 about1) = true := by decide +kernel
set_option maxRecDepth 65536 in
theorem w_t2 : (words1.drop 24).all (fun c => isCode c || c.before args0 about1) = true := by decide +kernel
theorem w_tables : (allAtoms (Jvm.Cond.code x code maxLocals ret :: tables_1)).before args0 about1 = true := by
  rw [allAtoms_all]
  show words1.all (fun c => c.before args0 about1) = true
  refine all_split ?_ w_codes
  rw [← List.take_append_drop 24 words1, List.all_append, w_t1, w_t2]
  rfl
set_option maxRecDepth 65536 in
theorem w_case : (Jvm.Cond.and given_1 narrow_1).before args0 about1 = true := by decide +kernel
theorem w_applies : (headSpec (Jvm.Cond.code x code maxLocals ret :: tables_1) room_1).applies x e0.platform about1 = true :=
  (Spec.applies_iff w_frames).mpr ⟨w_running, w_runnable, w_alone, w_named, w_hears, w_ripe, w_room, w_tables⟩
theorem atStart : AtStart classFile x code maxLocals ret World_1 tables_1 room_1 Calls_1 rest_1 Pre_1 launch0 p0 e0 about1 theMethod args0 below0 :=
  ⟨lists_1, trivial, launch0.admits_env _ _ _, launch0.least_env, fairChoices_fair.cas, fairChoices_fair.clock, w_frames, w_args, w_heap, w_applies, trivial, trivial, w_case⟩
end start1
theorem witness_1 : WitnessClaimed_1 := ⟨start1.p0, start1.e0, start1.about1, start1.theMethod, start1.args0, start1.below0, start1.atStart⟩
end Jvm.Pilot.@@N@@
