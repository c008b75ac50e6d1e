import JvmDerived
import JvmDerived.Pilot.@@N@@Statement
import JvmDerived.Pilot.@@N@@Code
@@BLOCK:NumsL.lean.txt@@
set_option linter.unusedVariables false
set_option linter.unusedSimpArgs false
namespace Jvm.RoadKit
open Sem ClassFile Op Lib Jvm.Stand Jvm.Free Jvm.LawKit
section New
variable {p : Program} {l : Launch} {e : Env} {R : Room} {s : State} {m : MethodId} {args : Array Value} {below : List Frame} {meth : Method} {c : Code} {T : State} {locs : List Loc} {cells slots : Nat}
theorem retI (X : Stand p l e R s m args below meth c T locs cells slots) (hx : p.tables.exec = Jvm.exec) {pc : Nat} {Ls : Array Slot} {z : Int32} {rest : List Value} (hret : meth.sig.returnType = some .int) (hd : decode c.code pc = .ok (.ireturn, 1)) {fs : List Frame}
    (hl : ∀ (f : JFrame) (acts : List Action), f.method = m → f.locked = none → f.entered = [] → (doReturn e (T.setTop f) acts (some (.int z))).1 = T.setFrames fs) : Steps p.tables e below (T.setTop (mkF m pc Ls (.int z :: rest))) (T.setFrames fs) := by
  have hm' : T.vm.method? m = some meth := X.method'
  have hn : narrow .int (.int z) = .int z := rfl
  show Steps p.tables e below (T.setTop { method := m, pc := pc, locals := Ls, stack := _ :: rest, locked := none }) _
  jvm_step X.here [X.here.top, hx, hd, hm', hret, hn]
  first | (intro acts; rw [hl _ acts rfl rfl rfl]) | rw [hl _ _ rfl rfl rfl]
  exact Steps.refl _
end New
end Jvm.RoadKit
namespace Jvm.Pilot.@@N@@
open Jvm Jvm.ClassFile Sem Op Lib Jvm.Free Jvm.Stand Jvm.LawKit Jvm.RoadKit Bundle Jvm.Pilot.@@N@@.Jvm.D
/-- what a body leaves that writes nothing: the value r, and the heap as it was -/
def PQ (r : Value) (h0 : Heap) (n0 : Nat) (v : Option Value) (h : Heap) (L : List Loc) : Prop := v = some r ∧ Fr n0 L ∧ h = h0
abbrev PaysQ (l : Launch) (Z : State) (h0 : Heap) (y : MethodName) (ws : List Jvm.Cond) (rm : Room) (as : Array Value) (Q : Option Value → Heap → List Loc → Prop) : Prop :=
  MetFree l y (head1 ws rm) (fun a U => a = as ∧ Z.Warmed39 U.vm ∧ U.heap = h0) (fun _ _ _ _ _ => True) (fun _ U o U' => ∃ v L, o = .returned v ∧ Q v U'.heap L ∧ FrameEnd U o U' L rm.cells rm.slots)
abbrev Pays (l : Launch) (Z : State) (h0 : Heap) (n0 : Nat) (y : MethodName) (ws : List Jvm.Cond) (rm : Room) (as : Array Value) (r : Value) : Prop :=
  MetFree l y (head1 ws rm) (fun a U => a = as ∧ Z.Warmed39 U.vm ∧ U.heap = h0) (fun _ _ _ _ _ => True) (fun _ U o U' => ∃ v L, o = .returned v ∧ PQ r h0 n0 v U'.heap L ∧ FrameEnd U o U' L rm.cells rm.slots)
abbrev R0 : Room := { frames := 0, cells := 0, slots := 0, locals := 0 }
theorem own_eqi {args : Array Value} {first s : State} {o : Option Outcome} {idx : List Nat} {t : Term} {z : Int32} (h : (Jvm.Cond.eq t (.int z)).value args first o s idx = some true) : t.eval args first o idx s = some (.int z) := by
  simp only [Cond.value, Term.eval] at h; cases ht : t.eval args first o idx s with | none => simp [ht] at h | some x => cases x <;> simp [ht] at h ⊢; exact h
theorem own_eql {args : Array Value} {first s : State} {o : Option Outcome} {idx : List Nat} {t : Term} {z : Int64} (h : (Jvm.Cond.eq t (.long z)).value args first o s idx = some true) : t.eval args first o idx s = some (.long z) := by
  simp only [Cond.value, Term.eval] at h; cases ht : t.eval args first o idx s with | none => simp [ht] at h | some x => cases x <;> simp [ht] at h ⊢; exact h

theorem own_mod (k : Int32) : (k &&& (2147483647 : Int32)) % (4 : Int32) = (0 : Int32) ∨ (k &&& (2147483647 : Int32)) % (4 : Int32) = (1 : Int32) ∨ (k &&& (2147483647 : Int32)) % (4 : Int32) = (2 : Int32) ∨ (k &&& (2147483647 : Int32)) % (4 : Int32) = (3 : Int32) := by
  have h1 := Jvm.Kit.i32_mask k (2147483647 : Int32) (k := 31) (by decide) (by decide)
  have h2 := Jvm.Kit.i32_rem_nonneg (x := k &&& (2147483647 : Int32)) (y := (4 : Int32)) (by rw [h1]; exact Int.emod_nonneg _ (by decide))
  have en : ((4 : Int32)).toInt = 4 := by decide
  rw [en] at h2
  have e0 : ((0 : Int32)).toInt = 0 := by decide
  have e1 : ((1 : Int32)).toInt = 1 := by decide
  have e2 : ((2 : Int32)).toInt = 2 := by decide
  have e3 : ((3 : Int32)).toInt = 3 := by decide
  simp only [← Int32.toInt_inj, e0, e1, e2, e3]
  omega


theorem own_L {L : Int64} (h1 : 0 ≤ L.toInt) (h2 : L.toInt ≤ 9) : L = (0 : Int64) ∨ L = (1 : Int64) ∨ L = (2 : Int64) ∨ L = (3 : Int64) ∨ L = (4 : Int64) ∨ L = (5 : Int64) ∨ L = (6 : Int64) ∨ L = (7 : Int64) ∨ L = (8 : Int64) ∨ L = (9 : Int64) := by
  have e0 : ((0 : Int64)).toInt = 0 := by decide
  have e1 : ((1 : Int64)).toInt = 1 := by decide
  have e2 : ((2 : Int64)).toInt = 2 := by decide
  have e3 : ((3 : Int64)).toInt = 3 := by decide
  have e4 : ((4 : Int64)).toInt = 4 := by decide
  have e5 : ((5 : Int64)).toInt = 5 := by decide
  have e6 : ((6 : Int64)).toInt = 6 := by decide
  have e7 : ((7 : Int64)).toInt = 7 := by decide
  have e8 : ((8 : Int64)).toInt = 8 := by decide
  have e9 : ((9 : Int64)).toInt = 9 := by decide
  simp only [← Int64.toInt_inj, e0, e1, e2, e3, e4, e5, e6, e7, e8, e9]
  omega


theorem own_sh {L : Int64} (h1 : 0 < L.toInt) (h2 : L.toInt ≤ 9) : (((L + (65535 : Int64)).toUInt64 >>> ((16 : Int32) &&& 0x3f).toInt64.toUInt64).toInt64) = (1 : Int64) := by
  rcases own_L (Int.le_of_lt h1) h2 with rfl | rfl | rfl | rfl | rfl | rfl | rfl | rfl | rfl | rfl
  · exact absurd h1 (by decide)
  all_goals decide +kernel
theorem own_ln {L : Int64} (h1 : 0 ≤ L.toInt) (h2 : L.toInt ≤ 9) : ¬ L.toInt32 < (0 : Int32) ∧ L.toInt32.toNatClampNeg ≤ 9 := by
  rcases own_L h1 h2 with rfl | rfl | rfl | rfl | rfl | rfl | rfl | rfl | rfl | rfl
  all_goals decide +kernel
theorem own_ix {i L : Int64} (h0 : 0 ≤ i.toInt) (h1 : i.toInt < L.toInt) (h2 : L.toInt ≤ 9) :
    ((((i.toUInt64 >>> ((16 : Int32) &&& 0x3f).toInt64.toUInt64).toInt64).toInt32) = (0 : Int32)) ∧ ¬ ((i &&& (65535 : Int64)).toInt32 < (0 : Int32)) ∧ (i &&& (65535 : Int64)).toInt32 < L.toInt32 := by
  have a : (i &&& (65535 : Int64)).toInt32.toInt = i.toInt := by
    rcases own_L h0 (by omega) with rfl | rfl | rfl | rfl | rfl | rfl | rfl | rfl | rfl | rfl
    all_goals decide +kernel
  have b : L.toInt32.toInt = L.toInt := Jvm.Kit.i32_of_i64 (by omega) (by omega)
  refine ⟨?_, ?_, ?_⟩
  · rcases own_L h0 (by omega) with rfl | rfl | rfl | rfl | rfl | rfl | rfl | rfl | rfl | rfl
    all_goals decide +kernel
  · rw [Int32.lt_iff_toInt_lt, a]; show ¬ i.toInt < 0; omega
  · rw [Int32.lt_iff_toInt_lt, a, b]; exact h1
/-- the segments of a SegmentedIntArray that holds something: one int[] as long as the whole -/
def SegT (Z : State) (h : Heap) (n1 : Nat) (seg : Addr) (L : Int64) (arr inn : Addr) : Prop :=
  n1 ≤ arr ∧ n1 ≤ inn ∧ arr ≠ inn ∧ Fld Z h seg "com/example/vexpi/vexpi/graph/SegmentedIntArray" "segments" "[[I" (.ref arr) ∧ (∃ kA, Arv Z h arr kA (.array .int) (1 : Int32) [.ref inn] .null) ∧ ∃ cl, Arr Z h inn cl .int ∧ cl.slots.size = L.toInt32.toNatClampNeg
def SegP (Z : State) (h : Heap) (n1 : Nat) (seg : Addr) (L : Int64) : Prop :=
  Exa Z h seg "com/example/vexpi/vexpi/graph/SegmentedIntArray" ∧ Fld Z h seg "com/example/vexpi/vexpi/graph/SegmentedIntArray" "length" "J" (.long L) ∧ (L = 0 ∨ ∃ arr inn, SegT Z h n1 seg L arr inn)
def own_ab (d i : Int32) : Int32 := if i < d then 1 else 0

abbrev R1 : Room := { frames := 1, cells := 2, slots := 10, locals := 17 }

abbrev R5 : Room := { frames := 2, cells := 0, slots := 0, locals := 29 }

abbrev R6 : Room := { frames := 1, cells := 0, slots := 0, locals := 14 }

abbrev R10 : Room := { frames := 1, cells := 0, slots := 0, locals := 12 }

abbrev R12 : Room := { frames := 1, cells := 0, slots := 0, locals := 12 }

theorem d3_0 : decode jdk_29_method_43_code 0 = .ok (.lload_n 0, 1) := by decide +kernel
theorem d3_1 : decode jdk_29_method_43_code 1 = .ok (.l2i, 1) := by decide +kernel
theorem d3_2 : decode jdk_29_method_43_code 2 = .ok (.i2l, 1) := by decide +kernel
theorem d3_3 : decode jdk_29_method_43_code 3 = .ok (.lload_n 0, 1) := by decide +kernel
theorem d3_4 : decode jdk_29_method_43_code 4 = .ok (.lcmp, 1) := by decide +kernel
theorem d3_5 : decode jdk_29_method_43_code 5 = .ok (.ifCond .eq 13, 3) := by decide +kernel
theorem d3_18 : decode jdk_29_method_43_code 18 = .ok (.lload_n 0, 1) := by decide +kernel
theorem d3_19 : decode jdk_29_method_43_code 19 = .ok (.l2i, 1) := by decide +kernel
theorem d3_20 : decode jdk_29_method_43_code 20 = .ok (.ireturn, 1) := by decide +kernel
theorem ef_3 (m : MethodId) (x0 : Int64) : entryFrame m #[(.long x0)] 2 = mkF m 0 #[.val (.long x0), .second] [] := by first | (simp [entryFrame, mkF, argsToLocals, Value.category]; done) | rfl
set_option maxRecDepth 65536 in
set_option maxHeartbeats 40000000 in
theorem te_0 (l : Launch) (Z : State) (a0 : Array Value) (hw : ∀ d ∈ tables_1, d.before a0 Z = true)  (h0 : Heap) (n0 : Nat) (Z0 : n0 ≤ h0.size)  :
    Pays l Z h0 n0 (⟨"java/lang/Math", "toIntExact", "(J)I"⟩ : MethodName) [Jvm.Cond.code (⟨"java/lang/Math", "toIntExact", "(J)I"⟩ : MethodName) jdk_29_method_43_code 2 (some .int)] R0 #[(.long (0 : Int64))] (.int (0 : Int32)) := by
  refine MetFree.of_bodySF (Jvm.Free.JP.mathPlain rfl (by decide +kernel)) hisR ?_
  intro p e s m args below meth c s₁ Bd hml0 hP hK
  obtain ⟨rfl, hZ, hh⟩ := hP
  have hx := Bd.exec
  have hby := Bd.bytes
  have hml : c.maxLocals = 2 := hml0
  have hown : s.vm.findClass "java/lang/Math" = some m.cls := findClass_of_methodNamed Bd.named
  have X0 : Stand p l e R0 s m #[(.long (0 : Int64))] below meth c s₁ [] 0 0 := Stand.of_body Bd
  have e0 : s₁.heap = h0 := by rw [← hh, Bd.state]; rfl
  have N0 := Fr.nil n0
  have pre0 : ∀ t, Steps p.tables e below (s₁.setTop (mkF m 0 #[.val (.long (0 : Int64)), .second] [])) t → Steps p.tables e below (s₁.setTop (entryFrame m #[(.long (0 : Int64))] 2)) t := fun t k => castTop (ef_3 m (0 : Int64)) k
  obtain ⟨fs, hr, hrun, hended, hW, hsame⟩ := X0.leave (v := some (.int (0 : Int32))) (fun h => by rw [Bd.returns] at h; cases h)
  refine ⟨_, _, pre0 _ ?_, hrun, hended, _, _, rfl, ?_, ⟨_, rfl⟩, hW, hsame.mono (by decide) (by decide)⟩
  · show Steps p.tables e below (s₁.setTop (mkF m 0 #[.val (.long (0 : Int64)), .second] [])) _
    refine XS.lloadN X0.here hx rfl (hb hby d3_0) rfl ?_
    show Steps p.tables e below (s₁.setTop (mkF m 1 #[.val (.long (0 : Int64)), .second] [(.long (0 : Int64))])) _
    refine XS.l2i X0.here hx rfl (hb hby d3_1) rfl ?_
    show Steps p.tables e below (s₁.setTop (mkF m 2 #[.val (.long (0 : Int64)), .second] [(.int ((0 : Int64).toInt32))])) _
    refine XS.i2l X0.here hx rfl (hb hby d3_2) rfl ?_
    show Steps p.tables e below (s₁.setTop (mkF m 3 #[.val (.long (0 : Int64)), .second] [(.long (((0 : Int64).toInt32).toInt64))])) _
    refine XS.lloadN X0.here hx rfl (hb hby d3_3) rfl ?_
    show Steps p.tables e below (s₁.setTop (mkF m 4 #[.val (.long (0 : Int64)), .second] [(.long (0 : Int64)), (.long (((0 : Int64).toInt32).toInt64))])) _
    refine XS.lcmp X0.here hx rfl (hb hby d3_4) rfl ?_
    show Steps p.tables e below (s₁.setTop (mkF m 5 #[.val (.long (0 : Int64)), .second] [(.int (lcmpW (((0 : Int64).toInt32).toInt64) (0 : Int64)))])) _
    refine XS.ifYes X0.here hx rfl (pc0 := 5) (pc' := 18) rfl (hb hby d3_5) rfl (by decide +kernel) (by decide) (by decide) ?_
    show Steps p.tables e below (s₁.setTop (mkF m 18 #[.val (.long (0 : Int64)), .second] [])) _
    refine XS.lloadN X0.here hx rfl (hb hby d3_18) rfl ?_
    show Steps p.tables e below (s₁.setTop (mkF m 19 #[.val (.long (0 : Int64)), .second] [(.long (0 : Int64))])) _
    refine XS.l2i X0.here hx rfl (hb hby d3_19) rfl ?_
    show Steps p.tables e below (s₁.setTop (mkF m 20 #[.val (.long (0 : Int64)), .second] [(.int ((0 : Int64).toInt32))])) _
    rw [show ((0 : Int64).toInt32) = (0 : Int32) from by decide +kernel]
    show Steps p.tables e below (s₁.setTop (mkF m 20 #[.val (.long (0 : Int64)), .second] [(.int (0 : Int32))])) _
    exact retI X0 hx Bd.returns (hb hby d3_20) hr
  · show PQ (.int (0 : Int32)) h0 n0 _ s₁.heap _
    exact ⟨rfl, N0, e0⟩

set_option maxRecDepth 65536 in
set_option maxHeartbeats 40000000 in
theorem te_1 (l : Launch) (Z : State) (a0 : Array Value) (hw : ∀ d ∈ tables_1, d.before a0 Z = true)  (h0 : Heap) (n0 : Nat) (Z0 : n0 ≤ h0.size)  :
    Pays l Z h0 n0 (⟨"java/lang/Math", "toIntExact", "(J)I"⟩ : MethodName) [Jvm.Cond.code (⟨"java/lang/Math", "toIntExact", "(J)I"⟩ : MethodName) jdk_29_method_43_code 2 (some .int)] R0 #[(.long (1 : Int64))] (.int (1 : Int32)) := by
  refine MetFree.of_bodySF (Jvm.Free.JP.mathPlain rfl (by decide +kernel)) hisR ?_
  intro p e s m args below meth c s₁ Bd hml0 hP hK
  obtain ⟨rfl, hZ, hh⟩ := hP
  have hx := Bd.exec
  have hby := Bd.bytes
  have hml : c.maxLocals = 2 := hml0
  have hown : s.vm.findClass "java/lang/Math" = some m.cls := findClass_of_methodNamed Bd.named
  have X0 : Stand p l e R0 s m #[(.long (1 : Int64))] below meth c s₁ [] 0 0 := Stand.of_body Bd
  have e0 : s₁.heap = h0 := by rw [← hh, Bd.state]; rfl
  have N0 := Fr.nil n0
  have pre0 : ∀ t, Steps p.tables e below (s₁.setTop (mkF m 0 #[.val (.long (1 : Int64)), .second] [])) t → Steps p.tables e below (s₁.setTop (entryFrame m #[(.long (1 : Int64))] 2)) t := fun t k => castTop (ef_3 m (1 : Int64)) k
  obtain ⟨fs, hr, hrun, hended, hW, hsame⟩ := X0.leave (v := some (.int (1 : Int32))) (fun h => by rw [Bd.returns] at h; cases h)
  refine ⟨_, _, pre0 _ ?_, hrun, hended, _, _, rfl, ?_, ⟨_, rfl⟩, hW, hsame.mono (by decide) (by decide)⟩
  · show Steps p.tables e below (s₁.setTop (mkF m 0 #[.val (.long (1 : Int64)), .second] [])) _
    refine XS.lloadN X0.here hx rfl (hb hby d3_0) rfl ?_
    show Steps p.tables e below (s₁.setTop (mkF m 1 #[.val (.long (1 : Int64)), .second] [(.long (1 : Int64))])) _
    refine XS.l2i X0.here hx rfl (hb hby d3_1) rfl ?_
    show Steps p.tables e below (s₁.setTop (mkF m 2 #[.val (.long (1 : Int64)), .second] [(.int ((1 : Int64).toInt32))])) _
    refine XS.i2l X0.here hx rfl (hb hby d3_2) rfl ?_
    show Steps p.tables e below (s₁.setTop (mkF m 3 #[.val (.long (1 : Int64)), .second] [(.long (((1 : Int64).toInt32).toInt64))])) _
    refine XS.lloadN X0.here hx rfl (hb hby d3_3) rfl ?_
    show Steps p.tables e below (s₁.setTop (mkF m 4 #[.val (.long (1 : Int64)), .second] [(.long (1 : Int64)), (.long (((1 : Int64).toInt32).toInt64))])) _
    refine XS.lcmp X0.here hx rfl (hb hby d3_4) rfl ?_
    show Steps p.tables e below (s₁.setTop (mkF m 5 #[.val (.long (1 : Int64)), .second] [(.int (lcmpW (((1 : Int64).toInt32).toInt64) (1 : Int64)))])) _
    refine XS.ifYes X0.here hx rfl (pc0 := 5) (pc' := 18) rfl (hb hby d3_5) rfl (by decide +kernel) (by decide) (by decide) ?_
    show Steps p.tables e below (s₁.setTop (mkF m 18 #[.val (.long (1 : Int64)), .second] [])) _
    refine XS.lloadN X0.here hx rfl (hb hby d3_18) rfl ?_
    show Steps p.tables e below (s₁.setTop (mkF m 19 #[.val (.long (1 : Int64)), .second] [(.long (1 : Int64))])) _
    refine XS.l2i X0.here hx rfl (hb hby d3_19) rfl ?_
    show Steps p.tables e below (s₁.setTop (mkF m 20 #[.val (.long (1 : Int64)), .second] [(.int ((1 : Int64).toInt32))])) _
    rw [show ((1 : Int64).toInt32) = (1 : Int32) from by decide +kernel]
    show Steps p.tables e below (s₁.setTop (mkF m 20 #[.val (.long (1 : Int64)), .second] [(.int (1 : Int32))])) _
    exact retI X0 hx Bd.returns (hb hby d3_20) hr
  · show PQ (.int (1 : Int32)) h0 n0 _ s₁.heap _
    exact ⟨rfl, N0, e0⟩

theorem d4_0 : decode jdk_29_method_70_code 0 = .ok (.lload_n 0, 1) := by decide +kernel
theorem d4_1 : decode jdk_29_method_70_code 1 = .ok (.lload_n 2, 1) := by decide +kernel
theorem d4_2 : decode jdk_29_method_70_code 2 = .ok (.lcmp, 1) := by decide +kernel
theorem d4_3 : decode jdk_29_method_70_code 3 = .ok (.ifCond .gt 7, 3) := by decide +kernel
theorem d4_10 : decode jdk_29_method_70_code 10 = .ok (.lload_n 2, 1) := by decide +kernel
theorem d4_11 : decode jdk_29_method_70_code 11 = .ok (.lreturn, 1) := by decide +kernel
theorem ef_4 (m : MethodId) (x0 : Int64) (x1 : Int64) : entryFrame m #[(.long x0), (.long x1)] 4 = mkF m 0 #[.val (.long x0), .second, .val (.long x1), .second] [] := by first | (simp [entryFrame, mkF, argsToLocals, Value.category]; done) | rfl
set_option maxRecDepth 65536 in
set_option maxHeartbeats 40000000 in
theorem mnJ (l : Launch) (Z : State) (a0 : Array Value) (hw : ∀ d ∈ tables_1, d.before a0 Z = true) (q : Int64) (h0 : Heap) (n0 : Nat) (Z0 : n0 ≤ h0.size) (h3 : 0 < lcmpW (65536 : Int64) q) :
    Pays l Z h0 n0 (⟨"java/lang/Math", "min", "(JJ)J"⟩ : MethodName) [Jvm.Cond.code (⟨"java/lang/Math", "min", "(JJ)J"⟩ : MethodName) jdk_29_method_70_code 4 (some .long)] R0 #[(.long (65536 : Int64)), (.long q)] (.long q) := by
  refine MetFree.of_bodySF (Jvm.Free.JP.mathPlain rfl (by decide +kernel)) hisR ?_
  intro p e s m args below meth c s₁ Bd hml0 hP hK
  obtain ⟨rfl, hZ, hh⟩ := hP
  have hx := Bd.exec
  have hby := Bd.bytes
  have hml : c.maxLocals = 4 := hml0
  have hown : s.vm.findClass "java/lang/Math" = some m.cls := findClass_of_methodNamed Bd.named
  have X0 : Stand p l e R0 s m #[(.long (65536 : Int64)), (.long q)] below meth c s₁ [] 0 0 := Stand.of_body Bd
  have e0 : s₁.heap = h0 := by rw [← hh, Bd.state]; rfl
  have N0 := Fr.nil n0
  have pre0 : ∀ t, Steps p.tables e below (s₁.setTop (mkF m 0 #[.val (.long (65536 : Int64)), .second, .val (.long q), .second] [])) t → Steps p.tables e below (s₁.setTop (entryFrame m #[(.long (65536 : Int64)), (.long q)] 4)) t := fun t k => castTop (ef_4 m (65536 : Int64) q) k
  obtain ⟨fs, hr, hrun, hended, hW, hsame⟩ := X0.leave (v := some (.long q)) (fun h => by rw [Bd.returns] at h; cases h)
  refine ⟨_, _, pre0 _ ?_, hrun, hended, _, _, rfl, ?_, ⟨_, rfl⟩, hW, hsame.mono (by decide) (by decide)⟩
  · show Steps p.tables e below (s₁.setTop (mkF m 0 #[.val (.long (65536 : Int64)), .second, .val (.long q), .second] [])) _
    refine XS.lloadN X0.here hx rfl (hb hby d4_0) rfl ?_
    show Steps p.tables e below (s₁.setTop (mkF m 1 #[.val (.long (65536 : Int64)), .second, .val (.long q), .second] [(.long (65536 : Int64))])) _
    refine XS.lloadN X0.here hx rfl (hb hby d4_1) rfl ?_
    show Steps p.tables e below (s₁.setTop (mkF m 2 #[.val (.long (65536 : Int64)), .second, .val (.long q), .second] [(.long q), (.long (65536 : Int64))])) _
    refine XS.lcmp X0.here hx rfl (hb hby d4_2) rfl ?_
    show Steps p.tables e below (s₁.setTop (mkF m 3 #[.val (.long (65536 : Int64)), .second, .val (.long q), .second] [(.int (lcmpW (65536 : Int64) q))])) _
    refine XS.ifYes X0.here hx rfl (pc0 := 3) (pc' := 10) rfl (hb hby d4_3) rfl ((if0 _ _).trans (tlt h3).2.2.1) (by decide) (by decide) ?_
    show Steps p.tables e below (s₁.setTop (mkF m 10 #[.val (.long (65536 : Int64)), .second, .val (.long q), .second] [])) _
    refine XS.lloadN X0.here hx rfl (hb hby d4_10) rfl ?_
    show Steps p.tables e below (s₁.setTop (mkF m 11 #[.val (.long (65536 : Int64)), .second, .val (.long q), .second] [(.long q)])) _
    jvm_step X0.here [X0.here.top, hx, (hb hby d4_11), X0.method', Bd.returns, narrow]
    first | (intro acts; rw [hr _ acts rfl rfl rfl]) | rw [hr _ _ rfl rfl rfl]
    exact Steps.refl _
  · show PQ (.long q) h0 n0 _ s₁.heap _
    exact ⟨rfl, N0, e0⟩

theorem d8_0 : decode prog_4_method_5_code 0 = .ok (.lload_n 0, 1) := by decide +kernel
theorem d8_1 : decode prog_4_method_5_code 1 = .ok (.ldc2_w 18, 3) := by decide +kernel
theorem d8_4 : decode prog_4_method_5_code 4 = .ok (.land, 1) := by decide +kernel
theorem d8_5 : decode prog_4_method_5_code 5 = .ok (.l2i, 1) := by decide +kernel
theorem d8_6 : decode prog_4_method_5_code 6 = .ok (.ireturn, 1) := by decide +kernel
theorem pn_SegmentedIntArray : plainName "com/example/vexpi/vexpi/graph/SegmentedIntArray" = true := by first | (simp [plainName, overriddenIn]; done) | decide +kernel
theorem ef_8 (m : MethodId) (x0 : Int64) : entryFrame m #[(.long x0)] 2 = mkF m 0 #[.val (.long x0), .second] [] := by first | (simp [entryFrame, mkF, argsToLocals, Value.category]; done) | rfl
set_option maxRecDepth 65536 in
set_option maxHeartbeats 40000000 in
theorem pos (l : Launch) (Z : State) (a0 : Array Value) (hw : ∀ d ∈ tables_1, d.before a0 Z = true) (q : Int64) (h0 : Heap) (n0 : Nat) (Z0 : n0 ≤ h0.size)  :
    Pays l Z h0 n0 (⟨"com/example/vexpi/vexpi/graph/SegmentedIntArray", "positionOf", "(J)I"⟩ : MethodName) [Jvm.Cond.code (⟨"com/example/vexpi/vexpi/graph/SegmentedIntArray", "positionOf", "(J)I"⟩ : MethodName) prog_4_method_5_code 2 (some .int)] R0 #[(.long q)] (.int ((q &&& (65535 : Int64)).toInt32)) := by
  refine MetFree.of_bodySF (plainFor_of_name pn_SegmentedIntArray) hisR ?_
  intro p e s m args below meth c s₁ Bd hml0 hP hK
  obtain ⟨rfl, hZ, hh⟩ := hP
  have hx := Bd.exec
  have hby := Bd.bytes
  have hml : c.maxLocals = 2 := hml0
  have hown : s.vm.findClass "com/example/vexpi/vexpi/graph/SegmentedIntArray" = some m.cls := findClass_of_methodNamed Bd.named
  have X0 : Stand p l e R0 s m #[(.long q)] below meth c s₁ [] 0 0 := Stand.of_body Bd
  have e0 : s₁.heap = h0 := by rw [← hh, Bd.state]; rfl
  have N0 := Fr.nil n0
  have pre0 : ∀ t, Steps p.tables e below (s₁.setTop (mkF m 0 #[.val (.long q), .second] [])) t → Steps p.tables e below (s₁.setTop (entryFrame m #[(.long q)] 2)) t := fun t k => castTop (ef_8 m q) k
  obtain ⟨fs, hr, hrun, hended, hW, hsame⟩ := X0.leave (v := some (.int ((q &&& (65535 : Int64)).toInt32))) (fun h => by rw [Bd.returns] at h; cases h)
  refine ⟨_, _, pre0 _ ?_, hrun, hended, _, _, rfl, ?_, ⟨_, rfl⟩, hW, hsame.mono (by decide) (by decide)⟩
  · show Steps p.tables e below (s₁.setTop (mkF m 0 #[.val (.long q), .second] [])) _
    refine XS.lloadN X0.here hx rfl (hb hby d8_0) rfl ?_
    show Steps p.tables e below (s₁.setTop (mkF m 1 #[.val (.long q), .second] [(.long q)])) _
    refine X0.ldc2J hx hown (mvT hZ (hw _ (List.mem_of_getElem? (i := 11) rfl))) (g := (mkF m 1 #[.val (.long q), .second] [(.long q)])) rfl (hb hby d8_1) ?_
    show Steps p.tables e below (s₁.setTop (mkF m 4 #[.val (.long q), .second] [(.long (65535 : Int64)), (.long q)])) _
    refine XS.land X0.here hx rfl (hb hby d8_4) rfl ?_
    show Steps p.tables e below (s₁.setTop (mkF m 5 #[.val (.long q), .second] [(.long (q &&& (65535 : Int64)))])) _
    refine XS.l2i X0.here hx rfl (hb hby d8_5) rfl ?_
    show Steps p.tables e below (s₁.setTop (mkF m 6 #[.val (.long q), .second] [(.int ((q &&& (65535 : Int64)).toInt32))])) _
    exact retI X0 hx Bd.returns (hb hby d8_6) hr
  · show PQ (.int ((q &&& (65535 : Int64)).toInt32)) h0 n0 _ s₁.heap _
    exact ⟨rfl, N0, e0⟩

theorem d9_0 : decode method_3_code 0 = .ok (.iload_n 0, 1) := by decide +kernel
theorem d9_1 : decode method_3_code 1 = .ok (.iload_n 1, 1) := by decide +kernel
theorem d9_2 : decode method_3_code 2 = .ok (.if_icmp .le 7, 3) := by decide +kernel
theorem d9_5 : decode method_3_code 5 = .ok (.iconst 1, 1) := by decide +kernel
theorem d9_6 : decode method_3_code 6 = .ok (.goto 4, 3) := by decide +kernel
theorem d9_10 : decode method_3_code 10 = .ok (.ireturn, 1) := by decide +kernel
theorem pn_LinkGraphGetInDegreePinLaw : plainName "com/example/vexpi/vexpi/graph/LinkGraphGetInDegreePinLaw" = true := by first | (simp [plainName, overriddenIn]; done) | decide +kernel
theorem ef_9 (m : MethodId) (x0 : Int32) (x1 : Int32) : entryFrame m #[(.int x0), (.int x1)] 2 = mkF m 0 #[.val (.int x0), .val (.int x1)] [] := by first | (simp [entryFrame, mkF, argsToLocals, Value.category]; done) | rfl
set_option maxRecDepth 65536 in
set_option maxHeartbeats 40000000 in
theorem ab_1 (l : Launch) (Z : State) (a0 : Array Value) (hw : ∀ d ∈ tables_1, d.before a0 Z = true) (d i : Int32) (h0 : Heap) (n0 : Nat) (Z0 : n0 ≤ h0.size) (h2 : i < d) :
    Pays l Z h0 n0 (⟨"com/example/vexpi/vexpi/graph/LinkGraphGetInDegreePinLaw", "above", "(II)I"⟩ : MethodName) [Jvm.Cond.code (⟨"com/example/vexpi/vexpi/graph/LinkGraphGetInDegreePinLaw", "above", "(II)I"⟩ : MethodName) method_3_code 2 (some .int)] R0 #[(.int d), (.int i)] (.int (1 : Int32)) := by
  refine MetFree.of_bodySF (plainFor_of_name pn_LinkGraphGetInDegreePinLaw) hisR ?_
  intro p e s m args below meth c s₁ Bd hml0 hP hK
  obtain ⟨rfl, hZ, hh⟩ := hP
  have hx := Bd.exec
  have hby := Bd.bytes
  have hml : c.maxLocals = 2 := hml0
  have hown : s.vm.findClass "com/example/vexpi/vexpi/graph/LinkGraphGetInDegreePinLaw" = some m.cls := findClass_of_methodNamed Bd.named
  have X0 : Stand p l e R0 s m #[(.int d), (.int i)] below meth c s₁ [] 0 0 := Stand.of_body Bd
  have e0 : s₁.heap = h0 := by rw [← hh, Bd.state]; rfl
  have N0 := Fr.nil n0
  have pre0 : ∀ t, Steps p.tables e below (s₁.setTop (mkF m 0 #[.val (.int d), .val (.int i)] [])) t → Steps p.tables e below (s₁.setTop (entryFrame m #[(.int d), (.int i)] 2)) t := fun t k => castTop (ef_9 m d i) k
  obtain ⟨fs, hr, hrun, hended, hW, hsame⟩ := X0.leave (v := some (.int (1 : Int32))) (fun h => by rw [Bd.returns] at h; cases h)
  refine ⟨_, _, pre0 _ ?_, hrun, hended, _, _, rfl, ?_, ⟨_, rfl⟩, hW, hsame.mono (by decide) (by decide)⟩
  · show Steps p.tables e below (s₁.setTop (mkF m 0 #[.val (.int d), .val (.int i)] [])) _
    refine XS.iloadN X0.here hx rfl (hb hby d9_0) rfl ?_
    show Steps p.tables e below (s₁.setTop (mkF m 1 #[.val (.int d), .val (.int i)] [(.int d)])) _
    refine XS.iloadN X0.here hx rfl (hb hby d9_1) rfl ?_
    show Steps p.tables e below (s₁.setTop (mkF m 2 #[.val (.int d), .val (.int i)] [(.int i), (.int d)])) _
    refine XS.icmpNo X0.here hx rfl (hb hby d9_2) rfl (tlt h2).2.2.2 ?_
    show Steps p.tables e below (s₁.setTop (mkF m 5 #[.val (.int d), .val (.int i)] [])) _
    refine XS.iconst X0.here hx rfl (hb hby d9_5) ?_
    show Steps p.tables e below (s₁.setTop (mkF m 6 #[.val (.int d), .val (.int i)] [(.int (1 : Int32))])) _
    refine XS.goto X0.here hx rfl (pc0 := 6) (pc' := 10) rfl (hb hby d9_6) (by decide) (by decide) ?_
    show Steps p.tables e below (s₁.setTop (mkF m 10 #[.val (.int d), .val (.int i)] [(.int (1 : Int32))])) _
    exact retI X0 hx Bd.returns (hb hby d9_10) hr
  · show PQ (.int (1 : Int32)) h0 n0 _ s₁.heap _
    exact ⟨rfl, N0, e0⟩

theorem d9_9 : decode method_3_code 9 = .ok (.iconst 0, 1) := by decide +kernel
set_option maxRecDepth 65536 in
set_option maxHeartbeats 40000000 in
theorem ab_0 (l : Launch) (Z : State) (a0 : Array Value) (hw : ∀ d ∈ tables_1, d.before a0 Z = true) (d i : Int32) (h0 : Heap) (n0 : Nat) (Z0 : n0 ≤ h0.size) (h2 : ¬ (i < d)) :
    Pays l Z h0 n0 (⟨"com/example/vexpi/vexpi/graph/LinkGraphGetInDegreePinLaw", "above", "(II)I"⟩ : MethodName) [Jvm.Cond.code (⟨"com/example/vexpi/vexpi/graph/LinkGraphGetInDegreePinLaw", "above", "(II)I"⟩ : MethodName) method_3_code 2 (some .int)] R0 #[(.int d), (.int i)] (.int (0 : Int32)) := by
  refine MetFree.of_bodySF (plainFor_of_name pn_LinkGraphGetInDegreePinLaw) hisR ?_
  intro p e s m args below meth c s₁ Bd hml0 hP hK
  obtain ⟨rfl, hZ, hh⟩ := hP
  have hx := Bd.exec
  have hby := Bd.bytes
  have hml : c.maxLocals = 2 := hml0
  have hown : s.vm.findClass "com/example/vexpi/vexpi/graph/LinkGraphGetInDegreePinLaw" = some m.cls := findClass_of_methodNamed Bd.named
  have X0 : Stand p l e R0 s m #[(.int d), (.int i)] below meth c s₁ [] 0 0 := Stand.of_body Bd
  have e0 : s₁.heap = h0 := by rw [← hh, Bd.state]; rfl
  have N0 := Fr.nil n0
  have pre0 : ∀ t, Steps p.tables e below (s₁.setTop (mkF m 0 #[.val (.int d), .val (.int i)] [])) t → Steps p.tables e below (s₁.setTop (entryFrame m #[(.int d), (.int i)] 2)) t := fun t k => castTop (ef_9 m d i) k
  obtain ⟨fs, hr, hrun, hended, hW, hsame⟩ := X0.leave (v := some (.int (0 : Int32))) (fun h => by rw [Bd.returns] at h; cases h)
  refine ⟨_, _, pre0 _ ?_, hrun, hended, _, _, rfl, ?_, ⟨_, rfl⟩, hW, hsame.mono (by decide) (by decide)⟩
  · show Steps p.tables e below (s₁.setTop (mkF m 0 #[.val (.int d), .val (.int i)] [])) _
    refine XS.iloadN X0.here hx rfl (hb hby d9_0) rfl ?_
    show Steps p.tables e below (s₁.setTop (mkF m 1 #[.val (.int d), .val (.int i)] [(.int d)])) _
    refine XS.iloadN X0.here hx rfl (hb hby d9_1) rfl ?_
    show Steps p.tables e below (s₁.setTop (mkF m 2 #[.val (.int d), .val (.int i)] [(.int i), (.int d)])) _
    refine XS.icmpYes X0.here hx rfl (pc0 := 2) (pc' := 9) rfl (hb hby d9_2) rfl (flt h2).2.2.2 (by decide) (by decide) ?_
    show Steps p.tables e below (s₁.setTop (mkF m 9 #[.val (.int d), .val (.int i)] [])) _
    refine XS.iconst X0.here hx rfl (hb hby d9_9) ?_
    show Steps p.tables e below (s₁.setTop (mkF m 10 #[.val (.int d), .val (.int i)] [(.int (0 : Int32))])) _
    exact retI X0 hx Bd.returns (hb hby d9_10) hr
  · show PQ (.int (0 : Int32)) h0 n0 _ s₁.heap _
    exact ⟨rfl, N0, e0⟩

theorem ab (l : Launch) (Z : State) (a0 : Array Value) (hw : ∀ d ∈ tables_1, d.before a0 Z = true) (d i : Int32) (h0 : Heap) (n0 : Nat) (Z0 : n0 ≤ h0.size) :
    Pays l Z h0 n0 (⟨"com/example/vexpi/vexpi/graph/LinkGraphGetInDegreePinLaw", "above", "(II)I"⟩ : MethodName) [Jvm.Cond.code (⟨"com/example/vexpi/vexpi/graph/LinkGraphGetInDegreePinLaw", "above", "(II)I"⟩ : MethodName) method_3_code 2 (some .int)] R0 #[(.int d), (.int i)] (.int (own_ab d i)) := by
  by_cases q : i < d
  · have e : own_ab d i = (1 : Int32) := if_pos q
    rw [e]; exact ab_1 l Z a0 hw d i h0 n0 Z0 q
  · have e : own_ab d i = (0 : Int32) := if_neg q
    rw [e]; exact ab_0 l Z a0 hw d i h0 n0 Z0 q

theorem d7_0 : decode prog_4_method_4_code 0 = .ok (.aload_n 0, 1) := by decide +kernel
theorem d7_1 : decode prog_4_method_4_code 1 = .ok (.getfield 28, 3) := by decide +kernel
theorem d7_4 : decode prog_4_method_4_code 4 = .ok (.lload_n 1, 1) := by decide +kernel
theorem d7_5 : decode prog_4_method_4_code 5 = .ok (.bipush 16, 2) := by decide +kernel
theorem d7_7 : decode prog_4_method_4_code 7 = .ok (.lushr, 1) := by decide +kernel
theorem d7_8 : decode prog_4_method_4_code 8 = .ok (.l2i, 1) := by decide +kernel
theorem d7_9 : decode prog_4_method_4_code 9 = .ok (.aaload, 1) := by decide +kernel
theorem d7_10 : decode prog_4_method_4_code 10 = .ok (.areturn, 1) := by decide +kernel
theorem ef_7 (m : MethodId) (x0 : Addr) (x1 : Int64) : entryFrame m #[(.ref x0), (.long x1)] 3 = mkF m 0 #[.val (.ref x0), .val (.long x1), .second] [] := by first | (simp [entryFrame, mkF, argsToLocals, Value.category]; done) | rfl
set_option maxRecDepth 65536 in
set_option maxHeartbeats 40000000 in
theorem segOf (l : Launch) (Z : State) (a0 : Array Value) (hw : ∀ d ∈ tables_1, d.before a0 Z = true) (seg arr inn : Addr) (i : Int64) (kA : ClassId) (h0 : Heap) (n0 : Nat) (Z0 : n0 ≤ h0.size) (Fs : Fld Z h0 seg "com/example/vexpi/vexpi/graph/SegmentedIntArray" "segments" "[[I" (.ref arr)) (Va : Arv Z h0 arr kA (.array .int) (1 : Int32) [.ref inn] .null) (hi : (((i.toUInt64 >>> ((16 : Int32) &&& 0x3f).toInt64.toUInt64).toInt64).toInt32) = (0 : Int32)) :
    Pays l Z h0 n0 (⟨"com/example/vexpi/vexpi/graph/SegmentedIntArray", "segmentOf", "(J)[I"⟩ : MethodName) [Jvm.Cond.code (⟨"com/example/vexpi/vexpi/graph/SegmentedIntArray", "segmentOf", "(J)[I"⟩ : MethodName) prog_4_method_4_code 3 (some (.array .int))] R0 #[(.ref seg), (.long i)] (.ref inn) := by
  refine MetFree.of_bodySF (plainFor_of_name pn_SegmentedIntArray) hisR ?_
  intro p e s m args below meth c s₁ Bd hml0 hP hK
  obtain ⟨rfl, hZ, hh⟩ := hP
  have hx := Bd.exec
  have hby := Bd.bytes
  have hml : c.maxLocals = 3 := hml0
  have hown : s.vm.findClass "com/example/vexpi/vexpi/graph/SegmentedIntArray" = some m.cls := findClass_of_methodNamed Bd.named
  have X0 : Stand p l e R0 s m #[(.ref seg), (.long i)] below meth c s₁ [] 0 0 := Stand.of_body Bd
  have e0 : s₁.heap = h0 := by rw [← hh, Bd.state]; rfl
  have N0 := Fr.nil n0
  have pre0 : ∀ t, Steps p.tables e below (s₁.setTop (mkF m 0 #[.val (.ref seg), .val (.long i), .second] [])) t → Steps p.tables e below (s₁.setTop (entryFrame m #[(.ref seg), (.long i)] 3)) t := fun t k => castTop (ef_7 m seg i) k
  obtain ⟨T1, X1, e1, st1⟩ := getF X0 hx hZ hown (host := "") (Or.inl (hw _ (List.mem_of_getElem? (i := 18) rfl))) Via.refl e0 Fs (g := (mkF m 1 #[.val (.ref seg), .val (.long i), .second] [(.ref seg)])) rfl rfl (hb hby d7_1)
  obtain ⟨cl2, Ar2, -, S2, -, Hh2, -⟩ := id Va
  have hin2 : ¬ ((0 : Int32) < 0 ∨ cl2.slots.size ≤ ((0 : Int32)).toNatClampNeg) := inb_of S2 ⟨by decide, by decide⟩
  have hat2 : cl2.slots[((0 : Int32)).toNatClampNeg]? = some (.ref inn) := Hh2.at hin2 rfl
  obtain ⟨fs, hr, hrun, hended, hW, hsame⟩ := X1.leave (v := some (.ref inn)) (fun h => by rw [Bd.returns] at h; cases h)
  refine ⟨_, _, pre0 _ ?_, hrun, hended, _, _, rfl, ?_, ⟨_, rfl⟩, hW, hsame.mono (by decide) (by decide)⟩
  · show Steps p.tables e below (s₁.setTop (mkF m 0 #[.val (.ref seg), .val (.long i), .second] [])) _
    refine XS.aloadN X0.here hx rfl (hb hby d7_0) rfl rfl ?_
    show Steps p.tables e below (s₁.setTop (mkF m 1 #[.val (.ref seg), .val (.long i), .second] [(.ref seg)])) _
    refine st1 _ ?_
    show Steps p.tables e below (T1.setTop (mkF m 4 #[.val (.ref seg), .val (.long i), .second] [(.ref arr)])) _
    refine XS.lloadN X1.here hx rfl (hb hby d7_4) rfl ?_
    show Steps p.tables e below (T1.setTop (mkF m 5 #[.val (.ref seg), .val (.long i), .second] [(.long i), (.ref arr)])) _
    refine XS.bipush X1.here hx rfl (hb hby d7_5) ?_
    show Steps p.tables e below (T1.setTop (mkF m 7 #[.val (.ref seg), .val (.long i), .second] [(.int (16 : Int32)), (.long i), (.ref arr)])) _
    refine XS.lushr X1.here hx rfl (hb hby d7_7) rfl ?_
    show Steps p.tables e below (T1.setTop (mkF m 8 #[.val (.ref seg), .val (.long i), .second] [(.long ((i.toUInt64 >>> ((16 : Int32) &&& 0x3f).toInt64.toUInt64).toInt64)), (.ref arr)])) _
    refine XS.l2i X1.here hx rfl (hb hby d7_8) rfl ?_
    show Steps p.tables e below (T1.setTop (mkF m 9 #[.val (.ref seg), .val (.long i), .second] [(.int (((i.toUInt64 >>> ((16 : Int32) &&& 0x3f).toInt64.toUInt64).toInt64).toInt32)), (.ref arr)])) _
    rw [hi]
    show Steps p.tables e below (T1.setTop (mkF m 9 #[.val (.ref seg), .val (.long i), .second] [(.int (0 : Int32)), (.ref arr)])) _
    refine X1.aaload hx (j := (0 : Int32)) (v := (.ref inn)) (by rw [e1]; exact Ar2.1) (State.isArrayOf_alike hZ.alike Ar2.2.1) rfl Ar2.2.2 hin2 hat2 (g := (mkF m 9 #[.val (.ref seg), .val (.long i), .second] [(.int (0 : Int32)), (.ref arr)])) rfl rfl (hb hby d7_9) _ ?_
    show Steps p.tables e below (T1.setTop (mkF m 10 #[.val (.ref seg), .val (.long i), .second] [(.ref inn)])) _
    jvm_step X1.here [X1.here.top, hx, (hb hby d7_10), X1.method', Bd.returns, Value.isRef, FieldType.isReference]
    first | (intro acts; rw [hr _ acts rfl rfl rfl]) | rw [hr _ _ rfl rfl rfl]
    exact Steps.refl _
  · show PQ (.ref inn) h0 n0 _ T1.heap _
    exact ⟨rfl, N0, e1⟩

def Q6 (Z : State) (cl : Cell) (inn : Addr) (h0 : Heap) (n0 : Nat) (v : Option Value) (h : Heap) (L : List Loc) : Prop := v = none ∧ Fr n0 L ∧ Keep h0 h [inn] ∧ ∃ cl', Arr Z h inn cl' .int ∧ cl'.slots.size = cl.slots.size

theorem d6_0 : decode prog_4_method_3_code 0 = .ok (.aload_n 0, 1) := by decide +kernel
theorem d6_1 : decode prog_4_method_3_code 1 = .ok (.lload_n 1, 1) := by decide +kernel
theorem d6_2 : decode prog_4_method_3_code 2 = .ok (.invokevirtual 42, 3) := by decide +kernel
theorem pd__J__I : parseMethodDescriptor "(J)[I" = some ⟨[.long], some (.array .int)⟩ := by decide +kernel
theorem d6_5 : decode prog_4_method_3_code 5 = .ok (.lload_n 1, 1) := by decide +kernel
theorem d6_6 : decode prog_4_method_3_code 6 = .ok (.invokestatic 46, 3) := by decide +kernel
theorem pd__J_I : parseMethodDescriptor "(J)I" = some ⟨[.long], some .int⟩ := by decide +kernel
theorem d6_9 : decode prog_4_method_3_code 9 = .ok (.iload_n 3, 1) := by decide +kernel
theorem d6_10 : decode prog_4_method_3_code 10 = .ok (.iastore, 1) := by decide +kernel
theorem d6_11 : decode prog_4_method_3_code 11 = .ok (.return_, 1) := by decide +kernel
theorem ef_6 (m : MethodId) (x0 : Addr) (x1 : Int64) (x2 : Int32) : entryFrame m #[(.ref x0), (.long x1), (.int x2)] 4 = mkF m 0 #[.val (.ref x0), .val (.long x1), .second, .val (.int x2)] [] := by first | (simp [entryFrame, mkF, argsToLocals, Value.category]; done) | rfl
set_option maxRecDepth 65536 in
set_option maxHeartbeats 40000000 in
theorem set_0 (l : Launch) (Z : State) (a0 : Array Value) (hw : ∀ d ∈ tables_1, d.before a0 Z = true) (seg arr inn : Addr) (i : Int64) (v : Int32) (kA : ClassId) (cl : Cell) (h0 : Heap) (n0 : Nat) (Z0 : n0 ≤ h0.size) (Es : Exa Z h0 seg "com/example/vexpi/vexpi/graph/SegmentedIntArray") (Fs : Fld Z h0 seg "com/example/vexpi/vexpi/graph/SegmentedIntArray" "segments" "[[I" (.ref arr)) (Va : Arv Z h0 arr kA (.array .int) (1 : Int32) [.ref inn] .null) (Ai : Arr Z h0 inn cl .int) (gi : n0 ≤ inn) (hi : (((i.toUInt64 >>> ((16 : Int32) &&& 0x3f).toInt64.toUInt64).toInt64).toInt32) = (0 : Int32)) (hin : ¬ (((i &&& (65535 : Int64)).toInt32) < 0 ∨ cl.slots.size ≤ (((i &&& (65535 : Int64)).toInt32)).toNatClampNeg)) :
    PaysQ l Z h0 (⟨"com/example/vexpi/vexpi/graph/SegmentedIntArray", "set", "(JI)V"⟩ : MethodName) [Jvm.Cond.code (⟨"com/example/vexpi/vexpi/graph/SegmentedIntArray", "set", "(JI)V"⟩ : MethodName) prog_4_method_3_code 4 none] R6 #[(.ref seg), (.long i), (.int v)] (Q6 Z cl inn h0 n0) := by
  refine MetFree.of_bodySF (plainFor_of_name pn_SegmentedIntArray) hisR ?_
  intro p e s m args below meth c s₁ Bd hml0 hP hK
  obtain ⟨rfl, hZ, hh⟩ := hP
  have hx := Bd.exec
  have hby := Bd.bytes
  have hml : c.maxLocals = 4 := hml0
  have hown : s.vm.findClass "com/example/vexpi/vexpi/graph/SegmentedIntArray" = some m.cls := findClass_of_methodNamed Bd.named
  have X0 : Stand p l e R6 s m #[(.ref seg), (.long i), (.int v)] below meth c s₁ [] 0 0 := Stand.of_body Bd
  have e0 : s₁.heap = h0 := by rw [← hh, Bd.state]; rfl
  have N0 := Fr.nil n0
  have pre0 : ∀ t, Steps p.tables e below (s₁.setTop (mkF m 0 #[.val (.ref seg), .val (.long i), .second, .val (.int v)] [])) t → Steps p.tables e below (s₁.setTop (entryFrame m #[(.ref seg), (.long i), (.int v)] 4)) t := fun t k => castTop (ef_6 m seg i v) k
  obtain ⟨cq1, kq1, q1a, q1b, q1c⟩ := isOf hZ e0 Es
  obtain ⟨_, _, ⟨T1, lo1, co1, so1⟩, -, X1, ⟨Lc1, hQ1, l1, y1, z1⟩, st1⟩ := X0.virtualBack hx (y := (⟨"com/example/vexpi/vexpi/graph/SegmentedIntArray", "segmentOf", "(J)[I"⟩ : MethodName)) (z := (⟨"com/example/vexpi/vexpi/graph/SegmentedIntArray", "segmentOf", "(J)[I"⟩ : MethodName)) hown (mvT hZ (hw _ (List.mem_of_getElem? (i := 37) rfl))) (mvT hZ (hw _ (List.mem_of_getElem? (i := 38) rfl))) (notFace_of_selects (args := #[]) (mvT hZ (hw _ (List.mem_of_getElem? (i := 40) rfl)))) (mvT hZ (hw _ (List.mem_of_getElem? (i := 40) rfl))) (mvT hZ (hw _ (List.mem_of_getElem? (i := 39) rfl))) (by decide) (backOf (W := 0) (Q := PQ (.ref inn) h0 n0) (segOf l Z a0 hw seg arr inn i kA h0 n0 Z0 Fs Va hi) hZ (hw _ (List.mem_of_getElem? (i := 41) rfl)) (hw _ (List.mem_of_getElem? (i := 4) rfl)) (by decide) (by decide)) q1a q1c (g := (mkF m 2 #[.val (.ref seg), .val (.long i), .second, .val (.int v)] [(.long i), (.ref seg)])) rfl (by rw [hml]; rfl) (Steps.refl _) (argsL := [(.long i)]) (rest := []) (lenOf pd__J__I rfl) rfl (by show 2 * 0 + _ ≤ _; exact Nat.le_of_eq rfl) (hb hby d6_2) (fun _ _ => ⟨rfl, e0, (by decide : 0 + 0 ≤ _), (by decide : 0 + 0 ≤ _)⟩)
  dsimp only [Pt.U, Pt.locs, Pt.cells, Pt.slots] at X1 l1 y1 z1 st1 hQ1
  rw [l1, y1, z1] at X1
  obtain ⟨rfl, Nq1, e1⟩ := hQ1
  have N1 := Fr.app N0 Nq1
  obtain ⟨_, _, ⟨T2, lo2, co2, so2⟩, -, X2, ⟨Lc2, hQ2, l2, y2, z2⟩, st2⟩ := Jvm.LawKit.callS X1 hx (y := (⟨"com/example/vexpi/vexpi/graph/SegmentedIntArray", "positionOf", "(J)I"⟩ : MethodName)) hown (mvT hZ (hw _ (List.mem_of_getElem? (i := 42) rfl))) (mvT hZ (hw _ (List.mem_of_getElem? (i := 43) rfl))) (mvT hZ (hw _ (List.mem_of_getElem? (i := 4) rfl))) (mvT hZ (hw _ (List.mem_of_getElem? (i := 44) rfl))) (by decide) (backOf (W := 1) (Q := PQ (.int ((i &&& (65535 : Int64)).toInt32)) h0 n0) (pos l Z a0 hw i h0 n0 Z0) hZ (hw _ (List.mem_of_getElem? (i := 44) rfl)) (hw _ (List.mem_of_getElem? (i := 4) rfl)) (by decide) (by decide)) (g := (mkF m 6 #[.val (.ref seg), .val (.long i), .second, .val (.int v)] [(.long i), (.ref inn)])) rfl (by rw [hml]; rfl) (argsL := [(.long i)]) (rest := [(.ref inn)]) (lenOf pd__J_I rfl) rfl (by show 2 * 0 + _ ≤ _; exact Nat.le_of_eq rfl) (hb hby d6_6) (fun _ _ => ⟨rfl, e1, (by decide : 0 + 0 ≤ _), (by decide : 0 + 0 ≤ _)⟩)
  dsimp only [Pt.U, Pt.locs, Pt.cells, Pt.slots] at X2 l2 y2 z2 st2 hQ2
  rw [l2, y2, z2] at X2
  obtain ⟨rfl, Nq2, e2⟩ := hQ2
  have N2 := Fr.app N1 Nq2
  obtain ⟨T3, h3, X3, e3, W3, st3⟩ := stI X2 hx hZ e2 Ai (j := ((i &&& (65535 : Int64)).toInt32)) hin (g := (mkF m 10 #[.val (.ref seg), .val (.long i), .second, .val (.int v)] [(.int v), (.int ((i &&& (65535 : Int64)).toInt32)), (.ref inn)])) rfl rfl (hb hby d6_10)
  have N3 := Fr.snoc X3 N2 gi
  obtain ⟨fs, hr, hrun, hended, hW, hsame⟩ := X3.leave (v := none) (fun _ => rfl)
  refine ⟨_, _, pre0 _ ?_, hrun, hended, _, _, rfl, ?_, ⟨_, rfl⟩, hW, hsame.mono (by decide) (by decide)⟩
  · show Steps p.tables e below (s₁.setTop (mkF m 0 #[.val (.ref seg), .val (.long i), .second, .val (.int v)] [])) _
    refine XS.aloadN X0.here hx rfl (hb hby d6_0) rfl rfl ?_
    show Steps p.tables e below (s₁.setTop (mkF m 1 #[.val (.ref seg), .val (.long i), .second, .val (.int v)] [(.ref seg)])) _
    refine XS.lloadN X0.here hx rfl (hb hby d6_1) rfl ?_
    show Steps p.tables e below (s₁.setTop (mkF m 2 #[.val (.ref seg), .val (.long i), .second, .val (.int v)] [(.long i), (.ref seg)])) _
    refine st1.trans ?_
    show Steps p.tables e below (T1.setTop (mkF m 5 #[.val (.ref seg), .val (.long i), .second, .val (.int v)] [(.ref inn)])) _
    refine XS.lloadN X1.here hx rfl (hb hby d6_5) rfl ?_
    show Steps p.tables e below (T1.setTop (mkF m 6 #[.val (.ref seg), .val (.long i), .second, .val (.int v)] [(.long i), (.ref inn)])) _
    refine st2 _ ?_
    show Steps p.tables e below (T2.setTop (mkF m 9 #[.val (.ref seg), .val (.long i), .second, .val (.int v)] [(.int ((i &&& (65535 : Int64)).toInt32)), (.ref inn)])) _
    refine XS.iloadN X2.here hx rfl (hb hby d6_9) rfl ?_
    show Steps p.tables e below (T2.setTop (mkF m 10 #[.val (.ref seg), .val (.long i), .second, .val (.int v)] [(.int v), (.int ((i &&& (65535 : Int64)).toInt32)), (.ref inn)])) _
    refine st3 _ ?_
    show Steps p.tables e below (T3.setTop (mkF m 11 #[.val (.ref seg), .val (.long i), .second, .val (.int v)] [])) _
    exact X3.returnOut hx Bd.returns (hb hby d6_11) hr
  · show (Q6 Z cl inn h0 n0) _ T3.heap _
    rw [e3]
    exact ⟨rfl, N3, Keep.of_wr W3, _, Ai.same W3, sz_set _ _ _⟩

def Q5 (Z : State) (n1 : Nat) (seg : Addr) (Lt : Int64) (h0 : Heap) (n0 : Nat) (v : Option Value) (h : Heap) (L : List Loc) : Prop := v = none ∧ Fr n0 L ∧ (∃ ws, Keep h0 h ws ∧ ∀ x ∈ ws, n1 ≤ x) ∧ SegP Z h n1 seg Lt
theorem SegT.wr {Z : State} {h h' : Heap} {n1 : Nat} {seg arr inn : Addr} {L : Int64} {cl : Cell} (t : SegT Z h n1 seg L arr inn) (lt : seg < n1) (A : Arr Z h inn cl .int) (K : Keep h h' [inn]) (A' : ∃ cl', Arr Z h' inn cl' .int ∧ cl'.slots.size = cl.slots.size) : SegT Z h' n1 seg L arr inn := by
  obtain ⟨t1, t2, t3, t4, ⟨kA, t5⟩, c0, t6, t7⟩ := t
  obtain ⟨c', a1, a2⟩ := A'
  cases A.1.symm.trans t6.1
  exact ⟨t1, t2, t3, t4.keep K (ninS (Nat.ne_of_lt (Nat.lt_of_lt_of_le lt t2)) nin0), ⟨kA, t5.keep K (ninS t3 nin0)⟩, c', a1, a2.trans t7⟩

theorem d5_0 : decode method_4_code 0 = .ok (.iload_n 3, 1) := by decide +kernel
theorem d5_1 : decode method_4_code 1 = .ok (.iconst 2, 1) := by decide +kernel
theorem d5_2 : decode method_4_code 2 = .ok (.if_icmp .lt 11, 3) := by decide +kernel
theorem d5_13 : decode method_4_code 13 = .ok (.iload_n 3, 1) := by decide +kernel
theorem d5_14 : decode method_4_code 14 = .ok (.iconst 3, 1) := by decide +kernel
theorem d5_15 : decode method_4_code 15 = .ok (.if_icmp .lt 13, 3) := by decide +kernel
theorem d5_28 : decode method_4_code 28 = .ok (.return_, 1) := by decide +kernel
theorem ef_5 (m : MethodId) (x0 : Addr) (x1 : Int64) (x2 : Int32) : entryFrame m #[(.ref x0), (.long x1), (.int x2)] 4 = mkF m 0 #[.val (.ref x0), .val (.long x1), .second, .val (.int x2)] [] := by first | (simp [entryFrame, mkF, argsToLocals, Value.category]; done) | rfl
set_option maxRecDepth 65536 in
set_option maxHeartbeats 40000000 in
theorem fill_0 (l : Launch) (Z : State) (a0 : Array Value) (hw : ∀ d ∈ tables_1, d.before a0 Z = true) (seg : Addr) (off Lt : Int64) (d : Int32) (h0 : Heap) (n0 : Nat) (Z0 : n0 ≤ h0.size) (n1 : Nat) (h01 : n0 ≤ n1) (lt : seg < n1) (sp : SegP Z h0 n1 seg Lt) (hbd : 0 ≤ off.toInt ∧ off.toInt + d.toInt ≤ Lt.toInt ∧ Lt.toInt ≤ 9 ∧ 0 ≤ d.toInt ∧ d.toInt ≤ 3) (h2 : d < (2 : Int32)) (h3 : d < (3 : Int32)) :
    PaysQ l Z h0 (⟨"com/example/vexpi/vexpi/graph/LinkGraphGetInDegreePinLaw", "fill", "(Lcom/example/vexpi/vexpi/graph/SegmentedIntArray;JI)V"⟩ : MethodName) [Jvm.Cond.code (⟨"com/example/vexpi/vexpi/graph/LinkGraphGetInDegreePinLaw", "fill", "(Lcom/example/vexpi/vexpi/graph/SegmentedIntArray;JI)V"⟩ : MethodName) method_4_code 4 none] R5 #[(.ref seg), (.long off), (.int d)] (Q5 Z n1 seg Lt h0 n0) := by
  refine MetFree.of_bodySF (plainFor_of_name pn_LinkGraphGetInDegreePinLaw) hisR ?_
  intro p e s m args below meth c s₁ Bd hml0 hP hK
  obtain ⟨rfl, hZ, hh⟩ := hP
  have hx := Bd.exec
  have hby := Bd.bytes
  have hml : c.maxLocals = 4 := hml0
  have hown : s.vm.findClass "com/example/vexpi/vexpi/graph/LinkGraphGetInDegreePinLaw" = some m.cls := findClass_of_methodNamed Bd.named
  have X0 : Stand p l e R5 s m #[(.ref seg), (.long off), (.int d)] below meth c s₁ [] 0 0 := Stand.of_body Bd
  have e0 : s₁.heap = h0 := by rw [← hh, Bd.state]; rfl
  have N0 := Fr.nil n0
  have pre0 : ∀ t, Steps p.tables e below (s₁.setTop (mkF m 0 #[.val (.ref seg), .val (.long off), .second, .val (.int d)] [])) t → Steps p.tables e below (s₁.setTop (entryFrame m #[(.ref seg), (.long off), (.int d)] 4)) t := fun t k => castTop (ef_5 m seg off d) k
  obtain ⟨fs, hr, hrun, hended, hW, hsame⟩ := X0.leave (v := none) (fun _ => rfl)
  refine ⟨_, _, pre0 _ ?_, hrun, hended, _, _, rfl, ?_, ⟨_, rfl⟩, hW, hsame.mono (by decide) (by decide)⟩
  · show Steps p.tables e below (s₁.setTop (mkF m 0 #[.val (.ref seg), .val (.long off), .second, .val (.int d)] [])) _
    refine XS.iloadN X0.here hx rfl (hb hby d5_0) rfl ?_
    show Steps p.tables e below (s₁.setTop (mkF m 1 #[.val (.ref seg), .val (.long off), .second, .val (.int d)] [(.int d)])) _
    refine XS.iconst X0.here hx rfl (hb hby d5_1) ?_
    show Steps p.tables e below (s₁.setTop (mkF m 2 #[.val (.ref seg), .val (.long off), .second, .val (.int d)] [(.int (2 : Int32)), (.int d)])) _
    refine XS.icmpYes X0.here hx rfl (pc0 := 2) (pc' := 13) rfl (hb hby d5_2) rfl (tlt h2).1 (by decide) (by decide) ?_
    show Steps p.tables e below (s₁.setTop (mkF m 13 #[.val (.ref seg), .val (.long off), .second, .val (.int d)] [])) _
    refine XS.iloadN X0.here hx rfl (hb hby d5_13) rfl ?_
    show Steps p.tables e below (s₁.setTop (mkF m 14 #[.val (.ref seg), .val (.long off), .second, .val (.int d)] [(.int d)])) _
    refine XS.iconst X0.here hx rfl (hb hby d5_14) ?_
    show Steps p.tables e below (s₁.setTop (mkF m 15 #[.val (.ref seg), .val (.long off), .second, .val (.int d)] [(.int (3 : Int32)), (.int d)])) _
    refine XS.icmpYes X0.here hx rfl (pc0 := 15) (pc' := 28) rfl (hb hby d5_15) rfl (tlt h3).1 (by decide) (by decide) ?_
    show Steps p.tables e below (s₁.setTop (mkF m 28 #[.val (.ref seg), .val (.long off), .second, .val (.int d)] [])) _
    exact X0.returnOut hx Bd.returns (hb hby d5_28) hr
  · show (Q5 Z n1 seg Lt h0 n0) _ s₁.heap _
    rw [e0]
    exact ⟨rfl, N0, ⟨[], Keep.refl _ _, all0⟩, sp⟩

theorem d5_5 : decode method_4_code 5 = .ok (.aload_n 0, 1) := by decide +kernel
theorem d5_6 : decode method_4_code 6 = .ok (.lload_n 1, 1) := by decide +kernel
theorem d5_7 : decode method_4_code 7 = .ok (.lconst 1, 1) := by decide +kernel
theorem d5_8 : decode method_4_code 8 = .ok (.ladd, 1) := by decide +kernel
theorem d5_9 : decode method_4_code 9 = .ok (.iconst 1, 1) := by decide +kernel
theorem d5_10 : decode method_4_code 10 = .ok (.invokevirtual 36, 3) := by decide +kernel
theorem pd__JI_V : parseMethodDescriptor "(JI)V" = some ⟨[.long, .int], none⟩ := by decide +kernel
set_option maxRecDepth 65536 in
set_option maxHeartbeats 40000000 in
theorem fill_1 (l : Launch) (Z : State) (a0 : Array Value) (hw : ∀ d ∈ tables_1, d.before a0 Z = true) (seg : Addr) (off Lt : Int64) (d : Int32) (h0 : Heap) (n0 : Nat) (Z0 : n0 ≤ h0.size) (n1 : Nat) (h01 : n0 ≤ n1) (lt : seg < n1) (sp : SegP Z h0 n1 seg Lt) (hbd : 0 ≤ off.toInt ∧ off.toInt + d.toInt ≤ Lt.toInt ∧ Lt.toInt ≤ 9 ∧ 0 ≤ d.toInt ∧ d.toInt ≤ 3) (h2 : ¬ (d < (2 : Int32))) (h3 : d < (3 : Int32)) :
    PaysQ l Z h0 (⟨"com/example/vexpi/vexpi/graph/LinkGraphGetInDegreePinLaw", "fill", "(Lcom/example/vexpi/vexpi/graph/SegmentedIntArray;JI)V"⟩ : MethodName) [Jvm.Cond.code (⟨"com/example/vexpi/vexpi/graph/LinkGraphGetInDegreePinLaw", "fill", "(Lcom/example/vexpi/vexpi/graph/SegmentedIntArray;JI)V"⟩ : MethodName) method_4_code 4 none] R5 #[(.ref seg), (.long off), (.int d)] (Q5 Z n1 seg Lt h0 n0) := by
  refine MetFree.of_bodySF (plainFor_of_name pn_LinkGraphGetInDegreePinLaw) hisR ?_
  intro p e s m args below meth c s₁ Bd hml0 hP hK
  obtain ⟨rfl, hZ, hh⟩ := hP
  have hx := Bd.exec
  have hby := Bd.bytes
  have hml : c.maxLocals = 4 := hml0
  have hown : s.vm.findClass "com/example/vexpi/vexpi/graph/LinkGraphGetInDegreePinLaw" = some m.cls := findClass_of_methodNamed Bd.named
  have X0 : Stand p l e R5 s m #[(.ref seg), (.long off), (.int d)] below meth c s₁ [] 0 0 := Stand.of_body Bd
  have e0 : s₁.heap = h0 := by rw [← hh, Bd.state]; rfl
  have N0 := Fr.nil n0
  have pre0 : ∀ t, Steps p.tables e below (s₁.setTop (mkF m 0 #[.val (.ref seg), .val (.long off), .second, .val (.int d)] [])) t → Steps p.tables e below (s₁.setTop (entryFrame m #[(.ref seg), (.long off), (.int d)] 4)) t := fun t k => castTop (ef_5 m seg off d) k
  have e2 : ((2 : Int32)).toInt = 2 := by decide
  have e3 : ((3 : Int32)).toInt = 3 := by decide
  have e64_1 : ((1 : Int64)).toInt = 1 := by decide
  have e64_2 : ((2 : Int64)).toInt = 2 := by decide
  have h2' := h2
  have h3' := h3
  rw [Int32.lt_iff_toInt_lt, e2] at h2'
  rw [Int32.lt_iff_toInt_lt, e3] at h3'
  have eo1 : (off + (1 : Int64)).toInt = off.toInt + 1 := by rw [Jvm.Kit.i64_add (by rw [e64_1]; omega) (by rw [e64_1]; omega), e64_1]
  have eo2 : (off + (2 : Int64)).toInt = off.toInt + 2 := by rw [Jvm.Kit.i64_add (by rw [e64_2]; omega) (by rw [e64_2]; omega), e64_2]
  obtain ⟨arr, inn, tt⟩ : ∃ arr inn, SegT Z h0 n1 seg Lt arr inn := by
    rcases sp.2.2 with q | q
    · exfalso; rw [q] at hbd; have e0 : ((0 : Int64)).toInt = 0 := by decide
      rw [e0] at hbd; omega
    · exact q
  obtain ⟨t1_1, t2_1, t3_1, t4_1, ⟨kA1, t5_1⟩, c1, t6_1, t7_1⟩ := id tt
  have ix1 := own_ix (i := (off + (1 : Int64))) (L := Lt) (by rw [eo1]; omega) (by rw [eo1]; omega) hbd.2.2.1
  obtain ⟨cq1, kq1, q1a, q1b, q1c⟩ := isOf hZ e0 sp.1
  obtain ⟨_, _, ⟨T1, lo1, co1, so1⟩, -, X1, ⟨Lc1, hQ1, l1, y1, z1⟩, st1⟩ := X0.virtualBack hx (y := (⟨"com/example/vexpi/vexpi/graph/SegmentedIntArray", "set", "(JI)V"⟩ : MethodName)) (z := (⟨"com/example/vexpi/vexpi/graph/SegmentedIntArray", "set", "(JI)V"⟩ : MethodName)) hown (mvT hZ (hw _ (List.mem_of_getElem? (i := 32) rfl))) (mvT hZ (hw _ (List.mem_of_getElem? (i := 33) rfl))) (notFace_of_selects (args := #[]) (mvT hZ (hw _ (List.mem_of_getElem? (i := 35) rfl)))) (mvT hZ (hw _ (List.mem_of_getElem? (i := 35) rfl))) (mvT hZ (hw _ (List.mem_of_getElem? (i := 34) rfl))) (by decide) (backOf (W := 0) (Q := Q6 Z c1 inn h0 n0) (set_0 l Z a0 hw seg arr inn (off + (1 : Int64)) (1 : Int32) kA1 c1 h0 n0 Z0 sp.1 t4_1 t5_1 t6_1 (Nat.le_trans h01 t2_1) ix1.1 (inb_of t7_1 ix1.2)) hZ (hw _ (List.mem_of_getElem? (i := 36) rfl)) (hw _ (List.mem_of_getElem? (i := 4) rfl)) (by decide) (by decide)) q1a q1c (g := (mkF m 10 #[.val (.ref seg), .val (.long off), .second, .val (.int d)] [(.int (1 : Int32)), (.long (off + (1 : Int64))), (.ref seg)])) rfl (by rw [hml]; rfl) (Steps.refl _) (argsL := [(.long (off + (1 : Int64))), (.int (1 : Int32))]) (rest := []) (lenOf pd__JI_V rfl) rfl (by show 2 * 0 + _ ≤ _; exact Nat.le_of_eq rfl) (hb hby d5_10) (fun _ _ => ⟨rfl, e0, (by decide : 0 + 0 ≤ _), (by decide : 0 + 0 ≤ _)⟩)
  dsimp only [Pt.U, Pt.locs, Pt.cells, Pt.slots] at X1 l1 y1 z1 st1 hQ1
  rw [l1, y1, z1] at X1
  obtain ⟨rfl, Nq1, hQ1⟩ := hQ1
  have N1 := Fr.app N0 Nq1
  have tt1 := SegT.wr tt lt t6_1 hQ1.1 hQ1.2
  have es1 := Exa.keep sp.1 hQ1.1
  have fs1 := Fld.keep sp.2.1 hQ1.1 (ninS (Nat.ne_of_lt (Nat.lt_of_lt_of_le lt t2_1)) nin0)
  have Z_1 := Nat.le_trans Z0 hQ1.1.1
  have K_1 := hQ1.1
  obtain ⟨fs, hr, hrun, hended, hW, hsame⟩ := X1.leave (v := none) (fun _ => rfl)
  refine ⟨_, _, pre0 _ ?_, hrun, hended, _, _, rfl, ?_, ⟨_, rfl⟩, hW, hsame.mono (by decide) (by decide)⟩
  · show Steps p.tables e below (s₁.setTop (mkF m 0 #[.val (.ref seg), .val (.long off), .second, .val (.int d)] [])) _
    refine XS.iloadN X0.here hx rfl (hb hby d5_0) rfl ?_
    show Steps p.tables e below (s₁.setTop (mkF m 1 #[.val (.ref seg), .val (.long off), .second, .val (.int d)] [(.int d)])) _
    refine XS.iconst X0.here hx rfl (hb hby d5_1) ?_
    show Steps p.tables e below (s₁.setTop (mkF m 2 #[.val (.ref seg), .val (.long off), .second, .val (.int d)] [(.int (2 : Int32)), (.int d)])) _
    refine XS.icmpNo X0.here hx rfl (hb hby d5_2) rfl (flt h2).1 ?_
    show Steps p.tables e below (s₁.setTop (mkF m 5 #[.val (.ref seg), .val (.long off), .second, .val (.int d)] [])) _
    refine XS.aloadN X0.here hx rfl (hb hby d5_5) rfl rfl ?_
    show Steps p.tables e below (s₁.setTop (mkF m 6 #[.val (.ref seg), .val (.long off), .second, .val (.int d)] [(.ref seg)])) _
    refine XS.lloadN X0.here hx rfl (hb hby d5_6) rfl ?_
    show Steps p.tables e below (s₁.setTop (mkF m 7 #[.val (.ref seg), .val (.long off), .second, .val (.int d)] [(.long off), (.ref seg)])) _
    refine XS.lconst X0.here hx rfl (hb hby d5_7) ?_
    show Steps p.tables e below (s₁.setTop (mkF m 8 #[.val (.ref seg), .val (.long off), .second, .val (.int d)] [(.long (1 : Int64)), (.long off), (.ref seg)])) _
    refine XS.ladd X0.here hx rfl (hb hby d5_8) rfl ?_
    show Steps p.tables e below (s₁.setTop (mkF m 9 #[.val (.ref seg), .val (.long off), .second, .val (.int d)] [(.long (off + (1 : Int64))), (.ref seg)])) _
    refine XS.iconst X0.here hx rfl (hb hby d5_9) ?_
    show Steps p.tables e below (s₁.setTop (mkF m 10 #[.val (.ref seg), .val (.long off), .second, .val (.int d)] [(.int (1 : Int32)), (.long (off + (1 : Int64))), (.ref seg)])) _
    refine st1.trans ?_
    show Steps p.tables e below (T1.setTop (mkF m 13 #[.val (.ref seg), .val (.long off), .second, .val (.int d)] [])) _
    refine XS.iloadN X1.here hx rfl (hb hby d5_13) rfl ?_
    show Steps p.tables e below (T1.setTop (mkF m 14 #[.val (.ref seg), .val (.long off), .second, .val (.int d)] [(.int d)])) _
    refine XS.iconst X1.here hx rfl (hb hby d5_14) ?_
    show Steps p.tables e below (T1.setTop (mkF m 15 #[.val (.ref seg), .val (.long off), .second, .val (.int d)] [(.int (3 : Int32)), (.int d)])) _
    refine XS.icmpYes X1.here hx rfl (pc0 := 15) (pc' := 28) rfl (hb hby d5_15) rfl (tlt h3).1 (by decide) (by decide) ?_
    show Steps p.tables e below (T1.setTop (mkF m 28 #[.val (.ref seg), .val (.long off), .second, .val (.int d)] [])) _
    exact X1.returnOut hx Bd.returns (hb hby d5_28) hr
  · show (Q5 Z n1 seg Lt h0 n0) _ T1.heap _
    exact ⟨rfl, N1, ⟨[inn], K_1, allS tt.2.1 all0⟩, es1, fs1, Or.inr ⟨arr, inn, tt1⟩⟩

theorem d5_18 : decode method_4_code 18 = .ok (.aload_n 0, 1) := by decide +kernel
theorem d5_19 : decode method_4_code 19 = .ok (.lload_n 1, 1) := by decide +kernel
theorem d5_20 : decode method_4_code 20 = .ok (.ldc2_w 40, 3) := by decide +kernel
theorem d5_23 : decode method_4_code 23 = .ok (.ladd, 1) := by decide +kernel
theorem d5_24 : decode method_4_code 24 = .ok (.iconst 2, 1) := by decide +kernel
theorem d5_25 : decode method_4_code 25 = .ok (.invokevirtual 36, 3) := by decide +kernel
set_option maxRecDepth 65536 in
set_option maxHeartbeats 40000000 in
theorem fill_2 (l : Launch) (Z : State) (a0 : Array Value) (hw : ∀ d ∈ tables_1, d.before a0 Z = true) (seg : Addr) (off Lt : Int64) (d : Int32) (h0 : Heap) (n0 : Nat) (Z0 : n0 ≤ h0.size) (n1 : Nat) (h01 : n0 ≤ n1) (lt : seg < n1) (sp : SegP Z h0 n1 seg Lt) (hbd : 0 ≤ off.toInt ∧ off.toInt + d.toInt ≤ Lt.toInt ∧ Lt.toInt ≤ 9 ∧ 0 ≤ d.toInt ∧ d.toInt ≤ 3) (h2 : ¬ (d < (2 : Int32))) (h3 : ¬ (d < (3 : Int32))) :
    PaysQ l Z h0 (⟨"com/example/vexpi/vexpi/graph/LinkGraphGetInDegreePinLaw", "fill", "(Lcom/example/vexpi/vexpi/graph/SegmentedIntArray;JI)V"⟩ : MethodName) [Jvm.Cond.code (⟨"com/example/vexpi/vexpi/graph/LinkGraphGetInDegreePinLaw", "fill", "(Lcom/example/vexpi/vexpi/graph/SegmentedIntArray;JI)V"⟩ : MethodName) method_4_code 4 none] R5 #[(.ref seg), (.long off), (.int d)] (Q5 Z n1 seg Lt h0 n0) := by
  refine MetFree.of_bodySF (plainFor_of_name pn_LinkGraphGetInDegreePinLaw) hisR ?_
  intro p e s m args below meth c s₁ Bd hml0 hP hK
  obtain ⟨rfl, hZ, hh⟩ := hP
  have hx := Bd.exec
  have hby := Bd.bytes
  have hml : c.maxLocals = 4 := hml0
  have hown : s.vm.findClass "com/example/vexpi/vexpi/graph/LinkGraphGetInDegreePinLaw" = some m.cls := findClass_of_methodNamed Bd.named
  have X0 : Stand p l e R5 s m #[(.ref seg), (.long off), (.int d)] below meth c s₁ [] 0 0 := Stand.of_body Bd
  have e0 : s₁.heap = h0 := by rw [← hh, Bd.state]; rfl
  have N0 := Fr.nil n0
  have pre0 : ∀ t, Steps p.tables e below (s₁.setTop (mkF m 0 #[.val (.ref seg), .val (.long off), .second, .val (.int d)] [])) t → Steps p.tables e below (s₁.setTop (entryFrame m #[(.ref seg), (.long off), (.int d)] 4)) t := fun t k => castTop (ef_5 m seg off d) k
  have e2 : ((2 : Int32)).toInt = 2 := by decide
  have e3 : ((3 : Int32)).toInt = 3 := by decide
  have e64_1 : ((1 : Int64)).toInt = 1 := by decide
  have e64_2 : ((2 : Int64)).toInt = 2 := by decide
  have h2' := h2
  have h3' := h3
  rw [Int32.lt_iff_toInt_lt, e2] at h2'
  rw [Int32.lt_iff_toInt_lt, e3] at h3'
  have eo1 : (off + (1 : Int64)).toInt = off.toInt + 1 := by rw [Jvm.Kit.i64_add (by rw [e64_1]; omega) (by rw [e64_1]; omega), e64_1]
  have eo2 : (off + (2 : Int64)).toInt = off.toInt + 2 := by rw [Jvm.Kit.i64_add (by rw [e64_2]; omega) (by rw [e64_2]; omega), e64_2]
  obtain ⟨arr, inn, tt⟩ : ∃ arr inn, SegT Z h0 n1 seg Lt arr inn := by
    rcases sp.2.2 with q | q
    · exfalso; rw [q] at hbd; have e0 : ((0 : Int64)).toInt = 0 := by decide
      rw [e0] at hbd; omega
    · exact q
  obtain ⟨t1_1, t2_1, t3_1, t4_1, ⟨kA1, t5_1⟩, c1, t6_1, t7_1⟩ := id tt
  have ix1 := own_ix (i := (off + (1 : Int64))) (L := Lt) (by rw [eo1]; omega) (by rw [eo1]; omega) hbd.2.2.1
  obtain ⟨cq1, kq1, q1a, q1b, q1c⟩ := isOf hZ e0 sp.1
  obtain ⟨_, _, ⟨T1, lo1, co1, so1⟩, -, X1, ⟨Lc1, hQ1, l1, y1, z1⟩, st1⟩ := X0.virtualBack hx (y := (⟨"com/example/vexpi/vexpi/graph/SegmentedIntArray", "set", "(JI)V"⟩ : MethodName)) (z := (⟨"com/example/vexpi/vexpi/graph/SegmentedIntArray", "set", "(JI)V"⟩ : MethodName)) hown (mvT hZ (hw _ (List.mem_of_getElem? (i := 32) rfl))) (mvT hZ (hw _ (List.mem_of_getElem? (i := 33) rfl))) (notFace_of_selects (args := #[]) (mvT hZ (hw _ (List.mem_of_getElem? (i := 35) rfl)))) (mvT hZ (hw _ (List.mem_of_getElem? (i := 35) rfl))) (mvT hZ (hw _ (List.mem_of_getElem? (i := 34) rfl))) (by decide) (backOf (W := 0) (Q := Q6 Z c1 inn h0 n0) (set_0 l Z a0 hw seg arr inn (off + (1 : Int64)) (1 : Int32) kA1 c1 h0 n0 Z0 sp.1 t4_1 t5_1 t6_1 (Nat.le_trans h01 t2_1) ix1.1 (inb_of t7_1 ix1.2)) hZ (hw _ (List.mem_of_getElem? (i := 36) rfl)) (hw _ (List.mem_of_getElem? (i := 4) rfl)) (by decide) (by decide)) q1a q1c (g := (mkF m 10 #[.val (.ref seg), .val (.long off), .second, .val (.int d)] [(.int (1 : Int32)), (.long (off + (1 : Int64))), (.ref seg)])) rfl (by rw [hml]; rfl) (Steps.refl _) (argsL := [(.long (off + (1 : Int64))), (.int (1 : Int32))]) (rest := []) (lenOf pd__JI_V rfl) rfl (by show 2 * 0 + _ ≤ _; exact Nat.le_of_eq rfl) (hb hby d5_10) (fun _ _ => ⟨rfl, e0, (by decide : 0 + 0 ≤ _), (by decide : 0 + 0 ≤ _)⟩)
  dsimp only [Pt.U, Pt.locs, Pt.cells, Pt.slots] at X1 l1 y1 z1 st1 hQ1
  rw [l1, y1, z1] at X1
  obtain ⟨rfl, Nq1, hQ1⟩ := hQ1
  have N1 := Fr.app N0 Nq1
  have tt1 := SegT.wr tt lt t6_1 hQ1.1 hQ1.2
  have es1 := Exa.keep sp.1 hQ1.1
  have fs1 := Fld.keep sp.2.1 hQ1.1 (ninS (Nat.ne_of_lt (Nat.lt_of_lt_of_le lt t2_1)) nin0)
  have Z_1 := Nat.le_trans Z0 hQ1.1.1
  have K_1 := hQ1.1
  obtain ⟨t1_2, t2_2, t3_2, t4_2, ⟨kA2, t5_2⟩, c2, t6_2, t7_2⟩ := id tt1
  have ix2 := own_ix (i := (off + (2 : Int64))) (L := Lt) (by rw [eo2]; omega) (by rw [eo2]; omega) hbd.2.2.1
  obtain ⟨cq2, kq2, q2a, q2b, q2c⟩ := isOf hZ rfl es1
  obtain ⟨_, _, ⟨T2, lo2, co2, so2⟩, -, X2, ⟨Lc2, hQ2, l2, y2, z2⟩, st2⟩ := X1.virtualBack hx (y := (⟨"com/example/vexpi/vexpi/graph/SegmentedIntArray", "set", "(JI)V"⟩ : MethodName)) (z := (⟨"com/example/vexpi/vexpi/graph/SegmentedIntArray", "set", "(JI)V"⟩ : MethodName)) hown (mvT hZ (hw _ (List.mem_of_getElem? (i := 32) rfl))) (mvT hZ (hw _ (List.mem_of_getElem? (i := 33) rfl))) (notFace_of_selects (args := #[]) (mvT hZ (hw _ (List.mem_of_getElem? (i := 35) rfl)))) (mvT hZ (hw _ (List.mem_of_getElem? (i := 35) rfl))) (mvT hZ (hw _ (List.mem_of_getElem? (i := 34) rfl))) (by decide) (backOf (W := 0) (Q := Q6 Z c2 inn T1.heap n0) (set_0 l Z a0 hw seg arr inn (off + (2 : Int64)) (2 : Int32) kA2 c2 T1.heap n0 Z_1 es1 t4_2 t5_2 t6_2 (Nat.le_trans h01 t2_2) ix2.1 (inb_of t7_2 ix2.2)) hZ (hw _ (List.mem_of_getElem? (i := 36) rfl)) (hw _ (List.mem_of_getElem? (i := 4) rfl)) (by decide) (by decide)) q2a q2c (g := (mkF m 25 #[.val (.ref seg), .val (.long off), .second, .val (.int d)] [(.int (2 : Int32)), (.long (off + (2 : Int64))), (.ref seg)])) rfl (by rw [hml]; rfl) (Steps.refl _) (argsL := [(.long (off + (2 : Int64))), (.int (2 : Int32))]) (rest := []) (lenOf pd__JI_V rfl) rfl (by show 2 * 0 + _ ≤ _; exact Nat.le_of_eq rfl) (hb hby d5_25) (fun _ _ => ⟨rfl, rfl, (by decide : 0 + 0 ≤ _), (by decide : 0 + 0 ≤ _)⟩)
  dsimp only [Pt.U, Pt.locs, Pt.cells, Pt.slots] at X2 l2 y2 z2 st2 hQ2
  rw [l2, y2, z2] at X2
  obtain ⟨rfl, Nq2, hQ2⟩ := hQ2
  have N2 := Fr.app N1 Nq2
  have tt2 := SegT.wr tt1 lt t6_2 hQ2.1 hQ2.2
  have es2 := Exa.keep es1 hQ2.1
  have fs2 := Fld.keep fs1 hQ2.1 (ninS (Nat.ne_of_lt (Nat.lt_of_lt_of_le lt t2_2)) nin0)
  have Z_2 := Nat.le_trans Z_1 hQ2.1.1
  have K_2 := Keep.trans K_1 hQ2.1 (fun x hx => Or.inl hx)
  obtain ⟨fs, hr, hrun, hended, hW, hsame⟩ := X2.leave (v := none) (fun _ => rfl)
  refine ⟨_, _, pre0 _ ?_, hrun, hended, _, _, rfl, ?_, ⟨_, rfl⟩, hW, hsame.mono (by decide) (by decide)⟩
  · show Steps p.tables e below (s₁.setTop (mkF m 0 #[.val (.ref seg), .val (.long off), .second, .val (.int d)] [])) _
    refine XS.iloadN X0.here hx rfl (hb hby d5_0) rfl ?_
    show Steps p.tables e below (s₁.setTop (mkF m 1 #[.val (.ref seg), .val (.long off), .second, .val (.int d)] [(.int d)])) _
    refine XS.iconst X0.here hx rfl (hb hby d5_1) ?_
    show Steps p.tables e below (s₁.setTop (mkF m 2 #[.val (.ref seg), .val (.long off), .second, .val (.int d)] [(.int (2 : Int32)), (.int d)])) _
    refine XS.icmpNo X0.here hx rfl (hb hby d5_2) rfl (flt h2).1 ?_
    show Steps p.tables e below (s₁.setTop (mkF m 5 #[.val (.ref seg), .val (.long off), .second, .val (.int d)] [])) _
    refine XS.aloadN X0.here hx rfl (hb hby d5_5) rfl rfl ?_
    show Steps p.tables e below (s₁.setTop (mkF m 6 #[.val (.ref seg), .val (.long off), .second, .val (.int d)] [(.ref seg)])) _
    refine XS.lloadN X0.here hx rfl (hb hby d5_6) rfl ?_
    show Steps p.tables e below (s₁.setTop (mkF m 7 #[.val (.ref seg), .val (.long off), .second, .val (.int d)] [(.long off), (.ref seg)])) _
    refine XS.lconst X0.here hx rfl (hb hby d5_7) ?_
    show Steps p.tables e below (s₁.setTop (mkF m 8 #[.val (.ref seg), .val (.long off), .second, .val (.int d)] [(.long (1 : Int64)), (.long off), (.ref seg)])) _
    refine XS.ladd X0.here hx rfl (hb hby d5_8) rfl ?_
    show Steps p.tables e below (s₁.setTop (mkF m 9 #[.val (.ref seg), .val (.long off), .second, .val (.int d)] [(.long (off + (1 : Int64))), (.ref seg)])) _
    refine XS.iconst X0.here hx rfl (hb hby d5_9) ?_
    show Steps p.tables e below (s₁.setTop (mkF m 10 #[.val (.ref seg), .val (.long off), .second, .val (.int d)] [(.int (1 : Int32)), (.long (off + (1 : Int64))), (.ref seg)])) _
    refine st1.trans ?_
    show Steps p.tables e below (T1.setTop (mkF m 13 #[.val (.ref seg), .val (.long off), .second, .val (.int d)] [])) _
    refine XS.iloadN X1.here hx rfl (hb hby d5_13) rfl ?_
    show Steps p.tables e below (T1.setTop (mkF m 14 #[.val (.ref seg), .val (.long off), .second, .val (.int d)] [(.int d)])) _
    refine XS.iconst X1.here hx rfl (hb hby d5_14) ?_
    show Steps p.tables e below (T1.setTop (mkF m 15 #[.val (.ref seg), .val (.long off), .second, .val (.int d)] [(.int (3 : Int32)), (.int d)])) _
    refine XS.icmpNo X1.here hx rfl (hb hby d5_15) rfl (flt h3).1 ?_
    show Steps p.tables e below (T1.setTop (mkF m 18 #[.val (.ref seg), .val (.long off), .second, .val (.int d)] [])) _
    refine XS.aloadN X1.here hx rfl (hb hby d5_18) rfl rfl ?_
    show Steps p.tables e below (T1.setTop (mkF m 19 #[.val (.ref seg), .val (.long off), .second, .val (.int d)] [(.ref seg)])) _
    refine XS.lloadN X1.here hx rfl (hb hby d5_19) rfl ?_
    show Steps p.tables e below (T1.setTop (mkF m 20 #[.val (.ref seg), .val (.long off), .second, .val (.int d)] [(.long off), (.ref seg)])) _
    refine X1.ldc2J hx hown (mvT hZ (hw _ (List.mem_of_getElem? (i := 45) rfl))) (g := (mkF m 20 #[.val (.ref seg), .val (.long off), .second, .val (.int d)] [(.long off), (.ref seg)])) rfl (hb hby d5_20) ?_
    show Steps p.tables e below (T1.setTop (mkF m 23 #[.val (.ref seg), .val (.long off), .second, .val (.int d)] [(.long (2 : Int64)), (.long off), (.ref seg)])) _
    refine XS.ladd X1.here hx rfl (hb hby d5_23) rfl ?_
    show Steps p.tables e below (T1.setTop (mkF m 24 #[.val (.ref seg), .val (.long off), .second, .val (.int d)] [(.long (off + (2 : Int64))), (.ref seg)])) _
    refine XS.iconst X1.here hx rfl (hb hby d5_24) ?_
    show Steps p.tables e below (T1.setTop (mkF m 25 #[.val (.ref seg), .val (.long off), .second, .val (.int d)] [(.int (2 : Int32)), (.long (off + (2 : Int64))), (.ref seg)])) _
    refine st2.trans ?_
    show Steps p.tables e below (T2.setTop (mkF m 28 #[.val (.ref seg), .val (.long off), .second, .val (.int d)] [])) _
    exact X2.returnOut hx Bd.returns (hb hby d5_28) hr
  · show (Q5 Z n1 seg Lt h0 n0) _ T2.heap _
    exact ⟨rfl, N2, ⟨[inn], K_2, allS tt.2.1 all0⟩, es2, fs2, Or.inr ⟨arr, inn, tt2⟩⟩

theorem fill (l : Launch) (Z : State) (a0 : Array Value) (hw : ∀ d ∈ tables_1, d.before a0 Z = true) (seg : Addr) (off Lt : Int64) (d : Int32) (h0 : Heap) (n0 : Nat) (Z0 : n0 ≤ h0.size) (n1 : Nat) (h01 : n0 ≤ n1) (lt : seg < n1) (sp : SegP Z h0 n1 seg Lt) (hbd : 0 ≤ off.toInt ∧ off.toInt + d.toInt ≤ Lt.toInt ∧ Lt.toInt ≤ 9 ∧ 0 ≤ d.toInt ∧ d.toInt ≤ 3) :
    PaysQ l Z h0 (⟨"com/example/vexpi/vexpi/graph/LinkGraphGetInDegreePinLaw", "fill", "(Lcom/example/vexpi/vexpi/graph/SegmentedIntArray;JI)V"⟩ : MethodName) [Jvm.Cond.code (⟨"com/example/vexpi/vexpi/graph/LinkGraphGetInDegreePinLaw", "fill", "(Lcom/example/vexpi/vexpi/graph/SegmentedIntArray;JI)V"⟩ : MethodName) method_4_code 4 none] R5 #[(.ref seg), (.long off), (.int d)] (Q5 Z n1 seg Lt h0 n0) := by
  by_cases h2 : d < (2 : Int32)
  · have h3 : d < (3 : Int32) := by
      have e2 : ((2 : Int32)).toInt = 2 := by decide
      have e3 : ((3 : Int32)).toInt = 3 := by decide
      rw [Int32.lt_iff_toInt_lt, e2] at h2; rw [Int32.lt_iff_toInt_lt, e3]; omega
    exact fill_0 l Z a0 hw seg off Lt d h0 n0 Z0 n1 h01 lt sp hbd h2 h3
  · by_cases h3 : d < (3 : Int32)
    · exact fill_1 l Z a0 hw seg off Lt d h0 n0 Z0 n1 h01 lt sp hbd h2 h3
    · exact fill_2 l Z a0 hw seg off Lt d h0 n0 Z0 n1 h01 lt sp hbd h2 h3

def Q1 (Z : State) (seg : Addr) (Lt : Int64) (h0 : Heap) (n0 : Nat) (v : Option Value) (h : Heap) (L : List Loc) : Prop := v = none ∧ Fr n0 L ∧ Keep h0 h [seg] ∧ SegP Z h h0.size seg Lt

theorem d1_0 : decode prog_4_method_1_code 0 = .ok (.aload_n 0, 1) := by decide +kernel
theorem d1_1 : decode prog_4_method_1_code 1 = .ok (.invokespecial 3, 3) := by decide +kernel
theorem d1_4 : decode prog_4_method_1_code 4 = .ok (.lload_n 1, 1) := by decide +kernel
theorem d1_5 : decode prog_4_method_1_code 5 = .ok (.lconst 0, 1) := by decide +kernel
theorem d1_6 : decode prog_4_method_1_code 6 = .ok (.lcmp, 1) := by decide +kernel
theorem d1_7 : decode prog_4_method_1_code 7 = .ok (.ifCond .ge 17, 3) := by decide +kernel
theorem d1_24 : decode prog_4_method_1_code 24 = .ok (.lload_n 1, 1) := by decide +kernel
theorem d1_25 : decode prog_4_method_1_code 25 = .ok (.ldc2_w 18, 3) := by decide +kernel
theorem d1_28 : decode prog_4_method_1_code 28 = .ok (.ladd, 1) := by decide +kernel
theorem d1_29 : decode prog_4_method_1_code 29 = .ok (.bipush 16, 2) := by decide +kernel
theorem d1_31 : decode prog_4_method_1_code 31 = .ok (.lushr, 1) := by decide +kernel
theorem d1_32 : decode prog_4_method_1_code 32 = .ok (.invokestatic 20, 3) := by decide +kernel
theorem d1_35 : decode prog_4_method_1_code 35 = .ok (.istore_n 3, 1) := by decide +kernel
theorem d1_36 : decode prog_4_method_1_code 36 = .ok (.aload_n 0, 1) := by decide +kernel
theorem d1_37 : decode prog_4_method_1_code 37 = .ok (.iload_n 3, 1) := by decide +kernel
theorem d1_38 : decode prog_4_method_1_code 38 = .ok (.anewarray 26, 3) := by decide +kernel
theorem d1_41 : decode prog_4_method_1_code 41 = .ok (.putfield 28, 3) := by decide +kernel
theorem d1_44 : decode prog_4_method_1_code 44 = .ok (.iconst 0, 1) := by decide +kernel
theorem d1_45 : decode prog_4_method_1_code 45 = .ok (.istore 4, 2) := by decide +kernel
theorem d1_47 : decode prog_4_method_1_code 47 = .ok (.iload 4, 2) := by decide +kernel
theorem d1_49 : decode prog_4_method_1_code 49 = .ok (.iload_n 3, 1) := by decide +kernel
theorem d1_50 : decode prog_4_method_1_code 50 = .ok (.if_icmp .ge 37, 3) := by decide +kernel
theorem d1_87 : decode prog_4_method_1_code 87 = .ok (.aload_n 0, 1) := by decide +kernel
theorem d1_88 : decode prog_4_method_1_code 88 = .ok (.lload_n 1, 1) := by decide +kernel
theorem d1_89 : decode prog_4_method_1_code 89 = .ok (.putfield 38, 3) := by decide +kernel
theorem d1_92 : decode prog_4_method_1_code 92 = .ok (.return_, 1) := by decide +kernel
theorem ef_1 (m : MethodId) (x0 : Addr) (x1 : Int64) : entryFrame m #[(.ref x0), (.long x1)] 7 = mkF m 0 #[.val (.ref x0), .val (.long x1), .second, .unset, .unset, .unset, .unset] [] := by first | (simp [entryFrame, mkF, argsToLocals, Value.category]; done) | rfl
set_option maxRecDepth 65536 in
set_option maxHeartbeats 40000000 in
theorem ini_0 (l : Launch) (Z : State) (a0 : Array Value) (hw : ∀ d ∈ tables_1, d.before a0 Z = true) (seg : Addr) (h0 : Heap) (n0 : Nat) (Z0 : n0 ≤ h0.size) (Es : Exa Z h0 seg "com/example/vexpi/vexpi/graph/SegmentedIntArray") (Fs : Fld Z h0 seg "com/example/vexpi/vexpi/graph/SegmentedIntArray" "segments" "[[I" .null) (Fl : Fld Z h0 seg "com/example/vexpi/vexpi/graph/SegmentedIntArray" "length" "J" (.long (0 : Int64))) (gs : n0 ≤ seg) :
    PaysQ l Z h0 (⟨"com/example/vexpi/vexpi/graph/SegmentedIntArray", "<init>", "(J)V"⟩ : MethodName) [Jvm.Cond.code (⟨"com/example/vexpi/vexpi/graph/SegmentedIntArray", "<init>", "(J)V"⟩ : MethodName) prog_4_method_1_code 7 none] R1 #[(.ref seg), (.long (0 : Int64))] (Q1 Z seg (0 : Int64) h0 n0) := by
  refine MetFree.of_bodySF (plainFor_of_name pn_SegmentedIntArray) hisR ?_
  intro p e s m args below meth c s₁ Bd hml0 hP hK
  obtain ⟨rfl, hZ, hh⟩ := hP
  have hx := Bd.exec
  have hby := Bd.bytes
  have hml : c.maxLocals = 7 := hml0
  have hown : s.vm.findClass "com/example/vexpi/vexpi/graph/SegmentedIntArray" = some m.cls := findClass_of_methodNamed Bd.named
  have X0 : Stand p l e R1 s m #[(.ref seg), (.long (0 : Int64))] below meth c s₁ [] 0 0 := Stand.of_body Bd
  have e0 : s₁.heap = h0 := by rw [← hh, Bd.state]; rfl
  have N0 := Fr.nil n0
  have pre0 : ∀ t, Steps p.tables e below (s₁.setTop (mkF m 0 #[.val (.ref seg), .val (.long (0 : Int64)), .second, .unset, .unset, .unset, .unset] [])) t → Steps p.tables e below (s₁.setTop (entryFrame m #[(.ref seg), (.long (0 : Int64))] 7)) t := fun t k => castTop (ef_1 m seg (0 : Int64)) k
  have hnm := (name_of_methodNamed Bd.named Bd.method).1
  obtain ⟨T1, X1, e1, st1⟩ := initO X0 hx hZ hown (hw _ (List.mem_of_getElem? (i := 8) rfl)) (hw _ (List.mem_of_getElem? (i := 9) rfl)) (hw _ (List.mem_of_getElem? (i := 10) rfl)) e0 (g := (mkF m 1 #[.val (.ref seg), .val (.long (0 : Int64)), .second, .unset, .unset, .unset, .unset] [(.ref seg)])) rfl (by rw [hml]; rfl) rfl (hb hby d1_1) (by decide) (W := 0) (by show 2 * 0 + _ ≤ _; exact Nat.le_of_eq rfl) (by decide)
  obtain ⟨_, _, ⟨T2, lo2, co2, so2⟩, -, X2, ⟨Lc2, hQ2, l2, y2, z2⟩, st2⟩ := Jvm.LawKit.callS X1 hx (y := (⟨"java/lang/Math", "toIntExact", "(J)I"⟩ : MethodName)) hown (mvT hZ (hw _ (List.mem_of_getElem? (i := 12) rfl))) (mvT hZ (hw _ (List.mem_of_getElem? (i := 13) rfl))) (mvT hZ (hw _ (List.mem_of_getElem? (i := 14) rfl))) (mvT hZ (hw _ (List.mem_of_getElem? (i := 15) rfl))) (by decide) (backOf (W := 0) (Q := PQ (.int (0 : Int32)) h0 n0) (te_0 l Z a0 hw h0 n0 Z0) hZ (hw _ (List.mem_of_getElem? (i := 15) rfl)) (hw _ (List.mem_of_getElem? (i := 14) rfl)) (by decide) (by decide)) (g := (mkF m 32 #[.val (.ref seg), .val (.long (0 : Int64)), .second, .unset, .unset, .unset, .unset] [(.long (0 : Int64))])) rfl (by rw [hml]; rfl) (argsL := [(.long (0 : Int64))]) (rest := []) (lenOf pd__J_I rfl) rfl (by show 2 * 0 + _ ≤ _; exact Nat.le_of_eq rfl) (hb hby d1_32) (fun _ _ => ⟨rfl, e1, (by decide : 0 + 0 ≤ _), (by decide : 0 + 0 ≤ _)⟩)
  dsimp only [Pt.U, Pt.locs, Pt.cells, Pt.slots] at X2 l2 y2 z2 st2 hQ2
  rw [l2, y2, z2] at X2
  obtain ⟨rfl, Nq2, e2⟩ := hQ2
  have N2 := Fr.app N0 Nq2
  obtain ⟨T3, h3, k3, X3, e3, E3, A3, B3, O3, st3⟩ := newRA X2 hx hZ hown (C := "[I") (ty := .int) (by first | rfl | decide +kernel) (hw _ (List.mem_of_getElem? (i := 16) rfl)) (hw _ (List.mem_of_getElem? (i := 17) rfl)) e2 (g := (mkF m 38 #[.val (.ref seg), .val (.long (0 : Int64)), .second, .val (.int (0 : Int32)), .unset, .unset, .unset] [(.int (0 : Int32)), (.ref seg)])) rfl (hb hby d1_38) rfl (by decide) (cap := 0) (by decide) (by decide) (by decide) (by decide) (ad := "[[I") (by first | rfl | decide +kernel)
  obtain ⟨arr, g3⟩ : ∃ z, z = h0.size := ⟨_, rfl⟩
  rw [← g3] at A3 B3 st3
  have ne_seg_arr : seg ≠ arr := Nat.ne_of_lt (Nat.lt_of_lt_of_le Es.lt (Nat.le_of_eq g3.symm))
  have g_arr : n0 ≤ arr := Nat.le_trans Z0 (Nat.le_of_eq g3.symm)
  have sz_arr : h0.size ≤ arr := Nat.le_trans ((Keep.refl h0 [seg])).1 (Nat.le_of_eq g3.symm)
  have E_seg_3 := Es.ext E3
  have F_seg_segments_3 := Fs.ext E3
  have F_seg_length_3 := Fl.ext E3
  have Z_3 := Nat.le_trans Z0 E3.1
  have K_3 := Keep.ext (Keep.refl h0 [seg]) E3
  obtain ⟨T4, h4, X4, e4, W4, st4⟩ := putF X3 hx hZ hown (host := "") (Or.inl (hw _ (List.mem_of_getElem? (i := 18) rfl))) Via.refl e3 F_seg_segments_3 E_seg_3 (Or.inr ⟨(hw _ (List.mem_of_getElem? (i := 19) rfl)), rfl, hnm⟩) (hw _ (List.mem_of_getElem? (i := 3) rfl)) (ty := (.array (.array .int))) (by decide) rfl rfl (g := (mkF m 41 #[.val (.ref seg), .val (.long (0 : Int64)), .second, .val (.int (0 : Int32)), .unset, .unset, .unset] [(.ref arr), (.ref seg)])) rfl rfl (hb hby d1_41)
  have E_seg_4 := E_seg_3.wr W4
  have F_seg_segments_4 := F_seg_segments_3.same W4
  have F_seg_length_4 := F_seg_length_3.other W4 (Or.inr (slot_ne (Or.inr (hw _ (List.mem_of_getElem? (i := 27) rfl))) (Or.inr (hw _ (List.mem_of_getElem? (i := 19) rfl))) (by decide) (t := .long) (t' := (.array (.array .int))) (by decide) (by decide)))
  have Z_4 := Nat.le_trans Z_3 (Keep.of_wr W4).1
  have K_4 := Keep.wr K_3 W4 (Or.inl (List.mem_of_getElem? (i := 0) rfl))
  have N4 := Fr.snoc X4 N2 gs
  obtain ⟨T5, h5, X5, e5, W5, st5⟩ := putF X4 hx hZ hown (host := "") (Or.inl (hw _ (List.mem_of_getElem? (i := 26) rfl))) Via.refl e4 F_seg_length_4 E_seg_4 (Or.inr ⟨(hw _ (List.mem_of_getElem? (i := 27) rfl)), rfl, hnm⟩) (hw _ (List.mem_of_getElem? (i := 3) rfl)) (ty := .long) (by decide) rfl rfl (g := (mkF m 89 #[.val (.ref seg), .val (.long (0 : Int64)), .second, .val (.int (0 : Int32)), .val (.int (0 : Int32)), .unset, .unset] [(.long (0 : Int64)), (.ref seg)])) rfl rfl (hb hby d1_89)
  have E_seg_5 := E_seg_4.wr W5
  have F_seg_segments_5 := F_seg_segments_4.other W5 (Or.inr (slot_ne (Or.inr (hw _ (List.mem_of_getElem? (i := 19) rfl))) (Or.inr (hw _ (List.mem_of_getElem? (i := 27) rfl))) (by decide) (t := (.array (.array .int))) (t' := .long) (by decide) (by decide)))
  have F_seg_length_5 := F_seg_length_4.same W5
  have Z_5 := Nat.le_trans Z_4 (Keep.of_wr W5).1
  have K_5 := Keep.wr K_4 W5 (Or.inl (List.mem_of_getElem? (i := 0) rfl))
  have N5 := Fr.snoc X5 N4 gs
  obtain ⟨fs, hr, hrun, hended, hW, hsame⟩ := X5.leave (v := none) (fun _ => rfl)
  refine ⟨_, _, pre0 _ ?_, hrun, hended, _, _, rfl, ?_, ⟨_, rfl⟩, hW, hsame.mono (by decide) (by decide)⟩
  · show Steps p.tables e below (s₁.setTop (mkF m 0 #[.val (.ref seg), .val (.long (0 : Int64)), .second, .unset, .unset, .unset, .unset] [])) _
    refine XS.aloadN X0.here hx rfl (hb hby d1_0) rfl rfl ?_
    show Steps p.tables e below (s₁.setTop (mkF m 1 #[.val (.ref seg), .val (.long (0 : Int64)), .second, .unset, .unset, .unset, .unset] [(.ref seg)])) _
    refine st1 _ ?_
    show Steps p.tables e below (T1.setTop (mkF m 4 #[.val (.ref seg), .val (.long (0 : Int64)), .second, .unset, .unset, .unset, .unset] [])) _
    refine XS.lloadN X1.here hx rfl (hb hby d1_4) rfl ?_
    show Steps p.tables e below (T1.setTop (mkF m 5 #[.val (.ref seg), .val (.long (0 : Int64)), .second, .unset, .unset, .unset, .unset] [(.long (0 : Int64))])) _
    refine XS.lconst X1.here hx rfl (hb hby d1_5) ?_
    show Steps p.tables e below (T1.setTop (mkF m 6 #[.val (.ref seg), .val (.long (0 : Int64)), .second, .unset, .unset, .unset, .unset] [(.long (0 : Int64)), (.long (0 : Int64))])) _
    refine XS.lcmp X1.here hx rfl (hb hby d1_6) rfl ?_
    show Steps p.tables e below (T1.setTop (mkF m 7 #[.val (.ref seg), .val (.long (0 : Int64)), .second, .unset, .unset, .unset, .unset] [(.int (lcmpW (0 : Int64) (0 : Int64)))])) _
    refine XS.ifYes X1.here hx rfl (pc0 := 7) (pc' := 24) rfl (hb hby d1_7) rfl (by decide +kernel) (by decide) (by decide) ?_
    show Steps p.tables e below (T1.setTop (mkF m 24 #[.val (.ref seg), .val (.long (0 : Int64)), .second, .unset, .unset, .unset, .unset] [])) _
    refine XS.lloadN X1.here hx rfl (hb hby d1_24) rfl ?_
    show Steps p.tables e below (T1.setTop (mkF m 25 #[.val (.ref seg), .val (.long (0 : Int64)), .second, .unset, .unset, .unset, .unset] [(.long (0 : Int64))])) _
    refine X1.ldc2J hx hown (mvT hZ (hw _ (List.mem_of_getElem? (i := 11) rfl))) (g := (mkF m 25 #[.val (.ref seg), .val (.long (0 : Int64)), .second, .unset, .unset, .unset, .unset] [(.long (0 : Int64))])) rfl (hb hby d1_25) ?_
    show Steps p.tables e below (T1.setTop (mkF m 28 #[.val (.ref seg), .val (.long (0 : Int64)), .second, .unset, .unset, .unset, .unset] [(.long (65535 : Int64)), (.long (0 : Int64))])) _
    refine XS.ladd X1.here hx rfl (hb hby d1_28) rfl ?_
    show Steps p.tables e below (T1.setTop (mkF m 29 #[.val (.ref seg), .val (.long (0 : Int64)), .second, .unset, .unset, .unset, .unset] [(.long ((0 : Int64) + (65535 : Int64)))])) _
    refine XS.bipush X1.here hx rfl (hb hby d1_29) ?_
    show Steps p.tables e below (T1.setTop (mkF m 31 #[.val (.ref seg), .val (.long (0 : Int64)), .second, .unset, .unset, .unset, .unset] [(.int (16 : Int32)), (.long ((0 : Int64) + (65535 : Int64)))])) _
    refine XS.lushr X1.here hx rfl (hb hby d1_31) rfl ?_
    show Steps p.tables e below (T1.setTop (mkF m 32 #[.val (.ref seg), .val (.long (0 : Int64)), .second, .unset, .unset, .unset, .unset] [(.long ((((0 : Int64) + (65535 : Int64)).toUInt64 >>> ((16 : Int32) &&& 0x3f).toInt64.toUInt64).toInt64))])) _
    rw [show ((((0 : Int64) + (65535 : Int64)).toUInt64 >>> ((16 : Int32) &&& 0x3f).toInt64.toUInt64).toInt64) = (0 : Int64) from by decide +kernel]
    show Steps p.tables e below (T1.setTop (mkF m 32 #[.val (.ref seg), .val (.long (0 : Int64)), .second, .unset, .unset, .unset, .unset] [(.long (0 : Int64))])) _
    refine st2 _ ?_
    show Steps p.tables e below (T2.setTop (mkF m 35 #[.val (.ref seg), .val (.long (0 : Int64)), .second, .unset, .unset, .unset, .unset] [(.int (0 : Int32))])) _
    refine XS.istoreN X2.here hx rfl (hb hby d1_35) rfl (l' := #[.val (.ref seg), .val (.long (0 : Int64)), .second, .val (.int (0 : Int32)), .unset, .unset, .unset]) rfl ?_
    show Steps p.tables e below (T2.setTop (mkF m 36 #[.val (.ref seg), .val (.long (0 : Int64)), .second, .val (.int (0 : Int32)), .unset, .unset, .unset] [])) _
    refine XS.aloadN X2.here hx rfl (hb hby d1_36) rfl rfl ?_
    show Steps p.tables e below (T2.setTop (mkF m 37 #[.val (.ref seg), .val (.long (0 : Int64)), .second, .val (.int (0 : Int32)), .unset, .unset, .unset] [(.ref seg)])) _
    refine XS.iloadN X2.here hx rfl (hb hby d1_37) rfl ?_
    show Steps p.tables e below (T2.setTop (mkF m 38 #[.val (.ref seg), .val (.long (0 : Int64)), .second, .val (.int (0 : Int32)), .unset, .unset, .unset] [(.int (0 : Int32)), (.ref seg)])) _
    refine st3 _ ?_
    show Steps p.tables e below (T3.setTop (mkF m 41 #[.val (.ref seg), .val (.long (0 : Int64)), .second, .val (.int (0 : Int32)), .unset, .unset, .unset] [(.ref arr), (.ref seg)])) _
    refine st4 _ ?_
    show Steps p.tables e below (T4.setTop (mkF m 44 #[.val (.ref seg), .val (.long (0 : Int64)), .second, .val (.int (0 : Int32)), .unset, .unset, .unset] [])) _
    refine XS.iconst X4.here hx rfl (hb hby d1_44) ?_
    show Steps p.tables e below (T4.setTop (mkF m 45 #[.val (.ref seg), .val (.long (0 : Int64)), .second, .val (.int (0 : Int32)), .unset, .unset, .unset] [(.int (0 : Int32))])) _
    refine XS.istore X4.here hx rfl (hb hby d1_45) rfl (l' := #[.val (.ref seg), .val (.long (0 : Int64)), .second, .val (.int (0 : Int32)), .val (.int (0 : Int32)), .unset, .unset]) rfl ?_
    show Steps p.tables e below (T4.setTop (mkF m 47 #[.val (.ref seg), .val (.long (0 : Int64)), .second, .val (.int (0 : Int32)), .val (.int (0 : Int32)), .unset, .unset] [])) _
    refine XS.iload X4.here hx rfl (hb hby d1_47) rfl ?_
    show Steps p.tables e below (T4.setTop (mkF m 49 #[.val (.ref seg), .val (.long (0 : Int64)), .second, .val (.int (0 : Int32)), .val (.int (0 : Int32)), .unset, .unset] [(.int (0 : Int32))])) _
    refine XS.iloadN X4.here hx rfl (hb hby d1_49) rfl ?_
    show Steps p.tables e below (T4.setTop (mkF m 50 #[.val (.ref seg), .val (.long (0 : Int64)), .second, .val (.int (0 : Int32)), .val (.int (0 : Int32)), .unset, .unset] [(.int (0 : Int32)), (.int (0 : Int32))])) _
    refine XS.icmpYes X4.here hx rfl (pc0 := 50) (pc' := 87) rfl (hb hby d1_50) rfl (by decide) (by decide) (by decide) ?_
    show Steps p.tables e below (T4.setTop (mkF m 87 #[.val (.ref seg), .val (.long (0 : Int64)), .second, .val (.int (0 : Int32)), .val (.int (0 : Int32)), .unset, .unset] [])) _
    refine XS.aloadN X4.here hx rfl (hb hby d1_87) rfl rfl ?_
    show Steps p.tables e below (T4.setTop (mkF m 88 #[.val (.ref seg), .val (.long (0 : Int64)), .second, .val (.int (0 : Int32)), .val (.int (0 : Int32)), .unset, .unset] [(.ref seg)])) _
    refine XS.lloadN X4.here hx rfl (hb hby d1_88) rfl ?_
    show Steps p.tables e below (T4.setTop (mkF m 89 #[.val (.ref seg), .val (.long (0 : Int64)), .second, .val (.int (0 : Int32)), .val (.int (0 : Int32)), .unset, .unset] [(.long (0 : Int64)), (.ref seg)])) _
    refine st5 _ ?_
    show Steps p.tables e below (T5.setTop (mkF m 92 #[.val (.ref seg), .val (.long (0 : Int64)), .second, .val (.int (0 : Int32)), .val (.int (0 : Int32)), .unset, .unset] [])) _
    exact X5.returnOut hx Bd.returns (hb hby d1_92) hr
  · show (Q1 Z seg (0 : Int64) h0 n0) _ T5.heap _
    rw [e5]
    exact ⟨rfl, N5, K_5, E_seg_5, F_seg_length_5, Or.inl rfl⟩

theorem d1_53 : decode prog_4_method_1_code 53 = .ok (.iload 4, 2) := by decide +kernel
theorem d1_55 : decode prog_4_method_1_code 55 = .ok (.i2l, 1) := by decide +kernel
theorem d1_56 : decode prog_4_method_1_code 56 = .ok (.bipush 16, 2) := by decide +kernel
theorem d1_58 : decode prog_4_method_1_code 58 = .ok (.lshl, 1) := by decide +kernel
theorem d1_59 : decode prog_4_method_1_code 59 = .ok (.lstore 5, 2) := by decide +kernel
theorem d1_61 : decode prog_4_method_1_code 61 = .ok (.aload_n 0, 1) := by decide +kernel
theorem d1_62 : decode prog_4_method_1_code 62 = .ok (.getfield 28, 3) := by decide +kernel
theorem d1_65 : decode prog_4_method_1_code 65 = .ok (.iload 4, 2) := by decide +kernel
theorem d1_67 : decode prog_4_method_1_code 67 = .ok (.ldc2_w 32, 3) := by decide +kernel
theorem d1_70 : decode prog_4_method_1_code 70 = .ok (.lload_n 1, 1) := by decide +kernel
theorem d1_71 : decode prog_4_method_1_code 71 = .ok (.lload 5, 2) := by decide +kernel
theorem d1_73 : decode prog_4_method_1_code 73 = .ok (.lsub, 1) := by decide +kernel
theorem d1_74 : decode prog_4_method_1_code 74 = .ok (.invokestatic 34, 3) := by decide +kernel
theorem pd__JJ_J : parseMethodDescriptor "(JJ)J" = some ⟨[.long, .long], some .long⟩ := by decide +kernel
theorem d1_77 : decode prog_4_method_1_code 77 = .ok (.l2i, 1) := by decide +kernel
theorem d1_78 : decode prog_4_method_1_code 78 = .ok (.newarray .int, 2) := by decide +kernel
theorem d1_80 : decode prog_4_method_1_code 80 = .ok (.aastore, 1) := by decide +kernel
theorem d1_81 : decode prog_4_method_1_code 81 = .ok (.iinc 4 1, 3) := by decide +kernel
theorem d1_84 : decode prog_4_method_1_code 84 = .ok (.goto (-37), 3) := by decide +kernel
set_option maxRecDepth 65536 in
set_option maxHeartbeats 40000000 in
theorem ini_1 (l : Launch) (Z : State) (a0 : Array Value) (hw : ∀ d ∈ tables_1, d.before a0 Z = true) (seg : Addr) (Lt : Int64) (h0 : Heap) (n0 : Nat) (Z0 : n0 ≤ h0.size) (Es : Exa Z h0 seg "com/example/vexpi/vexpi/graph/SegmentedIntArray") (Fs : Fld Z h0 seg "com/example/vexpi/vexpi/graph/SegmentedIntArray" "segments" "[[I" .null) (Fl : Fld Z h0 seg "com/example/vexpi/vexpi/graph/SegmentedIntArray" "length" "J" (.long (0 : Int64))) (gs : n0 ≤ seg) (hL : 0 < Lt.toInt ∧ Lt.toInt ≤ 9) (hp7 : ¬ (lcmpW Lt (0 : Int64) < 0)) (hm : 0 < lcmpW (65536 : Int64) Lt) :
    PaysQ l Z h0 (⟨"com/example/vexpi/vexpi/graph/SegmentedIntArray", "<init>", "(J)V"⟩ : MethodName) [Jvm.Cond.code (⟨"com/example/vexpi/vexpi/graph/SegmentedIntArray", "<init>", "(J)V"⟩ : MethodName) prog_4_method_1_code 7 none] R1 #[(.ref seg), (.long Lt)] (Q1 Z seg Lt h0 n0) := by
  refine MetFree.of_bodySF (plainFor_of_name pn_SegmentedIntArray) hisR ?_
  intro p e s m args below meth c s₁ Bd hml0 hP hK
  obtain ⟨rfl, hZ, hh⟩ := hP
  have hx := Bd.exec
  have hby := Bd.bytes
  have hml : c.maxLocals = 7 := hml0
  have hown : s.vm.findClass "com/example/vexpi/vexpi/graph/SegmentedIntArray" = some m.cls := findClass_of_methodNamed Bd.named
  have X0 : Stand p l e R1 s m #[(.ref seg), (.long Lt)] below meth c s₁ [] 0 0 := Stand.of_body Bd
  have e0 : s₁.heap = h0 := by rw [← hh, Bd.state]; rfl
  have N0 := Fr.nil n0
  have pre0 : ∀ t, Steps p.tables e below (s₁.setTop (mkF m 0 #[.val (.ref seg), .val (.long Lt), .second, .unset, .unset, .unset, .unset] [])) t → Steps p.tables e below (s₁.setTop (entryFrame m #[(.ref seg), (.long Lt)] 7)) t := fun t k => castTop (ef_1 m seg Lt) k
  have hnm := (name_of_methodNamed Bd.named Bd.method).1
  obtain ⟨T1, X1, e1, st1⟩ := initO X0 hx hZ hown (hw _ (List.mem_of_getElem? (i := 8) rfl)) (hw _ (List.mem_of_getElem? (i := 9) rfl)) (hw _ (List.mem_of_getElem? (i := 10) rfl)) e0 (g := (mkF m 1 #[.val (.ref seg), .val (.long Lt), .second, .unset, .unset, .unset, .unset] [(.ref seg)])) rfl (by rw [hml]; rfl) rfl (hb hby d1_1) (by decide) (W := 0) (by show 2 * 0 + _ ≤ _; exact Nat.le_of_eq rfl) (by decide)
  obtain ⟨_, _, ⟨T2, lo2, co2, so2⟩, -, X2, ⟨Lc2, hQ2, l2, y2, z2⟩, st2⟩ := Jvm.LawKit.callS X1 hx (y := (⟨"java/lang/Math", "toIntExact", "(J)I"⟩ : MethodName)) hown (mvT hZ (hw _ (List.mem_of_getElem? (i := 12) rfl))) (mvT hZ (hw _ (List.mem_of_getElem? (i := 13) rfl))) (mvT hZ (hw _ (List.mem_of_getElem? (i := 14) rfl))) (mvT hZ (hw _ (List.mem_of_getElem? (i := 15) rfl))) (by decide) (backOf (W := 0) (Q := PQ (.int (1 : Int32)) h0 n0) (te_1 l Z a0 hw h0 n0 Z0) hZ (hw _ (List.mem_of_getElem? (i := 15) rfl)) (hw _ (List.mem_of_getElem? (i := 14) rfl)) (by decide) (by decide)) (g := (mkF m 32 #[.val (.ref seg), .val (.long Lt), .second, .unset, .unset, .unset, .unset] [(.long (1 : Int64))])) rfl (by rw [hml]; rfl) (argsL := [(.long (1 : Int64))]) (rest := []) (lenOf pd__J_I rfl) rfl (by show 2 * 0 + _ ≤ _; exact Nat.le_of_eq rfl) (hb hby d1_32) (fun _ _ => ⟨rfl, e1, (by decide : 0 + 0 ≤ _), (by decide : 0 + 0 ≤ _)⟩)
  dsimp only [Pt.U, Pt.locs, Pt.cells, Pt.slots] at X2 l2 y2 z2 st2 hQ2
  rw [l2, y2, z2] at X2
  obtain ⟨rfl, Nq2, e2⟩ := hQ2
  have N2 := Fr.app N0 Nq2
  obtain ⟨T3, h3, k3, X3, e3, E3, A3, B3, O3, st3⟩ := newRA X2 hx hZ hown (C := "[I") (ty := .int) (by first | rfl | decide +kernel) (hw _ (List.mem_of_getElem? (i := 16) rfl)) (hw _ (List.mem_of_getElem? (i := 17) rfl)) e2 (g := (mkF m 38 #[.val (.ref seg), .val (.long Lt), .second, .val (.int (1 : Int32)), .unset, .unset, .unset] [(.int (1 : Int32)), (.ref seg)])) rfl (hb hby d1_38) rfl (by decide) (cap := 1) (by decide) (by decide) (by decide) (by decide) (ad := "[[I") (by first | rfl | decide +kernel)
  obtain ⟨arr, g3⟩ : ∃ z, z = h0.size := ⟨_, rfl⟩
  rw [← g3] at A3 B3 st3
  have ne_seg_arr : seg ≠ arr := Nat.ne_of_lt (Nat.lt_of_lt_of_le Es.lt (Nat.le_of_eq g3.symm))
  have g_arr : n0 ≤ arr := Nat.le_trans Z0 (Nat.le_of_eq g3.symm)
  have sz_arr : h0.size ≤ arr := Nat.le_trans ((Keep.refl h0 [seg])).1 (Nat.le_of_eq g3.symm)
  have E_seg_3 := Es.ext E3
  have F_seg_segments_3 := Fs.ext E3
  have F_seg_length_3 := Fl.ext E3
  have Z_3 := Nat.le_trans Z0 E3.1
  have K_3 := Keep.ext (Keep.refl h0 [seg]) E3
  have V_arr : Arv Z h3 arr k3 (.array .int) (1 : Int32) [.null] .null := (Arv.new A3 (by decide)).pad (pad_rep [] .null 1)
  obtain ⟨T4, h4, X4, e4, W4, st4⟩ := putF X3 hx hZ hown (host := "") (Or.inl (hw _ (List.mem_of_getElem? (i := 18) rfl))) Via.refl e3 F_seg_segments_3 E_seg_3 (Or.inr ⟨(hw _ (List.mem_of_getElem? (i := 19) rfl)), rfl, hnm⟩) (hw _ (List.mem_of_getElem? (i := 3) rfl)) (ty := (.array (.array .int))) (by decide) rfl rfl (g := (mkF m 41 #[.val (.ref seg), .val (.long Lt), .second, .val (.int (1 : Int32)), .unset, .unset, .unset] [(.ref arr), (.ref seg)])) rfl rfl (hb hby d1_41)
  have E_seg_4 := E_seg_3.wr W4
  have F_seg_segments_4 := F_seg_segments_3.same W4
  have F_seg_length_4 := F_seg_length_3.other W4 (Or.inr (slot_ne (Or.inr (hw _ (List.mem_of_getElem? (i := 27) rfl))) (Or.inr (hw _ (List.mem_of_getElem? (i := 19) rfl))) (by decide) (t := .long) (t' := (.array (.array .int))) (by decide) (by decide)))
  have V_arr_4 := V_arr.other W4 (Ne.symm ne_seg_arr)
  have Z_4 := Nat.le_trans Z_3 (Keep.of_wr W4).1
  have K_4 := Keep.wr K_3 W4 (Or.inl (List.mem_of_getElem? (i := 0) rfl))
  have N4 := Fr.snoc X4 N2 gs
  obtain ⟨T5, X5, e5, st5⟩ := getF X4 hx hZ hown (host := "") (Or.inl (hw _ (List.mem_of_getElem? (i := 18) rfl))) Via.refl e4 F_seg_segments_4 (g := (mkF m 62 #[.val (.ref seg), .val (.long Lt), .second, .val (.int (1 : Int32)), .val (.int (0 : Int32)), .val (.long (0 : Int64)), .second] [(.ref seg)])) rfl rfl (hb hby d1_62)
  obtain ⟨_, _, ⟨T6, lo6, co6, so6⟩, -, X6, ⟨Lc6, hQ6, l6, y6, z6⟩, st6⟩ := Jvm.LawKit.callS X5 hx (y := (⟨"java/lang/Math", "min", "(JJ)J"⟩ : MethodName)) hown (mvT hZ (hw _ (List.mem_of_getElem? (i := 21) rfl))) (mvT hZ (hw _ (List.mem_of_getElem? (i := 22) rfl))) (mvT hZ (hw _ (List.mem_of_getElem? (i := 14) rfl))) (mvT hZ (hw _ (List.mem_of_getElem? (i := 23) rfl))) (by decide) (backOf (W := 2) (Q := PQ (.long Lt) h4 n0) (mnJ l Z a0 hw Lt h4 n0 Z_4 hm) hZ (hw _ (List.mem_of_getElem? (i := 23) rfl)) (hw _ (List.mem_of_getElem? (i := 14) rfl)) (by decide) (by decide)) (g := (mkF m 74 #[.val (.ref seg), .val (.long Lt), .second, .val (.int (1 : Int32)), .val (.int (0 : Int32)), .val (.long (0 : Int64)), .second] [(.long Lt), (.long (65536 : Int64)), (.int (0 : Int32)), (.ref arr)])) rfl (by rw [hml]; rfl) (argsL := [(.long (65536 : Int64)), (.long Lt)]) (rest := [(.int (0 : Int32)), (.ref arr)]) (lenOf pd__JJ_J rfl) rfl (by show 2 * 0 + _ ≤ _; exact Nat.le_of_eq rfl) (hb hby d1_74) (fun _ _ => ⟨rfl, e5, (by decide : 1 + 0 ≤ _), (by decide : 1 + 0 ≤ _)⟩)
  dsimp only [Pt.U, Pt.locs, Pt.cells, Pt.slots] at X6 l6 y6 z6 st6 hQ6
  rw [l6, y6, z6] at X6
  obtain ⟨rfl, Nq6, e6⟩ := hQ6
  have N6 := Fr.app N4 Nq6
  obtain ⟨T7, h7, k7, X7, e7, E7, A7, B7, st7⟩ := newPE X6 hx hZ (hw _ (List.mem_of_getElem? (i := 24) rfl)) e6 (g := (mkF m 78 #[.val (.ref seg), .val (.long Lt), .second, .val (.int (1 : Int32)), .val (.int (0 : Int32)), .val (.long (0 : Int64)), .second] [(.int (Lt.toInt32)), (.int (0 : Int32)), (.ref arr)])) rfl (hb hby d1_78) rfl (own_ln (Int.le_of_lt hL.1) hL.2).1 (cap := 9) (own_ln (Int.le_of_lt hL.1) hL.2).2 (by decide) (by decide) (by decide) (ad := "[I") (by first | rfl | decide +kernel)
  obtain ⟨inn, g7⟩ : ∃ z, z = h4.size := ⟨_, rfl⟩
  rw [← g7] at A7 B7 st7
  have ne_seg_inn : seg ≠ inn := Nat.ne_of_lt (Nat.lt_of_lt_of_le E_seg_4.lt (Nat.le_of_eq g7.symm))
  have ne_arr_inn : arr ≠ inn := Nat.ne_of_lt (Nat.lt_of_lt_of_le V_arr_4.lt (Nat.le_of_eq g7.symm))
  have g_inn : n0 ≤ inn := Nat.le_trans Z_4 (Nat.le_of_eq g7.symm)
  have sz_inn : h0.size ≤ inn := Nat.le_trans (K_4).1 (Nat.le_of_eq g7.symm)
  have E_seg_7 := E_seg_4.ext E7
  have F_seg_segments_7 := F_seg_segments_4.ext E7
  have F_seg_length_7 := F_seg_length_4.ext E7
  have V_arr_7 := V_arr_4.ext E7
  have Z_7 := Nat.le_trans Z_4 E7.1
  have K_7 := Keep.ext K_4 E7
  obtain ⟨cl8, Ar8, cq8, S8, Nn8, Hh8, Gg8⟩ := V_arr_7
  have hin8 : ¬ ((0 : Int32) < 0 ∨ cl8.slots.size ≤ ((0 : Int32)).toNatClampNeg) := inb_of S8 ⟨by decide, by decide⟩
  obtain ⟨T8, h8, X8, e8, W8, st8⟩ := stR X7 hx hZ e7 Ar8 (j := (0 : Int32)) hin8 rfl (Sto.ofVA Ar8 cq8 O3 (Ins.self B7)) (g := (mkF m 80 #[.val (.ref seg), .val (.long Lt), .second, .val (.int (1 : Int32)), .val (.int (0 : Int32)), .val (.long (0 : Int64)), .second] [(.ref inn), (.int (0 : Int32)), (.ref arr)])) rfl rfl (hb hby d1_80)
  have E_seg_8 := E_seg_7.wr W8
  have F_seg_segments_8 := F_seg_segments_7.other W8 (Or.inl ne_seg_arr)
  have F_seg_length_8 := F_seg_length_7.other W8 (Or.inl ne_seg_arr)
  have A_inn_8 := A7.other W8 (Ne.symm ne_arr_inn)
  have B_inn_8 := B7.wr W8
  have Z_8 := Nat.le_trans Z_7 (Keep.of_wr W8).1
  have K_8 := Keep.wr K_7 W8 (Or.inr sz_arr)
  have N8 := Fr.snoc X8 N6 g_arr
  have V_arr_8 : Arv Z h8 arr k3 (.array .int) (1 : Int32) [.ref inn] .null := Arv.set Ar8 cq8 S8 Nn8 Hh8 Gg8 rfl W8 0 rfl (Nat.le_of_ble_eq_true rfl)
  obtain ⟨T9, h9, X9, e9, W9, st9⟩ := putF X8 hx hZ hown (host := "") (Or.inl (hw _ (List.mem_of_getElem? (i := 26) rfl))) Via.refl e8 F_seg_length_8 E_seg_8 (Or.inr ⟨(hw _ (List.mem_of_getElem? (i := 27) rfl)), rfl, hnm⟩) (hw _ (List.mem_of_getElem? (i := 3) rfl)) (ty := .long) (by decide) rfl rfl (g := (mkF m 89 #[.val (.ref seg), .val (.long Lt), .second, .val (.int (1 : Int32)), .val (.int (1 : Int32)), .val (.long (0 : Int64)), .second] [(.long Lt), (.ref seg)])) rfl rfl (hb hby d1_89)
  have E_seg_9 := E_seg_8.wr W9
  have F_seg_segments_9 := F_seg_segments_8.other W9 (Or.inr (slot_ne (Or.inr (hw _ (List.mem_of_getElem? (i := 19) rfl))) (Or.inr (hw _ (List.mem_of_getElem? (i := 27) rfl))) (by decide) (t := (.array (.array .int))) (t' := .long) (by decide) (by decide)))
  have F_seg_length_9 := F_seg_length_8.same W9
  have A_inn_9 := A_inn_8.other W9 (Ne.symm ne_seg_inn)
  have B_inn_9 := B_inn_8.wr W9
  have V_arr_9 := V_arr_8.other W9 (Ne.symm ne_seg_arr)
  have Z_9 := Nat.le_trans Z_8 (Keep.of_wr W9).1
  have K_9 := Keep.wr K_8 W9 (Or.inl (List.mem_of_getElem? (i := 0) rfl))
  have N9 := Fr.snoc X9 N8 gs
  obtain ⟨fs, hr, hrun, hended, hW, hsame⟩ := X9.leave (v := none) (fun _ => rfl)
  refine ⟨_, _, pre0 _ ?_, hrun, hended, _, _, rfl, ?_, ⟨_, rfl⟩, hW, hsame.mono (by decide) (by decide)⟩
  · show Steps p.tables e below (s₁.setTop (mkF m 0 #[.val (.ref seg), .val (.long Lt), .second, .unset, .unset, .unset, .unset] [])) _
    refine XS.aloadN X0.here hx rfl (hb hby d1_0) rfl rfl ?_
    show Steps p.tables e below (s₁.setTop (mkF m 1 #[.val (.ref seg), .val (.long Lt), .second, .unset, .unset, .unset, .unset] [(.ref seg)])) _
    refine st1 _ ?_
    show Steps p.tables e below (T1.setTop (mkF m 4 #[.val (.ref seg), .val (.long Lt), .second, .unset, .unset, .unset, .unset] [])) _
    refine XS.lloadN X1.here hx rfl (hb hby d1_4) rfl ?_
    show Steps p.tables e below (T1.setTop (mkF m 5 #[.val (.ref seg), .val (.long Lt), .second, .unset, .unset, .unset, .unset] [(.long Lt)])) _
    refine XS.lconst X1.here hx rfl (hb hby d1_5) ?_
    show Steps p.tables e below (T1.setTop (mkF m 6 #[.val (.ref seg), .val (.long Lt), .second, .unset, .unset, .unset, .unset] [(.long (0 : Int64)), (.long Lt)])) _
    refine XS.lcmp X1.here hx rfl (hb hby d1_6) rfl ?_
    show Steps p.tables e below (T1.setTop (mkF m 7 #[.val (.ref seg), .val (.long Lt), .second, .unset, .unset, .unset, .unset] [(.int (lcmpW Lt (0 : Int64)))])) _
    refine XS.ifYes X1.here hx rfl (pc0 := 7) (pc' := 24) rfl (hb hby d1_7) rfl ((if0 _ _).trans (flt hp7).2.1) (by decide) (by decide) ?_
    show Steps p.tables e below (T1.setTop (mkF m 24 #[.val (.ref seg), .val (.long Lt), .second, .unset, .unset, .unset, .unset] [])) _
    refine XS.lloadN X1.here hx rfl (hb hby d1_24) rfl ?_
    show Steps p.tables e below (T1.setTop (mkF m 25 #[.val (.ref seg), .val (.long Lt), .second, .unset, .unset, .unset, .unset] [(.long Lt)])) _
    refine X1.ldc2J hx hown (mvT hZ (hw _ (List.mem_of_getElem? (i := 11) rfl))) (g := (mkF m 25 #[.val (.ref seg), .val (.long Lt), .second, .unset, .unset, .unset, .unset] [(.long Lt)])) rfl (hb hby d1_25) ?_
    show Steps p.tables e below (T1.setTop (mkF m 28 #[.val (.ref seg), .val (.long Lt), .second, .unset, .unset, .unset, .unset] [(.long (65535 : Int64)), (.long Lt)])) _
    refine XS.ladd X1.here hx rfl (hb hby d1_28) rfl ?_
    show Steps p.tables e below (T1.setTop (mkF m 29 #[.val (.ref seg), .val (.long Lt), .second, .unset, .unset, .unset, .unset] [(.long (Lt + (65535 : Int64)))])) _
    refine XS.bipush X1.here hx rfl (hb hby d1_29) ?_
    show Steps p.tables e below (T1.setTop (mkF m 31 #[.val (.ref seg), .val (.long Lt), .second, .unset, .unset, .unset, .unset] [(.int (16 : Int32)), (.long (Lt + (65535 : Int64)))])) _
    refine XS.lushr X1.here hx rfl (hb hby d1_31) rfl ?_
    show Steps p.tables e below (T1.setTop (mkF m 32 #[.val (.ref seg), .val (.long Lt), .second, .unset, .unset, .unset, .unset] [(.long (((Lt + (65535 : Int64)).toUInt64 >>> ((16 : Int32) &&& 0x3f).toInt64.toUInt64).toInt64))])) _
    rw [own_sh hL.1 hL.2]
    show Steps p.tables e below (T1.setTop (mkF m 32 #[.val (.ref seg), .val (.long Lt), .second, .unset, .unset, .unset, .unset] [(.long (1 : Int64))])) _
    refine st2 _ ?_
    show Steps p.tables e below (T2.setTop (mkF m 35 #[.val (.ref seg), .val (.long Lt), .second, .unset, .unset, .unset, .unset] [(.int (1 : Int32))])) _
    refine XS.istoreN X2.here hx rfl (hb hby d1_35) rfl (l' := #[.val (.ref seg), .val (.long Lt), .second, .val (.int (1 : Int32)), .unset, .unset, .unset]) rfl ?_
    show Steps p.tables e below (T2.setTop (mkF m 36 #[.val (.ref seg), .val (.long Lt), .second, .val (.int (1 : Int32)), .unset, .unset, .unset] [])) _
    refine XS.aloadN X2.here hx rfl (hb hby d1_36) rfl rfl ?_
    show Steps p.tables e below (T2.setTop (mkF m 37 #[.val (.ref seg), .val (.long Lt), .second, .val (.int (1 : Int32)), .unset, .unset, .unset] [(.ref seg)])) _
    refine XS.iloadN X2.here hx rfl (hb hby d1_37) rfl ?_
    show Steps p.tables e below (T2.setTop (mkF m 38 #[.val (.ref seg), .val (.long Lt), .second, .val (.int (1 : Int32)), .unset, .unset, .unset] [(.int (1 : Int32)), (.ref seg)])) _
    refine st3 _ ?_
    show Steps p.tables e below (T3.setTop (mkF m 41 #[.val (.ref seg), .val (.long Lt), .second, .val (.int (1 : Int32)), .unset, .unset, .unset] [(.ref arr), (.ref seg)])) _
    refine st4 _ ?_
    show Steps p.tables e below (T4.setTop (mkF m 44 #[.val (.ref seg), .val (.long Lt), .second, .val (.int (1 : Int32)), .unset, .unset, .unset] [])) _
    refine XS.iconst X4.here hx rfl (hb hby d1_44) ?_
    show Steps p.tables e below (T4.setTop (mkF m 45 #[.val (.ref seg), .val (.long Lt), .second, .val (.int (1 : Int32)), .unset, .unset, .unset] [(.int (0 : Int32))])) _
    refine XS.istore X4.here hx rfl (hb hby d1_45) rfl (l' := #[.val (.ref seg), .val (.long Lt), .second, .val (.int (1 : Int32)), .val (.int (0 : Int32)), .unset, .unset]) rfl ?_
    show Steps p.tables e below (T4.setTop (mkF m 47 #[.val (.ref seg), .val (.long Lt), .second, .val (.int (1 : Int32)), .val (.int (0 : Int32)), .unset, .unset] [])) _
    refine XS.iload X4.here hx rfl (hb hby d1_47) rfl ?_
    show Steps p.tables e below (T4.setTop (mkF m 49 #[.val (.ref seg), .val (.long Lt), .second, .val (.int (1 : Int32)), .val (.int (0 : Int32)), .unset, .unset] [(.int (0 : Int32))])) _
    refine XS.iloadN X4.here hx rfl (hb hby d1_49) rfl ?_
    show Steps p.tables e below (T4.setTop (mkF m 50 #[.val (.ref seg), .val (.long Lt), .second, .val (.int (1 : Int32)), .val (.int (0 : Int32)), .unset, .unset] [(.int (1 : Int32)), (.int (0 : Int32))])) _
    refine XS.icmpNo X4.here hx rfl (hb hby d1_50) rfl (by decide) ?_
    show Steps p.tables e below (T4.setTop (mkF m 53 #[.val (.ref seg), .val (.long Lt), .second, .val (.int (1 : Int32)), .val (.int (0 : Int32)), .unset, .unset] [])) _
    refine XS.iload X4.here hx rfl (hb hby d1_53) rfl ?_
    show Steps p.tables e below (T4.setTop (mkF m 55 #[.val (.ref seg), .val (.long Lt), .second, .val (.int (1 : Int32)), .val (.int (0 : Int32)), .unset, .unset] [(.int (0 : Int32))])) _
    refine XS.i2l X4.here hx rfl (hb hby d1_55) rfl ?_
    show Steps p.tables e below (T4.setTop (mkF m 56 #[.val (.ref seg), .val (.long Lt), .second, .val (.int (1 : Int32)), .val (.int (0 : Int32)), .unset, .unset] [(.long ((0 : Int32).toInt64))])) _
    rw [show ((0 : Int32).toInt64) = (0 : Int64) from by decide +kernel]
    show Steps p.tables e below (T4.setTop (mkF m 56 #[.val (.ref seg), .val (.long Lt), .second, .val (.int (1 : Int32)), .val (.int (0 : Int32)), .unset, .unset] [(.long (0 : Int64))])) _
    refine XS.bipush X4.here hx rfl (hb hby d1_56) ?_
    show Steps p.tables e below (T4.setTop (mkF m 58 #[.val (.ref seg), .val (.long Lt), .second, .val (.int (1 : Int32)), .val (.int (0 : Int32)), .unset, .unset] [(.int (16 : Int32)), (.long (0 : Int64))])) _
    refine XS.lshl X4.here hx rfl (hb hby d1_58) rfl ?_
    show Steps p.tables e below (T4.setTop (mkF m 59 #[.val (.ref seg), .val (.long Lt), .second, .val (.int (1 : Int32)), .val (.int (0 : Int32)), .unset, .unset] [(.long ((0 : Int64) <<< ((16 : Int32) &&& 0x3f).toInt64))])) _
    rw [show ((0 : Int64) <<< ((16 : Int32) &&& 0x3f).toInt64) = (0 : Int64) from by decide +kernel]
    show Steps p.tables e below (T4.setTop (mkF m 59 #[.val (.ref seg), .val (.long Lt), .second, .val (.int (1 : Int32)), .val (.int (0 : Int32)), .unset, .unset] [(.long (0 : Int64))])) _
    refine XS.lstore X4.here hx rfl (hb hby d1_59) rfl (l' := #[.val (.ref seg), .val (.long Lt), .second, .val (.int (1 : Int32)), .val (.int (0 : Int32)), .val (.long (0 : Int64)), .second]) rfl ?_
    show Steps p.tables e below (T4.setTop (mkF m 61 #[.val (.ref seg), .val (.long Lt), .second, .val (.int (1 : Int32)), .val (.int (0 : Int32)), .val (.long (0 : Int64)), .second] [])) _
    refine XS.aloadN X4.here hx rfl (hb hby d1_61) rfl rfl ?_
    show Steps p.tables e below (T4.setTop (mkF m 62 #[.val (.ref seg), .val (.long Lt), .second, .val (.int (1 : Int32)), .val (.int (0 : Int32)), .val (.long (0 : Int64)), .second] [(.ref seg)])) _
    refine st5 _ ?_
    show Steps p.tables e below (T5.setTop (mkF m 65 #[.val (.ref seg), .val (.long Lt), .second, .val (.int (1 : Int32)), .val (.int (0 : Int32)), .val (.long (0 : Int64)), .second] [(.ref arr)])) _
    refine XS.iload X5.here hx rfl (hb hby d1_65) rfl ?_
    show Steps p.tables e below (T5.setTop (mkF m 67 #[.val (.ref seg), .val (.long Lt), .second, .val (.int (1 : Int32)), .val (.int (0 : Int32)), .val (.long (0 : Int64)), .second] [(.int (0 : Int32)), (.ref arr)])) _
    refine X5.ldc2J hx hown (mvT hZ (hw _ (List.mem_of_getElem? (i := 20) rfl))) (g := (mkF m 67 #[.val (.ref seg), .val (.long Lt), .second, .val (.int (1 : Int32)), .val (.int (0 : Int32)), .val (.long (0 : Int64)), .second] [(.int (0 : Int32)), (.ref arr)])) rfl (hb hby d1_67) ?_
    show Steps p.tables e below (T5.setTop (mkF m 70 #[.val (.ref seg), .val (.long Lt), .second, .val (.int (1 : Int32)), .val (.int (0 : Int32)), .val (.long (0 : Int64)), .second] [(.long (65536 : Int64)), (.int (0 : Int32)), (.ref arr)])) _
    refine XS.lloadN X5.here hx rfl (hb hby d1_70) rfl ?_
    show Steps p.tables e below (T5.setTop (mkF m 71 #[.val (.ref seg), .val (.long Lt), .second, .val (.int (1 : Int32)), .val (.int (0 : Int32)), .val (.long (0 : Int64)), .second] [(.long Lt), (.long (65536 : Int64)), (.int (0 : Int32)), (.ref arr)])) _
    refine XS.lload X5.here hx rfl (hb hby d1_71) rfl ?_
    show Steps p.tables e below (T5.setTop (mkF m 73 #[.val (.ref seg), .val (.long Lt), .second, .val (.int (1 : Int32)), .val (.int (0 : Int32)), .val (.long (0 : Int64)), .second] [(.long (0 : Int64)), (.long Lt), (.long (65536 : Int64)), (.int (0 : Int32)), (.ref arr)])) _
    refine XS.lsub X5.here hx rfl (hb hby d1_73) rfl ?_
    show Steps p.tables e below (T5.setTop (mkF m 74 #[.val (.ref seg), .val (.long Lt), .second, .val (.int (1 : Int32)), .val (.int (0 : Int32)), .val (.long (0 : Int64)), .second] [(.long (Lt - (0 : Int64))), (.long (65536 : Int64)), (.int (0 : Int32)), (.ref arr)])) _
    rw [show (Lt - (0 : Int64)) = Lt from by simp]
    show Steps p.tables e below (T5.setTop (mkF m 74 #[.val (.ref seg), .val (.long Lt), .second, .val (.int (1 : Int32)), .val (.int (0 : Int32)), .val (.long (0 : Int64)), .second] [(.long Lt), (.long (65536 : Int64)), (.int (0 : Int32)), (.ref arr)])) _
    refine st6 _ ?_
    show Steps p.tables e below (T6.setTop (mkF m 77 #[.val (.ref seg), .val (.long Lt), .second, .val (.int (1 : Int32)), .val (.int (0 : Int32)), .val (.long (0 : Int64)), .second] [(.long Lt), (.int (0 : Int32)), (.ref arr)])) _
    refine XS.l2i X6.here hx rfl (hb hby d1_77) rfl ?_
    show Steps p.tables e below (T6.setTop (mkF m 78 #[.val (.ref seg), .val (.long Lt), .second, .val (.int (1 : Int32)), .val (.int (0 : Int32)), .val (.long (0 : Int64)), .second] [(.int (Lt.toInt32)), (.int (0 : Int32)), (.ref arr)])) _
    refine st7 _ ?_
    show Steps p.tables e below (T7.setTop (mkF m 80 #[.val (.ref seg), .val (.long Lt), .second, .val (.int (1 : Int32)), .val (.int (0 : Int32)), .val (.long (0 : Int64)), .second] [(.ref inn), (.int (0 : Int32)), (.ref arr)])) _
    refine st8 _ ?_
    show Steps p.tables e below (T8.setTop (mkF m 81 #[.val (.ref seg), .val (.long Lt), .second, .val (.int (1 : Int32)), .val (.int (0 : Int32)), .val (.long (0 : Int64)), .second] [])) _
    refine XS.iinc X8.here hx rfl (hb hby d1_81) rfl (l' := #[.val (.ref seg), .val (.long Lt), .second, .val (.int (1 : Int32)), .val (.int ((0 : Int32) + (1 : Int32))), .val (.long (0 : Int64)), .second]) rfl ?_
    show Steps p.tables e below (T8.setTop (mkF m 84 #[.val (.ref seg), .val (.long Lt), .second, .val (.int (1 : Int32)), .val (.int ((0 : Int32) + (1 : Int32))), .val (.long (0 : Int64)), .second] [])) _
    rw [show ((0 : Int32) + (1 : Int32)) = (1 : Int32) from by decide +kernel]
    show Steps p.tables e below (T8.setTop (mkF m 84 #[.val (.ref seg), .val (.long Lt), .second, .val (.int (1 : Int32)), .val (.int (1 : Int32)), .val (.long (0 : Int64)), .second] [])) _
    refine XS.goto X8.here hx rfl (pc0 := 84) (pc' := 47) rfl (hb hby d1_84) (by decide) (by decide) ?_
    show Steps p.tables e below (T8.setTop (mkF m 47 #[.val (.ref seg), .val (.long Lt), .second, .val (.int (1 : Int32)), .val (.int (1 : Int32)), .val (.long (0 : Int64)), .second] [])) _
    refine XS.iload X8.here hx rfl (hb hby d1_47) rfl ?_
    show Steps p.tables e below (T8.setTop (mkF m 49 #[.val (.ref seg), .val (.long Lt), .second, .val (.int (1 : Int32)), .val (.int (1 : Int32)), .val (.long (0 : Int64)), .second] [(.int (1 : Int32))])) _
    refine XS.iloadN X8.here hx rfl (hb hby d1_49) rfl ?_
    show Steps p.tables e below (T8.setTop (mkF m 50 #[.val (.ref seg), .val (.long Lt), .second, .val (.int (1 : Int32)), .val (.int (1 : Int32)), .val (.long (0 : Int64)), .second] [(.int (1 : Int32)), (.int (1 : Int32))])) _
    refine XS.icmpYes X8.here hx rfl (pc0 := 50) (pc' := 87) rfl (hb hby d1_50) rfl (by decide) (by decide) (by decide) ?_
    show Steps p.tables e below (T8.setTop (mkF m 87 #[.val (.ref seg), .val (.long Lt), .second, .val (.int (1 : Int32)), .val (.int (1 : Int32)), .val (.long (0 : Int64)), .second] [])) _
    refine XS.aloadN X8.here hx rfl (hb hby d1_87) rfl rfl ?_
    show Steps p.tables e below (T8.setTop (mkF m 88 #[.val (.ref seg), .val (.long Lt), .second, .val (.int (1 : Int32)), .val (.int (1 : Int32)), .val (.long (0 : Int64)), .second] [(.ref seg)])) _
    refine XS.lloadN X8.here hx rfl (hb hby d1_88) rfl ?_
    show Steps p.tables e below (T8.setTop (mkF m 89 #[.val (.ref seg), .val (.long Lt), .second, .val (.int (1 : Int32)), .val (.int (1 : Int32)), .val (.long (0 : Int64)), .second] [(.long Lt), (.ref seg)])) _
    refine st9 _ ?_
    show Steps p.tables e below (T9.setTop (mkF m 92 #[.val (.ref seg), .val (.long Lt), .second, .val (.int (1 : Int32)), .val (.int (1 : Int32)), .val (.long (0 : Int64)), .second] [])) _
    exact X9.returnOut hx Bd.returns (hb hby d1_92) hr
  · show (Q1 Z seg Lt h0 n0) _ T9.heap _
    rw [e9]
    exact ⟨rfl, N9, K_9, E_seg_9, F_seg_length_9, Or.inr ⟨arr, inn, sz_arr, sz_inn, ne_arr_inn, F_seg_segments_9, ⟨_, V_arr_9⟩, _, A_inn_9, sz_new _ _ _⟩⟩

theorem ini (l : Launch) (Z : State) (a0 : Array Value) (hw : ∀ d ∈ tables_1, d.before a0 Z = true) (seg : Addr) (Lt : Int64) (h0 : Heap) (n0 : Nat) (Z0 : n0 ≤ h0.size) (Es : Exa Z h0 seg "com/example/vexpi/vexpi/graph/SegmentedIntArray") (Fs : Fld Z h0 seg "com/example/vexpi/vexpi/graph/SegmentedIntArray" "segments" "[[I" .null) (Fl : Fld Z h0 seg "com/example/vexpi/vexpi/graph/SegmentedIntArray" "length" "J" (.long (0 : Int64))) (gs : n0 ≤ seg) (hL : 0 ≤ Lt.toInt ∧ Lt.toInt ≤ 9) :
    PaysQ l Z h0 (⟨"com/example/vexpi/vexpi/graph/SegmentedIntArray", "<init>", "(J)V"⟩ : MethodName) [Jvm.Cond.code (⟨"com/example/vexpi/vexpi/graph/SegmentedIntArray", "<init>", "(J)V"⟩ : MethodName) prog_4_method_1_code 7 none] R1 #[(.ref seg), (.long Lt)] (Q1 Z seg Lt h0 n0) := by
  have e0 : ((0 : Int64)).toInt = 0 := by decide
  have e6 : ((65536 : Int64)).toInt = 65536 := by decide
  by_cases q : Lt = (0 : Int64)
  · subst q; exact ini_0 l Z a0 hw seg h0 n0 Z0 Es Fs Fl gs
  · have q' : ¬ Lt.toInt = 0 := fun u => q (Int64.toInt_inj.mp (u.trans e0.symm))
    refine ini_1 l Z a0 hw seg Lt h0 n0 Z0 Es Fs Fl gs ⟨by omega, hL.2⟩ ?_ ?_
    · rw [lw_lt, Int64.lt_iff_toInt_lt, e0]; omega
    · rw [lw_gt, Int64.lt_iff_toInt_lt, e6]; omega

theorem d13_0 : decode prog_4_method_2_code 0 = .ok (.aload_n 0, 1) := by decide +kernel
theorem d13_1 : decode prog_4_method_2_code 1 = .ok (.getfield 38, 3) := by decide +kernel
theorem d13_4 : decode prog_4_method_2_code 4 = .ok (.lreturn, 1) := by decide +kernel
theorem ef_13 (m : MethodId) (x0 : Addr) : entryFrame m #[(.ref x0)] 1 = mkF m 0 #[.val (.ref x0)] [] := by first | (simp [entryFrame, mkF, argsToLocals, Value.category]; done) | rfl
set_option maxRecDepth 65536 in
set_option maxHeartbeats 40000000 in
theorem len (l : Launch) (Z : State) (a0 : Array Value) (hw : ∀ d ∈ tables_1, d.before a0 Z = true) (seg : Addr) (Lt : Int64) (h0 : Heap) (n0 : Nat) (Z0 : n0 ≤ h0.size) (Fl : Fld Z h0 seg "com/example/vexpi/vexpi/graph/SegmentedIntArray" "length" "J" (.long Lt)) :
    Pays l Z h0 n0 (⟨"com/example/vexpi/vexpi/graph/SegmentedIntArray", "length", "()J"⟩ : MethodName) [Jvm.Cond.code (⟨"com/example/vexpi/vexpi/graph/SegmentedIntArray", "length", "()J"⟩ : MethodName) prog_4_method_2_code 1 (some .long)] R0 #[(.ref seg)] (.long Lt) := by
  refine MetFree.of_bodySF (plainFor_of_name pn_SegmentedIntArray) hisR ?_
  intro p e s m args below meth c s₁ Bd hml0 hP hK
  obtain ⟨rfl, hZ, hh⟩ := hP
  have hx := Bd.exec
  have hby := Bd.bytes
  have hml : c.maxLocals = 1 := hml0
  have hown : s.vm.findClass "com/example/vexpi/vexpi/graph/SegmentedIntArray" = some m.cls := findClass_of_methodNamed Bd.named
  have X0 : Stand p l e R0 s m #[(.ref seg)] below meth c s₁ [] 0 0 := Stand.of_body Bd
  have e0 : s₁.heap = h0 := by rw [← hh, Bd.state]; rfl
  have N0 := Fr.nil n0
  have pre0 : ∀ t, Steps p.tables e below (s₁.setTop (mkF m 0 #[.val (.ref seg)] [])) t → Steps p.tables e below (s₁.setTop (entryFrame m #[(.ref seg)] 1)) t := fun t k => castTop (ef_13 m seg) k
  obtain ⟨T1, X1, e1, st1⟩ := getF X0 hx hZ hown (host := "") (Or.inl (hw _ (List.mem_of_getElem? (i := 26) rfl))) Via.refl e0 Fl (g := (mkF m 1 #[.val (.ref seg)] [(.ref seg)])) rfl rfl (hb hby d13_1)
  obtain ⟨fs, hr, hrun, hended, hW, hsame⟩ := X1.leave (v := some (.long Lt)) (fun h => by rw [Bd.returns] at h; cases h)
  refine ⟨_, _, pre0 _ ?_, hrun, hended, _, _, rfl, ?_, ⟨_, rfl⟩, hW, hsame.mono (by decide) (by decide)⟩
  · show Steps p.tables e below (s₁.setTop (mkF m 0 #[.val (.ref seg)] [])) _
    refine XS.aloadN X0.here hx rfl (hb hby d13_0) rfl rfl ?_
    show Steps p.tables e below (s₁.setTop (mkF m 1 #[.val (.ref seg)] [(.ref seg)])) _
    refine st1 _ ?_
    show Steps p.tables e below (T1.setTop (mkF m 4 #[.val (.ref seg)] [(.long Lt)])) _
    jvm_step X1.here [X1.here.top, hx, (hb hby d13_4), X1.method', Bd.returns, narrow]
    first | (intro acts; rw [hr _ acts rfl rfl rfl]) | rw [hr _ _ rfl rfl rfl]
    exact Steps.refl _
  · show PQ (.long Lt) h0 n0 _ T1.heap _
    exact ⟨rfl, N0, e1⟩

theorem d12_0 : decode prog_1_method_4_code 0 = .ok (.aload_n 0, 1) := by decide +kernel
theorem d12_1 : decode prog_1_method_4_code 1 = .ok (.getfield 18, 3) := by decide +kernel
theorem d12_4 : decode prog_1_method_4_code 4 = .ok (.invokevirtual 37, 3) := by decide +kernel
theorem pd___J : parseMethodDescriptor "()J" = some ⟨[], some .long⟩ := by decide +kernel
theorem d12_7 : decode prog_1_method_4_code 7 = .ok (.lreturn, 1) := by decide +kernel
theorem pn_LinkGraph : plainName "com/example/vexpi/vexpi/graph/LinkGraph" = true := by first | (simp [plainName, overriddenIn]; done) | decide +kernel
theorem ef_12 (m : MethodId) (x0 : Addr) : entryFrame m #[(.ref x0)] 1 = mkF m 0 #[.val (.ref x0)] [] := by first | (simp [entryFrame, mkF, argsToLocals, Value.category]; done) | rfl
set_option maxRecDepth 65536 in
set_option maxHeartbeats 40000000 in
theorem cnt (l : Launch) (Z : State) (a0 : Array Value) (hw : ∀ d ∈ tables_1, d.before a0 Z = true) (g seg : Addr) (Lt : Int64) (h0 : Heap) (n0 : Nat) (Z0 : n0 ≤ h0.size) (Fg : Fld Z h0 g "com/example/vexpi/vexpi/graph/LinkGraph" "inSources" "Lcom/example/vexpi/vexpi/graph/SegmentedIntArray;" (.ref seg)) (Es : Exa Z h0 seg "com/example/vexpi/vexpi/graph/SegmentedIntArray") (Fl : Fld Z h0 seg "com/example/vexpi/vexpi/graph/SegmentedIntArray" "length" "J" (.long Lt)) :
    Pays l Z h0 n0 (⟨"com/example/vexpi/vexpi/graph/LinkGraph", "getLinkCount", "()J"⟩ : MethodName) [Jvm.Cond.code (⟨"com/example/vexpi/vexpi/graph/LinkGraph", "getLinkCount", "()J"⟩ : MethodName) prog_1_method_4_code 1 (some .long)] R12 #[(.ref g)] (.long Lt) := by
  refine MetFree.of_bodySF (plainFor_of_name pn_LinkGraph) hisR ?_
  intro p e s m args below meth c s₁ Bd hml0 hP hK
  obtain ⟨rfl, hZ, hh⟩ := hP
  have hx := Bd.exec
  have hby := Bd.bytes
  have hml : c.maxLocals = 1 := hml0
  have hown : s.vm.findClass "com/example/vexpi/vexpi/graph/LinkGraph" = some m.cls := findClass_of_methodNamed Bd.named
  have X0 : Stand p l e R12 s m #[(.ref g)] below meth c s₁ [] 0 0 := Stand.of_body Bd
  have e0 : s₁.heap = h0 := by rw [← hh, Bd.state]; rfl
  have N0 := Fr.nil n0
  have pre0 : ∀ t, Steps p.tables e below (s₁.setTop (mkF m 0 #[.val (.ref g)] [])) t → Steps p.tables e below (s₁.setTop (entryFrame m #[(.ref g)] 1)) t := fun t k => castTop (ef_12 m g) k
  obtain ⟨T1, X1, e1, st1⟩ := getF X0 hx hZ hown (host := "") (Or.inl (hw _ (List.mem_of_getElem? (i := 60) rfl))) Via.refl e0 Fg (g := (mkF m 1 #[.val (.ref g)] [(.ref g)])) rfl rfl (hb hby d12_1)
  obtain ⟨cq2, kq2, q2a, q2b, q2c⟩ := isOf hZ e1 Es
  obtain ⟨_, _, ⟨T2, L2, k2, n2⟩, -, X2, ⟨Lc2, hQ2, l2, y2, z2⟩, st2⟩ := X1.virtualBack hx (y := (⟨"com/example/vexpi/vexpi/graph/SegmentedIntArray", "length", "()J"⟩ : MethodName)) (z := (⟨"com/example/vexpi/vexpi/graph/SegmentedIntArray", "length", "()J"⟩ : MethodName)) hown (mvT hZ (hw _ (List.mem_of_getElem? (i := 76) rfl))) (mvT hZ (hw _ (List.mem_of_getElem? (i := 77) rfl))) (notFace_of_selects (args := #[]) (mvT hZ (hw _ (List.mem_of_getElem? (i := 79) rfl)))) (mvT hZ (hw _ (List.mem_of_getElem? (i := 79) rfl))) (mvT hZ (hw _ (List.mem_of_getElem? (i := 78) rfl))) (by decide) (backOf (W := 0) (Q := PQ (.long Lt) h0 n0) (len l Z a0 hw seg Lt h0 n0 Z0 Fl) hZ (hw _ (List.mem_of_getElem? (i := 80) rfl)) (hw _ (List.mem_of_getElem? (i := 4) rfl)) (by decide) (by decide)) q2a q2c (g := (mkF m 4 #[.val (.ref g)] [(.ref seg)])) rfl (by rw [hml]; rfl) (Steps.refl _) (argsL := []) (rest := []) (lenOf pd___J rfl) rfl (by show 2 * 0 + _ ≤ _; exact Nat.le_of_eq rfl) (hb hby d12_4) (fun _ _ => ⟨rfl, e1, (by decide : 0 + 0 ≤ _), (by decide : 0 + 0 ≤ _)⟩)
  dsimp only [Pt.U, Pt.locs, Pt.cells, Pt.slots] at X2 l2 y2 z2 st2 hQ2
  subst l2 y2 z2
  obtain ⟨rfl, Nq2, e2⟩ := hQ2
  have N2 := Fr.app N0 Nq2
  obtain ⟨fs, hr, hrun, hended, hW, hsame⟩ := X2.leave (v := some (.long Lt)) (fun h => by rw [Bd.returns] at h; cases h)
  refine ⟨_, _, pre0 _ ?_, hrun, hended, _, _, rfl, ?_, ⟨_, rfl⟩, hW, hsame.mono (by decide) (by decide)⟩
  · show Steps p.tables e below (s₁.setTop (mkF m 0 #[.val (.ref g)] [])) _
    refine XS.aloadN X0.here hx rfl (hb hby d12_0) rfl rfl ?_
    show Steps p.tables e below (s₁.setTop (mkF m 1 #[.val (.ref g)] [(.ref g)])) _
    refine st1 _ ?_
    show Steps p.tables e below (T1.setTop (mkF m 4 #[.val (.ref g)] [(.ref seg)])) _
    refine st2.trans ?_
    show Steps p.tables e below (T2.setTop (mkF m 7 #[.val (.ref g)] [(.long Lt)])) _
    jvm_step X2.here [X2.here.top, hx, (hb hby d12_7), X2.method', Bd.returns, narrow]
    first | (intro acts; rw [hr _ acts rfl rfl rfl]) | rw [hr _ _ rfl rfl rfl]
    exact Steps.refl _
  · show PQ (.long Lt) h0 n0 _ T2.heap _
    exact ⟨rfl, N2, e2⟩

theorem d11_0 : decode prog_1_method_9_code 0 = .ok (.aload_n 0, 1) := by decide +kernel
theorem d11_1 : decode prog_1_method_9_code 1 = .ok (.getfield 15, 3) := by decide +kernel
theorem d11_4 : decode prog_1_method_9_code 4 = .ok (.iload_n 1, 1) := by decide +kernel
theorem d11_5 : decode prog_1_method_9_code 5 = .ok (.iconst 1, 1) := by decide +kernel
theorem d11_6 : decode prog_1_method_9_code 6 = .ok (.iadd, 1) := by decide +kernel
theorem d11_7 : decode prog_1_method_9_code 7 = .ok (.laload, 1) := by decide +kernel
theorem d11_8 : decode prog_1_method_9_code 8 = .ok (.aload_n 0, 1) := by decide +kernel
theorem d11_9 : decode prog_1_method_9_code 9 = .ok (.getfield 15, 3) := by decide +kernel
theorem d11_12 : decode prog_1_method_9_code 12 = .ok (.iload_n 1, 1) := by decide +kernel
theorem d11_13 : decode prog_1_method_9_code 13 = .ok (.laload, 1) := by decide +kernel
theorem d11_14 : decode prog_1_method_9_code 14 = .ok (.lsub, 1) := by decide +kernel
theorem d11_15 : decode prog_1_method_9_code 15 = .ok (.l2i, 1) := by decide +kernel
theorem d11_16 : decode prog_1_method_9_code 16 = .ok (.ireturn, 1) := by decide +kernel
theorem ef_11 (m : MethodId) (x0 : Addr) (x1 : Int32) : entryFrame m #[(.ref x0), (.int x1)] 2 = mkF m 0 #[.val (.ref x0), .val (.int x1)] [] := by first | (simp [entryFrame, mkF, argsToLocals, Value.category]; done) | rfl
set_option maxRecDepth 65536 in
set_option maxHeartbeats 40000000 in
theorem deg_0 (l : Launch) (Z : State) (a0 : Array Value) (hw : ∀ d ∈ tables_1, d.before a0 Z = true) (g off : Addr) (kO : ClassId) (l1 l2 l3 : Int64) (h0 : Heap) (n0 : Nat) (Z0 : n0 ≤ h0.size) (Fg : Fld Z h0 g "com/example/vexpi/vexpi/graph/LinkGraph" "inOffsets" "[J" (.ref off)) (Vo : Arv Z h0 off kO .long (4 : Int32) [(.long (0 : Int64)), (.long l1), (.long l2), (.long l3)] (.long (0 : Int64))) :
    Pays l Z h0 n0 (⟨"com/example/vexpi/vexpi/graph/LinkGraph", "getInDegree", "(I)I"⟩ : MethodName) [Jvm.Cond.code (⟨"com/example/vexpi/vexpi/graph/LinkGraph", "getInDegree", "(I)I"⟩ : MethodName) prog_1_method_9_code 2 (some .int)] R0 #[(.ref g), (.int (0 : Int32))] (.int ((l1 - (0 : Int64)).toInt32)) := by
  refine MetFree.of_bodySF (plainFor_of_name pn_LinkGraph) hisR ?_
  intro p e s m args below meth c s₁ Bd hml0 hP hK
  obtain ⟨rfl, hZ, hh⟩ := hP
  have hx := Bd.exec
  have hby := Bd.bytes
  have hml : c.maxLocals = 2 := hml0
  have hown : s.vm.findClass "com/example/vexpi/vexpi/graph/LinkGraph" = some m.cls := findClass_of_methodNamed Bd.named
  have X0 : Stand p l e R0 s m #[(.ref g), (.int (0 : Int32))] below meth c s₁ [] 0 0 := Stand.of_body Bd
  have e0 : s₁.heap = h0 := by rw [← hh, Bd.state]; rfl
  have N0 := Fr.nil n0
  have pre0 : ∀ t, Steps p.tables e below (s₁.setTop (mkF m 0 #[.val (.ref g), .val (.int (0 : Int32))] [])) t → Steps p.tables e below (s₁.setTop (entryFrame m #[(.ref g), (.int (0 : Int32))] 2)) t := fun t k => castTop (ef_11 m g (0 : Int32)) k
  obtain ⟨T1, X1, e1, st1⟩ := getF X0 hx hZ hown (host := "") (Or.inl (hw _ (List.mem_of_getElem? (i := 58) rfl))) Via.refl e0 Fg (g := (mkF m 1 #[.val (.ref g), .val (.int (0 : Int32))] [(.ref g)])) rfl rfl (hb hby d11_1)
  obtain ⟨cl2, Ar2, -, S2, -, Hh2, -⟩ := id Vo
  have hin2 : ¬ ((1 : Int32) < 0 ∨ cl2.slots.size ≤ ((1 : Int32)).toNatClampNeg) := inb_of S2 ⟨by decide, by decide⟩
  have hat2 : cl2.slots[((1 : Int32)).toNatClampNeg]? = some (.long l1) := Hh2.at hin2 rfl
  obtain ⟨T3, X3, e3, st3⟩ := getF X1 hx hZ hown (host := "") (Or.inl (hw _ (List.mem_of_getElem? (i := 58) rfl))) Via.refl e1 Fg (g := (mkF m 9 #[.val (.ref g), .val (.int (0 : Int32))] [(.ref g), (.long l1)])) rfl rfl (hb hby d11_9)
  obtain ⟨cl4, Ar4, -, S4, -, Hh4, -⟩ := id Vo
  have hin4 : ¬ ((0 : Int32) < 0 ∨ cl4.slots.size ≤ ((0 : Int32)).toNatClampNeg) := inb_of S4 ⟨by decide, by decide⟩
  have hat4 : cl4.slots[((0 : Int32)).toNatClampNeg]? = some (.long (0 : Int64)) := Hh4.at hin4 rfl
  obtain ⟨fs, hr, hrun, hended, hW, hsame⟩ := X3.leave (v := some (.int ((l1 - (0 : Int64)).toInt32))) (fun h => by rw [Bd.returns] at h; cases h)
  refine ⟨_, _, pre0 _ ?_, hrun, hended, _, _, rfl, ?_, ⟨_, rfl⟩, hW, hsame.mono (by decide) (by decide)⟩
  · show Steps p.tables e below (s₁.setTop (mkF m 0 #[.val (.ref g), .val (.int (0 : Int32))] [])) _
    refine XS.aloadN X0.here hx rfl (hb hby d11_0) rfl rfl ?_
    show Steps p.tables e below (s₁.setTop (mkF m 1 #[.val (.ref g), .val (.int (0 : Int32))] [(.ref g)])) _
    refine st1 _ ?_
    show Steps p.tables e below (T1.setTop (mkF m 4 #[.val (.ref g), .val (.int (0 : Int32))] [(.ref off)])) _
    refine XS.iloadN X1.here hx rfl (hb hby d11_4) rfl ?_
    show Steps p.tables e below (T1.setTop (mkF m 5 #[.val (.ref g), .val (.int (0 : Int32))] [(.int (0 : Int32)), (.ref off)])) _
    refine XS.iconst X1.here hx rfl (hb hby d11_5) ?_
    show Steps p.tables e below (T1.setTop (mkF m 6 #[.val (.ref g), .val (.int (0 : Int32))] [(.int (1 : Int32)), (.int (0 : Int32)), (.ref off)])) _
    refine XS.iadd X1.here hx rfl (hb hby d11_6) rfl ?_
    show Steps p.tables e below (T1.setTop (mkF m 7 #[.val (.ref g), .val (.int (0 : Int32))] [(.int ((0 : Int32) + (1 : Int32))), (.ref off)])) _
    rw [show ((0 : Int32) + (1 : Int32)) = (1 : Int32) from by decide +kernel]
    show Steps p.tables e below (T1.setTop (mkF m 7 #[.val (.ref g), .val (.int (0 : Int32))] [(.int (1 : Int32)), (.ref off)])) _
    refine X1.laload hx (j := (1 : Int32)) (v := (.long l1)) (by rw [e1]; exact Ar2.1) (State.isArrayOf_alike hZ.alike Ar2.2.1) Ar2.2.2 hin2 hat2 (g := (mkF m 7 #[.val (.ref g), .val (.int (0 : Int32))] [(.int (1 : Int32)), (.ref off)])) rfl rfl (hb hby d11_7) _ ?_
    show Steps p.tables e below (T1.setTop (mkF m 8 #[.val (.ref g), .val (.int (0 : Int32))] [(.long l1)])) _
    refine XS.aloadN X1.here hx rfl (hb hby d11_8) rfl rfl ?_
    show Steps p.tables e below (T1.setTop (mkF m 9 #[.val (.ref g), .val (.int (0 : Int32))] [(.ref g), (.long l1)])) _
    refine st3 _ ?_
    show Steps p.tables e below (T3.setTop (mkF m 12 #[.val (.ref g), .val (.int (0 : Int32))] [(.ref off), (.long l1)])) _
    refine XS.iloadN X3.here hx rfl (hb hby d11_12) rfl ?_
    show Steps p.tables e below (T3.setTop (mkF m 13 #[.val (.ref g), .val (.int (0 : Int32))] [(.int (0 : Int32)), (.ref off), (.long l1)])) _
    refine X3.laload hx (j := (0 : Int32)) (v := (.long (0 : Int64))) (by rw [e3]; exact Ar4.1) (State.isArrayOf_alike hZ.alike Ar4.2.1) Ar4.2.2 hin4 hat4 (g := (mkF m 13 #[.val (.ref g), .val (.int (0 : Int32))] [(.int (0 : Int32)), (.ref off), (.long l1)])) rfl rfl (hb hby d11_13) _ ?_
    show Steps p.tables e below (T3.setTop (mkF m 14 #[.val (.ref g), .val (.int (0 : Int32))] [(.long (0 : Int64)), (.long l1)])) _
    refine XS.lsub X3.here hx rfl (hb hby d11_14) rfl ?_
    show Steps p.tables e below (T3.setTop (mkF m 15 #[.val (.ref g), .val (.int (0 : Int32))] [(.long (l1 - (0 : Int64)))])) _
    refine XS.l2i X3.here hx rfl (hb hby d11_15) rfl ?_
    show Steps p.tables e below (T3.setTop (mkF m 16 #[.val (.ref g), .val (.int (0 : Int32))] [(.int ((l1 - (0 : Int64)).toInt32))])) _
    exact retI X3 hx Bd.returns (hb hby d11_16) hr
  · show PQ (.int ((l1 - (0 : Int64)).toInt32)) h0 n0 _ T3.heap _
    exact ⟨rfl, N0, e3⟩

set_option maxRecDepth 65536 in
set_option maxHeartbeats 40000000 in
theorem deg_1 (l : Launch) (Z : State) (a0 : Array Value) (hw : ∀ d ∈ tables_1, d.before a0 Z = true) (g off : Addr) (kO : ClassId) (l1 l2 l3 : Int64) (h0 : Heap) (n0 : Nat) (Z0 : n0 ≤ h0.size) (Fg : Fld Z h0 g "com/example/vexpi/vexpi/graph/LinkGraph" "inOffsets" "[J" (.ref off)) (Vo : Arv Z h0 off kO .long (4 : Int32) [(.long (0 : Int64)), (.long l1), (.long l2), (.long l3)] (.long (0 : Int64))) :
    Pays l Z h0 n0 (⟨"com/example/vexpi/vexpi/graph/LinkGraph", "getInDegree", "(I)I"⟩ : MethodName) [Jvm.Cond.code (⟨"com/example/vexpi/vexpi/graph/LinkGraph", "getInDegree", "(I)I"⟩ : MethodName) prog_1_method_9_code 2 (some .int)] R0 #[(.ref g), (.int (1 : Int32))] (.int ((l2 - l1).toInt32)) := by
  refine MetFree.of_bodySF (plainFor_of_name pn_LinkGraph) hisR ?_
  intro p e s m args below meth c s₁ Bd hml0 hP hK
  obtain ⟨rfl, hZ, hh⟩ := hP
  have hx := Bd.exec
  have hby := Bd.bytes
  have hml : c.maxLocals = 2 := hml0
  have hown : s.vm.findClass "com/example/vexpi/vexpi/graph/LinkGraph" = some m.cls := findClass_of_methodNamed Bd.named
  have X0 : Stand p l e R0 s m #[(.ref g), (.int (1 : Int32))] below meth c s₁ [] 0 0 := Stand.of_body Bd
  have e0 : s₁.heap = h0 := by rw [← hh, Bd.state]; rfl
  have N0 := Fr.nil n0
  have pre0 : ∀ t, Steps p.tables e below (s₁.setTop (mkF m 0 #[.val (.ref g), .val (.int (1 : Int32))] [])) t → Steps p.tables e below (s₁.setTop (entryFrame m #[(.ref g), (.int (1 : Int32))] 2)) t := fun t k => castTop (ef_11 m g (1 : Int32)) k
  obtain ⟨T1, X1, e1, st1⟩ := getF X0 hx hZ hown (host := "") (Or.inl (hw _ (List.mem_of_getElem? (i := 58) rfl))) Via.refl e0 Fg (g := (mkF m 1 #[.val (.ref g), .val (.int (1 : Int32))] [(.ref g)])) rfl rfl (hb hby d11_1)
  obtain ⟨cl2, Ar2, -, S2, -, Hh2, -⟩ := id Vo
  have hin2 : ¬ ((2 : Int32) < 0 ∨ cl2.slots.size ≤ ((2 : Int32)).toNatClampNeg) := inb_of S2 ⟨by decide, by decide⟩
  have hat2 : cl2.slots[((2 : Int32)).toNatClampNeg]? = some (.long l2) := Hh2.at hin2 rfl
  obtain ⟨T3, X3, e3, st3⟩ := getF X1 hx hZ hown (host := "") (Or.inl (hw _ (List.mem_of_getElem? (i := 58) rfl))) Via.refl e1 Fg (g := (mkF m 9 #[.val (.ref g), .val (.int (1 : Int32))] [(.ref g), (.long l2)])) rfl rfl (hb hby d11_9)
  obtain ⟨cl4, Ar4, -, S4, -, Hh4, -⟩ := id Vo
  have hin4 : ¬ ((1 : Int32) < 0 ∨ cl4.slots.size ≤ ((1 : Int32)).toNatClampNeg) := inb_of S4 ⟨by decide, by decide⟩
  have hat4 : cl4.slots[((1 : Int32)).toNatClampNeg]? = some (.long l1) := Hh4.at hin4 rfl
  obtain ⟨fs, hr, hrun, hended, hW, hsame⟩ := X3.leave (v := some (.int ((l2 - l1).toInt32))) (fun h => by rw [Bd.returns] at h; cases h)
  refine ⟨_, _, pre0 _ ?_, hrun, hended, _, _, rfl, ?_, ⟨_, rfl⟩, hW, hsame.mono (by decide) (by decide)⟩
  · show Steps p.tables e below (s₁.setTop (mkF m 0 #[.val (.ref g), .val (.int (1 : Int32))] [])) _
    refine XS.aloadN X0.here hx rfl (hb hby d11_0) rfl rfl ?_
    show Steps p.tables e below (s₁.setTop (mkF m 1 #[.val (.ref g), .val (.int (1 : Int32))] [(.ref g)])) _
    refine st1 _ ?_
    show Steps p.tables e below (T1.setTop (mkF m 4 #[.val (.ref g), .val (.int (1 : Int32))] [(.ref off)])) _
    refine XS.iloadN X1.here hx rfl (hb hby d11_4) rfl ?_
    show Steps p.tables e below (T1.setTop (mkF m 5 #[.val (.ref g), .val (.int (1 : Int32))] [(.int (1 : Int32)), (.ref off)])) _
    refine XS.iconst X1.here hx rfl (hb hby d11_5) ?_
    show Steps p.tables e below (T1.setTop (mkF m 6 #[.val (.ref g), .val (.int (1 : Int32))] [(.int (1 : Int32)), (.int (1 : Int32)), (.ref off)])) _
    refine XS.iadd X1.here hx rfl (hb hby d11_6) rfl ?_
    show Steps p.tables e below (T1.setTop (mkF m 7 #[.val (.ref g), .val (.int (1 : Int32))] [(.int ((1 : Int32) + (1 : Int32))), (.ref off)])) _
    rw [show ((1 : Int32) + (1 : Int32)) = (2 : Int32) from by decide +kernel]
    show Steps p.tables e below (T1.setTop (mkF m 7 #[.val (.ref g), .val (.int (1 : Int32))] [(.int (2 : Int32)), (.ref off)])) _
    refine X1.laload hx (j := (2 : Int32)) (v := (.long l2)) (by rw [e1]; exact Ar2.1) (State.isArrayOf_alike hZ.alike Ar2.2.1) Ar2.2.2 hin2 hat2 (g := (mkF m 7 #[.val (.ref g), .val (.int (1 : Int32))] [(.int (2 : Int32)), (.ref off)])) rfl rfl (hb hby d11_7) _ ?_
    show Steps p.tables e below (T1.setTop (mkF m 8 #[.val (.ref g), .val (.int (1 : Int32))] [(.long l2)])) _
    refine XS.aloadN X1.here hx rfl (hb hby d11_8) rfl rfl ?_
    show Steps p.tables e below (T1.setTop (mkF m 9 #[.val (.ref g), .val (.int (1 : Int32))] [(.ref g), (.long l2)])) _
    refine st3 _ ?_
    show Steps p.tables e below (T3.setTop (mkF m 12 #[.val (.ref g), .val (.int (1 : Int32))] [(.ref off), (.long l2)])) _
    refine XS.iloadN X3.here hx rfl (hb hby d11_12) rfl ?_
    show Steps p.tables e below (T3.setTop (mkF m 13 #[.val (.ref g), .val (.int (1 : Int32))] [(.int (1 : Int32)), (.ref off), (.long l2)])) _
    refine X3.laload hx (j := (1 : Int32)) (v := (.long l1)) (by rw [e3]; exact Ar4.1) (State.isArrayOf_alike hZ.alike Ar4.2.1) Ar4.2.2 hin4 hat4 (g := (mkF m 13 #[.val (.ref g), .val (.int (1 : Int32))] [(.int (1 : Int32)), (.ref off), (.long l2)])) rfl rfl (hb hby d11_13) _ ?_
    show Steps p.tables e below (T3.setTop (mkF m 14 #[.val (.ref g), .val (.int (1 : Int32))] [(.long l1), (.long l2)])) _
    refine XS.lsub X3.here hx rfl (hb hby d11_14) rfl ?_
    show Steps p.tables e below (T3.setTop (mkF m 15 #[.val (.ref g), .val (.int (1 : Int32))] [(.long (l2 - l1))])) _
    refine XS.l2i X3.here hx rfl (hb hby d11_15) rfl ?_
    show Steps p.tables e below (T3.setTop (mkF m 16 #[.val (.ref g), .val (.int (1 : Int32))] [(.int ((l2 - l1).toInt32))])) _
    exact retI X3 hx Bd.returns (hb hby d11_16) hr
  · show PQ (.int ((l2 - l1).toInt32)) h0 n0 _ T3.heap _
    exact ⟨rfl, N0, e3⟩

set_option maxRecDepth 65536 in
set_option maxHeartbeats 40000000 in
theorem deg_2 (l : Launch) (Z : State) (a0 : Array Value) (hw : ∀ d ∈ tables_1, d.before a0 Z = true) (g off : Addr) (kO : ClassId) (l1 l2 l3 : Int64) (h0 : Heap) (n0 : Nat) (Z0 : n0 ≤ h0.size) (Fg : Fld Z h0 g "com/example/vexpi/vexpi/graph/LinkGraph" "inOffsets" "[J" (.ref off)) (Vo : Arv Z h0 off kO .long (4 : Int32) [(.long (0 : Int64)), (.long l1), (.long l2), (.long l3)] (.long (0 : Int64))) :
    Pays l Z h0 n0 (⟨"com/example/vexpi/vexpi/graph/LinkGraph", "getInDegree", "(I)I"⟩ : MethodName) [Jvm.Cond.code (⟨"com/example/vexpi/vexpi/graph/LinkGraph", "getInDegree", "(I)I"⟩ : MethodName) prog_1_method_9_code 2 (some .int)] R0 #[(.ref g), (.int (2 : Int32))] (.int ((l3 - l2).toInt32)) := by
  refine MetFree.of_bodySF (plainFor_of_name pn_LinkGraph) hisR ?_
  intro p e s m args below meth c s₁ Bd hml0 hP hK
  obtain ⟨rfl, hZ, hh⟩ := hP
  have hx := Bd.exec
  have hby := Bd.bytes
  have hml : c.maxLocals = 2 := hml0
  have hown : s.vm.findClass "com/example/vexpi/vexpi/graph/LinkGraph" = some m.cls := findClass_of_methodNamed Bd.named
  have X0 : Stand p l e R0 s m #[(.ref g), (.int (2 : Int32))] below meth c s₁ [] 0 0 := Stand.of_body Bd
  have e0 : s₁.heap = h0 := by rw [← hh, Bd.state]; rfl
  have N0 := Fr.nil n0
  have pre0 : ∀ t, Steps p.tables e below (s₁.setTop (mkF m 0 #[.val (.ref g), .val (.int (2 : Int32))] [])) t → Steps p.tables e below (s₁.setTop (entryFrame m #[(.ref g), (.int (2 : Int32))] 2)) t := fun t k => castTop (ef_11 m g (2 : Int32)) k
  obtain ⟨T1, X1, e1, st1⟩ := getF X0 hx hZ hown (host := "") (Or.inl (hw _ (List.mem_of_getElem? (i := 58) rfl))) Via.refl e0 Fg (g := (mkF m 1 #[.val (.ref g), .val (.int (2 : Int32))] [(.ref g)])) rfl rfl (hb hby d11_1)
  obtain ⟨cl2, Ar2, -, S2, -, Hh2, -⟩ := id Vo
  have hin2 : ¬ ((3 : Int32) < 0 ∨ cl2.slots.size ≤ ((3 : Int32)).toNatClampNeg) := inb_of S2 ⟨by decide, by decide⟩
  have hat2 : cl2.slots[((3 : Int32)).toNatClampNeg]? = some (.long l3) := Hh2.at hin2 rfl
  obtain ⟨T3, X3, e3, st3⟩ := getF X1 hx hZ hown (host := "") (Or.inl (hw _ (List.mem_of_getElem? (i := 58) rfl))) Via.refl e1 Fg (g := (mkF m 9 #[.val (.ref g), .val (.int (2 : Int32))] [(.ref g), (.long l3)])) rfl rfl (hb hby d11_9)
  obtain ⟨cl4, Ar4, -, S4, -, Hh4, -⟩ := id Vo
  have hin4 : ¬ ((2 : Int32) < 0 ∨ cl4.slots.size ≤ ((2 : Int32)).toNatClampNeg) := inb_of S4 ⟨by decide, by decide⟩
  have hat4 : cl4.slots[((2 : Int32)).toNatClampNeg]? = some (.long l2) := Hh4.at hin4 rfl
  obtain ⟨fs, hr, hrun, hended, hW, hsame⟩ := X3.leave (v := some (.int ((l3 - l2).toInt32))) (fun h => by rw [Bd.returns] at h; cases h)
  refine ⟨_, _, pre0 _ ?_, hrun, hended, _, _, rfl, ?_, ⟨_, rfl⟩, hW, hsame.mono (by decide) (by decide)⟩
  · show Steps p.tables e below (s₁.setTop (mkF m 0 #[.val (.ref g), .val (.int (2 : Int32))] [])) _
    refine XS.aloadN X0.here hx rfl (hb hby d11_0) rfl rfl ?_
    show Steps p.tables e below (s₁.setTop (mkF m 1 #[.val (.ref g), .val (.int (2 : Int32))] [(.ref g)])) _
    refine st1 _ ?_
    show Steps p.tables e below (T1.setTop (mkF m 4 #[.val (.ref g), .val (.int (2 : Int32))] [(.ref off)])) _
    refine XS.iloadN X1.here hx rfl (hb hby d11_4) rfl ?_
    show Steps p.tables e below (T1.setTop (mkF m 5 #[.val (.ref g), .val (.int (2 : Int32))] [(.int (2 : Int32)), (.ref off)])) _
    refine XS.iconst X1.here hx rfl (hb hby d11_5) ?_
    show Steps p.tables e below (T1.setTop (mkF m 6 #[.val (.ref g), .val (.int (2 : Int32))] [(.int (1 : Int32)), (.int (2 : Int32)), (.ref off)])) _
    refine XS.iadd X1.here hx rfl (hb hby d11_6) rfl ?_
    show Steps p.tables e below (T1.setTop (mkF m 7 #[.val (.ref g), .val (.int (2 : Int32))] [(.int ((2 : Int32) + (1 : Int32))), (.ref off)])) _
    rw [show ((2 : Int32) + (1 : Int32)) = (3 : Int32) from by decide +kernel]
    show Steps p.tables e below (T1.setTop (mkF m 7 #[.val (.ref g), .val (.int (2 : Int32))] [(.int (3 : Int32)), (.ref off)])) _
    refine X1.laload hx (j := (3 : Int32)) (v := (.long l3)) (by rw [e1]; exact Ar2.1) (State.isArrayOf_alike hZ.alike Ar2.2.1) Ar2.2.2 hin2 hat2 (g := (mkF m 7 #[.val (.ref g), .val (.int (2 : Int32))] [(.int (3 : Int32)), (.ref off)])) rfl rfl (hb hby d11_7) _ ?_
    show Steps p.tables e below (T1.setTop (mkF m 8 #[.val (.ref g), .val (.int (2 : Int32))] [(.long l3)])) _
    refine XS.aloadN X1.here hx rfl (hb hby d11_8) rfl rfl ?_
    show Steps p.tables e below (T1.setTop (mkF m 9 #[.val (.ref g), .val (.int (2 : Int32))] [(.ref g), (.long l3)])) _
    refine st3 _ ?_
    show Steps p.tables e below (T3.setTop (mkF m 12 #[.val (.ref g), .val (.int (2 : Int32))] [(.ref off), (.long l3)])) _
    refine XS.iloadN X3.here hx rfl (hb hby d11_12) rfl ?_
    show Steps p.tables e below (T3.setTop (mkF m 13 #[.val (.ref g), .val (.int (2 : Int32))] [(.int (2 : Int32)), (.ref off), (.long l3)])) _
    refine X3.laload hx (j := (2 : Int32)) (v := (.long l2)) (by rw [e3]; exact Ar4.1) (State.isArrayOf_alike hZ.alike Ar4.2.1) Ar4.2.2 hin4 hat4 (g := (mkF m 13 #[.val (.ref g), .val (.int (2 : Int32))] [(.int (2 : Int32)), (.ref off), (.long l3)])) rfl rfl (hb hby d11_13) _ ?_
    show Steps p.tables e below (T3.setTop (mkF m 14 #[.val (.ref g), .val (.int (2 : Int32))] [(.long l2), (.long l3)])) _
    refine XS.lsub X3.here hx rfl (hb hby d11_14) rfl ?_
    show Steps p.tables e below (T3.setTop (mkF m 15 #[.val (.ref g), .val (.int (2 : Int32))] [(.long (l3 - l2))])) _
    refine XS.l2i X3.here hx rfl (hb hby d11_15) rfl ?_
    show Steps p.tables e below (T3.setTop (mkF m 16 #[.val (.ref g), .val (.int (2 : Int32))] [(.int ((l3 - l2).toInt32))])) _
    exact retI X3 hx Bd.returns (hb hby d11_16) hr
  · show PQ (.int ((l3 - l2).toInt32)) h0 n0 _ T3.heap _
    exact ⟨rfl, N0, e3⟩

theorem d10_54 : decode prog_1_method_1_code 54 = .ok (.iload 9, 2) := by decide +kernel
theorem d10_56 : decode prog_1_method_1_code 56 = .ok (.ifCond .ne 6, 3) := by decide +kernel
theorem d10_59 : decode prog_1_method_1_code 59 = .ok (.iinc 5 1, 3) := by decide +kernel
theorem own_skip {p : Program} {l : Launch} {e : Env} {R : Room} {s : State} {m : MethodId} {args : Array Value} {below : List Frame} {meth : Method} {c : Code} {T : State} {locs : List Loc} {cells slots : Nat} (X : Stand p l e R s m args below meth c T locs cells slots) (hx : p.tables.exec = Jvm.exec) (hby : c.code = prog_1_method_1_code) (g off seg out : Addr) (c5 i8 w : Int32) :
    ∃ c' : Int32, ∀ target, Steps p.tables e below (T.setTop (mkF m 62 #[.val (.ref g), .val .null, .val (.ref off), .val (.ref seg), .val (.ref out), .val (.int c'), .val (.ref out), .val (.int (3 : Int32)), .val (.int i8), .val (.int w)] [])) target → Steps p.tables e below (T.setTop (mkF m 54 #[.val (.ref g), .val .null, .val (.ref off), .val (.ref seg), .val (.ref out), .val (.int c5), .val (.ref out), .val (.int (3 : Int32)), .val (.int i8), .val (.int w)] [])) target := by
  by_cases q : w = (0 : Int32)
  · refine ⟨c5 + (1 : Int32), fun target kt => ?_⟩
    refine XS.iload X.here hx rfl (hb hby d10_54) rfl ?_
    show Steps p.tables e below (T.setTop (mkF m 56 #[.val (.ref g), .val .null, .val (.ref off), .val (.ref seg), .val (.ref out), .val (.int c5), .val (.ref out), .val (.int (3 : Int32)), .val (.int i8), .val (.int w)] [(.int w)])) _
    refine XS.ifNo X.here hx rfl (hb hby d10_56) rfl ((if0 _ _).trans (teq q).2) ?_
    show Steps p.tables e below (T.setTop (mkF m 59 #[.val (.ref g), .val .null, .val (.ref off), .val (.ref seg), .val (.ref out), .val (.int c5), .val (.ref out), .val (.int (3 : Int32)), .val (.int i8), .val (.int w)] [])) _
    refine XS.iinc X.here hx rfl (hb hby d10_59) rfl (l' := #[.val (.ref g), .val .null, .val (.ref off), .val (.ref seg), .val (.ref out), .val (.int (c5 + (1 : Int32))), .val (.ref out), .val (.int (3 : Int32)), .val (.int i8), .val (.int w)]) rfl ?_
    exact kt
  · refine ⟨c5, fun target kt => ?_⟩
    refine XS.iload X.here hx rfl (hb hby d10_54) rfl ?_
    show Steps p.tables e below (T.setTop (mkF m 56 #[.val (.ref g), .val .null, .val (.ref off), .val (.ref seg), .val (.ref out), .val (.int c5), .val (.ref out), .val (.int (3 : Int32)), .val (.int i8), .val (.int w)] [(.int w)])) _
    refine XS.ifYes X.here hx rfl (pc0 := 56) (pc' := 62) rfl (hb hby d10_56) rfl ((if0 _ _).trans (feq q).2) (by decide) (by decide) ?_
    exact kt

def Q10 (Z : State) (g off seg : Addr) (h0 : Heap) (n0 : Nat) (v : Option Value) (h : Heap) (L : List Loc) : Prop := v = none ∧ Fr n0 L ∧ Keep h0 h [g] ∧ Exa Z h g "com/example/vexpi/vexpi/graph/LinkGraph" ∧ Fld Z h g "com/example/vexpi/vexpi/graph/LinkGraph" "inOffsets" "[J" (.ref off) ∧ Fld Z h g "com/example/vexpi/vexpi/graph/LinkGraph" "inSources" "Lcom/example/vexpi/vexpi/graph/SegmentedIntArray;" (.ref seg)

theorem d10_0 : decode prog_1_method_1_code 0 = .ok (.aload_n 0, 1) := by decide +kernel
theorem d10_1 : decode prog_1_method_1_code 1 = .ok (.invokespecial 5, 3) := by decide +kernel
theorem d10_4 : decode prog_1_method_1_code 4 = .ok (.aload_n 0, 1) := by decide +kernel
theorem d10_5 : decode prog_1_method_1_code 5 = .ok (.aload_n 1, 1) := by decide +kernel
theorem d10_6 : decode prog_1_method_1_code 6 = .ok (.putfield 11, 3) := by decide +kernel
theorem d10_9 : decode prog_1_method_1_code 9 = .ok (.aload_n 0, 1) := by decide +kernel
theorem d10_10 : decode prog_1_method_1_code 10 = .ok (.aload_n 2, 1) := by decide +kernel
theorem d10_11 : decode prog_1_method_1_code 11 = .ok (.putfield 15, 3) := by decide +kernel
theorem d10_14 : decode prog_1_method_1_code 14 = .ok (.aload_n 0, 1) := by decide +kernel
theorem d10_15 : decode prog_1_method_1_code 15 = .ok (.aload_n 3, 1) := by decide +kernel
theorem d10_16 : decode prog_1_method_1_code 16 = .ok (.putfield 18, 3) := by decide +kernel
theorem d10_19 : decode prog_1_method_1_code 19 = .ok (.aload_n 0, 1) := by decide +kernel
theorem d10_20 : decode prog_1_method_1_code 20 = .ok (.aload 4, 2) := by decide +kernel
theorem d10_22 : decode prog_1_method_1_code 22 = .ok (.putfield 22, 3) := by decide +kernel
theorem d10_25 : decode prog_1_method_1_code 25 = .ok (.iconst 0, 1) := by decide +kernel
theorem d10_26 : decode prog_1_method_1_code 26 = .ok (.istore 5, 2) := by decide +kernel
theorem d10_28 : decode prog_1_method_1_code 28 = .ok (.aload 4, 2) := by decide +kernel
theorem d10_30 : decode prog_1_method_1_code 30 = .ok (.astore 6, 2) := by decide +kernel
theorem d10_32 : decode prog_1_method_1_code 32 = .ok (.aload 6, 2) := by decide +kernel
theorem d10_34 : decode prog_1_method_1_code 34 = .ok (.arraylength, 1) := by decide +kernel
theorem d10_35 : decode prog_1_method_1_code 35 = .ok (.istore 7, 2) := by decide +kernel
theorem d10_37 : decode prog_1_method_1_code 37 = .ok (.iconst 0, 1) := by decide +kernel
theorem d10_38 : decode prog_1_method_1_code 38 = .ok (.istore 8, 2) := by decide +kernel
theorem d10_40 : decode prog_1_method_1_code 40 = .ok (.iload 8, 2) := by decide +kernel
theorem d10_42 : decode prog_1_method_1_code 42 = .ok (.iload 7, 2) := by decide +kernel
theorem d10_44 : decode prog_1_method_1_code 44 = .ok (.if_icmp .ge 24, 3) := by decide +kernel
theorem d10_47 : decode prog_1_method_1_code 47 = .ok (.aload 6, 2) := by decide +kernel
theorem d10_49 : decode prog_1_method_1_code 49 = .ok (.iload 8, 2) := by decide +kernel
theorem d10_51 : decode prog_1_method_1_code 51 = .ok (.iaload, 1) := by decide +kernel
theorem d10_52 : decode prog_1_method_1_code 52 = .ok (.istore 9, 2) := by decide +kernel
theorem d10_62 : decode prog_1_method_1_code 62 = .ok (.iinc 8 1, 3) := by decide +kernel
theorem d10_65 : decode prog_1_method_1_code 65 = .ok (.goto (-25), 3) := by decide +kernel
theorem d10_68 : decode prog_1_method_1_code 68 = .ok (.aload_n 0, 1) := by decide +kernel
theorem d10_69 : decode prog_1_method_1_code 69 = .ok (.iload 5, 2) := by decide +kernel
theorem d10_71 : decode prog_1_method_1_code 71 = .ok (.putfield 26, 3) := by decide +kernel
theorem d10_74 : decode prog_1_method_1_code 74 = .ok (.return_, 1) := by decide +kernel
theorem ef_10 (m : MethodId) (x0 : Addr) (x2 : Addr) (x3 : Addr) (x4 : Addr) : entryFrame m #[(.ref x0), .null, (.ref x2), (.ref x3), (.ref x4)] 10 = mkF m 0 #[.val (.ref x0), .val .null, .val (.ref x2), .val (.ref x3), .val (.ref x4), .unset, .unset, .unset, .unset, .unset] [] := by first | (simp [entryFrame, mkF, argsToLocals, Value.category]; done) | rfl
set_option maxRecDepth 65536 in
set_option maxHeartbeats 40000000 in
theorem mk (l : Launch) (Z : State) (a0 : Array Value) (hw : ∀ d ∈ tables_1, d.before a0 Z = true) (g off seg out : Addr) (kO : ClassId) (o0 o1 o2 : Int32) (h0 : Heap) (n0 : Nat) (Z0 : n0 ≤ h0.size) (Eg : Exa Z h0 g "com/example/vexpi/vexpi/graph/LinkGraph") (F_ids : Fld Z h0 g "com/example/vexpi/vexpi/graph/LinkGraph" "ids" "[J" .null) (F_inOffsets : Fld Z h0 g "com/example/vexpi/vexpi/graph/LinkGraph" "inOffsets" "[J" .null) (F_inSources : Fld Z h0 g "com/example/vexpi/vexpi/graph/LinkGraph" "inSources" "Lcom/example/vexpi/vexpi/graph/SegmentedIntArray;" .null) (F_outDegrees : Fld Z h0 g "com/example/vexpi/vexpi/graph/LinkGraph" "outDegrees" "[I" .null) (F_danglingCount : Fld Z h0 g "com/example/vexpi/vexpi/graph/LinkGraph" "danglingCount" "I" (.int (0 : Int32))) (gg : n0 ≤ g) (neo : out ≠ g) (Vo : Arv Z h0 out kO .int (3 : Int32) [(.int o0), (.int o1), (.int o2)] (.int (0 : Int32))) :
    PaysQ l Z h0 (⟨"com/example/vexpi/vexpi/graph/LinkGraph", "<init>", "([J[JLcom/example/vexpi/vexpi/graph/SegmentedIntArray;[I)V"⟩ : MethodName) [Jvm.Cond.code (⟨"com/example/vexpi/vexpi/graph/LinkGraph", "<init>", "([J[JLcom/example/vexpi/vexpi/graph/SegmentedIntArray;[I)V"⟩ : MethodName) prog_1_method_1_code 10 none] R10 #[(.ref g), .null, (.ref off), (.ref seg), (.ref out)] (Q10 Z g off seg h0 n0) := by
  refine MetFree.of_bodySF (plainFor_of_name pn_LinkGraph) hisR ?_
  intro p e s m args below meth c s₁ Bd hml0 hP hK
  obtain ⟨rfl, hZ, hh⟩ := hP
  have hx := Bd.exec
  have hby := Bd.bytes
  have hml : c.maxLocals = 10 := hml0
  have hown : s.vm.findClass "com/example/vexpi/vexpi/graph/LinkGraph" = some m.cls := findClass_of_methodNamed Bd.named
  have X0 : Stand p l e R10 s m #[(.ref g), .null, (.ref off), (.ref seg), (.ref out)] below meth c s₁ [] 0 0 := Stand.of_body Bd
  have e0 : s₁.heap = h0 := by rw [← hh, Bd.state]; rfl
  have N0 := Fr.nil n0
  have pre0 : ∀ t, Steps p.tables e below (s₁.setTop (mkF m 0 #[.val (.ref g), .val .null, .val (.ref off), .val (.ref seg), .val (.ref out), .unset, .unset, .unset, .unset, .unset] [])) t → Steps p.tables e below (s₁.setTop (entryFrame m #[(.ref g), .null, (.ref off), (.ref seg), (.ref out)] 10)) t := fun t k => castTop (ef_10 m g off seg out) k
  have hnm := (name_of_methodNamed Bd.named Bd.method).1
  obtain ⟨T1, X1, e1, st1⟩ := initO X0 hx hZ hown (hw _ (List.mem_of_getElem? (i := 55) rfl)) (hw _ (List.mem_of_getElem? (i := 9) rfl)) (hw _ (List.mem_of_getElem? (i := 10) rfl)) e0 (g := (mkF m 1 #[.val (.ref g), .val .null, .val (.ref off), .val (.ref seg), .val (.ref out), .unset, .unset, .unset, .unset, .unset] [(.ref g)])) rfl (by rw [hml]; rfl) rfl (hb hby d10_1) (by decide) (W := 0) (by show 2 * 0 + _ ≤ _; exact Nat.le_of_eq rfl) (by decide)
  obtain ⟨T2, h2, X2, e2, W2, st2⟩ := putF X1 hx hZ hown (host := "") (Or.inl (hw _ (List.mem_of_getElem? (i := 56) rfl))) Via.refl e1 F_ids Eg (Or.inr ⟨(hw _ (List.mem_of_getElem? (i := 57) rfl)), rfl, hnm⟩) (hw _ (List.mem_of_getElem? (i := 50) rfl)) (ty := (.array .long)) (by decide) rfl rfl (g := (mkF m 6 #[.val (.ref g), .val .null, .val (.ref off), .val (.ref seg), .val (.ref out), .unset, .unset, .unset, .unset, .unset] [.null, (.ref g)])) rfl rfl (hb hby d10_6)
  have E_g_2 := Eg.wr W2
  have V_out_2 := Vo.other W2 neo
  have F_g_ids_2 := F_ids.same W2
  have F_g_inOffsets_2 := F_inOffsets.other W2 (Or.inr (slot_ne (Or.inr (hw _ (List.mem_of_getElem? (i := 59) rfl))) (Or.inr (hw _ (List.mem_of_getElem? (i := 57) rfl))) (by decide) (t := (.array .long)) (t' := (.array .long)) (by decide) (by decide)))
  have F_g_inSources_2 := F_inSources.other W2 (Or.inr (slot_ne (Or.inr (hw _ (List.mem_of_getElem? (i := 61) rfl))) (Or.inr (hw _ (List.mem_of_getElem? (i := 57) rfl))) (by decide) (t := (.object "com/example/vexpi/vexpi/graph/SegmentedIntArray")) (t' := (.array .long)) (by decide) (by decide)))
  have F_g_outDegrees_2 := F_outDegrees.other W2 (Or.inr (slot_ne (Or.inr (hw _ (List.mem_of_getElem? (i := 63) rfl))) (Or.inr (hw _ (List.mem_of_getElem? (i := 57) rfl))) (by decide) (t := (.array .int)) (t' := (.array .long)) (by decide) (by decide)))
  have F_g_danglingCount_2 := F_danglingCount.other W2 (Or.inr (slot_ne (Or.inr (hw _ (List.mem_of_getElem? (i := 65) rfl))) (Or.inr (hw _ (List.mem_of_getElem? (i := 57) rfl))) (by decide) (t := .int) (t' := (.array .long)) (by decide) (by decide)))
  have Z_2 := Nat.le_trans Z0 (Keep.of_wr W2).1
  have K_2 := Keep.wr (Keep.refl h0 [g]) W2 (Or.inl (List.mem_of_getElem? (i := 0) rfl))
  have N2 := Fr.snoc X2 N0 gg
  obtain ⟨T3, h3, X3, e3, W3, st3⟩ := putF X2 hx hZ hown (host := "") (Or.inl (hw _ (List.mem_of_getElem? (i := 58) rfl))) Via.refl e2 F_g_inOffsets_2 E_g_2 (Or.inr ⟨(hw _ (List.mem_of_getElem? (i := 59) rfl)), rfl, hnm⟩) (hw _ (List.mem_of_getElem? (i := 50) rfl)) (ty := (.array .long)) (by decide) rfl rfl (g := (mkF m 11 #[.val (.ref g), .val .null, .val (.ref off), .val (.ref seg), .val (.ref out), .unset, .unset, .unset, .unset, .unset] [(.ref off), (.ref g)])) rfl rfl (hb hby d10_11)
  have E_g_3 := E_g_2.wr W3
  have V_out_3 := V_out_2.other W3 neo
  have F_g_ids_3 := F_g_ids_2.other W3 (Or.inr (slot_ne (Or.inr (hw _ (List.mem_of_getElem? (i := 57) rfl))) (Or.inr (hw _ (List.mem_of_getElem? (i := 59) rfl))) (by decide) (t := (.array .long)) (t' := (.array .long)) (by decide) (by decide)))
  have F_g_inOffsets_3 := F_g_inOffsets_2.same W3
  have F_g_inSources_3 := F_g_inSources_2.other W3 (Or.inr (slot_ne (Or.inr (hw _ (List.mem_of_getElem? (i := 61) rfl))) (Or.inr (hw _ (List.mem_of_getElem? (i := 59) rfl))) (by decide) (t := (.object "com/example/vexpi/vexpi/graph/SegmentedIntArray")) (t' := (.array .long)) (by decide) (by decide)))
  have F_g_outDegrees_3 := F_g_outDegrees_2.other W3 (Or.inr (slot_ne (Or.inr (hw _ (List.mem_of_getElem? (i := 63) rfl))) (Or.inr (hw _ (List.mem_of_getElem? (i := 59) rfl))) (by decide) (t := (.array .int)) (t' := (.array .long)) (by decide) (by decide)))
  have F_g_danglingCount_3 := F_g_danglingCount_2.other W3 (Or.inr (slot_ne (Or.inr (hw _ (List.mem_of_getElem? (i := 65) rfl))) (Or.inr (hw _ (List.mem_of_getElem? (i := 59) rfl))) (by decide) (t := .int) (t' := (.array .long)) (by decide) (by decide)))
  have Z_3 := Nat.le_trans Z_2 (Keep.of_wr W3).1
  have K_3 := Keep.wr K_2 W3 (Or.inl (List.mem_of_getElem? (i := 0) rfl))
  have N3 := Fr.snoc X3 N2 gg
  obtain ⟨T4, h4, X4, e4, W4, st4⟩ := putF X3 hx hZ hown (host := "") (Or.inl (hw _ (List.mem_of_getElem? (i := 60) rfl))) Via.refl e3 F_g_inSources_3 E_g_3 (Or.inr ⟨(hw _ (List.mem_of_getElem? (i := 61) rfl)), rfl, hnm⟩) (hw _ (List.mem_of_getElem? (i := 50) rfl)) (ty := (.object "com/example/vexpi/vexpi/graph/SegmentedIntArray")) (by decide) rfl rfl (g := (mkF m 16 #[.val (.ref g), .val .null, .val (.ref off), .val (.ref seg), .val (.ref out), .unset, .unset, .unset, .unset, .unset] [(.ref seg), (.ref g)])) rfl rfl (hb hby d10_16)
  have E_g_4 := E_g_3.wr W4
  have V_out_4 := V_out_3.other W4 neo
  have F_g_ids_4 := F_g_ids_3.other W4 (Or.inr (slot_ne (Or.inr (hw _ (List.mem_of_getElem? (i := 57) rfl))) (Or.inr (hw _ (List.mem_of_getElem? (i := 61) rfl))) (by decide) (t := (.array .long)) (t' := (.object "com/example/vexpi/vexpi/graph/SegmentedIntArray")) (by decide) (by decide)))
  have F_g_inOffsets_4 := F_g_inOffsets_3.other W4 (Or.inr (slot_ne (Or.inr (hw _ (List.mem_of_getElem? (i := 59) rfl))) (Or.inr (hw _ (List.mem_of_getElem? (i := 61) rfl))) (by decide) (t := (.array .long)) (t' := (.object "com/example/vexpi/vexpi/graph/SegmentedIntArray")) (by decide) (by decide)))
  have F_g_inSources_4 := F_g_inSources_3.same W4
  have F_g_outDegrees_4 := F_g_outDegrees_3.other W4 (Or.inr (slot_ne (Or.inr (hw _ (List.mem_of_getElem? (i := 63) rfl))) (Or.inr (hw _ (List.mem_of_getElem? (i := 61) rfl))) (by decide) (t := (.array .int)) (t' := (.object "com/example/vexpi/vexpi/graph/SegmentedIntArray")) (by decide) (by decide)))
  have F_g_danglingCount_4 := F_g_danglingCount_3.other W4 (Or.inr (slot_ne (Or.inr (hw _ (List.mem_of_getElem? (i := 65) rfl))) (Or.inr (hw _ (List.mem_of_getElem? (i := 61) rfl))) (by decide) (t := .int) (t' := (.object "com/example/vexpi/vexpi/graph/SegmentedIntArray")) (by decide) (by decide)))
  have Z_4 := Nat.le_trans Z_3 (Keep.of_wr W4).1
  have K_4 := Keep.wr K_3 W4 (Or.inl (List.mem_of_getElem? (i := 0) rfl))
  have N4 := Fr.snoc X4 N3 gg
  obtain ⟨T5, h5, X5, e5, W5, st5⟩ := putF X4 hx hZ hown (host := "") (Or.inl (hw _ (List.mem_of_getElem? (i := 62) rfl))) Via.refl e4 F_g_outDegrees_4 E_g_4 (Or.inr ⟨(hw _ (List.mem_of_getElem? (i := 63) rfl)), rfl, hnm⟩) (hw _ (List.mem_of_getElem? (i := 50) rfl)) (ty := (.array .int)) (by decide) rfl rfl (g := (mkF m 22 #[.val (.ref g), .val .null, .val (.ref off), .val (.ref seg), .val (.ref out), .unset, .unset, .unset, .unset, .unset] [(.ref out), (.ref g)])) rfl rfl (hb hby d10_22)
  have E_g_5 := E_g_4.wr W5
  have V_out_5 := V_out_4.other W5 neo
  have F_g_ids_5 := F_g_ids_4.other W5 (Or.inr (slot_ne (Or.inr (hw _ (List.mem_of_getElem? (i := 57) rfl))) (Or.inr (hw _ (List.mem_of_getElem? (i := 63) rfl))) (by decide) (t := (.array .long)) (t' := (.array .int)) (by decide) (by decide)))
  have F_g_inOffsets_5 := F_g_inOffsets_4.other W5 (Or.inr (slot_ne (Or.inr (hw _ (List.mem_of_getElem? (i := 59) rfl))) (Or.inr (hw _ (List.mem_of_getElem? (i := 63) rfl))) (by decide) (t := (.array .long)) (t' := (.array .int)) (by decide) (by decide)))
  have F_g_inSources_5 := F_g_inSources_4.other W5 (Or.inr (slot_ne (Or.inr (hw _ (List.mem_of_getElem? (i := 61) rfl))) (Or.inr (hw _ (List.mem_of_getElem? (i := 63) rfl))) (by decide) (t := (.object "com/example/vexpi/vexpi/graph/SegmentedIntArray")) (t' := (.array .int)) (by decide) (by decide)))
  have F_g_outDegrees_5 := F_g_outDegrees_4.same W5
  have F_g_danglingCount_5 := F_g_danglingCount_4.other W5 (Or.inr (slot_ne (Or.inr (hw _ (List.mem_of_getElem? (i := 65) rfl))) (Or.inr (hw _ (List.mem_of_getElem? (i := 63) rfl))) (by decide) (t := .int) (t' := (.array .int)) (by decide) (by decide)))
  have Z_5 := Nat.le_trans Z_4 (Keep.of_wr W5).1
  have K_5 := Keep.wr K_4 W5 (Or.inl (List.mem_of_getElem? (i := 0) rfl))
  have N5 := Fr.snoc X5 N4 gg
  obtain ⟨cl6, Ar6, -, S6, Nn6, -, -⟩ := id V_out_5
  obtain ⟨cl7, Ar7, -, S7, -, Hh7, -⟩ := id V_out_5
  have hin7 : ¬ ((0 : Int32) < 0 ∨ cl7.slots.size ≤ ((0 : Int32)).toNatClampNeg) := inb_of S7 ⟨by decide, by decide⟩
  have hat7 : cl7.slots[((0 : Int32)).toNatClampNeg]? = some (.int o0) := Hh7.at hin7 rfl
  obtain ⟨c8, sk8⟩ := own_skip X5 hx hby g off seg out (0 : Int32) (0 : Int32) o0
  obtain ⟨cl9, Ar9, -, S9, -, Hh9, -⟩ := id V_out_5
  have hin9 : ¬ ((1 : Int32) < 0 ∨ cl9.slots.size ≤ ((1 : Int32)).toNatClampNeg) := inb_of S9 ⟨by decide, by decide⟩
  have hat9 : cl9.slots[((1 : Int32)).toNatClampNeg]? = some (.int o1) := Hh9.at hin9 rfl
  obtain ⟨c10, sk10⟩ := own_skip X5 hx hby g off seg out c8 (1 : Int32) o1
  obtain ⟨cl11, Ar11, -, S11, -, Hh11, -⟩ := id V_out_5
  have hin11 : ¬ ((2 : Int32) < 0 ∨ cl11.slots.size ≤ ((2 : Int32)).toNatClampNeg) := inb_of S11 ⟨by decide, by decide⟩
  have hat11 : cl11.slots[((2 : Int32)).toNatClampNeg]? = some (.int o2) := Hh11.at hin11 rfl
  obtain ⟨c12, sk12⟩ := own_skip X5 hx hby g off seg out c10 (2 : Int32) o2
  obtain ⟨T13, h13, X13, e13, W13, st13⟩ := putF X5 hx hZ hown (host := "") (Or.inl (hw _ (List.mem_of_getElem? (i := 64) rfl))) Via.refl e5 F_g_danglingCount_5 E_g_5 (Or.inr ⟨(hw _ (List.mem_of_getElem? (i := 65) rfl)), rfl, hnm⟩) (hw _ (List.mem_of_getElem? (i := 50) rfl)) (ty := .int) (by decide) rfl rfl (g := (mkF m 71 #[.val (.ref g), .val .null, .val (.ref off), .val (.ref seg), .val (.ref out), .val (.int c12), .val (.ref out), .val (.int (3 : Int32)), .val (.int (3 : Int32)), .val (.int o2)] [(.int c12), (.ref g)])) rfl rfl (hb hby d10_71)
  have E_g_13 := E_g_5.wr W13
  have V_out_13 := V_out_5.other W13 neo
  have F_g_ids_13 := F_g_ids_5.other W13 (Or.inr (slot_ne (Or.inr (hw _ (List.mem_of_getElem? (i := 57) rfl))) (Or.inr (hw _ (List.mem_of_getElem? (i := 65) rfl))) (by decide) (t := (.array .long)) (t' := .int) (by decide) (by decide)))
  have F_g_inOffsets_13 := F_g_inOffsets_5.other W13 (Or.inr (slot_ne (Or.inr (hw _ (List.mem_of_getElem? (i := 59) rfl))) (Or.inr (hw _ (List.mem_of_getElem? (i := 65) rfl))) (by decide) (t := (.array .long)) (t' := .int) (by decide) (by decide)))
  have F_g_inSources_13 := F_g_inSources_5.other W13 (Or.inr (slot_ne (Or.inr (hw _ (List.mem_of_getElem? (i := 61) rfl))) (Or.inr (hw _ (List.mem_of_getElem? (i := 65) rfl))) (by decide) (t := (.object "com/example/vexpi/vexpi/graph/SegmentedIntArray")) (t' := .int) (by decide) (by decide)))
  have F_g_outDegrees_13 := F_g_outDegrees_5.other W13 (Or.inr (slot_ne (Or.inr (hw _ (List.mem_of_getElem? (i := 63) rfl))) (Or.inr (hw _ (List.mem_of_getElem? (i := 65) rfl))) (by decide) (t := (.array .int)) (t' := .int) (by decide) (by decide)))
  have F_g_danglingCount_13 := F_g_danglingCount_5.same W13
  have Z_13 := Nat.le_trans Z_5 (Keep.of_wr W13).1
  have K_13 := Keep.wr K_5 W13 (Or.inl (List.mem_of_getElem? (i := 0) rfl))
  have N13 := Fr.snoc X13 N5 gg
  obtain ⟨fs, hr, hrun, hended, hW, hsame⟩ := X13.leave (v := none) (fun _ => rfl)
  refine ⟨_, _, pre0 _ ?_, hrun, hended, _, _, rfl, ?_, ⟨_, rfl⟩, hW, hsame.mono (by decide) (by decide)⟩
  · show Steps p.tables e below (s₁.setTop (mkF m 0 #[.val (.ref g), .val .null, .val (.ref off), .val (.ref seg), .val (.ref out), .unset, .unset, .unset, .unset, .unset] [])) _
    refine XS.aloadN X0.here hx rfl (hb hby d10_0) rfl rfl ?_
    show Steps p.tables e below (s₁.setTop (mkF m 1 #[.val (.ref g), .val .null, .val (.ref off), .val (.ref seg), .val (.ref out), .unset, .unset, .unset, .unset, .unset] [(.ref g)])) _
    refine st1 _ ?_
    show Steps p.tables e below (T1.setTop (mkF m 4 #[.val (.ref g), .val .null, .val (.ref off), .val (.ref seg), .val (.ref out), .unset, .unset, .unset, .unset, .unset] [])) _
    refine XS.aloadN X1.here hx rfl (hb hby d10_4) rfl rfl ?_
    show Steps p.tables e below (T1.setTop (mkF m 5 #[.val (.ref g), .val .null, .val (.ref off), .val (.ref seg), .val (.ref out), .unset, .unset, .unset, .unset, .unset] [(.ref g)])) _
    refine XS.aloadN X1.here hx rfl (hb hby d10_5) rfl rfl ?_
    show Steps p.tables e below (T1.setTop (mkF m 6 #[.val (.ref g), .val .null, .val (.ref off), .val (.ref seg), .val (.ref out), .unset, .unset, .unset, .unset, .unset] [.null, (.ref g)])) _
    refine st2 _ ?_
    show Steps p.tables e below (T2.setTop (mkF m 9 #[.val (.ref g), .val .null, .val (.ref off), .val (.ref seg), .val (.ref out), .unset, .unset, .unset, .unset, .unset] [])) _
    refine XS.aloadN X2.here hx rfl (hb hby d10_9) rfl rfl ?_
    show Steps p.tables e below (T2.setTop (mkF m 10 #[.val (.ref g), .val .null, .val (.ref off), .val (.ref seg), .val (.ref out), .unset, .unset, .unset, .unset, .unset] [(.ref g)])) _
    refine XS.aloadN X2.here hx rfl (hb hby d10_10) rfl rfl ?_
    show Steps p.tables e below (T2.setTop (mkF m 11 #[.val (.ref g), .val .null, .val (.ref off), .val (.ref seg), .val (.ref out), .unset, .unset, .unset, .unset, .unset] [(.ref off), (.ref g)])) _
    refine st3 _ ?_
    show Steps p.tables e below (T3.setTop (mkF m 14 #[.val (.ref g), .val .null, .val (.ref off), .val (.ref seg), .val (.ref out), .unset, .unset, .unset, .unset, .unset] [])) _
    refine XS.aloadN X3.here hx rfl (hb hby d10_14) rfl rfl ?_
    show Steps p.tables e below (T3.setTop (mkF m 15 #[.val (.ref g), .val .null, .val (.ref off), .val (.ref seg), .val (.ref out), .unset, .unset, .unset, .unset, .unset] [(.ref g)])) _
    refine XS.aloadN X3.here hx rfl (hb hby d10_15) rfl rfl ?_
    show Steps p.tables e below (T3.setTop (mkF m 16 #[.val (.ref g), .val .null, .val (.ref off), .val (.ref seg), .val (.ref out), .unset, .unset, .unset, .unset, .unset] [(.ref seg), (.ref g)])) _
    refine st4 _ ?_
    show Steps p.tables e below (T4.setTop (mkF m 19 #[.val (.ref g), .val .null, .val (.ref off), .val (.ref seg), .val (.ref out), .unset, .unset, .unset, .unset, .unset] [])) _
    refine XS.aloadN X4.here hx rfl (hb hby d10_19) rfl rfl ?_
    show Steps p.tables e below (T4.setTop (mkF m 20 #[.val (.ref g), .val .null, .val (.ref off), .val (.ref seg), .val (.ref out), .unset, .unset, .unset, .unset, .unset] [(.ref g)])) _
    refine XS.aload X4.here hx rfl (hb hby d10_20) rfl rfl ?_
    show Steps p.tables e below (T4.setTop (mkF m 22 #[.val (.ref g), .val .null, .val (.ref off), .val (.ref seg), .val (.ref out), .unset, .unset, .unset, .unset, .unset] [(.ref out), (.ref g)])) _
    refine st5 _ ?_
    show Steps p.tables e below (T5.setTop (mkF m 25 #[.val (.ref g), .val .null, .val (.ref off), .val (.ref seg), .val (.ref out), .unset, .unset, .unset, .unset, .unset] [])) _
    refine XS.iconst X5.here hx rfl (hb hby d10_25) ?_
    show Steps p.tables e below (T5.setTop (mkF m 26 #[.val (.ref g), .val .null, .val (.ref off), .val (.ref seg), .val (.ref out), .unset, .unset, .unset, .unset, .unset] [(.int (0 : Int32))])) _
    refine XS.istore X5.here hx rfl (hb hby d10_26) rfl (l' := #[.val (.ref g), .val .null, .val (.ref off), .val (.ref seg), .val (.ref out), .val (.int (0 : Int32)), .unset, .unset, .unset, .unset]) rfl ?_
    show Steps p.tables e below (T5.setTop (mkF m 28 #[.val (.ref g), .val .null, .val (.ref off), .val (.ref seg), .val (.ref out), .val (.int (0 : Int32)), .unset, .unset, .unset, .unset] [])) _
    refine XS.aload X5.here hx rfl (hb hby d10_28) rfl rfl ?_
    show Steps p.tables e below (T5.setTop (mkF m 30 #[.val (.ref g), .val .null, .val (.ref off), .val (.ref seg), .val (.ref out), .val (.int (0 : Int32)), .unset, .unset, .unset, .unset] [(.ref out)])) _
    refine XS.astore X5.here hx rfl (hb hby d10_30) rfl rfl (l' := #[.val (.ref g), .val .null, .val (.ref off), .val (.ref seg), .val (.ref out), .val (.int (0 : Int32)), .val (.ref out), .unset, .unset, .unset]) rfl ?_
    show Steps p.tables e below (T5.setTop (mkF m 32 #[.val (.ref g), .val .null, .val (.ref off), .val (.ref seg), .val (.ref out), .val (.int (0 : Int32)), .val (.ref out), .unset, .unset, .unset] [])) _
    refine XS.aload X5.here hx rfl (hb hby d10_32) rfl rfl ?_
    show Steps p.tables e below (T5.setTop (mkF m 34 #[.val (.ref g), .val .null, .val (.ref off), .val (.ref seg), .val (.ref out), .val (.int (0 : Int32)), .val (.ref out), .unset, .unset, .unset] [(.ref out)])) _
    refine X5.arraylength hx (by rw [e5]; exact Ar6.1) (State.isArrayOf_alike hZ.alike Ar6.2.1) (g := (mkF m 34 #[.val (.ref g), .val .null, .val (.ref off), .val (.ref seg), .val (.ref out), .val (.int (0 : Int32)), .val (.ref out), .unset, .unset, .unset] [(.ref out)])) rfl rfl (hb hby d10_34) _ ?_
    rw [len_of S6 Nn6]
    show Steps p.tables e below (T5.setTop (mkF m 35 #[.val (.ref g), .val .null, .val (.ref off), .val (.ref seg), .val (.ref out), .val (.int (0 : Int32)), .val (.ref out), .unset, .unset, .unset] [(.int (3 : Int32))])) _
    refine XS.istore X5.here hx rfl (hb hby d10_35) rfl (l' := #[.val (.ref g), .val .null, .val (.ref off), .val (.ref seg), .val (.ref out), .val (.int (0 : Int32)), .val (.ref out), .val (.int (3 : Int32)), .unset, .unset]) rfl ?_
    show Steps p.tables e below (T5.setTop (mkF m 37 #[.val (.ref g), .val .null, .val (.ref off), .val (.ref seg), .val (.ref out), .val (.int (0 : Int32)), .val (.ref out), .val (.int (3 : Int32)), .unset, .unset] [])) _
    refine XS.iconst X5.here hx rfl (hb hby d10_37) ?_
    show Steps p.tables e below (T5.setTop (mkF m 38 #[.val (.ref g), .val .null, .val (.ref off), .val (.ref seg), .val (.ref out), .val (.int (0 : Int32)), .val (.ref out), .val (.int (3 : Int32)), .unset, .unset] [(.int (0 : Int32))])) _
    refine XS.istore X5.here hx rfl (hb hby d10_38) rfl (l' := #[.val (.ref g), .val .null, .val (.ref off), .val (.ref seg), .val (.ref out), .val (.int (0 : Int32)), .val (.ref out), .val (.int (3 : Int32)), .val (.int (0 : Int32)), .unset]) rfl ?_
    show Steps p.tables e below (T5.setTop (mkF m 40 #[.val (.ref g), .val .null, .val (.ref off), .val (.ref seg), .val (.ref out), .val (.int (0 : Int32)), .val (.ref out), .val (.int (3 : Int32)), .val (.int (0 : Int32)), .unset] [])) _
    refine XS.iload X5.here hx rfl (hb hby d10_40) rfl ?_
    show Steps p.tables e below (T5.setTop (mkF m 42 #[.val (.ref g), .val .null, .val (.ref off), .val (.ref seg), .val (.ref out), .val (.int (0 : Int32)), .val (.ref out), .val (.int (3 : Int32)), .val (.int (0 : Int32)), .unset] [(.int (0 : Int32))])) _
    refine XS.iload X5.here hx rfl (hb hby d10_42) rfl ?_
    show Steps p.tables e below (T5.setTop (mkF m 44 #[.val (.ref g), .val .null, .val (.ref off), .val (.ref seg), .val (.ref out), .val (.int (0 : Int32)), .val (.ref out), .val (.int (3 : Int32)), .val (.int (0 : Int32)), .unset] [(.int (3 : Int32)), (.int (0 : Int32))])) _
    refine XS.icmpNo X5.here hx rfl (hb hby d10_44) rfl (by decide) ?_
    show Steps p.tables e below (T5.setTop (mkF m 47 #[.val (.ref g), .val .null, .val (.ref off), .val (.ref seg), .val (.ref out), .val (.int (0 : Int32)), .val (.ref out), .val (.int (3 : Int32)), .val (.int (0 : Int32)), .unset] [])) _
    refine XS.aload X5.here hx rfl (hb hby d10_47) rfl rfl ?_
    show Steps p.tables e below (T5.setTop (mkF m 49 #[.val (.ref g), .val .null, .val (.ref off), .val (.ref seg), .val (.ref out), .val (.int (0 : Int32)), .val (.ref out), .val (.int (3 : Int32)), .val (.int (0 : Int32)), .unset] [(.ref out)])) _
    refine XS.iload X5.here hx rfl (hb hby d10_49) rfl ?_
    show Steps p.tables e below (T5.setTop (mkF m 51 #[.val (.ref g), .val .null, .val (.ref off), .val (.ref seg), .val (.ref out), .val (.int (0 : Int32)), .val (.ref out), .val (.int (3 : Int32)), .val (.int (0 : Int32)), .unset] [(.int (0 : Int32)), (.ref out)])) _
    refine X5.iaload hx (j := (0 : Int32)) (v := (.int o0)) (by rw [e5]; exact Ar7.1) (State.isArrayOf_alike hZ.alike Ar7.2.1) Ar7.2.2 hin7 hat7 (g := (mkF m 51 #[.val (.ref g), .val .null, .val (.ref off), .val (.ref seg), .val (.ref out), .val (.int (0 : Int32)), .val (.ref out), .val (.int (3 : Int32)), .val (.int (0 : Int32)), .unset] [(.int (0 : Int32)), (.ref out)])) rfl rfl (hb hby d10_51) _ ?_
    show Steps p.tables e below (T5.setTop (mkF m 52 #[.val (.ref g), .val .null, .val (.ref off), .val (.ref seg), .val (.ref out), .val (.int (0 : Int32)), .val (.ref out), .val (.int (3 : Int32)), .val (.int (0 : Int32)), .unset] [(.int o0)])) _
    refine XS.istore X5.here hx rfl (hb hby d10_52) rfl (l' := #[.val (.ref g), .val .null, .val (.ref off), .val (.ref seg), .val (.ref out), .val (.int (0 : Int32)), .val (.ref out), .val (.int (3 : Int32)), .val (.int (0 : Int32)), .val (.int o0)]) rfl ?_
    show Steps p.tables e below (T5.setTop (mkF m 54 #[.val (.ref g), .val .null, .val (.ref off), .val (.ref seg), .val (.ref out), .val (.int (0 : Int32)), .val (.ref out), .val (.int (3 : Int32)), .val (.int (0 : Int32)), .val (.int o0)] [])) _
    refine sk8 _ ?_
    show Steps p.tables e below (T5.setTop (mkF m 62 #[.val (.ref g), .val .null, .val (.ref off), .val (.ref seg), .val (.ref out), .val (.int c8), .val (.ref out), .val (.int (3 : Int32)), .val (.int (0 : Int32)), .val (.int o0)] [])) _
    refine XS.iinc X5.here hx rfl (hb hby d10_62) rfl (l' := #[.val (.ref g), .val .null, .val (.ref off), .val (.ref seg), .val (.ref out), .val (.int c8), .val (.ref out), .val (.int (3 : Int32)), .val (.int ((0 : Int32) + (1 : Int32))), .val (.int o0)]) rfl ?_
    show Steps p.tables e below (T5.setTop (mkF m 65 #[.val (.ref g), .val .null, .val (.ref off), .val (.ref seg), .val (.ref out), .val (.int c8), .val (.ref out), .val (.int (3 : Int32)), .val (.int ((0 : Int32) + (1 : Int32))), .val (.int o0)] [])) _
    rw [show ((0 : Int32) + (1 : Int32)) = (1 : Int32) from by decide +kernel]
    show Steps p.tables e below (T5.setTop (mkF m 65 #[.val (.ref g), .val .null, .val (.ref off), .val (.ref seg), .val (.ref out), .val (.int c8), .val (.ref out), .val (.int (3 : Int32)), .val (.int (1 : Int32)), .val (.int o0)] [])) _
    refine XS.goto X5.here hx rfl (pc0 := 65) (pc' := 40) rfl (hb hby d10_65) (by decide) (by decide) ?_
    show Steps p.tables e below (T5.setTop (mkF m 40 #[.val (.ref g), .val .null, .val (.ref off), .val (.ref seg), .val (.ref out), .val (.int c8), .val (.ref out), .val (.int (3 : Int32)), .val (.int (1 : Int32)), .val (.int o0)] [])) _
    refine XS.iload X5.here hx rfl (hb hby d10_40) rfl ?_
    show Steps p.tables e below (T5.setTop (mkF m 42 #[.val (.ref g), .val .null, .val (.ref off), .val (.ref seg), .val (.ref out), .val (.int c8), .val (.ref out), .val (.int (3 : Int32)), .val (.int (1 : Int32)), .val (.int o0)] [(.int (1 : Int32))])) _
    refine XS.iload X5.here hx rfl (hb hby d10_42) rfl ?_
    show Steps p.tables e below (T5.setTop (mkF m 44 #[.val (.ref g), .val .null, .val (.ref off), .val (.ref seg), .val (.ref out), .val (.int c8), .val (.ref out), .val (.int (3 : Int32)), .val (.int (1 : Int32)), .val (.int o0)] [(.int (3 : Int32)), (.int (1 : Int32))])) _
    refine XS.icmpNo X5.here hx rfl (hb hby d10_44) rfl (by decide) ?_
    show Steps p.tables e below (T5.setTop (mkF m 47 #[.val (.ref g), .val .null, .val (.ref off), .val (.ref seg), .val (.ref out), .val (.int c8), .val (.ref out), .val (.int (3 : Int32)), .val (.int (1 : Int32)), .val (.int o0)] [])) _
    refine XS.aload X5.here hx rfl (hb hby d10_47) rfl rfl ?_
    show Steps p.tables e below (T5.setTop (mkF m 49 #[.val (.ref g), .val .null, .val (.ref off), .val (.ref seg), .val (.ref out), .val (.int c8), .val (.ref out), .val (.int (3 : Int32)), .val (.int (1 : Int32)), .val (.int o0)] [(.ref out)])) _
    refine XS.iload X5.here hx rfl (hb hby d10_49) rfl ?_
    show Steps p.tables e below (T5.setTop (mkF m 51 #[.val (.ref g), .val .null, .val (.ref off), .val (.ref seg), .val (.ref out), .val (.int c8), .val (.ref out), .val (.int (3 : Int32)), .val (.int (1 : Int32)), .val (.int o0)] [(.int (1 : Int32)), (.ref out)])) _
    refine X5.iaload hx (j := (1 : Int32)) (v := (.int o1)) (by rw [e5]; exact Ar9.1) (State.isArrayOf_alike hZ.alike Ar9.2.1) Ar9.2.2 hin9 hat9 (g := (mkF m 51 #[.val (.ref g), .val .null, .val (.ref off), .val (.ref seg), .val (.ref out), .val (.int c8), .val (.ref out), .val (.int (3 : Int32)), .val (.int (1 : Int32)), .val (.int o0)] [(.int (1 : Int32)), (.ref out)])) rfl rfl (hb hby d10_51) _ ?_
    show Steps p.tables e below (T5.setTop (mkF m 52 #[.val (.ref g), .val .null, .val (.ref off), .val (.ref seg), .val (.ref out), .val (.int c8), .val (.ref out), .val (.int (3 : Int32)), .val (.int (1 : Int32)), .val (.int o0)] [(.int o1)])) _
    refine XS.istore X5.here hx rfl (hb hby d10_52) rfl (l' := #[.val (.ref g), .val .null, .val (.ref off), .val (.ref seg), .val (.ref out), .val (.int c8), .val (.ref out), .val (.int (3 : Int32)), .val (.int (1 : Int32)), .val (.int o1)]) rfl ?_
    show Steps p.tables e below (T5.setTop (mkF m 54 #[.val (.ref g), .val .null, .val (.ref off), .val (.ref seg), .val (.ref out), .val (.int c8), .val (.ref out), .val (.int (3 : Int32)), .val (.int (1 : Int32)), .val (.int o1)] [])) _
    refine sk10 _ ?_
    show Steps p.tables e below (T5.setTop (mkF m 62 #[.val (.ref g), .val .null, .val (.ref off), .val (.ref seg), .val (.ref out), .val (.int c10), .val (.ref out), .val (.int (3 : Int32)), .val (.int (1 : Int32)), .val (.int o1)] [])) _
    refine XS.iinc X5.here hx rfl (hb hby d10_62) rfl (l' := #[.val (.ref g), .val .null, .val (.ref off), .val (.ref seg), .val (.ref out), .val (.int c10), .val (.ref out), .val (.int (3 : Int32)), .val (.int ((1 : Int32) + (1 : Int32))), .val (.int o1)]) rfl ?_
    show Steps p.tables e below (T5.setTop (mkF m 65 #[.val (.ref g), .val .null, .val (.ref off), .val (.ref seg), .val (.ref out), .val (.int c10), .val (.ref out), .val (.int (3 : Int32)), .val (.int ((1 : Int32) + (1 : Int32))), .val (.int o1)] [])) _
    rw [show ((1 : Int32) + (1 : Int32)) = (2 : Int32) from by decide +kernel]
    show Steps p.tables e below (T5.setTop (mkF m 65 #[.val (.ref g), .val .null, .val (.ref off), .val (.ref seg), .val (.ref out), .val (.int c10), .val (.ref out), .val (.int (3 : Int32)), .val (.int (2 : Int32)), .val (.int o1)] [])) _
    refine XS.goto X5.here hx rfl (pc0 := 65) (pc' := 40) rfl (hb hby d10_65) (by decide) (by decide) ?_
    show Steps p.tables e below (T5.setTop (mkF m 40 #[.val (.ref g), .val .null, .val (.ref off), .val (.ref seg), .val (.ref out), .val (.int c10), .val (.ref out), .val (.int (3 : Int32)), .val (.int (2 : Int32)), .val (.int o1)] [])) _
    refine XS.iload X5.here hx rfl (hb hby d10_40) rfl ?_
    show Steps p.tables e below (T5.setTop (mkF m 42 #[.val (.ref g), .val .null, .val (.ref off), .val (.ref seg), .val (.ref out), .val (.int c10), .val (.ref out), .val (.int (3 : Int32)), .val (.int (2 : Int32)), .val (.int o1)] [(.int (2 : Int32))])) _
    refine XS.iload X5.here hx rfl (hb hby d10_42) rfl ?_
    show Steps p.tables e below (T5.setTop (mkF m 44 #[.val (.ref g), .val .null, .val (.ref off), .val (.ref seg), .val (.ref out), .val (.int c10), .val (.ref out), .val (.int (3 : Int32)), .val (.int (2 : Int32)), .val (.int o1)] [(.int (3 : Int32)), (.int (2 : Int32))])) _
    refine XS.icmpNo X5.here hx rfl (hb hby d10_44) rfl (by decide) ?_
    show Steps p.tables e below (T5.setTop (mkF m 47 #[.val (.ref g), .val .null, .val (.ref off), .val (.ref seg), .val (.ref out), .val (.int c10), .val (.ref out), .val (.int (3 : Int32)), .val (.int (2 : Int32)), .val (.int o1)] [])) _
    refine XS.aload X5.here hx rfl (hb hby d10_47) rfl rfl ?_
    show Steps p.tables e below (T5.setTop (mkF m 49 #[.val (.ref g), .val .null, .val (.ref off), .val (.ref seg), .val (.ref out), .val (.int c10), .val (.ref out), .val (.int (3 : Int32)), .val (.int (2 : Int32)), .val (.int o1)] [(.ref out)])) _
    refine XS.iload X5.here hx rfl (hb hby d10_49) rfl ?_
    show Steps p.tables e below (T5.setTop (mkF m 51 #[.val (.ref g), .val .null, .val (.ref off), .val (.ref seg), .val (.ref out), .val (.int c10), .val (.ref out), .val (.int (3 : Int32)), .val (.int (2 : Int32)), .val (.int o1)] [(.int (2 : Int32)), (.ref out)])) _
    refine X5.iaload hx (j := (2 : Int32)) (v := (.int o2)) (by rw [e5]; exact Ar11.1) (State.isArrayOf_alike hZ.alike Ar11.2.1) Ar11.2.2 hin11 hat11 (g := (mkF m 51 #[.val (.ref g), .val .null, .val (.ref off), .val (.ref seg), .val (.ref out), .val (.int c10), .val (.ref out), .val (.int (3 : Int32)), .val (.int (2 : Int32)), .val (.int o1)] [(.int (2 : Int32)), (.ref out)])) rfl rfl (hb hby d10_51) _ ?_
    show Steps p.tables e below (T5.setTop (mkF m 52 #[.val (.ref g), .val .null, .val (.ref off), .val (.ref seg), .val (.ref out), .val (.int c10), .val (.ref out), .val (.int (3 : Int32)), .val (.int (2 : Int32)), .val (.int o1)] [(.int o2)])) _
    refine XS.istore X5.here hx rfl (hb hby d10_52) rfl (l' := #[.val (.ref g), .val .null, .val (.ref off), .val (.ref seg), .val (.ref out), .val (.int c10), .val (.ref out), .val (.int (3 : Int32)), .val (.int (2 : Int32)), .val (.int o2)]) rfl ?_
    show Steps p.tables e below (T5.setTop (mkF m 54 #[.val (.ref g), .val .null, .val (.ref off), .val (.ref seg), .val (.ref out), .val (.int c10), .val (.ref out), .val (.int (3 : Int32)), .val (.int (2 : Int32)), .val (.int o2)] [])) _
    refine sk12 _ ?_
    show Steps p.tables e below (T5.setTop (mkF m 62 #[.val (.ref g), .val .null, .val (.ref off), .val (.ref seg), .val (.ref out), .val (.int c12), .val (.ref out), .val (.int (3 : Int32)), .val (.int (2 : Int32)), .val (.int o2)] [])) _
    refine XS.iinc X5.here hx rfl (hb hby d10_62) rfl (l' := #[.val (.ref g), .val .null, .val (.ref off), .val (.ref seg), .val (.ref out), .val (.int c12), .val (.ref out), .val (.int (3 : Int32)), .val (.int ((2 : Int32) + (1 : Int32))), .val (.int o2)]) rfl ?_
    show Steps p.tables e below (T5.setTop (mkF m 65 #[.val (.ref g), .val .null, .val (.ref off), .val (.ref seg), .val (.ref out), .val (.int c12), .val (.ref out), .val (.int (3 : Int32)), .val (.int ((2 : Int32) + (1 : Int32))), .val (.int o2)] [])) _
    rw [show ((2 : Int32) + (1 : Int32)) = (3 : Int32) from by decide +kernel]
    show Steps p.tables e below (T5.setTop (mkF m 65 #[.val (.ref g), .val .null, .val (.ref off), .val (.ref seg), .val (.ref out), .val (.int c12), .val (.ref out), .val (.int (3 : Int32)), .val (.int (3 : Int32)), .val (.int o2)] [])) _
    refine XS.goto X5.here hx rfl (pc0 := 65) (pc' := 40) rfl (hb hby d10_65) (by decide) (by decide) ?_
    show Steps p.tables e below (T5.setTop (mkF m 40 #[.val (.ref g), .val .null, .val (.ref off), .val (.ref seg), .val (.ref out), .val (.int c12), .val (.ref out), .val (.int (3 : Int32)), .val (.int (3 : Int32)), .val (.int o2)] [])) _
    refine XS.iload X5.here hx rfl (hb hby d10_40) rfl ?_
    show Steps p.tables e below (T5.setTop (mkF m 42 #[.val (.ref g), .val .null, .val (.ref off), .val (.ref seg), .val (.ref out), .val (.int c12), .val (.ref out), .val (.int (3 : Int32)), .val (.int (3 : Int32)), .val (.int o2)] [(.int (3 : Int32))])) _
    refine XS.iload X5.here hx rfl (hb hby d10_42) rfl ?_
    show Steps p.tables e below (T5.setTop (mkF m 44 #[.val (.ref g), .val .null, .val (.ref off), .val (.ref seg), .val (.ref out), .val (.int c12), .val (.ref out), .val (.int (3 : Int32)), .val (.int (3 : Int32)), .val (.int o2)] [(.int (3 : Int32)), (.int (3 : Int32))])) _
    refine XS.icmpYes X5.here hx rfl (pc0 := 44) (pc' := 68) rfl (hb hby d10_44) rfl (by decide) (by decide) (by decide) ?_
    show Steps p.tables e below (T5.setTop (mkF m 68 #[.val (.ref g), .val .null, .val (.ref off), .val (.ref seg), .val (.ref out), .val (.int c12), .val (.ref out), .val (.int (3 : Int32)), .val (.int (3 : Int32)), .val (.int o2)] [])) _
    refine XS.aloadN X5.here hx rfl (hb hby d10_68) rfl rfl ?_
    show Steps p.tables e below (T5.setTop (mkF m 69 #[.val (.ref g), .val .null, .val (.ref off), .val (.ref seg), .val (.ref out), .val (.int c12), .val (.ref out), .val (.int (3 : Int32)), .val (.int (3 : Int32)), .val (.int o2)] [(.ref g)])) _
    refine XS.iload X5.here hx rfl (hb hby d10_69) rfl ?_
    show Steps p.tables e below (T5.setTop (mkF m 71 #[.val (.ref g), .val .null, .val (.ref off), .val (.ref seg), .val (.ref out), .val (.int c12), .val (.ref out), .val (.int (3 : Int32)), .val (.int (3 : Int32)), .val (.int o2)] [(.int c12), (.ref g)])) _
    refine st13 _ ?_
    show Steps p.tables e below (T13.setTop (mkF m 74 #[.val (.ref g), .val .null, .val (.ref off), .val (.ref seg), .val (.ref out), .val (.int c12), .val (.ref out), .val (.int (3 : Int32)), .val (.int (3 : Int32)), .val (.int o2)] [])) _
    exact X13.returnOut hx Bd.returns (hb hby d10_74) hr
  · show (Q10 Z g off seg h0 n0) _ T13.heap _
    rw [e13]
    exact ⟨rfl, N13, K_13, E_g_13, F_g_inOffsets_13, F_g_inSources_13⟩

theorem own_n1 {d0 d1 d2 : Int32} (b0 : 0 ≤ d0.toInt ∧ d0.toInt ≤ 3) (b1 : 0 ≤ d1.toInt ∧ d1.toInt ≤ 3) (b2 : 0 ≤ d2.toInt ∧ d2.toInt ≤ 3) : (d0.toInt64).toInt = d0.toInt ∧ ((d0 + d1).toInt64).toInt = d0.toInt + d1.toInt ∧ (((d0 + d1) + d2).toInt64).toInt = d0.toInt + d1.toInt + d2.toInt := by
  have a1 : (d0 + d1).toInt = d0.toInt + d1.toInt := Jvm.Kit.i32_add (by omega) (by omega)
  have a2 : ((d0 + d1) + d2).toInt = d0.toInt + d1.toInt + d2.toInt := by rw [Jvm.Kit.i32_add (by omega) (by omega), a1]
  exact ⟨Jvm.Kit.i64_of_i32 _, by rw [Jvm.Kit.i64_of_i32, a1], by rw [Jvm.Kit.i64_of_i32, a2]⟩
theorem own_df {x y : Int64} {d : Int32} (h : x.toInt = y.toInt + d.toInt) (h1 : 0 ≤ y.toInt) (h2 : y.toInt ≤ 6) (h3 : 0 ≤ d.toInt) (h4 : d.toInt ≤ 3) : (x - y).toInt32 = d := by
  have a : (x - y).toInt = d.toInt := by rw [Jvm.Kit.i64_sub (by omega) (by omega)]; omega
  apply Int32.toInt_inj.mp
  rw [Jvm.Kit.i32_of_i64 (by omega) (by omega), a]

def QL (h0 : Heap) (n0 : Nat) (v : Option Value) (h : Heap) (L : List Loc) : Prop := v = some (.int (1 : Int32)) ∧ Fr n0 L ∧ True

theorem pd__J_V : parseMethodDescriptor "(J)V" = some ⟨[.long], none⟩ := by decide +kernel
theorem pd__Lcom_example_vexpi_vexpi_graph_SegmentedIntArray_JI_V : parseMethodDescriptor "(Lcom/example/vexpi/vexpi/graph/SegmentedIntArray;JI)V" = some ⟨[(.object "com/example/vexpi/vexpi/graph/SegmentedIntArray"), .long, .int], none⟩ := by decide +kernel
theorem pd__II_I : parseMethodDescriptor "(II)I" = some ⟨[.int, .int], some .int⟩ := by decide +kernel
theorem pd___J_JLcom_example_vexpi_vexpi_graph_SegmentedIntArray__I_V : parseMethodDescriptor "([J[JLcom/example/vexpi/vexpi/graph/SegmentedIntArray;[I)V" = some ⟨[(.array .long), (.array .long), (.object "com/example/vexpi/vexpi/graph/SegmentedIntArray"), (.array .int)], none⟩ := by decide +kernel
theorem pd__I_I : parseMethodDescriptor "(I)I" = some ⟨[.int], some .int⟩ := by decide +kernel
theorem ef_0 (m : MethodId) (x0 : Int32) (x1 : Int32) (x2 : Int32) : entryFrame m #[(.int x0), (.int x1), (.int x2)] maxLocals = mkF m 0 #[.val (.int x0), .val (.int x1), .val (.int x2), .unset, .unset, .unset, .unset, .unset, .unset, .unset] [] := by first | (simp [entryFrame, mkF, argsToLocals, Value.category, maxLocals]; done) | rfl
set_option maxRecDepth 65536 in
set_option maxHeartbeats 40000000 in
theorem law_0 (l : Launch) (Z : State) (a0 : Array Value) (hw : ∀ d ∈ tables_1, d.before a0 Z = true) (ws : List Jvm.Cond) (p1 p2 p3 d0 d1 d2 : Int32) (h0 : Heap) (n0 : Nat) (Z0 : n0 ≤ h0.size) (hi0 : (p1 &&& (2147483647 : Int32)) % (4 : Int32) = d0) (hi1 : (p2 &&& (2147483647 : Int32)) % (4 : Int32) = d1) (hi2 : (p3 &&& (2147483647 : Int32)) % (4 : Int32) = d2) (b0 : 0 ≤ d0.toInt ∧ d0.toInt ≤ 3) (b1 : 0 ≤ d1.toInt ∧ d1.toInt ≤ 3) (b2 : 0 ≤ d2.toInt ∧ d2.toInt ≤ 3) :
    PaysQ l Z h0 x (Jvm.Cond.code x code maxLocals ret :: ws) room_1 #[(.int p1), (.int p2), (.int p3)] (QL h0 n0) := by
  refine MetFree.of_bodySF (plainFor_of_name pn_LinkGraphGetInDegreePinLaw) hisR ?_
  intro p e s m args below meth c s₁ Bd hml0 hP hK
  obtain ⟨rfl, hZ, hh⟩ := hP
  have hx := Bd.exec
  have hby := Bd.bytes
  have hml : c.maxLocals = 10 := hml0
  have hown : s.vm.findClass "com/example/vexpi/vexpi/graph/LinkGraphGetInDegreePinLaw" = some m.cls := findClass_of_methodNamed Bd.named
  have X0 : Stand p l e room_1 s m #[(.int p1), (.int p2), (.int p3)] below meth c s₁ [] 0 0 := Stand.of_body Bd
  have e0 : s₁.heap = h0 := by rw [← hh, Bd.state]; rfl
  have N0 := Fr.nil n0
  have pre0 : ∀ t, Steps p.tables e below (s₁.setTop (mkF m 0 #[.val (.int p1), .val (.int p2), .val (.int p3), .unset, .unset, .unset, .unset, .unset, .unset, .unset] [])) t → Steps p.tables e below (s₁.setTop (entryFrame m #[(.int p1), (.int p2), (.int p3)] maxLocals)) t := fun t k => castTop (ef_0 m p1 p2 p3) k
  have e0_64 : ((0 : Int64)).toInt = 0 := by decide
  obtain ⟨q1, q2, q3⟩ := own_n1 b0 b1 b2
  have hL3 : 0 ≤ (((d0 + d1) + d2).toInt64).toInt ∧ (((d0 + d1) + d2).toInt64).toInt ≤ 9 := by rw [q3] <;> omega
  have fb0 : 0 ≤ ((0 : Int64)).toInt ∧ ((0 : Int64)).toInt + d0.toInt ≤ (((d0 + d1) + d2).toInt64).toInt ∧ (((d0 + d1) + d2).toInt64).toInt ≤ 9 ∧ 0 ≤ d0.toInt ∧ d0.toInt ≤ 3 := by rw [e0_64, q3] <;> omega
  have fb1 : 0 ≤ ((d0.toInt64)).toInt ∧ ((d0.toInt64)).toInt + d1.toInt ≤ (((d0 + d1) + d2).toInt64).toInt ∧ (((d0 + d1) + d2).toInt64).toInt ≤ 9 ∧ 0 ≤ d1.toInt ∧ d1.toInt ≤ 3 := by rw [q1, q3] <;> omega
  have fb2 : 0 ≤ (((d0 + d1).toInt64)).toInt ∧ (((d0 + d1).toInt64)).toInt + d2.toInt ≤ (((d0 + d1) + d2).toInt64).toInt ∧ (((d0 + d1) + d2).toInt64).toInt ≤ 9 ∧ 0 ≤ d2.toInt ∧ d2.toInt ≤ 3 := by rw [q2, q3] <;> omega
  have df0 : ((d0.toInt64) - (0 : Int64)).toInt32 = d0 := own_df (by rw [q1, e0_64] <;> omega) (by rw [e0_64] <;> omega) (by rw [e0_64] <;> omega) b0.1 b0.2
  have df1 : (((d0 + d1).toInt64) - (d0.toInt64)).toInt32 = d1 := own_df (by rw [q2, q1] <;> omega) (by rw [q1] <;> omega) (by rw [q1] <;> omega) b1.1 b1.2
  have df2 : ((((d0 + d1) + d2).toInt64) - ((d0 + d1).toInt64)).toInt32 = d2 := own_df (by rw [q3, q2] <;> omega) (by rw [q2] <;> omega) (by rw [q2] <;> omega) b2.1 b2.2
  obtain ⟨T1, h1, k1, X1, e1, E1, A1, st1⟩ := newP X0 hx hZ (hw _ (List.mem_of_getElem? (i := 1) rfl)) e0 (g := (mkF m 24 #[.val (.int p1), .val (.int p2), .val (.int p3), .val (.int d0), .val (.int d1), .val (.int d2), .unset, .unset, .unset, .unset] [(.int (4 : Int32))])) rfl (hb hby at_24) rfl (by decide) (cap := 4) (by decide) (by decide) (by decide) (by decide)
  obtain ⟨off, g1⟩ : ∃ z, z = h0.size := ⟨_, rfl⟩
  rw [← g1] at A1 st1
  have g_off : n0 ≤ off := Nat.le_trans Z0 (Nat.le_of_eq g1.symm)
  have Z_1 := Nat.le_trans Z0 E1.1
  have V_off : Arv Z h1 off k1 .long (4 : Int32) [(.long (0 : Int64)), (.long (0 : Int64)), (.long (0 : Int64)), (.long (0 : Int64))] (.long (0 : Int64)) := (Arv.new A1 (by decide)).pad (pad_rep [] (.long (0 : Int64)) 4)
  obtain ⟨cl2, Ar2, cq2, S2, Nn2, Hh2, Gg2⟩ := V_off
  have hin2 : ¬ ((0 : Int32) < 0 ∨ cl2.slots.size ≤ ((0 : Int32)).toNatClampNeg) := inb_of S2 ⟨by decide, by decide⟩
  obtain ⟨T2, h2, X2, e2, W2, st2⟩ := stJ X1 hx hZ e1 Ar2 (j := (0 : Int32)) hin2 (g := (mkF m 32 #[.val (.int p1), .val (.int p2), .val (.int p3), .val (.int d0), .val (.int d1), .val (.int d2), .val (.ref off), .unset, .unset, .unset] [(.long (0 : Int64)), (.int (0 : Int32)), (.ref off)])) rfl rfl (hb hby at_32)
  have Z_2 := Nat.le_trans Z_1 (Keep.of_wr W2).1
  have N2 := Fr.snoc X2 N0 g_off
  have V_off_2 : Arv Z h2 off k1 .long (4 : Int32) [(.long (0 : Int64)), (.long (0 : Int64)), (.long (0 : Int64)), (.long (0 : Int64))] (.long (0 : Int64)) := Arv.set Ar2 cq2 S2 Nn2 Hh2 Gg2 rfl W2 0 rfl (Nat.le_of_ble_eq_true rfl)
  obtain ⟨cl3, Ar3, cq3, S3, Nn3, Hh3, Gg3⟩ := V_off_2
  have hin3 : ¬ ((1 : Int32) < 0 ∨ cl3.slots.size ≤ ((1 : Int32)).toNatClampNeg) := inb_of S3 ⟨by decide, by decide⟩
  obtain ⟨T3, h3, X3, e3, W3, st3⟩ := stJ X2 hx hZ e2 Ar3 (j := (1 : Int32)) hin3 (g := (mkF m 38 #[.val (.int p1), .val (.int p2), .val (.int p3), .val (.int d0), .val (.int d1), .val (.int d2), .val (.ref off), .unset, .unset, .unset] [(.long (d0.toInt64)), (.int (1 : Int32)), (.ref off)])) rfl rfl (hb hby at_38)
  have Z_3 := Nat.le_trans Z_2 (Keep.of_wr W3).1
  have N3 := Fr.snoc X3 N2 g_off
  have V_off_3 : Arv Z h3 off k1 .long (4 : Int32) [(.long (0 : Int64)), (.long (d0.toInt64)), (.long (0 : Int64)), (.long (0 : Int64))] (.long (0 : Int64)) := Arv.set Ar3 cq3 S3 Nn3 Hh3 Gg3 rfl W3 1 rfl (Nat.le_of_ble_eq_true rfl)
  obtain ⟨cl4, Ar4, cq4, S4, Nn4, Hh4, Gg4⟩ := V_off_3
  have hin4 : ¬ ((2 : Int32) < 0 ∨ cl4.slots.size ≤ ((2 : Int32)).toNatClampNeg) := inb_of S4 ⟨by decide, by decide⟩
  obtain ⟨T4, h4, X4, e4, W4, st4⟩ := stJ X3 hx hZ e3 Ar4 (j := (2 : Int32)) hin4 (g := (mkF m 47 #[.val (.int p1), .val (.int p2), .val (.int p3), .val (.int d0), .val (.int d1), .val (.int d2), .val (.ref off), .unset, .unset, .unset] [(.long ((d0 + d1).toInt64)), (.int (2 : Int32)), (.ref off)])) rfl rfl (hb hby at_47)
  have Z_4 := Nat.le_trans Z_3 (Keep.of_wr W4).1
  have N4 := Fr.snoc X4 N3 g_off
  have V_off_4 : Arv Z h4 off k1 .long (4 : Int32) [(.long (0 : Int64)), (.long (d0.toInt64)), (.long ((d0 + d1).toInt64)), (.long (0 : Int64))] (.long (0 : Int64)) := Arv.set Ar4 cq4 S4 Nn4 Hh4 Gg4 rfl W4 2 rfl (Nat.le_of_ble_eq_true rfl)
  obtain ⟨cl5, Ar5, cq5, S5, Nn5, Hh5, Gg5⟩ := V_off_4
  have hin5 : ¬ ((3 : Int32) < 0 ∨ cl5.slots.size ≤ ((3 : Int32)).toNatClampNeg) := inb_of S5 ⟨by decide, by decide⟩
  obtain ⟨T5, h5, X5, e5, W5, st5⟩ := stJ X4 hx hZ e4 Ar5 (j := (3 : Int32)) hin5 (g := (mkF m 59 #[.val (.int p1), .val (.int p2), .val (.int p3), .val (.int d0), .val (.int d1), .val (.int d2), .val (.ref off), .unset, .unset, .unset] [(.long (((d0 + d1) + d2).toInt64)), (.int (3 : Int32)), (.ref off)])) rfl rfl (hb hby at_59)
  have Z_5 := Nat.le_trans Z_4 (Keep.of_wr W5).1
  have N5 := Fr.snoc X5 N4 g_off
  have V_off_5 : Arv Z h5 off k1 .long (4 : Int32) [(.long (0 : Int64)), (.long (d0.toInt64)), (.long ((d0 + d1).toInt64)), (.long (((d0 + d1) + d2).toInt64))] (.long (0 : Int64)) := Arv.set Ar5 cq5 S5 Nn5 Hh5 Gg5 rfl W5 3 rfl (Nat.le_of_ble_eq_true rfl)
  obtain ⟨T6, h6, X6, e6, E6, A6, D6, -, st6⟩ := newO X5 hx hZ hown (hw _ (List.mem_of_getElem? (i := 2) rfl)) (hw _ (List.mem_of_getElem? (i := 3) rfl)) (hw _ (List.mem_of_getElem? (i := 4) rfl)) e5 (g := (mkF m 60 #[.val (.int p1), .val (.int p2), .val (.int p3), .val (.int d0), .val (.int d1), .val (.int d2), .val (.ref off), .unset, .unset, .unset] [])) rfl (hb hby at_60) (by decide) (by decide)
  obtain ⟨seg, g6⟩ : ∃ z, z = h5.size := ⟨_, rfl⟩
  rw [← g6] at A6 D6 st6
  have ne_off_seg : off ≠ seg := Nat.ne_of_lt (Nat.lt_of_lt_of_le V_off_5.lt (Nat.le_of_eq g6.symm))
  have g_seg : n0 ≤ seg := Nat.le_trans Z_5 (Nat.le_of_eq g6.symm)
  have V_off_6 := V_off_5.ext E6
  have Z_6 := Nat.le_trans Z_5 E6.1
  have F_seg_segments : Fld Z h6 seg "com/example/vexpi/vexpi/graph/SegmentedIntArray" "segments" "[[I" .null := D6 (Or.inr (hw _ (List.mem_of_getElem? (i := 19) rfl))) (ty := (.array (.array .int))) (by decide)
  have F_seg_length : Fld Z h6 seg "com/example/vexpi/vexpi/graph/SegmentedIntArray" "length" "J" (.long (0 : Int64)) := D6 (Or.inr (hw _ (List.mem_of_getElem? (i := 27) rfl))) (ty := .long) (by decide)
  obtain ⟨cl7, Ar7, -, S7, -, Hh7, -⟩ := id V_off_6
  have hin7 : ¬ ((3 : Int32) < 0 ∨ cl7.slots.size ≤ ((3 : Int32)).toNatClampNeg) := inb_of S7 ⟨by decide, by decide⟩
  have hat7 : cl7.slots[((3 : Int32)).toNatClampNeg]? = some (.long (((d0 + d1) + d2).toInt64)) := Hh7.at hin7 rfl
  obtain ⟨n1, gn1⟩ : ∃ z, z = h6.size := ⟨_, rfl⟩
  have lt_seg : seg < n1 := by rw [gn1]; exact A6.lt
  have lt_off : off < n1 := by rw [gn1]; exact V_off_6.lt
  have h01 : n0 ≤ n1 := by rw [gn1]; exact Z_6
  obtain ⟨_, _, ⟨T8, lo8, co8, so8⟩, -, X8, ⟨Lc8, hQ8, l8, y8, z8⟩, st8⟩ := X6.specialBack hx (y := (⟨"com/example/vexpi/vexpi/graph/SegmentedIntArray", "<init>", "(J)V"⟩ : MethodName)) rfl hown (mvT hZ (hw _ (List.mem_of_getElem? (i := 5) rfl))) (mvT hZ (hw _ (List.mem_of_getElem? (i := 6) rfl))) (mvT hZ (hw _ (List.mem_of_getElem? (i := 7) rfl))) (by decide) (backOf (W := 1) (Q := Q1 Z seg (((d0 + d1) + d2).toInt64) h6 n0) (ini l Z a0 hw seg (((d0 + d1) + d2).toInt64) h6 n0 Z_6 A6 F_seg_segments F_seg_length g_seg hL3) hZ (hw _ (List.mem_of_getElem? (i := 7) rfl)) (hw _ (List.mem_of_getElem? (i := 4) rfl)) (by decide) (by decide)) (g := (mkF m 68 #[.val (.int p1), .val (.int p2), .val (.int p3), .val (.int d0), .val (.int d1), .val (.int d2), .val (.ref off), .unset, .unset, .unset] [(.long (((d0 + d1) + d2).toInt64)), (.ref seg), (.ref seg)])) rfl (by rw [hml]; rfl) (Steps.refl _) (a := seg) (argsL := [(.long (((d0 + d1) + d2).toInt64))]) (rest := [(.ref seg)]) (lenOf pd__J_V rfl) rfl (by show 2 * 0 + _ ≤ _; exact Nat.le_of_eq rfl) (hb hby at_68) (fun _ _ => ⟨rfl, e6, (by decide : 2 + 2 ≤ _), (by decide : 6 + 10 ≤ _)⟩)
  dsimp only [Pt.U, Pt.locs, Pt.cells, Pt.slots] at X8 l8 y8 z8 st8 hQ8
  rw [l8, y8, z8] at X8
  obtain ⟨rfl, Nq8, hQ8⟩ := hQ8
  have N8 := Fr.app N5 Nq8
  have V_off_8 := V_off_6.keep hQ8.1 (ninS ne_off_seg nin0)
  have Z_8 := Nat.le_trans Z_6 hQ8.1.1
  have sp8 : SegP Z T8.heap n1 seg (((d0 + d1) + d2).toInt64) := by rw [gn1]; exact hQ8.2
  obtain ⟨cl9, Ar9, -, S9, -, Hh9, -⟩ := id V_off_8
  have hin9 : ¬ ((0 : Int32) < 0 ∨ cl9.slots.size ≤ ((0 : Int32)).toNatClampNeg) := inb_of S9 ⟨by decide, by decide⟩
  have hat9 : cl9.slots[((0 : Int32)).toNatClampNeg]? = some (.long (0 : Int64)) := Hh9.at hin9 rfl
  obtain ⟨_, _, ⟨T10, lo10, co10, so10⟩, -, X10, ⟨Lc10, hQ10, l10, y10, z10⟩, st10⟩ := Jvm.LawKit.callS X8 hx (y := (⟨"com/example/vexpi/vexpi/graph/LinkGraphGetInDegreePinLaw", "fill", "(Lcom/example/vexpi/vexpi/graph/SegmentedIntArray;JI)V"⟩ : MethodName)) hown (mvT hZ (hw _ (List.mem_of_getElem? (i := 28) rfl))) (mvT hZ (hw _ (List.mem_of_getElem? (i := 29) rfl))) (mvT hZ (hw _ (List.mem_of_getElem? (i := 30) rfl))) (mvT hZ (hw _ (List.mem_of_getElem? (i := 31) rfl))) (by decide) (backOf (W := 0) (Q := Q5 Z n1 seg (((d0 + d1) + d2).toInt64) T8.heap n0) (fill l Z a0 hw seg (0 : Int64) (((d0 + d1) + d2).toInt64) d0 T8.heap n0 Z_8 n1 h01 lt_seg sp8 fb0) hZ (hw _ (List.mem_of_getElem? (i := 31) rfl)) (hw _ (List.mem_of_getElem? (i := 30) rfl)) (by decide) (by decide)) (g := (mkF m 80 #[.val (.int p1), .val (.int p2), .val (.int p3), .val (.int d0), .val (.int d1), .val (.int d2), .val (.ref off), .val (.ref seg), .unset, .unset] [(.int d0), (.long (0 : Int64)), (.ref seg)])) rfl (by rw [hml]; rfl) (argsL := [(.ref seg), (.long (0 : Int64)), (.int d0)]) (rest := []) (lenOf pd__Lcom_example_vexpi_vexpi_graph_SegmentedIntArray_JI_V rfl) rfl (by show 2 * 0 + _ ≤ _; exact Nat.le_of_eq rfl) (hb hby at_80) (fun _ _ => ⟨rfl, rfl, (by decide : 4 + 0 ≤ _), (by decide : 16 + 0 ≤ _)⟩)
  dsimp only [Pt.U, Pt.locs, Pt.cells, Pt.slots] at X10 l10 y10 z10 st10 hQ10
  rw [l10, y10, z10] at X10
  obtain ⟨rfl, Nq10, hQ10⟩ := hQ10
  have N10 := Fr.app N8 Nq10
  obtain ⟨⟨ws10, K10, in10⟩, sp10⟩ := hQ10
  have V_off_10 := V_off_8.keep K10 (fun q => absurd (in10 _ q) (Nat.not_le.mpr lt_off))
  have Z_10 := Nat.le_trans Z_8 K10.1
  obtain ⟨cl11, Ar11, -, S11, -, Hh11, -⟩ := id V_off_10
  have hin11 : ¬ ((1 : Int32) < 0 ∨ cl11.slots.size ≤ ((1 : Int32)).toNatClampNeg) := inb_of S11 ⟨by decide, by decide⟩
  have hat11 : cl11.slots[((1 : Int32)).toNatClampNeg]? = some (.long (d0.toInt64)) := Hh11.at hin11 rfl
  obtain ⟨_, _, ⟨T12, lo12, co12, so12⟩, -, X12, ⟨Lc12, hQ12, l12, y12, z12⟩, st12⟩ := Jvm.LawKit.callS X10 hx (y := (⟨"com/example/vexpi/vexpi/graph/LinkGraphGetInDegreePinLaw", "fill", "(Lcom/example/vexpi/vexpi/graph/SegmentedIntArray;JI)V"⟩ : MethodName)) hown (mvT hZ (hw _ (List.mem_of_getElem? (i := 28) rfl))) (mvT hZ (hw _ (List.mem_of_getElem? (i := 29) rfl))) (mvT hZ (hw _ (List.mem_of_getElem? (i := 30) rfl))) (mvT hZ (hw _ (List.mem_of_getElem? (i := 31) rfl))) (by decide) (backOf (W := 0) (Q := Q5 Z n1 seg (((d0 + d1) + d2).toInt64) T10.heap n0) (fill l Z a0 hw seg (d0.toInt64) (((d0 + d1) + d2).toInt64) d1 T10.heap n0 Z_10 n1 h01 lt_seg sp10 fb1) hZ (hw _ (List.mem_of_getElem? (i := 31) rfl)) (hw _ (List.mem_of_getElem? (i := 30) rfl)) (by decide) (by decide)) (g := (mkF m 91 #[.val (.int p1), .val (.int p2), .val (.int p3), .val (.int d0), .val (.int d1), .val (.int d2), .val (.ref off), .val (.ref seg), .unset, .unset] [(.int d1), (.long (d0.toInt64)), (.ref seg)])) rfl (by rw [hml]; rfl) (argsL := [(.ref seg), (.long (d0.toInt64)), (.int d1)]) (rest := []) (lenOf pd__Lcom_example_vexpi_vexpi_graph_SegmentedIntArray_JI_V rfl) rfl (by show 2 * 0 + _ ≤ _; exact Nat.le_of_eq rfl) (hb hby at_91) (fun _ _ => ⟨rfl, rfl, (by decide : 4 + 0 ≤ _), (by decide : 16 + 0 ≤ _)⟩)
  dsimp only [Pt.U, Pt.locs, Pt.cells, Pt.slots] at X12 l12 y12 z12 st12 hQ12
  rw [l12, y12, z12] at X12
  obtain ⟨rfl, Nq12, hQ12⟩ := hQ12
  have N12 := Fr.app N10 Nq12
  obtain ⟨⟨ws12, K12, in12⟩, sp12⟩ := hQ12
  have V_off_12 := V_off_10.keep K12 (fun q => absurd (in12 _ q) (Nat.not_le.mpr lt_off))
  have Z_12 := Nat.le_trans Z_10 K12.1
  obtain ⟨cl13, Ar13, -, S13, -, Hh13, -⟩ := id V_off_12
  have hin13 : ¬ ((2 : Int32) < 0 ∨ cl13.slots.size ≤ ((2 : Int32)).toNatClampNeg) := inb_of S13 ⟨by decide, by decide⟩
  have hat13 : cl13.slots[((2 : Int32)).toNatClampNeg]? = some (.long ((d0 + d1).toInt64)) := Hh13.at hin13 rfl
  obtain ⟨_, _, ⟨T14, lo14, co14, so14⟩, -, X14, ⟨Lc14, hQ14, l14, y14, z14⟩, st14⟩ := Jvm.LawKit.callS X12 hx (y := (⟨"com/example/vexpi/vexpi/graph/LinkGraphGetInDegreePinLaw", "fill", "(Lcom/example/vexpi/vexpi/graph/SegmentedIntArray;JI)V"⟩ : MethodName)) hown (mvT hZ (hw _ (List.mem_of_getElem? (i := 28) rfl))) (mvT hZ (hw _ (List.mem_of_getElem? (i := 29) rfl))) (mvT hZ (hw _ (List.mem_of_getElem? (i := 30) rfl))) (mvT hZ (hw _ (List.mem_of_getElem? (i := 31) rfl))) (by decide) (backOf (W := 0) (Q := Q5 Z n1 seg (((d0 + d1) + d2).toInt64) T12.heap n0) (fill l Z a0 hw seg ((d0 + d1).toInt64) (((d0 + d1) + d2).toInt64) d2 T12.heap n0 Z_12 n1 h01 lt_seg sp12 fb2) hZ (hw _ (List.mem_of_getElem? (i := 31) rfl)) (hw _ (List.mem_of_getElem? (i := 30) rfl)) (by decide) (by decide)) (g := (mkF m 102 #[.val (.int p1), .val (.int p2), .val (.int p3), .val (.int d0), .val (.int d1), .val (.int d2), .val (.ref off), .val (.ref seg), .unset, .unset] [(.int d2), (.long ((d0 + d1).toInt64)), (.ref seg)])) rfl (by rw [hml]; rfl) (argsL := [(.ref seg), (.long ((d0 + d1).toInt64)), (.int d2)]) (rest := []) (lenOf pd__Lcom_example_vexpi_vexpi_graph_SegmentedIntArray_JI_V rfl) rfl (by show 2 * 0 + _ ≤ _; exact Nat.le_of_eq rfl) (hb hby at_102) (fun _ _ => ⟨rfl, rfl, (by decide : 4 + 0 ≤ _), (by decide : 16 + 0 ≤ _)⟩)
  dsimp only [Pt.U, Pt.locs, Pt.cells, Pt.slots] at X14 l14 y14 z14 st14 hQ14
  rw [l14, y14, z14] at X14
  obtain ⟨rfl, Nq14, hQ14⟩ := hQ14
  have N14 := Fr.app N12 Nq14
  obtain ⟨⟨ws14, K14, in14⟩, sp14⟩ := hQ14
  have V_off_14 := V_off_12.keep K14 (fun q => absurd (in14 _ q) (Nat.not_le.mpr lt_off))
  have Z_14 := Nat.le_trans Z_12 K14.1
  obtain ⟨Eseg, Fseg, -⟩ := sp14
  obtain ⟨T15, h15, k15, X15, e15, E15, A15, st15⟩ := newP X14 hx hZ (hw _ (List.mem_of_getElem? (i := 24) rfl)) rfl (g := (mkF m 106 #[.val (.int p1), .val (.int p2), .val (.int p3), .val (.int d0), .val (.int d1), .val (.int d2), .val (.ref off), .val (.ref seg), .unset, .unset] [(.int (3 : Int32))])) rfl (hb hby at_106) rfl (by decide) (cap := 3) (by decide) (by decide) (by decide) (by decide)
  obtain ⟨out, g15⟩ : ∃ z, z = T14.heap.size := ⟨_, rfl⟩
  rw [← g15] at A15 st15
  have ne_off_out : off ≠ out := Nat.ne_of_lt (Nat.lt_of_lt_of_le V_off_14.lt (Nat.le_of_eq g15.symm))
  have ne_seg_out : seg ≠ out := Nat.ne_of_lt (Nat.lt_of_lt_of_le Eseg.lt (Nat.le_of_eq g15.symm))
  have g_out : n0 ≤ out := Nat.le_trans Z_14 (Nat.le_of_eq g15.symm)
  have V_off_15 := V_off_14.ext E15
  have E_seg_15 := Eseg.ext E15
  have F_seg_length_15 := Fseg.ext E15
  have Z_15 := Nat.le_trans Z_14 E15.1
  have V_out : Arv Z h15 out k15 .int (3 : Int32) [(.int (0 : Int32)), (.int (0 : Int32)), (.int (0 : Int32))] (.int (0 : Int32)) := (Arv.new A15 (by decide)).pad (pad_rep [] (.int (0 : Int32)) 3)
  obtain ⟨_, _, ⟨T16, lo16, co16, so16⟩, -, X16, ⟨Lc16, hQ16, l16, y16, z16⟩, st16⟩ := Jvm.LawKit.callS X15 hx (y := (⟨"com/example/vexpi/vexpi/graph/LinkGraphGetInDegreePinLaw", "above", "(II)I"⟩ : MethodName)) hown (mvT hZ (hw _ (List.mem_of_getElem? (i := 46) rfl))) (mvT hZ (hw _ (List.mem_of_getElem? (i := 47) rfl))) (mvT hZ (hw _ (List.mem_of_getElem? (i := 30) rfl))) (mvT hZ (hw _ (List.mem_of_getElem? (i := 48) rfl))) (by decide) (backOf (W := 2) (Q := PQ (.int (own_ab d0 (0 : Int32))) h15 n0) (ab l Z a0 hw d0 (0 : Int32) h15 n0 Z_15) hZ (hw _ (List.mem_of_getElem? (i := 48) rfl)) (hw _ (List.mem_of_getElem? (i := 30) rfl)) (by decide) (by decide)) (g := (mkF m 115 #[.val (.int p1), .val (.int p2), .val (.int p3), .val (.int d0), .val (.int d1), .val (.int d2), .val (.ref off), .val (.ref seg), .val (.ref out), .unset] [(.int (0 : Int32)), (.int d0), (.int (0 : Int32)), (.ref out)])) rfl (by rw [hml]; rfl) (argsL := [(.int d0), (.int (0 : Int32))]) (rest := [(.int (0 : Int32)), (.ref out)]) (lenOf pd__II_I rfl) rfl (by show 2 * 0 + _ ≤ _; exact Nat.le_of_eq rfl) (hb hby at_115) (fun _ _ => ⟨rfl, e15, (by decide : 5 + 0 ≤ _), (by decide : 19 + 0 ≤ _)⟩)
  dsimp only [Pt.U, Pt.locs, Pt.cells, Pt.slots] at X16 l16 y16 z16 st16 hQ16
  rw [l16, y16, z16] at X16
  obtain ⟨rfl, Nq16, e16⟩ := hQ16
  have N16 := Fr.app N14 Nq16
  obtain ⟨_, _, ⟨T17, lo17, co17, so17⟩, -, X17, ⟨Lc17, hQ17, l17, y17, z17⟩, st17⟩ := Jvm.LawKit.callS X16 hx (y := (⟨"com/example/vexpi/vexpi/graph/LinkGraphGetInDegreePinLaw", "above", "(II)I"⟩ : MethodName)) hown (mvT hZ (hw _ (List.mem_of_getElem? (i := 46) rfl))) (mvT hZ (hw _ (List.mem_of_getElem? (i := 47) rfl))) (mvT hZ (hw _ (List.mem_of_getElem? (i := 30) rfl))) (mvT hZ (hw _ (List.mem_of_getElem? (i := 48) rfl))) (by decide) (backOf (W := 3) (Q := PQ (.int (own_ab d1 (0 : Int32))) h15 n0) (ab l Z a0 hw d1 (0 : Int32) h15 n0 Z_15) hZ (hw _ (List.mem_of_getElem? (i := 48) rfl)) (hw _ (List.mem_of_getElem? (i := 30) rfl)) (by decide) (by decide)) (g := (mkF m 121 #[.val (.int p1), .val (.int p2), .val (.int p3), .val (.int d0), .val (.int d1), .val (.int d2), .val (.ref off), .val (.ref seg), .val (.ref out), .unset] [(.int (0 : Int32)), (.int d1), (.int (own_ab d0 (0 : Int32))), (.int (0 : Int32)), (.ref out)])) rfl (by rw [hml]; rfl) (argsL := [(.int d1), (.int (0 : Int32))]) (rest := [(.int (own_ab d0 (0 : Int32))), (.int (0 : Int32)), (.ref out)]) (lenOf pd__II_I rfl) rfl (by show 2 * 0 + _ ≤ _; exact Nat.le_of_eq rfl) (hb hby at_121) (fun _ _ => ⟨rfl, e16, (by decide : 5 + 0 ≤ _), (by decide : 19 + 0 ≤ _)⟩)
  dsimp only [Pt.U, Pt.locs, Pt.cells, Pt.slots] at X17 l17 y17 z17 st17 hQ17
  rw [l17, y17, z17] at X17
  obtain ⟨rfl, Nq17, e17⟩ := hQ17
  have N17 := Fr.app N16 Nq17
  obtain ⟨_, _, ⟨T18, lo18, co18, so18⟩, -, X18, ⟨Lc18, hQ18, l18, y18, z18⟩, st18⟩ := Jvm.LawKit.callS X17 hx (y := (⟨"com/example/vexpi/vexpi/graph/LinkGraphGetInDegreePinLaw", "above", "(II)I"⟩ : MethodName)) hown (mvT hZ (hw _ (List.mem_of_getElem? (i := 46) rfl))) (mvT hZ (hw _ (List.mem_of_getElem? (i := 47) rfl))) (mvT hZ (hw _ (List.mem_of_getElem? (i := 30) rfl))) (mvT hZ (hw _ (List.mem_of_getElem? (i := 48) rfl))) (by decide) (backOf (W := 3) (Q := PQ (.int (own_ab d2 (0 : Int32))) h15 n0) (ab l Z a0 hw d2 (0 : Int32) h15 n0 Z_15) hZ (hw _ (List.mem_of_getElem? (i := 48) rfl)) (hw _ (List.mem_of_getElem? (i := 30) rfl)) (by decide) (by decide)) (g := (mkF m 128 #[.val (.int p1), .val (.int p2), .val (.int p3), .val (.int d0), .val (.int d1), .val (.int d2), .val (.ref off), .val (.ref seg), .val (.ref out), .unset] [(.int (0 : Int32)), (.int d2), (.int ((own_ab d0 (0 : Int32)) + (own_ab d1 (0 : Int32)))), (.int (0 : Int32)), (.ref out)])) rfl (by rw [hml]; rfl) (argsL := [(.int d2), (.int (0 : Int32))]) (rest := [(.int ((own_ab d0 (0 : Int32)) + (own_ab d1 (0 : Int32)))), (.int (0 : Int32)), (.ref out)]) (lenOf pd__II_I rfl) rfl (by show 2 * 0 + _ ≤ _; exact Nat.le_of_eq rfl) (hb hby at_128) (fun _ _ => ⟨rfl, e17, (by decide : 5 + 0 ≤ _), (by decide : 19 + 0 ≤ _)⟩)
  dsimp only [Pt.U, Pt.locs, Pt.cells, Pt.slots] at X18 l18 y18 z18 st18 hQ18
  rw [l18, y18, z18] at X18
  obtain ⟨rfl, Nq18, e18⟩ := hQ18
  have N18 := Fr.app N17 Nq18
  obtain ⟨cl19, Ar19, cq19, S19, Nn19, Hh19, Gg19⟩ := V_out
  have hin19 : ¬ ((0 : Int32) < 0 ∨ cl19.slots.size ≤ ((0 : Int32)).toNatClampNeg) := inb_of S19 ⟨by decide, by decide⟩
  obtain ⟨T19, h19, X19, e19, W19, st19⟩ := stI X18 hx hZ e18 Ar19 (j := (0 : Int32)) hin19 (g := (mkF m 132 #[.val (.int p1), .val (.int p2), .val (.int p3), .val (.int d0), .val (.int d1), .val (.int d2), .val (.ref off), .val (.ref seg), .val (.ref out), .unset] [(.int (((own_ab d0 (0 : Int32)) + (own_ab d1 (0 : Int32))) + (own_ab d2 (0 : Int32)))), (.int (0 : Int32)), (.ref out)])) rfl rfl (hb hby at_132)
  have V_off_19 := V_off_15.other W19 ne_off_out
  have E_seg_19 := E_seg_15.wr W19
  have F_seg_length_19 := F_seg_length_15.other W19 (Or.inl ne_seg_out)
  have Z_19 := Nat.le_trans Z_15 (Keep.of_wr W19).1
  have N19 := Fr.snoc X19 N18 g_out
  have V_out_19 : Arv Z h19 out k15 .int (3 : Int32) [(.int (((own_ab d0 (0 : Int32)) + (own_ab d1 (0 : Int32))) + (own_ab d2 (0 : Int32)))), (.int (0 : Int32)), (.int (0 : Int32))] (.int (0 : Int32)) := Arv.set Ar19 cq19 S19 Nn19 Hh19 Gg19 rfl W19 0 rfl (Nat.le_of_ble_eq_true rfl)
  obtain ⟨_, _, ⟨T20, lo20, co20, so20⟩, -, X20, ⟨Lc20, hQ20, l20, y20, z20⟩, st20⟩ := Jvm.LawKit.callS X19 hx (y := (⟨"com/example/vexpi/vexpi/graph/LinkGraphGetInDegreePinLaw", "above", "(II)I"⟩ : MethodName)) hown (mvT hZ (hw _ (List.mem_of_getElem? (i := 46) rfl))) (mvT hZ (hw _ (List.mem_of_getElem? (i := 47) rfl))) (mvT hZ (hw _ (List.mem_of_getElem? (i := 30) rfl))) (mvT hZ (hw _ (List.mem_of_getElem? (i := 48) rfl))) (by decide) (backOf (W := 2) (Q := PQ (.int (own_ab d0 (1 : Int32))) h19 n0) (ab l Z a0 hw d0 (1 : Int32) h19 n0 Z_19) hZ (hw _ (List.mem_of_getElem? (i := 48) rfl)) (hw _ (List.mem_of_getElem? (i := 30) rfl)) (by decide) (by decide)) (g := (mkF m 138 #[.val (.int p1), .val (.int p2), .val (.int p3), .val (.int d0), .val (.int d1), .val (.int d2), .val (.ref off), .val (.ref seg), .val (.ref out), .unset] [(.int (1 : Int32)), (.int d0), (.int (1 : Int32)), (.ref out)])) rfl (by rw [hml]; rfl) (argsL := [(.int d0), (.int (1 : Int32))]) (rest := [(.int (1 : Int32)), (.ref out)]) (lenOf pd__II_I rfl) rfl (by show 2 * 0 + _ ≤ _; exact Nat.le_of_eq rfl) (hb hby at_138) (fun _ _ => ⟨rfl, e19, (by decide : 5 + 0 ≤ _), (by decide : 19 + 0 ≤ _)⟩)
  dsimp only [Pt.U, Pt.locs, Pt.cells, Pt.slots] at X20 l20 y20 z20 st20 hQ20
  rw [l20, y20, z20] at X20
  obtain ⟨rfl, Nq20, e20⟩ := hQ20
  have N20 := Fr.app N19 Nq20
  obtain ⟨_, _, ⟨T21, lo21, co21, so21⟩, -, X21, ⟨Lc21, hQ21, l21, y21, z21⟩, st21⟩ := Jvm.LawKit.callS X20 hx (y := (⟨"com/example/vexpi/vexpi/graph/LinkGraphGetInDegreePinLaw", "above", "(II)I"⟩ : MethodName)) hown (mvT hZ (hw _ (List.mem_of_getElem? (i := 46) rfl))) (mvT hZ (hw _ (List.mem_of_getElem? (i := 47) rfl))) (mvT hZ (hw _ (List.mem_of_getElem? (i := 30) rfl))) (mvT hZ (hw _ (List.mem_of_getElem? (i := 48) rfl))) (by decide) (backOf (W := 3) (Q := PQ (.int (own_ab d1 (1 : Int32))) h19 n0) (ab l Z a0 hw d1 (1 : Int32) h19 n0 Z_19) hZ (hw _ (List.mem_of_getElem? (i := 48) rfl)) (hw _ (List.mem_of_getElem? (i := 30) rfl)) (by decide) (by decide)) (g := (mkF m 144 #[.val (.int p1), .val (.int p2), .val (.int p3), .val (.int d0), .val (.int d1), .val (.int d2), .val (.ref off), .val (.ref seg), .val (.ref out), .unset] [(.int (1 : Int32)), (.int d1), (.int (own_ab d0 (1 : Int32))), (.int (1 : Int32)), (.ref out)])) rfl (by rw [hml]; rfl) (argsL := [(.int d1), (.int (1 : Int32))]) (rest := [(.int (own_ab d0 (1 : Int32))), (.int (1 : Int32)), (.ref out)]) (lenOf pd__II_I rfl) rfl (by show 2 * 0 + _ ≤ _; exact Nat.le_of_eq rfl) (hb hby at_144) (fun _ _ => ⟨rfl, e20, (by decide : 5 + 0 ≤ _), (by decide : 19 + 0 ≤ _)⟩)
  dsimp only [Pt.U, Pt.locs, Pt.cells, Pt.slots] at X21 l21 y21 z21 st21 hQ21
  rw [l21, y21, z21] at X21
  obtain ⟨rfl, Nq21, e21⟩ := hQ21
  have N21 := Fr.app N20 Nq21
  obtain ⟨_, _, ⟨T22, lo22, co22, so22⟩, -, X22, ⟨Lc22, hQ22, l22, y22, z22⟩, st22⟩ := Jvm.LawKit.callS X21 hx (y := (⟨"com/example/vexpi/vexpi/graph/LinkGraphGetInDegreePinLaw", "above", "(II)I"⟩ : MethodName)) hown (mvT hZ (hw _ (List.mem_of_getElem? (i := 46) rfl))) (mvT hZ (hw _ (List.mem_of_getElem? (i := 47) rfl))) (mvT hZ (hw _ (List.mem_of_getElem? (i := 30) rfl))) (mvT hZ (hw _ (List.mem_of_getElem? (i := 48) rfl))) (by decide) (backOf (W := 3) (Q := PQ (.int (own_ab d2 (1 : Int32))) h19 n0) (ab l Z a0 hw d2 (1 : Int32) h19 n0 Z_19) hZ (hw _ (List.mem_of_getElem? (i := 48) rfl)) (hw _ (List.mem_of_getElem? (i := 30) rfl)) (by decide) (by decide)) (g := (mkF m 151 #[.val (.int p1), .val (.int p2), .val (.int p3), .val (.int d0), .val (.int d1), .val (.int d2), .val (.ref off), .val (.ref seg), .val (.ref out), .unset] [(.int (1 : Int32)), (.int d2), (.int ((own_ab d0 (1 : Int32)) + (own_ab d1 (1 : Int32)))), (.int (1 : Int32)), (.ref out)])) rfl (by rw [hml]; rfl) (argsL := [(.int d2), (.int (1 : Int32))]) (rest := [(.int ((own_ab d0 (1 : Int32)) + (own_ab d1 (1 : Int32)))), (.int (1 : Int32)), (.ref out)]) (lenOf pd__II_I rfl) rfl (by show 2 * 0 + _ ≤ _; exact Nat.le_of_eq rfl) (hb hby at_151) (fun _ _ => ⟨rfl, e21, (by decide : 5 + 0 ≤ _), (by decide : 19 + 0 ≤ _)⟩)
  dsimp only [Pt.U, Pt.locs, Pt.cells, Pt.slots] at X22 l22 y22 z22 st22 hQ22
  rw [l22, y22, z22] at X22
  obtain ⟨rfl, Nq22, e22⟩ := hQ22
  have N22 := Fr.app N21 Nq22
  obtain ⟨cl23, Ar23, cq23, S23, Nn23, Hh23, Gg23⟩ := V_out_19
  have hin23 : ¬ ((1 : Int32) < 0 ∨ cl23.slots.size ≤ ((1 : Int32)).toNatClampNeg) := inb_of S23 ⟨by decide, by decide⟩
  obtain ⟨T23, h23, X23, e23, W23, st23⟩ := stI X22 hx hZ e22 Ar23 (j := (1 : Int32)) hin23 (g := (mkF m 155 #[.val (.int p1), .val (.int p2), .val (.int p3), .val (.int d0), .val (.int d1), .val (.int d2), .val (.ref off), .val (.ref seg), .val (.ref out), .unset] [(.int (((own_ab d0 (1 : Int32)) + (own_ab d1 (1 : Int32))) + (own_ab d2 (1 : Int32)))), (.int (1 : Int32)), (.ref out)])) rfl rfl (hb hby at_155)
  have V_off_23 := V_off_19.other W23 ne_off_out
  have E_seg_23 := E_seg_19.wr W23
  have F_seg_length_23 := F_seg_length_19.other W23 (Or.inl ne_seg_out)
  have Z_23 := Nat.le_trans Z_19 (Keep.of_wr W23).1
  have N23 := Fr.snoc X23 N22 g_out
  have V_out_23 : Arv Z h23 out k15 .int (3 : Int32) [(.int (((own_ab d0 (0 : Int32)) + (own_ab d1 (0 : Int32))) + (own_ab d2 (0 : Int32)))), (.int (((own_ab d0 (1 : Int32)) + (own_ab d1 (1 : Int32))) + (own_ab d2 (1 : Int32)))), (.int (0 : Int32))] (.int (0 : Int32)) := Arv.set Ar23 cq23 S23 Nn23 Hh23 Gg23 rfl W23 1 rfl (Nat.le_of_ble_eq_true rfl)
  obtain ⟨_, _, ⟨T24, lo24, co24, so24⟩, -, X24, ⟨Lc24, hQ24, l24, y24, z24⟩, st24⟩ := Jvm.LawKit.callS X23 hx (y := (⟨"com/example/vexpi/vexpi/graph/LinkGraphGetInDegreePinLaw", "above", "(II)I"⟩ : MethodName)) hown (mvT hZ (hw _ (List.mem_of_getElem? (i := 46) rfl))) (mvT hZ (hw _ (List.mem_of_getElem? (i := 47) rfl))) (mvT hZ (hw _ (List.mem_of_getElem? (i := 30) rfl))) (mvT hZ (hw _ (List.mem_of_getElem? (i := 48) rfl))) (by decide) (backOf (W := 2) (Q := PQ (.int (own_ab d0 (2 : Int32))) h23 n0) (ab l Z a0 hw d0 (2 : Int32) h23 n0 Z_23) hZ (hw _ (List.mem_of_getElem? (i := 48) rfl)) (hw _ (List.mem_of_getElem? (i := 30) rfl)) (by decide) (by decide)) (g := (mkF m 161 #[.val (.int p1), .val (.int p2), .val (.int p3), .val (.int d0), .val (.int d1), .val (.int d2), .val (.ref off), .val (.ref seg), .val (.ref out), .unset] [(.int (2 : Int32)), (.int d0), (.int (2 : Int32)), (.ref out)])) rfl (by rw [hml]; rfl) (argsL := [(.int d0), (.int (2 : Int32))]) (rest := [(.int (2 : Int32)), (.ref out)]) (lenOf pd__II_I rfl) rfl (by show 2 * 0 + _ ≤ _; exact Nat.le_of_eq rfl) (hb hby at_161) (fun _ _ => ⟨rfl, e23, (by decide : 5 + 0 ≤ _), (by decide : 19 + 0 ≤ _)⟩)
  dsimp only [Pt.U, Pt.locs, Pt.cells, Pt.slots] at X24 l24 y24 z24 st24 hQ24
  rw [l24, y24, z24] at X24
  obtain ⟨rfl, Nq24, e24⟩ := hQ24
  have N24 := Fr.app N23 Nq24
  obtain ⟨_, _, ⟨T25, lo25, co25, so25⟩, -, X25, ⟨Lc25, hQ25, l25, y25, z25⟩, st25⟩ := Jvm.LawKit.callS X24 hx (y := (⟨"com/example/vexpi/vexpi/graph/LinkGraphGetInDegreePinLaw", "above", "(II)I"⟩ : MethodName)) hown (mvT hZ (hw _ (List.mem_of_getElem? (i := 46) rfl))) (mvT hZ (hw _ (List.mem_of_getElem? (i := 47) rfl))) (mvT hZ (hw _ (List.mem_of_getElem? (i := 30) rfl))) (mvT hZ (hw _ (List.mem_of_getElem? (i := 48) rfl))) (by decide) (backOf (W := 3) (Q := PQ (.int (own_ab d1 (2 : Int32))) h23 n0) (ab l Z a0 hw d1 (2 : Int32) h23 n0 Z_23) hZ (hw _ (List.mem_of_getElem? (i := 48) rfl)) (hw _ (List.mem_of_getElem? (i := 30) rfl)) (by decide) (by decide)) (g := (mkF m 167 #[.val (.int p1), .val (.int p2), .val (.int p3), .val (.int d0), .val (.int d1), .val (.int d2), .val (.ref off), .val (.ref seg), .val (.ref out), .unset] [(.int (2 : Int32)), (.int d1), (.int (own_ab d0 (2 : Int32))), (.int (2 : Int32)), (.ref out)])) rfl (by rw [hml]; rfl) (argsL := [(.int d1), (.int (2 : Int32))]) (rest := [(.int (own_ab d0 (2 : Int32))), (.int (2 : Int32)), (.ref out)]) (lenOf pd__II_I rfl) rfl (by show 2 * 0 + _ ≤ _; exact Nat.le_of_eq rfl) (hb hby at_167) (fun _ _ => ⟨rfl, e24, (by decide : 5 + 0 ≤ _), (by decide : 19 + 0 ≤ _)⟩)
  dsimp only [Pt.U, Pt.locs, Pt.cells, Pt.slots] at X25 l25 y25 z25 st25 hQ25
  rw [l25, y25, z25] at X25
  obtain ⟨rfl, Nq25, e25⟩ := hQ25
  have N25 := Fr.app N24 Nq25
  obtain ⟨_, _, ⟨T26, lo26, co26, so26⟩, -, X26, ⟨Lc26, hQ26, l26, y26, z26⟩, st26⟩ := Jvm.LawKit.callS X25 hx (y := (⟨"com/example/vexpi/vexpi/graph/LinkGraphGetInDegreePinLaw", "above", "(II)I"⟩ : MethodName)) hown (mvT hZ (hw _ (List.mem_of_getElem? (i := 46) rfl))) (mvT hZ (hw _ (List.mem_of_getElem? (i := 47) rfl))) (mvT hZ (hw _ (List.mem_of_getElem? (i := 30) rfl))) (mvT hZ (hw _ (List.mem_of_getElem? (i := 48) rfl))) (by decide) (backOf (W := 3) (Q := PQ (.int (own_ab d2 (2 : Int32))) h23 n0) (ab l Z a0 hw d2 (2 : Int32) h23 n0 Z_23) hZ (hw _ (List.mem_of_getElem? (i := 48) rfl)) (hw _ (List.mem_of_getElem? (i := 30) rfl)) (by decide) (by decide)) (g := (mkF m 174 #[.val (.int p1), .val (.int p2), .val (.int p3), .val (.int d0), .val (.int d1), .val (.int d2), .val (.ref off), .val (.ref seg), .val (.ref out), .unset] [(.int (2 : Int32)), (.int d2), (.int ((own_ab d0 (2 : Int32)) + (own_ab d1 (2 : Int32)))), (.int (2 : Int32)), (.ref out)])) rfl (by rw [hml]; rfl) (argsL := [(.int d2), (.int (2 : Int32))]) (rest := [(.int ((own_ab d0 (2 : Int32)) + (own_ab d1 (2 : Int32)))), (.int (2 : Int32)), (.ref out)]) (lenOf pd__II_I rfl) rfl (by show 2 * 0 + _ ≤ _; exact Nat.le_of_eq rfl) (hb hby at_174) (fun _ _ => ⟨rfl, e25, (by decide : 5 + 0 ≤ _), (by decide : 19 + 0 ≤ _)⟩)
  dsimp only [Pt.U, Pt.locs, Pt.cells, Pt.slots] at X26 l26 y26 z26 st26 hQ26
  rw [l26, y26, z26] at X26
  obtain ⟨rfl, Nq26, e26⟩ := hQ26
  have N26 := Fr.app N25 Nq26
  obtain ⟨cl27, Ar27, cq27, S27, Nn27, Hh27, Gg27⟩ := V_out_23
  have hin27 : ¬ ((2 : Int32) < 0 ∨ cl27.slots.size ≤ ((2 : Int32)).toNatClampNeg) := inb_of S27 ⟨by decide, by decide⟩
  obtain ⟨T27, h27, X27, e27, W27, st27⟩ := stI X26 hx hZ e26 Ar27 (j := (2 : Int32)) hin27 (g := (mkF m 178 #[.val (.int p1), .val (.int p2), .val (.int p3), .val (.int d0), .val (.int d1), .val (.int d2), .val (.ref off), .val (.ref seg), .val (.ref out), .unset] [(.int (((own_ab d0 (2 : Int32)) + (own_ab d1 (2 : Int32))) + (own_ab d2 (2 : Int32)))), (.int (2 : Int32)), (.ref out)])) rfl rfl (hb hby at_178)
  have V_off_27 := V_off_23.other W27 ne_off_out
  have E_seg_27 := E_seg_23.wr W27
  have F_seg_length_27 := F_seg_length_23.other W27 (Or.inl ne_seg_out)
  have Z_27 := Nat.le_trans Z_23 (Keep.of_wr W27).1
  have N27 := Fr.snoc X27 N26 g_out
  have V_out_27 : Arv Z h27 out k15 .int (3 : Int32) [(.int (((own_ab d0 (0 : Int32)) + (own_ab d1 (0 : Int32))) + (own_ab d2 (0 : Int32)))), (.int (((own_ab d0 (1 : Int32)) + (own_ab d1 (1 : Int32))) + (own_ab d2 (1 : Int32)))), (.int (((own_ab d0 (2 : Int32)) + (own_ab d1 (2 : Int32))) + (own_ab d2 (2 : Int32))))] (.int (0 : Int32)) := Arv.set Ar27 cq27 S27 Nn27 Hh27 Gg27 rfl W27 2 rfl (Nat.le_of_ble_eq_true rfl)
  obtain ⟨T28, h28, X28, e28, E28, A28, D28, -, st28⟩ := newO X27 hx hZ hown (hw _ (List.mem_of_getElem? (i := 49) rfl)) (hw _ (List.mem_of_getElem? (i := 50) rfl)) (hw _ (List.mem_of_getElem? (i := 51) rfl)) e27 (g := (mkF m 179 #[.val (.int p1), .val (.int p2), .val (.int p3), .val (.int d0), .val (.int d1), .val (.int d2), .val (.ref off), .val (.ref seg), .val (.ref out), .unset] [])) rfl (hb hby at_179) (by decide) (by decide)
  obtain ⟨g, g28⟩ : ∃ z, z = h27.size := ⟨_, rfl⟩
  rw [← g28] at A28 D28 st28
  have ne_off_g : off ≠ g := Nat.ne_of_lt (Nat.lt_of_lt_of_le V_off_27.lt (Nat.le_of_eq g28.symm))
  have ne_seg_g : seg ≠ g := Nat.ne_of_lt (Nat.lt_of_lt_of_le E_seg_27.lt (Nat.le_of_eq g28.symm))
  have ne_out_g : out ≠ g := Nat.ne_of_lt (Nat.lt_of_lt_of_le V_out_27.lt (Nat.le_of_eq g28.symm))
  have g_g : n0 ≤ g := Nat.le_trans Z_27 (Nat.le_of_eq g28.symm)
  have V_off_28 := V_off_27.ext E28
  have E_seg_28 := E_seg_27.ext E28
  have F_seg_length_28 := F_seg_length_27.ext E28
  have V_out_28 := V_out_27.ext E28
  have Z_28 := Nat.le_trans Z_27 E28.1
  have F_g_ids : Fld Z h28 g "com/example/vexpi/vexpi/graph/LinkGraph" "ids" "[J" .null := D28 (Or.inr (hw _ (List.mem_of_getElem? (i := 57) rfl))) (ty := (.array .long)) (by decide)
  have F_g_inOffsets : Fld Z h28 g "com/example/vexpi/vexpi/graph/LinkGraph" "inOffsets" "[J" .null := D28 (Or.inr (hw _ (List.mem_of_getElem? (i := 59) rfl))) (ty := (.array .long)) (by decide)
  have F_g_inSources : Fld Z h28 g "com/example/vexpi/vexpi/graph/LinkGraph" "inSources" "Lcom/example/vexpi/vexpi/graph/SegmentedIntArray;" .null := D28 (Or.inr (hw _ (List.mem_of_getElem? (i := 61) rfl))) (ty := (.object "com/example/vexpi/vexpi/graph/SegmentedIntArray")) (by decide)
  have F_g_outDegrees : Fld Z h28 g "com/example/vexpi/vexpi/graph/LinkGraph" "outDegrees" "[I" .null := D28 (Or.inr (hw _ (List.mem_of_getElem? (i := 63) rfl))) (ty := (.array .int)) (by decide)
  have F_g_danglingCount : Fld Z h28 g "com/example/vexpi/vexpi/graph/LinkGraph" "danglingCount" "I" (.int (0 : Int32)) := D28 (Or.inr (hw _ (List.mem_of_getElem? (i := 65) rfl))) (ty := .int) (by decide)
  obtain ⟨_, _, ⟨T29, lo29, co29, so29⟩, -, X29, ⟨Lc29, hQ29, l29, y29, z29⟩, st29⟩ := X28.specialBack hx (y := (⟨"com/example/vexpi/vexpi/graph/LinkGraph", "<init>", "([J[JLcom/example/vexpi/vexpi/graph/SegmentedIntArray;[I)V"⟩ : MethodName)) rfl hown (mvT hZ (hw _ (List.mem_of_getElem? (i := 52) rfl))) (mvT hZ (hw _ (List.mem_of_getElem? (i := 53) rfl))) (mvT hZ (hw _ (List.mem_of_getElem? (i := 54) rfl))) (by decide) (backOf (W := 1) (Q := Q10 Z g off seg h28 n0) (mk l Z a0 hw g off seg out k15 ((((own_ab d0 (0 : Int32)) + (own_ab d1 (0 : Int32))) + (own_ab d2 (0 : Int32)))) ((((own_ab d0 (1 : Int32)) + (own_ab d1 (1 : Int32))) + (own_ab d2 (1 : Int32)))) ((((own_ab d0 (2 : Int32)) + (own_ab d1 (2 : Int32))) + (own_ab d2 (2 : Int32)))) h28 n0 Z_28 A28 F_g_ids F_g_inOffsets F_g_inSources F_g_outDegrees F_g_danglingCount g_g ne_out_g V_out_28) hZ (hw _ (List.mem_of_getElem? (i := 54) rfl)) (hw _ (List.mem_of_getElem? (i := 51) rfl)) (by decide) (by decide)) (g := (mkF m 190 #[.val (.int p1), .val (.int p2), .val (.int p3), .val (.int d0), .val (.int d1), .val (.int d2), .val (.ref off), .val (.ref seg), .val (.ref out), .unset] [(.ref out), (.ref seg), (.ref off), .null, (.ref g), (.ref g)])) rfl (by rw [hml]; rfl) (Steps.refl _) (a := g) (argsL := [.null, (.ref off), (.ref seg), (.ref out)]) (rest := [(.ref g)]) (lenOf pd___J_JLcom_example_vexpi_vexpi_graph_SegmentedIntArray__I_V rfl) rfl (by show 2 * 0 + _ ≤ _; exact Nat.le_of_eq rfl) (hb hby at_190) (fun _ _ => ⟨rfl, e28, (by decide : 6 + 0 ≤ _), (by decide : 24 + 0 ≤ _)⟩)
  dsimp only [Pt.U, Pt.locs, Pt.cells, Pt.slots] at X29 l29 y29 z29 st29 hQ29
  rw [l29, y29, z29] at X29
  obtain ⟨rfl, Nq29, hQ29⟩ := hQ29
  have N29 := Fr.app N27 Nq29
  obtain ⟨K29, Eg29, Fo29, Fs29⟩ := hQ29
  have V_off_29 := V_off_28.keep K29 (ninS ne_off_g nin0)
  have E_seg_29 := E_seg_28.keep K29
  have F_seg_length_29 := F_seg_length_28.keep K29 (ninS ne_seg_g nin0)
  have V_out_29 := V_out_28.keep K29 (ninS ne_out_g nin0)
  have Z_29 := Nat.le_trans Z_28 K29.1
  obtain ⟨cq30, kq30, q30a, q30b, q30c⟩ := isOf hZ rfl Eg29
  obtain ⟨_, _, ⟨T30, lo30, co30, so30⟩, -, X30, ⟨Lc30, hQ30, l30, y30, z30⟩, st30⟩ := X29.virtualBack hx (y := (⟨"com/example/vexpi/vexpi/graph/LinkGraph", "getInDegree", "(I)I"⟩ : MethodName)) (z := (⟨"com/example/vexpi/vexpi/graph/LinkGraph", "getInDegree", "(I)I"⟩ : MethodName)) hown (mvT hZ (hw _ (List.mem_of_getElem? (i := 66) rfl))) (mvT hZ (hw _ (List.mem_of_getElem? (i := 67) rfl))) (notFace_of_selects (args := #[]) (mvT hZ (hw _ (List.mem_of_getElem? (i := 69) rfl)))) (mvT hZ (hw _ (List.mem_of_getElem? (i := 69) rfl))) (mvT hZ (hw _ (List.mem_of_getElem? (i := 68) rfl))) (by decide) (backOf (W := 0) (Q := PQ (.int (((d0.toInt64) - (0 : Int64)).toInt32)) T29.heap n0) (deg_0 l Z a0 hw g off k1 (d0.toInt64) ((d0 + d1).toInt64) (((d0 + d1) + d2).toInt64) T29.heap n0 Z_29 Fo29 V_off_29) hZ (hw _ (List.mem_of_getElem? (i := 70) rfl)) (hw _ (List.mem_of_getElem? (i := 51) rfl)) (by decide) (by decide)) q30a q30c (g := (mkF m 198 #[.val (.int p1), .val (.int p2), .val (.int p3), .val (.int d0), .val (.int d1), .val (.int d2), .val (.ref off), .val (.ref seg), .val (.ref out), .val (.ref g)] [(.int (0 : Int32)), (.ref g)])) rfl (by rw [hml]; rfl) (Steps.refl _) (argsL := [(.int (0 : Int32))]) (rest := []) (lenOf pd__I_I rfl) rfl (by show 2 * 0 + _ ≤ _; exact Nat.le_of_eq rfl) (hb hby at_198) (fun _ _ => ⟨rfl, rfl, (by decide : 6 + 0 ≤ _), (by decide : 24 + 0 ≤ _)⟩)
  dsimp only [Pt.U, Pt.locs, Pt.cells, Pt.slots] at X30 l30 y30 z30 st30 hQ30
  rw [l30, y30, z30] at X30
  obtain ⟨rfl, Nq30, e30⟩ := hQ30
  have N30 := Fr.app N29 Nq30
  obtain ⟨cq31, kq31, q31a, q31b, q31c⟩ := isOf hZ e30 Eg29
  obtain ⟨_, _, ⟨T31, lo31, co31, so31⟩, -, X31, ⟨Lc31, hQ31, l31, y31, z31⟩, st31⟩ := X30.virtualBack hx (y := (⟨"com/example/vexpi/vexpi/graph/LinkGraph", "getInDegree", "(I)I"⟩ : MethodName)) (z := (⟨"com/example/vexpi/vexpi/graph/LinkGraph", "getInDegree", "(I)I"⟩ : MethodName)) hown (mvT hZ (hw _ (List.mem_of_getElem? (i := 66) rfl))) (mvT hZ (hw _ (List.mem_of_getElem? (i := 67) rfl))) (notFace_of_selects (args := #[]) (mvT hZ (hw _ (List.mem_of_getElem? (i := 69) rfl)))) (mvT hZ (hw _ (List.mem_of_getElem? (i := 69) rfl))) (mvT hZ (hw _ (List.mem_of_getElem? (i := 68) rfl))) (by decide) (backOf (W := 0) (Q := PQ (.int ((((d0 + d1).toInt64) - (d0.toInt64)).toInt32)) T29.heap n0) (deg_1 l Z a0 hw g off k1 (d0.toInt64) ((d0 + d1).toInt64) (((d0 + d1) + d2).toInt64) T29.heap n0 Z_29 Fo29 V_off_29) hZ (hw _ (List.mem_of_getElem? (i := 70) rfl)) (hw _ (List.mem_of_getElem? (i := 51) rfl)) (by decide) (by decide)) q31a q31c (g := (mkF m 208 #[.val (.int p1), .val (.int p2), .val (.int p3), .val (.int d0), .val (.int d1), .val (.int d2), .val (.ref off), .val (.ref seg), .val (.ref out), .val (.ref g)] [(.int (1 : Int32)), (.ref g)])) rfl (by rw [hml]; rfl) (Steps.refl _) (argsL := [(.int (1 : Int32))]) (rest := []) (lenOf pd__I_I rfl) rfl (by show 2 * 0 + _ ≤ _; exact Nat.le_of_eq rfl) (hb hby at_208) (fun _ _ => ⟨rfl, e30, (by decide : 6 + 0 ≤ _), (by decide : 24 + 0 ≤ _)⟩)
  dsimp only [Pt.U, Pt.locs, Pt.cells, Pt.slots] at X31 l31 y31 z31 st31 hQ31
  rw [l31, y31, z31] at X31
  obtain ⟨rfl, Nq31, e31⟩ := hQ31
  have N31 := Fr.app N30 Nq31
  obtain ⟨cq32, kq32, q32a, q32b, q32c⟩ := isOf hZ e31 Eg29
  obtain ⟨_, _, ⟨T32, lo32, co32, so32⟩, -, X32, ⟨Lc32, hQ32, l32, y32, z32⟩, st32⟩ := X31.virtualBack hx (y := (⟨"com/example/vexpi/vexpi/graph/LinkGraph", "getInDegree", "(I)I"⟩ : MethodName)) (z := (⟨"com/example/vexpi/vexpi/graph/LinkGraph", "getInDegree", "(I)I"⟩ : MethodName)) hown (mvT hZ (hw _ (List.mem_of_getElem? (i := 66) rfl))) (mvT hZ (hw _ (List.mem_of_getElem? (i := 67) rfl))) (notFace_of_selects (args := #[]) (mvT hZ (hw _ (List.mem_of_getElem? (i := 69) rfl)))) (mvT hZ (hw _ (List.mem_of_getElem? (i := 69) rfl))) (mvT hZ (hw _ (List.mem_of_getElem? (i := 68) rfl))) (by decide) (backOf (W := 0) (Q := PQ (.int (((((d0 + d1) + d2).toInt64) - ((d0 + d1).toInt64)).toInt32)) T29.heap n0) (deg_2 l Z a0 hw g off k1 (d0.toInt64) ((d0 + d1).toInt64) (((d0 + d1) + d2).toInt64) T29.heap n0 Z_29 Fo29 V_off_29) hZ (hw _ (List.mem_of_getElem? (i := 70) rfl)) (hw _ (List.mem_of_getElem? (i := 51) rfl)) (by decide) (by decide)) q32a q32c (g := (mkF m 219 #[.val (.int p1), .val (.int p2), .val (.int p3), .val (.int d0), .val (.int d1), .val (.int d2), .val (.ref off), .val (.ref seg), .val (.ref out), .val (.ref g)] [(.int (2 : Int32)), (.ref g)])) rfl (by rw [hml]; rfl) (Steps.refl _) (argsL := [(.int (2 : Int32))]) (rest := []) (lenOf pd__I_I rfl) rfl (by show 2 * 0 + _ ≤ _; exact Nat.le_of_eq rfl) (hb hby at_219) (fun _ _ => ⟨rfl, e31, (by decide : 6 + 0 ≤ _), (by decide : 24 + 0 ≤ _)⟩)
  dsimp only [Pt.U, Pt.locs, Pt.cells, Pt.slots] at X32 l32 y32 z32 st32 hQ32
  rw [l32, y32, z32] at X32
  obtain ⟨rfl, Nq32, e32⟩ := hQ32
  have N32 := Fr.app N31 Nq32
  obtain ⟨cq33, kq33, q33a, q33b, q33c⟩ := isOf hZ e32 Eg29
  obtain ⟨_, _, ⟨T33, lo33, co33, so33⟩, -, X33, ⟨Lc33, hQ33, l33, y33, z33⟩, st33⟩ := X32.virtualBack hx (y := (⟨"com/example/vexpi/vexpi/graph/LinkGraph", "getLinkCount", "()J"⟩ : MethodName)) (z := (⟨"com/example/vexpi/vexpi/graph/LinkGraph", "getLinkCount", "()J"⟩ : MethodName)) hown (mvT hZ (hw _ (List.mem_of_getElem? (i := 71) rfl))) (mvT hZ (hw _ (List.mem_of_getElem? (i := 72) rfl))) (notFace_of_selects (args := #[]) (mvT hZ (hw _ (List.mem_of_getElem? (i := 74) rfl)))) (mvT hZ (hw _ (List.mem_of_getElem? (i := 74) rfl))) (mvT hZ (hw _ (List.mem_of_getElem? (i := 73) rfl))) (by decide) (backOf (W := 0) (Q := PQ (.long (((d0 + d1) + d2).toInt64)) T29.heap n0) (cnt l Z a0 hw g seg (((d0 + d1) + d2).toInt64) T29.heap n0 Z_29 Fs29 E_seg_29 F_seg_length_29) hZ (hw _ (List.mem_of_getElem? (i := 75) rfl)) (hw _ (List.mem_of_getElem? (i := 51) rfl)) (by decide) (by decide)) q33a q33c (g := (mkF m 229 #[.val (.int p1), .val (.int p2), .val (.int p3), .val (.int d0), .val (.int d1), .val (.int d2), .val (.ref off), .val (.ref seg), .val (.ref out), .val (.ref g)] [(.ref g)])) rfl (by rw [hml]; rfl) (Steps.refl _) (argsL := []) (rest := []) (lenOf pd___J rfl) rfl (by show 2 * 0 + _ ≤ _; exact Nat.le_of_eq rfl) (hb hby at_229) (fun _ _ => ⟨rfl, e32, (by decide : 6 + 0 ≤ _), (by decide : 24 + 0 ≤ _)⟩)
  dsimp only [Pt.U, Pt.locs, Pt.cells, Pt.slots] at X33 l33 y33 z33 st33 hQ33
  rw [l33, y33, z33] at X33
  obtain ⟨rfl, Nq33, e33⟩ := hQ33
  have N33 := Fr.app N32 Nq33
  obtain ⟨fs, hr, hrun, hended, hW, hsame⟩ := X33.leave (v := some (.int (1 : Int32))) (fun h => by rw [Bd.returns] at h; cases h)
  refine ⟨_, _, pre0 _ ?_, hrun, hended, _, _, rfl, ?_, ⟨_, rfl⟩, hW, hsame.mono (by decide) (by decide)⟩
  · show Steps p.tables e below (s₁.setTop (mkF m 0 #[.val (.int p1), .val (.int p2), .val (.int p3), .unset, .unset, .unset, .unset, .unset, .unset, .unset] [])) _
    refine XS.iloadN X0.here hx rfl (hb hby at_0) rfl ?_
    show Steps p.tables e below (s₁.setTop (mkF m 1 #[.val (.int p1), .val (.int p2), .val (.int p3), .unset, .unset, .unset, .unset, .unset, .unset, .unset] [(.int p1)])) _
    refine X0.ldcI hx hown (mvT hZ (hw _ (List.mem_of_getElem? (i := 0) rfl))) (g := (mkF m 1 #[.val (.int p1), .val (.int p2), .val (.int p3), .unset, .unset, .unset, .unset, .unset, .unset, .unset] [(.int p1)])) rfl (hb hby at_1) ?_
    show Steps p.tables e below (s₁.setTop (mkF m 3 #[.val (.int p1), .val (.int p2), .val (.int p3), .unset, .unset, .unset, .unset, .unset, .unset, .unset] [(.int (2147483647 : Int32)), (.int p1)])) _
    refine XS.iand X0.here hx rfl (hb hby at_3) rfl ?_
    show Steps p.tables e below (s₁.setTop (mkF m 4 #[.val (.int p1), .val (.int p2), .val (.int p3), .unset, .unset, .unset, .unset, .unset, .unset, .unset] [(.int (p1 &&& (2147483647 : Int32)))])) _
    refine XS.iconst X0.here hx rfl (hb hby at_4) ?_
    show Steps p.tables e below (s₁.setTop (mkF m 5 #[.val (.int p1), .val (.int p2), .val (.int p3), .unset, .unset, .unset, .unset, .unset, .unset, .unset] [(.int (4 : Int32)), (.int (p1 &&& (2147483647 : Int32)))])) _
    refine iremM (g := (mkF m 5 #[.val (.int p1), .val (.int p2), .val (.int p3), .unset, .unset, .unset, .unset, .unset, .unset, .unset] [(.int (4 : Int32)), (.int (p1 &&& (2147483647 : Int32)))])) X0 hx rfl (hb hby at_5) rfl (by decide) ?_
    show Steps p.tables e below (s₁.setTop (mkF m 6 #[.val (.int p1), .val (.int p2), .val (.int p3), .unset, .unset, .unset, .unset, .unset, .unset, .unset] [(.int ((p1 &&& (2147483647 : Int32)) % (4 : Int32)))])) _
    rw [hi0]
    show Steps p.tables e below (s₁.setTop (mkF m 6 #[.val (.int p1), .val (.int p2), .val (.int p3), .unset, .unset, .unset, .unset, .unset, .unset, .unset] [(.int d0)])) _
    refine XS.istoreN X0.here hx rfl (hb hby at_6) rfl (l' := #[.val (.int p1), .val (.int p2), .val (.int p3), .val (.int d0), .unset, .unset, .unset, .unset, .unset, .unset]) rfl ?_
    show Steps p.tables e below (s₁.setTop (mkF m 7 #[.val (.int p1), .val (.int p2), .val (.int p3), .val (.int d0), .unset, .unset, .unset, .unset, .unset, .unset] [])) _
    refine XS.iloadN X0.here hx rfl (hb hby at_7) rfl ?_
    show Steps p.tables e below (s₁.setTop (mkF m 8 #[.val (.int p1), .val (.int p2), .val (.int p3), .val (.int d0), .unset, .unset, .unset, .unset, .unset, .unset] [(.int p2)])) _
    refine X0.ldcI hx hown (mvT hZ (hw _ (List.mem_of_getElem? (i := 0) rfl))) (g := (mkF m 8 #[.val (.int p1), .val (.int p2), .val (.int p3), .val (.int d0), .unset, .unset, .unset, .unset, .unset, .unset] [(.int p2)])) rfl (hb hby at_8) ?_
    show Steps p.tables e below (s₁.setTop (mkF m 10 #[.val (.int p1), .val (.int p2), .val (.int p3), .val (.int d0), .unset, .unset, .unset, .unset, .unset, .unset] [(.int (2147483647 : Int32)), (.int p2)])) _
    refine XS.iand X0.here hx rfl (hb hby at_10) rfl ?_
    show Steps p.tables e below (s₁.setTop (mkF m 11 #[.val (.int p1), .val (.int p2), .val (.int p3), .val (.int d0), .unset, .unset, .unset, .unset, .unset, .unset] [(.int (p2 &&& (2147483647 : Int32)))])) _
    refine XS.iconst X0.here hx rfl (hb hby at_11) ?_
    show Steps p.tables e below (s₁.setTop (mkF m 12 #[.val (.int p1), .val (.int p2), .val (.int p3), .val (.int d0), .unset, .unset, .unset, .unset, .unset, .unset] [(.int (4 : Int32)), (.int (p2 &&& (2147483647 : Int32)))])) _
    refine iremM (g := (mkF m 12 #[.val (.int p1), .val (.int p2), .val (.int p3), .val (.int d0), .unset, .unset, .unset, .unset, .unset, .unset] [(.int (4 : Int32)), (.int (p2 &&& (2147483647 : Int32)))])) X0 hx rfl (hb hby at_12) rfl (by decide) ?_
    show Steps p.tables e below (s₁.setTop (mkF m 13 #[.val (.int p1), .val (.int p2), .val (.int p3), .val (.int d0), .unset, .unset, .unset, .unset, .unset, .unset] [(.int ((p2 &&& (2147483647 : Int32)) % (4 : Int32)))])) _
    rw [hi1]
    show Steps p.tables e below (s₁.setTop (mkF m 13 #[.val (.int p1), .val (.int p2), .val (.int p3), .val (.int d0), .unset, .unset, .unset, .unset, .unset, .unset] [(.int d1)])) _
    refine XS.istore X0.here hx rfl (hb hby at_13) rfl (l' := #[.val (.int p1), .val (.int p2), .val (.int p3), .val (.int d0), .val (.int d1), .unset, .unset, .unset, .unset, .unset]) rfl ?_
    show Steps p.tables e below (s₁.setTop (mkF m 15 #[.val (.int p1), .val (.int p2), .val (.int p3), .val (.int d0), .val (.int d1), .unset, .unset, .unset, .unset, .unset] [])) _
    refine XS.iloadN X0.here hx rfl (hb hby at_15) rfl ?_
    show Steps p.tables e below (s₁.setTop (mkF m 16 #[.val (.int p1), .val (.int p2), .val (.int p3), .val (.int d0), .val (.int d1), .unset, .unset, .unset, .unset, .unset] [(.int p3)])) _
    refine X0.ldcI hx hown (mvT hZ (hw _ (List.mem_of_getElem? (i := 0) rfl))) (g := (mkF m 16 #[.val (.int p1), .val (.int p2), .val (.int p3), .val (.int d0), .val (.int d1), .unset, .unset, .unset, .unset, .unset] [(.int p3)])) rfl (hb hby at_16) ?_
    show Steps p.tables e below (s₁.setTop (mkF m 18 #[.val (.int p1), .val (.int p2), .val (.int p3), .val (.int d0), .val (.int d1), .unset, .unset, .unset, .unset, .unset] [(.int (2147483647 : Int32)), (.int p3)])) _
    refine XS.iand X0.here hx rfl (hb hby at_18) rfl ?_
    show Steps p.tables e below (s₁.setTop (mkF m 19 #[.val (.int p1), .val (.int p2), .val (.int p3), .val (.int d0), .val (.int d1), .unset, .unset, .unset, .unset, .unset] [(.int (p3 &&& (2147483647 : Int32)))])) _
    refine XS.iconst X0.here hx rfl (hb hby at_19) ?_
    show Steps p.tables e below (s₁.setTop (mkF m 20 #[.val (.int p1), .val (.int p2), .val (.int p3), .val (.int d0), .val (.int d1), .unset, .unset, .unset, .unset, .unset] [(.int (4 : Int32)), (.int (p3 &&& (2147483647 : Int32)))])) _
    refine iremM (g := (mkF m 20 #[.val (.int p1), .val (.int p2), .val (.int p3), .val (.int d0), .val (.int d1), .unset, .unset, .unset, .unset, .unset] [(.int (4 : Int32)), (.int (p3 &&& (2147483647 : Int32)))])) X0 hx rfl (hb hby at_20) rfl (by decide) ?_
    show Steps p.tables e below (s₁.setTop (mkF m 21 #[.val (.int p1), .val (.int p2), .val (.int p3), .val (.int d0), .val (.int d1), .unset, .unset, .unset, .unset, .unset] [(.int ((p3 &&& (2147483647 : Int32)) % (4 : Int32)))])) _
    rw [hi2]
    show Steps p.tables e below (s₁.setTop (mkF m 21 #[.val (.int p1), .val (.int p2), .val (.int p3), .val (.int d0), .val (.int d1), .unset, .unset, .unset, .unset, .unset] [(.int d2)])) _
    refine XS.istore X0.here hx rfl (hb hby at_21) rfl (l' := #[.val (.int p1), .val (.int p2), .val (.int p3), .val (.int d0), .val (.int d1), .val (.int d2), .unset, .unset, .unset, .unset]) rfl ?_
    show Steps p.tables e below (s₁.setTop (mkF m 23 #[.val (.int p1), .val (.int p2), .val (.int p3), .val (.int d0), .val (.int d1), .val (.int d2), .unset, .unset, .unset, .unset] [])) _
    refine XS.iconst X0.here hx rfl (hb hby at_23) ?_
    show Steps p.tables e below (s₁.setTop (mkF m 24 #[.val (.int p1), .val (.int p2), .val (.int p3), .val (.int d0), .val (.int d1), .val (.int d2), .unset, .unset, .unset, .unset] [(.int (4 : Int32))])) _
    refine st1 _ ?_
    show Steps p.tables e below (T1.setTop (mkF m 26 #[.val (.int p1), .val (.int p2), .val (.int p3), .val (.int d0), .val (.int d1), .val (.int d2), .unset, .unset, .unset, .unset] [(.ref off)])) _
    refine XS.astore X1.here hx rfl (hb hby at_26) rfl rfl (l' := #[.val (.int p1), .val (.int p2), .val (.int p3), .val (.int d0), .val (.int d1), .val (.int d2), .val (.ref off), .unset, .unset, .unset]) rfl ?_
    show Steps p.tables e below (T1.setTop (mkF m 28 #[.val (.int p1), .val (.int p2), .val (.int p3), .val (.int d0), .val (.int d1), .val (.int d2), .val (.ref off), .unset, .unset, .unset] [])) _
    refine XS.aload X1.here hx rfl (hb hby at_28) rfl rfl ?_
    show Steps p.tables e below (T1.setTop (mkF m 30 #[.val (.int p1), .val (.int p2), .val (.int p3), .val (.int d0), .val (.int d1), .val (.int d2), .val (.ref off), .unset, .unset, .unset] [(.ref off)])) _
    refine XS.iconst X1.here hx rfl (hb hby at_30) ?_
    show Steps p.tables e below (T1.setTop (mkF m 31 #[.val (.int p1), .val (.int p2), .val (.int p3), .val (.int d0), .val (.int d1), .val (.int d2), .val (.ref off), .unset, .unset, .unset] [(.int (0 : Int32)), (.ref off)])) _
    refine XS.lconst X1.here hx rfl (hb hby at_31) ?_
    show Steps p.tables e below (T1.setTop (mkF m 32 #[.val (.int p1), .val (.int p2), .val (.int p3), .val (.int d0), .val (.int d1), .val (.int d2), .val (.ref off), .unset, .unset, .unset] [(.long (0 : Int64)), (.int (0 : Int32)), (.ref off)])) _
    refine st2 _ ?_
    show Steps p.tables e below (T2.setTop (mkF m 33 #[.val (.int p1), .val (.int p2), .val (.int p3), .val (.int d0), .val (.int d1), .val (.int d2), .val (.ref off), .unset, .unset, .unset] [])) _
    refine XS.aload X2.here hx rfl (hb hby at_33) rfl rfl ?_
    show Steps p.tables e below (T2.setTop (mkF m 35 #[.val (.int p1), .val (.int p2), .val (.int p3), .val (.int d0), .val (.int d1), .val (.int d2), .val (.ref off), .unset, .unset, .unset] [(.ref off)])) _
    refine XS.iconst X2.here hx rfl (hb hby at_35) ?_
    show Steps p.tables e below (T2.setTop (mkF m 36 #[.val (.int p1), .val (.int p2), .val (.int p3), .val (.int d0), .val (.int d1), .val (.int d2), .val (.ref off), .unset, .unset, .unset] [(.int (1 : Int32)), (.ref off)])) _
    refine XS.iloadN X2.here hx rfl (hb hby at_36) rfl ?_
    show Steps p.tables e below (T2.setTop (mkF m 37 #[.val (.int p1), .val (.int p2), .val (.int p3), .val (.int d0), .val (.int d1), .val (.int d2), .val (.ref off), .unset, .unset, .unset] [(.int d0), (.int (1 : Int32)), (.ref off)])) _
    refine XS.i2l X2.here hx rfl (hb hby at_37) rfl ?_
    show Steps p.tables e below (T2.setTop (mkF m 38 #[.val (.int p1), .val (.int p2), .val (.int p3), .val (.int d0), .val (.int d1), .val (.int d2), .val (.ref off), .unset, .unset, .unset] [(.long (d0.toInt64)), (.int (1 : Int32)), (.ref off)])) _
    refine st3 _ ?_
    show Steps p.tables e below (T3.setTop (mkF m 39 #[.val (.int p1), .val (.int p2), .val (.int p3), .val (.int d0), .val (.int d1), .val (.int d2), .val (.ref off), .unset, .unset, .unset] [])) _
    refine XS.aload X3.here hx rfl (hb hby at_39) rfl rfl ?_
    show Steps p.tables e below (T3.setTop (mkF m 41 #[.val (.int p1), .val (.int p2), .val (.int p3), .val (.int d0), .val (.int d1), .val (.int d2), .val (.ref off), .unset, .unset, .unset] [(.ref off)])) _
    refine XS.iconst X3.here hx rfl (hb hby at_41) ?_
    show Steps p.tables e below (T3.setTop (mkF m 42 #[.val (.int p1), .val (.int p2), .val (.int p3), .val (.int d0), .val (.int d1), .val (.int d2), .val (.ref off), .unset, .unset, .unset] [(.int (2 : Int32)), (.ref off)])) _
    refine XS.iloadN X3.here hx rfl (hb hby at_42) rfl ?_
    show Steps p.tables e below (T3.setTop (mkF m 43 #[.val (.int p1), .val (.int p2), .val (.int p3), .val (.int d0), .val (.int d1), .val (.int d2), .val (.ref off), .unset, .unset, .unset] [(.int d0), (.int (2 : Int32)), (.ref off)])) _
    refine XS.iload X3.here hx rfl (hb hby at_43) rfl ?_
    show Steps p.tables e below (T3.setTop (mkF m 45 #[.val (.int p1), .val (.int p2), .val (.int p3), .val (.int d0), .val (.int d1), .val (.int d2), .val (.ref off), .unset, .unset, .unset] [(.int d1), (.int d0), (.int (2 : Int32)), (.ref off)])) _
    refine XS.iadd X3.here hx rfl (hb hby at_45) rfl ?_
    show Steps p.tables e below (T3.setTop (mkF m 46 #[.val (.int p1), .val (.int p2), .val (.int p3), .val (.int d0), .val (.int d1), .val (.int d2), .val (.ref off), .unset, .unset, .unset] [(.int (d0 + d1)), (.int (2 : Int32)), (.ref off)])) _
    refine XS.i2l X3.here hx rfl (hb hby at_46) rfl ?_
    show Steps p.tables e below (T3.setTop (mkF m 47 #[.val (.int p1), .val (.int p2), .val (.int p3), .val (.int d0), .val (.int d1), .val (.int d2), .val (.ref off), .unset, .unset, .unset] [(.long ((d0 + d1).toInt64)), (.int (2 : Int32)), (.ref off)])) _
    refine st4 _ ?_
    show Steps p.tables e below (T4.setTop (mkF m 48 #[.val (.int p1), .val (.int p2), .val (.int p3), .val (.int d0), .val (.int d1), .val (.int d2), .val (.ref off), .unset, .unset, .unset] [])) _
    refine XS.aload X4.here hx rfl (hb hby at_48) rfl rfl ?_
    show Steps p.tables e below (T4.setTop (mkF m 50 #[.val (.int p1), .val (.int p2), .val (.int p3), .val (.int d0), .val (.int d1), .val (.int d2), .val (.ref off), .unset, .unset, .unset] [(.ref off)])) _
    refine XS.iconst X4.here hx rfl (hb hby at_50) ?_
    show Steps p.tables e below (T4.setTop (mkF m 51 #[.val (.int p1), .val (.int p2), .val (.int p3), .val (.int d0), .val (.int d1), .val (.int d2), .val (.ref off), .unset, .unset, .unset] [(.int (3 : Int32)), (.ref off)])) _
    refine XS.iloadN X4.here hx rfl (hb hby at_51) rfl ?_
    show Steps p.tables e below (T4.setTop (mkF m 52 #[.val (.int p1), .val (.int p2), .val (.int p3), .val (.int d0), .val (.int d1), .val (.int d2), .val (.ref off), .unset, .unset, .unset] [(.int d0), (.int (3 : Int32)), (.ref off)])) _
    refine XS.iload X4.here hx rfl (hb hby at_52) rfl ?_
    show Steps p.tables e below (T4.setTop (mkF m 54 #[.val (.int p1), .val (.int p2), .val (.int p3), .val (.int d0), .val (.int d1), .val (.int d2), .val (.ref off), .unset, .unset, .unset] [(.int d1), (.int d0), (.int (3 : Int32)), (.ref off)])) _
    refine XS.iadd X4.here hx rfl (hb hby at_54) rfl ?_
    show Steps p.tables e below (T4.setTop (mkF m 55 #[.val (.int p1), .val (.int p2), .val (.int p3), .val (.int d0), .val (.int d1), .val (.int d2), .val (.ref off), .unset, .unset, .unset] [(.int (d0 + d1)), (.int (3 : Int32)), (.ref off)])) _
    refine XS.iload X4.here hx rfl (hb hby at_55) rfl ?_
    show Steps p.tables e below (T4.setTop (mkF m 57 #[.val (.int p1), .val (.int p2), .val (.int p3), .val (.int d0), .val (.int d1), .val (.int d2), .val (.ref off), .unset, .unset, .unset] [(.int d2), (.int (d0 + d1)), (.int (3 : Int32)), (.ref off)])) _
    refine XS.iadd X4.here hx rfl (hb hby at_57) rfl ?_
    show Steps p.tables e below (T4.setTop (mkF m 58 #[.val (.int p1), .val (.int p2), .val (.int p3), .val (.int d0), .val (.int d1), .val (.int d2), .val (.ref off), .unset, .unset, .unset] [(.int ((d0 + d1) + d2)), (.int (3 : Int32)), (.ref off)])) _
    refine XS.i2l X4.here hx rfl (hb hby at_58) rfl ?_
    show Steps p.tables e below (T4.setTop (mkF m 59 #[.val (.int p1), .val (.int p2), .val (.int p3), .val (.int d0), .val (.int d1), .val (.int d2), .val (.ref off), .unset, .unset, .unset] [(.long (((d0 + d1) + d2).toInt64)), (.int (3 : Int32)), (.ref off)])) _
    refine st5 _ ?_
    show Steps p.tables e below (T5.setTop (mkF m 60 #[.val (.int p1), .val (.int p2), .val (.int p3), .val (.int d0), .val (.int d1), .val (.int d2), .val (.ref off), .unset, .unset, .unset] [])) _
    refine st6 _ ?_
    show Steps p.tables e below (T6.setTop (mkF m 63 #[.val (.int p1), .val (.int p2), .val (.int p3), .val (.int d0), .val (.int d1), .val (.int d2), .val (.ref off), .unset, .unset, .unset] [(.ref seg)])) _
    refine XS.dup X6.here hx rfl (hb hby at_63) rfl rfl ?_
    show Steps p.tables e below (T6.setTop (mkF m 64 #[.val (.int p1), .val (.int p2), .val (.int p3), .val (.int d0), .val (.int d1), .val (.int d2), .val (.ref off), .unset, .unset, .unset] [(.ref seg), (.ref seg)])) _
    refine XS.aload X6.here hx rfl (hb hby at_64) rfl rfl ?_
    show Steps p.tables e below (T6.setTop (mkF m 66 #[.val (.int p1), .val (.int p2), .val (.int p3), .val (.int d0), .val (.int d1), .val (.int d2), .val (.ref off), .unset, .unset, .unset] [(.ref off), (.ref seg), (.ref seg)])) _
    refine XS.iconst X6.here hx rfl (hb hby at_66) ?_
    show Steps p.tables e below (T6.setTop (mkF m 67 #[.val (.int p1), .val (.int p2), .val (.int p3), .val (.int d0), .val (.int d1), .val (.int d2), .val (.ref off), .unset, .unset, .unset] [(.int (3 : Int32)), (.ref off), (.ref seg), (.ref seg)])) _
    refine X6.laload hx (j := (3 : Int32)) (v := (.long (((d0 + d1) + d2).toInt64))) (by rw [e6]; exact Ar7.1) (State.isArrayOf_alike hZ.alike Ar7.2.1) Ar7.2.2 hin7 hat7 (g := (mkF m 67 #[.val (.int p1), .val (.int p2), .val (.int p3), .val (.int d0), .val (.int d1), .val (.int d2), .val (.ref off), .unset, .unset, .unset] [(.int (3 : Int32)), (.ref off), (.ref seg), (.ref seg)])) rfl rfl (hb hby at_67) _ ?_
    show Steps p.tables e below (T6.setTop (mkF m 68 #[.val (.int p1), .val (.int p2), .val (.int p3), .val (.int d0), .val (.int d1), .val (.int d2), .val (.ref off), .unset, .unset, .unset] [(.long (((d0 + d1) + d2).toInt64)), (.ref seg), (.ref seg)])) _
    refine st8.trans ?_
    show Steps p.tables e below (T8.setTop (mkF m 71 #[.val (.int p1), .val (.int p2), .val (.int p3), .val (.int d0), .val (.int d1), .val (.int d2), .val (.ref off), .unset, .unset, .unset] [(.ref seg)])) _
    refine XS.astore X8.here hx rfl (hb hby at_71) rfl rfl (l' := #[.val (.int p1), .val (.int p2), .val (.int p3), .val (.int d0), .val (.int d1), .val (.int d2), .val (.ref off), .val (.ref seg), .unset, .unset]) rfl ?_
    show Steps p.tables e below (T8.setTop (mkF m 73 #[.val (.int p1), .val (.int p2), .val (.int p3), .val (.int d0), .val (.int d1), .val (.int d2), .val (.ref off), .val (.ref seg), .unset, .unset] [])) _
    refine XS.aload X8.here hx rfl (hb hby at_73) rfl rfl ?_
    show Steps p.tables e below (T8.setTop (mkF m 75 #[.val (.int p1), .val (.int p2), .val (.int p3), .val (.int d0), .val (.int d1), .val (.int d2), .val (.ref off), .val (.ref seg), .unset, .unset] [(.ref seg)])) _
    refine XS.aload X8.here hx rfl (hb hby at_75) rfl rfl ?_
    show Steps p.tables e below (T8.setTop (mkF m 77 #[.val (.int p1), .val (.int p2), .val (.int p3), .val (.int d0), .val (.int d1), .val (.int d2), .val (.ref off), .val (.ref seg), .unset, .unset] [(.ref off), (.ref seg)])) _
    refine XS.iconst X8.here hx rfl (hb hby at_77) ?_
    show Steps p.tables e below (T8.setTop (mkF m 78 #[.val (.int p1), .val (.int p2), .val (.int p3), .val (.int d0), .val (.int d1), .val (.int d2), .val (.ref off), .val (.ref seg), .unset, .unset] [(.int (0 : Int32)), (.ref off), (.ref seg)])) _
    refine X8.laload hx (j := (0 : Int32)) (v := (.long (0 : Int64))) Ar9.1 (State.isArrayOf_alike hZ.alike Ar9.2.1) Ar9.2.2 hin9 hat9 (g := (mkF m 78 #[.val (.int p1), .val (.int p2), .val (.int p3), .val (.int d0), .val (.int d1), .val (.int d2), .val (.ref off), .val (.ref seg), .unset, .unset] [(.int (0 : Int32)), (.ref off), (.ref seg)])) rfl rfl (hb hby at_78) _ ?_
    show Steps p.tables e below (T8.setTop (mkF m 79 #[.val (.int p1), .val (.int p2), .val (.int p3), .val (.int d0), .val (.int d1), .val (.int d2), .val (.ref off), .val (.ref seg), .unset, .unset] [(.long (0 : Int64)), (.ref seg)])) _
    refine XS.iloadN X8.here hx rfl (hb hby at_79) rfl ?_
    show Steps p.tables e below (T8.setTop (mkF m 80 #[.val (.int p1), .val (.int p2), .val (.int p3), .val (.int d0), .val (.int d1), .val (.int d2), .val (.ref off), .val (.ref seg), .unset, .unset] [(.int d0), (.long (0 : Int64)), (.ref seg)])) _
    refine st10 _ ?_
    show Steps p.tables e below (T10.setTop (mkF m 83 #[.val (.int p1), .val (.int p2), .val (.int p3), .val (.int d0), .val (.int d1), .val (.int d2), .val (.ref off), .val (.ref seg), .unset, .unset] [])) _
    refine XS.aload X10.here hx rfl (hb hby at_83) rfl rfl ?_
    show Steps p.tables e below (T10.setTop (mkF m 85 #[.val (.int p1), .val (.int p2), .val (.int p3), .val (.int d0), .val (.int d1), .val (.int d2), .val (.ref off), .val (.ref seg), .unset, .unset] [(.ref seg)])) _
    refine XS.aload X10.here hx rfl (hb hby at_85) rfl rfl ?_
    show Steps p.tables e below (T10.setTop (mkF m 87 #[.val (.int p1), .val (.int p2), .val (.int p3), .val (.int d0), .val (.int d1), .val (.int d2), .val (.ref off), .val (.ref seg), .unset, .unset] [(.ref off), (.ref seg)])) _
    refine XS.iconst X10.here hx rfl (hb hby at_87) ?_
    show Steps p.tables e below (T10.setTop (mkF m 88 #[.val (.int p1), .val (.int p2), .val (.int p3), .val (.int d0), .val (.int d1), .val (.int d2), .val (.ref off), .val (.ref seg), .unset, .unset] [(.int (1 : Int32)), (.ref off), (.ref seg)])) _
    refine X10.laload hx (j := (1 : Int32)) (v := (.long (d0.toInt64))) Ar11.1 (State.isArrayOf_alike hZ.alike Ar11.2.1) Ar11.2.2 hin11 hat11 (g := (mkF m 88 #[.val (.int p1), .val (.int p2), .val (.int p3), .val (.int d0), .val (.int d1), .val (.int d2), .val (.ref off), .val (.ref seg), .unset, .unset] [(.int (1 : Int32)), (.ref off), (.ref seg)])) rfl rfl (hb hby at_88) _ ?_
    show Steps p.tables e below (T10.setTop (mkF m 89 #[.val (.int p1), .val (.int p2), .val (.int p3), .val (.int d0), .val (.int d1), .val (.int d2), .val (.ref off), .val (.ref seg), .unset, .unset] [(.long (d0.toInt64)), (.ref seg)])) _
    refine XS.iload X10.here hx rfl (hb hby at_89) rfl ?_
    show Steps p.tables e below (T10.setTop (mkF m 91 #[.val (.int p1), .val (.int p2), .val (.int p3), .val (.int d0), .val (.int d1), .val (.int d2), .val (.ref off), .val (.ref seg), .unset, .unset] [(.int d1), (.long (d0.toInt64)), (.ref seg)])) _
    refine st12 _ ?_
    show Steps p.tables e below (T12.setTop (mkF m 94 #[.val (.int p1), .val (.int p2), .val (.int p3), .val (.int d0), .val (.int d1), .val (.int d2), .val (.ref off), .val (.ref seg), .unset, .unset] [])) _
    refine XS.aload X12.here hx rfl (hb hby at_94) rfl rfl ?_
    show Steps p.tables e below (T12.setTop (mkF m 96 #[.val (.int p1), .val (.int p2), .val (.int p3), .val (.int d0), .val (.int d1), .val (.int d2), .val (.ref off), .val (.ref seg), .unset, .unset] [(.ref seg)])) _
    refine XS.aload X12.here hx rfl (hb hby at_96) rfl rfl ?_
    show Steps p.tables e below (T12.setTop (mkF m 98 #[.val (.int p1), .val (.int p2), .val (.int p3), .val (.int d0), .val (.int d1), .val (.int d2), .val (.ref off), .val (.ref seg), .unset, .unset] [(.ref off), (.ref seg)])) _
    refine XS.iconst X12.here hx rfl (hb hby at_98) ?_
    show Steps p.tables e below (T12.setTop (mkF m 99 #[.val (.int p1), .val (.int p2), .val (.int p3), .val (.int d0), .val (.int d1), .val (.int d2), .val (.ref off), .val (.ref seg), .unset, .unset] [(.int (2 : Int32)), (.ref off), (.ref seg)])) _
    refine X12.laload hx (j := (2 : Int32)) (v := (.long ((d0 + d1).toInt64))) Ar13.1 (State.isArrayOf_alike hZ.alike Ar13.2.1) Ar13.2.2 hin13 hat13 (g := (mkF m 99 #[.val (.int p1), .val (.int p2), .val (.int p3), .val (.int d0), .val (.int d1), .val (.int d2), .val (.ref off), .val (.ref seg), .unset, .unset] [(.int (2 : Int32)), (.ref off), (.ref seg)])) rfl rfl (hb hby at_99) _ ?_
    show Steps p.tables e below (T12.setTop (mkF m 100 #[.val (.int p1), .val (.int p2), .val (.int p3), .val (.int d0), .val (.int d1), .val (.int d2), .val (.ref off), .val (.ref seg), .unset, .unset] [(.long ((d0 + d1).toInt64)), (.ref seg)])) _
    refine XS.iload X12.here hx rfl (hb hby at_100) rfl ?_
    show Steps p.tables e below (T12.setTop (mkF m 102 #[.val (.int p1), .val (.int p2), .val (.int p3), .val (.int d0), .val (.int d1), .val (.int d2), .val (.ref off), .val (.ref seg), .unset, .unset] [(.int d2), (.long ((d0 + d1).toInt64)), (.ref seg)])) _
    refine st14 _ ?_
    show Steps p.tables e below (T14.setTop (mkF m 105 #[.val (.int p1), .val (.int p2), .val (.int p3), .val (.int d0), .val (.int d1), .val (.int d2), .val (.ref off), .val (.ref seg), .unset, .unset] [])) _
    refine XS.iconst X14.here hx rfl (hb hby at_105) ?_
    show Steps p.tables e below (T14.setTop (mkF m 106 #[.val (.int p1), .val (.int p2), .val (.int p3), .val (.int d0), .val (.int d1), .val (.int d2), .val (.ref off), .val (.ref seg), .unset, .unset] [(.int (3 : Int32))])) _
    refine st15 _ ?_
    show Steps p.tables e below (T15.setTop (mkF m 108 #[.val (.int p1), .val (.int p2), .val (.int p3), .val (.int d0), .val (.int d1), .val (.int d2), .val (.ref off), .val (.ref seg), .unset, .unset] [(.ref out)])) _
    refine XS.astore X15.here hx rfl (hb hby at_108) rfl rfl (l' := #[.val (.int p1), .val (.int p2), .val (.int p3), .val (.int d0), .val (.int d1), .val (.int d2), .val (.ref off), .val (.ref seg), .val (.ref out), .unset]) rfl ?_
    show Steps p.tables e below (T15.setTop (mkF m 110 #[.val (.int p1), .val (.int p2), .val (.int p3), .val (.int d0), .val (.int d1), .val (.int d2), .val (.ref off), .val (.ref seg), .val (.ref out), .unset] [])) _
    refine XS.aload X15.here hx rfl (hb hby at_110) rfl rfl ?_
    show Steps p.tables e below (T15.setTop (mkF m 112 #[.val (.int p1), .val (.int p2), .val (.int p3), .val (.int d0), .val (.int d1), .val (.int d2), .val (.ref off), .val (.ref seg), .val (.ref out), .unset] [(.ref out)])) _
    refine XS.iconst X15.here hx rfl (hb hby at_112) ?_
    show Steps p.tables e below (T15.setTop (mkF m 113 #[.val (.int p1), .val (.int p2), .val (.int p3), .val (.int d0), .val (.int d1), .val (.int d2), .val (.ref off), .val (.ref seg), .val (.ref out), .unset] [(.int (0 : Int32)), (.ref out)])) _
    refine XS.iloadN X15.here hx rfl (hb hby at_113) rfl ?_
    show Steps p.tables e below (T15.setTop (mkF m 114 #[.val (.int p1), .val (.int p2), .val (.int p3), .val (.int d0), .val (.int d1), .val (.int d2), .val (.ref off), .val (.ref seg), .val (.ref out), .unset] [(.int d0), (.int (0 : Int32)), (.ref out)])) _
    refine XS.iconst X15.here hx rfl (hb hby at_114) ?_
    show Steps p.tables e below (T15.setTop (mkF m 115 #[.val (.int p1), .val (.int p2), .val (.int p3), .val (.int d0), .val (.int d1), .val (.int d2), .val (.ref off), .val (.ref seg), .val (.ref out), .unset] [(.int (0 : Int32)), (.int d0), (.int (0 : Int32)), (.ref out)])) _
    refine st16 _ ?_
    show Steps p.tables e below (T16.setTop (mkF m 118 #[.val (.int p1), .val (.int p2), .val (.int p3), .val (.int d0), .val (.int d1), .val (.int d2), .val (.ref off), .val (.ref seg), .val (.ref out), .unset] [(.int (own_ab d0 (0 : Int32))), (.int (0 : Int32)), (.ref out)])) _
    refine XS.iload X16.here hx rfl (hb hby at_118) rfl ?_
    show Steps p.tables e below (T16.setTop (mkF m 120 #[.val (.int p1), .val (.int p2), .val (.int p3), .val (.int d0), .val (.int d1), .val (.int d2), .val (.ref off), .val (.ref seg), .val (.ref out), .unset] [(.int d1), (.int (own_ab d0 (0 : Int32))), (.int (0 : Int32)), (.ref out)])) _
    refine XS.iconst X16.here hx rfl (hb hby at_120) ?_
    show Steps p.tables e below (T16.setTop (mkF m 121 #[.val (.int p1), .val (.int p2), .val (.int p3), .val (.int d0), .val (.int d1), .val (.int d2), .val (.ref off), .val (.ref seg), .val (.ref out), .unset] [(.int (0 : Int32)), (.int d1), (.int (own_ab d0 (0 : Int32))), (.int (0 : Int32)), (.ref out)])) _
    refine st17 _ ?_
    show Steps p.tables e below (T17.setTop (mkF m 124 #[.val (.int p1), .val (.int p2), .val (.int p3), .val (.int d0), .val (.int d1), .val (.int d2), .val (.ref off), .val (.ref seg), .val (.ref out), .unset] [(.int (own_ab d1 (0 : Int32))), (.int (own_ab d0 (0 : Int32))), (.int (0 : Int32)), (.ref out)])) _
    refine XS.iadd X17.here hx rfl (hb hby at_124) rfl ?_
    show Steps p.tables e below (T17.setTop (mkF m 125 #[.val (.int p1), .val (.int p2), .val (.int p3), .val (.int d0), .val (.int d1), .val (.int d2), .val (.ref off), .val (.ref seg), .val (.ref out), .unset] [(.int ((own_ab d0 (0 : Int32)) + (own_ab d1 (0 : Int32)))), (.int (0 : Int32)), (.ref out)])) _
    refine XS.iload X17.here hx rfl (hb hby at_125) rfl ?_
    show Steps p.tables e below (T17.setTop (mkF m 127 #[.val (.int p1), .val (.int p2), .val (.int p3), .val (.int d0), .val (.int d1), .val (.int d2), .val (.ref off), .val (.ref seg), .val (.ref out), .unset] [(.int d2), (.int ((own_ab d0 (0 : Int32)) + (own_ab d1 (0 : Int32)))), (.int (0 : Int32)), (.ref out)])) _
    refine XS.iconst X17.here hx rfl (hb hby at_127) ?_
    show Steps p.tables e below (T17.setTop (mkF m 128 #[.val (.int p1), .val (.int p2), .val (.int p3), .val (.int d0), .val (.int d1), .val (.int d2), .val (.ref off), .val (.ref seg), .val (.ref out), .unset] [(.int (0 : Int32)), (.int d2), (.int ((own_ab d0 (0 : Int32)) + (own_ab d1 (0 : Int32)))), (.int (0 : Int32)), (.ref out)])) _
    refine st18 _ ?_
    show Steps p.tables e below (T18.setTop (mkF m 131 #[.val (.int p1), .val (.int p2), .val (.int p3), .val (.int d0), .val (.int d1), .val (.int d2), .val (.ref off), .val (.ref seg), .val (.ref out), .unset] [(.int (own_ab d2 (0 : Int32))), (.int ((own_ab d0 (0 : Int32)) + (own_ab d1 (0 : Int32)))), (.int (0 : Int32)), (.ref out)])) _
    refine XS.iadd X18.here hx rfl (hb hby at_131) rfl ?_
    show Steps p.tables e below (T18.setTop (mkF m 132 #[.val (.int p1), .val (.int p2), .val (.int p3), .val (.int d0), .val (.int d1), .val (.int d2), .val (.ref off), .val (.ref seg), .val (.ref out), .unset] [(.int (((own_ab d0 (0 : Int32)) + (own_ab d1 (0 : Int32))) + (own_ab d2 (0 : Int32)))), (.int (0 : Int32)), (.ref out)])) _
    refine st19 _ ?_
    show Steps p.tables e below (T19.setTop (mkF m 133 #[.val (.int p1), .val (.int p2), .val (.int p3), .val (.int d0), .val (.int d1), .val (.int d2), .val (.ref off), .val (.ref seg), .val (.ref out), .unset] [])) _
    refine XS.aload X19.here hx rfl (hb hby at_133) rfl rfl ?_
    show Steps p.tables e below (T19.setTop (mkF m 135 #[.val (.int p1), .val (.int p2), .val (.int p3), .val (.int d0), .val (.int d1), .val (.int d2), .val (.ref off), .val (.ref seg), .val (.ref out), .unset] [(.ref out)])) _
    refine XS.iconst X19.here hx rfl (hb hby at_135) ?_
    show Steps p.tables e below (T19.setTop (mkF m 136 #[.val (.int p1), .val (.int p2), .val (.int p3), .val (.int d0), .val (.int d1), .val (.int d2), .val (.ref off), .val (.ref seg), .val (.ref out), .unset] [(.int (1 : Int32)), (.ref out)])) _
    refine XS.iloadN X19.here hx rfl (hb hby at_136) rfl ?_
    show Steps p.tables e below (T19.setTop (mkF m 137 #[.val (.int p1), .val (.int p2), .val (.int p3), .val (.int d0), .val (.int d1), .val (.int d2), .val (.ref off), .val (.ref seg), .val (.ref out), .unset] [(.int d0), (.int (1 : Int32)), (.ref out)])) _
    refine XS.iconst X19.here hx rfl (hb hby at_137) ?_
    show Steps p.tables e below (T19.setTop (mkF m 138 #[.val (.int p1), .val (.int p2), .val (.int p3), .val (.int d0), .val (.int d1), .val (.int d2), .val (.ref off), .val (.ref seg), .val (.ref out), .unset] [(.int (1 : Int32)), (.int d0), (.int (1 : Int32)), (.ref out)])) _
    refine st20 _ ?_
    show Steps p.tables e below (T20.setTop (mkF m 141 #[.val (.int p1), .val (.int p2), .val (.int p3), .val (.int d0), .val (.int d1), .val (.int d2), .val (.ref off), .val (.ref seg), .val (.ref out), .unset] [(.int (own_ab d0 (1 : Int32))), (.int (1 : Int32)), (.ref out)])) _
    refine XS.iload X20.here hx rfl (hb hby at_141) rfl ?_
    show Steps p.tables e below (T20.setTop (mkF m 143 #[.val (.int p1), .val (.int p2), .val (.int p3), .val (.int d0), .val (.int d1), .val (.int d2), .val (.ref off), .val (.ref seg), .val (.ref out), .unset] [(.int d1), (.int (own_ab d0 (1 : Int32))), (.int (1 : Int32)), (.ref out)])) _
    refine XS.iconst X20.here hx rfl (hb hby at_143) ?_
    show Steps p.tables e below (T20.setTop (mkF m 144 #[.val (.int p1), .val (.int p2), .val (.int p3), .val (.int d0), .val (.int d1), .val (.int d2), .val (.ref off), .val (.ref seg), .val (.ref out), .unset] [(.int (1 : Int32)), (.int d1), (.int (own_ab d0 (1 : Int32))), (.int (1 : Int32)), (.ref out)])) _
    refine st21 _ ?_
    show Steps p.tables e below (T21.setTop (mkF m 147 #[.val (.int p1), .val (.int p2), .val (.int p3), .val (.int d0), .val (.int d1), .val (.int d2), .val (.ref off), .val (.ref seg), .val (.ref out), .unset] [(.int (own_ab d1 (1 : Int32))), (.int (own_ab d0 (1 : Int32))), (.int (1 : Int32)), (.ref out)])) _
    refine XS.iadd X21.here hx rfl (hb hby at_147) rfl ?_
    show Steps p.tables e below (T21.setTop (mkF m 148 #[.val (.int p1), .val (.int p2), .val (.int p3), .val (.int d0), .val (.int d1), .val (.int d2), .val (.ref off), .val (.ref seg), .val (.ref out), .unset] [(.int ((own_ab d0 (1 : Int32)) + (own_ab d1 (1 : Int32)))), (.int (1 : Int32)), (.ref out)])) _
    refine XS.iload X21.here hx rfl (hb hby at_148) rfl ?_
    show Steps p.tables e below (T21.setTop (mkF m 150 #[.val (.int p1), .val (.int p2), .val (.int p3), .val (.int d0), .val (.int d1), .val (.int d2), .val (.ref off), .val (.ref seg), .val (.ref out), .unset] [(.int d2), (.int ((own_ab d0 (1 : Int32)) + (own_ab d1 (1 : Int32)))), (.int (1 : Int32)), (.ref out)])) _
    refine XS.iconst X21.here hx rfl (hb hby at_150) ?_
    show Steps p.tables e below (T21.setTop (mkF m 151 #[.val (.int p1), .val (.int p2), .val (.int p3), .val (.int d0), .val (.int d1), .val (.int d2), .val (.ref off), .val (.ref seg), .val (.ref out), .unset] [(.int (1 : Int32)), (.int d2), (.int ((own_ab d0 (1 : Int32)) + (own_ab d1 (1 : Int32)))), (.int (1 : Int32)), (.ref out)])) _
    refine st22 _ ?_
    show Steps p.tables e below (T22.setTop (mkF m 154 #[.val (.int p1), .val (.int p2), .val (.int p3), .val (.int d0), .val (.int d1), .val (.int d2), .val (.ref off), .val (.ref seg), .val (.ref out), .unset] [(.int (own_ab d2 (1 : Int32))), (.int ((own_ab d0 (1 : Int32)) + (own_ab d1 (1 : Int32)))), (.int (1 : Int32)), (.ref out)])) _
    refine XS.iadd X22.here hx rfl (hb hby at_154) rfl ?_
    show Steps p.tables e below (T22.setTop (mkF m 155 #[.val (.int p1), .val (.int p2), .val (.int p3), .val (.int d0), .val (.int d1), .val (.int d2), .val (.ref off), .val (.ref seg), .val (.ref out), .unset] [(.int (((own_ab d0 (1 : Int32)) + (own_ab d1 (1 : Int32))) + (own_ab d2 (1 : Int32)))), (.int (1 : Int32)), (.ref out)])) _
    refine st23 _ ?_
    show Steps p.tables e below (T23.setTop (mkF m 156 #[.val (.int p1), .val (.int p2), .val (.int p3), .val (.int d0), .val (.int d1), .val (.int d2), .val (.ref off), .val (.ref seg), .val (.ref out), .unset] [])) _
    refine XS.aload X23.here hx rfl (hb hby at_156) rfl rfl ?_
    show Steps p.tables e below (T23.setTop (mkF m 158 #[.val (.int p1), .val (.int p2), .val (.int p3), .val (.int d0), .val (.int d1), .val (.int d2), .val (.ref off), .val (.ref seg), .val (.ref out), .unset] [(.ref out)])) _
    refine XS.iconst X23.here hx rfl (hb hby at_158) ?_
    show Steps p.tables e below (T23.setTop (mkF m 159 #[.val (.int p1), .val (.int p2), .val (.int p3), .val (.int d0), .val (.int d1), .val (.int d2), .val (.ref off), .val (.ref seg), .val (.ref out), .unset] [(.int (2 : Int32)), (.ref out)])) _
    refine XS.iloadN X23.here hx rfl (hb hby at_159) rfl ?_
    show Steps p.tables e below (T23.setTop (mkF m 160 #[.val (.int p1), .val (.int p2), .val (.int p3), .val (.int d0), .val (.int d1), .val (.int d2), .val (.ref off), .val (.ref seg), .val (.ref out), .unset] [(.int d0), (.int (2 : Int32)), (.ref out)])) _
    refine XS.iconst X23.here hx rfl (hb hby at_160) ?_
    show Steps p.tables e below (T23.setTop (mkF m 161 #[.val (.int p1), .val (.int p2), .val (.int p3), .val (.int d0), .val (.int d1), .val (.int d2), .val (.ref off), .val (.ref seg), .val (.ref out), .unset] [(.int (2 : Int32)), (.int d0), (.int (2 : Int32)), (.ref out)])) _
    refine st24 _ ?_
    show Steps p.tables e below (T24.setTop (mkF m 164 #[.val (.int p1), .val (.int p2), .val (.int p3), .val (.int d0), .val (.int d1), .val (.int d2), .val (.ref off), .val (.ref seg), .val (.ref out), .unset] [(.int (own_ab d0 (2 : Int32))), (.int (2 : Int32)), (.ref out)])) _
    refine XS.iload X24.here hx rfl (hb hby at_164) rfl ?_
    show Steps p.tables e below (T24.setTop (mkF m 166 #[.val (.int p1), .val (.int p2), .val (.int p3), .val (.int d0), .val (.int d1), .val (.int d2), .val (.ref off), .val (.ref seg), .val (.ref out), .unset] [(.int d1), (.int (own_ab d0 (2 : Int32))), (.int (2 : Int32)), (.ref out)])) _
    refine XS.iconst X24.here hx rfl (hb hby at_166) ?_
    show Steps p.tables e below (T24.setTop (mkF m 167 #[.val (.int p1), .val (.int p2), .val (.int p3), .val (.int d0), .val (.int d1), .val (.int d2), .val (.ref off), .val (.ref seg), .val (.ref out), .unset] [(.int (2 : Int32)), (.int d1), (.int (own_ab d0 (2 : Int32))), (.int (2 : Int32)), (.ref out)])) _
    refine st25 _ ?_
    show Steps p.tables e below (T25.setTop (mkF m 170 #[.val (.int p1), .val (.int p2), .val (.int p3), .val (.int d0), .val (.int d1), .val (.int d2), .val (.ref off), .val (.ref seg), .val (.ref out), .unset] [(.int (own_ab d1 (2 : Int32))), (.int (own_ab d0 (2 : Int32))), (.int (2 : Int32)), (.ref out)])) _
    refine XS.iadd X25.here hx rfl (hb hby at_170) rfl ?_
    show Steps p.tables e below (T25.setTop (mkF m 171 #[.val (.int p1), .val (.int p2), .val (.int p3), .val (.int d0), .val (.int d1), .val (.int d2), .val (.ref off), .val (.ref seg), .val (.ref out), .unset] [(.int ((own_ab d0 (2 : Int32)) + (own_ab d1 (2 : Int32)))), (.int (2 : Int32)), (.ref out)])) _
    refine XS.iload X25.here hx rfl (hb hby at_171) rfl ?_
    show Steps p.tables e below (T25.setTop (mkF m 173 #[.val (.int p1), .val (.int p2), .val (.int p3), .val (.int d0), .val (.int d1), .val (.int d2), .val (.ref off), .val (.ref seg), .val (.ref out), .unset] [(.int d2), (.int ((own_ab d0 (2 : Int32)) + (own_ab d1 (2 : Int32)))), (.int (2 : Int32)), (.ref out)])) _
    refine XS.iconst X25.here hx rfl (hb hby at_173) ?_
    show Steps p.tables e below (T25.setTop (mkF m 174 #[.val (.int p1), .val (.int p2), .val (.int p3), .val (.int d0), .val (.int d1), .val (.int d2), .val (.ref off), .val (.ref seg), .val (.ref out), .unset] [(.int (2 : Int32)), (.int d2), (.int ((own_ab d0 (2 : Int32)) + (own_ab d1 (2 : Int32)))), (.int (2 : Int32)), (.ref out)])) _
    refine st26 _ ?_
    show Steps p.tables e below (T26.setTop (mkF m 177 #[.val (.int p1), .val (.int p2), .val (.int p3), .val (.int d0), .val (.int d1), .val (.int d2), .val (.ref off), .val (.ref seg), .val (.ref out), .unset] [(.int (own_ab d2 (2 : Int32))), (.int ((own_ab d0 (2 : Int32)) + (own_ab d1 (2 : Int32)))), (.int (2 : Int32)), (.ref out)])) _
    refine XS.iadd X26.here hx rfl (hb hby at_177) rfl ?_
    show Steps p.tables e below (T26.setTop (mkF m 178 #[.val (.int p1), .val (.int p2), .val (.int p3), .val (.int d0), .val (.int d1), .val (.int d2), .val (.ref off), .val (.ref seg), .val (.ref out), .unset] [(.int (((own_ab d0 (2 : Int32)) + (own_ab d1 (2 : Int32))) + (own_ab d2 (2 : Int32)))), (.int (2 : Int32)), (.ref out)])) _
    refine st27 _ ?_
    show Steps p.tables e below (T27.setTop (mkF m 179 #[.val (.int p1), .val (.int p2), .val (.int p3), .val (.int d0), .val (.int d1), .val (.int d2), .val (.ref off), .val (.ref seg), .val (.ref out), .unset] [])) _
    refine st28 _ ?_
    show Steps p.tables e below (T28.setTop (mkF m 182 #[.val (.int p1), .val (.int p2), .val (.int p3), .val (.int d0), .val (.int d1), .val (.int d2), .val (.ref off), .val (.ref seg), .val (.ref out), .unset] [(.ref g)])) _
    refine XS.dup X28.here hx rfl (hb hby at_182) rfl rfl ?_
    show Steps p.tables e below (T28.setTop (mkF m 183 #[.val (.int p1), .val (.int p2), .val (.int p3), .val (.int d0), .val (.int d1), .val (.int d2), .val (.ref off), .val (.ref seg), .val (.ref out), .unset] [(.ref g), (.ref g)])) _
    refine XS.aconstNull X28.here hx rfl (hb hby at_183) ?_
    show Steps p.tables e below (T28.setTop (mkF m 184 #[.val (.int p1), .val (.int p2), .val (.int p3), .val (.int d0), .val (.int d1), .val (.int d2), .val (.ref off), .val (.ref seg), .val (.ref out), .unset] [.null, (.ref g), (.ref g)])) _
    refine XS.aload X28.here hx rfl (hb hby at_184) rfl rfl ?_
    show Steps p.tables e below (T28.setTop (mkF m 186 #[.val (.int p1), .val (.int p2), .val (.int p3), .val (.int d0), .val (.int d1), .val (.int d2), .val (.ref off), .val (.ref seg), .val (.ref out), .unset] [(.ref off), .null, (.ref g), (.ref g)])) _
    refine XS.aload X28.here hx rfl (hb hby at_186) rfl rfl ?_
    show Steps p.tables e below (T28.setTop (mkF m 188 #[.val (.int p1), .val (.int p2), .val (.int p3), .val (.int d0), .val (.int d1), .val (.int d2), .val (.ref off), .val (.ref seg), .val (.ref out), .unset] [(.ref seg), (.ref off), .null, (.ref g), (.ref g)])) _
    refine XS.aload X28.here hx rfl (hb hby at_188) rfl rfl ?_
    show Steps p.tables e below (T28.setTop (mkF m 190 #[.val (.int p1), .val (.int p2), .val (.int p3), .val (.int d0), .val (.int d1), .val (.int d2), .val (.ref off), .val (.ref seg), .val (.ref out), .unset] [(.ref out), (.ref seg), (.ref off), .null, (.ref g), (.ref g)])) _
    refine st29.trans ?_
    show Steps p.tables e below (T29.setTop (mkF m 193 #[.val (.int p1), .val (.int p2), .val (.int p3), .val (.int d0), .val (.int d1), .val (.int d2), .val (.ref off), .val (.ref seg), .val (.ref out), .unset] [(.ref g)])) _
    refine XS.astore X29.here hx rfl (hb hby at_193) rfl rfl (l' := #[.val (.int p1), .val (.int p2), .val (.int p3), .val (.int d0), .val (.int d1), .val (.int d2), .val (.ref off), .val (.ref seg), .val (.ref out), .val (.ref g)]) rfl ?_
    show Steps p.tables e below (T29.setTop (mkF m 195 #[.val (.int p1), .val (.int p2), .val (.int p3), .val (.int d0), .val (.int d1), .val (.int d2), .val (.ref off), .val (.ref seg), .val (.ref out), .val (.ref g)] [])) _
    refine XS.aload X29.here hx rfl (hb hby at_195) rfl rfl ?_
    show Steps p.tables e below (T29.setTop (mkF m 197 #[.val (.int p1), .val (.int p2), .val (.int p3), .val (.int d0), .val (.int d1), .val (.int d2), .val (.ref off), .val (.ref seg), .val (.ref out), .val (.ref g)] [(.ref g)])) _
    refine XS.iconst X29.here hx rfl (hb hby at_197) ?_
    show Steps p.tables e below (T29.setTop (mkF m 198 #[.val (.int p1), .val (.int p2), .val (.int p3), .val (.int d0), .val (.int d1), .val (.int d2), .val (.ref off), .val (.ref seg), .val (.ref out), .val (.ref g)] [(.int (0 : Int32)), (.ref g)])) _
    refine st30.trans ?_
    show Steps p.tables e below (T30.setTop (mkF m 201 #[.val (.int p1), .val (.int p2), .val (.int p3), .val (.int d0), .val (.int d1), .val (.int d2), .val (.ref off), .val (.ref seg), .val (.ref out), .val (.ref g)] [(.int (((d0.toInt64) - (0 : Int64)).toInt32))])) _
    refine XS.iloadN X30.here hx rfl (hb hby at_201) rfl ?_
    show Steps p.tables e below (T30.setTop (mkF m 202 #[.val (.int p1), .val (.int p2), .val (.int p3), .val (.int d0), .val (.int d1), .val (.int d2), .val (.ref off), .val (.ref seg), .val (.ref out), .val (.ref g)] [(.int d0), (.int (((d0.toInt64) - (0 : Int64)).toInt32))])) _
    refine XS.icmpNo X30.here hx rfl (hb hby at_202) rfl (teq df0).2 ?_
    show Steps p.tables e below (T30.setTop (mkF m 205 #[.val (.int p1), .val (.int p2), .val (.int p3), .val (.int d0), .val (.int d1), .val (.int d2), .val (.ref off), .val (.ref seg), .val (.ref out), .val (.ref g)] [])) _
    refine XS.aload X30.here hx rfl (hb hby at_205) rfl rfl ?_
    show Steps p.tables e below (T30.setTop (mkF m 207 #[.val (.int p1), .val (.int p2), .val (.int p3), .val (.int d0), .val (.int d1), .val (.int d2), .val (.ref off), .val (.ref seg), .val (.ref out), .val (.ref g)] [(.ref g)])) _
    refine XS.iconst X30.here hx rfl (hb hby at_207) ?_
    show Steps p.tables e below (T30.setTop (mkF m 208 #[.val (.int p1), .val (.int p2), .val (.int p3), .val (.int d0), .val (.int d1), .val (.int d2), .val (.ref off), .val (.ref seg), .val (.ref out), .val (.ref g)] [(.int (1 : Int32)), (.ref g)])) _
    refine st31.trans ?_
    show Steps p.tables e below (T31.setTop (mkF m 211 #[.val (.int p1), .val (.int p2), .val (.int p3), .val (.int d0), .val (.int d1), .val (.int d2), .val (.ref off), .val (.ref seg), .val (.ref out), .val (.ref g)] [(.int ((((d0 + d1).toInt64) - (d0.toInt64)).toInt32))])) _
    refine XS.iload X31.here hx rfl (hb hby at_211) rfl ?_
    show Steps p.tables e below (T31.setTop (mkF m 213 #[.val (.int p1), .val (.int p2), .val (.int p3), .val (.int d0), .val (.int d1), .val (.int d2), .val (.ref off), .val (.ref seg), .val (.ref out), .val (.ref g)] [(.int d1), (.int ((((d0 + d1).toInt64) - (d0.toInt64)).toInt32))])) _
    refine XS.icmpNo X31.here hx rfl (hb hby at_213) rfl (teq df1).2 ?_
    show Steps p.tables e below (T31.setTop (mkF m 216 #[.val (.int p1), .val (.int p2), .val (.int p3), .val (.int d0), .val (.int d1), .val (.int d2), .val (.ref off), .val (.ref seg), .val (.ref out), .val (.ref g)] [])) _
    refine XS.aload X31.here hx rfl (hb hby at_216) rfl rfl ?_
    show Steps p.tables e below (T31.setTop (mkF m 218 #[.val (.int p1), .val (.int p2), .val (.int p3), .val (.int d0), .val (.int d1), .val (.int d2), .val (.ref off), .val (.ref seg), .val (.ref out), .val (.ref g)] [(.ref g)])) _
    refine XS.iconst X31.here hx rfl (hb hby at_218) ?_
    show Steps p.tables e below (T31.setTop (mkF m 219 #[.val (.int p1), .val (.int p2), .val (.int p3), .val (.int d0), .val (.int d1), .val (.int d2), .val (.ref off), .val (.ref seg), .val (.ref out), .val (.ref g)] [(.int (2 : Int32)), (.ref g)])) _
    refine st32.trans ?_
    show Steps p.tables e below (T32.setTop (mkF m 222 #[.val (.int p1), .val (.int p2), .val (.int p3), .val (.int d0), .val (.int d1), .val (.int d2), .val (.ref off), .val (.ref seg), .val (.ref out), .val (.ref g)] [(.int (((((d0 + d1) + d2).toInt64) - ((d0 + d1).toInt64)).toInt32))])) _
    refine XS.iload X32.here hx rfl (hb hby at_222) rfl ?_
    show Steps p.tables e below (T32.setTop (mkF m 224 #[.val (.int p1), .val (.int p2), .val (.int p3), .val (.int d0), .val (.int d1), .val (.int d2), .val (.ref off), .val (.ref seg), .val (.ref out), .val (.ref g)] [(.int d2), (.int (((((d0 + d1) + d2).toInt64) - ((d0 + d1).toInt64)).toInt32))])) _
    refine XS.icmpNo X32.here hx rfl (hb hby at_224) rfl (teq df2).2 ?_
    show Steps p.tables e below (T32.setTop (mkF m 227 #[.val (.int p1), .val (.int p2), .val (.int p3), .val (.int d0), .val (.int d1), .val (.int d2), .val (.ref off), .val (.ref seg), .val (.ref out), .val (.ref g)] [])) _
    refine XS.aload X32.here hx rfl (hb hby at_227) rfl rfl ?_
    show Steps p.tables e below (T32.setTop (mkF m 229 #[.val (.int p1), .val (.int p2), .val (.int p3), .val (.int d0), .val (.int d1), .val (.int d2), .val (.ref off), .val (.ref seg), .val (.ref out), .val (.ref g)] [(.ref g)])) _
    refine st33.trans ?_
    show Steps p.tables e below (T33.setTop (mkF m 232 #[.val (.int p1), .val (.int p2), .val (.int p3), .val (.int d0), .val (.int d1), .val (.int d2), .val (.ref off), .val (.ref seg), .val (.ref out), .val (.ref g)] [(.long (((d0 + d1) + d2).toInt64))])) _
    refine XS.iloadN X33.here hx rfl (hb hby at_232) rfl ?_
    show Steps p.tables e below (T33.setTop (mkF m 233 #[.val (.int p1), .val (.int p2), .val (.int p3), .val (.int d0), .val (.int d1), .val (.int d2), .val (.ref off), .val (.ref seg), .val (.ref out), .val (.ref g)] [(.int d0), (.long (((d0 + d1) + d2).toInt64))])) _
    refine XS.iload X33.here hx rfl (hb hby at_233) rfl ?_
    show Steps p.tables e below (T33.setTop (mkF m 235 #[.val (.int p1), .val (.int p2), .val (.int p3), .val (.int d0), .val (.int d1), .val (.int d2), .val (.ref off), .val (.ref seg), .val (.ref out), .val (.ref g)] [(.int d1), (.int d0), (.long (((d0 + d1) + d2).toInt64))])) _
    refine XS.iadd X33.here hx rfl (hb hby at_235) rfl ?_
    show Steps p.tables e below (T33.setTop (mkF m 236 #[.val (.int p1), .val (.int p2), .val (.int p3), .val (.int d0), .val (.int d1), .val (.int d2), .val (.ref off), .val (.ref seg), .val (.ref out), .val (.ref g)] [(.int (d0 + d1)), (.long (((d0 + d1) + d2).toInt64))])) _
    refine XS.iload X33.here hx rfl (hb hby at_236) rfl ?_
    show Steps p.tables e below (T33.setTop (mkF m 238 #[.val (.int p1), .val (.int p2), .val (.int p3), .val (.int d0), .val (.int d1), .val (.int d2), .val (.ref off), .val (.ref seg), .val (.ref out), .val (.ref g)] [(.int d2), (.int (d0 + d1)), (.long (((d0 + d1) + d2).toInt64))])) _
    refine XS.iadd X33.here hx rfl (hb hby at_238) rfl ?_
    show Steps p.tables e below (T33.setTop (mkF m 239 #[.val (.int p1), .val (.int p2), .val (.int p3), .val (.int d0), .val (.int d1), .val (.int d2), .val (.ref off), .val (.ref seg), .val (.ref out), .val (.ref g)] [(.int ((d0 + d1) + d2)), (.long (((d0 + d1) + d2).toInt64))])) _
    refine XS.i2l X33.here hx rfl (hb hby at_239) rfl ?_
    show Steps p.tables e below (T33.setTop (mkF m 240 #[.val (.int p1), .val (.int p2), .val (.int p3), .val (.int d0), .val (.int d1), .val (.int d2), .val (.ref off), .val (.ref seg), .val (.ref out), .val (.ref g)] [(.long (((d0 + d1) + d2).toInt64)), (.long (((d0 + d1) + d2).toInt64))])) _
    refine XS.lcmp X33.here hx rfl (hb hby at_240) rfl ?_
    show Steps p.tables e below (T33.setTop (mkF m 241 #[.val (.int p1), .val (.int p2), .val (.int p3), .val (.int d0), .val (.int d1), .val (.int d2), .val (.ref off), .val (.ref seg), .val (.ref out), .val (.ref g)] [(.int (lcmpW (((d0 + d1) + d2).toInt64) (((d0 + d1) + d2).toInt64)))])) _
    refine XS.ifNo X33.here hx rfl (hb hby at_241) rfl ((if0 _ _).trans (teq ((lw_eq _ _).mpr rfl)).2) ?_
    show Steps p.tables e below (T33.setTop (mkF m 244 #[.val (.int p1), .val (.int p2), .val (.int p3), .val (.int d0), .val (.int d1), .val (.int d2), .val (.ref off), .val (.ref seg), .val (.ref out), .val (.ref g)] [])) _
    refine XS.iconst X33.here hx rfl (hb hby at_244) ?_
    show Steps p.tables e below (T33.setTop (mkF m 245 #[.val (.int p1), .val (.int p2), .val (.int p3), .val (.int d0), .val (.int d1), .val (.int d2), .val (.ref off), .val (.ref seg), .val (.ref out), .val (.ref g)] [(.int (1 : Int32))])) _
    refine XS.goto X33.here hx rfl (pc0 := 245) (pc' := 249) rfl (hb hby at_245) (by decide) (by decide) ?_
    show Steps p.tables e below (T33.setTop (mkF m 249 #[.val (.int p1), .val (.int p2), .val (.int p3), .val (.int d0), .val (.int d1), .val (.int d2), .val (.ref off), .val (.ref seg), .val (.ref out), .val (.ref g)] [(.int (1 : Int32))])) _
    exact retN X33 hx (t := .boolean) Bd.returns (by simp) (hb hby at_249) hr
  · show (QL h0 n0) _ T33.heap _
    rw [e33]
    exact ⟨rfl, N33, trivial⟩

set_option maxRecDepth 65536 in
set_option maxHeartbeats 40000000 in
theorem comes_1 {Post : Tables → Env → Array Value → State → Outcome → State → Prop} (hpost : ∀ tb e args s v u, (limb_1_1.after args s (.returned v) u = true ∧ limb_1_2.after args s (.returned v) u = true ∧ True) → FrameEnd s (.returned v) u (Jvm.fieldLocs frame_1_writes args s ++ Jvm.arrayLocs frame_1_arrays args s ++ Jvm.staticLocs frame_1_statics s) 24 128 → Post tb e args s (.returned v) u) :
    ArmFor flags0 classFile x code maxLocals ret World_1 tables_1 room_1 Calls_1 rest_1 Pre_1 Post := by
  intro l hfl _ _ p e ha hc hk s m args below hf hA hF happ hP
  obtain ⟨hcalls, hrest, hpre⟩ := hP
  obtain ⟨-, -, -, hnamed, -, -, -, hat⟩ := (Spec.applies_iff hf).mp happ
  obtain ⟨hg, hn⟩ := and_e (Cond.before_iff.mp (show (Jvm.Cond.and given_1 narrow_1).before args s = true from hpre))
  obtain ⟨hg_2, hg_3⟩ := and_e hg
  obtain ⟨hg_4, hg_5⟩ := and_e hg_3
  obtain ⟨hg_6, hg_7⟩ := and_e hg_5
  obtain ⟨w0, w1, w2, rfl⟩ : ∃ w0 w1 w2 : Value, args = #[w0, w1, w2] := by
    have hs : args.size = 3 := by simpa [Cond.value, given_1] using hg_2
    obtain ⟨L⟩ := args
    match L, hs with
    | [w0, w1, w2], _ => exact ⟨w0, w1, w2, rfl⟩
  have hw := fun d (hd : d ∈ tables_1) => atoms_spec (ws := Jvm.Cond.code x code maxLocals ret :: tables_1) hat d (List.mem_cons_of_mem _ hd)
  obtain ⟨i0, ei0⟩ := is_v hg_4
  obtain rfl : w0 = (.int i0) := Option.some.inj ei0
  obtain ⟨i1, ei1⟩ := is_v hg_6
  obtain rfl : w1 = (.int i1) := Option.some.inj ei1
  obtain ⟨i2, ei2⟩ := is_v hg_7
  obtain rfl : w2 = (.int i2) := Option.some.inj ei2
  have H : PaysQ l s s.heap x (Jvm.Cond.code x code maxLocals ret :: tables_1) room_1 #[(.int i0), (.int i1), (.int i2)] (QL s.heap s.heap.size) := by
    have b0 : 0 ≤ ((i0 &&& (2147483647 : Int32)) % (4 : Int32)).toInt ∧ ((i0 &&& (2147483647 : Int32)) % (4 : Int32)).toInt ≤ 3 := by rcases own_mod i0 with q | q | q | q <;> rw [q] <;> decide
    have b1 : 0 ≤ ((i1 &&& (2147483647 : Int32)) % (4 : Int32)).toInt ∧ ((i1 &&& (2147483647 : Int32)) % (4 : Int32)).toInt ≤ 3 := by rcases own_mod i1 with q | q | q | q <;> rw [q] <;> decide
    have b2 : 0 ≤ ((i2 &&& (2147483647 : Int32)) % (4 : Int32)).toInt ∧ ((i2 &&& (2147483647 : Int32)) % (4 : Int32)).toInt ≤ 3 := by rcases own_mod i2 with q | q | q | q <;> rw [q] <;> decide
    exact law_0 l s _ hw tables_1 i0 i1 i2 _ _ _ s.heap s.heap.size (Nat.le_refl _) rfl rfl rfl b0 b1 b2
  obtain ⟨n, o, h1, h2, h3, _, L, rfl, ⟨rfl, N, -⟩, hq⟩ := H p e ha hc hk s m _ below hf ((Spec.applies_iff_loose hf).mp happ).1 ⟨rfl, State.Warmed39.refl s, rfl⟩ trivial
  refine ⟨n, _, h1, h2, h3, hpost _ _ _ _ _ _ ⟨Cond.after_iff.mpr rfl, Cond.after_iff.mpr (eq_i res_at (Term.int_eval (1)) rfl), trivial⟩ ⟨hq.1, hq.2.1, (hq.2.2.sift fun y hy => Or.inr (N y hy)).mono (by decide) (by decide)⟩⟩
theorem main_1_1 : Claimed_1_1 := comes_1 fun _ _ _ _ _ _ h hF => ⟨h.1, hF⟩
theorem main_1_2 : Claimed_1_2 := comes_1 fun _ _ _ _ _ _ h hF => ⟨h.2.1, hF⟩
end Jvm.Pilot.@@N@@
namespace Jvm.Pilot.@@N@@
open Jvm Jvm.ClassFile Sem Op Lib Jvm.Free Jvm.Stand Jvm.Pilot.@@N@@.Jvm.D
/-! MADE BY PROGRAM (witnessworld.py) out of the Statement's table words and the real class files: 14 classes; the members and pool entries that the words name. The judged class is class 1, her method 1. -/
namespace start1
open Jvm.ClassFile
def u (s : String) : CpInfo := .utf8 (stringToUtf16 s)
/-- a pool by its gaps: so many unusable entries, then the entry; so many at the end -/
def gap : Nat → List CpInfo → List CpInfo
  | 0, r => r
  | n + 1, r => .unusable :: gap n r
def poolList (es : List (Nat × CpInfo)) (last : Nat) : List CpInfo := es.foldr (fun e r => gap e.1 (e.2 :: r)) (gap last [])
def pool (es : List (Nat × CpInfo)) (last : Nat) : Array CpInfo := ⟨poolList es last⟩
def fileOf (pool : Array CpInfo) (this : Nat) (attrs : Array Attribute := #[]) (ms : Array MethodInfo := #[]) (fl : Nat := 33) (sup : Nat := 0) (ifs : Array Nat := #[]) (fds : Array FieldInfo := #[]) : ClassFile where
  minorVersion := 0
  majorVersion := 65
  constantPool := pool
  accessFlags := fl
  thisClass := this
  superClass := sup
  interfaces := ifs
  fields := fds
  methods := ms
  attributes := attrs
def plain (name : String) (sup : Option ClassId) : Class where
  name := name
  kind := .ordinary
  loader := none
  accessFlags := 33
  super := sup
  interfaces := #[]
  cf := none
  fields := #[]
  methods := #[]
  instanceTypes := #[]
  staticTypes := #[]
  resolved := #[]
  callSites := []
  init := .initialized
  statics := none
  mirror := none

def pool0 : Array CpInfo := pool [(5, u "<init>"), (0, u "()V"), (1, .class_ 10), (1, u "java/lang/Object")] 113

def k0c0 : Code := { maxStack := 0, maxLocals := 1, code := object_method_1_code, exceptionTable := #[], attributes := #[] }
def k0m0 : Method := { name := "<init>", desc := "()V", sig := { parameters := [], returnType := none }, accessFlags := 1, code := some k0c0 }
/-- java/lang/Object -/
def k0 : Class := { plain "java/lang/Object" none with
  accessFlags := 33
  interfaces := #[]
  cf := some (fileOf pool0 8 #[] #[{ accessFlags := 1, nameIndex := 5, descriptorIndex := 6, attributes := #[] }] 33 0 #[] #[])
  fields := #[]
  methods := #[k0m0]
  instanceTypes := #[]
  staticTypes := #[]
  resolved := Array.replicate 124 none
  statics := none }

def pool1 : Array CpInfo := pool [(2, .class_ 4), (1, u "java/lang/Object"), (0, u "<init>"), (0, u "()V"), (0, .integer 2147483647), (0, .class_ 9), (0, u "com/example/vexpi/vexpi/graph/SegmentedIntArray"), (0, .methodref 8 11), (0, .nameAndType 5 12), (0, u "(J)V"), (0, .methodref 14 15), (0, .class_ 16), (0, .nameAndType 17 18), (0, u "com/example/vexpi/vexpi/graph/LinkGraphGetInDegreePinLaw"), (0, u "fill"), (0, u "(Lcom/example/vexpi/vexpi/graph/SegmentedIntArray;JI)V"), (0, .methodref 14 20), (0, .nameAndType 21 22), (0, u "above"), (0, u "(II)I"), (0, .class_ 24), (0, u "com/example/vexpi/vexpi/graph/LinkGraph"), (0, .methodref 23 26), (0, .nameAndType 5 27), (0, u "([J[JLcom/example/vexpi/vexpi/graph/SegmentedIntArray;[I)V"), (0, .methodref 23 29), (0, .nameAndType 30 31), (0, u "getInDegree"), (0, u "(I)I"), (0, .methodref 23 33), (0, .nameAndType 34 35), (0, u "getLinkCount"), (0, u "()J"), (0, .methodref 8 37), (0, .nameAndType 38 39), (0, u "set"), (0, u "(JI)V"), (0, .long 2), (3, u "law"), (0, u "(III)Z")] 7

def k1m0 : Method := { name := "<init>", desc := "()V", sig := { parameters := [], returnType := none }, accessFlags := 1, code := none }
def k1c1 : Code := { maxStack := 6, maxLocals := 10, code := code, exceptionTable := #[], attributes := #[] }
def k1m1 : Method := { name := "law", desc := "(III)Z", sig := { parameters := [.int, .int, .int], returnType := some .boolean }, accessFlags := 9, code := some k1c1 }
def k1c2 : Code := { maxStack := 2, maxLocals := 2, code := method_3_code, exceptionTable := #[], attributes := #[] }
def k1m2 : Method := { name := "above", desc := "(II)I", sig := { parameters := [.int, .int], returnType := some .int }, accessFlags := 10, code := some k1c2 }
def k1c3 : Code := { maxStack := 5, maxLocals := 4, code := method_4_code, exceptionTable := #[], attributes := #[] }
def k1m3 : Method := { name := "fill", desc := "(Lcom/example/vexpi/vexpi/graph/SegmentedIntArray;JI)V", sig := { parameters := [(.object "com/example/vexpi/vexpi/graph/SegmentedIntArray"), .long, .int], returnType := none }, accessFlags := 10, code := some k1c3 }
/-- com/example/vexpi/vexpi/graph/LinkGraphGetInDegreePinLaw -/
def k1 : Class := { plain "com/example/vexpi/vexpi/graph/LinkGraphGetInDegreePinLaw" (some 0) with
  accessFlags := 49
  interfaces := #[]
  cf := some (fileOf pool1 14 #[] #[{ accessFlags := 1, nameIndex := 5, descriptorIndex := 6, attributes := #[] }, { accessFlags := 9, nameIndex := 44, descriptorIndex := 45, attributes := #[] }, { accessFlags := 10, nameIndex := 21, descriptorIndex := 22, attributes := #[] }, { accessFlags := 10, nameIndex := 17, descriptorIndex := 18, attributes := #[] }] 49 2 #[] #[])
  fields := #[]
  methods := #[k1m0, k1m1, k1m2, k1m3]
  instanceTypes := #[]
  staticTypes := #[]
  resolved := Array.replicate 53 none
  statics := none }

def pool2 : Array CpInfo := pool [(1, .class_ 2), (0, u "com/example/vexpi/vexpi/graph/SegmentedIntArray"), (0, .methodref 4 5), (0, .class_ 6), (0, .nameAndType 7 8), (0, u "java/lang/Object"), (0, u "<init>"), (0, u "()V"), (9, .long 65535), (1, .methodref 21 22), (0, .class_ 23), (0, .nameAndType 24 25), (0, u "java/lang/Math"), (0, u "toIntExact"), (0, u "(J)I"), (0, .class_ 27), (0, u "[I"), (0, .fieldref 1 29), (0, .nameAndType 30 31), (0, u "segments"), (0, u "[[I"), (0, .long 65536), (1, .methodref 21 35), (0, .nameAndType 36 37), (0, u "min"), (0, u "(JJ)J"), (0, .fieldref 1 39), (0, .nameAndType 40 41), (0, u "length"), (0, u "J"), (0, .methodref 1 43), (0, .nameAndType 44 45), (0, u "segmentOf"), (0, u "(J)[I"), (0, .methodref 1 47), (0, .nameAndType 48 25), (0, u "positionOf"), (2, u "NO_INTS"), (9, u "SEGMENT_SHIFT"), (0, u "I"), (2, u "SEGMENT_LENGTH"), (0, u "POSITION_MASK"), (0, u "(J)V"), (3, u "()J"), (0, u "set"), (0, u "(JI)V")] 22

def k2c0 : Code := { maxStack := 8, maxLocals := 7, code := prog_4_method_1_code, exceptionTable := #[], attributes := #[] }
def k2m0 : Method := { name := "<init>", desc := "(J)V", sig := { parameters := [.long], returnType := none }, accessFlags := 0, code := some k2c0 }
def k2c1 : Code := { maxStack := 2, maxLocals := 1, code := prog_4_method_2_code, exceptionTable := #[], attributes := #[] }
def k2m1 : Method := { name := "length", desc := "()J", sig := { parameters := [], returnType := some .long }, accessFlags := 0, code := some k2c1 }
def k2c2 : Code := { maxStack := 3, maxLocals := 4, code := prog_4_method_3_code, exceptionTable := #[], attributes := #[] }
def k2m2 : Method := { name := "set", desc := "(JI)V", sig := { parameters := [.long, .int], returnType := none }, accessFlags := 0, code := some k2c2 }
def k2c3 : Code := { maxStack := 4, maxLocals := 3, code := prog_4_method_4_code, exceptionTable := #[], attributes := #[] }
def k2m3 : Method := { name := "segmentOf", desc := "(J)[I", sig := { parameters := [.long], returnType := some (.array .int) }, accessFlags := 0, code := some k2c3 }
def k2c4 : Code := { maxStack := 4, maxLocals := 2, code := prog_4_method_5_code, exceptionTable := #[], attributes := #[] }
def k2m4 : Method := { name := "positionOf", desc := "(J)I", sig := { parameters := [.long], returnType := some .int }, accessFlags := 8, code := some k2c4 }
/-- com/example/vexpi/vexpi/graph/SegmentedIntArray -/
def k2 : Class := { plain "com/example/vexpi/vexpi/graph/SegmentedIntArray" (some 0) with
  accessFlags := 32
  interfaces := #[]
  cf := some (fileOf pool2 1 #[] #[{ accessFlags := 0, nameIndex := 7, descriptorIndex := 67, attributes := #[] }, { accessFlags := 0, nameIndex := 40, descriptorIndex := 71, attributes := #[] }, { accessFlags := 0, nameIndex := 72, descriptorIndex := 73, attributes := #[] }, { accessFlags := 0, nameIndex := 44, descriptorIndex := 45, attributes := #[] }, { accessFlags := 8, nameIndex := 48, descriptorIndex := 25, attributes := #[] }] 32 4 #[] #[{ accessFlags := 26, nameIndex := 61, descriptorIndex := 62, attributes := #[] }, { accessFlags := 24, nameIndex := 65, descriptorIndex := 62, attributes := #[] }, { accessFlags := 26, nameIndex := 66, descriptorIndex := 41, attributes := #[] }, { accessFlags := 26, nameIndex := 51, descriptorIndex := 27, attributes := #[] }, { accessFlags := 18, nameIndex := 30, descriptorIndex := 31, attributes := #[] }, { accessFlags := 18, nameIndex := 40, descriptorIndex := 41, attributes := #[] }])
  fields := #[{ name := "SEGMENT_SHIFT", type := .int, accessFlags := 26, slot := 0, constantValue := 0 }, { name := "SEGMENT_LENGTH", type := .int, accessFlags := 24, slot := 1, constantValue := 0 }, { name := "POSITION_MASK", type := .long, accessFlags := 26, slot := 2, constantValue := 0 }, { name := "NO_INTS", type := (.array .int), accessFlags := 26, slot := 3, constantValue := 0 }, { name := "segments", type := (.array (.array .int)), accessFlags := 18, slot := 0, constantValue := 0 }, { name := "length", type := .long, accessFlags := 18, slot := 1, constantValue := 0 }]
  methods := #[k2m0, k2m1, k2m2, k2m3, k2m4]
  instanceTypes := #[(.array (.array .int)), .long]
  staticTypes := #[.int, .int, .long, (.array .int)]
  resolved := Array.replicate 96 none
  statics := none }

def pool3 : Array CpInfo := pool [(1, .class_ 2), (0, u "java/lang/Math"), (1, .class_ 6), (1, u "java/lang/Object"), (0, u "<init>"), (0, u "()V"), (89, .class_ 100), (1, u "java/lang/Math$RandomNumberGeneratorHolder"), (20, u "(JJ)J"), (50, u "negativeZeroFloatBits"), (0, u "J"), (2, u "negativeZeroDoubleBits"), (24, u "min"), (43, u "$assertionsDisabled"), (0, u "Z"), (91, u "twoToTheDoubleScaleDown"), (0, u "D"), (4, u "twoToTheDoubleScaleUp"), (9, u "E"), (3, u "PI"), (2, u "TAU"), (2, u "DEGREES_TO_RADIANS"), (0, u "RADIANS_TO_DEGREES"), (39, u "toIntExact"), (0, u "(J)I")] 53

def k3m0 : Method := { name := "<init>", desc := "()V", sig := { parameters := [], returnType := none }, accessFlags := 2, code := none }
def k3c1 : Code := { maxStack := 4, maxLocals := 2, code := jdk_29_method_43_code, exceptionTable := #[], attributes := #[] }
def k3m1 : Method := { name := "toIntExact", desc := "(J)I", sig := { parameters := [.long], returnType := some .int }, accessFlags := 9, code := some k3c1 }
def k3c2 : Code := { maxStack := 4, maxLocals := 4, code := jdk_29_method_70_code, exceptionTable := #[], attributes := #[] }
def k3m2 : Method := { name := "min", desc := "(JJ)J", sig := { parameters := [.long, .long], returnType := some .long }, accessFlags := 9, code := some k3c2 }
/-- java/lang/Math -/
def k3 : Class := { plain "java/lang/Math" (some 0) with
  accessFlags := 49
  interfaces := #[]
  cf := some (fileOf pool3 1 #[.nestMembers #[98]] #[{ accessFlags := 2, nameIndex := 7, descriptorIndex := 8, attributes := #[] }, { accessFlags := 9, nameIndex := 405, descriptorIndex := 406, attributes := #[] }, { accessFlags := 9, nameIndex := 201, descriptorIndex := 121, attributes := #[] }] 49 4 #[] #[{ accessFlags := 25, nameIndex := 354, descriptorIndex := 339, attributes := #[] }, { accessFlags := 25, nameIndex := 358, descriptorIndex := 339, attributes := #[] }, { accessFlags := 25, nameIndex := 361, descriptorIndex := 339, attributes := #[] }, { accessFlags := 26, nameIndex := 364, descriptorIndex := 339, attributes := #[] }, { accessFlags := 26, nameIndex := 365, descriptorIndex := 339, attributes := #[] }, { accessFlags := 26, nameIndex := 172, descriptorIndex := 173, attributes := #[] }, { accessFlags := 26, nameIndex := 176, descriptorIndex := 173, attributes := #[] }, { accessFlags := 8, nameIndex := 344, descriptorIndex := 339, attributes := #[] }, { accessFlags := 8, nameIndex := 338, descriptorIndex := 339, attributes := #[] }, { accessFlags := 4120, nameIndex := 245, descriptorIndex := 246, attributes := #[] }])
  fields := #[{ name := "E", type := .double, accessFlags := 25, slot := 0, constantValue := 0 }, { name := "PI", type := .double, accessFlags := 25, slot := 1, constantValue := 0 }, { name := "TAU", type := .double, accessFlags := 25, slot := 2, constantValue := 0 }, { name := "DEGREES_TO_RADIANS", type := .double, accessFlags := 26, slot := 3, constantValue := 0 }, { name := "RADIANS_TO_DEGREES", type := .double, accessFlags := 26, slot := 4, constantValue := 0 }, { name := "negativeZeroFloatBits", type := .long, accessFlags := 26, slot := 5, constantValue := 0 }, { name := "negativeZeroDoubleBits", type := .long, accessFlags := 26, slot := 6, constantValue := 0 }, { name := "twoToTheDoubleScaleUp", type := .double, accessFlags := 8, slot := 7, constantValue := 0 }, { name := "twoToTheDoubleScaleDown", type := .double, accessFlags := 8, slot := 8, constantValue := 0 }, { name := "$assertionsDisabled", type := .boolean, accessFlags := 4120, slot := 9, constantValue := 0 }]
  methods := #[k3m0, k3m1, k3m2]
  instanceTypes := #[]
  staticTypes := #[.double, .double, .double, .double, .double, .long, .long, .double, .double, .boolean]
  resolved := Array.replicate 460 none
  statics := none }

def pool4 : Array CpInfo := pool [(3, .class_ 4), (0, u "com/example/vexpi/vexpi/graph/LinkGraph"), (0, .methodref 6 7), (0, .class_ 8), (0, .nameAndType 9 10), (0, u "java/lang/Object"), (0, u "<init>"), (0, u "()V"), (0, .fieldref 3 12), (0, .nameAndType 13 14), (0, u "ids"), (0, u "[J"), (0, .fieldref 3 16), (0, .nameAndType 17 14), (0, u "inOffsets"), (0, .fieldref 3 19), (0, .nameAndType 20 21), (0, u "inSources"), (0, u "Lcom/example/vexpi/vexpi/graph/SegmentedIntArray;"), (0, .fieldref 3 23), (0, .nameAndType 24 25), (0, u "outDegrees"), (0, u "[I"), (0, .fieldref 3 27), (0, .nameAndType 28 29), (0, u "danglingCount"), (0, u "I"), (7, .methodref 38 39), (0, .class_ 40), (0, .nameAndType 41 42), (0, u "com/example/vexpi/vexpi/graph/SegmentedIntArray"), (0, u "length"), (0, u "()J"), (37, u "([J[JLcom/example/vexpi/vexpi/graph/SegmentedIntArray;[I)V"), (4, u "MAX_LENGTH"), (2, u "MAX_PAGES"), (10, u "getLinkCount"), (5, u "(I)I"), (0, u "getInDegree")] 11

def k4c0 : Code := { maxStack := 2, maxLocals := 10, code := prog_1_method_1_code, exceptionTable := #[], attributes := #[] }
def k4m0 : Method := { name := "<init>", desc := "([J[JLcom/example/vexpi/vexpi/graph/SegmentedIntArray;[I)V", sig := { parameters := [(.array .long), (.array .long), (.object "com/example/vexpi/vexpi/graph/SegmentedIntArray"), (.array .int)], returnType := none }, accessFlags := 0, code := some k4c0 }
def k4c1 : Code := { maxStack := 2, maxLocals := 1, code := prog_1_method_4_code, exceptionTable := #[], attributes := #[] }
def k4m1 : Method := { name := "getLinkCount", desc := "()J", sig := { parameters := [], returnType := some .long }, accessFlags := 1, code := some k4c1 }
def k4c2 : Code := { maxStack := 4, maxLocals := 2, code := prog_1_method_9_code, exceptionTable := #[], attributes := #[] }
def k4m2 : Method := { name := "getInDegree", desc := "(I)I", sig := { parameters := [.int], returnType := some .int }, accessFlags := 1, code := some k4c2 }
/-- com/example/vexpi/vexpi/graph/LinkGraph -/
def k4 : Class := { plain "com/example/vexpi/vexpi/graph/LinkGraph" (some 0) with
  accessFlags := 33
  interfaces := #[]
  cf := some (fileOf pool4 3 #[] #[{ accessFlags := 0, nameIndex := 9, descriptorIndex := 80, attributes := #[] }, { accessFlags := 1, nameIndex := 99, descriptorIndex := 42, attributes := #[] }, { accessFlags := 1, nameIndex := 106, descriptorIndex := 105, attributes := #[] }] 33 6 #[] #[{ accessFlags := 24, nameIndex := 85, descriptorIndex := 29, attributes := #[] }, { accessFlags := 25, nameIndex := 88, descriptorIndex := 29, attributes := #[] }, { accessFlags := 18, nameIndex := 13, descriptorIndex := 14, attributes := #[] }, { accessFlags := 18, nameIndex := 17, descriptorIndex := 14, attributes := #[] }, { accessFlags := 18, nameIndex := 20, descriptorIndex := 21, attributes := #[] }, { accessFlags := 18, nameIndex := 24, descriptorIndex := 25, attributes := #[] }, { accessFlags := 18, nameIndex := 28, descriptorIndex := 29, attributes := #[] }])
  fields := #[{ name := "MAX_LENGTH", type := .int, accessFlags := 24, slot := 0, constantValue := 0 }, { name := "MAX_PAGES", type := .int, accessFlags := 25, slot := 1, constantValue := 0 }, { name := "ids", type := (.array .long), accessFlags := 18, slot := 0, constantValue := 0 }, { name := "inOffsets", type := (.array .long), accessFlags := 18, slot := 1, constantValue := 0 }, { name := "inSources", type := (.object "com/example/vexpi/vexpi/graph/SegmentedIntArray"), accessFlags := 18, slot := 2, constantValue := 0 }, { name := "outDegrees", type := (.array .int), accessFlags := 18, slot := 3, constantValue := 0 }, { name := "danglingCount", type := .int, accessFlags := 18, slot := 4, constantValue := 0 }]
  methods := #[k4m0, k4m1, k4m2]
  instanceTypes := #[(.array .long), (.array .long), (.object "com/example/vexpi/vexpi/graph/SegmentedIntArray"), (.array .int), .int]
  staticTypes := #[.int, .int]
  resolved := Array.replicate 118 none
  statics := none }

def pool5 : Array CpInfo := pool [(1, u "java/lang/Cloneable"), (0, .class_ 1), (0, u "java/lang/Object"), (0, .class_ 3)] 3

/-- java/lang/Cloneable -/
def k5 : Class := { plain "java/lang/Cloneable" (some 0) with
  accessFlags := 1537
  interfaces := #[]
  cf := some (fileOf pool5 2 #[] #[] 1537 4 #[] #[])
  fields := #[]
  methods := #[]
  instanceTypes := #[]
  staticTypes := #[]
  resolved := Array.replicate 8 none
  statics := none }

def pool6 : Array CpInfo := pool [(1, u "java/io/Serializable"), (0, .class_ 1), (0, u "java/lang/Object"), (0, .class_ 3)] 3

/-- java/io/Serializable -/
def k6 : Class := { plain "java/io/Serializable" (some 0) with
  accessFlags := 1537
  interfaces := #[]
  cf := some (fileOf pool6 2 #[] #[] 1537 4 #[] #[])
  fields := #[]
  methods := #[]
  instanceTypes := #[]
  staticTypes := #[]
  resolved := Array.replicate 8 none
  statics := none }

/-- the primitive byte -/
def k7 : Class := { plain "byte" none with kind := .primitive 'B', accessFlags := 0x411 }
/-- [B -/
def k8 : Class := { plain "[B" (some 0) with kind := .array 7 .byte, interfaces := #[5, 6], accessFlags := 1041 }

/-- the primitive int -/
def k9 : Class := { plain "int" none with kind := .primitive 'I', accessFlags := 0x411 }
/-- [I -/
def k10 : Class := { plain "[I" (some 0) with kind := .array 9 .int, interfaces := #[5, 6], accessFlags := 1041 }

/-- the primitive long -/
def k11 : Class := { plain "long" none with kind := .primitive 'J', accessFlags := 0x411 }
/-- [J -/
def k12 : Class := { plain "[J" (some 0) with kind := .array 11 .long, interfaces := #[5, 6], accessFlags := 1041 }

/-- [L[I; -/
def k13 : Class := { plain "[[I" (some 0) with kind := .array 10 (.array .int), interfaces := #[5, 6], accessFlags := 1041 }

def heap : Heap := #[{ cls := 13, slots := #[.null], vm := .none }]
def classes : Array Class := #[k0, k1, k2, k3, k4, k5, k6, k7, k8, k9, k10, k11, k12, k13]
def interned : List (Array UInt16 × Addr) := []
def slotsUsed : Nat := 1
def theMethod : MethodId := ⟨1, 1⟩
def args0 : Array Value := #[.int 5, .int 6, .int 7]
def aboutOver (below : List Frame) : State where
  vm := { classes := classes, interned := interned.toArray }
  heap := heap
  slotsUsed := slotsUsed
  threads := #[{ frames := .invoking theMethod args0 :: below }]
def below0 : List Frame := [.native { method := ⟨0, 0⟩, args := #[] }]
def about1 : State := aboutOver below0
def p0 : Program := .bare "" "" ""
def e0 : Env := launch0.env 0 0 0
theorem w_frames : about1.frames = Frame.invoking theMethod args0 :: below0 := rfl
set_option maxRecDepth 65536 in
theorem w_args : argsFit about1.vm theMethod args0 = true := by decide +kernel
set_option maxRecDepth 65536 in
theorem w_heap : heapFits about1 = true := by decide +kernel
set_option maxRecDepth 65536 in
theorem w_runnable : about1.curStatus? = some .runnable := by decide +kernel
set_option maxRecDepth 65536 in
theorem w_alone : about1.alone = true := by decide +kernel
set_option maxRecDepth 65536 in
theorem w_named : about1.methodNamed? x = some theMethod := by decide +kernel
set_option maxRecDepth 65536 in
theorem w_hears : about1.hears theMethod below0 = true := by decide +kernel
set_option maxRecDepth 65536 in
theorem w_ripe : about1.ripe theMethod args0 below0 = true := by decide +kernel
theorem w_running : about1.status = .running := rfl
set_option maxRecDepth 65536 in
theorem w_room : about1.hasRoom e0.platform room_1 = true :=
  launch0.hasRoom_least _ room_1 (by decide +kernel) (by decide +kernel) (by decide +kernel) (by decide +kernel) (by decide +kernel) (by decide +kernel)
theorem allAtoms_all (ts : List Jvm.Cond) (a : Array Jvm.Value) (st : Jvm.State) : (allAtoms ts).before a st = ts.all (fun c => c.before a st) := by
  induction ts with
  | nil => rfl
  | cons c t ih =>
    show (Jvm.Cond.and c (allAtoms t)).before a st = _
    rw [Jvm.Cond.before_and, ih, List.all_cons]
def words1 : List Jvm.Cond := Jvm.Cond.code x code maxLocals ret :: tables_1
/-- a 'code' word, met by the world's own term for the bytes: nothing is compared byte by byte -/
theorem code_word {y : MethodName} {bytes : ByteArray} {mx : Nat} {rt : Option FieldType} {a : Array Value} {s : State} {m : MethodId} {meth : Method} {c : Code} (h1 : s.methodNamed? y = some m) (h2 : s.vm.method? m = some meth) (h3 : meth.code = some c) (h4 : c.code = bytes)
    (h5 : (c.maxLocals == mx && c.exceptionTable.isEmpty && decide (c.maxStack ≤ mostOperands) && decide (meth.sig.returnType = rt) && !meth.locks && decide (parseMethodDescriptor y.desc = some meth.sig)) = true) : (Jvm.Cond.code y bytes mx rt).before a s = true := by
  simp only [Bool.and_eq_true, beq_iff_eq, Bool.not_eq_true', decide_eq_true_eq] at h5
  obtain ⟨⟨⟨⟨⟨g1, g2⟩, g3⟩, g4⟩, g5⟩, g6⟩ := h5
  simp [Cond.before, Cond.holds, Cond.value, h1, h2, h3, h4, g1, g2, g3, g4, g5, g6]
def isCode : Jvm.Cond → Bool
  | .code _ _ _ _ => true
  | _ => false
theorem all_split {L : List Jvm.Cond} {P : Jvm.Cond → Bool} (h1 : L.all (fun c => isCode c || P c) = true) (h2 : ∀ c ∈ L.filter isCode, P c = true) : L.all P = true := by
  refine List.all_eq_true.mpr fun c hc => ?_
  have h := List.all_eq_true.mp h1 c hc
  rcases Bool.eq_false_or_eq_true (isCode c) with hi | hi
  · exact h2 c (List.mem_filter.mpr ⟨hc, hi⟩)
  · simpa [hi] using h
set_option maxRecDepth 65536 in
theorem w_c0 : (Jvm.Cond.code x code maxLocals ret).before args0 about1 = true := code_word (m := ⟨1, 1⟩) (meth := k1m1) (c := k1c1) (by decide +kernel) rfl rfl rfl (by decide +kernel)
set_option maxRecDepth 65536 in
theorem w_c1 : (Jvm.Cond.code ({ cls := "com/example/vexpi/vexpi/graph/SegmentedIntArray", name := "<init>", desc := "(J)V" } : Jvm.MethodName) prog_4_method_1_code (7 : Nat) (Option.none : Option Jvm.ClassFile.FieldType)).before args0 about1 = true := code_word (m := ⟨2, 0⟩) (meth := k2m0) (c := k2c0) (by decide +kernel) rfl rfl rfl (by decide +kernel)
set_option maxRecDepth 65536 in
theorem w_c2 : (Jvm.Cond.code ({ cls := "java/lang/Object", name := "<init>", desc := "()V" } : Jvm.MethodName) object_method_1_code (1 : Nat) (Option.none : Option Jvm.ClassFile.FieldType)).before args0 about1 = true := code_word (m := ⟨0, 0⟩) (meth := k0m0) (c := k0c0) (by decide +kernel) rfl rfl rfl (by decide +kernel)
set_option maxRecDepth 65536 in
theorem w_c3 : (Jvm.Cond.code ({ cls := "java/lang/Math", name := "toIntExact", desc := "(J)I" } : Jvm.MethodName) jdk_29_method_43_code (2 : Nat) (Option.some Jvm.ClassFile.FieldType.int)).before args0 about1 = true := code_word (m := ⟨3, 1⟩) (meth := k3m1) (c := k3c1) (by decide +kernel) rfl rfl rfl (by decide +kernel)
set_option maxRecDepth 65536 in
theorem w_c4 : (Jvm.Cond.code ({ cls := "java/lang/Math", name := "min", desc := "(JJ)J" } : Jvm.MethodName) jdk_29_method_70_code (4 : Nat) (Option.some Jvm.ClassFile.FieldType.long)).before args0 about1 = true := code_word (m := ⟨3, 2⟩) (meth := k3m2) (c := k3c2) (by decide +kernel) rfl rfl rfl (by decide +kernel)
set_option maxRecDepth 65536 in
theorem w_c5 : (Jvm.Cond.code ({ cls := "com/example/vexpi/vexpi/graph/LinkGraphGetInDegreePinLaw", name := "fill", desc := "(Lcom/example/vexpi/vexpi/graph/SegmentedIntArray;JI)V" } : Jvm.MethodName) method_4_code (4 : Nat) (Option.none : Option Jvm.ClassFile.FieldType)).before args0 about1 = true := code_word (m := ⟨1, 3⟩) (meth := k1m3) (c := k1c3) (by decide +kernel) rfl rfl rfl (by decide +kernel)
set_option maxRecDepth 65536 in
theorem w_c6 : (Jvm.Cond.code ({ cls := "com/example/vexpi/vexpi/graph/SegmentedIntArray", name := "set", desc := "(JI)V" } : Jvm.MethodName) prog_4_method_3_code (4 : Nat) (Option.none : Option Jvm.ClassFile.FieldType)).before args0 about1 = true := code_word (m := ⟨2, 2⟩) (meth := k2m2) (c := k2c2) (by decide +kernel) rfl rfl rfl (by decide +kernel)
set_option maxRecDepth 65536 in
theorem w_c7 : (Jvm.Cond.code ({ cls := "com/example/vexpi/vexpi/graph/SegmentedIntArray", name := "segmentOf", desc := "(J)[I" } : Jvm.MethodName) prog_4_method_4_code (3 : Nat) (Option.some (Jvm.ClassFile.FieldType.array Jvm.ClassFile.FieldType.int))).before args0 about1 = true := code_word (m := ⟨2, 3⟩) (meth := k2m3) (c := k2c3) (by decide +kernel) rfl rfl rfl (by decide +kernel)
set_option maxRecDepth 65536 in
theorem w_c8 : (Jvm.Cond.code ({ cls := "com/example/vexpi/vexpi/graph/SegmentedIntArray", name := "positionOf", desc := "(J)I" } : Jvm.MethodName) prog_4_method_5_code (2 : Nat) (Option.some Jvm.ClassFile.FieldType.int)).before args0 about1 = true := code_word (m := ⟨2, 4⟩) (meth := k2m4) (c := k2c4) (by decide +kernel) rfl rfl rfl (by decide +kernel)
set_option maxRecDepth 65536 in
theorem w_c9 : (Jvm.Cond.code ({ cls := "com/example/vexpi/vexpi/graph/LinkGraphGetInDegreePinLaw", name := "above", desc := "(II)I" } : Jvm.MethodName) method_3_code (2 : Nat) (Option.some Jvm.ClassFile.FieldType.int)).before args0 about1 = true := code_word (m := ⟨1, 2⟩) (meth := k1m2) (c := k1c2) (by decide +kernel) rfl rfl rfl (by decide +kernel)
set_option maxRecDepth 65536 in
theorem w_c10 : (Jvm.Cond.code ({ cls := "com/example/vexpi/vexpi/graph/LinkGraph", name := "<init>", desc := "([J[JLcom/example/vexpi/vexpi/graph/SegmentedIntArray;[I)V" } : Jvm.MethodName) prog_1_method_1_code (10 : Nat) (Option.none : Option Jvm.ClassFile.FieldType)).before args0 about1 = true := code_word (m := ⟨4, 0⟩) (meth := k4m0) (c := k4c0) (by decide +kernel) rfl rfl rfl (by decide +kernel)
set_option maxRecDepth 65536 in
theorem w_c11 : (Jvm.Cond.code ({ cls := "com/example/vexpi/vexpi/graph/LinkGraph", name := "getInDegree", desc := "(I)I" } : Jvm.MethodName) prog_1_method_9_code (2 : Nat) (Option.some Jvm.ClassFile.FieldType.int)).before args0 about1 = true := code_word (m := ⟨4, 2⟩) (meth := k4m2) (c := k4c2) (by decide +kernel) rfl rfl rfl (by decide +kernel)
set_option maxRecDepth 65536 in
theorem w_c12 : (Jvm.Cond.code ({ cls := "com/example/vexpi/vexpi/graph/LinkGraph", name := "getLinkCount", desc := "()J" } : Jvm.MethodName) prog_1_method_4_code (1 : Nat) (Option.some Jvm.ClassFile.FieldType.long)).before args0 about1 = true := code_word (m := ⟨4, 1⟩) (meth := k4m1) (c := k4c1) (by decide +kernel) rfl rfl rfl (by decide +kernel)
set_option maxRecDepth 65536 in
theorem w_c13 : (Jvm.Cond.code ({ cls := "com/example/vexpi/vexpi/graph/SegmentedIntArray", name := "length", desc := "()J" } : Jvm.MethodName) prog_4_method_2_code (1 : Nat) (Option.some Jvm.ClassFile.FieldType.long)).before args0 about1 = true := code_word (m := ⟨2, 1⟩) (meth := k2m1) (c := k2c1) (by decide +kernel) rfl rfl rfl (by decide +kernel)
def codes1 : List Jvm.Cond := [Jvm.Cond.code x code maxLocals ret, Jvm.Cond.code ({ cls := "com/example/vexpi/vexpi/graph/SegmentedIntArray", name := "<init>", desc := "(J)V" } : Jvm.MethodName) prog_4_method_1_code (7 : Nat) (Option.none : Option Jvm.ClassFile.FieldType), Jvm.Cond.code ({ cls := "java/lang/Object", name := "<init>", desc := "()V" } : Jvm.MethodName) object_method_1_code (1 : Nat) (Option.none : Option Jvm.ClassFile.FieldType), Jvm.Cond.code ({ cls := "java/lang/Math", name := "toIntExact", desc := "(J)I" } : Jvm.MethodName) jdk_29_method_43_code (2 : Nat) (Option.some Jvm.ClassFile.FieldType.int), Jvm.Cond.code ({ cls := "java/lang/Math", name := "min", desc := "(JJ)J" } : Jvm.MethodName) jdk_29_method_70_code (4 : Nat) (Option.some Jvm.ClassFile.FieldType.long), Jvm.Cond.code ({ cls := "com/example/vexpi/vexpi/graph/LinkGraphGetInDegreePinLaw", name := "fill", desc := "(Lcom/example/vexpi/vexpi/graph/SegmentedIntArray;JI)V" } : Jvm.MethodName) method_4_code (4 : Nat) (Option.none : Option Jvm.ClassFile.FieldType), Jvm.Cond.code ({ cls := "com/example/vexpi/vexpi/graph/SegmentedIntArray", name := "set", desc := "(JI)V" } : Jvm.MethodName) prog_4_method_3_code (4 : Nat) (Option.none : Option Jvm.ClassFile.FieldType), Jvm.Cond.code ({ cls := "com/example/vexpi/vexpi/graph/SegmentedIntArray", name := "segmentOf", desc := "(J)[I" } : Jvm.MethodName) prog_4_method_4_code (3 : Nat) (Option.some (Jvm.ClassFile.FieldType.array Jvm.ClassFile.FieldType.int)), Jvm.Cond.code ({ cls := "com/example/vexpi/vexpi/graph/SegmentedIntArray", name := "positionOf", desc := "(J)I" } : Jvm.MethodName) prog_4_method_5_code (2 : Nat) (Option.some Jvm.ClassFile.FieldType.int), Jvm.Cond.code ({ cls := "com/example/vexpi/vexpi/graph/LinkGraphGetInDegreePinLaw", name := "above", desc := "(II)I" } : Jvm.MethodName) method_3_code (2 : Nat) (Option.some Jvm.ClassFile.FieldType.int), Jvm.Cond.code ({ cls := "com/example/vexpi/vexpi/graph/LinkGraph", name := "<init>", desc := "([J[JLcom/example/vexpi/vexpi/graph/SegmentedIntArray;[I)V" } : Jvm.MethodName) prog_1_method_1_code (10 : Nat) (Option.none : Option Jvm.ClassFile.FieldType), Jvm.Cond.code ({ cls := "com/example/vexpi/vexpi/graph/LinkGraph", name := "getInDegree", desc := "(I)I" } : Jvm.MethodName) prog_1_method_9_code (2 : Nat) (Option.some Jvm.ClassFile.FieldType.int), Jvm.Cond.code ({ cls := "com/example/vexpi/vexpi/graph/LinkGraph", name := "getLinkCount", desc := "()J" } : Jvm.MethodName) prog_1_method_4_code (1 : Nat) (Option.some Jvm.ClassFile.FieldType.long), Jvm.Cond.code ({ cls := "com/example/vexpi/vexpi/graph/SegmentedIntArray", name := "length", desc := "()J" } : Jvm.MethodName) prog_4_method_2_code (1 : Nat) (Option.some Jvm.ClassFile.FieldType.long)]
set_option maxRecDepth 65536 in
theorem codes_eq : words1.filter isCode = codes1 := rfl
theorem w_codes : ∀ c ∈ words1.filter isCode, c.before args0 about1 = true := by
  rw [codes_eq]
  intro c hc
  simp only [codes1, List.mem_cons, List.not_mem_nil, or_false] at hc
  rcases hc with rfl | rfl | rfl | rfl | rfl | rfl | rfl | rfl | rfl | rfl | rfl | rfl | rfl | rfl
  · exact w_c0
  · exact w_c1
  · exact w_c2
  · exact w_c3
  · exact w_c4
  · exact w_c5
  · exact w_c6
  · exact w_c7
  · exact w_c8
  · exact w_c9
  · exact w_c10
  · exact w_c11
  · exact w_c12
  · exact w_c13
set_option maxRecDepth 65536 in
theorem w_t1 : (words1.take 24).all (fun c => isCode c || c.before args0 about1) = true := by decide +kernel
set_option maxRecDepth 65536 in
theorem w_t2 : ((words1.drop 24).take 24).all (fun c => isCode c || c.before args0 about1) = true := by decide +kernel
set_option maxRecDepth 65536 in
theorem w_t3 : (((words1.drop 24).drop 24).take 24).all (fun c => isCode c || c.before args0 about1) = true := by decide +kernel
set_option maxRecDepth 65536 in
theorem w_t4 : (((words1.drop 24).drop 24).drop 24).all (fun c => isCode c || c.before args0 about1) = true := by decide +kernel
theorem w_tables : (allAtoms (Jvm.Cond.code x code maxLocals ret :: tables_1)).before args0 about1 = true := by
  rw [allAtoms_all]
  show words1.all (fun c => c.before args0 about1) = true
  refine all_split ?_ w_codes
  rw [← List.take_append_drop 24 words1, List.all_append, w_t1, ← List.take_append_drop 24 (words1.drop 24), List.all_append, w_t2, ← List.take_append_drop 24 ((words1.drop 24).drop 24), List.all_append, w_t3, w_t4]
  rfl
set_option maxRecDepth 65536 in
theorem w_case : (Jvm.Cond.and given_1 narrow_1).before args0 about1 = true := by decide +kernel
theorem w_applies : (headSpec (Jvm.Cond.code x code maxLocals ret :: tables_1) room_1).applies x e0.platform about1 = true :=
  (Spec.applies_iff w_frames).mpr ⟨w_running, w_runnable, w_alone, w_named, w_hears, w_ripe, w_room, w_tables⟩
theorem atStart : AtStart classFile x code maxLocals ret World_1 tables_1 room_1 Calls_1 rest_1 Pre_1 launch0 p0 e0 about1 theMethod args0 below0 :=
  ⟨lists_1, trivial, launch0.admits_env _ _ _, launch0.least_env, fairChoices_fair.cas, fairChoices_fair.clock, w_frames, w_args, w_heap, w_applies, trivial, trivial, w_case⟩
end start1
theorem witness_1 : WitnessClaimed_1 := ⟨start1.p0, start1.e0, start1.about1, start1.theMethod, start1.args0, start1.below0, start1.atStart⟩
end Jvm.Pilot.@@N@@
