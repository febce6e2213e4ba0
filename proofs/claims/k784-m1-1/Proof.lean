import JvmDerived
import JvmDerived.Pilot.@@N@@Statement
import JvmDerived.Pilot.@@N@@Code
set_option linter.unusedVariables false
set_option linter.unusedSimpArgs false
namespace Jvm.RoadKit
open Sem ClassFile Op Lib Jvm.Stand Jvm.Free Jvm.LawKit
section New
variable {p : Program} {l : Launch} {e : Env} {R : Room} {s : State} {m : MethodId} {args : Array Value} {below : List Frame} {meth : Method} {c : Code} {T : State} {locs : List Loc} {cells slots : Nat}
theorem retI (X : Stand p l e R s m args below meth c T locs cells slots) (hx : p.tables.exec = Jvm.exec) {pc : Nat} {Ls : Array Slot} {z : Int32} {rest : List Value} (hret : meth.sig.returnType = some .int) (hd : decode c.code pc = .ok (.ireturn, 1)) {fs : List Frame}
    (hl : ∀ (f : JFrame) (acts : List Action), f.method = m → f.locked = none → f.entered = [] → (doReturn e (T.setTop f) acts (some (.int z))).1 = T.setFrames fs) : Steps p.tables e below (T.setTop (mkF m pc Ls (.int z :: rest))) (T.setFrames fs) := by
  have hm' : T.vm.method? m = some meth := X.method'
  have hn : narrow .int (.int z) = .int z := rfl
  show Steps p.tables e below (T.setTop { method := m, pc := pc, locals := Ls, stack := _ :: rest, locked := none }) _
  jvm_step X.here [X.here.top, hx, hd, hm', hret, hn]
  first | (intro acts; rw [hl _ acts rfl rfl rfl]) | rw [hl _ _ rfl rfl rfl]
  exact Steps.refl _
end New
end Jvm.RoadKit
namespace Jvm.Pilot.@@N@@
open Jvm Jvm.ClassFile Sem Op Lib Jvm.Free Jvm.Stand Jvm.LawKit Jvm.RoadKit Bundle Jvm.Pilot.@@N@@.Jvm.D
/-- a body that writes nothing and returns r -/
def QV (r : Value) (h0 : Heap) (n0 : Nat) (v : Option Value) (h : Heap) (L : List Loc) : Prop := v = some r ∧ Fr n0 L ∧ h = h0
/-- a body that writes nothing and returns nothing -/
def QN (h0 : Heap) (n0 : Nat) (v : Option Value) (h : Heap) (L : List Loc) : Prop := v = none ∧ Fr n0 L ∧ h = h0
theorem pd_0 : parseMethodDescriptor "(II)I" = some ⟨[.int, .int], some .int⟩ := by decide +kernel
theorem pd_1 : parseMethodDescriptor "([II)[I" = some ⟨[(.array .int), .int], some (.array .int)⟩ := by decide +kernel
theorem pd_2 : parseMethodDescriptor "()V" = some ⟨[], none⟩ := by decide +kernel
theorem pd_3 : parseMethodDescriptor "(ZII)I" = some ⟨[.boolean, .int, .int], some .int⟩ := by decide +kernel
theorem pd_4 : parseMethodDescriptor "(I)I" = some ⟨[.int], some .int⟩ := by decide +kernel
theorem pd_5 : parseMethodDescriptor "(I)V" = some ⟨[.int], none⟩ := by decide +kernel
theorem mn_0 : decode jdk_29_method_69_code 0 = .ok (.iload_n 0, 1) := by decide +kernel
theorem mn_1 : decode jdk_29_method_69_code 1 = .ok (.iload_n 1, 1) := by decide +kernel
theorem mn_2 : decode jdk_29_method_69_code 2 = .ok (.if_icmp .gt 7, 3) := by decide +kernel
theorem mn_5 : decode jdk_29_method_69_code 5 = .ok (.iload_n 0, 1) := by decide +kernel
theorem mn_6 : decode jdk_29_method_69_code 6 = .ok (.goto 4, 3) := by decide +kernel
theorem mn_9 : decode jdk_29_method_69_code 9 = .ok (.iload_n 1, 1) := by decide +kernel
theorem mn_10 : decode jdk_29_method_69_code 10 = .ok (.ireturn, 1) := by decide +kernel
theorem ef_mn (m : MethodId) (p1 : Int32) (p2 : Int32) : entryFrame m #[(.int p1), (.int p2)] 2 = mkF m 0 #[.val (.int p1), .val (.int p2)] [] := by first | (simp [entryFrame, mkF, argsToLocals, Value.category]; done) | rfl
def own_min (p1 : Int32) (p2 : Int32) : Int32 := if p2 < p1 then p2 else p1
set_option maxRecDepth 65536 in
set_option maxHeartbeats 40000000 in
theorem rm_mn (l : Launch) (Z : State) (a0 : Array Value) (hw : ∀ d ∈ tables_1, d.before a0 Z = true) (ws : List Jvm.Cond) (p1 : Int32) (p2 : Int32) (h0 : Heap) (n0 : Nat) (Z0 : n0 ≤ h0.size)  :
    MetFree l (⟨"java/lang/Math", "min", "(II)I"⟩ : MethodName) (head1 (Jvm.Cond.code (⟨"java/lang/Math", "min", "(II)I"⟩ : MethodName) jdk_29_method_69_code 2 (some .int) :: ws) ({ frames := 0, cells := 0, slots := 0, locals := 0 } : Room)) (fun a U => a = #[(.int p1), (.int p2)] ∧ Z.Warmed39 U.vm ∧ U.heap = h0) (fun _ _ _ _ _ => True) (fun _ U o U' => ∃ v L, o = .returned v ∧ QV (.int (own_min p1 p2)) h0 n0 v U'.heap L ∧ FrameEnd U o U' L ({ frames := 0, cells := 0, slots := 0, locals := 0 } : Room).cells ({ frames := 0, cells := 0, slots := 0, locals := 0 } : Room).slots) := by
  refine MetFree.of_bodySF (Jvm.Free.JP.mathPlain rfl (by decide +kernel)) hisR ?_
  intro p e s m args below meth c s₁ Bd hml0 hP hK
  obtain ⟨rfl, hZ, hh⟩ := hP
  have hx := Bd.exec
  have hby := Bd.bytes
  have hml : c.maxLocals = 2 := hml0
  have hown : s.vm.findClass "java/lang/Math" = some m.cls := findClass_of_methodNamed Bd.named
  have hnm := (name_of_methodNamed Bd.named Bd.method).1
  have X0 : Stand p l e ({ frames := 0, cells := 0, slots := 0, locals := 0 } : Room) s m #[(.int p1), (.int p2)] below meth c s₁ [] 0 0 := Stand.of_body Bd
  have e0 : s₁.heap = h0 := by rw [← hh, Bd.state]; rfl
  have N0 := Fr.nil n0
  have go0 : ∀ t, Steps p.tables e below (s₁.setTop (mkF m 0 #[.val (.int p1), .val (.int p2)] [])) t → Steps p.tables e below (s₁.setTop (entryFrame m #[(.int p1), (.int p2)] 2)) t := fun t k => castTop (ef_mn m p1 p2) k
  have go1 : ∀ t, Steps p.tables e below (s₁.setTop (mkF m 2 #[.val (.int p1), .val (.int p2)] [(.int p2), (.int p1)])) t → Steps p.tables e below (s₁.setTop (entryFrame m #[(.int p1), (.int p2)] 2)) t := fun t k => go0 t (by
    show Steps p.tables e below (s₁.setTop (mkF m 0 #[.val (.int p1), .val (.int p2)] [])) _
    refine XS.iloadN X0.here hx rfl (hb hby mn_0) rfl ?_
    show Steps p.tables e below (s₁.setTop (mkF m 1 #[.val (.int p1), .val (.int p2)] [(.int p1)])) _
    refine XS.iloadN X0.here hx rfl (hb hby mn_1) rfl ?_
    exact k)
  by_cases hc2 : p2 < p1
  · have go3 : ∀ t, Steps p.tables e below (s₁.setTop (mkF m 10 #[.val (.int p1), .val (.int p2)] [(.int p2)])) t → Steps p.tables e below (s₁.setTop (entryFrame m #[(.int p1), (.int p2)] 2)) t := fun t k => go1 t (by
      show Steps p.tables e below (s₁.setTop (mkF m 2 #[.val (.int p1), .val (.int p2)] [(.int p2), (.int p1)])) _
      refine XS.icmpYes X0.here hx rfl (pc0 := 2) (pc' := 9) rfl (hb hby mn_2) rfl (tlt hc2).2.2.1 (by decide) (by decide) ?_
      show Steps p.tables e below (s₁.setTop (mkF m 9 #[.val (.int p1), .val (.int p2)] [])) _
      refine XS.iloadN X0.here hx rfl (hb hby mn_9) rfl ?_
      exact k)
    obtain ⟨fs, hr, hrun, hended, hW, hsame⟩ := X0.leave (v := some (.int p2)) (fun h => by rw [Bd.returns] at h; cases h)
    refine ⟨_, _, go3 _ ?_, hrun, hended, _, _, rfl, ?_, ⟨_, rfl⟩, hW, hsame.mono (by decide) (by decide)⟩
    · exact retI X0 hx Bd.returns (hb hby mn_10) hr
    · show QV (.int (own_min p1 p2)) h0 n0 _ s₁.heap _
      rw [e0]
      exact ⟨congrArg some (congrArg Value.int (Eq.symm (show (own_min p1 p2) = p2 from by unfold own_min; rw [if_pos hc2]))), N0, rfl⟩
  · have go4 : ∀ t, Steps p.tables e below (s₁.setTop (mkF m 10 #[.val (.int p1), .val (.int p2)] [(.int p1)])) t → Steps p.tables e below (s₁.setTop (entryFrame m #[(.int p1), (.int p2)] 2)) t := fun t k => go1 t (by
      show Steps p.tables e below (s₁.setTop (mkF m 2 #[.val (.int p1), .val (.int p2)] [(.int p2), (.int p1)])) _
      refine XS.icmpNo X0.here hx rfl (hb hby mn_2) rfl (flt hc2).2.2.1 ?_
      show Steps p.tables e below (s₁.setTop (mkF m 5 #[.val (.int p1), .val (.int p2)] [])) _
      refine XS.iloadN X0.here hx rfl (hb hby mn_5) rfl ?_
      show Steps p.tables e below (s₁.setTop (mkF m 6 #[.val (.int p1), .val (.int p2)] [(.int p1)])) _
      refine XS.goto X0.here hx rfl (pc0 := 6) (pc' := 10) rfl (hb hby mn_6) (by decide) (by decide) ?_
      exact k)
    obtain ⟨fs, hr, hrun, hended, hW, hsame⟩ := X0.leave (v := some (.int p1)) (fun h => by rw [Bd.returns] at h; cases h)
    refine ⟨_, _, go4 _ ?_, hrun, hended, _, _, rfl, ?_, ⟨_, rfl⟩, hW, hsame.mono (by decide) (by decide)⟩
    · exact retI X0 hx Bd.returns (hb hby mn_10) hr
    · show QV (.int (own_min p1 p2)) h0 n0 _ s₁.heap _
      rw [e0]
      exact ⟨congrArg some (congrArg Value.int (Eq.symm (show (own_min p1 p2) = p1 from by unfold own_min; rw [if_neg hc2]))), N0, rfl⟩
theorem mx_0 : decode jdk_29_method_65_code 0 = .ok (.iload_n 0, 1) := by decide +kernel
theorem mx_1 : decode jdk_29_method_65_code 1 = .ok (.iload_n 1, 1) := by decide +kernel
theorem mx_2 : decode jdk_29_method_65_code 2 = .ok (.if_icmp .lt 7, 3) := by decide +kernel
theorem mx_5 : decode jdk_29_method_65_code 5 = .ok (.iload_n 0, 1) := by decide +kernel
theorem mx_6 : decode jdk_29_method_65_code 6 = .ok (.goto 4, 3) := by decide +kernel
theorem mx_9 : decode jdk_29_method_65_code 9 = .ok (.iload_n 1, 1) := by decide +kernel
theorem mx_10 : decode jdk_29_method_65_code 10 = .ok (.ireturn, 1) := by decide +kernel
theorem ef_mx (m : MethodId) (p1 : Int32) (p2 : Int32) : entryFrame m #[(.int p1), (.int p2)] 2 = mkF m 0 #[.val (.int p1), .val (.int p2)] [] := by first | (simp [entryFrame, mkF, argsToLocals, Value.category]; done) | rfl
def own_max (p1 : Int32) (p2 : Int32) : Int32 := if p1 < p2 then p2 else p1
set_option maxRecDepth 65536 in
set_option maxHeartbeats 40000000 in
theorem rm_mx (l : Launch) (Z : State) (a0 : Array Value) (hw : ∀ d ∈ tables_1, d.before a0 Z = true) (ws : List Jvm.Cond) (p1 : Int32) (p2 : Int32) (h0 : Heap) (n0 : Nat) (Z0 : n0 ≤ h0.size)  :
    MetFree l (⟨"java/lang/Math", "max", "(II)I"⟩ : MethodName) (head1 (Jvm.Cond.code (⟨"java/lang/Math", "max", "(II)I"⟩ : MethodName) jdk_29_method_65_code 2 (some .int) :: ws) ({ frames := 0, cells := 0, slots := 0, locals := 0 } : Room)) (fun a U => a = #[(.int p1), (.int p2)] ∧ Z.Warmed39 U.vm ∧ U.heap = h0) (fun _ _ _ _ _ => True) (fun _ U o U' => ∃ v L, o = .returned v ∧ QV (.int (own_max p1 p2)) h0 n0 v U'.heap L ∧ FrameEnd U o U' L ({ frames := 0, cells := 0, slots := 0, locals := 0 } : Room).cells ({ frames := 0, cells := 0, slots := 0, locals := 0 } : Room).slots) := by
  refine MetFree.of_bodySF (Jvm.Free.JP.mathPlain rfl (by decide +kernel)) hisR ?_
  intro p e s m args below meth c s₁ Bd hml0 hP hK
  obtain ⟨rfl, hZ, hh⟩ := hP
  have hx := Bd.exec
  have hby := Bd.bytes
  have hml : c.maxLocals = 2 := hml0
  have hown : s.vm.findClass "java/lang/Math" = some m.cls := findClass_of_methodNamed Bd.named
  have hnm := (name_of_methodNamed Bd.named Bd.method).1
  have X0 : Stand p l e ({ frames := 0, cells := 0, slots := 0, locals := 0 } : Room) s m #[(.int p1), (.int p2)] below meth c s₁ [] 0 0 := Stand.of_body Bd
  have e0 : s₁.heap = h0 := by rw [← hh, Bd.state]; rfl
  have N0 := Fr.nil n0
  have go0 : ∀ t, Steps p.tables e below (s₁.setTop (mkF m 0 #[.val (.int p1), .val (.int p2)] [])) t → Steps p.tables e below (s₁.setTop (entryFrame m #[(.int p1), (.int p2)] 2)) t := fun t k => castTop (ef_mx m p1 p2) k
  have go1 : ∀ t, Steps p.tables e below (s₁.setTop (mkF m 2 #[.val (.int p1), .val (.int p2)] [(.int p2), (.int p1)])) t → Steps p.tables e below (s₁.setTop (entryFrame m #[(.int p1), (.int p2)] 2)) t := fun t k => go0 t (by
    show Steps p.tables e below (s₁.setTop (mkF m 0 #[.val (.int p1), .val (.int p2)] [])) _
    refine XS.iloadN X0.here hx rfl (hb hby mx_0) rfl ?_
    show Steps p.tables e below (s₁.setTop (mkF m 1 #[.val (.int p1), .val (.int p2)] [(.int p1)])) _
    refine XS.iloadN X0.here hx rfl (hb hby mx_1) rfl ?_
    exact k)
  by_cases hc2 : p1 < p2
  · have go3 : ∀ t, Steps p.tables e below (s₁.setTop (mkF m 10 #[.val (.int p1), .val (.int p2)] [(.int p2)])) t → Steps p.tables e below (s₁.setTop (entryFrame m #[(.int p1), (.int p2)] 2)) t := fun t k => go1 t (by
      show Steps p.tables e below (s₁.setTop (mkF m 2 #[.val (.int p1), .val (.int p2)] [(.int p2), (.int p1)])) _
      refine XS.icmpYes X0.here hx rfl (pc0 := 2) (pc' := 9) rfl (hb hby mx_2) rfl (tlt hc2).1 (by decide) (by decide) ?_
      show Steps p.tables e below (s₁.setTop (mkF m 9 #[.val (.int p1), .val (.int p2)] [])) _
      refine XS.iloadN X0.here hx rfl (hb hby mx_9) rfl ?_
      exact k)
    obtain ⟨fs, hr, hrun, hended, hW, hsame⟩ := X0.leave (v := some (.int p2)) (fun h => by rw [Bd.returns] at h; cases h)
    refine ⟨_, _, go3 _ ?_, hrun, hended, _, _, rfl, ?_, ⟨_, rfl⟩, hW, hsame.mono (by decide) (by decide)⟩
    · exact retI X0 hx Bd.returns (hb hby mx_10) hr
    · show QV (.int (own_max p1 p2)) h0 n0 _ s₁.heap _
      rw [e0]
      exact ⟨congrArg some (congrArg Value.int (Eq.symm (show (own_max p1 p2) = p2 from by unfold own_max; rw [if_pos hc2]))), N0, rfl⟩
  · have go4 : ∀ t, Steps p.tables e below (s₁.setTop (mkF m 10 #[.val (.int p1), .val (.int p2)] [(.int p1)])) t → Steps p.tables e below (s₁.setTop (entryFrame m #[(.int p1), (.int p2)] 2)) t := fun t k => go1 t (by
      show Steps p.tables e below (s₁.setTop (mkF m 2 #[.val (.int p1), .val (.int p2)] [(.int p2), (.int p1)])) _
      refine XS.icmpNo X0.here hx rfl (hb hby mx_2) rfl (flt hc2).1 ?_
      show Steps p.tables e below (s₁.setTop (mkF m 5 #[.val (.int p1), .val (.int p2)] [])) _
      refine XS.iloadN X0.here hx rfl (hb hby mx_5) rfl ?_
      show Steps p.tables e below (s₁.setTop (mkF m 6 #[.val (.int p1), .val (.int p2)] [(.int p1)])) _
      refine XS.goto X0.here hx rfl (pc0 := 6) (pc' := 10) rfl (hb hby mx_6) (by decide) (by decide) ?_
      exact k)
    obtain ⟨fs, hr, hrun, hended, hW, hsame⟩ := X0.leave (v := some (.int p1)) (fun h => by rw [Bd.returns] at h; cases h)
    refine ⟨_, _, go4 _ ?_, hrun, hended, _, _, rfl, ?_, ⟨_, rfl⟩, hW, hsame.mono (by decide) (by decide)⟩
    · exact retI X0 hx Bd.returns (hb hby mx_10) hr
    · show QV (.int (own_max p1 p2)) h0 n0 _ s₁.heap _
      rw [e0]
      exact ⟨congrArg some (congrArg Value.int (Eq.symm (show (own_max p1 p2) = p1 from by unfold own_max; rw [if_neg hc2]))), N0, rfl⟩
theorem bl_0 : decode method_2_code 0 = .ok (.iload_n 0, 1) := by decide +kernel
theorem bl_1 : decode method_2_code 1 = .ok (.ifCond .eq 10, 3) := by decide +kernel
theorem bl_4 : decode method_2_code 4 = .ok (.iload_n 1, 1) := by decide +kernel
theorem bl_5 : decode method_2_code 5 = .ok (.iload_n 2, 1) := by decide +kernel
theorem bl_6 : decode method_2_code 6 = .ok (.if_icmp .ge 5, 3) := by decide +kernel
theorem bl_9 : decode method_2_code 9 = .ok (.iconst 1, 1) := by decide +kernel
theorem bl_10 : decode method_2_code 10 = .ok (.ireturn, 1) := by decide +kernel
theorem bl_11 : decode method_2_code 11 = .ok (.iconst 0, 1) := by decide +kernel
theorem bl_12 : decode method_2_code 12 = .ok (.ireturn, 1) := by decide +kernel
theorem pn_bl : plainName "com/example/halting_hound/haltinghound/IntListFirstAtLeastPinLaw" = true := by first | (simp [plainName, overriddenIn]; done) | decide +kernel
theorem ef_bl (m : MethodId) (p1 : Int32) (p2 : Int32) (p3 : Int32) : entryFrame m #[(.int p1), (.int p2), (.int p3)] 3 = mkF m 0 #[.val (.int p1), .val (.int p2), .val (.int p3)] [] := by first | (simp [entryFrame, mkF, argsToLocals, Value.category]; done) | rfl
def own_below (p1 : Int32) (p2 : Int32) (p3 : Int32) : Int32 := if p1 = (0 : Int32) then (0 : Int32) else (if p2 < p3 then (1 : Int32) else (0 : Int32))
set_option maxRecDepth 65536 in
set_option maxHeartbeats 40000000 in
theorem rm_bl (l : Launch) (Z : State) (a0 : Array Value) (hw : ∀ d ∈ tables_1, d.before a0 Z = true) (ws : List Jvm.Cond) (p1 : Int32) (p2 : Int32) (p3 : Int32) (h0 : Heap) (n0 : Nat) (Z0 : n0 ≤ h0.size)  :
    MetFree l (⟨"com/example/halting_hound/haltinghound/IntListFirstAtLeastPinLaw", "below", "(ZII)I"⟩ : MethodName) (head1 (Jvm.Cond.code (⟨"com/example/halting_hound/haltinghound/IntListFirstAtLeastPinLaw", "below", "(ZII)I"⟩ : MethodName) method_2_code 3 (some .int) :: ws) ({ frames := 0, cells := 0, slots := 0, locals := 0 } : Room)) (fun a U => a = #[(.int p1), (.int p2), (.int p3)] ∧ Z.Warmed39 U.vm ∧ U.heap = h0) (fun _ _ _ _ _ => True) (fun _ U o U' => ∃ v L, o = .returned v ∧ QV (.int (own_below p1 p2 p3)) h0 n0 v U'.heap L ∧ FrameEnd U o U' L ({ frames := 0, cells := 0, slots := 0, locals := 0 } : Room).cells ({ frames := 0, cells := 0, slots := 0, locals := 0 } : Room).slots) := by
  refine MetFree.of_bodySF (plainFor_of_name pn_bl) hisR ?_
  intro p e s m args below meth c s₁ Bd hml0 hP hK
  obtain ⟨rfl, hZ, hh⟩ := hP
  have hx := Bd.exec
  have hby := Bd.bytes
  have hml : c.maxLocals = 3 := hml0
  have hown : s.vm.findClass "com/example/halting_hound/haltinghound/IntListFirstAtLeastPinLaw" = some m.cls := findClass_of_methodNamed Bd.named
  have hnm := (name_of_methodNamed Bd.named Bd.method).1
  have X0 : Stand p l e ({ frames := 0, cells := 0, slots := 0, locals := 0 } : Room) s m #[(.int p1), (.int p2), (.int p3)] below meth c s₁ [] 0 0 := Stand.of_body Bd
  have e0 : s₁.heap = h0 := by rw [← hh, Bd.state]; rfl
  have N0 := Fr.nil n0
  have go0 : ∀ t, Steps p.tables e below (s₁.setTop (mkF m 0 #[.val (.int p1), .val (.int p2), .val (.int p3)] [])) t → Steps p.tables e below (s₁.setTop (entryFrame m #[(.int p1), (.int p2), (.int p3)] 3)) t := fun t k => castTop (ef_bl m p1 p2 p3) k
  have go1 : ∀ t, Steps p.tables e below (s₁.setTop (mkF m 1 #[.val (.int p1), .val (.int p2), .val (.int p3)] [(.int p1)])) t → Steps p.tables e below (s₁.setTop (entryFrame m #[(.int p1), (.int p2), (.int p3)] 3)) t := fun t k => go0 t (by
    show Steps p.tables e below (s₁.setTop (mkF m 0 #[.val (.int p1), .val (.int p2), .val (.int p3)] [])) _
    refine XS.iloadN X0.here hx rfl (hb hby bl_0) rfl ?_
    exact k)
  by_cases hc2 : p1 = (0 : Int32)
  · have go3 : ∀ t, Steps p.tables e below (s₁.setTop (mkF m 12 #[.val (.int p1), .val (.int p2), .val (.int p3)] [(.int (0 : Int32))])) t → Steps p.tables e below (s₁.setTop (entryFrame m #[(.int p1), (.int p2), (.int p3)] 3)) t := fun t k => go1 t (by
      show Steps p.tables e below (s₁.setTop (mkF m 1 #[.val (.int p1), .val (.int p2), .val (.int p3)] [(.int p1)])) _
      refine XS.ifYes X0.here hx rfl (pc0 := 1) (pc' := 11) rfl (hb hby bl_1) rfl ((if0 _ _).trans (teq hc2).1) (by decide) (by decide) ?_
      show Steps p.tables e below (s₁.setTop (mkF m 11 #[.val (.int p1), .val (.int p2), .val (.int p3)] [])) _
      refine XS.iconst X0.here hx rfl (hb hby bl_11) ?_
      exact k)
    obtain ⟨fs, hr, hrun, hended, hW, hsame⟩ := X0.leave (v := some (.int (0 : Int32))) (fun h => by rw [Bd.returns] at h; cases h)
    refine ⟨_, _, go3 _ ?_, hrun, hended, _, _, rfl, ?_, ⟨_, rfl⟩, hW, hsame.mono (by decide) (by decide)⟩
    · exact retI X0 hx Bd.returns (hb hby bl_12) hr
    · show QV (.int (own_below p1 p2 p3)) h0 n0 _ s₁.heap _
      rw [e0]
      exact ⟨congrArg some (congrArg Value.int (Eq.symm (show (own_below p1 p2 p3) = (0 : Int32) from by unfold own_below; rw [if_pos hc2]))), N0, rfl⟩
  · have go4 : ∀ t, Steps p.tables e below (s₁.setTop (mkF m 6 #[.val (.int p1), .val (.int p2), .val (.int p3)] [(.int p3), (.int p2)])) t → Steps p.tables e below (s₁.setTop (entryFrame m #[(.int p1), (.int p2), (.int p3)] 3)) t := fun t k => go1 t (by
      show Steps p.tables e below (s₁.setTop (mkF m 1 #[.val (.int p1), .val (.int p2), .val (.int p3)] [(.int p1)])) _
      refine XS.ifNo X0.here hx rfl (hb hby bl_1) rfl ((if0 _ _).trans (feq hc2).1) ?_
      show Steps p.tables e below (s₁.setTop (mkF m 4 #[.val (.int p1), .val (.int p2), .val (.int p3)] [])) _
      refine XS.iloadN X0.here hx rfl (hb hby bl_4) rfl ?_
      show Steps p.tables e below (s₁.setTop (mkF m 5 #[.val (.int p1), .val (.int p2), .val (.int p3)] [(.int p2)])) _
      refine XS.iloadN X0.here hx rfl (hb hby bl_5) rfl ?_
      exact k)
    by_cases hc5 : p2 < p3
    · have go6 : ∀ t, Steps p.tables e below (s₁.setTop (mkF m 10 #[.val (.int p1), .val (.int p2), .val (.int p3)] [(.int (1 : Int32))])) t → Steps p.tables e below (s₁.setTop (entryFrame m #[(.int p1), (.int p2), (.int p3)] 3)) t := fun t k => go4 t (by
        show Steps p.tables e below (s₁.setTop (mkF m 6 #[.val (.int p1), .val (.int p2), .val (.int p3)] [(.int p3), (.int p2)])) _
        refine XS.icmpNo X0.here hx rfl (hb hby bl_6) rfl (tlt hc5).2.1 ?_
        show Steps p.tables e below (s₁.setTop (mkF m 9 #[.val (.int p1), .val (.int p2), .val (.int p3)] [])) _
        refine XS.iconst X0.here hx rfl (hb hby bl_9) ?_
        exact k)
      obtain ⟨fs, hr, hrun, hended, hW, hsame⟩ := X0.leave (v := some (.int (1 : Int32))) (fun h => by rw [Bd.returns] at h; cases h)
      refine ⟨_, _, go6 _ ?_, hrun, hended, _, _, rfl, ?_, ⟨_, rfl⟩, hW, hsame.mono (by decide) (by decide)⟩
      · exact retI X0 hx Bd.returns (hb hby bl_10) hr
      · show QV (.int (own_below p1 p2 p3)) h0 n0 _ s₁.heap _
        rw [e0]
        exact ⟨congrArg some (congrArg Value.int (Eq.symm (show (own_below p1 p2 p3) = (1 : Int32) from by unfold own_below; rw [if_neg hc2, if_pos hc5]))), N0, rfl⟩
    · have go7 : ∀ t, Steps p.tables e below (s₁.setTop (mkF m 12 #[.val (.int p1), .val (.int p2), .val (.int p3)] [(.int (0 : Int32))])) t → Steps p.tables e below (s₁.setTop (entryFrame m #[(.int p1), (.int p2), (.int p3)] 3)) t := fun t k => go4 t (by
        show Steps p.tables e below (s₁.setTop (mkF m 6 #[.val (.int p1), .val (.int p2), .val (.int p3)] [(.int p3), (.int p2)])) _
        refine XS.icmpYes X0.here hx rfl (pc0 := 6) (pc' := 11) rfl (hb hby bl_6) rfl (flt hc5).2.1 (by decide) (by decide) ?_
        show Steps p.tables e below (s₁.setTop (mkF m 11 #[.val (.int p1), .val (.int p2), .val (.int p3)] [])) _
        refine XS.iconst X0.here hx rfl (hb hby bl_11) ?_
        exact k)
      obtain ⟨fs, hr, hrun, hended, hW, hsame⟩ := X0.leave (v := some (.int (0 : Int32))) (fun h => by rw [Bd.returns] at h; cases h)
      refine ⟨_, _, go7 _ ?_, hrun, hended, _, _, rfl, ?_, ⟨_, rfl⟩, hW, hsame.mono (by decide) (by decide)⟩
      · exact retI X0 hx Bd.returns (hb hby bl_12) hr
      · show QV (.int (own_below p1 p2 p3)) h0 n0 _ s₁.heap _
        rw [e0]
        exact ⟨congrArg some (congrArg Value.int (Eq.symm (show (own_below p1 p2 p3) = (0 : Int32) from by unfold own_below; rw [if_neg hc2, if_neg hc5]))), N0, rfl⟩
theorem ini_0 : decode prog_33_method_1_code 0 = .ok (.aload_n 0, 1) := by decide +kernel
theorem ini_1 : decode prog_33_method_1_code 1 = .ok (.invokespecial 1, 3) := by decide +kernel
theorem ini_4 : decode prog_33_method_1_code 4 = .ok (.aload_n 0, 1) := by decide +kernel
theorem ini_5 : decode prog_33_method_1_code 5 = .ok (.iconst 2, 1) := by decide +kernel
theorem ini_6 : decode prog_33_method_1_code 6 = .ok (.newarray .int, 2) := by decide +kernel
theorem ini_8 : decode prog_33_method_1_code 8 = .ok (.putfield 7, 3) := by decide +kernel
theorem ini_11 : decode prog_33_method_1_code 11 = .ok (.return_, 1) := by decide +kernel
theorem pn_ini : plainName "com/example/halting_hound/haltinghound/IntList" = true := by first | (simp [plainName, overriddenIn]; done) | decide +kernel
theorem ef_ini (m : MethodId) (a1 : Addr) : entryFrame m #[(.ref a1)] 1 = mkF m 0 #[.val (.ref a1)] [] := by first | (simp [entryFrame, mkF, argsToLocals, Value.category]; done) | rfl
def Qini (Z : State) (a1 : Addr) (h0 : Heap) (n0 : Nat) (v : Option Value) (h : Heap) (L : List Loc) : Prop := v = none ∧ Fr n0 L ∧ Keep h0 h [a1] ∧ Fld Z h a1 "com/example/halting_hound/haltinghound/IntList" "size" "I" (.int (0 : Int32)) ∧ ∃ (b : Addr) (k : ClassId), n0 ≤ b ∧ a1 ≠ b ∧ Fld Z h a1 "com/example/halting_hound/haltinghound/IntList" "values" "[I" (.ref b) ∧ Arv Z h b k .int (2 : Int32) [(.int (0 : Int32)), (.int (0 : Int32))] (.int (0 : Int32))
set_option maxRecDepth 65536 in
set_option maxHeartbeats 40000000 in
theorem rm_ini (l : Launch) (Z : State) (a0 : Array Value) (hw : ∀ d ∈ tables_1, d.before a0 Z = true) (ws : List Jvm.Cond) (a1 : Addr) (u1 : Value) (h0 : Heap) (n0 : Nat) (Z0 : n0 ≤ h0.size) (E1 : Exa Z h0 a1 "com/example/halting_hound/haltinghound/IntList") (F1 : Fld Z h0 a1 "com/example/halting_hound/haltinghound/IntList" "values" "[I" u1) (F2 : Fld Z h0 a1 "com/example/halting_hound/haltinghound/IntList" "size" "I" (.int (0 : Int32))) (g1 : n0 ≤ a1) :
    MetFree l (⟨"com/example/halting_hound/haltinghound/IntList", "<init>", "()V"⟩ : MethodName) (head1 (Jvm.Cond.code (⟨"com/example/halting_hound/haltinghound/IntList", "<init>", "()V"⟩ : MethodName) prog_33_method_1_code 1 none :: ws) ({ frames := 1, cells := 1, slots := 2, locals := 12 } : Room)) (fun a U => a = #[(.ref a1)] ∧ Z.Warmed39 U.vm ∧ U.heap = h0) (fun _ _ _ _ _ => True) (fun _ U o U' => ∃ v L, o = .returned v ∧ Qini Z a1 h0 n0 v U'.heap L ∧ FrameEnd U o U' L ({ frames := 1, cells := 1, slots := 2, locals := 12 } : Room).cells ({ frames := 1, cells := 1, slots := 2, locals := 12 } : Room).slots) := by
  refine MetFree.of_bodySF (plainFor_of_name pn_ini) hisR ?_
  intro p e s m args below meth c s₁ Bd hml0 hP hK
  obtain ⟨rfl, hZ, hh⟩ := hP
  have hx := Bd.exec
  have hby := Bd.bytes
  have hml : c.maxLocals = 1 := hml0
  have hown : s.vm.findClass "com/example/halting_hound/haltinghound/IntList" = some m.cls := findClass_of_methodNamed Bd.named
  have hnm := (name_of_methodNamed Bd.named Bd.method).1
  have X0 : Stand p l e ({ frames := 1, cells := 1, slots := 2, locals := 12 } : Room) s m #[(.ref a1)] below meth c s₁ [] 0 0 := Stand.of_body Bd
  have e0 : s₁.heap = h0 := by rw [← hh, Bd.state]; rfl
  have N0 := Fr.nil n0
  have go0 : ∀ t, Steps p.tables e below (s₁.setTop (mkF m 0 #[.val (.ref a1)] [])) t → Steps p.tables e below (s₁.setTop (entryFrame m #[(.ref a1)] 1)) t := fun t k => castTop (ef_ini m a1) k
  have go1 : ∀ t, Steps p.tables e below (s₁.setTop (mkF m 1 #[.val (.ref a1)] [(.ref a1)])) t → Steps p.tables e below (s₁.setTop (entryFrame m #[(.ref a1)] 1)) t := fun t k => go0 t (by
    show Steps p.tables e below (s₁.setTop (mkF m 0 #[.val (.ref a1)] [])) _
    refine XS.aloadN X0.here hx rfl (hb hby ini_0) rfl rfl ?_
    exact k)
  obtain ⟨T2, X2, e2, st2⟩ := initO X0 hx hZ hown (hw _ (List.mem_of_getElem? (i := 13) rfl)) (hw _ (List.mem_of_getElem? (i := 14) rfl)) (hw _ (List.mem_of_getElem? (i := 15) rfl)) e0 (g := (mkF m 1 #[.val (.ref a1)] [(.ref a1)])) rfl (by rw [hml]; rfl) rfl (hb hby ini_1) (by decide) (W := 0) (by show 2 * 0 + _ ≤ _; exact Nat.le_of_eq rfl) (by decide)
  have go3 : ∀ t, Steps p.tables e below (T2.setTop (mkF m 4 #[.val (.ref a1)] [])) t → Steps p.tables e below (s₁.setTop (entryFrame m #[(.ref a1)] 1)) t := fun t k => go1 t (st2 t k)
  have go4 : ∀ t, Steps p.tables e below (T2.setTop (mkF m 6 #[.val (.ref a1)] [(.int (2 : Int32)), (.ref a1)])) t → Steps p.tables e below (s₁.setTop (entryFrame m #[(.ref a1)] 1)) t := fun t k => go3 t (by
    show Steps p.tables e below (T2.setTop (mkF m 4 #[.val (.ref a1)] [])) _
    refine XS.aloadN X2.here hx rfl (hb hby ini_4) rfl rfl ?_
    show Steps p.tables e below (T2.setTop (mkF m 5 #[.val (.ref a1)] [(.ref a1)])) _
    refine XS.iconst X2.here hx rfl (hb hby ini_5) ?_
    exact k)
  obtain ⟨T5, h5, k5, X5, e5, E5, A5, st5⟩ := newP X2 hx hZ (hw _ (List.mem_of_getElem? (i := 16) rfl)) e2 (g := (mkF m 6 #[.val (.ref a1)] [(.int (2 : Int32)), (.ref a1)])) rfl (hb hby ini_6) rfl (by decide) (cap := 2) (by decide) (by decide) (by decide) (by decide)
  obtain ⟨b5, g5⟩ : ∃ z, z = h0.size := ⟨_, rfl⟩
  rw [← g5] at A5 st5
  have g_b5 : n0 ≤ b5 := Nat.le_trans Z0 (Nat.le_of_eq g5.symm)
  have sz_b5 : h0.size ≤ b5 := Nat.le_trans ((Keep.refl h0 [a1])).1 (Nat.le_of_eq g5.symm)
  have ne_a1_b5 : a1 ≠ b5 := Nat.ne_of_lt (Nat.lt_of_lt_of_le E1.lt (Nat.le_of_eq g5.symm))
  have f6 := E1.ext E5
  have f7 := F1.ext E5
  have f8 := F2.ext E5
  have f9 := ((Keep.refl h0 [a1])).ext E5
  have V5 : Arv Z h5 b5 k5 .int (2 : Int32) [(.int (0 : Int32)), (.int (0 : Int32))] (.int (0 : Int32)) := (Arv.new A5 (by decide)).pad (pad_rep [] (.int (0 : Int32)) 2)
  have go10 : ∀ t, Steps p.tables e below (T5.setTop (mkF m 8 #[.val (.ref a1)] [(.ref b5), (.ref a1)])) t → Steps p.tables e below (s₁.setTop (entryFrame m #[(.ref a1)] 1)) t := fun t k => go4 t (st5 t k)
  obtain ⟨T11, h11, X11, e11, W11, st11⟩ := putF X5 hx hZ hown (host := "") (Or.inl (hw _ (List.mem_of_getElem? (i := 17) rfl))) Via.refl e5 f7 f6 (Or.inl (hw _ (List.mem_of_getElem? (i := 18) rfl))) (hw _ (List.mem_of_getElem? (i := 8) rfl)) (ty := (.array .int)) (by decide) rfl rfl (g := (mkF m 8 #[.val (.ref a1)] [(.ref b5), (.ref a1)])) rfl rfl (hb hby ini_8)
  have N11 := Fr.snoc X11 N0 g1
  have f12 := f6.wr W11
  have f13 := f7.same W11
  have f14 := f8.other W11 (Or.inr (slot_ne (Or.inl (hw _ (List.mem_of_getElem? (i := 29) rfl))) (Or.inl (hw _ (List.mem_of_getElem? (i := 18) rfl))) (by decide) (t := .int) (t' := (.array .int)) (by decide) (by decide)))
  have f15 := V5.other W11 (Ne.symm ne_a1_b5)
  have f16 := (f9).wr W11 (Or.inl (List.mem_of_getElem? (i := 0) rfl))
  have go17 : ∀ t, Steps p.tables e below (T11.setTop (mkF m 11 #[.val (.ref a1)] [])) t → Steps p.tables e below (s₁.setTop (entryFrame m #[(.ref a1)] 1)) t := fun t k => go10 t (st11 t k)
  obtain ⟨fs, hr, hrun, hended, hW, hsame⟩ := X11.leave (v := none) (fun _ => rfl)
  refine ⟨_, _, go17 _ ?_, hrun, hended, _, _, rfl, ?_, ⟨_, rfl⟩, hW, hsame.mono (by decide) (by decide)⟩
  · exact X11.returnOut hx Bd.returns (hb hby ini_11) hr
  · show Qini Z a1 h0 n0 _ T11.heap _
    rw [e11]
    exact ⟨rfl, N11, f16, f14, _, _, g_b5, ne_a1_b5, f13, f15⟩
theorem cp_0 : decode jdk_65_method_123_code 0 = .ok (.iload_n 1, 1) := by decide +kernel
theorem cp_1 : decode jdk_65_method_123_code 1 = .ok (.aload_n 0, 1) := by decide +kernel
theorem cp_2 : decode jdk_65_method_123_code 2 = .ok (.arraylength, 1) := by decide +kernel
theorem cp_3 : decode jdk_65_method_123_code 3 = .ok (.if_icmp .ne 11, 3) := by decide +kernel
theorem cp_6 : decode jdk_65_method_123_code 6 = .ok (.aload_n 0, 1) := by decide +kernel
theorem cp_7 : decode jdk_65_method_123_code 7 = .ok (.invokevirtual 316, 3) := by decide +kernel
theorem cp_10 : decode jdk_65_method_123_code 10 = .ok (.checkcast 317, 3) := by decide +kernel
theorem cp_13 : decode jdk_65_method_123_code 13 = .ok (.areturn, 1) := by decide +kernel
theorem cp_14 : decode jdk_65_method_123_code 14 = .ok (.iload_n 1, 1) := by decide +kernel
theorem cp_15 : decode jdk_65_method_123_code 15 = .ok (.newarray .int, 2) := by decide +kernel
theorem cp_17 : decode jdk_65_method_123_code 17 = .ok (.astore_n 2, 1) := by decide +kernel
theorem cp_18 : decode jdk_65_method_123_code 18 = .ok (.aload_n 0, 1) := by decide +kernel
theorem cp_19 : decode jdk_65_method_123_code 19 = .ok (.iconst 0, 1) := by decide +kernel
theorem cp_20 : decode jdk_65_method_123_code 20 = .ok (.aload_n 2, 1) := by decide +kernel
theorem cp_21 : decode jdk_65_method_123_code 21 = .ok (.iconst 0, 1) := by decide +kernel
theorem cp_22 : decode jdk_65_method_123_code 22 = .ok (.aload_n 0, 1) := by decide +kernel
theorem cp_23 : decode jdk_65_method_123_code 23 = .ok (.arraylength, 1) := by decide +kernel
theorem cp_24 : decode jdk_65_method_123_code 24 = .ok (.iload_n 1, 1) := by decide +kernel
theorem cp_25 : decode jdk_65_method_123_code 25 = .ok (.invokestatic 304, 3) := by decide +kernel
theorem cp_28 : decode jdk_65_method_123_code 28 = .ok (.invokestatic 150, 3) := by decide +kernel
theorem cp_31 : decode jdk_65_method_123_code 31 = .ok (.aload_n 2, 1) := by decide +kernel
theorem cp_32 : decode jdk_65_method_123_code 32 = .ok (.areturn, 1) := by decide +kernel
theorem pn_cp : plainName "java/util/Arrays" = true := by first | (simp [plainName, overriddenIn]; done) | decide +kernel
theorem ef_cp (m : MethodId) (a1 : Addr) (p2 : Int32) : entryFrame m #[(.ref a1), (.int p2)] 3 = mkF m 0 #[.val (.ref a1), .val (.int p2), .unset] [] := by first | (simp [entryFrame, mkF, argsToLocals, Value.category]; done) | rfl
def Qcp (Z : State) (x0 x1 : Int32) (h0 : Heap) (n0 : Nat) (v : Option Value) (h : Heap) (L : List Loc) : Prop := ∃ (b : Addr) (k : ClassId), v = some (.ref b) ∧ Fr n0 L ∧ Keep h0 h [] ∧ n0 ≤ b ∧ h0.size ≤ b ∧ Arv Z h b k .int (4 : Int32) [(.int x0), (.int x1), (.int (0 : Int32)), (.int (0 : Int32))] (.int (0 : Int32))
set_option maxRecDepth 65536 in
set_option maxHeartbeats 40000000 in
theorem rm_cp (l : Launch) (Z : State) (a0 : Array Value) (hw : ∀ d ∈ tables_1, d.before a0 Z = true) (ws : List Jvm.Cond) (a1 : Addr) (kA : ClassId) (x0 x1 : Int32) (h0 : Heap) (n0 : Nat) (Z0 : n0 ≤ h0.size) (V1 : Arv Z h0 a1 kA .int (2 : Int32) [(.int x0), (.int x1)] (.int (0 : Int32))) :
    MetFree l (⟨"java/util/Arrays", "copyOf", "([II)[I"⟩ : MethodName) (head1 (Jvm.Cond.code (⟨"java/util/Arrays", "copyOf", "([II)[I"⟩ : MethodName) jdk_65_method_123_code 3 (some (.array .int)) :: ws) ({ frames := 1, cells := 1, slots := 4, locals := 18 } : Room)) (fun a U => a = #[(.ref a1), (.int (4 : Int32))] ∧ Z.Warmed39 U.vm ∧ U.heap = h0) (fun _ _ _ _ _ => True) (fun _ U o U' => ∃ v L, o = .returned v ∧ Qcp Z x0 x1 h0 n0 v U'.heap L ∧ FrameEnd U o U' L ({ frames := 1, cells := 1, slots := 4, locals := 18 } : Room).cells ({ frames := 1, cells := 1, slots := 4, locals := 18 } : Room).slots) := by
  refine MetFree.of_bodySF (plainFor_of_name pn_cp) hisR ?_
  intro p e s m args below meth c s₁ Bd hml0 hP hK
  obtain ⟨rfl, hZ, hh⟩ := hP
  have hx := Bd.exec
  have hby := Bd.bytes
  have hml : c.maxLocals = 3 := hml0
  have hown : s.vm.findClass "java/util/Arrays" = some m.cls := findClass_of_methodNamed Bd.named
  have hnm := (name_of_methodNamed Bd.named Bd.method).1
  have X0 : Stand p l e ({ frames := 1, cells := 1, slots := 4, locals := 18 } : Room) s m #[(.ref a1), (.int (4 : Int32))] below meth c s₁ [] 0 0 := Stand.of_body Bd
  have e0 : s₁.heap = h0 := by rw [← hh, Bd.state]; rfl
  have N0 := Fr.nil n0
  have go0 : ∀ t, Steps p.tables e below (s₁.setTop (mkF m 0 #[.val (.ref a1), .val (.int (4 : Int32)), .unset] [])) t → Steps p.tables e below (s₁.setTop (entryFrame m #[(.ref a1), (.int (4 : Int32))] 3)) t := fun t k => castTop (ef_cp m a1 (4 : Int32)) k
  have go2 : ∀ t, Steps p.tables e below (s₁.setTop (mkF m 2 #[.val (.ref a1), .val (.int (4 : Int32)), .unset] [(.ref a1), (.int (4 : Int32))])) t → Steps p.tables e below (s₁.setTop (entryFrame m #[(.ref a1), (.int (4 : Int32))] 3)) t := fun t k => go0 t (by
    show Steps p.tables e below (s₁.setTop (mkF m 0 #[.val (.ref a1), .val (.int (4 : Int32)), .unset] [])) _
    refine XS.iloadN X0.here hx rfl (hb hby cp_0) rfl ?_
    show Steps p.tables e below (s₁.setTop (mkF m 1 #[.val (.ref a1), .val (.int (4 : Int32)), .unset] [(.int (4 : Int32))])) _
    refine XS.aloadN X0.here hx rfl (hb hby cp_1) rfl rfl ?_
    exact k)
  obtain ⟨cl1, Ar1, q1, S1, M1, H1, G1⟩ := id V1
  have go3 : ∀ t, Steps p.tables e below (s₁.setTop (mkF m 3 #[.val (.ref a1), .val (.int (4 : Int32)), .unset] [(.int (2 : Int32)), (.int (4 : Int32))])) t → Steps p.tables e below (s₁.setTop (entryFrame m #[(.ref a1), (.int (4 : Int32))] 3)) t := fun t k => go2 t (by
    show Steps p.tables e below (s₁.setTop (mkF m 2 #[.val (.ref a1), .val (.int (4 : Int32)), .unset] [(.ref a1), (.int (4 : Int32))])) _
    refine X0.arraylength hx (by rw [e0]; exact Ar1.1) (State.isArrayOf_alike hZ.alike Ar1.2.1) (g := (mkF m 2 #[.val (.ref a1), .val (.int (4 : Int32)), .unset] [(.ref a1), (.int (4 : Int32))])) rfl rfl (hb hby cp_2) _ ?_
    rw [len_of S1 M1]
    exact k)
  have go4 : ∀ t, Steps p.tables e below (s₁.setTop (mkF m 15 #[.val (.ref a1), .val (.int (4 : Int32)), .unset] [(.int (4 : Int32))])) t → Steps p.tables e below (s₁.setTop (entryFrame m #[(.ref a1), (.int (4 : Int32))] 3)) t := fun t k => go3 t (by
    show Steps p.tables e below (s₁.setTop (mkF m 3 #[.val (.ref a1), .val (.int (4 : Int32)), .unset] [(.int (2 : Int32)), (.int (4 : Int32))])) _
    refine XS.icmpYes X0.here hx rfl (pc0 := 3) (pc' := 14) rfl (hb hby cp_3) rfl (feq (by decide : ¬ ((4 : Int32) = (2 : Int32)))).2 (by decide) (by decide) ?_
    show Steps p.tables e below (s₁.setTop (mkF m 14 #[.val (.ref a1), .val (.int (4 : Int32)), .unset] [])) _
    refine XS.iloadN X0.here hx rfl (hb hby cp_14) rfl ?_
    exact k)
  obtain ⟨T5, h5, k5, X5, e5, E5, A5, st5⟩ := newP X0 hx hZ (hw _ (List.mem_of_getElem? (i := 16) rfl)) e0 (g := (mkF m 15 #[.val (.ref a1), .val (.int (4 : Int32)), .unset] [(.int (4 : Int32))])) rfl (hb hby cp_15) rfl (by decide) (cap := 4) (by decide) (by decide) (by decide) (by decide)
  obtain ⟨b5, g5⟩ : ∃ z, z = h0.size := ⟨_, rfl⟩
  rw [← g5] at A5 st5
  have g_b5 : n0 ≤ b5 := Nat.le_trans Z0 (Nat.le_of_eq g5.symm)
  have sz_b5 : h0.size ≤ b5 := Nat.le_trans ((Keep.refl h0 [])).1 (Nat.le_of_eq g5.symm)
  have ne_a1_b5 : a1 ≠ b5 := Nat.ne_of_lt (Nat.lt_of_lt_of_le V1.lt (Nat.le_of_eq g5.symm))
  have f6 := V1.ext E5
  have f7 := ((Keep.refl h0 [])).ext E5
  have V5 : Arv Z h5 b5 k5 .int (4 : Int32) [(.int (0 : Int32)), (.int (0 : Int32)), (.int (0 : Int32)), (.int (0 : Int32))] (.int (0 : Int32)) := (Arv.new A5 (by decide)).pad (pad_rep [] (.int (0 : Int32)) 4)
  have go8 : ∀ t, Steps p.tables e below (T5.setTop (mkF m 17 #[.val (.ref a1), .val (.int (4 : Int32)), .unset] [(.ref b5)])) t → Steps p.tables e below (s₁.setTop (entryFrame m #[(.ref a1), (.int (4 : Int32))] 3)) t := fun t k => go4 t (st5 t k)
  have go10 : ∀ t, Steps p.tables e below (T5.setTop (mkF m 23 #[.val (.ref a1), .val (.int (4 : Int32)), .val (.ref b5)] [(.ref a1), (.int (0 : Int32)), (.ref b5), (.int (0 : Int32)), (.ref a1)])) t → Steps p.tables e below (s₁.setTop (entryFrame m #[(.ref a1), (.int (4 : Int32))] 3)) t := fun t k => go8 t (by
    show Steps p.tables e below (T5.setTop (mkF m 17 #[.val (.ref a1), .val (.int (4 : Int32)), .unset] [(.ref b5)])) _
    refine XS.astoreN X5.here hx rfl (hb hby cp_17) rfl rfl (l' := #[.val (.ref a1), .val (.int (4 : Int32)), .val (.ref b5)]) rfl ?_
    show Steps p.tables e below (T5.setTop (mkF m 18 #[.val (.ref a1), .val (.int (4 : Int32)), .val (.ref b5)] [])) _
    refine XS.aloadN X5.here hx rfl (hb hby cp_18) rfl rfl ?_
    show Steps p.tables e below (T5.setTop (mkF m 19 #[.val (.ref a1), .val (.int (4 : Int32)), .val (.ref b5)] [(.ref a1)])) _
    refine XS.iconst X5.here hx rfl (hb hby cp_19) ?_
    show Steps p.tables e below (T5.setTop (mkF m 20 #[.val (.ref a1), .val (.int (4 : Int32)), .val (.ref b5)] [(.int (0 : Int32)), (.ref a1)])) _
    refine XS.aloadN X5.here hx rfl (hb hby cp_20) rfl rfl ?_
    show Steps p.tables e below (T5.setTop (mkF m 21 #[.val (.ref a1), .val (.int (4 : Int32)), .val (.ref b5)] [(.ref b5), (.int (0 : Int32)), (.ref a1)])) _
    refine XS.iconst X5.here hx rfl (hb hby cp_21) ?_
    show Steps p.tables e below (T5.setTop (mkF m 22 #[.val (.ref a1), .val (.int (4 : Int32)), .val (.ref b5)] [(.int (0 : Int32)), (.ref b5), (.int (0 : Int32)), (.ref a1)])) _
    refine XS.aloadN X5.here hx rfl (hb hby cp_22) rfl rfl ?_
    exact k)
  obtain ⟨cl9, Ar9, q9, S9, M9, H9, G9⟩ := id f6
  have go11 : ∀ t, Steps p.tables e below (T5.setTop (mkF m 24 #[.val (.ref a1), .val (.int (4 : Int32)), .val (.ref b5)] [(.int (2 : Int32)), (.int (0 : Int32)), (.ref b5), (.int (0 : Int32)), (.ref a1)])) t → Steps p.tables e below (s₁.setTop (entryFrame m #[(.ref a1), (.int (4 : Int32))] 3)) t := fun t k => go10 t (by
    show Steps p.tables e below (T5.setTop (mkF m 23 #[.val (.ref a1), .val (.int (4 : Int32)), .val (.ref b5)] [(.ref a1), (.int (0 : Int32)), (.ref b5), (.int (0 : Int32)), (.ref a1)])) _
    refine X5.arraylength hx (by rw [e5]; exact Ar9.1) (State.isArrayOf_alike hZ.alike Ar9.2.1) (g := (mkF m 23 #[.val (.ref a1), .val (.int (4 : Int32)), .val (.ref b5)] [(.ref a1), (.int (0 : Int32)), (.ref b5), (.int (0 : Int32)), (.ref a1)])) rfl rfl (hb hby cp_23) _ ?_
    rw [len_of S9 M9]
    exact k)
  have go12 : ∀ t, Steps p.tables e below (T5.setTop (mkF m 25 #[.val (.ref a1), .val (.int (4 : Int32)), .val (.ref b5)] [(.int (4 : Int32)), (.int (2 : Int32)), (.int (0 : Int32)), (.ref b5), (.int (0 : Int32)), (.ref a1)])) t → Steps p.tables e below (s₁.setTop (entryFrame m #[(.ref a1), (.int (4 : Int32))] 3)) t := fun t k => go11 t (by
    show Steps p.tables e below (T5.setTop (mkF m 24 #[.val (.ref a1), .val (.int (4 : Int32)), .val (.ref b5)] [(.int (2 : Int32)), (.int (0 : Int32)), (.ref b5), (.int (0 : Int32)), (.ref a1)])) _
    refine XS.iloadN X5.here hx rfl (hb hby cp_24) rfl ?_
    exact k)
  obtain ⟨_, _, ⟨T13, L13, k13, n13⟩, -, X13, ⟨Lc13, hQ13, l13, y13, z13⟩, st13⟩ := Jvm.LawKit.callS X5 hx (y := (⟨"java/lang/Math", "min", "(II)I"⟩ : MethodName)) hown (mvT hZ (hw _ (List.mem_of_getElem? (i := 39) rfl))) (mvT hZ (hw _ (List.mem_of_getElem? (i := 1) rfl))) (mvT hZ (hw _ (List.mem_of_getElem? (i := 2) rfl))) (mvT hZ (hw _ (List.mem_of_getElem? (i := 3) rfl))) (by decide) (backOf (W := 4) (rm_mn l Z a0 hw [] (2 : Int32) (4 : Int32) h5 n0 (Nat.le_trans Z0 E5.1) ) hZ (hw _ (List.mem_of_getElem? (i := 3) rfl)) (hw _ (List.mem_of_getElem? (i := 2) rfl)) (by decide) (by decide)) (g := (mkF m 25 #[.val (.ref a1), .val (.int (4 : Int32)), .val (.ref b5)] [(.int (4 : Int32)), (.int (2 : Int32)), (.int (0 : Int32)), (.ref b5), (.int (0 : Int32)), (.ref a1)])) rfl (by rw [hml]; rfl) (argsL := [(.int (2 : Int32)), (.int (4 : Int32))]) (rest := [(.int (0 : Int32)), (.ref b5), (.int (0 : Int32)), (.ref a1)]) (lenOf pd_0 rfl) rfl (by show 2 * 0 + _ ≤ _; exact Nat.le_of_eq rfl) (hb hby cp_25) (fun _ _ => ⟨rfl, e5, (by decide : 1 + 0 ≤ _), (by decide : 4 + 0 ≤ _)⟩)
  dsimp only [Pt.U, Pt.locs, Pt.cells, Pt.slots] at X13 l13 y13 z13 st13 hQ13
  subst l13 y13 z13
  obtain ⟨rfl, N13q, e13⟩ := hQ13
  have N13 := Fr.app N0 N13q
  have go14 : ∀ t, Steps p.tables e below (T13.setTop (mkF m 28 #[.val (.ref a1), .val (.int (4 : Int32)), .val (.ref b5)] [(.int (own_min (2 : Int32) (4 : Int32))), (.int (0 : Int32)), (.ref b5), (.int (0 : Int32)), (.ref a1)])) t → Steps p.tables e below (s₁.setTop (entryFrame m #[(.ref a1), (.int (4 : Int32))] 3)) t := fun t k => go12 t (st13 t k)
  rw [show own_min (2 : Int32) (4 : Int32) = (2 : Int32) from by decide] at go14
  obtain ⟨T15, h15, L15, X15, e15, N15, K15, V15, st15⟩ := cpA X13 hx hZ hown (hw _ (List.mem_of_getElem? (i := 40) rfl)) (hw _ (List.mem_of_getElem? (i := 43) rfl)) (hw _ (List.mem_of_getElem? (i := 41) rfl)) (hw _ (List.mem_of_getElem? (i := 42) rfl)) e13 (us := [(.int x0), (.int x1)]) f6 V5 (Or.inl ⟨rfl, rfl⟩) (by decide) (by decide) (by decide) (by decide) (by decide) rfl (by decide) N13 g_b5 (g := (mkF m 28 #[.val (.ref a1), .val (.int (4 : Int32)), .val (.ref b5)] [(.int (2 : Int32)), (.int (0 : Int32)), (.ref b5), (.int (0 : Int32)), (.ref a1)])) rfl (by rw [hml]; rfl) rfl (hb hby cp_28) (by decide) (W := 0) (by show 2 * 0 + _ ≤ _; exact Nat.le_of_eq rfl) (by decide)
  have f16 := f6.keep K15 (ninS ne_a1_b5 nin0)
  have f17 := (f7).trans K15 (allS (Or.inr sz_b5) all0)
  have V15q : Arv Z h15 b5 k5 .int (4 : Int32) [(.int x0), (.int x1), (.int (0 : Int32)), (.int (0 : Int32))] (.int (0 : Int32)) := V15
  have go18 : ∀ t, Steps p.tables e below (T15.setTop (mkF m 31 #[.val (.ref a1), .val (.int (4 : Int32)), .val (.ref b5)] [])) t → Steps p.tables e below (s₁.setTop (entryFrame m #[(.ref a1), (.int (4 : Int32))] 3)) t := fun t k => go14 t (st15 t k)
  have go19 : ∀ t, Steps p.tables e below (T15.setTop (mkF m 32 #[.val (.ref a1), .val (.int (4 : Int32)), .val (.ref b5)] [(.ref b5)])) t → Steps p.tables e below (s₁.setTop (entryFrame m #[(.ref a1), (.int (4 : Int32))] 3)) t := fun t k => go18 t (by
    show Steps p.tables e below (T15.setTop (mkF m 31 #[.val (.ref a1), .val (.int (4 : Int32)), .val (.ref b5)] [])) _
    refine XS.aloadN X15.here hx rfl (hb hby cp_31) rfl rfl ?_
    exact k)
  obtain ⟨fs, hr, hrun, hended, hW, hsame⟩ := X15.leave (v := some (.ref b5)) (fun h => by rw [Bd.returns] at h; cases h)
  refine ⟨_, _, go19 _ ?_, hrun, hended, _, _, rfl, ?_, ⟨_, rfl⟩, hW, hsame.mono (by decide) (by decide)⟩
  · show Steps p.tables e below (T15.setTop (mkF m 32 #[.val (.ref a1), .val (.int (4 : Int32)), .val (.ref b5)] [(.ref b5)])) _
    jvm_step X15.here [X15.here.top, hx, (hb hby cp_32), X15.method', Bd.returns, Value.isRef, FieldType.isReference]
    first | (intro acts; rw [hr _ acts rfl rfl rfl]) | rw [hr _ _ rfl rfl rfl]
    exact Steps.refl _
  · show Qcp Z x0 x1 h0 n0 _ T15.heap _
    rw [e15]
    exact ⟨_, _, rfl, N15, f17, g_b5, sz_b5, V15q⟩
theorem add_0 : decode prog_33_method_2_code 0 = .ok (.aload_n 0, 1) := by decide +kernel
theorem add_1 : decode prog_33_method_2_code 1 = .ok (.getfield 13, 3) := by decide +kernel
theorem add_4 : decode prog_33_method_2_code 4 = .ok (.aload_n 0, 1) := by decide +kernel
theorem add_5 : decode prog_33_method_2_code 5 = .ok (.getfield 7, 3) := by decide +kernel
theorem add_8 : decode prog_33_method_2_code 8 = .ok (.arraylength, 1) := by decide +kernel
theorem add_9 : decode prog_33_method_2_code 9 = .ok (.if_icmp .ne 20, 3) := by decide +kernel
theorem add_12 : decode prog_33_method_2_code 12 = .ok (.aload_n 0, 1) := by decide +kernel
theorem add_13 : decode prog_33_method_2_code 13 = .ok (.aload_n 0, 1) := by decide +kernel
theorem add_14 : decode prog_33_method_2_code 14 = .ok (.getfield 7, 3) := by decide +kernel
theorem add_17 : decode prog_33_method_2_code 17 = .ok (.aload_n 0, 1) := by decide +kernel
theorem add_18 : decode prog_33_method_2_code 18 = .ok (.getfield 13, 3) := by decide +kernel
theorem add_21 : decode prog_33_method_2_code 21 = .ok (.iconst 2, 1) := by decide +kernel
theorem add_22 : decode prog_33_method_2_code 22 = .ok (.imul, 1) := by decide +kernel
theorem add_23 : decode prog_33_method_2_code 23 = .ok (.invokestatic 17, 3) := by decide +kernel
theorem add_26 : decode prog_33_method_2_code 26 = .ok (.putfield 7, 3) := by decide +kernel
theorem add_29 : decode prog_33_method_2_code 29 = .ok (.aload_n 0, 1) := by decide +kernel
theorem add_30 : decode prog_33_method_2_code 30 = .ok (.getfield 7, 3) := by decide +kernel
theorem add_33 : decode prog_33_method_2_code 33 = .ok (.aload_n 0, 1) := by decide +kernel
theorem add_34 : decode prog_33_method_2_code 34 = .ok (.dup, 1) := by decide +kernel
theorem add_35 : decode prog_33_method_2_code 35 = .ok (.getfield 13, 3) := by decide +kernel
theorem add_38 : decode prog_33_method_2_code 38 = .ok (.dup_x1, 1) := by decide +kernel
theorem add_39 : decode prog_33_method_2_code 39 = .ok (.iconst 1, 1) := by decide +kernel
theorem add_40 : decode prog_33_method_2_code 40 = .ok (.iadd, 1) := by decide +kernel
theorem add_41 : decode prog_33_method_2_code 41 = .ok (.putfield 13, 3) := by decide +kernel
theorem add_44 : decode prog_33_method_2_code 44 = .ok (.iload_n 1, 1) := by decide +kernel
theorem add_45 : decode prog_33_method_2_code 45 = .ok (.iastore, 1) := by decide +kernel
theorem add_46 : decode prog_33_method_2_code 46 = .ok (.return_, 1) := by decide +kernel
theorem pn_add : plainName "com/example/halting_hound/haltinghound/IntList" = true := by first | (simp [plainName, overriddenIn]; done) | decide +kernel
theorem ef_add (m : MethodId) (a1 : Addr) (p2 : Int32) : entryFrame m #[(.ref a1), (.int p2)] 2 = mkF m 0 #[.val (.ref a1), .val (.int p2)] [] := by first | (simp [entryFrame, mkF, argsToLocals, Value.category]; done) | rfl
def Qadd0 (Z : State) (a1 : Addr) (p2 : Int32) (b : Addr) (kA : ClassId)  (h0 : Heap) (n0 : Nat) (v : Option Value) (h : Heap) (L : List Loc) : Prop := v = none ∧ Fr n0 L ∧ Keep h0 h [a1, b] ∧ Fld Z h a1 "com/example/halting_hound/haltinghound/IntList" "size" "I" (.int (1 : Int32)) ∧ Fld Z h a1 "com/example/halting_hound/haltinghound/IntList" "values" "[I" (.ref b) ∧ Arv Z h b kA .int (2 : Int32) [(.int p2), (.int (0 : Int32))] (.int (0 : Int32))
set_option maxRecDepth 65536 in
set_option maxHeartbeats 40000000 in
theorem rm_add0 (l : Launch) (Z : State) (a0 : Array Value) (hw : ∀ d ∈ tables_1, d.before a0 Z = true) (ws : List Jvm.Cond) (a1 : Addr) (p2 : Int32) (b : Addr) (kA : ClassId)  (h0 : Heap) (n0 : Nat) (Z0 : n0 ≤ h0.size) (E1 : Exa Z h0 a1 "com/example/halting_hound/haltinghound/IntList") (F1 : Fld Z h0 a1 "com/example/halting_hound/haltinghound/IntList" "values" "[I" (.ref b)) (F2 : Fld Z h0 a1 "com/example/halting_hound/haltinghound/IntList" "size" "I" (.int (0 : Int32))) (V1 : Arv Z h0 b kA .int (2 : Int32) [(.int (0 : Int32)), (.int (0 : Int32))] (.int (0 : Int32))) (g1 : n0 ≤ a1) (g2 : n0 ≤ b) (ne1 : a1 ≠ b) :
    MetFree l (⟨"com/example/halting_hound/haltinghound/IntList", "add", "(I)V"⟩ : MethodName) (head1 (Jvm.Cond.code (⟨"com/example/halting_hound/haltinghound/IntList", "add", "(I)V"⟩ : MethodName) prog_33_method_2_code 2 none :: ws) ({ frames := 0, cells := 0, slots := 0, locals := 0 } : Room)) (fun a U => a = #[(.ref a1), (.int p2)] ∧ Z.Warmed39 U.vm ∧ U.heap = h0) (fun _ _ _ _ _ => True) (fun _ U o U' => ∃ v L, o = .returned v ∧ Qadd0 Z a1 p2 b kA  h0 n0 v U'.heap L ∧ FrameEnd U o U' L ({ frames := 0, cells := 0, slots := 0, locals := 0 } : Room).cells ({ frames := 0, cells := 0, slots := 0, locals := 0 } : Room).slots) := by
  refine MetFree.of_bodySF (plainFor_of_name pn_add) hisR ?_
  intro p e s m args below meth c s₁ Bd hml0 hP hK
  obtain ⟨rfl, hZ, hh⟩ := hP
  have hx := Bd.exec
  have hby := Bd.bytes
  have hml : c.maxLocals = 2 := hml0
  have hown : s.vm.findClass "com/example/halting_hound/haltinghound/IntList" = some m.cls := findClass_of_methodNamed Bd.named
  have hnm := (name_of_methodNamed Bd.named Bd.method).1
  have X0 : Stand p l e ({ frames := 0, cells := 0, slots := 0, locals := 0 } : Room) s m #[(.ref a1), (.int p2)] below meth c s₁ [] 0 0 := Stand.of_body Bd
  have e0 : s₁.heap = h0 := by rw [← hh, Bd.state]; rfl
  have N0 := Fr.nil n0
  have go0 : ∀ t, Steps p.tables e below (s₁.setTop (mkF m 0 #[.val (.ref a1), .val (.int p2)] [])) t → Steps p.tables e below (s₁.setTop (entryFrame m #[(.ref a1), (.int p2)] 2)) t := fun t k => castTop (ef_add m a1 p2) k
  have go1 : ∀ t, Steps p.tables e below (s₁.setTop (mkF m 1 #[.val (.ref a1), .val (.int p2)] [(.ref a1)])) t → Steps p.tables e below (s₁.setTop (entryFrame m #[(.ref a1), (.int p2)] 2)) t := fun t k => go0 t (by
    show Steps p.tables e below (s₁.setTop (mkF m 0 #[.val (.ref a1), .val (.int p2)] [])) _
    refine XS.aloadN X0.here hx rfl (hb hby add_0) rfl rfl ?_
    exact k)
  obtain ⟨T2, X2, e2, st2⟩ := getF X0 hx hZ hown (host := "") (Or.inl (hw _ (List.mem_of_getElem? (i := 28) rfl))) Via.refl e0 F2 (g := (mkF m 1 #[.val (.ref a1), .val (.int p2)] [(.ref a1)])) rfl rfl (hb hby add_1)
  have go3 : ∀ t, Steps p.tables e below (T2.setTop (mkF m 4 #[.val (.ref a1), .val (.int p2)] [(.int (0 : Int32))])) t → Steps p.tables e below (s₁.setTop (entryFrame m #[(.ref a1), (.int p2)] 2)) t := fun t k => go1 t (st2 t k)
  have go4 : ∀ t, Steps p.tables e below (T2.setTop (mkF m 5 #[.val (.ref a1), .val (.int p2)] [(.ref a1), (.int (0 : Int32))])) t → Steps p.tables e below (s₁.setTop (entryFrame m #[(.ref a1), (.int p2)] 2)) t := fun t k => go3 t (by
    show Steps p.tables e below (T2.setTop (mkF m 4 #[.val (.ref a1), .val (.int p2)] [(.int (0 : Int32))])) _
    refine XS.aloadN X2.here hx rfl (hb hby add_4) rfl rfl ?_
    exact k)
  obtain ⟨T5, X5, e5, st5⟩ := getF X2 hx hZ hown (host := "") (Or.inl (hw _ (List.mem_of_getElem? (i := 17) rfl))) Via.refl e2 F1 (g := (mkF m 5 #[.val (.ref a1), .val (.int p2)] [(.ref a1), (.int (0 : Int32))])) rfl rfl (hb hby add_5)
  have go6 : ∀ t, Steps p.tables e below (T5.setTop (mkF m 8 #[.val (.ref a1), .val (.int p2)] [(.ref b), (.int (0 : Int32))])) t → Steps p.tables e below (s₁.setTop (entryFrame m #[(.ref a1), (.int p2)] 2)) t := fun t k => go4 t (st5 t k)
  obtain ⟨cl7, Ar7, q7, S7, M7, H7, G7⟩ := id V1
  have go8 : ∀ t, Steps p.tables e below (T5.setTop (mkF m 9 #[.val (.ref a1), .val (.int p2)] [(.int (2 : Int32)), (.int (0 : Int32))])) t → Steps p.tables e below (s₁.setTop (entryFrame m #[(.ref a1), (.int p2)] 2)) t := fun t k => go6 t (by
    show Steps p.tables e below (T5.setTop (mkF m 8 #[.val (.ref a1), .val (.int p2)] [(.ref b), (.int (0 : Int32))])) _
    refine X5.arraylength hx (by rw [e5]; exact Ar7.1) (State.isArrayOf_alike hZ.alike Ar7.2.1) (g := (mkF m 8 #[.val (.ref a1), .val (.int p2)] [(.ref b), (.int (0 : Int32))])) rfl rfl (hb hby add_8) _ ?_
    rw [len_of S7 M7]
    exact k)
  have go9 : ∀ t, Steps p.tables e below (T5.setTop (mkF m 30 #[.val (.ref a1), .val (.int p2)] [(.ref a1)])) t → Steps p.tables e below (s₁.setTop (entryFrame m #[(.ref a1), (.int p2)] 2)) t := fun t k => go8 t (by
    show Steps p.tables e below (T5.setTop (mkF m 9 #[.val (.ref a1), .val (.int p2)] [(.int (2 : Int32)), (.int (0 : Int32))])) _
    refine XS.icmpYes X5.here hx rfl (pc0 := 9) (pc' := 29) rfl (hb hby add_9) rfl (feq (by decide : ¬ ((0 : Int32) = (2 : Int32)))).2 (by decide) (by decide) ?_
    show Steps p.tables e below (T5.setTop (mkF m 29 #[.val (.ref a1), .val (.int p2)] [])) _
    refine XS.aloadN X5.here hx rfl (hb hby add_29) rfl rfl ?_
    exact k)
  obtain ⟨T10, X10, e10, st10⟩ := getF X5 hx hZ hown (host := "") (Or.inl (hw _ (List.mem_of_getElem? (i := 17) rfl))) Via.refl e5 F1 (g := (mkF m 30 #[.val (.ref a1), .val (.int p2)] [(.ref a1)])) rfl rfl (hb hby add_30)
  have go11 : ∀ t, Steps p.tables e below (T10.setTop (mkF m 33 #[.val (.ref a1), .val (.int p2)] [(.ref b)])) t → Steps p.tables e below (s₁.setTop (entryFrame m #[(.ref a1), (.int p2)] 2)) t := fun t k => go9 t (st10 t k)
  have go12 : ∀ t, Steps p.tables e below (T10.setTop (mkF m 35 #[.val (.ref a1), .val (.int p2)] [(.ref a1), (.ref a1), (.ref b)])) t → Steps p.tables e below (s₁.setTop (entryFrame m #[(.ref a1), (.int p2)] 2)) t := fun t k => go11 t (by
    show Steps p.tables e below (T10.setTop (mkF m 33 #[.val (.ref a1), .val (.int p2)] [(.ref b)])) _
    refine XS.aloadN X10.here hx rfl (hb hby add_33) rfl rfl ?_
    show Steps p.tables e below (T10.setTop (mkF m 34 #[.val (.ref a1), .val (.int p2)] [(.ref a1), (.ref b)])) _
    refine XS.dup X10.here hx rfl (hb hby add_34) rfl rfl ?_
    exact k)
  obtain ⟨T13, X13, e13, st13⟩ := getF X10 hx hZ hown (host := "") (Or.inl (hw _ (List.mem_of_getElem? (i := 28) rfl))) Via.refl e10 F2 (g := (mkF m 35 #[.val (.ref a1), .val (.int p2)] [(.ref a1), (.ref a1), (.ref b)])) rfl rfl (hb hby add_35)
  have go14 : ∀ t, Steps p.tables e below (T13.setTop (mkF m 38 #[.val (.ref a1), .val (.int p2)] [(.int (0 : Int32)), (.ref a1), (.ref b)])) t → Steps p.tables e below (s₁.setTop (entryFrame m #[(.ref a1), (.int p2)] 2)) t := fun t k => go12 t (st13 t k)
  have go15 : ∀ t, Steps p.tables e below (T13.setTop (mkF m 41 #[.val (.ref a1), .val (.int p2)] [(.int (1 : Int32)), (.ref a1), (.int (0 : Int32)), (.ref b)])) t → Steps p.tables e below (s₁.setTop (entryFrame m #[(.ref a1), (.int p2)] 2)) t := fun t k => go14 t (by
    show Steps p.tables e below (T13.setTop (mkF m 38 #[.val (.ref a1), .val (.int p2)] [(.int (0 : Int32)), (.ref a1), (.ref b)])) _
    refine XS.dupX1 X13.here hx rfl (hb hby add_38) rfl rfl rfl ?_
    show Steps p.tables e below (T13.setTop (mkF m 39 #[.val (.ref a1), .val (.int p2)] [(.int (0 : Int32)), (.ref a1), (.int (0 : Int32)), (.ref b)])) _
    refine XS.iconst X13.here hx rfl (hb hby add_39) ?_
    show Steps p.tables e below (T13.setTop (mkF m 40 #[.val (.ref a1), .val (.int p2)] [(.int (1 : Int32)), (.int (0 : Int32)), (.ref a1), (.int (0 : Int32)), (.ref b)])) _
    refine XS.iadd X13.here hx rfl (hb hby add_40) rfl ?_
    exact k)
  obtain ⟨T16, h16, X16, e16, W16, st16⟩ := putF X13 hx hZ hown (host := "") (Or.inl (hw _ (List.mem_of_getElem? (i := 28) rfl))) Via.refl e13 F2 E1 (Or.inl (hw _ (List.mem_of_getElem? (i := 29) rfl))) (hw _ (List.mem_of_getElem? (i := 8) rfl)) (ty := .int) (by decide) rfl rfl (g := (mkF m 41 #[.val (.ref a1), .val (.int p2)] [(.int (1 : Int32)), (.ref a1), (.int (0 : Int32)), (.ref b)])) rfl rfl (hb hby add_41)
  have N16 := Fr.snoc X16 N0 g1
  have f17 := E1.wr W16
  have f18 := F1.other W16 (Or.inr (slot_ne (Or.inl (hw _ (List.mem_of_getElem? (i := 18) rfl))) (Or.inl (hw _ (List.mem_of_getElem? (i := 29) rfl))) (by decide) (t := (.array .int)) (t' := .int) (by decide) (by decide)))
  have f19 := F2.same W16
  have f20 := V1.other W16 (Ne.symm ne1)
  have f21 := ((Keep.refl h0 [a1, b])).wr W16 (Or.inl (List.mem_of_getElem? (i := 0) rfl))
  have go22 : ∀ t, Steps p.tables e below (T16.setTop (mkF m 44 #[.val (.ref a1), .val (.int p2)] [(.int (0 : Int32)), (.ref b)])) t → Steps p.tables e below (s₁.setTop (entryFrame m #[(.ref a1), (.int p2)] 2)) t := fun t k => go15 t (st16 t k)
  have go23 : ∀ t, Steps p.tables e below (T16.setTop (mkF m 45 #[.val (.ref a1), .val (.int p2)] [(.int p2), (.int (0 : Int32)), (.ref b)])) t → Steps p.tables e below (s₁.setTop (entryFrame m #[(.ref a1), (.int p2)] 2)) t := fun t k => go22 t (by
    show Steps p.tables e below (T16.setTop (mkF m 44 #[.val (.ref a1), .val (.int p2)] [(.int (0 : Int32)), (.ref b)])) _
    refine XS.iloadN X16.here hx rfl (hb hby add_44) rfl ?_
    exact k)
  obtain ⟨cl24, Ar24, q24, S24, M24, H24, G24⟩ := id f20
  obtain ⟨T24, h24, X24, e24, W24, st24⟩ := stI X16 hx hZ e16 Ar24 (j := (0 : Int32)) (inb_of S24 ⟨by decide, by decide⟩) (g := (mkF m 45 #[.val (.ref a1), .val (.int p2)] [(.int p2), (.int (0 : Int32)), (.ref b)])) rfl rfl (hb hby add_45)
  have V24 : Arv Z h24 b kA .int (2 : Int32) [(.int p2), (.int (0 : Int32))] (.int (0 : Int32)) := Arv.set Ar24 q24 S24 M24 H24 G24 rfl W24 0 rfl (Nat.le_of_ble_eq_true rfl)
  have N24 := Fr.snoc X24 N16 g2
  have f25 := f17.wr W24
  have f26 := f18.other W24 (Or.inl ne1)
  have f27 := f19.other W24 (Or.inl ne1)
  have f28 := (f21).wr W24 (Or.inl (List.mem_of_getElem? (i := 1) rfl))
  have go29 : ∀ t, Steps p.tables e below (T24.setTop (mkF m 46 #[.val (.ref a1), .val (.int p2)] [])) t → Steps p.tables e below (s₁.setTop (entryFrame m #[(.ref a1), (.int p2)] 2)) t := fun t k => go23 t (st24 t k)
  obtain ⟨fs, hr, hrun, hended, hW, hsame⟩ := X24.leave (v := none) (fun _ => rfl)
  refine ⟨_, _, go29 _ ?_, hrun, hended, _, _, rfl, ?_, ⟨_, rfl⟩, hW, hsame.mono (by decide) (by decide)⟩
  · exact X24.returnOut hx Bd.returns (hb hby add_46) hr
  · show Qadd0 Z a1 p2 b kA  h0 n0 _ T24.heap _
    rw [e24]
    exact ⟨rfl, N24, f28, f27, f26, V24⟩
def Qadd1 (Z : State) (a1 : Addr) (p2 : Int32) (b : Addr) (kA : ClassId) (x0 : Int32) (h0 : Heap) (n0 : Nat) (v : Option Value) (h : Heap) (L : List Loc) : Prop := v = none ∧ Fr n0 L ∧ Keep h0 h [a1, b] ∧ Fld Z h a1 "com/example/halting_hound/haltinghound/IntList" "size" "I" (.int (2 : Int32)) ∧ Fld Z h a1 "com/example/halting_hound/haltinghound/IntList" "values" "[I" (.ref b) ∧ Arv Z h b kA .int (2 : Int32) [(.int x0), (.int p2)] (.int (0 : Int32))
set_option maxRecDepth 65536 in
set_option maxHeartbeats 40000000 in
theorem rm_add1 (l : Launch) (Z : State) (a0 : Array Value) (hw : ∀ d ∈ tables_1, d.before a0 Z = true) (ws : List Jvm.Cond) (a1 : Addr) (p2 : Int32) (b : Addr) (kA : ClassId) (x0 : Int32) (h0 : Heap) (n0 : Nat) (Z0 : n0 ≤ h0.size) (E1 : Exa Z h0 a1 "com/example/halting_hound/haltinghound/IntList") (F1 : Fld Z h0 a1 "com/example/halting_hound/haltinghound/IntList" "values" "[I" (.ref b)) (F2 : Fld Z h0 a1 "com/example/halting_hound/haltinghound/IntList" "size" "I" (.int (1 : Int32))) (V1 : Arv Z h0 b kA .int (2 : Int32) [(.int x0), (.int (0 : Int32))] (.int (0 : Int32))) (g1 : n0 ≤ a1) (g2 : n0 ≤ b) (ne1 : a1 ≠ b) :
    MetFree l (⟨"com/example/halting_hound/haltinghound/IntList", "add", "(I)V"⟩ : MethodName) (head1 (Jvm.Cond.code (⟨"com/example/halting_hound/haltinghound/IntList", "add", "(I)V"⟩ : MethodName) prog_33_method_2_code 2 none :: ws) ({ frames := 0, cells := 0, slots := 0, locals := 0 } : Room)) (fun a U => a = #[(.ref a1), (.int p2)] ∧ Z.Warmed39 U.vm ∧ U.heap = h0) (fun _ _ _ _ _ => True) (fun _ U o U' => ∃ v L, o = .returned v ∧ Qadd1 Z a1 p2 b kA x0 h0 n0 v U'.heap L ∧ FrameEnd U o U' L ({ frames := 0, cells := 0, slots := 0, locals := 0 } : Room).cells ({ frames := 0, cells := 0, slots := 0, locals := 0 } : Room).slots) := by
  refine MetFree.of_bodySF (plainFor_of_name pn_add) hisR ?_
  intro p e s m args below meth c s₁ Bd hml0 hP hK
  obtain ⟨rfl, hZ, hh⟩ := hP
  have hx := Bd.exec
  have hby := Bd.bytes
  have hml : c.maxLocals = 2 := hml0
  have hown : s.vm.findClass "com/example/halting_hound/haltinghound/IntList" = some m.cls := findClass_of_methodNamed Bd.named
  have hnm := (name_of_methodNamed Bd.named Bd.method).1
  have X0 : Stand p l e ({ frames := 0, cells := 0, slots := 0, locals := 0 } : Room) s m #[(.ref a1), (.int p2)] below meth c s₁ [] 0 0 := Stand.of_body Bd
  have e0 : s₁.heap = h0 := by rw [← hh, Bd.state]; rfl
  have N0 := Fr.nil n0
  have go0 : ∀ t, Steps p.tables e below (s₁.setTop (mkF m 0 #[.val (.ref a1), .val (.int p2)] [])) t → Steps p.tables e below (s₁.setTop (entryFrame m #[(.ref a1), (.int p2)] 2)) t := fun t k => castTop (ef_add m a1 p2) k
  have go1 : ∀ t, Steps p.tables e below (s₁.setTop (mkF m 1 #[.val (.ref a1), .val (.int p2)] [(.ref a1)])) t → Steps p.tables e below (s₁.setTop (entryFrame m #[(.ref a1), (.int p2)] 2)) t := fun t k => go0 t (by
    show Steps p.tables e below (s₁.setTop (mkF m 0 #[.val (.ref a1), .val (.int p2)] [])) _
    refine XS.aloadN X0.here hx rfl (hb hby add_0) rfl rfl ?_
    exact k)
  obtain ⟨T2, X2, e2, st2⟩ := getF X0 hx hZ hown (host := "") (Or.inl (hw _ (List.mem_of_getElem? (i := 28) rfl))) Via.refl e0 F2 (g := (mkF m 1 #[.val (.ref a1), .val (.int p2)] [(.ref a1)])) rfl rfl (hb hby add_1)
  have go3 : ∀ t, Steps p.tables e below (T2.setTop (mkF m 4 #[.val (.ref a1), .val (.int p2)] [(.int (1 : Int32))])) t → Steps p.tables e below (s₁.setTop (entryFrame m #[(.ref a1), (.int p2)] 2)) t := fun t k => go1 t (st2 t k)
  have go4 : ∀ t, Steps p.tables e below (T2.setTop (mkF m 5 #[.val (.ref a1), .val (.int p2)] [(.ref a1), (.int (1 : Int32))])) t → Steps p.tables e below (s₁.setTop (entryFrame m #[(.ref a1), (.int p2)] 2)) t := fun t k => go3 t (by
    show Steps p.tables e below (T2.setTop (mkF m 4 #[.val (.ref a1), .val (.int p2)] [(.int (1 : Int32))])) _
    refine XS.aloadN X2.here hx rfl (hb hby add_4) rfl rfl ?_
    exact k)
  obtain ⟨T5, X5, e5, st5⟩ := getF X2 hx hZ hown (host := "") (Or.inl (hw _ (List.mem_of_getElem? (i := 17) rfl))) Via.refl e2 F1 (g := (mkF m 5 #[.val (.ref a1), .val (.int p2)] [(.ref a1), (.int (1 : Int32))])) rfl rfl (hb hby add_5)
  have go6 : ∀ t, Steps p.tables e below (T5.setTop (mkF m 8 #[.val (.ref a1), .val (.int p2)] [(.ref b), (.int (1 : Int32))])) t → Steps p.tables e below (s₁.setTop (entryFrame m #[(.ref a1), (.int p2)] 2)) t := fun t k => go4 t (st5 t k)
  obtain ⟨cl7, Ar7, q7, S7, M7, H7, G7⟩ := id V1
  have go8 : ∀ t, Steps p.tables e below (T5.setTop (mkF m 9 #[.val (.ref a1), .val (.int p2)] [(.int (2 : Int32)), (.int (1 : Int32))])) t → Steps p.tables e below (s₁.setTop (entryFrame m #[(.ref a1), (.int p2)] 2)) t := fun t k => go6 t (by
    show Steps p.tables e below (T5.setTop (mkF m 8 #[.val (.ref a1), .val (.int p2)] [(.ref b), (.int (1 : Int32))])) _
    refine X5.arraylength hx (by rw [e5]; exact Ar7.1) (State.isArrayOf_alike hZ.alike Ar7.2.1) (g := (mkF m 8 #[.val (.ref a1), .val (.int p2)] [(.ref b), (.int (1 : Int32))])) rfl rfl (hb hby add_8) _ ?_
    rw [len_of S7 M7]
    exact k)
  have go9 : ∀ t, Steps p.tables e below (T5.setTop (mkF m 30 #[.val (.ref a1), .val (.int p2)] [(.ref a1)])) t → Steps p.tables e below (s₁.setTop (entryFrame m #[(.ref a1), (.int p2)] 2)) t := fun t k => go8 t (by
    show Steps p.tables e below (T5.setTop (mkF m 9 #[.val (.ref a1), .val (.int p2)] [(.int (2 : Int32)), (.int (1 : Int32))])) _
    refine XS.icmpYes X5.here hx rfl (pc0 := 9) (pc' := 29) rfl (hb hby add_9) rfl (feq (by decide : ¬ ((1 : Int32) = (2 : Int32)))).2 (by decide) (by decide) ?_
    show Steps p.tables e below (T5.setTop (mkF m 29 #[.val (.ref a1), .val (.int p2)] [])) _
    refine XS.aloadN X5.here hx rfl (hb hby add_29) rfl rfl ?_
    exact k)
  obtain ⟨T10, X10, e10, st10⟩ := getF X5 hx hZ hown (host := "") (Or.inl (hw _ (List.mem_of_getElem? (i := 17) rfl))) Via.refl e5 F1 (g := (mkF m 30 #[.val (.ref a1), .val (.int p2)] [(.ref a1)])) rfl rfl (hb hby add_30)
  have go11 : ∀ t, Steps p.tables e below (T10.setTop (mkF m 33 #[.val (.ref a1), .val (.int p2)] [(.ref b)])) t → Steps p.tables e below (s₁.setTop (entryFrame m #[(.ref a1), (.int p2)] 2)) t := fun t k => go9 t (st10 t k)
  have go12 : ∀ t, Steps p.tables e below (T10.setTop (mkF m 35 #[.val (.ref a1), .val (.int p2)] [(.ref a1), (.ref a1), (.ref b)])) t → Steps p.tables e below (s₁.setTop (entryFrame m #[(.ref a1), (.int p2)] 2)) t := fun t k => go11 t (by
    show Steps p.tables e below (T10.setTop (mkF m 33 #[.val (.ref a1), .val (.int p2)] [(.ref b)])) _
    refine XS.aloadN X10.here hx rfl (hb hby add_33) rfl rfl ?_
    show Steps p.tables e below (T10.setTop (mkF m 34 #[.val (.ref a1), .val (.int p2)] [(.ref a1), (.ref b)])) _
    refine XS.dup X10.here hx rfl (hb hby add_34) rfl rfl ?_
    exact k)
  obtain ⟨T13, X13, e13, st13⟩ := getF X10 hx hZ hown (host := "") (Or.inl (hw _ (List.mem_of_getElem? (i := 28) rfl))) Via.refl e10 F2 (g := (mkF m 35 #[.val (.ref a1), .val (.int p2)] [(.ref a1), (.ref a1), (.ref b)])) rfl rfl (hb hby add_35)
  have go14 : ∀ t, Steps p.tables e below (T13.setTop (mkF m 38 #[.val (.ref a1), .val (.int p2)] [(.int (1 : Int32)), (.ref a1), (.ref b)])) t → Steps p.tables e below (s₁.setTop (entryFrame m #[(.ref a1), (.int p2)] 2)) t := fun t k => go12 t (st13 t k)
  have go15 : ∀ t, Steps p.tables e below (T13.setTop (mkF m 41 #[.val (.ref a1), .val (.int p2)] [(.int (2 : Int32)), (.ref a1), (.int (1 : Int32)), (.ref b)])) t → Steps p.tables e below (s₁.setTop (entryFrame m #[(.ref a1), (.int p2)] 2)) t := fun t k => go14 t (by
    show Steps p.tables e below (T13.setTop (mkF m 38 #[.val (.ref a1), .val (.int p2)] [(.int (1 : Int32)), (.ref a1), (.ref b)])) _
    refine XS.dupX1 X13.here hx rfl (hb hby add_38) rfl rfl rfl ?_
    show Steps p.tables e below (T13.setTop (mkF m 39 #[.val (.ref a1), .val (.int p2)] [(.int (1 : Int32)), (.ref a1), (.int (1 : Int32)), (.ref b)])) _
    refine XS.iconst X13.here hx rfl (hb hby add_39) ?_
    show Steps p.tables e below (T13.setTop (mkF m 40 #[.val (.ref a1), .val (.int p2)] [(.int (1 : Int32)), (.int (1 : Int32)), (.ref a1), (.int (1 : Int32)), (.ref b)])) _
    refine XS.iadd X13.here hx rfl (hb hby add_40) rfl ?_
    exact k)
  obtain ⟨T16, h16, X16, e16, W16, st16⟩ := putF X13 hx hZ hown (host := "") (Or.inl (hw _ (List.mem_of_getElem? (i := 28) rfl))) Via.refl e13 F2 E1 (Or.inl (hw _ (List.mem_of_getElem? (i := 29) rfl))) (hw _ (List.mem_of_getElem? (i := 8) rfl)) (ty := .int) (by decide) rfl rfl (g := (mkF m 41 #[.val (.ref a1), .val (.int p2)] [(.int (2 : Int32)), (.ref a1), (.int (1 : Int32)), (.ref b)])) rfl rfl (hb hby add_41)
  have N16 := Fr.snoc X16 N0 g1
  have f17 := E1.wr W16
  have f18 := F1.other W16 (Or.inr (slot_ne (Or.inl (hw _ (List.mem_of_getElem? (i := 18) rfl))) (Or.inl (hw _ (List.mem_of_getElem? (i := 29) rfl))) (by decide) (t := (.array .int)) (t' := .int) (by decide) (by decide)))
  have f19 := F2.same W16
  have f20 := V1.other W16 (Ne.symm ne1)
  have f21 := ((Keep.refl h0 [a1, b])).wr W16 (Or.inl (List.mem_of_getElem? (i := 0) rfl))
  have go22 : ∀ t, Steps p.tables e below (T16.setTop (mkF m 44 #[.val (.ref a1), .val (.int p2)] [(.int (1 : Int32)), (.ref b)])) t → Steps p.tables e below (s₁.setTop (entryFrame m #[(.ref a1), (.int p2)] 2)) t := fun t k => go15 t (st16 t k)
  have go23 : ∀ t, Steps p.tables e below (T16.setTop (mkF m 45 #[.val (.ref a1), .val (.int p2)] [(.int p2), (.int (1 : Int32)), (.ref b)])) t → Steps p.tables e below (s₁.setTop (entryFrame m #[(.ref a1), (.int p2)] 2)) t := fun t k => go22 t (by
    show Steps p.tables e below (T16.setTop (mkF m 44 #[.val (.ref a1), .val (.int p2)] [(.int (1 : Int32)), (.ref b)])) _
    refine XS.iloadN X16.here hx rfl (hb hby add_44) rfl ?_
    exact k)
  obtain ⟨cl24, Ar24, q24, S24, M24, H24, G24⟩ := id f20
  obtain ⟨T24, h24, X24, e24, W24, st24⟩ := stI X16 hx hZ e16 Ar24 (j := (1 : Int32)) (inb_of S24 ⟨by decide, by decide⟩) (g := (mkF m 45 #[.val (.ref a1), .val (.int p2)] [(.int p2), (.int (1 : Int32)), (.ref b)])) rfl rfl (hb hby add_45)
  have V24 : Arv Z h24 b kA .int (2 : Int32) [(.int x0), (.int p2)] (.int (0 : Int32)) := Arv.set Ar24 q24 S24 M24 H24 G24 rfl W24 1 rfl (Nat.le_of_ble_eq_true rfl)
  have N24 := Fr.snoc X24 N16 g2
  have f25 := f17.wr W24
  have f26 := f18.other W24 (Or.inl ne1)
  have f27 := f19.other W24 (Or.inl ne1)
  have f28 := (f21).wr W24 (Or.inl (List.mem_of_getElem? (i := 1) rfl))
  have go29 : ∀ t, Steps p.tables e below (T24.setTop (mkF m 46 #[.val (.ref a1), .val (.int p2)] [])) t → Steps p.tables e below (s₁.setTop (entryFrame m #[(.ref a1), (.int p2)] 2)) t := fun t k => go23 t (st24 t k)
  obtain ⟨fs, hr, hrun, hended, hW, hsame⟩ := X24.leave (v := none) (fun _ => rfl)
  refine ⟨_, _, go29 _ ?_, hrun, hended, _, _, rfl, ?_, ⟨_, rfl⟩, hW, hsame.mono (by decide) (by decide)⟩
  · exact X24.returnOut hx Bd.returns (hb hby add_46) hr
  · show Qadd1 Z a1 p2 b kA x0 h0 n0 _ T24.heap _
    rw [e24]
    exact ⟨rfl, N24, f28, f27, f26, V24⟩
def Qadd2 (Z : State) (a1 : Addr) (p2 : Int32) (b : Addr) (kA : ClassId) (x0 x1 : Int32) (h0 : Heap) (n0 : Nat) (v : Option Value) (h : Heap) (L : List Loc) : Prop := v = none ∧ Fr n0 L ∧ Keep h0 h [a1] ∧ Fld Z h a1 "com/example/halting_hound/haltinghound/IntList" "size" "I" (.int (3 : Int32)) ∧ ∃ (d : Addr) (k : ClassId), n0 ≤ d ∧ a1 ≠ d ∧ Fld Z h a1 "com/example/halting_hound/haltinghound/IntList" "values" "[I" (.ref d) ∧ Arv Z h d k .int (4 : Int32) [(.int x0), (.int x1), (.int p2), (.int (0 : Int32))] (.int (0 : Int32))
set_option maxRecDepth 65536 in
set_option maxHeartbeats 40000000 in
theorem rm_add2 (l : Launch) (Z : State) (a0 : Array Value) (hw : ∀ d ∈ tables_1, d.before a0 Z = true) (ws : List Jvm.Cond) (a1 : Addr) (p2 : Int32) (b : Addr) (kA : ClassId) (x0 x1 : Int32) (h0 : Heap) (n0 : Nat) (Z0 : n0 ≤ h0.size) (E1 : Exa Z h0 a1 "com/example/halting_hound/haltinghound/IntList") (F1 : Fld Z h0 a1 "com/example/halting_hound/haltinghound/IntList" "values" "[I" (.ref b)) (F2 : Fld Z h0 a1 "com/example/halting_hound/haltinghound/IntList" "size" "I" (.int (2 : Int32))) (V1 : Arv Z h0 b kA .int (2 : Int32) [(.int x0), (.int x1)] (.int (0 : Int32))) (g1 : n0 ≤ a1) (g2 : n0 ≤ b) (ne1 : a1 ≠ b) :
    MetFree l (⟨"com/example/halting_hound/haltinghound/IntList", "add", "(I)V"⟩ : MethodName) (head1 (Jvm.Cond.code (⟨"com/example/halting_hound/haltinghound/IntList", "add", "(I)V"⟩ : MethodName) prog_33_method_2_code 2 none :: ws) ({ frames := 2, cells := 1, slots := 4, locals := 33 } : Room)) (fun a U => a = #[(.ref a1), (.int p2)] ∧ Z.Warmed39 U.vm ∧ U.heap = h0) (fun _ _ _ _ _ => True) (fun _ U o U' => ∃ v L, o = .returned v ∧ Qadd2 Z a1 p2 b kA x0 x1 h0 n0 v U'.heap L ∧ FrameEnd U o U' L ({ frames := 2, cells := 1, slots := 4, locals := 33 } : Room).cells ({ frames := 2, cells := 1, slots := 4, locals := 33 } : Room).slots) := by
  refine MetFree.of_bodySF (plainFor_of_name pn_add) hisR ?_
  intro p e s m args below meth c s₁ Bd hml0 hP hK
  obtain ⟨rfl, hZ, hh⟩ := hP
  have hx := Bd.exec
  have hby := Bd.bytes
  have hml : c.maxLocals = 2 := hml0
  have hown : s.vm.findClass "com/example/halting_hound/haltinghound/IntList" = some m.cls := findClass_of_methodNamed Bd.named
  have hnm := (name_of_methodNamed Bd.named Bd.method).1
  have X0 : Stand p l e ({ frames := 2, cells := 1, slots := 4, locals := 33 } : Room) s m #[(.ref a1), (.int p2)] below meth c s₁ [] 0 0 := Stand.of_body Bd
  have e0 : s₁.heap = h0 := by rw [← hh, Bd.state]; rfl
  have N0 := Fr.nil n0
  have go0 : ∀ t, Steps p.tables e below (s₁.setTop (mkF m 0 #[.val (.ref a1), .val (.int p2)] [])) t → Steps p.tables e below (s₁.setTop (entryFrame m #[(.ref a1), (.int p2)] 2)) t := fun t k => castTop (ef_add m a1 p2) k
  have go1 : ∀ t, Steps p.tables e below (s₁.setTop (mkF m 1 #[.val (.ref a1), .val (.int p2)] [(.ref a1)])) t → Steps p.tables e below (s₁.setTop (entryFrame m #[(.ref a1), (.int p2)] 2)) t := fun t k => go0 t (by
    show Steps p.tables e below (s₁.setTop (mkF m 0 #[.val (.ref a1), .val (.int p2)] [])) _
    refine XS.aloadN X0.here hx rfl (hb hby add_0) rfl rfl ?_
    exact k)
  obtain ⟨T2, X2, e2, st2⟩ := getF X0 hx hZ hown (host := "") (Or.inl (hw _ (List.mem_of_getElem? (i := 28) rfl))) Via.refl e0 F2 (g := (mkF m 1 #[.val (.ref a1), .val (.int p2)] [(.ref a1)])) rfl rfl (hb hby add_1)
  have go3 : ∀ t, Steps p.tables e below (T2.setTop (mkF m 4 #[.val (.ref a1), .val (.int p2)] [(.int (2 : Int32))])) t → Steps p.tables e below (s₁.setTop (entryFrame m #[(.ref a1), (.int p2)] 2)) t := fun t k => go1 t (st2 t k)
  have go4 : ∀ t, Steps p.tables e below (T2.setTop (mkF m 5 #[.val (.ref a1), .val (.int p2)] [(.ref a1), (.int (2 : Int32))])) t → Steps p.tables e below (s₁.setTop (entryFrame m #[(.ref a1), (.int p2)] 2)) t := fun t k => go3 t (by
    show Steps p.tables e below (T2.setTop (mkF m 4 #[.val (.ref a1), .val (.int p2)] [(.int (2 : Int32))])) _
    refine XS.aloadN X2.here hx rfl (hb hby add_4) rfl rfl ?_
    exact k)
  obtain ⟨T5, X5, e5, st5⟩ := getF X2 hx hZ hown (host := "") (Or.inl (hw _ (List.mem_of_getElem? (i := 17) rfl))) Via.refl e2 F1 (g := (mkF m 5 #[.val (.ref a1), .val (.int p2)] [(.ref a1), (.int (2 : Int32))])) rfl rfl (hb hby add_5)
  have go6 : ∀ t, Steps p.tables e below (T5.setTop (mkF m 8 #[.val (.ref a1), .val (.int p2)] [(.ref b), (.int (2 : Int32))])) t → Steps p.tables e below (s₁.setTop (entryFrame m #[(.ref a1), (.int p2)] 2)) t := fun t k => go4 t (st5 t k)
  obtain ⟨cl7, Ar7, q7, S7, M7, H7, G7⟩ := id V1
  have go8 : ∀ t, Steps p.tables e below (T5.setTop (mkF m 9 #[.val (.ref a1), .val (.int p2)] [(.int (2 : Int32)), (.int (2 : Int32))])) t → Steps p.tables e below (s₁.setTop (entryFrame m #[(.ref a1), (.int p2)] 2)) t := fun t k => go6 t (by
    show Steps p.tables e below (T5.setTop (mkF m 8 #[.val (.ref a1), .val (.int p2)] [(.ref b), (.int (2 : Int32))])) _
    refine X5.arraylength hx (by rw [e5]; exact Ar7.1) (State.isArrayOf_alike hZ.alike Ar7.2.1) (g := (mkF m 8 #[.val (.ref a1), .val (.int p2)] [(.ref b), (.int (2 : Int32))])) rfl rfl (hb hby add_8) _ ?_
    rw [len_of S7 M7]
    exact k)
  have go9 : ∀ t, Steps p.tables e below (T5.setTop (mkF m 14 #[.val (.ref a1), .val (.int p2)] [(.ref a1), (.ref a1)])) t → Steps p.tables e below (s₁.setTop (entryFrame m #[(.ref a1), (.int p2)] 2)) t := fun t k => go8 t (by
    show Steps p.tables e below (T5.setTop (mkF m 9 #[.val (.ref a1), .val (.int p2)] [(.int (2 : Int32)), (.int (2 : Int32))])) _
    refine XS.icmpNo X5.here hx rfl (hb hby add_9) rfl (teq (by decide : (2 : Int32) = (2 : Int32))).2 ?_
    show Steps p.tables e below (T5.setTop (mkF m 12 #[.val (.ref a1), .val (.int p2)] [])) _
    refine XS.aloadN X5.here hx rfl (hb hby add_12) rfl rfl ?_
    show Steps p.tables e below (T5.setTop (mkF m 13 #[.val (.ref a1), .val (.int p2)] [(.ref a1)])) _
    refine XS.aloadN X5.here hx rfl (hb hby add_13) rfl rfl ?_
    exact k)
  obtain ⟨T10, X10, e10, st10⟩ := getF X5 hx hZ hown (host := "") (Or.inl (hw _ (List.mem_of_getElem? (i := 17) rfl))) Via.refl e5 F1 (g := (mkF m 14 #[.val (.ref a1), .val (.int p2)] [(.ref a1), (.ref a1)])) rfl rfl (hb hby add_14)
  have go11 : ∀ t, Steps p.tables e below (T10.setTop (mkF m 17 #[.val (.ref a1), .val (.int p2)] [(.ref b), (.ref a1)])) t → Steps p.tables e below (s₁.setTop (entryFrame m #[(.ref a1), (.int p2)] 2)) t := fun t k => go9 t (st10 t k)
  have go12 : ∀ t, Steps p.tables e below (T10.setTop (mkF m 18 #[.val (.ref a1), .val (.int p2)] [(.ref a1), (.ref b), (.ref a1)])) t → Steps p.tables e below (s₁.setTop (entryFrame m #[(.ref a1), (.int p2)] 2)) t := fun t k => go11 t (by
    show Steps p.tables e below (T10.setTop (mkF m 17 #[.val (.ref a1), .val (.int p2)] [(.ref b), (.ref a1)])) _
    refine XS.aloadN X10.here hx rfl (hb hby add_17) rfl rfl ?_
    exact k)
  obtain ⟨T13, X13, e13, st13⟩ := getF X10 hx hZ hown (host := "") (Or.inl (hw _ (List.mem_of_getElem? (i := 28) rfl))) Via.refl e10 F2 (g := (mkF m 18 #[.val (.ref a1), .val (.int p2)] [(.ref a1), (.ref b), (.ref a1)])) rfl rfl (hb hby add_18)
  have go14 : ∀ t, Steps p.tables e below (T13.setTop (mkF m 21 #[.val (.ref a1), .val (.int p2)] [(.int (2 : Int32)), (.ref b), (.ref a1)])) t → Steps p.tables e below (s₁.setTop (entryFrame m #[(.ref a1), (.int p2)] 2)) t := fun t k => go12 t (st13 t k)
  have go15 : ∀ t, Steps p.tables e below (T13.setTop (mkF m 23 #[.val (.ref a1), .val (.int p2)] [(.int (4 : Int32)), (.ref b), (.ref a1)])) t → Steps p.tables e below (s₁.setTop (entryFrame m #[(.ref a1), (.int p2)] 2)) t := fun t k => go14 t (by
    show Steps p.tables e below (T13.setTop (mkF m 21 #[.val (.ref a1), .val (.int p2)] [(.int (2 : Int32)), (.ref b), (.ref a1)])) _
    refine XS.iconst X13.here hx rfl (hb hby add_21) ?_
    show Steps p.tables e below (T13.setTop (mkF m 22 #[.val (.ref a1), .val (.int p2)] [(.int (2 : Int32)), (.int (2 : Int32)), (.ref b), (.ref a1)])) _
    refine XS.imul X13.here hx rfl (hb hby add_22) rfl ?_
    exact k)
  obtain ⟨_, _, ⟨T16, L16, k16, n16⟩, -, X16, ⟨Lc16, hQ16, l16, y16, z16⟩, st16⟩ := Jvm.LawKit.callS X13 hx (y := (⟨"java/util/Arrays", "copyOf", "([II)[I"⟩ : MethodName)) hown (mvT hZ (hw _ (List.mem_of_getElem? (i := 35) rfl))) (mvT hZ (hw _ (List.mem_of_getElem? (i := 36) rfl))) (mvT hZ (hw _ (List.mem_of_getElem? (i := 37) rfl))) (mvT hZ (hw _ (List.mem_of_getElem? (i := 38) rfl))) (by decide) (backOf (W := 1) (rm_cp l Z a0 hw [] b kA x0 x1 h0 n0 Z0 V1) hZ (hw _ (List.mem_of_getElem? (i := 38) rfl)) (hw _ (List.mem_of_getElem? (i := 37) rfl)) (by decide) (by decide)) (g := (mkF m 23 #[.val (.ref a1), .val (.int p2)] [(.int (4 : Int32)), (.ref b), (.ref a1)])) rfl (by rw [hml]; rfl) (argsL := [(.ref b), (.int (4 : Int32))]) (rest := [(.ref a1)]) (lenOf pd_1 rfl) rfl (by show 2 * 0 + _ ≤ _; exact Nat.le_of_eq rfl) (hb hby add_23) (fun _ _ => ⟨rfl, e13, (by decide : 0 + 1 ≤ _), (by decide : 0 + 4 ≤ _)⟩)
  dsimp only [Pt.U, Pt.locs, Pt.cells, Pt.slots] at X16 l16 y16 z16 st16 hQ16
  subst l16 y16 z16
  obtain ⟨h16, e16⟩ : ∃ z, T16.heap = z := ⟨_, rfl⟩
  rw [e16] at hQ16
  obtain ⟨b16, k16, rfl, N16q, K16, g16, s16, V16⟩ := hQ16
  have N16 := Fr.app N0 N16q
  have go17 : ∀ t, Steps p.tables e below (T16.setTop (mkF m 26 #[.val (.ref a1), .val (.int p2)] [(.ref b16), (.ref a1)])) t → Steps p.tables e below (s₁.setTop (entryFrame m #[(.ref a1), (.int p2)] 2)) t := fun t k => go15 t (st16 t k)
  have ne_a1_b16 : a1 ≠ b16 := Nat.ne_of_lt (Nat.lt_of_lt_of_le E1.lt s16)
  have ne_b_b16 : b ≠ b16 := Nat.ne_of_lt (Nat.lt_of_lt_of_le V1.lt s16)
  have sz_b16 : h0.size ≤ b16 := Nat.le_trans ((Keep.refl h0 [a1])).1 s16
  have f18 := E1.keep K16
  have f19 := F1.keep K16 nin0
  have f20 := F2.keep K16 nin0
  have f21 := V1.keep K16 nin0
  have f22 := ((Keep.refl h0 [a1])).trans K16 all0
  obtain ⟨T23, h23, X23, e23, W23, st23⟩ := putF X16 hx hZ hown (host := "") (Or.inl (hw _ (List.mem_of_getElem? (i := 17) rfl))) Via.refl e16 f19 f18 (Or.inl (hw _ (List.mem_of_getElem? (i := 18) rfl))) (hw _ (List.mem_of_getElem? (i := 8) rfl)) (ty := (.array .int)) (by decide) rfl rfl (g := (mkF m 26 #[.val (.ref a1), .val (.int p2)] [(.ref b16), (.ref a1)])) rfl rfl (hb hby add_26)
  have N23 := Fr.snoc X23 N16 g1
  have f24 := f18.wr W23
  have f25 := f19.same W23
  have f26 := f20.other W23 (Or.inr (slot_ne (Or.inl (hw _ (List.mem_of_getElem? (i := 29) rfl))) (Or.inl (hw _ (List.mem_of_getElem? (i := 18) rfl))) (by decide) (t := .int) (t' := (.array .int)) (by decide) (by decide)))
  have f27 := f21.other W23 (Ne.symm ne1)
  have f28 := V16.other W23 (Ne.symm ne_a1_b16)
  have f29 := (f22).wr W23 (Or.inl (List.mem_of_getElem? (i := 0) rfl))
  have go30 : ∀ t, Steps p.tables e below (T23.setTop (mkF m 29 #[.val (.ref a1), .val (.int p2)] [])) t → Steps p.tables e below (s₁.setTop (entryFrame m #[(.ref a1), (.int p2)] 2)) t := fun t k => go17 t (st23 t k)
  have go31 : ∀ t, Steps p.tables e below (T23.setTop (mkF m 30 #[.val (.ref a1), .val (.int p2)] [(.ref a1)])) t → Steps p.tables e below (s₁.setTop (entryFrame m #[(.ref a1), (.int p2)] 2)) t := fun t k => go30 t (by
    show Steps p.tables e below (T23.setTop (mkF m 29 #[.val (.ref a1), .val (.int p2)] [])) _
    refine XS.aloadN X23.here hx rfl (hb hby add_29) rfl rfl ?_
    exact k)
  obtain ⟨T32, X32, e32, st32⟩ := getF X23 hx hZ hown (host := "") (Or.inl (hw _ (List.mem_of_getElem? (i := 17) rfl))) Via.refl e23 f25 (g := (mkF m 30 #[.val (.ref a1), .val (.int p2)] [(.ref a1)])) rfl rfl (hb hby add_30)
  have go33 : ∀ t, Steps p.tables e below (T32.setTop (mkF m 33 #[.val (.ref a1), .val (.int p2)] [(.ref b16)])) t → Steps p.tables e below (s₁.setTop (entryFrame m #[(.ref a1), (.int p2)] 2)) t := fun t k => go31 t (st32 t k)
  have go34 : ∀ t, Steps p.tables e below (T32.setTop (mkF m 35 #[.val (.ref a1), .val (.int p2)] [(.ref a1), (.ref a1), (.ref b16)])) t → Steps p.tables e below (s₁.setTop (entryFrame m #[(.ref a1), (.int p2)] 2)) t := fun t k => go33 t (by
    show Steps p.tables e below (T32.setTop (mkF m 33 #[.val (.ref a1), .val (.int p2)] [(.ref b16)])) _
    refine XS.aloadN X32.here hx rfl (hb hby add_33) rfl rfl ?_
    show Steps p.tables e below (T32.setTop (mkF m 34 #[.val (.ref a1), .val (.int p2)] [(.ref a1), (.ref b16)])) _
    refine XS.dup X32.here hx rfl (hb hby add_34) rfl rfl ?_
    exact k)
  obtain ⟨T35, X35, e35, st35⟩ := getF X32 hx hZ hown (host := "") (Or.inl (hw _ (List.mem_of_getElem? (i := 28) rfl))) Via.refl e32 f26 (g := (mkF m 35 #[.val (.ref a1), .val (.int p2)] [(.ref a1), (.ref a1), (.ref b16)])) rfl rfl (hb hby add_35)
  have go36 : ∀ t, Steps p.tables e below (T35.setTop (mkF m 38 #[.val (.ref a1), .val (.int p2)] [(.int (2 : Int32)), (.ref a1), (.ref b16)])) t → Steps p.tables e below (s₁.setTop (entryFrame m #[(.ref a1), (.int p2)] 2)) t := fun t k => go34 t (st35 t k)
  have go37 : ∀ t, Steps p.tables e below (T35.setTop (mkF m 41 #[.val (.ref a1), .val (.int p2)] [(.int (3 : Int32)), (.ref a1), (.int (2 : Int32)), (.ref b16)])) t → Steps p.tables e below (s₁.setTop (entryFrame m #[(.ref a1), (.int p2)] 2)) t := fun t k => go36 t (by
    show Steps p.tables e below (T35.setTop (mkF m 38 #[.val (.ref a1), .val (.int p2)] [(.int (2 : Int32)), (.ref a1), (.ref b16)])) _
    refine XS.dupX1 X35.here hx rfl (hb hby add_38) rfl rfl rfl ?_
    show Steps p.tables e below (T35.setTop (mkF m 39 #[.val (.ref a1), .val (.int p2)] [(.int (2 : Int32)), (.ref a1), (.int (2 : Int32)), (.ref b16)])) _
    refine XS.iconst X35.here hx rfl (hb hby add_39) ?_
    show Steps p.tables e below (T35.setTop (mkF m 40 #[.val (.ref a1), .val (.int p2)] [(.int (1 : Int32)), (.int (2 : Int32)), (.ref a1), (.int (2 : Int32)), (.ref b16)])) _
    refine XS.iadd X35.here hx rfl (hb hby add_40) rfl ?_
    exact k)
  obtain ⟨T38, h38, X38, e38, W38, st38⟩ := putF X35 hx hZ hown (host := "") (Or.inl (hw _ (List.mem_of_getElem? (i := 28) rfl))) Via.refl e35 f26 f24 (Or.inl (hw _ (List.mem_of_getElem? (i := 29) rfl))) (hw _ (List.mem_of_getElem? (i := 8) rfl)) (ty := .int) (by decide) rfl rfl (g := (mkF m 41 #[.val (.ref a1), .val (.int p2)] [(.int (3 : Int32)), (.ref a1), (.int (2 : Int32)), (.ref b16)])) rfl rfl (hb hby add_41)
  have N38 := Fr.snoc X38 N23 g1
  have f39 := f24.wr W38
  have f40 := f25.other W38 (Or.inr (slot_ne (Or.inl (hw _ (List.mem_of_getElem? (i := 18) rfl))) (Or.inl (hw _ (List.mem_of_getElem? (i := 29) rfl))) (by decide) (t := (.array .int)) (t' := .int) (by decide) (by decide)))
  have f41 := f26.same W38
  have f42 := f27.other W38 (Ne.symm ne1)
  have f43 := f28.other W38 (Ne.symm ne_a1_b16)
  have f44 := (f29).wr W38 (Or.inl (List.mem_of_getElem? (i := 0) rfl))
  have go45 : ∀ t, Steps p.tables e below (T38.setTop (mkF m 44 #[.val (.ref a1), .val (.int p2)] [(.int (2 : Int32)), (.ref b16)])) t → Steps p.tables e below (s₁.setTop (entryFrame m #[(.ref a1), (.int p2)] 2)) t := fun t k => go37 t (st38 t k)
  have go46 : ∀ t, Steps p.tables e below (T38.setTop (mkF m 45 #[.val (.ref a1), .val (.int p2)] [(.int p2), (.int (2 : Int32)), (.ref b16)])) t → Steps p.tables e below (s₁.setTop (entryFrame m #[(.ref a1), (.int p2)] 2)) t := fun t k => go45 t (by
    show Steps p.tables e below (T38.setTop (mkF m 44 #[.val (.ref a1), .val (.int p2)] [(.int (2 : Int32)), (.ref b16)])) _
    refine XS.iloadN X38.here hx rfl (hb hby add_44) rfl ?_
    exact k)
  obtain ⟨cl47, Ar47, q47, S47, M47, H47, G47⟩ := id f43
  obtain ⟨T47, h47, X47, e47, W47, st47⟩ := stI X38 hx hZ e38 Ar47 (j := (2 : Int32)) (inb_of S47 ⟨by decide, by decide⟩) (g := (mkF m 45 #[.val (.ref a1), .val (.int p2)] [(.int p2), (.int (2 : Int32)), (.ref b16)])) rfl rfl (hb hby add_45)
  have V47 : Arv Z h47 b16 k16 .int (4 : Int32) [(.int x0), (.int x1), (.int p2), (.int (0 : Int32))] (.int (0 : Int32)) := Arv.set Ar47 q47 S47 M47 H47 G47 rfl W47 2 rfl (Nat.le_of_ble_eq_true rfl)
  have N47 := Fr.snoc X47 N38 g16
  have f48 := f39.wr W47
  have f49 := f40.other W47 (Or.inl ne_a1_b16)
  have f50 := f41.other W47 (Or.inl ne_a1_b16)
  have f51 := f42.other W47 ne_b_b16
  have f52 := (f44).wr W47 (Or.inr sz_b16)
  have go53 : ∀ t, Steps p.tables e below (T47.setTop (mkF m 46 #[.val (.ref a1), .val (.int p2)] [])) t → Steps p.tables e below (s₁.setTop (entryFrame m #[(.ref a1), (.int p2)] 2)) t := fun t k => go46 t (st47 t k)
  obtain ⟨fs, hr, hrun, hended, hW, hsame⟩ := X47.leave (v := none) (fun _ => rfl)
  refine ⟨_, _, go53 _ ?_, hrun, hended, _, _, rfl, ?_, ⟨_, rfl⟩, hW, hsame.mono (by decide) (by decide)⟩
  · exact X47.returnOut hx Bd.returns (hb hby add_46) hr
  · show Qadd2 Z a1 p2 b kA x0 x1 h0 n0 _ T47.heap _
    rw [e47]
    exact ⟨rfl, N47, f52, f50, _, _, g16, ne_a1_b16, f49, V47⟩
def Qadd3 (Z : State) (a1 : Addr) (p2 : Int32) (b : Addr) (kA : ClassId) (x0 x1 x2 : Int32) (h0 : Heap) (n0 : Nat) (v : Option Value) (h : Heap) (L : List Loc) : Prop := v = none ∧ Fr n0 L ∧ Keep h0 h [a1, b] ∧ Fld Z h a1 "com/example/halting_hound/haltinghound/IntList" "size" "I" (.int (4 : Int32)) ∧ Fld Z h a1 "com/example/halting_hound/haltinghound/IntList" "values" "[I" (.ref b) ∧ Arv Z h b kA .int (4 : Int32) [(.int x0), (.int x1), (.int x2), (.int p2)] (.int (0 : Int32))
set_option maxRecDepth 65536 in
set_option maxHeartbeats 40000000 in
theorem rm_add3 (l : Launch) (Z : State) (a0 : Array Value) (hw : ∀ d ∈ tables_1, d.before a0 Z = true) (ws : List Jvm.Cond) (a1 : Addr) (p2 : Int32) (b : Addr) (kA : ClassId) (x0 x1 x2 : Int32) (h0 : Heap) (n0 : Nat) (Z0 : n0 ≤ h0.size) (E1 : Exa Z h0 a1 "com/example/halting_hound/haltinghound/IntList") (F1 : Fld Z h0 a1 "com/example/halting_hound/haltinghound/IntList" "values" "[I" (.ref b)) (F2 : Fld Z h0 a1 "com/example/halting_hound/haltinghound/IntList" "size" "I" (.int (3 : Int32))) (V1 : Arv Z h0 b kA .int (4 : Int32) [(.int x0), (.int x1), (.int x2), (.int (0 : Int32))] (.int (0 : Int32))) (g1 : n0 ≤ a1) (g2 : n0 ≤ b) (ne1 : a1 ≠ b) :
    MetFree l (⟨"com/example/halting_hound/haltinghound/IntList", "add", "(I)V"⟩ : MethodName) (head1 (Jvm.Cond.code (⟨"com/example/halting_hound/haltinghound/IntList", "add", "(I)V"⟩ : MethodName) prog_33_method_2_code 2 none :: ws) ({ frames := 0, cells := 0, slots := 0, locals := 0 } : Room)) (fun a U => a = #[(.ref a1), (.int p2)] ∧ Z.Warmed39 U.vm ∧ U.heap = h0) (fun _ _ _ _ _ => True) (fun _ U o U' => ∃ v L, o = .returned v ∧ Qadd3 Z a1 p2 b kA x0 x1 x2 h0 n0 v U'.heap L ∧ FrameEnd U o U' L ({ frames := 0, cells := 0, slots := 0, locals := 0 } : Room).cells ({ frames := 0, cells := 0, slots := 0, locals := 0 } : Room).slots) := by
  refine MetFree.of_bodySF (plainFor_of_name pn_add) hisR ?_
  intro p e s m args below meth c s₁ Bd hml0 hP hK
  obtain ⟨rfl, hZ, hh⟩ := hP
  have hx := Bd.exec
  have hby := Bd.bytes
  have hml : c.maxLocals = 2 := hml0
  have hown : s.vm.findClass "com/example/halting_hound/haltinghound/IntList" = some m.cls := findClass_of_methodNamed Bd.named
  have hnm := (name_of_methodNamed Bd.named Bd.method).1
  have X0 : Stand p l e ({ frames := 0, cells := 0, slots := 0, locals := 0 } : Room) s m #[(.ref a1), (.int p2)] below meth c s₁ [] 0 0 := Stand.of_body Bd
  have e0 : s₁.heap = h0 := by rw [← hh, Bd.state]; rfl
  have N0 := Fr.nil n0
  have go0 : ∀ t, Steps p.tables e below (s₁.setTop (mkF m 0 #[.val (.ref a1), .val (.int p2)] [])) t → Steps p.tables e below (s₁.setTop (entryFrame m #[(.ref a1), (.int p2)] 2)) t := fun t k => castTop (ef_add m a1 p2) k
  have go1 : ∀ t, Steps p.tables e below (s₁.setTop (mkF m 1 #[.val (.ref a1), .val (.int p2)] [(.ref a1)])) t → Steps p.tables e below (s₁.setTop (entryFrame m #[(.ref a1), (.int p2)] 2)) t := fun t k => go0 t (by
    show Steps p.tables e below (s₁.setTop (mkF m 0 #[.val (.ref a1), .val (.int p2)] [])) _
    refine XS.aloadN X0.here hx rfl (hb hby add_0) rfl rfl ?_
    exact k)
  obtain ⟨T2, X2, e2, st2⟩ := getF X0 hx hZ hown (host := "") (Or.inl (hw _ (List.mem_of_getElem? (i := 28) rfl))) Via.refl e0 F2 (g := (mkF m 1 #[.val (.ref a1), .val (.int p2)] [(.ref a1)])) rfl rfl (hb hby add_1)
  have go3 : ∀ t, Steps p.tables e below (T2.setTop (mkF m 4 #[.val (.ref a1), .val (.int p2)] [(.int (3 : Int32))])) t → Steps p.tables e below (s₁.setTop (entryFrame m #[(.ref a1), (.int p2)] 2)) t := fun t k => go1 t (st2 t k)
  have go4 : ∀ t, Steps p.tables e below (T2.setTop (mkF m 5 #[.val (.ref a1), .val (.int p2)] [(.ref a1), (.int (3 : Int32))])) t → Steps p.tables e below (s₁.setTop (entryFrame m #[(.ref a1), (.int p2)] 2)) t := fun t k => go3 t (by
    show Steps p.tables e below (T2.setTop (mkF m 4 #[.val (.ref a1), .val (.int p2)] [(.int (3 : Int32))])) _
    refine XS.aloadN X2.here hx rfl (hb hby add_4) rfl rfl ?_
    exact k)
  obtain ⟨T5, X5, e5, st5⟩ := getF X2 hx hZ hown (host := "") (Or.inl (hw _ (List.mem_of_getElem? (i := 17) rfl))) Via.refl e2 F1 (g := (mkF m 5 #[.val (.ref a1), .val (.int p2)] [(.ref a1), (.int (3 : Int32))])) rfl rfl (hb hby add_5)
  have go6 : ∀ t, Steps p.tables e below (T5.setTop (mkF m 8 #[.val (.ref a1), .val (.int p2)] [(.ref b), (.int (3 : Int32))])) t → Steps p.tables e below (s₁.setTop (entryFrame m #[(.ref a1), (.int p2)] 2)) t := fun t k => go4 t (st5 t k)
  obtain ⟨cl7, Ar7, q7, S7, M7, H7, G7⟩ := id V1
  have go8 : ∀ t, Steps p.tables e below (T5.setTop (mkF m 9 #[.val (.ref a1), .val (.int p2)] [(.int (4 : Int32)), (.int (3 : Int32))])) t → Steps p.tables e below (s₁.setTop (entryFrame m #[(.ref a1), (.int p2)] 2)) t := fun t k => go6 t (by
    show Steps p.tables e below (T5.setTop (mkF m 8 #[.val (.ref a1), .val (.int p2)] [(.ref b), (.int (3 : Int32))])) _
    refine X5.arraylength hx (by rw [e5]; exact Ar7.1) (State.isArrayOf_alike hZ.alike Ar7.2.1) (g := (mkF m 8 #[.val (.ref a1), .val (.int p2)] [(.ref b), (.int (3 : Int32))])) rfl rfl (hb hby add_8) _ ?_
    rw [len_of S7 M7]
    exact k)
  have go9 : ∀ t, Steps p.tables e below (T5.setTop (mkF m 30 #[.val (.ref a1), .val (.int p2)] [(.ref a1)])) t → Steps p.tables e below (s₁.setTop (entryFrame m #[(.ref a1), (.int p2)] 2)) t := fun t k => go8 t (by
    show Steps p.tables e below (T5.setTop (mkF m 9 #[.val (.ref a1), .val (.int p2)] [(.int (4 : Int32)), (.int (3 : Int32))])) _
    refine XS.icmpYes X5.here hx rfl (pc0 := 9) (pc' := 29) rfl (hb hby add_9) rfl (feq (by decide : ¬ ((3 : Int32) = (4 : Int32)))).2 (by decide) (by decide) ?_
    show Steps p.tables e below (T5.setTop (mkF m 29 #[.val (.ref a1), .val (.int p2)] [])) _
    refine XS.aloadN X5.here hx rfl (hb hby add_29) rfl rfl ?_
    exact k)
  obtain ⟨T10, X10, e10, st10⟩ := getF X5 hx hZ hown (host := "") (Or.inl (hw _ (List.mem_of_getElem? (i := 17) rfl))) Via.refl e5 F1 (g := (mkF m 30 #[.val (.ref a1), .val (.int p2)] [(.ref a1)])) rfl rfl (hb hby add_30)
  have go11 : ∀ t, Steps p.tables e below (T10.setTop (mkF m 33 #[.val (.ref a1), .val (.int p2)] [(.ref b)])) t → Steps p.tables e below (s₁.setTop (entryFrame m #[(.ref a1), (.int p2)] 2)) t := fun t k => go9 t (st10 t k)
  have go12 : ∀ t, Steps p.tables e below (T10.setTop (mkF m 35 #[.val (.ref a1), .val (.int p2)] [(.ref a1), (.ref a1), (.ref b)])) t → Steps p.tables e below (s₁.setTop (entryFrame m #[(.ref a1), (.int p2)] 2)) t := fun t k => go11 t (by
    show Steps p.tables e below (T10.setTop (mkF m 33 #[.val (.ref a1), .val (.int p2)] [(.ref b)])) _
    refine XS.aloadN X10.here hx rfl (hb hby add_33) rfl rfl ?_
    show Steps p.tables e below (T10.setTop (mkF m 34 #[.val (.ref a1), .val (.int p2)] [(.ref a1), (.ref b)])) _
    refine XS.dup X10.here hx rfl (hb hby add_34) rfl rfl ?_
    exact k)
  obtain ⟨T13, X13, e13, st13⟩ := getF X10 hx hZ hown (host := "") (Or.inl (hw _ (List.mem_of_getElem? (i := 28) rfl))) Via.refl e10 F2 (g := (mkF m 35 #[.val (.ref a1), .val (.int p2)] [(.ref a1), (.ref a1), (.ref b)])) rfl rfl (hb hby add_35)
  have go14 : ∀ t, Steps p.tables e below (T13.setTop (mkF m 38 #[.val (.ref a1), .val (.int p2)] [(.int (3 : Int32)), (.ref a1), (.ref b)])) t → Steps p.tables e below (s₁.setTop (entryFrame m #[(.ref a1), (.int p2)] 2)) t := fun t k => go12 t (st13 t k)
  have go15 : ∀ t, Steps p.tables e below (T13.setTop (mkF m 41 #[.val (.ref a1), .val (.int p2)] [(.int (4 : Int32)), (.ref a1), (.int (3 : Int32)), (.ref b)])) t → Steps p.tables e below (s₁.setTop (entryFrame m #[(.ref a1), (.int p2)] 2)) t := fun t k => go14 t (by
    show Steps p.tables e below (T13.setTop (mkF m 38 #[.val (.ref a1), .val (.int p2)] [(.int (3 : Int32)), (.ref a1), (.ref b)])) _
    refine XS.dupX1 X13.here hx rfl (hb hby add_38) rfl rfl rfl ?_
    show Steps p.tables e below (T13.setTop (mkF m 39 #[.val (.ref a1), .val (.int p2)] [(.int (3 : Int32)), (.ref a1), (.int (3 : Int32)), (.ref b)])) _
    refine XS.iconst X13.here hx rfl (hb hby add_39) ?_
    show Steps p.tables e below (T13.setTop (mkF m 40 #[.val (.ref a1), .val (.int p2)] [(.int (1 : Int32)), (.int (3 : Int32)), (.ref a1), (.int (3 : Int32)), (.ref b)])) _
    refine XS.iadd X13.here hx rfl (hb hby add_40) rfl ?_
    exact k)
  obtain ⟨T16, h16, X16, e16, W16, st16⟩ := putF X13 hx hZ hown (host := "") (Or.inl (hw _ (List.mem_of_getElem? (i := 28) rfl))) Via.refl e13 F2 E1 (Or.inl (hw _ (List.mem_of_getElem? (i := 29) rfl))) (hw _ (List.mem_of_getElem? (i := 8) rfl)) (ty := .int) (by decide) rfl rfl (g := (mkF m 41 #[.val (.ref a1), .val (.int p2)] [(.int (4 : Int32)), (.ref a1), (.int (3 : Int32)), (.ref b)])) rfl rfl (hb hby add_41)
  have N16 := Fr.snoc X16 N0 g1
  have f17 := E1.wr W16
  have f18 := F1.other W16 (Or.inr (slot_ne (Or.inl (hw _ (List.mem_of_getElem? (i := 18) rfl))) (Or.inl (hw _ (List.mem_of_getElem? (i := 29) rfl))) (by decide) (t := (.array .int)) (t' := .int) (by decide) (by decide)))
  have f19 := F2.same W16
  have f20 := V1.other W16 (Ne.symm ne1)
  have f21 := ((Keep.refl h0 [a1, b])).wr W16 (Or.inl (List.mem_of_getElem? (i := 0) rfl))
  have go22 : ∀ t, Steps p.tables e below (T16.setTop (mkF m 44 #[.val (.ref a1), .val (.int p2)] [(.int (3 : Int32)), (.ref b)])) t → Steps p.tables e below (s₁.setTop (entryFrame m #[(.ref a1), (.int p2)] 2)) t := fun t k => go15 t (st16 t k)
  have go23 : ∀ t, Steps p.tables e below (T16.setTop (mkF m 45 #[.val (.ref a1), .val (.int p2)] [(.int p2), (.int (3 : Int32)), (.ref b)])) t → Steps p.tables e below (s₁.setTop (entryFrame m #[(.ref a1), (.int p2)] 2)) t := fun t k => go22 t (by
    show Steps p.tables e below (T16.setTop (mkF m 44 #[.val (.ref a1), .val (.int p2)] [(.int (3 : Int32)), (.ref b)])) _
    refine XS.iloadN X16.here hx rfl (hb hby add_44) rfl ?_
    exact k)
  obtain ⟨cl24, Ar24, q24, S24, M24, H24, G24⟩ := id f20
  obtain ⟨T24, h24, X24, e24, W24, st24⟩ := stI X16 hx hZ e16 Ar24 (j := (3 : Int32)) (inb_of S24 ⟨by decide, by decide⟩) (g := (mkF m 45 #[.val (.ref a1), .val (.int p2)] [(.int p2), (.int (3 : Int32)), (.ref b)])) rfl rfl (hb hby add_45)
  have V24 : Arv Z h24 b kA .int (4 : Int32) [(.int x0), (.int x1), (.int x2), (.int p2)] (.int (0 : Int32)) := Arv.set Ar24 q24 S24 M24 H24 G24 rfl W24 3 rfl (Nat.le_of_ble_eq_true rfl)
  have N24 := Fr.snoc X24 N16 g2
  have f25 := f17.wr W24
  have f26 := f18.other W24 (Or.inl ne1)
  have f27 := f19.other W24 (Or.inl ne1)
  have f28 := (f21).wr W24 (Or.inl (List.mem_of_getElem? (i := 1) rfl))
  have go29 : ∀ t, Steps p.tables e below (T24.setTop (mkF m 46 #[.val (.ref a1), .val (.int p2)] [])) t → Steps p.tables e below (s₁.setTop (entryFrame m #[(.ref a1), (.int p2)] 2)) t := fun t k => go23 t (st24 t k)
  obtain ⟨fs, hr, hrun, hended, hW, hsame⟩ := X24.leave (v := none) (fun _ => rfl)
  refine ⟨_, _, go29 _ ?_, hrun, hended, _, _, rfl, ?_, ⟨_, rfl⟩, hW, hsame.mono (by decide) (by decide)⟩
  · exact X24.returnOut hx Bd.returns (hb hby add_46) hr
  · show Qadd3 Z a1 p2 b kA x0 x1 x2 h0 n0 _ T24.heap _
    rw [e24]
    exact ⟨rfl, N24, f28, f27, f26, V24⟩
def own_fal0 (p2  : Int32) : Int32 := (0 : Int32)
theorem fal_0 : decode prog_33_method_5_code 0 = .ok (.iconst 0, 1) := by decide +kernel
theorem fal_1 : decode prog_33_method_5_code 1 = .ok (.istore_n 2, 1) := by decide +kernel
theorem fal_2 : decode prog_33_method_5_code 2 = .ok (.aload_n 0, 1) := by decide +kernel
theorem fal_3 : decode prog_33_method_5_code 3 = .ok (.getfield 13, 3) := by decide +kernel
theorem fal_6 : decode prog_33_method_5_code 6 = .ok (.istore_n 3, 1) := by decide +kernel
theorem fal_7 : decode prog_33_method_5_code 7 = .ok (.iload_n 2, 1) := by decide +kernel
theorem fal_8 : decode prog_33_method_5_code 8 = .ok (.iload_n 3, 1) := by decide +kernel
theorem fal_9 : decode prog_33_method_5_code 9 = .ok (.if_icmp .ge 35, 3) := by decide +kernel
theorem fal_12 : decode prog_33_method_5_code 12 = .ok (.iload_n 2, 1) := by decide +kernel
theorem fal_13 : decode prog_33_method_5_code 13 = .ok (.iload_n 3, 1) := by decide +kernel
theorem fal_14 : decode prog_33_method_5_code 14 = .ok (.iadd, 1) := by decide +kernel
theorem fal_15 : decode prog_33_method_5_code 15 = .ok (.iconst 1, 1) := by decide +kernel
theorem fal_16 : decode prog_33_method_5_code 16 = .ok (.iushr, 1) := by decide +kernel
theorem fal_17 : decode prog_33_method_5_code 17 = .ok (.istore 4, 2) := by decide +kernel
theorem fal_19 : decode prog_33_method_5_code 19 = .ok (.aload_n 0, 1) := by decide +kernel
theorem fal_20 : decode prog_33_method_5_code 20 = .ok (.getfield 7, 3) := by decide +kernel
theorem fal_23 : decode prog_33_method_5_code 23 = .ok (.iload 4, 2) := by decide +kernel
theorem fal_25 : decode prog_33_method_5_code 25 = .ok (.iaload, 1) := by decide +kernel
theorem fal_26 : decode prog_33_method_5_code 26 = .ok (.iload_n 1, 1) := by decide +kernel
theorem fal_27 : decode prog_33_method_5_code 27 = .ok (.if_icmp .ge 11, 3) := by decide +kernel
theorem fal_30 : decode prog_33_method_5_code 30 = .ok (.iload 4, 2) := by decide +kernel
theorem fal_32 : decode prog_33_method_5_code 32 = .ok (.iconst 1, 1) := by decide +kernel
theorem fal_33 : decode prog_33_method_5_code 33 = .ok (.iadd, 1) := by decide +kernel
theorem fal_34 : decode prog_33_method_5_code 34 = .ok (.istore_n 2, 1) := by decide +kernel
theorem fal_35 : decode prog_33_method_5_code 35 = .ok (.goto 6, 3) := by decide +kernel
theorem fal_38 : decode prog_33_method_5_code 38 = .ok (.iload 4, 2) := by decide +kernel
theorem fal_40 : decode prog_33_method_5_code 40 = .ok (.istore_n 3, 1) := by decide +kernel
theorem fal_41 : decode prog_33_method_5_code 41 = .ok (.goto (-34), 3) := by decide +kernel
theorem fal_44 : decode prog_33_method_5_code 44 = .ok (.iload_n 2, 1) := by decide +kernel
theorem fal_45 : decode prog_33_method_5_code 45 = .ok (.ireturn, 1) := by decide +kernel
theorem pn_fal : plainName "com/example/halting_hound/haltinghound/IntList" = true := by first | (simp [plainName, overriddenIn]; done) | decide +kernel
theorem ef_fal (m : MethodId) (a1 : Addr) (p2 : Int32) : entryFrame m #[(.ref a1), (.int p2)] 5 = mkF m 0 #[.val (.ref a1), .val (.int p2), .unset, .unset, .unset] [] := by first | (simp [entryFrame, mkF, argsToLocals, Value.category]; done) | rfl
set_option maxRecDepth 65536 in
set_option maxHeartbeats 40000000 in
theorem rm_fal0 (l : Launch) (Z : State) (a0 : Array Value) (hw : ∀ d ∈ tables_1, d.before a0 Z = true) (ws : List Jvm.Cond) (a1 : Addr) (p2 : Int32) (b : Addr) (kA : ClassId)  (h0 : Heap) (n0 : Nat) (Z0 : n0 ≤ h0.size) (E1 : Exa Z h0 a1 "com/example/halting_hound/haltinghound/IntList") (F1 : Fld Z h0 a1 "com/example/halting_hound/haltinghound/IntList" "values" "[I" (.ref b)) (F2 : Fld Z h0 a1 "com/example/halting_hound/haltinghound/IntList" "size" "I" (.int (0 : Int32))) (V1 : Arv Z h0 b kA .int (2 : Int32) [(.int (0 : Int32)), (.int (0 : Int32))] (.int (0 : Int32))) :
    MetFree l (⟨"com/example/halting_hound/haltinghound/IntList", "firstAtLeast", "(I)I"⟩ : MethodName) (head1 (Jvm.Cond.code (⟨"com/example/halting_hound/haltinghound/IntList", "firstAtLeast", "(I)I"⟩ : MethodName) prog_33_method_5_code 5 (some .int) :: ws) ({ frames := 0, cells := 0, slots := 0, locals := 0 } : Room)) (fun a U => a = #[(.ref a1), (.int p2)] ∧ Z.Warmed39 U.vm ∧ U.heap = h0) (fun _ _ _ _ _ => True) (fun _ U o U' => ∃ v L, o = .returned v ∧ QV (.int (own_fal0 p2 )) h0 n0 v U'.heap L ∧ FrameEnd U o U' L ({ frames := 0, cells := 0, slots := 0, locals := 0 } : Room).cells ({ frames := 0, cells := 0, slots := 0, locals := 0 } : Room).slots) := by
  refine MetFree.of_bodySF (plainFor_of_name pn_fal) hisR ?_
  intro p e s m args below meth c s₁ Bd hml0 hP hK
  obtain ⟨rfl, hZ, hh⟩ := hP
  have hx := Bd.exec
  have hby := Bd.bytes
  have hml : c.maxLocals = 5 := hml0
  have hown : s.vm.findClass "com/example/halting_hound/haltinghound/IntList" = some m.cls := findClass_of_methodNamed Bd.named
  have hnm := (name_of_methodNamed Bd.named Bd.method).1
  have X0 : Stand p l e ({ frames := 0, cells := 0, slots := 0, locals := 0 } : Room) s m #[(.ref a1), (.int p2)] below meth c s₁ [] 0 0 := Stand.of_body Bd
  have e0 : s₁.heap = h0 := by rw [← hh, Bd.state]; rfl
  have N0 := Fr.nil n0
  have go0 : ∀ t, Steps p.tables e below (s₁.setTop (mkF m 0 #[.val (.ref a1), .val (.int p2), .unset, .unset, .unset] [])) t → Steps p.tables e below (s₁.setTop (entryFrame m #[(.ref a1), (.int p2)] 5)) t := fun t k => castTop (ef_fal m a1 p2) k
  have go1 : ∀ t, Steps p.tables e below (s₁.setTop (mkF m 3 #[.val (.ref a1), .val (.int p2), .val (.int (0 : Int32)), .unset, .unset] [(.ref a1)])) t → Steps p.tables e below (s₁.setTop (entryFrame m #[(.ref a1), (.int p2)] 5)) t := fun t k => go0 t (by
    show Steps p.tables e below (s₁.setTop (mkF m 0 #[.val (.ref a1), .val (.int p2), .unset, .unset, .unset] [])) _
    refine XS.iconst X0.here hx rfl (hb hby fal_0) ?_
    show Steps p.tables e below (s₁.setTop (mkF m 1 #[.val (.ref a1), .val (.int p2), .unset, .unset, .unset] [(.int (0 : Int32))])) _
    refine XS.istoreN X0.here hx rfl (hb hby fal_1) rfl (l' := #[.val (.ref a1), .val (.int p2), .val (.int (0 : Int32)), .unset, .unset]) rfl ?_
    show Steps p.tables e below (s₁.setTop (mkF m 2 #[.val (.ref a1), .val (.int p2), .val (.int (0 : Int32)), .unset, .unset] [])) _
    refine XS.aloadN X0.here hx rfl (hb hby fal_2) rfl rfl ?_
    exact k)
  obtain ⟨T2, X2, e2, st2⟩ := getF X0 hx hZ hown (host := "") (Or.inl (hw _ (List.mem_of_getElem? (i := 28) rfl))) Via.refl e0 F2 (g := (mkF m 3 #[.val (.ref a1), .val (.int p2), .val (.int (0 : Int32)), .unset, .unset] [(.ref a1)])) rfl rfl (hb hby fal_3)
  have go3 : ∀ t, Steps p.tables e below (T2.setTop (mkF m 6 #[.val (.ref a1), .val (.int p2), .val (.int (0 : Int32)), .unset, .unset] [(.int (0 : Int32))])) t → Steps p.tables e below (s₁.setTop (entryFrame m #[(.ref a1), (.int p2)] 5)) t := fun t k => go1 t (st2 t k)
  have go4 : ∀ t, Steps p.tables e below (T2.setTop (mkF m 45 #[.val (.ref a1), .val (.int p2), .val (.int (0 : Int32)), .val (.int (0 : Int32)), .unset] [(.int (0 : Int32))])) t → Steps p.tables e below (s₁.setTop (entryFrame m #[(.ref a1), (.int p2)] 5)) t := fun t k => go3 t (by
    show Steps p.tables e below (T2.setTop (mkF m 6 #[.val (.ref a1), .val (.int p2), .val (.int (0 : Int32)), .unset, .unset] [(.int (0 : Int32))])) _
    refine XS.istoreN X2.here hx rfl (hb hby fal_6) rfl (l' := #[.val (.ref a1), .val (.int p2), .val (.int (0 : Int32)), .val (.int (0 : Int32)), .unset]) rfl ?_
    show Steps p.tables e below (T2.setTop (mkF m 7 #[.val (.ref a1), .val (.int p2), .val (.int (0 : Int32)), .val (.int (0 : Int32)), .unset] [])) _
    refine XS.iloadN X2.here hx rfl (hb hby fal_7) rfl ?_
    show Steps p.tables e below (T2.setTop (mkF m 8 #[.val (.ref a1), .val (.int p2), .val (.int (0 : Int32)), .val (.int (0 : Int32)), .unset] [(.int (0 : Int32))])) _
    refine XS.iloadN X2.here hx rfl (hb hby fal_8) rfl ?_
    show Steps p.tables e below (T2.setTop (mkF m 9 #[.val (.ref a1), .val (.int p2), .val (.int (0 : Int32)), .val (.int (0 : Int32)), .unset] [(.int (0 : Int32)), (.int (0 : Int32))])) _
    refine XS.icmpYes X2.here hx rfl (pc0 := 9) (pc' := 44) rfl (hb hby fal_9) rfl (flt (by decide : ¬ ((0 : Int32) < (0 : Int32)))).2.1 (by decide) (by decide) ?_
    show Steps p.tables e below (T2.setTop (mkF m 44 #[.val (.ref a1), .val (.int p2), .val (.int (0 : Int32)), .val (.int (0 : Int32)), .unset] [])) _
    refine XS.iloadN X2.here hx rfl (hb hby fal_44) rfl ?_
    exact k)
  obtain ⟨fs, hr, hrun, hended, hW, hsame⟩ := X2.leave (v := some (.int (0 : Int32))) (fun h => by rw [Bd.returns] at h; cases h)
  refine ⟨_, _, go4 _ ?_, hrun, hended, _, _, rfl, ?_, ⟨_, rfl⟩, hW, hsame.mono (by decide) (by decide)⟩
  · exact retI X2 hx Bd.returns (hb hby fal_45) hr
  · show QV (.int (own_fal0 p2 )) h0 n0 _ T2.heap _
    rw [e2]
    exact ⟨congrArg some (congrArg Value.int (Eq.symm (show (own_fal0 p2 ) = (0 : Int32) from by unfold own_fal0; rfl))), N0, rfl⟩
def own_fal1 (p2 x0 : Int32) : Int32 := if x0 < p2 then (1 : Int32) else (0 : Int32)
set_option maxRecDepth 65536 in
set_option maxHeartbeats 40000000 in
theorem rm_fal1 (l : Launch) (Z : State) (a0 : Array Value) (hw : ∀ d ∈ tables_1, d.before a0 Z = true) (ws : List Jvm.Cond) (a1 : Addr) (p2 : Int32) (b : Addr) (kA : ClassId) (x0 : Int32) (h0 : Heap) (n0 : Nat) (Z0 : n0 ≤ h0.size) (E1 : Exa Z h0 a1 "com/example/halting_hound/haltinghound/IntList") (F1 : Fld Z h0 a1 "com/example/halting_hound/haltinghound/IntList" "values" "[I" (.ref b)) (F2 : Fld Z h0 a1 "com/example/halting_hound/haltinghound/IntList" "size" "I" (.int (1 : Int32))) (V1 : Arv Z h0 b kA .int (2 : Int32) [(.int x0), (.int (0 : Int32))] (.int (0 : Int32))) :
    MetFree l (⟨"com/example/halting_hound/haltinghound/IntList", "firstAtLeast", "(I)I"⟩ : MethodName) (head1 (Jvm.Cond.code (⟨"com/example/halting_hound/haltinghound/IntList", "firstAtLeast", "(I)I"⟩ : MethodName) prog_33_method_5_code 5 (some .int) :: ws) ({ frames := 0, cells := 0, slots := 0, locals := 0 } : Room)) (fun a U => a = #[(.ref a1), (.int p2)] ∧ Z.Warmed39 U.vm ∧ U.heap = h0) (fun _ _ _ _ _ => True) (fun _ U o U' => ∃ v L, o = .returned v ∧ QV (.int (own_fal1 p2 x0)) h0 n0 v U'.heap L ∧ FrameEnd U o U' L ({ frames := 0, cells := 0, slots := 0, locals := 0 } : Room).cells ({ frames := 0, cells := 0, slots := 0, locals := 0 } : Room).slots) := by
  refine MetFree.of_bodySF (plainFor_of_name pn_fal) hisR ?_
  intro p e s m args below meth c s₁ Bd hml0 hP hK
  obtain ⟨rfl, hZ, hh⟩ := hP
  have hx := Bd.exec
  have hby := Bd.bytes
  have hml : c.maxLocals = 5 := hml0
  have hown : s.vm.findClass "com/example/halting_hound/haltinghound/IntList" = some m.cls := findClass_of_methodNamed Bd.named
  have hnm := (name_of_methodNamed Bd.named Bd.method).1
  have X0 : Stand p l e ({ frames := 0, cells := 0, slots := 0, locals := 0 } : Room) s m #[(.ref a1), (.int p2)] below meth c s₁ [] 0 0 := Stand.of_body Bd
  have e0 : s₁.heap = h0 := by rw [← hh, Bd.state]; rfl
  have N0 := Fr.nil n0
  have go0 : ∀ t, Steps p.tables e below (s₁.setTop (mkF m 0 #[.val (.ref a1), .val (.int p2), .unset, .unset, .unset] [])) t → Steps p.tables e below (s₁.setTop (entryFrame m #[(.ref a1), (.int p2)] 5)) t := fun t k => castTop (ef_fal m a1 p2) k
  have go1 : ∀ t, Steps p.tables e below (s₁.setTop (mkF m 3 #[.val (.ref a1), .val (.int p2), .val (.int (0 : Int32)), .unset, .unset] [(.ref a1)])) t → Steps p.tables e below (s₁.setTop (entryFrame m #[(.ref a1), (.int p2)] 5)) t := fun t k => go0 t (by
    show Steps p.tables e below (s₁.setTop (mkF m 0 #[.val (.ref a1), .val (.int p2), .unset, .unset, .unset] [])) _
    refine XS.iconst X0.here hx rfl (hb hby fal_0) ?_
    show Steps p.tables e below (s₁.setTop (mkF m 1 #[.val (.ref a1), .val (.int p2), .unset, .unset, .unset] [(.int (0 : Int32))])) _
    refine XS.istoreN X0.here hx rfl (hb hby fal_1) rfl (l' := #[.val (.ref a1), .val (.int p2), .val (.int (0 : Int32)), .unset, .unset]) rfl ?_
    show Steps p.tables e below (s₁.setTop (mkF m 2 #[.val (.ref a1), .val (.int p2), .val (.int (0 : Int32)), .unset, .unset] [])) _
    refine XS.aloadN X0.here hx rfl (hb hby fal_2) rfl rfl ?_
    exact k)
  obtain ⟨T2, X2, e2, st2⟩ := getF X0 hx hZ hown (host := "") (Or.inl (hw _ (List.mem_of_getElem? (i := 28) rfl))) Via.refl e0 F2 (g := (mkF m 3 #[.val (.ref a1), .val (.int p2), .val (.int (0 : Int32)), .unset, .unset] [(.ref a1)])) rfl rfl (hb hby fal_3)
  have go3 : ∀ t, Steps p.tables e below (T2.setTop (mkF m 6 #[.val (.ref a1), .val (.int p2), .val (.int (0 : Int32)), .unset, .unset] [(.int (1 : Int32))])) t → Steps p.tables e below (s₁.setTop (entryFrame m #[(.ref a1), (.int p2)] 5)) t := fun t k => go1 t (st2 t k)
  have go4 : ∀ t, Steps p.tables e below (T2.setTop (mkF m 20 #[.val (.ref a1), .val (.int p2), .val (.int (0 : Int32)), .val (.int (1 : Int32)), .val (.int (0 : Int32))] [(.ref a1)])) t → Steps p.tables e below (s₁.setTop (entryFrame m #[(.ref a1), (.int p2)] 5)) t := fun t k => go3 t (by
    show Steps p.tables e below (T2.setTop (mkF m 6 #[.val (.ref a1), .val (.int p2), .val (.int (0 : Int32)), .unset, .unset] [(.int (1 : Int32))])) _
    refine XS.istoreN X2.here hx rfl (hb hby fal_6) rfl (l' := #[.val (.ref a1), .val (.int p2), .val (.int (0 : Int32)), .val (.int (1 : Int32)), .unset]) rfl ?_
    show Steps p.tables e below (T2.setTop (mkF m 7 #[.val (.ref a1), .val (.int p2), .val (.int (0 : Int32)), .val (.int (1 : Int32)), .unset] [])) _
    refine XS.iloadN X2.here hx rfl (hb hby fal_7) rfl ?_
    show Steps p.tables e below (T2.setTop (mkF m 8 #[.val (.ref a1), .val (.int p2), .val (.int (0 : Int32)), .val (.int (1 : Int32)), .unset] [(.int (0 : Int32))])) _
    refine XS.iloadN X2.here hx rfl (hb hby fal_8) rfl ?_
    show Steps p.tables e below (T2.setTop (mkF m 9 #[.val (.ref a1), .val (.int p2), .val (.int (0 : Int32)), .val (.int (1 : Int32)), .unset] [(.int (1 : Int32)), (.int (0 : Int32))])) _
    refine XS.icmpNo X2.here hx rfl (hb hby fal_9) rfl (tlt (by decide : (0 : Int32) < (1 : Int32))).2.1 ?_
    show Steps p.tables e below (T2.setTop (mkF m 12 #[.val (.ref a1), .val (.int p2), .val (.int (0 : Int32)), .val (.int (1 : Int32)), .unset] [])) _
    refine XS.iloadN X2.here hx rfl (hb hby fal_12) rfl ?_
    show Steps p.tables e below (T2.setTop (mkF m 13 #[.val (.ref a1), .val (.int p2), .val (.int (0 : Int32)), .val (.int (1 : Int32)), .unset] [(.int (0 : Int32))])) _
    refine XS.iloadN X2.here hx rfl (hb hby fal_13) rfl ?_
    show Steps p.tables e below (T2.setTop (mkF m 14 #[.val (.ref a1), .val (.int p2), .val (.int (0 : Int32)), .val (.int (1 : Int32)), .unset] [(.int (1 : Int32)), (.int (0 : Int32))])) _
    refine XS.iadd X2.here hx rfl (hb hby fal_14) rfl ?_
    show Steps p.tables e below (T2.setTop (mkF m 15 #[.val (.ref a1), .val (.int p2), .val (.int (0 : Int32)), .val (.int (1 : Int32)), .unset] [(.int (1 : Int32))])) _
    refine XS.iconst X2.here hx rfl (hb hby fal_15) ?_
    show Steps p.tables e below (T2.setTop (mkF m 16 #[.val (.ref a1), .val (.int p2), .val (.int (0 : Int32)), .val (.int (1 : Int32)), .unset] [(.int (1 : Int32)), (.int (1 : Int32))])) _
    refine XS.iushr X2.here hx rfl (hb hby fal_16) rfl ?_
    show Steps p.tables e below (T2.setTop (mkF m 17 #[.val (.ref a1), .val (.int p2), .val (.int (0 : Int32)), .val (.int (1 : Int32)), .unset] [(.int (0 : Int32))])) _
    refine XS.istore X2.here hx rfl (hb hby fal_17) rfl (l' := #[.val (.ref a1), .val (.int p2), .val (.int (0 : Int32)), .val (.int (1 : Int32)), .val (.int (0 : Int32))]) rfl ?_
    show Steps p.tables e below (T2.setTop (mkF m 19 #[.val (.ref a1), .val (.int p2), .val (.int (0 : Int32)), .val (.int (1 : Int32)), .val (.int (0 : Int32))] [])) _
    refine XS.aloadN X2.here hx rfl (hb hby fal_19) rfl rfl ?_
    exact k)
  obtain ⟨T5, X5, e5, st5⟩ := getF X2 hx hZ hown (host := "") (Or.inl (hw _ (List.mem_of_getElem? (i := 17) rfl))) Via.refl e2 F1 (g := (mkF m 20 #[.val (.ref a1), .val (.int p2), .val (.int (0 : Int32)), .val (.int (1 : Int32)), .val (.int (0 : Int32))] [(.ref a1)])) rfl rfl (hb hby fal_20)
  have go6 : ∀ t, Steps p.tables e below (T5.setTop (mkF m 23 #[.val (.ref a1), .val (.int p2), .val (.int (0 : Int32)), .val (.int (1 : Int32)), .val (.int (0 : Int32))] [(.ref b)])) t → Steps p.tables e below (s₁.setTop (entryFrame m #[(.ref a1), (.int p2)] 5)) t := fun t k => go4 t (st5 t k)
  have go8 : ∀ t, Steps p.tables e below (T5.setTop (mkF m 25 #[.val (.ref a1), .val (.int p2), .val (.int (0 : Int32)), .val (.int (1 : Int32)), .val (.int (0 : Int32))] [(.int (0 : Int32)), (.ref b)])) t → Steps p.tables e below (s₁.setTop (entryFrame m #[(.ref a1), (.int p2)] 5)) t := fun t k => go6 t (by
    show Steps p.tables e below (T5.setTop (mkF m 23 #[.val (.ref a1), .val (.int p2), .val (.int (0 : Int32)), .val (.int (1 : Int32)), .val (.int (0 : Int32))] [(.ref b)])) _
    refine XS.iload X5.here hx rfl (hb hby fal_23) rfl ?_
    exact k)
  obtain ⟨cl7, Ar7, q7, S7, M7, H7, G7⟩ := id V1
  have go9 : ∀ t, Steps p.tables e below (T5.setTop (mkF m 26 #[.val (.ref a1), .val (.int p2), .val (.int (0 : Int32)), .val (.int (1 : Int32)), .val (.int (0 : Int32))] [(.int x0)])) t → Steps p.tables e below (s₁.setTop (entryFrame m #[(.ref a1), (.int p2)] 5)) t := fun t k => go8 t (by
    show Steps p.tables e below (T5.setTop (mkF m 25 #[.val (.ref a1), .val (.int p2), .val (.int (0 : Int32)), .val (.int (1 : Int32)), .val (.int (0 : Int32))] [(.int (0 : Int32)), (.ref b)])) _
    refine X5.iaload hx (j := (0 : Int32)) (v := (.int x0)) (by rw [e5]; exact Ar7.1) (State.isArrayOf_alike hZ.alike Ar7.2.1) Ar7.2.2 (inb_of S7 ⟨by decide, by decide⟩) (H7.at (inb_of S7 ⟨by decide, by decide⟩) rfl) (g := (mkF m 25 #[.val (.ref a1), .val (.int p2), .val (.int (0 : Int32)), .val (.int (1 : Int32)), .val (.int (0 : Int32))] [(.int (0 : Int32)), (.ref b)])) rfl rfl (hb hby fal_25) _ ?_
    exact k)
  have go10 : ∀ t, Steps p.tables e below (T5.setTop (mkF m 27 #[.val (.ref a1), .val (.int p2), .val (.int (0 : Int32)), .val (.int (1 : Int32)), .val (.int (0 : Int32))] [(.int p2), (.int x0)])) t → Steps p.tables e below (s₁.setTop (entryFrame m #[(.ref a1), (.int p2)] 5)) t := fun t k => go9 t (by
    show Steps p.tables e below (T5.setTop (mkF m 26 #[.val (.ref a1), .val (.int p2), .val (.int (0 : Int32)), .val (.int (1 : Int32)), .val (.int (0 : Int32))] [(.int x0)])) _
    refine XS.iloadN X5.here hx rfl (hb hby fal_26) rfl ?_
    exact k)
  by_cases hc11 : x0 < p2
  · have go12 : ∀ t, Steps p.tables e below (T5.setTop (mkF m 45 #[.val (.ref a1), .val (.int p2), .val (.int (1 : Int32)), .val (.int (1 : Int32)), .val (.int (0 : Int32))] [(.int (1 : Int32))])) t → Steps p.tables e below (s₁.setTop (entryFrame m #[(.ref a1), (.int p2)] 5)) t := fun t k => go10 t (by
      show Steps p.tables e below (T5.setTop (mkF m 27 #[.val (.ref a1), .val (.int p2), .val (.int (0 : Int32)), .val (.int (1 : Int32)), .val (.int (0 : Int32))] [(.int p2), (.int x0)])) _
      refine XS.icmpNo X5.here hx rfl (hb hby fal_27) rfl (tlt hc11).2.1 ?_
      show Steps p.tables e below (T5.setTop (mkF m 30 #[.val (.ref a1), .val (.int p2), .val (.int (0 : Int32)), .val (.int (1 : Int32)), .val (.int (0 : Int32))] [])) _
      refine XS.iload X5.here hx rfl (hb hby fal_30) rfl ?_
      show Steps p.tables e below (T5.setTop (mkF m 32 #[.val (.ref a1), .val (.int p2), .val (.int (0 : Int32)), .val (.int (1 : Int32)), .val (.int (0 : Int32))] [(.int (0 : Int32))])) _
      refine XS.iconst X5.here hx rfl (hb hby fal_32) ?_
      show Steps p.tables e below (T5.setTop (mkF m 33 #[.val (.ref a1), .val (.int p2), .val (.int (0 : Int32)), .val (.int (1 : Int32)), .val (.int (0 : Int32))] [(.int (1 : Int32)), (.int (0 : Int32))])) _
      refine XS.iadd X5.here hx rfl (hb hby fal_33) rfl ?_
      show Steps p.tables e below (T5.setTop (mkF m 34 #[.val (.ref a1), .val (.int p2), .val (.int (0 : Int32)), .val (.int (1 : Int32)), .val (.int (0 : Int32))] [(.int (1 : Int32))])) _
      refine XS.istoreN X5.here hx rfl (hb hby fal_34) rfl (l' := #[.val (.ref a1), .val (.int p2), .val (.int (1 : Int32)), .val (.int (1 : Int32)), .val (.int (0 : Int32))]) rfl ?_
      show Steps p.tables e below (T5.setTop (mkF m 35 #[.val (.ref a1), .val (.int p2), .val (.int (1 : Int32)), .val (.int (1 : Int32)), .val (.int (0 : Int32))] [])) _
      refine XS.goto X5.here hx rfl (pc0 := 35) (pc' := 41) rfl (hb hby fal_35) (by decide) (by decide) ?_
      show Steps p.tables e below (T5.setTop (mkF m 41 #[.val (.ref a1), .val (.int p2), .val (.int (1 : Int32)), .val (.int (1 : Int32)), .val (.int (0 : Int32))] [])) _
      refine XS.goto X5.here hx rfl (pc0 := 41) (pc' := 7) rfl (hb hby fal_41) (by decide) (by decide) ?_
      show Steps p.tables e below (T5.setTop (mkF m 7 #[.val (.ref a1), .val (.int p2), .val (.int (1 : Int32)), .val (.int (1 : Int32)), .val (.int (0 : Int32))] [])) _
      refine XS.iloadN X5.here hx rfl (hb hby fal_7) rfl ?_
      show Steps p.tables e below (T5.setTop (mkF m 8 #[.val (.ref a1), .val (.int p2), .val (.int (1 : Int32)), .val (.int (1 : Int32)), .val (.int (0 : Int32))] [(.int (1 : Int32))])) _
      refine XS.iloadN X5.here hx rfl (hb hby fal_8) rfl ?_
      show Steps p.tables e below (T5.setTop (mkF m 9 #[.val (.ref a1), .val (.int p2), .val (.int (1 : Int32)), .val (.int (1 : Int32)), .val (.int (0 : Int32))] [(.int (1 : Int32)), (.int (1 : Int32))])) _
      refine XS.icmpYes X5.here hx rfl (pc0 := 9) (pc' := 44) rfl (hb hby fal_9) rfl (flt (by decide : ¬ ((1 : Int32) < (1 : Int32)))).2.1 (by decide) (by decide) ?_
      show Steps p.tables e below (T5.setTop (mkF m 44 #[.val (.ref a1), .val (.int p2), .val (.int (1 : Int32)), .val (.int (1 : Int32)), .val (.int (0 : Int32))] [])) _
      refine XS.iloadN X5.here hx rfl (hb hby fal_44) rfl ?_
      exact k)
    obtain ⟨fs, hr, hrun, hended, hW, hsame⟩ := X5.leave (v := some (.int (1 : Int32))) (fun h => by rw [Bd.returns] at h; cases h)
    refine ⟨_, _, go12 _ ?_, hrun, hended, _, _, rfl, ?_, ⟨_, rfl⟩, hW, hsame.mono (by decide) (by decide)⟩
    · exact retI X5 hx Bd.returns (hb hby fal_45) hr
    · show QV (.int (own_fal1 p2 x0)) h0 n0 _ T5.heap _
      rw [e5]
      exact ⟨congrArg some (congrArg Value.int (Eq.symm (show (own_fal1 p2 x0) = (1 : Int32) from by unfold own_fal1; rw [if_pos hc11]))), N0, rfl⟩
  · have go13 : ∀ t, Steps p.tables e below (T5.setTop (mkF m 45 #[.val (.ref a1), .val (.int p2), .val (.int (0 : Int32)), .val (.int (0 : Int32)), .val (.int (0 : Int32))] [(.int (0 : Int32))])) t → Steps p.tables e below (s₁.setTop (entryFrame m #[(.ref a1), (.int p2)] 5)) t := fun t k => go10 t (by
      show Steps p.tables e below (T5.setTop (mkF m 27 #[.val (.ref a1), .val (.int p2), .val (.int (0 : Int32)), .val (.int (1 : Int32)), .val (.int (0 : Int32))] [(.int p2), (.int x0)])) _
      refine XS.icmpYes X5.here hx rfl (pc0 := 27) (pc' := 38) rfl (hb hby fal_27) rfl (flt hc11).2.1 (by decide) (by decide) ?_
      show Steps p.tables e below (T5.setTop (mkF m 38 #[.val (.ref a1), .val (.int p2), .val (.int (0 : Int32)), .val (.int (1 : Int32)), .val (.int (0 : Int32))] [])) _
      refine XS.iload X5.here hx rfl (hb hby fal_38) rfl ?_
      show Steps p.tables e below (T5.setTop (mkF m 40 #[.val (.ref a1), .val (.int p2), .val (.int (0 : Int32)), .val (.int (1 : Int32)), .val (.int (0 : Int32))] [(.int (0 : Int32))])) _
      refine XS.istoreN X5.here hx rfl (hb hby fal_40) rfl (l' := #[.val (.ref a1), .val (.int p2), .val (.int (0 : Int32)), .val (.int (0 : Int32)), .val (.int (0 : Int32))]) rfl ?_
      show Steps p.tables e below (T5.setTop (mkF m 41 #[.val (.ref a1), .val (.int p2), .val (.int (0 : Int32)), .val (.int (0 : Int32)), .val (.int (0 : Int32))] [])) _
      refine XS.goto X5.here hx rfl (pc0 := 41) (pc' := 7) rfl (hb hby fal_41) (by decide) (by decide) ?_
      show Steps p.tables e below (T5.setTop (mkF m 7 #[.val (.ref a1), .val (.int p2), .val (.int (0 : Int32)), .val (.int (0 : Int32)), .val (.int (0 : Int32))] [])) _
      refine XS.iloadN X5.here hx rfl (hb hby fal_7) rfl ?_
      show Steps p.tables e below (T5.setTop (mkF m 8 #[.val (.ref a1), .val (.int p2), .val (.int (0 : Int32)), .val (.int (0 : Int32)), .val (.int (0 : Int32))] [(.int (0 : Int32))])) _
      refine XS.iloadN X5.here hx rfl (hb hby fal_8) rfl ?_
      show Steps p.tables e below (T5.setTop (mkF m 9 #[.val (.ref a1), .val (.int p2), .val (.int (0 : Int32)), .val (.int (0 : Int32)), .val (.int (0 : Int32))] [(.int (0 : Int32)), (.int (0 : Int32))])) _
      refine XS.icmpYes X5.here hx rfl (pc0 := 9) (pc' := 44) rfl (hb hby fal_9) rfl (flt (by decide : ¬ ((0 : Int32) < (0 : Int32)))).2.1 (by decide) (by decide) ?_
      show Steps p.tables e below (T5.setTop (mkF m 44 #[.val (.ref a1), .val (.int p2), .val (.int (0 : Int32)), .val (.int (0 : Int32)), .val (.int (0 : Int32))] [])) _
      refine XS.iloadN X5.here hx rfl (hb hby fal_44) rfl ?_
      exact k)
    obtain ⟨fs, hr, hrun, hended, hW, hsame⟩ := X5.leave (v := some (.int (0 : Int32))) (fun h => by rw [Bd.returns] at h; cases h)
    refine ⟨_, _, go13 _ ?_, hrun, hended, _, _, rfl, ?_, ⟨_, rfl⟩, hW, hsame.mono (by decide) (by decide)⟩
    · exact retI X5 hx Bd.returns (hb hby fal_45) hr
    · show QV (.int (own_fal1 p2 x0)) h0 n0 _ T5.heap _
      rw [e5]
      exact ⟨congrArg some (congrArg Value.int (Eq.symm (show (own_fal1 p2 x0) = (0 : Int32) from by unfold own_fal1; rw [if_neg hc11]))), N0, rfl⟩
def own_fal2 (p2 x0 x1 : Int32) : Int32 := if x1 < p2 then (2 : Int32) else (if x0 < p2 then (1 : Int32) else (0 : Int32))
set_option maxRecDepth 65536 in
set_option maxHeartbeats 40000000 in
theorem rm_fal2 (l : Launch) (Z : State) (a0 : Array Value) (hw : ∀ d ∈ tables_1, d.before a0 Z = true) (ws : List Jvm.Cond) (a1 : Addr) (p2 : Int32) (b : Addr) (kA : ClassId) (x0 x1 : Int32) (h0 : Heap) (n0 : Nat) (Z0 : n0 ≤ h0.size) (E1 : Exa Z h0 a1 "com/example/halting_hound/haltinghound/IntList") (F1 : Fld Z h0 a1 "com/example/halting_hound/haltinghound/IntList" "values" "[I" (.ref b)) (F2 : Fld Z h0 a1 "com/example/halting_hound/haltinghound/IntList" "size" "I" (.int (2 : Int32))) (V1 : Arv Z h0 b kA .int (2 : Int32) [(.int x0), (.int x1)] (.int (0 : Int32))) :
    MetFree l (⟨"com/example/halting_hound/haltinghound/IntList", "firstAtLeast", "(I)I"⟩ : MethodName) (head1 (Jvm.Cond.code (⟨"com/example/halting_hound/haltinghound/IntList", "firstAtLeast", "(I)I"⟩ : MethodName) prog_33_method_5_code 5 (some .int) :: ws) ({ frames := 0, cells := 0, slots := 0, locals := 0 } : Room)) (fun a U => a = #[(.ref a1), (.int p2)] ∧ Z.Warmed39 U.vm ∧ U.heap = h0) (fun _ _ _ _ _ => True) (fun _ U o U' => ∃ v L, o = .returned v ∧ QV (.int (own_fal2 p2 x0 x1)) h0 n0 v U'.heap L ∧ FrameEnd U o U' L ({ frames := 0, cells := 0, slots := 0, locals := 0 } : Room).cells ({ frames := 0, cells := 0, slots := 0, locals := 0 } : Room).slots) := by
  refine MetFree.of_bodySF (plainFor_of_name pn_fal) hisR ?_
  intro p e s m args below meth c s₁ Bd hml0 hP hK
  obtain ⟨rfl, hZ, hh⟩ := hP
  have hx := Bd.exec
  have hby := Bd.bytes
  have hml : c.maxLocals = 5 := hml0
  have hown : s.vm.findClass "com/example/halting_hound/haltinghound/IntList" = some m.cls := findClass_of_methodNamed Bd.named
  have hnm := (name_of_methodNamed Bd.named Bd.method).1
  have X0 : Stand p l e ({ frames := 0, cells := 0, slots := 0, locals := 0 } : Room) s m #[(.ref a1), (.int p2)] below meth c s₁ [] 0 0 := Stand.of_body Bd
  have e0 : s₁.heap = h0 := by rw [← hh, Bd.state]; rfl
  have N0 := Fr.nil n0
  have go0 : ∀ t, Steps p.tables e below (s₁.setTop (mkF m 0 #[.val (.ref a1), .val (.int p2), .unset, .unset, .unset] [])) t → Steps p.tables e below (s₁.setTop (entryFrame m #[(.ref a1), (.int p2)] 5)) t := fun t k => castTop (ef_fal m a1 p2) k
  have go1 : ∀ t, Steps p.tables e below (s₁.setTop (mkF m 3 #[.val (.ref a1), .val (.int p2), .val (.int (0 : Int32)), .unset, .unset] [(.ref a1)])) t → Steps p.tables e below (s₁.setTop (entryFrame m #[(.ref a1), (.int p2)] 5)) t := fun t k => go0 t (by
    show Steps p.tables e below (s₁.setTop (mkF m 0 #[.val (.ref a1), .val (.int p2), .unset, .unset, .unset] [])) _
    refine XS.iconst X0.here hx rfl (hb hby fal_0) ?_
    show Steps p.tables e below (s₁.setTop (mkF m 1 #[.val (.ref a1), .val (.int p2), .unset, .unset, .unset] [(.int (0 : Int32))])) _
    refine XS.istoreN X0.here hx rfl (hb hby fal_1) rfl (l' := #[.val (.ref a1), .val (.int p2), .val (.int (0 : Int32)), .unset, .unset]) rfl ?_
    show Steps p.tables e below (s₁.setTop (mkF m 2 #[.val (.ref a1), .val (.int p2), .val (.int (0 : Int32)), .unset, .unset] [])) _
    refine XS.aloadN X0.here hx rfl (hb hby fal_2) rfl rfl ?_
    exact k)
  obtain ⟨T2, X2, e2, st2⟩ := getF X0 hx hZ hown (host := "") (Or.inl (hw _ (List.mem_of_getElem? (i := 28) rfl))) Via.refl e0 F2 (g := (mkF m 3 #[.val (.ref a1), .val (.int p2), .val (.int (0 : Int32)), .unset, .unset] [(.ref a1)])) rfl rfl (hb hby fal_3)
  have go3 : ∀ t, Steps p.tables e below (T2.setTop (mkF m 6 #[.val (.ref a1), .val (.int p2), .val (.int (0 : Int32)), .unset, .unset] [(.int (2 : Int32))])) t → Steps p.tables e below (s₁.setTop (entryFrame m #[(.ref a1), (.int p2)] 5)) t := fun t k => go1 t (st2 t k)
  have go4 : ∀ t, Steps p.tables e below (T2.setTop (mkF m 20 #[.val (.ref a1), .val (.int p2), .val (.int (0 : Int32)), .val (.int (2 : Int32)), .val (.int (1 : Int32))] [(.ref a1)])) t → Steps p.tables e below (s₁.setTop (entryFrame m #[(.ref a1), (.int p2)] 5)) t := fun t k => go3 t (by
    show Steps p.tables e below (T2.setTop (mkF m 6 #[.val (.ref a1), .val (.int p2), .val (.int (0 : Int32)), .unset, .unset] [(.int (2 : Int32))])) _
    refine XS.istoreN X2.here hx rfl (hb hby fal_6) rfl (l' := #[.val (.ref a1), .val (.int p2), .val (.int (0 : Int32)), .val (.int (2 : Int32)), .unset]) rfl ?_
    show Steps p.tables e below (T2.setTop (mkF m 7 #[.val (.ref a1), .val (.int p2), .val (.int (0 : Int32)), .val (.int (2 : Int32)), .unset] [])) _
    refine XS.iloadN X2.here hx rfl (hb hby fal_7) rfl ?_
    show Steps p.tables e below (T2.setTop (mkF m 8 #[.val (.ref a1), .val (.int p2), .val (.int (0 : Int32)), .val (.int (2 : Int32)), .unset] [(.int (0 : Int32))])) _
    refine XS.iloadN X2.here hx rfl (hb hby fal_8) rfl ?_
    show Steps p.tables e below (T2.setTop (mkF m 9 #[.val (.ref a1), .val (.int p2), .val (.int (0 : Int32)), .val (.int (2 : Int32)), .unset] [(.int (2 : Int32)), (.int (0 : Int32))])) _
    refine XS.icmpNo X2.here hx rfl (hb hby fal_9) rfl (tlt (by decide : (0 : Int32) < (2 : Int32))).2.1 ?_
    show Steps p.tables e below (T2.setTop (mkF m 12 #[.val (.ref a1), .val (.int p2), .val (.int (0 : Int32)), .val (.int (2 : Int32)), .unset] [])) _
    refine XS.iloadN X2.here hx rfl (hb hby fal_12) rfl ?_
    show Steps p.tables e below (T2.setTop (mkF m 13 #[.val (.ref a1), .val (.int p2), .val (.int (0 : Int32)), .val (.int (2 : Int32)), .unset] [(.int (0 : Int32))])) _
    refine XS.iloadN X2.here hx rfl (hb hby fal_13) rfl ?_
    show Steps p.tables e below (T2.setTop (mkF m 14 #[.val (.ref a1), .val (.int p2), .val (.int (0 : Int32)), .val (.int (2 : Int32)), .unset] [(.int (2 : Int32)), (.int (0 : Int32))])) _
    refine XS.iadd X2.here hx rfl (hb hby fal_14) rfl ?_
    show Steps p.tables e below (T2.setTop (mkF m 15 #[.val (.ref a1), .val (.int p2), .val (.int (0 : Int32)), .val (.int (2 : Int32)), .unset] [(.int (2 : Int32))])) _
    refine XS.iconst X2.here hx rfl (hb hby fal_15) ?_
    show Steps p.tables e below (T2.setTop (mkF m 16 #[.val (.ref a1), .val (.int p2), .val (.int (0 : Int32)), .val (.int (2 : Int32)), .unset] [(.int (1 : Int32)), (.int (2 : Int32))])) _
    refine XS.iushr X2.here hx rfl (hb hby fal_16) rfl ?_
    show Steps p.tables e below (T2.setTop (mkF m 17 #[.val (.ref a1), .val (.int p2), .val (.int (0 : Int32)), .val (.int (2 : Int32)), .unset] [(.int (1 : Int32))])) _
    refine XS.istore X2.here hx rfl (hb hby fal_17) rfl (l' := #[.val (.ref a1), .val (.int p2), .val (.int (0 : Int32)), .val (.int (2 : Int32)), .val (.int (1 : Int32))]) rfl ?_
    show Steps p.tables e below (T2.setTop (mkF m 19 #[.val (.ref a1), .val (.int p2), .val (.int (0 : Int32)), .val (.int (2 : Int32)), .val (.int (1 : Int32))] [])) _
    refine XS.aloadN X2.here hx rfl (hb hby fal_19) rfl rfl ?_
    exact k)
  obtain ⟨T5, X5, e5, st5⟩ := getF X2 hx hZ hown (host := "") (Or.inl (hw _ (List.mem_of_getElem? (i := 17) rfl))) Via.refl e2 F1 (g := (mkF m 20 #[.val (.ref a1), .val (.int p2), .val (.int (0 : Int32)), .val (.int (2 : Int32)), .val (.int (1 : Int32))] [(.ref a1)])) rfl rfl (hb hby fal_20)
  have go6 : ∀ t, Steps p.tables e below (T5.setTop (mkF m 23 #[.val (.ref a1), .val (.int p2), .val (.int (0 : Int32)), .val (.int (2 : Int32)), .val (.int (1 : Int32))] [(.ref b)])) t → Steps p.tables e below (s₁.setTop (entryFrame m #[(.ref a1), (.int p2)] 5)) t := fun t k => go4 t (st5 t k)
  have go8 : ∀ t, Steps p.tables e below (T5.setTop (mkF m 25 #[.val (.ref a1), .val (.int p2), .val (.int (0 : Int32)), .val (.int (2 : Int32)), .val (.int (1 : Int32))] [(.int (1 : Int32)), (.ref b)])) t → Steps p.tables e below (s₁.setTop (entryFrame m #[(.ref a1), (.int p2)] 5)) t := fun t k => go6 t (by
    show Steps p.tables e below (T5.setTop (mkF m 23 #[.val (.ref a1), .val (.int p2), .val (.int (0 : Int32)), .val (.int (2 : Int32)), .val (.int (1 : Int32))] [(.ref b)])) _
    refine XS.iload X5.here hx rfl (hb hby fal_23) rfl ?_
    exact k)
  obtain ⟨cl7, Ar7, q7, S7, M7, H7, G7⟩ := id V1
  have go9 : ∀ t, Steps p.tables e below (T5.setTop (mkF m 26 #[.val (.ref a1), .val (.int p2), .val (.int (0 : Int32)), .val (.int (2 : Int32)), .val (.int (1 : Int32))] [(.int x1)])) t → Steps p.tables e below (s₁.setTop (entryFrame m #[(.ref a1), (.int p2)] 5)) t := fun t k => go8 t (by
    show Steps p.tables e below (T5.setTop (mkF m 25 #[.val (.ref a1), .val (.int p2), .val (.int (0 : Int32)), .val (.int (2 : Int32)), .val (.int (1 : Int32))] [(.int (1 : Int32)), (.ref b)])) _
    refine X5.iaload hx (j := (1 : Int32)) (v := (.int x1)) (by rw [e5]; exact Ar7.1) (State.isArrayOf_alike hZ.alike Ar7.2.1) Ar7.2.2 (inb_of S7 ⟨by decide, by decide⟩) (H7.at (inb_of S7 ⟨by decide, by decide⟩) rfl) (g := (mkF m 25 #[.val (.ref a1), .val (.int p2), .val (.int (0 : Int32)), .val (.int (2 : Int32)), .val (.int (1 : Int32))] [(.int (1 : Int32)), (.ref b)])) rfl rfl (hb hby fal_25) _ ?_
    exact k)
  have go10 : ∀ t, Steps p.tables e below (T5.setTop (mkF m 27 #[.val (.ref a1), .val (.int p2), .val (.int (0 : Int32)), .val (.int (2 : Int32)), .val (.int (1 : Int32))] [(.int p2), (.int x1)])) t → Steps p.tables e below (s₁.setTop (entryFrame m #[(.ref a1), (.int p2)] 5)) t := fun t k => go9 t (by
    show Steps p.tables e below (T5.setTop (mkF m 26 #[.val (.ref a1), .val (.int p2), .val (.int (0 : Int32)), .val (.int (2 : Int32)), .val (.int (1 : Int32))] [(.int x1)])) _
    refine XS.iloadN X5.here hx rfl (hb hby fal_26) rfl ?_
    exact k)
  by_cases hc11 : x1 < p2
  · have go12 : ∀ t, Steps p.tables e below (T5.setTop (mkF m 45 #[.val (.ref a1), .val (.int p2), .val (.int (2 : Int32)), .val (.int (2 : Int32)), .val (.int (1 : Int32))] [(.int (2 : Int32))])) t → Steps p.tables e below (s₁.setTop (entryFrame m #[(.ref a1), (.int p2)] 5)) t := fun t k => go10 t (by
      show Steps p.tables e below (T5.setTop (mkF m 27 #[.val (.ref a1), .val (.int p2), .val (.int (0 : Int32)), .val (.int (2 : Int32)), .val (.int (1 : Int32))] [(.int p2), (.int x1)])) _
      refine XS.icmpNo X5.here hx rfl (hb hby fal_27) rfl (tlt hc11).2.1 ?_
      show Steps p.tables e below (T5.setTop (mkF m 30 #[.val (.ref a1), .val (.int p2), .val (.int (0 : Int32)), .val (.int (2 : Int32)), .val (.int (1 : Int32))] [])) _
      refine XS.iload X5.here hx rfl (hb hby fal_30) rfl ?_
      show Steps p.tables e below (T5.setTop (mkF m 32 #[.val (.ref a1), .val (.int p2), .val (.int (0 : Int32)), .val (.int (2 : Int32)), .val (.int (1 : Int32))] [(.int (1 : Int32))])) _
      refine XS.iconst X5.here hx rfl (hb hby fal_32) ?_
      show Steps p.tables e below (T5.setTop (mkF m 33 #[.val (.ref a1), .val (.int p2), .val (.int (0 : Int32)), .val (.int (2 : Int32)), .val (.int (1 : Int32))] [(.int (1 : Int32)), (.int (1 : Int32))])) _
      refine XS.iadd X5.here hx rfl (hb hby fal_33) rfl ?_
      show Steps p.tables e below (T5.setTop (mkF m 34 #[.val (.ref a1), .val (.int p2), .val (.int (0 : Int32)), .val (.int (2 : Int32)), .val (.int (1 : Int32))] [(.int (2 : Int32))])) _
      refine XS.istoreN X5.here hx rfl (hb hby fal_34) rfl (l' := #[.val (.ref a1), .val (.int p2), .val (.int (2 : Int32)), .val (.int (2 : Int32)), .val (.int (1 : Int32))]) rfl ?_
      show Steps p.tables e below (T5.setTop (mkF m 35 #[.val (.ref a1), .val (.int p2), .val (.int (2 : Int32)), .val (.int (2 : Int32)), .val (.int (1 : Int32))] [])) _
      refine XS.goto X5.here hx rfl (pc0 := 35) (pc' := 41) rfl (hb hby fal_35) (by decide) (by decide) ?_
      show Steps p.tables e below (T5.setTop (mkF m 41 #[.val (.ref a1), .val (.int p2), .val (.int (2 : Int32)), .val (.int (2 : Int32)), .val (.int (1 : Int32))] [])) _
      refine XS.goto X5.here hx rfl (pc0 := 41) (pc' := 7) rfl (hb hby fal_41) (by decide) (by decide) ?_
      show Steps p.tables e below (T5.setTop (mkF m 7 #[.val (.ref a1), .val (.int p2), .val (.int (2 : Int32)), .val (.int (2 : Int32)), .val (.int (1 : Int32))] [])) _
      refine XS.iloadN X5.here hx rfl (hb hby fal_7) rfl ?_
      show Steps p.tables e below (T5.setTop (mkF m 8 #[.val (.ref a1), .val (.int p2), .val (.int (2 : Int32)), .val (.int (2 : Int32)), .val (.int (1 : Int32))] [(.int (2 : Int32))])) _
      refine XS.iloadN X5.here hx rfl (hb hby fal_8) rfl ?_
      show Steps p.tables e below (T5.setTop (mkF m 9 #[.val (.ref a1), .val (.int p2), .val (.int (2 : Int32)), .val (.int (2 : Int32)), .val (.int (1 : Int32))] [(.int (2 : Int32)), (.int (2 : Int32))])) _
      refine XS.icmpYes X5.here hx rfl (pc0 := 9) (pc' := 44) rfl (hb hby fal_9) rfl (flt (by decide : ¬ ((2 : Int32) < (2 : Int32)))).2.1 (by decide) (by decide) ?_
      show Steps p.tables e below (T5.setTop (mkF m 44 #[.val (.ref a1), .val (.int p2), .val (.int (2 : Int32)), .val (.int (2 : Int32)), .val (.int (1 : Int32))] [])) _
      refine XS.iloadN X5.here hx rfl (hb hby fal_44) rfl ?_
      exact k)
    obtain ⟨fs, hr, hrun, hended, hW, hsame⟩ := X5.leave (v := some (.int (2 : Int32))) (fun h => by rw [Bd.returns] at h; cases h)
    refine ⟨_, _, go12 _ ?_, hrun, hended, _, _, rfl, ?_, ⟨_, rfl⟩, hW, hsame.mono (by decide) (by decide)⟩
    · exact retI X5 hx Bd.returns (hb hby fal_45) hr
    · show QV (.int (own_fal2 p2 x0 x1)) h0 n0 _ T5.heap _
      rw [e5]
      exact ⟨congrArg some (congrArg Value.int (Eq.symm (show (own_fal2 p2 x0 x1) = (2 : Int32) from by unfold own_fal2; rw [if_pos hc11]))), N0, rfl⟩
  · have go13 : ∀ t, Steps p.tables e below (T5.setTop (mkF m 20 #[.val (.ref a1), .val (.int p2), .val (.int (0 : Int32)), .val (.int (1 : Int32)), .val (.int (0 : Int32))] [(.ref a1)])) t → Steps p.tables e below (s₁.setTop (entryFrame m #[(.ref a1), (.int p2)] 5)) t := fun t k => go10 t (by
      show Steps p.tables e below (T5.setTop (mkF m 27 #[.val (.ref a1), .val (.int p2), .val (.int (0 : Int32)), .val (.int (2 : Int32)), .val (.int (1 : Int32))] [(.int p2), (.int x1)])) _
      refine XS.icmpYes X5.here hx rfl (pc0 := 27) (pc' := 38) rfl (hb hby fal_27) rfl (flt hc11).2.1 (by decide) (by decide) ?_
      show Steps p.tables e below (T5.setTop (mkF m 38 #[.val (.ref a1), .val (.int p2), .val (.int (0 : Int32)), .val (.int (2 : Int32)), .val (.int (1 : Int32))] [])) _
      refine XS.iload X5.here hx rfl (hb hby fal_38) rfl ?_
      show Steps p.tables e below (T5.setTop (mkF m 40 #[.val (.ref a1), .val (.int p2), .val (.int (0 : Int32)), .val (.int (2 : Int32)), .val (.int (1 : Int32))] [(.int (1 : Int32))])) _
      refine XS.istoreN X5.here hx rfl (hb hby fal_40) rfl (l' := #[.val (.ref a1), .val (.int p2), .val (.int (0 : Int32)), .val (.int (1 : Int32)), .val (.int (1 : Int32))]) rfl ?_
      show Steps p.tables e below (T5.setTop (mkF m 41 #[.val (.ref a1), .val (.int p2), .val (.int (0 : Int32)), .val (.int (1 : Int32)), .val (.int (1 : Int32))] [])) _
      refine XS.goto X5.here hx rfl (pc0 := 41) (pc' := 7) rfl (hb hby fal_41) (by decide) (by decide) ?_
      show Steps p.tables e below (T5.setTop (mkF m 7 #[.val (.ref a1), .val (.int p2), .val (.int (0 : Int32)), .val (.int (1 : Int32)), .val (.int (1 : Int32))] [])) _
      refine XS.iloadN X5.here hx rfl (hb hby fal_7) rfl ?_
      show Steps p.tables e below (T5.setTop (mkF m 8 #[.val (.ref a1), .val (.int p2), .val (.int (0 : Int32)), .val (.int (1 : Int32)), .val (.int (1 : Int32))] [(.int (0 : Int32))])) _
      refine XS.iloadN X5.here hx rfl (hb hby fal_8) rfl ?_
      show Steps p.tables e below (T5.setTop (mkF m 9 #[.val (.ref a1), .val (.int p2), .val (.int (0 : Int32)), .val (.int (1 : Int32)), .val (.int (1 : Int32))] [(.int (1 : Int32)), (.int (0 : Int32))])) _
      refine XS.icmpNo X5.here hx rfl (hb hby fal_9) rfl (tlt (by decide : (0 : Int32) < (1 : Int32))).2.1 ?_
      show Steps p.tables e below (T5.setTop (mkF m 12 #[.val (.ref a1), .val (.int p2), .val (.int (0 : Int32)), .val (.int (1 : Int32)), .val (.int (1 : Int32))] [])) _
      refine XS.iloadN X5.here hx rfl (hb hby fal_12) rfl ?_
      show Steps p.tables e below (T5.setTop (mkF m 13 #[.val (.ref a1), .val (.int p2), .val (.int (0 : Int32)), .val (.int (1 : Int32)), .val (.int (1 : Int32))] [(.int (0 : Int32))])) _
      refine XS.iloadN X5.here hx rfl (hb hby fal_13) rfl ?_
      show Steps p.tables e below (T5.setTop (mkF m 14 #[.val (.ref a1), .val (.int p2), .val (.int (0 : Int32)), .val (.int (1 : Int32)), .val (.int (1 : Int32))] [(.int (1 : Int32)), (.int (0 : Int32))])) _
      refine XS.iadd X5.here hx rfl (hb hby fal_14) rfl ?_
      show Steps p.tables e below (T5.setTop (mkF m 15 #[.val (.ref a1), .val (.int p2), .val (.int (0 : Int32)), .val (.int (1 : Int32)), .val (.int (1 : Int32))] [(.int (1 : Int32))])) _
      refine XS.iconst X5.here hx rfl (hb hby fal_15) ?_
      show Steps p.tables e below (T5.setTop (mkF m 16 #[.val (.ref a1), .val (.int p2), .val (.int (0 : Int32)), .val (.int (1 : Int32)), .val (.int (1 : Int32))] [(.int (1 : Int32)), (.int (1 : Int32))])) _
      refine XS.iushr X5.here hx rfl (hb hby fal_16) rfl ?_
      show Steps p.tables e below (T5.setTop (mkF m 17 #[.val (.ref a1), .val (.int p2), .val (.int (0 : Int32)), .val (.int (1 : Int32)), .val (.int (1 : Int32))] [(.int (0 : Int32))])) _
      refine XS.istore X5.here hx rfl (hb hby fal_17) rfl (l' := #[.val (.ref a1), .val (.int p2), .val (.int (0 : Int32)), .val (.int (1 : Int32)), .val (.int (0 : Int32))]) rfl ?_
      show Steps p.tables e below (T5.setTop (mkF m 19 #[.val (.ref a1), .val (.int p2), .val (.int (0 : Int32)), .val (.int (1 : Int32)), .val (.int (0 : Int32))] [])) _
      refine XS.aloadN X5.here hx rfl (hb hby fal_19) rfl rfl ?_
      exact k)
    obtain ⟨T14, X14, e14, st14⟩ := getF X5 hx hZ hown (host := "") (Or.inl (hw _ (List.mem_of_getElem? (i := 17) rfl))) Via.refl e5 F1 (g := (mkF m 20 #[.val (.ref a1), .val (.int p2), .val (.int (0 : Int32)), .val (.int (1 : Int32)), .val (.int (0 : Int32))] [(.ref a1)])) rfl rfl (hb hby fal_20)
    have go15 : ∀ t, Steps p.tables e below (T14.setTop (mkF m 23 #[.val (.ref a1), .val (.int p2), .val (.int (0 : Int32)), .val (.int (1 : Int32)), .val (.int (0 : Int32))] [(.ref b)])) t → Steps p.tables e below (s₁.setTop (entryFrame m #[(.ref a1), (.int p2)] 5)) t := fun t k => go13 t (st14 t k)
    have go17 : ∀ t, Steps p.tables e below (T14.setTop (mkF m 25 #[.val (.ref a1), .val (.int p2), .val (.int (0 : Int32)), .val (.int (1 : Int32)), .val (.int (0 : Int32))] [(.int (0 : Int32)), (.ref b)])) t → Steps p.tables e below (s₁.setTop (entryFrame m #[(.ref a1), (.int p2)] 5)) t := fun t k => go15 t (by
      show Steps p.tables e below (T14.setTop (mkF m 23 #[.val (.ref a1), .val (.int p2), .val (.int (0 : Int32)), .val (.int (1 : Int32)), .val (.int (0 : Int32))] [(.ref b)])) _
      refine XS.iload X14.here hx rfl (hb hby fal_23) rfl ?_
      exact k)
    obtain ⟨cl16, Ar16, q16, S16, M16, H16, G16⟩ := id V1
    have go18 : ∀ t, Steps p.tables e below (T14.setTop (mkF m 26 #[.val (.ref a1), .val (.int p2), .val (.int (0 : Int32)), .val (.int (1 : Int32)), .val (.int (0 : Int32))] [(.int x0)])) t → Steps p.tables e below (s₁.setTop (entryFrame m #[(.ref a1), (.int p2)] 5)) t := fun t k => go17 t (by
      show Steps p.tables e below (T14.setTop (mkF m 25 #[.val (.ref a1), .val (.int p2), .val (.int (0 : Int32)), .val (.int (1 : Int32)), .val (.int (0 : Int32))] [(.int (0 : Int32)), (.ref b)])) _
      refine X14.iaload hx (j := (0 : Int32)) (v := (.int x0)) (by rw [e14]; exact Ar16.1) (State.isArrayOf_alike hZ.alike Ar16.2.1) Ar16.2.2 (inb_of S16 ⟨by decide, by decide⟩) (H16.at (inb_of S16 ⟨by decide, by decide⟩) rfl) (g := (mkF m 25 #[.val (.ref a1), .val (.int p2), .val (.int (0 : Int32)), .val (.int (1 : Int32)), .val (.int (0 : Int32))] [(.int (0 : Int32)), (.ref b)])) rfl rfl (hb hby fal_25) _ ?_
      exact k)
    have go19 : ∀ t, Steps p.tables e below (T14.setTop (mkF m 27 #[.val (.ref a1), .val (.int p2), .val (.int (0 : Int32)), .val (.int (1 : Int32)), .val (.int (0 : Int32))] [(.int p2), (.int x0)])) t → Steps p.tables e below (s₁.setTop (entryFrame m #[(.ref a1), (.int p2)] 5)) t := fun t k => go18 t (by
      show Steps p.tables e below (T14.setTop (mkF m 26 #[.val (.ref a1), .val (.int p2), .val (.int (0 : Int32)), .val (.int (1 : Int32)), .val (.int (0 : Int32))] [(.int x0)])) _
      refine XS.iloadN X14.here hx rfl (hb hby fal_26) rfl ?_
      exact k)
    by_cases hc20 : x0 < p2
    · have go21 : ∀ t, Steps p.tables e below (T14.setTop (mkF m 45 #[.val (.ref a1), .val (.int p2), .val (.int (1 : Int32)), .val (.int (1 : Int32)), .val (.int (0 : Int32))] [(.int (1 : Int32))])) t → Steps p.tables e below (s₁.setTop (entryFrame m #[(.ref a1), (.int p2)] 5)) t := fun t k => go19 t (by
        show Steps p.tables e below (T14.setTop (mkF m 27 #[.val (.ref a1), .val (.int p2), .val (.int (0 : Int32)), .val (.int (1 : Int32)), .val (.int (0 : Int32))] [(.int p2), (.int x0)])) _
        refine XS.icmpNo X14.here hx rfl (hb hby fal_27) rfl (tlt hc20).2.1 ?_
        show Steps p.tables e below (T14.setTop (mkF m 30 #[.val (.ref a1), .val (.int p2), .val (.int (0 : Int32)), .val (.int (1 : Int32)), .val (.int (0 : Int32))] [])) _
        refine XS.iload X14.here hx rfl (hb hby fal_30) rfl ?_
        show Steps p.tables e below (T14.setTop (mkF m 32 #[.val (.ref a1), .val (.int p2), .val (.int (0 : Int32)), .val (.int (1 : Int32)), .val (.int (0 : Int32))] [(.int (0 : Int32))])) _
        refine XS.iconst X14.here hx rfl (hb hby fal_32) ?_
        show Steps p.tables e below (T14.setTop (mkF m 33 #[.val (.ref a1), .val (.int p2), .val (.int (0 : Int32)), .val (.int (1 : Int32)), .val (.int (0 : Int32))] [(.int (1 : Int32)), (.int (0 : Int32))])) _
        refine XS.iadd X14.here hx rfl (hb hby fal_33) rfl ?_
        show Steps p.tables e below (T14.setTop (mkF m 34 #[.val (.ref a1), .val (.int p2), .val (.int (0 : Int32)), .val (.int (1 : Int32)), .val (.int (0 : Int32))] [(.int (1 : Int32))])) _
        refine XS.istoreN X14.here hx rfl (hb hby fal_34) rfl (l' := #[.val (.ref a1), .val (.int p2), .val (.int (1 : Int32)), .val (.int (1 : Int32)), .val (.int (0 : Int32))]) rfl ?_
        show Steps p.tables e below (T14.setTop (mkF m 35 #[.val (.ref a1), .val (.int p2), .val (.int (1 : Int32)), .val (.int (1 : Int32)), .val (.int (0 : Int32))] [])) _
        refine XS.goto X14.here hx rfl (pc0 := 35) (pc' := 41) rfl (hb hby fal_35) (by decide) (by decide) ?_
        show Steps p.tables e below (T14.setTop (mkF m 41 #[.val (.ref a1), .val (.int p2), .val (.int (1 : Int32)), .val (.int (1 : Int32)), .val (.int (0 : Int32))] [])) _
        refine XS.goto X14.here hx rfl (pc0 := 41) (pc' := 7) rfl (hb hby fal_41) (by decide) (by decide) ?_
        show Steps p.tables e below (T14.setTop (mkF m 7 #[.val (.ref a1), .val (.int p2), .val (.int (1 : Int32)), .val (.int (1 : Int32)), .val (.int (0 : Int32))] [])) _
        refine XS.iloadN X14.here hx rfl (hb hby fal_7) rfl ?_
        show Steps p.tables e below (T14.setTop (mkF m 8 #[.val (.ref a1), .val (.int p2), .val (.int (1 : Int32)), .val (.int (1 : Int32)), .val (.int (0 : Int32))] [(.int (1 : Int32))])) _
        refine XS.iloadN X14.here hx rfl (hb hby fal_8) rfl ?_
        show Steps p.tables e below (T14.setTop (mkF m 9 #[.val (.ref a1), .val (.int p2), .val (.int (1 : Int32)), .val (.int (1 : Int32)), .val (.int (0 : Int32))] [(.int (1 : Int32)), (.int (1 : Int32))])) _
        refine XS.icmpYes X14.here hx rfl (pc0 := 9) (pc' := 44) rfl (hb hby fal_9) rfl (flt (by decide : ¬ ((1 : Int32) < (1 : Int32)))).2.1 (by decide) (by decide) ?_
        show Steps p.tables e below (T14.setTop (mkF m 44 #[.val (.ref a1), .val (.int p2), .val (.int (1 : Int32)), .val (.int (1 : Int32)), .val (.int (0 : Int32))] [])) _
        refine XS.iloadN X14.here hx rfl (hb hby fal_44) rfl ?_
        exact k)
      obtain ⟨fs, hr, hrun, hended, hW, hsame⟩ := X14.leave (v := some (.int (1 : Int32))) (fun h => by rw [Bd.returns] at h; cases h)
      refine ⟨_, _, go21 _ ?_, hrun, hended, _, _, rfl, ?_, ⟨_, rfl⟩, hW, hsame.mono (by decide) (by decide)⟩
      · exact retI X14 hx Bd.returns (hb hby fal_45) hr
      · show QV (.int (own_fal2 p2 x0 x1)) h0 n0 _ T14.heap _
        rw [e14]
        exact ⟨congrArg some (congrArg Value.int (Eq.symm (show (own_fal2 p2 x0 x1) = (1 : Int32) from by unfold own_fal2; rw [if_neg hc11, if_pos hc20]))), N0, rfl⟩
    · have go22 : ∀ t, Steps p.tables e below (T14.setTop (mkF m 45 #[.val (.ref a1), .val (.int p2), .val (.int (0 : Int32)), .val (.int (0 : Int32)), .val (.int (0 : Int32))] [(.int (0 : Int32))])) t → Steps p.tables e below (s₁.setTop (entryFrame m #[(.ref a1), (.int p2)] 5)) t := fun t k => go19 t (by
        show Steps p.tables e below (T14.setTop (mkF m 27 #[.val (.ref a1), .val (.int p2), .val (.int (0 : Int32)), .val (.int (1 : Int32)), .val (.int (0 : Int32))] [(.int p2), (.int x0)])) _
        refine XS.icmpYes X14.here hx rfl (pc0 := 27) (pc' := 38) rfl (hb hby fal_27) rfl (flt hc20).2.1 (by decide) (by decide) ?_
        show Steps p.tables e below (T14.setTop (mkF m 38 #[.val (.ref a1), .val (.int p2), .val (.int (0 : Int32)), .val (.int (1 : Int32)), .val (.int (0 : Int32))] [])) _
        refine XS.iload X14.here hx rfl (hb hby fal_38) rfl ?_
        show Steps p.tables e below (T14.setTop (mkF m 40 #[.val (.ref a1), .val (.int p2), .val (.int (0 : Int32)), .val (.int (1 : Int32)), .val (.int (0 : Int32))] [(.int (0 : Int32))])) _
        refine XS.istoreN X14.here hx rfl (hb hby fal_40) rfl (l' := #[.val (.ref a1), .val (.int p2), .val (.int (0 : Int32)), .val (.int (0 : Int32)), .val (.int (0 : Int32))]) rfl ?_
        show Steps p.tables e below (T14.setTop (mkF m 41 #[.val (.ref a1), .val (.int p2), .val (.int (0 : Int32)), .val (.int (0 : Int32)), .val (.int (0 : Int32))] [])) _
        refine XS.goto X14.here hx rfl (pc0 := 41) (pc' := 7) rfl (hb hby fal_41) (by decide) (by decide) ?_
        show Steps p.tables e below (T14.setTop (mkF m 7 #[.val (.ref a1), .val (.int p2), .val (.int (0 : Int32)), .val (.int (0 : Int32)), .val (.int (0 : Int32))] [])) _
        refine XS.iloadN X14.here hx rfl (hb hby fal_7) rfl ?_
        show Steps p.tables e below (T14.setTop (mkF m 8 #[.val (.ref a1), .val (.int p2), .val (.int (0 : Int32)), .val (.int (0 : Int32)), .val (.int (0 : Int32))] [(.int (0 : Int32))])) _
        refine XS.iloadN X14.here hx rfl (hb hby fal_8) rfl ?_
        show Steps p.tables e below (T14.setTop (mkF m 9 #[.val (.ref a1), .val (.int p2), .val (.int (0 : Int32)), .val (.int (0 : Int32)), .val (.int (0 : Int32))] [(.int (0 : Int32)), (.int (0 : Int32))])) _
        refine XS.icmpYes X14.here hx rfl (pc0 := 9) (pc' := 44) rfl (hb hby fal_9) rfl (flt (by decide : ¬ ((0 : Int32) < (0 : Int32)))).2.1 (by decide) (by decide) ?_
        show Steps p.tables e below (T14.setTop (mkF m 44 #[.val (.ref a1), .val (.int p2), .val (.int (0 : Int32)), .val (.int (0 : Int32)), .val (.int (0 : Int32))] [])) _
        refine XS.iloadN X14.here hx rfl (hb hby fal_44) rfl ?_
        exact k)
      obtain ⟨fs, hr, hrun, hended, hW, hsame⟩ := X14.leave (v := some (.int (0 : Int32))) (fun h => by rw [Bd.returns] at h; cases h)
      refine ⟨_, _, go22 _ ?_, hrun, hended, _, _, rfl, ?_, ⟨_, rfl⟩, hW, hsame.mono (by decide) (by decide)⟩
      · exact retI X14 hx Bd.returns (hb hby fal_45) hr
      · show QV (.int (own_fal2 p2 x0 x1)) h0 n0 _ T14.heap _
        rw [e14]
        exact ⟨congrArg some (congrArg Value.int (Eq.symm (show (own_fal2 p2 x0 x1) = (0 : Int32) from by unfold own_fal2; rw [if_neg hc11, if_neg hc20]))), N0, rfl⟩
def own_fal3 (p2 x0 x1 x2 : Int32) : Int32 := if x1 < p2 then (if x2 < p2 then (3 : Int32) else (2 : Int32)) else (if x0 < p2 then (1 : Int32) else (0 : Int32))
set_option maxRecDepth 65536 in
set_option maxHeartbeats 40000000 in
theorem rm_fal3 (l : Launch) (Z : State) (a0 : Array Value) (hw : ∀ d ∈ tables_1, d.before a0 Z = true) (ws : List Jvm.Cond) (a1 : Addr) (p2 : Int32) (b : Addr) (kA : ClassId) (x0 x1 x2 : Int32) (h0 : Heap) (n0 : Nat) (Z0 : n0 ≤ h0.size) (E1 : Exa Z h0 a1 "com/example/halting_hound/haltinghound/IntList") (F1 : Fld Z h0 a1 "com/example/halting_hound/haltinghound/IntList" "values" "[I" (.ref b)) (F2 : Fld Z h0 a1 "com/example/halting_hound/haltinghound/IntList" "size" "I" (.int (3 : Int32))) (V1 : Arv Z h0 b kA .int (4 : Int32) [(.int x0), (.int x1), (.int x2), (.int (0 : Int32))] (.int (0 : Int32))) :
    MetFree l (⟨"com/example/halting_hound/haltinghound/IntList", "firstAtLeast", "(I)I"⟩ : MethodName) (head1 (Jvm.Cond.code (⟨"com/example/halting_hound/haltinghound/IntList", "firstAtLeast", "(I)I"⟩ : MethodName) prog_33_method_5_code 5 (some .int) :: ws) ({ frames := 0, cells := 0, slots := 0, locals := 0 } : Room)) (fun a U => a = #[(.ref a1), (.int p2)] ∧ Z.Warmed39 U.vm ∧ U.heap = h0) (fun _ _ _ _ _ => True) (fun _ U o U' => ∃ v L, o = .returned v ∧ QV (.int (own_fal3 p2 x0 x1 x2)) h0 n0 v U'.heap L ∧ FrameEnd U o U' L ({ frames := 0, cells := 0, slots := 0, locals := 0 } : Room).cells ({ frames := 0, cells := 0, slots := 0, locals := 0 } : Room).slots) := by
  refine MetFree.of_bodySF (plainFor_of_name pn_fal) hisR ?_
  intro p e s m args below meth c s₁ Bd hml0 hP hK
  obtain ⟨rfl, hZ, hh⟩ := hP
  have hx := Bd.exec
  have hby := Bd.bytes
  have hml : c.maxLocals = 5 := hml0
  have hown : s.vm.findClass "com/example/halting_hound/haltinghound/IntList" = some m.cls := findClass_of_methodNamed Bd.named
  have hnm := (name_of_methodNamed Bd.named Bd.method).1
  have X0 : Stand p l e ({ frames := 0, cells := 0, slots := 0, locals := 0 } : Room) s m #[(.ref a1), (.int p2)] below meth c s₁ [] 0 0 := Stand.of_body Bd
  have e0 : s₁.heap = h0 := by rw [← hh, Bd.state]; rfl
  have N0 := Fr.nil n0
  have go0 : ∀ t, Steps p.tables e below (s₁.setTop (mkF m 0 #[.val (.ref a1), .val (.int p2), .unset, .unset, .unset] [])) t → Steps p.tables e below (s₁.setTop (entryFrame m #[(.ref a1), (.int p2)] 5)) t := fun t k => castTop (ef_fal m a1 p2) k
  have go1 : ∀ t, Steps p.tables e below (s₁.setTop (mkF m 3 #[.val (.ref a1), .val (.int p2), .val (.int (0 : Int32)), .unset, .unset] [(.ref a1)])) t → Steps p.tables e below (s₁.setTop (entryFrame m #[(.ref a1), (.int p2)] 5)) t := fun t k => go0 t (by
    show Steps p.tables e below (s₁.setTop (mkF m 0 #[.val (.ref a1), .val (.int p2), .unset, .unset, .unset] [])) _
    refine XS.iconst X0.here hx rfl (hb hby fal_0) ?_
    show Steps p.tables e below (s₁.setTop (mkF m 1 #[.val (.ref a1), .val (.int p2), .unset, .unset, .unset] [(.int (0 : Int32))])) _
    refine XS.istoreN X0.here hx rfl (hb hby fal_1) rfl (l' := #[.val (.ref a1), .val (.int p2), .val (.int (0 : Int32)), .unset, .unset]) rfl ?_
    show Steps p.tables e below (s₁.setTop (mkF m 2 #[.val (.ref a1), .val (.int p2), .val (.int (0 : Int32)), .unset, .unset] [])) _
    refine XS.aloadN X0.here hx rfl (hb hby fal_2) rfl rfl ?_
    exact k)
  obtain ⟨T2, X2, e2, st2⟩ := getF X0 hx hZ hown (host := "") (Or.inl (hw _ (List.mem_of_getElem? (i := 28) rfl))) Via.refl e0 F2 (g := (mkF m 3 #[.val (.ref a1), .val (.int p2), .val (.int (0 : Int32)), .unset, .unset] [(.ref a1)])) rfl rfl (hb hby fal_3)
  have go3 : ∀ t, Steps p.tables e below (T2.setTop (mkF m 6 #[.val (.ref a1), .val (.int p2), .val (.int (0 : Int32)), .unset, .unset] [(.int (3 : Int32))])) t → Steps p.tables e below (s₁.setTop (entryFrame m #[(.ref a1), (.int p2)] 5)) t := fun t k => go1 t (st2 t k)
  have go4 : ∀ t, Steps p.tables e below (T2.setTop (mkF m 20 #[.val (.ref a1), .val (.int p2), .val (.int (0 : Int32)), .val (.int (3 : Int32)), .val (.int (1 : Int32))] [(.ref a1)])) t → Steps p.tables e below (s₁.setTop (entryFrame m #[(.ref a1), (.int p2)] 5)) t := fun t k => go3 t (by
    show Steps p.tables e below (T2.setTop (mkF m 6 #[.val (.ref a1), .val (.int p2), .val (.int (0 : Int32)), .unset, .unset] [(.int (3 : Int32))])) _
    refine XS.istoreN X2.here hx rfl (hb hby fal_6) rfl (l' := #[.val (.ref a1), .val (.int p2), .val (.int (0 : Int32)), .val (.int (3 : Int32)), .unset]) rfl ?_
    show Steps p.tables e below (T2.setTop (mkF m 7 #[.val (.ref a1), .val (.int p2), .val (.int (0 : Int32)), .val (.int (3 : Int32)), .unset] [])) _
    refine XS.iloadN X2.here hx rfl (hb hby fal_7) rfl ?_
    show Steps p.tables e below (T2.setTop (mkF m 8 #[.val (.ref a1), .val (.int p2), .val (.int (0 : Int32)), .val (.int (3 : Int32)), .unset] [(.int (0 : Int32))])) _
    refine XS.iloadN X2.here hx rfl (hb hby fal_8) rfl ?_
    show Steps p.tables e below (T2.setTop (mkF m 9 #[.val (.ref a1), .val (.int p2), .val (.int (0 : Int32)), .val (.int (3 : Int32)), .unset] [(.int (3 : Int32)), (.int (0 : Int32))])) _
    refine XS.icmpNo X2.here hx rfl (hb hby fal_9) rfl (tlt (by decide : (0 : Int32) < (3 : Int32))).2.1 ?_
    show Steps p.tables e below (T2.setTop (mkF m 12 #[.val (.ref a1), .val (.int p2), .val (.int (0 : Int32)), .val (.int (3 : Int32)), .unset] [])) _
    refine XS.iloadN X2.here hx rfl (hb hby fal_12) rfl ?_
    show Steps p.tables e below (T2.setTop (mkF m 13 #[.val (.ref a1), .val (.int p2), .val (.int (0 : Int32)), .val (.int (3 : Int32)), .unset] [(.int (0 : Int32))])) _
    refine XS.iloadN X2.here hx rfl (hb hby fal_13) rfl ?_
    show Steps p.tables e below (T2.setTop (mkF m 14 #[.val (.ref a1), .val (.int p2), .val (.int (0 : Int32)), .val (.int (3 : Int32)), .unset] [(.int (3 : Int32)), (.int (0 : Int32))])) _
    refine XS.iadd X2.here hx rfl (hb hby fal_14) rfl ?_
    show Steps p.tables e below (T2.setTop (mkF m 15 #[.val (.ref a1), .val (.int p2), .val (.int (0 : Int32)), .val (.int (3 : Int32)), .unset] [(.int (3 : Int32))])) _
    refine XS.iconst X2.here hx rfl (hb hby fal_15) ?_
    show Steps p.tables e below (T2.setTop (mkF m 16 #[.val (.ref a1), .val (.int p2), .val (.int (0 : Int32)), .val (.int (3 : Int32)), .unset] [(.int (1 : Int32)), (.int (3 : Int32))])) _
    refine XS.iushr X2.here hx rfl (hb hby fal_16) rfl ?_
    show Steps p.tables e below (T2.setTop (mkF m 17 #[.val (.ref a1), .val (.int p2), .val (.int (0 : Int32)), .val (.int (3 : Int32)), .unset] [(.int (1 : Int32))])) _
    refine XS.istore X2.here hx rfl (hb hby fal_17) rfl (l' := #[.val (.ref a1), .val (.int p2), .val (.int (0 : Int32)), .val (.int (3 : Int32)), .val (.int (1 : Int32))]) rfl ?_
    show Steps p.tables e below (T2.setTop (mkF m 19 #[.val (.ref a1), .val (.int p2), .val (.int (0 : Int32)), .val (.int (3 : Int32)), .val (.int (1 : Int32))] [])) _
    refine XS.aloadN X2.here hx rfl (hb hby fal_19) rfl rfl ?_
    exact k)
  obtain ⟨T5, X5, e5, st5⟩ := getF X2 hx hZ hown (host := "") (Or.inl (hw _ (List.mem_of_getElem? (i := 17) rfl))) Via.refl e2 F1 (g := (mkF m 20 #[.val (.ref a1), .val (.int p2), .val (.int (0 : Int32)), .val (.int (3 : Int32)), .val (.int (1 : Int32))] [(.ref a1)])) rfl rfl (hb hby fal_20)
  have go6 : ∀ t, Steps p.tables e below (T5.setTop (mkF m 23 #[.val (.ref a1), .val (.int p2), .val (.int (0 : Int32)), .val (.int (3 : Int32)), .val (.int (1 : Int32))] [(.ref b)])) t → Steps p.tables e below (s₁.setTop (entryFrame m #[(.ref a1), (.int p2)] 5)) t := fun t k => go4 t (st5 t k)
  have go8 : ∀ t, Steps p.tables e below (T5.setTop (mkF m 25 #[.val (.ref a1), .val (.int p2), .val (.int (0 : Int32)), .val (.int (3 : Int32)), .val (.int (1 : Int32))] [(.int (1 : Int32)), (.ref b)])) t → Steps p.tables e below (s₁.setTop (entryFrame m #[(.ref a1), (.int p2)] 5)) t := fun t k => go6 t (by
    show Steps p.tables e below (T5.setTop (mkF m 23 #[.val (.ref a1), .val (.int p2), .val (.int (0 : Int32)), .val (.int (3 : Int32)), .val (.int (1 : Int32))] [(.ref b)])) _
    refine XS.iload X5.here hx rfl (hb hby fal_23) rfl ?_
    exact k)
  obtain ⟨cl7, Ar7, q7, S7, M7, H7, G7⟩ := id V1
  have go9 : ∀ t, Steps p.tables e below (T5.setTop (mkF m 26 #[.val (.ref a1), .val (.int p2), .val (.int (0 : Int32)), .val (.int (3 : Int32)), .val (.int (1 : Int32))] [(.int x1)])) t → Steps p.tables e below (s₁.setTop (entryFrame m #[(.ref a1), (.int p2)] 5)) t := fun t k => go8 t (by
    show Steps p.tables e below (T5.setTop (mkF m 25 #[.val (.ref a1), .val (.int p2), .val (.int (0 : Int32)), .val (.int (3 : Int32)), .val (.int (1 : Int32))] [(.int (1 : Int32)), (.ref b)])) _
    refine X5.iaload hx (j := (1 : Int32)) (v := (.int x1)) (by rw [e5]; exact Ar7.1) (State.isArrayOf_alike hZ.alike Ar7.2.1) Ar7.2.2 (inb_of S7 ⟨by decide, by decide⟩) (H7.at (inb_of S7 ⟨by decide, by decide⟩) rfl) (g := (mkF m 25 #[.val (.ref a1), .val (.int p2), .val (.int (0 : Int32)), .val (.int (3 : Int32)), .val (.int (1 : Int32))] [(.int (1 : Int32)), (.ref b)])) rfl rfl (hb hby fal_25) _ ?_
    exact k)
  have go10 : ∀ t, Steps p.tables e below (T5.setTop (mkF m 27 #[.val (.ref a1), .val (.int p2), .val (.int (0 : Int32)), .val (.int (3 : Int32)), .val (.int (1 : Int32))] [(.int p2), (.int x1)])) t → Steps p.tables e below (s₁.setTop (entryFrame m #[(.ref a1), (.int p2)] 5)) t := fun t k => go9 t (by
    show Steps p.tables e below (T5.setTop (mkF m 26 #[.val (.ref a1), .val (.int p2), .val (.int (0 : Int32)), .val (.int (3 : Int32)), .val (.int (1 : Int32))] [(.int x1)])) _
    refine XS.iloadN X5.here hx rfl (hb hby fal_26) rfl ?_
    exact k)
  by_cases hc11 : x1 < p2
  · have go12 : ∀ t, Steps p.tables e below (T5.setTop (mkF m 20 #[.val (.ref a1), .val (.int p2), .val (.int (2 : Int32)), .val (.int (3 : Int32)), .val (.int (2 : Int32))] [(.ref a1)])) t → Steps p.tables e below (s₁.setTop (entryFrame m #[(.ref a1), (.int p2)] 5)) t := fun t k => go10 t (by
      show Steps p.tables e below (T5.setTop (mkF m 27 #[.val (.ref a1), .val (.int p2), .val (.int (0 : Int32)), .val (.int (3 : Int32)), .val (.int (1 : Int32))] [(.int p2), (.int x1)])) _
      refine XS.icmpNo X5.here hx rfl (hb hby fal_27) rfl (tlt hc11).2.1 ?_
      show Steps p.tables e below (T5.setTop (mkF m 30 #[.val (.ref a1), .val (.int p2), .val (.int (0 : Int32)), .val (.int (3 : Int32)), .val (.int (1 : Int32))] [])) _
      refine XS.iload X5.here hx rfl (hb hby fal_30) rfl ?_
      show Steps p.tables e below (T5.setTop (mkF m 32 #[.val (.ref a1), .val (.int p2), .val (.int (0 : Int32)), .val (.int (3 : Int32)), .val (.int (1 : Int32))] [(.int (1 : Int32))])) _
      refine XS.iconst X5.here hx rfl (hb hby fal_32) ?_
      show Steps p.tables e below (T5.setTop (mkF m 33 #[.val (.ref a1), .val (.int p2), .val (.int (0 : Int32)), .val (.int (3 : Int32)), .val (.int (1 : Int32))] [(.int (1 : Int32)), (.int (1 : Int32))])) _
      refine XS.iadd X5.here hx rfl (hb hby fal_33) rfl ?_
      show Steps p.tables e below (T5.setTop (mkF m 34 #[.val (.ref a1), .val (.int p2), .val (.int (0 : Int32)), .val (.int (3 : Int32)), .val (.int (1 : Int32))] [(.int (2 : Int32))])) _
      refine XS.istoreN X5.here hx rfl (hb hby fal_34) rfl (l' := #[.val (.ref a1), .val (.int p2), .val (.int (2 : Int32)), .val (.int (3 : Int32)), .val (.int (1 : Int32))]) rfl ?_
      show Steps p.tables e below (T5.setTop (mkF m 35 #[.val (.ref a1), .val (.int p2), .val (.int (2 : Int32)), .val (.int (3 : Int32)), .val (.int (1 : Int32))] [])) _
      refine XS.goto X5.here hx rfl (pc0 := 35) (pc' := 41) rfl (hb hby fal_35) (by decide) (by decide) ?_
      show Steps p.tables e below (T5.setTop (mkF m 41 #[.val (.ref a1), .val (.int p2), .val (.int (2 : Int32)), .val (.int (3 : Int32)), .val (.int (1 : Int32))] [])) _
      refine XS.goto X5.here hx rfl (pc0 := 41) (pc' := 7) rfl (hb hby fal_41) (by decide) (by decide) ?_
      show Steps p.tables e below (T5.setTop (mkF m 7 #[.val (.ref a1), .val (.int p2), .val (.int (2 : Int32)), .val (.int (3 : Int32)), .val (.int (1 : Int32))] [])) _
      refine XS.iloadN X5.here hx rfl (hb hby fal_7) rfl ?_
      show Steps p.tables e below (T5.setTop (mkF m 8 #[.val (.ref a1), .val (.int p2), .val (.int (2 : Int32)), .val (.int (3 : Int32)), .val (.int (1 : Int32))] [(.int (2 : Int32))])) _
      refine XS.iloadN X5.here hx rfl (hb hby fal_8) rfl ?_
      show Steps p.tables e below (T5.setTop (mkF m 9 #[.val (.ref a1), .val (.int p2), .val (.int (2 : Int32)), .val (.int (3 : Int32)), .val (.int (1 : Int32))] [(.int (3 : Int32)), (.int (2 : Int32))])) _
      refine XS.icmpNo X5.here hx rfl (hb hby fal_9) rfl (tlt (by decide : (2 : Int32) < (3 : Int32))).2.1 ?_
      show Steps p.tables e below (T5.setTop (mkF m 12 #[.val (.ref a1), .val (.int p2), .val (.int (2 : Int32)), .val (.int (3 : Int32)), .val (.int (1 : Int32))] [])) _
      refine XS.iloadN X5.here hx rfl (hb hby fal_12) rfl ?_
      show Steps p.tables e below (T5.setTop (mkF m 13 #[.val (.ref a1), .val (.int p2), .val (.int (2 : Int32)), .val (.int (3 : Int32)), .val (.int (1 : Int32))] [(.int (2 : Int32))])) _
      refine XS.iloadN X5.here hx rfl (hb hby fal_13) rfl ?_
      show Steps p.tables e below (T5.setTop (mkF m 14 #[.val (.ref a1), .val (.int p2), .val (.int (2 : Int32)), .val (.int (3 : Int32)), .val (.int (1 : Int32))] [(.int (3 : Int32)), (.int (2 : Int32))])) _
      refine XS.iadd X5.here hx rfl (hb hby fal_14) rfl ?_
      show Steps p.tables e below (T5.setTop (mkF m 15 #[.val (.ref a1), .val (.int p2), .val (.int (2 : Int32)), .val (.int (3 : Int32)), .val (.int (1 : Int32))] [(.int (5 : Int32))])) _
      refine XS.iconst X5.here hx rfl (hb hby fal_15) ?_
      show Steps p.tables e below (T5.setTop (mkF m 16 #[.val (.ref a1), .val (.int p2), .val (.int (2 : Int32)), .val (.int (3 : Int32)), .val (.int (1 : Int32))] [(.int (1 : Int32)), (.int (5 : Int32))])) _
      refine XS.iushr X5.here hx rfl (hb hby fal_16) rfl ?_
      show Steps p.tables e below (T5.setTop (mkF m 17 #[.val (.ref a1), .val (.int p2), .val (.int (2 : Int32)), .val (.int (3 : Int32)), .val (.int (1 : Int32))] [(.int (2 : Int32))])) _
      refine XS.istore X5.here hx rfl (hb hby fal_17) rfl (l' := #[.val (.ref a1), .val (.int p2), .val (.int (2 : Int32)), .val (.int (3 : Int32)), .val (.int (2 : Int32))]) rfl ?_
      show Steps p.tables e below (T5.setTop (mkF m 19 #[.val (.ref a1), .val (.int p2), .val (.int (2 : Int32)), .val (.int (3 : Int32)), .val (.int (2 : Int32))] [])) _
      refine XS.aloadN X5.here hx rfl (hb hby fal_19) rfl rfl ?_
      exact k)
    obtain ⟨T13, X13, e13, st13⟩ := getF X5 hx hZ hown (host := "") (Or.inl (hw _ (List.mem_of_getElem? (i := 17) rfl))) Via.refl e5 F1 (g := (mkF m 20 #[.val (.ref a1), .val (.int p2), .val (.int (2 : Int32)), .val (.int (3 : Int32)), .val (.int (2 : Int32))] [(.ref a1)])) rfl rfl (hb hby fal_20)
    have go14 : ∀ t, Steps p.tables e below (T13.setTop (mkF m 23 #[.val (.ref a1), .val (.int p2), .val (.int (2 : Int32)), .val (.int (3 : Int32)), .val (.int (2 : Int32))] [(.ref b)])) t → Steps p.tables e below (s₁.setTop (entryFrame m #[(.ref a1), (.int p2)] 5)) t := fun t k => go12 t (st13 t k)
    have go16 : ∀ t, Steps p.tables e below (T13.setTop (mkF m 25 #[.val (.ref a1), .val (.int p2), .val (.int (2 : Int32)), .val (.int (3 : Int32)), .val (.int (2 : Int32))] [(.int (2 : Int32)), (.ref b)])) t → Steps p.tables e below (s₁.setTop (entryFrame m #[(.ref a1), (.int p2)] 5)) t := fun t k => go14 t (by
      show Steps p.tables e below (T13.setTop (mkF m 23 #[.val (.ref a1), .val (.int p2), .val (.int (2 : Int32)), .val (.int (3 : Int32)), .val (.int (2 : Int32))] [(.ref b)])) _
      refine XS.iload X13.here hx rfl (hb hby fal_23) rfl ?_
      exact k)
    obtain ⟨cl15, Ar15, q15, S15, M15, H15, G15⟩ := id V1
    have go17 : ∀ t, Steps p.tables e below (T13.setTop (mkF m 26 #[.val (.ref a1), .val (.int p2), .val (.int (2 : Int32)), .val (.int (3 : Int32)), .val (.int (2 : Int32))] [(.int x2)])) t → Steps p.tables e below (s₁.setTop (entryFrame m #[(.ref a1), (.int p2)] 5)) t := fun t k => go16 t (by
      show Steps p.tables e below (T13.setTop (mkF m 25 #[.val (.ref a1), .val (.int p2), .val (.int (2 : Int32)), .val (.int (3 : Int32)), .val (.int (2 : Int32))] [(.int (2 : Int32)), (.ref b)])) _
      refine X13.iaload hx (j := (2 : Int32)) (v := (.int x2)) (by rw [e13]; exact Ar15.1) (State.isArrayOf_alike hZ.alike Ar15.2.1) Ar15.2.2 (inb_of S15 ⟨by decide, by decide⟩) (H15.at (inb_of S15 ⟨by decide, by decide⟩) rfl) (g := (mkF m 25 #[.val (.ref a1), .val (.int p2), .val (.int (2 : Int32)), .val (.int (3 : Int32)), .val (.int (2 : Int32))] [(.int (2 : Int32)), (.ref b)])) rfl rfl (hb hby fal_25) _ ?_
      exact k)
    have go18 : ∀ t, Steps p.tables e below (T13.setTop (mkF m 27 #[.val (.ref a1), .val (.int p2), .val (.int (2 : Int32)), .val (.int (3 : Int32)), .val (.int (2 : Int32))] [(.int p2), (.int x2)])) t → Steps p.tables e below (s₁.setTop (entryFrame m #[(.ref a1), (.int p2)] 5)) t := fun t k => go17 t (by
      show Steps p.tables e below (T13.setTop (mkF m 26 #[.val (.ref a1), .val (.int p2), .val (.int (2 : Int32)), .val (.int (3 : Int32)), .val (.int (2 : Int32))] [(.int x2)])) _
      refine XS.iloadN X13.here hx rfl (hb hby fal_26) rfl ?_
      exact k)
    by_cases hc19 : x2 < p2
    · have go20 : ∀ t, Steps p.tables e below (T13.setTop (mkF m 45 #[.val (.ref a1), .val (.int p2), .val (.int (3 : Int32)), .val (.int (3 : Int32)), .val (.int (2 : Int32))] [(.int (3 : Int32))])) t → Steps p.tables e below (s₁.setTop (entryFrame m #[(.ref a1), (.int p2)] 5)) t := fun t k => go18 t (by
        show Steps p.tables e below (T13.setTop (mkF m 27 #[.val (.ref a1), .val (.int p2), .val (.int (2 : Int32)), .val (.int (3 : Int32)), .val (.int (2 : Int32))] [(.int p2), (.int x2)])) _
        refine XS.icmpNo X13.here hx rfl (hb hby fal_27) rfl (tlt hc19).2.1 ?_
        show Steps p.tables e below (T13.setTop (mkF m 30 #[.val (.ref a1), .val (.int p2), .val (.int (2 : Int32)), .val (.int (3 : Int32)), .val (.int (2 : Int32))] [])) _
        refine XS.iload X13.here hx rfl (hb hby fal_30) rfl ?_
        show Steps p.tables e below (T13.setTop (mkF m 32 #[.val (.ref a1), .val (.int p2), .val (.int (2 : Int32)), .val (.int (3 : Int32)), .val (.int (2 : Int32))] [(.int (2 : Int32))])) _
        refine XS.iconst X13.here hx rfl (hb hby fal_32) ?_
        show Steps p.tables e below (T13.setTop (mkF m 33 #[.val (.ref a1), .val (.int p2), .val (.int (2 : Int32)), .val (.int (3 : Int32)), .val (.int (2 : Int32))] [(.int (1 : Int32)), (.int (2 : Int32))])) _
        refine XS.iadd X13.here hx rfl (hb hby fal_33) rfl ?_
        show Steps p.tables e below (T13.setTop (mkF m 34 #[.val (.ref a1), .val (.int p2), .val (.int (2 : Int32)), .val (.int (3 : Int32)), .val (.int (2 : Int32))] [(.int (3 : Int32))])) _
        refine XS.istoreN X13.here hx rfl (hb hby fal_34) rfl (l' := #[.val (.ref a1), .val (.int p2), .val (.int (3 : Int32)), .val (.int (3 : Int32)), .val (.int (2 : Int32))]) rfl ?_
        show Steps p.tables e below (T13.setTop (mkF m 35 #[.val (.ref a1), .val (.int p2), .val (.int (3 : Int32)), .val (.int (3 : Int32)), .val (.int (2 : Int32))] [])) _
        refine XS.goto X13.here hx rfl (pc0 := 35) (pc' := 41) rfl (hb hby fal_35) (by decide) (by decide) ?_
        show Steps p.tables e below (T13.setTop (mkF m 41 #[.val (.ref a1), .val (.int p2), .val (.int (3 : Int32)), .val (.int (3 : Int32)), .val (.int (2 : Int32))] [])) _
        refine XS.goto X13.here hx rfl (pc0 := 41) (pc' := 7) rfl (hb hby fal_41) (by decide) (by decide) ?_
        show Steps p.tables e below (T13.setTop (mkF m 7 #[.val (.ref a1), .val (.int p2), .val (.int (3 : Int32)), .val (.int (3 : Int32)), .val (.int (2 : Int32))] [])) _
        refine XS.iloadN X13.here hx rfl (hb hby fal_7) rfl ?_
        show Steps p.tables e below (T13.setTop (mkF m 8 #[.val (.ref a1), .val (.int p2), .val (.int (3 : Int32)), .val (.int (3 : Int32)), .val (.int (2 : Int32))] [(.int (3 : Int32))])) _
        refine XS.iloadN X13.here hx rfl (hb hby fal_8) rfl ?_
        show Steps p.tables e below (T13.setTop (mkF m 9 #[.val (.ref a1), .val (.int p2), .val (.int (3 : Int32)), .val (.int (3 : Int32)), .val (.int (2 : Int32))] [(.int (3 : Int32)), (.int (3 : Int32))])) _
        refine XS.icmpYes X13.here hx rfl (pc0 := 9) (pc' := 44) rfl (hb hby fal_9) rfl (flt (by decide : ¬ ((3 : Int32) < (3 : Int32)))).2.1 (by decide) (by decide) ?_
        show Steps p.tables e below (T13.setTop (mkF m 44 #[.val (.ref a1), .val (.int p2), .val (.int (3 : Int32)), .val (.int (3 : Int32)), .val (.int (2 : Int32))] [])) _
        refine XS.iloadN X13.here hx rfl (hb hby fal_44) rfl ?_
        exact k)
      obtain ⟨fs, hr, hrun, hended, hW, hsame⟩ := X13.leave (v := some (.int (3 : Int32))) (fun h => by rw [Bd.returns] at h; cases h)
      refine ⟨_, _, go20 _ ?_, hrun, hended, _, _, rfl, ?_, ⟨_, rfl⟩, hW, hsame.mono (by decide) (by decide)⟩
      · exact retI X13 hx Bd.returns (hb hby fal_45) hr
      · show QV (.int (own_fal3 p2 x0 x1 x2)) h0 n0 _ T13.heap _
        rw [e13]
        exact ⟨congrArg some (congrArg Value.int (Eq.symm (show (own_fal3 p2 x0 x1 x2) = (3 : Int32) from by unfold own_fal3; rw [if_pos hc11, if_pos hc19]))), N0, rfl⟩
    · have go21 : ∀ t, Steps p.tables e below (T13.setTop (mkF m 45 #[.val (.ref a1), .val (.int p2), .val (.int (2 : Int32)), .val (.int (2 : Int32)), .val (.int (2 : Int32))] [(.int (2 : Int32))])) t → Steps p.tables e below (s₁.setTop (entryFrame m #[(.ref a1), (.int p2)] 5)) t := fun t k => go18 t (by
        show Steps p.tables e below (T13.setTop (mkF m 27 #[.val (.ref a1), .val (.int p2), .val (.int (2 : Int32)), .val (.int (3 : Int32)), .val (.int (2 : Int32))] [(.int p2), (.int x2)])) _
        refine XS.icmpYes X13.here hx rfl (pc0 := 27) (pc' := 38) rfl (hb hby fal_27) rfl (flt hc19).2.1 (by decide) (by decide) ?_
        show Steps p.tables e below (T13.setTop (mkF m 38 #[.val (.ref a1), .val (.int p2), .val (.int (2 : Int32)), .val (.int (3 : Int32)), .val (.int (2 : Int32))] [])) _
        refine XS.iload X13.here hx rfl (hb hby fal_38) rfl ?_
        show Steps p.tables e below (T13.setTop (mkF m 40 #[.val (.ref a1), .val (.int p2), .val (.int (2 : Int32)), .val (.int (3 : Int32)), .val (.int (2 : Int32))] [(.int (2 : Int32))])) _
        refine XS.istoreN X13.here hx rfl (hb hby fal_40) rfl (l' := #[.val (.ref a1), .val (.int p2), .val (.int (2 : Int32)), .val (.int (2 : Int32)), .val (.int (2 : Int32))]) rfl ?_
        show Steps p.tables e below (T13.setTop (mkF m 41 #[.val (.ref a1), .val (.int p2), .val (.int (2 : Int32)), .val (.int (2 : Int32)), .val (.int (2 : Int32))] [])) _
        refine XS.goto X13.here hx rfl (pc0 := 41) (pc' := 7) rfl (hb hby fal_41) (by decide) (by decide) ?_
        show Steps p.tables e below (T13.setTop (mkF m 7 #[.val (.ref a1), .val (.int p2), .val (.int (2 : Int32)), .val (.int (2 : Int32)), .val (.int (2 : Int32))] [])) _
        refine XS.iloadN X13.here hx rfl (hb hby fal_7) rfl ?_
        show Steps p.tables e below (T13.setTop (mkF m 8 #[.val (.ref a1), .val (.int p2), .val (.int (2 : Int32)), .val (.int (2 : Int32)), .val (.int (2 : Int32))] [(.int (2 : Int32))])) _
        refine XS.iloadN X13.here hx rfl (hb hby fal_8) rfl ?_
        show Steps p.tables e below (T13.setTop (mkF m 9 #[.val (.ref a1), .val (.int p2), .val (.int (2 : Int32)), .val (.int (2 : Int32)), .val (.int (2 : Int32))] [(.int (2 : Int32)), (.int (2 : Int32))])) _
        refine XS.icmpYes X13.here hx rfl (pc0 := 9) (pc' := 44) rfl (hb hby fal_9) rfl (flt (by decide : ¬ ((2 : Int32) < (2 : Int32)))).2.1 (by decide) (by decide) ?_
        show Steps p.tables e below (T13.setTop (mkF m 44 #[.val (.ref a1), .val (.int p2), .val (.int (2 : Int32)), .val (.int (2 : Int32)), .val (.int (2 : Int32))] [])) _
        refine XS.iloadN X13.here hx rfl (hb hby fal_44) rfl ?_
        exact k)
      obtain ⟨fs, hr, hrun, hended, hW, hsame⟩ := X13.leave (v := some (.int (2 : Int32))) (fun h => by rw [Bd.returns] at h; cases h)
      refine ⟨_, _, go21 _ ?_, hrun, hended, _, _, rfl, ?_, ⟨_, rfl⟩, hW, hsame.mono (by decide) (by decide)⟩
      · exact retI X13 hx Bd.returns (hb hby fal_45) hr
      · show QV (.int (own_fal3 p2 x0 x1 x2)) h0 n0 _ T13.heap _
        rw [e13]
        exact ⟨congrArg some (congrArg Value.int (Eq.symm (show (own_fal3 p2 x0 x1 x2) = (2 : Int32) from by unfold own_fal3; rw [if_pos hc11, if_neg hc19]))), N0, rfl⟩
  · have go22 : ∀ t, Steps p.tables e below (T5.setTop (mkF m 20 #[.val (.ref a1), .val (.int p2), .val (.int (0 : Int32)), .val (.int (1 : Int32)), .val (.int (0 : Int32))] [(.ref a1)])) t → Steps p.tables e below (s₁.setTop (entryFrame m #[(.ref a1), (.int p2)] 5)) t := fun t k => go10 t (by
      show Steps p.tables e below (T5.setTop (mkF m 27 #[.val (.ref a1), .val (.int p2), .val (.int (0 : Int32)), .val (.int (3 : Int32)), .val (.int (1 : Int32))] [(.int p2), (.int x1)])) _
      refine XS.icmpYes X5.here hx rfl (pc0 := 27) (pc' := 38) rfl (hb hby fal_27) rfl (flt hc11).2.1 (by decide) (by decide) ?_
      show Steps p.tables e below (T5.setTop (mkF m 38 #[.val (.ref a1), .val (.int p2), .val (.int (0 : Int32)), .val (.int (3 : Int32)), .val (.int (1 : Int32))] [])) _
      refine XS.iload X5.here hx rfl (hb hby fal_38) rfl ?_
      show Steps p.tables e below (T5.setTop (mkF m 40 #[.val (.ref a1), .val (.int p2), .val (.int (0 : Int32)), .val (.int (3 : Int32)), .val (.int (1 : Int32))] [(.int (1 : Int32))])) _
      refine XS.istoreN X5.here hx rfl (hb hby fal_40) rfl (l' := #[.val (.ref a1), .val (.int p2), .val (.int (0 : Int32)), .val (.int (1 : Int32)), .val (.int (1 : Int32))]) rfl ?_
      show Steps p.tables e below (T5.setTop (mkF m 41 #[.val (.ref a1), .val (.int p2), .val (.int (0 : Int32)), .val (.int (1 : Int32)), .val (.int (1 : Int32))] [])) _
      refine XS.goto X5.here hx rfl (pc0 := 41) (pc' := 7) rfl (hb hby fal_41) (by decide) (by decide) ?_
      show Steps p.tables e below (T5.setTop (mkF m 7 #[.val (.ref a1), .val (.int p2), .val (.int (0 : Int32)), .val (.int (1 : Int32)), .val (.int (1 : Int32))] [])) _
      refine XS.iloadN X5.here hx rfl (hb hby fal_7) rfl ?_
      show Steps p.tables e below (T5.setTop (mkF m 8 #[.val (.ref a1), .val (.int p2), .val (.int (0 : Int32)), .val (.int (1 : Int32)), .val (.int (1 : Int32))] [(.int (0 : Int32))])) _
      refine XS.iloadN X5.here hx rfl (hb hby fal_8) rfl ?_
      show Steps p.tables e below (T5.setTop (mkF m 9 #[.val (.ref a1), .val (.int p2), .val (.int (0 : Int32)), .val (.int (1 : Int32)), .val (.int (1 : Int32))] [(.int (1 : Int32)), (.int (0 : Int32))])) _
      refine XS.icmpNo X5.here hx rfl (hb hby fal_9) rfl (tlt (by decide : (0 : Int32) < (1 : Int32))).2.1 ?_
      show Steps p.tables e below (T5.setTop (mkF m 12 #[.val (.ref a1), .val (.int p2), .val (.int (0 : Int32)), .val (.int (1 : Int32)), .val (.int (1 : Int32))] [])) _
      refine XS.iloadN X5.here hx rfl (hb hby fal_12) rfl ?_
      show Steps p.tables e below (T5.setTop (mkF m 13 #[.val (.ref a1), .val (.int p2), .val (.int (0 : Int32)), .val (.int (1 : Int32)), .val (.int (1 : Int32))] [(.int (0 : Int32))])) _
      refine XS.iloadN X5.here hx rfl (hb hby fal_13) rfl ?_
      show Steps p.tables e below (T5.setTop (mkF m 14 #[.val (.ref a1), .val (.int p2), .val (.int (0 : Int32)), .val (.int (1 : Int32)), .val (.int (1 : Int32))] [(.int (1 : Int32)), (.int (0 : Int32))])) _
      refine XS.iadd X5.here hx rfl (hb hby fal_14) rfl ?_
      show Steps p.tables e below (T5.setTop (mkF m 15 #[.val (.ref a1), .val (.int p2), .val (.int (0 : Int32)), .val (.int (1 : Int32)), .val (.int (1 : Int32))] [(.int (1 : Int32))])) _
      refine XS.iconst X5.here hx rfl (hb hby fal_15) ?_
      show Steps p.tables e below (T5.setTop (mkF m 16 #[.val (.ref a1), .val (.int p2), .val (.int (0 : Int32)), .val (.int (1 : Int32)), .val (.int (1 : Int32))] [(.int (1 : Int32)), (.int (1 : Int32))])) _
      refine XS.iushr X5.here hx rfl (hb hby fal_16) rfl ?_
      show Steps p.tables e below (T5.setTop (mkF m 17 #[.val (.ref a1), .val (.int p2), .val (.int (0 : Int32)), .val (.int (1 : Int32)), .val (.int (1 : Int32))] [(.int (0 : Int32))])) _
      refine XS.istore X5.here hx rfl (hb hby fal_17) rfl (l' := #[.val (.ref a1), .val (.int p2), .val (.int (0 : Int32)), .val (.int (1 : Int32)), .val (.int (0 : Int32))]) rfl ?_
      show Steps p.tables e below (T5.setTop (mkF m 19 #[.val (.ref a1), .val (.int p2), .val (.int (0 : Int32)), .val (.int (1 : Int32)), .val (.int (0 : Int32))] [])) _
      refine XS.aloadN X5.here hx rfl (hb hby fal_19) rfl rfl ?_
      exact k)
    obtain ⟨T23, X23, e23, st23⟩ := getF X5 hx hZ hown (host := "") (Or.inl (hw _ (List.mem_of_getElem? (i := 17) rfl))) Via.refl e5 F1 (g := (mkF m 20 #[.val (.ref a1), .val (.int p2), .val (.int (0 : Int32)), .val (.int (1 : Int32)), .val (.int (0 : Int32))] [(.ref a1)])) rfl rfl (hb hby fal_20)
    have go24 : ∀ t, Steps p.tables e below (T23.setTop (mkF m 23 #[.val (.ref a1), .val (.int p2), .val (.int (0 : Int32)), .val (.int (1 : Int32)), .val (.int (0 : Int32))] [(.ref b)])) t → Steps p.tables e below (s₁.setTop (entryFrame m #[(.ref a1), (.int p2)] 5)) t := fun t k => go22 t (st23 t k)
    have go26 : ∀ t, Steps p.tables e below (T23.setTop (mkF m 25 #[.val (.ref a1), .val (.int p2), .val (.int (0 : Int32)), .val (.int (1 : Int32)), .val (.int (0 : Int32))] [(.int (0 : Int32)), (.ref b)])) t → Steps p.tables e below (s₁.setTop (entryFrame m #[(.ref a1), (.int p2)] 5)) t := fun t k => go24 t (by
      show Steps p.tables e below (T23.setTop (mkF m 23 #[.val (.ref a1), .val (.int p2), .val (.int (0 : Int32)), .val (.int (1 : Int32)), .val (.int (0 : Int32))] [(.ref b)])) _
      refine XS.iload X23.here hx rfl (hb hby fal_23) rfl ?_
      exact k)
    obtain ⟨cl25, Ar25, q25, S25, M25, H25, G25⟩ := id V1
    have go27 : ∀ t, Steps p.tables e below (T23.setTop (mkF m 26 #[.val (.ref a1), .val (.int p2), .val (.int (0 : Int32)), .val (.int (1 : Int32)), .val (.int (0 : Int32))] [(.int x0)])) t → Steps p.tables e below (s₁.setTop (entryFrame m #[(.ref a1), (.int p2)] 5)) t := fun t k => go26 t (by
      show Steps p.tables e below (T23.setTop (mkF m 25 #[.val (.ref a1), .val (.int p2), .val (.int (0 : Int32)), .val (.int (1 : Int32)), .val (.int (0 : Int32))] [(.int (0 : Int32)), (.ref b)])) _
      refine X23.iaload hx (j := (0 : Int32)) (v := (.int x0)) (by rw [e23]; exact Ar25.1) (State.isArrayOf_alike hZ.alike Ar25.2.1) Ar25.2.2 (inb_of S25 ⟨by decide, by decide⟩) (H25.at (inb_of S25 ⟨by decide, by decide⟩) rfl) (g := (mkF m 25 #[.val (.ref a1), .val (.int p2), .val (.int (0 : Int32)), .val (.int (1 : Int32)), .val (.int (0 : Int32))] [(.int (0 : Int32)), (.ref b)])) rfl rfl (hb hby fal_25) _ ?_
      exact k)
    have go28 : ∀ t, Steps p.tables e below (T23.setTop (mkF m 27 #[.val (.ref a1), .val (.int p2), .val (.int (0 : Int32)), .val (.int (1 : Int32)), .val (.int (0 : Int32))] [(.int p2), (.int x0)])) t → Steps p.tables e below (s₁.setTop (entryFrame m #[(.ref a1), (.int p2)] 5)) t := fun t k => go27 t (by
      show Steps p.tables e below (T23.setTop (mkF m 26 #[.val (.ref a1), .val (.int p2), .val (.int (0 : Int32)), .val (.int (1 : Int32)), .val (.int (0 : Int32))] [(.int x0)])) _
      refine XS.iloadN X23.here hx rfl (hb hby fal_26) rfl ?_
      exact k)
    by_cases hc29 : x0 < p2
    · have go30 : ∀ t, Steps p.tables e below (T23.setTop (mkF m 45 #[.val (.ref a1), .val (.int p2), .val (.int (1 : Int32)), .val (.int (1 : Int32)), .val (.int (0 : Int32))] [(.int (1 : Int32))])) t → Steps p.tables e below (s₁.setTop (entryFrame m #[(.ref a1), (.int p2)] 5)) t := fun t k => go28 t (by
        show Steps p.tables e below (T23.setTop (mkF m 27 #[.val (.ref a1), .val (.int p2), .val (.int (0 : Int32)), .val (.int (1 : Int32)), .val (.int (0 : Int32))] [(.int p2), (.int x0)])) _
        refine XS.icmpNo X23.here hx rfl (hb hby fal_27) rfl (tlt hc29).2.1 ?_
        show Steps p.tables e below (T23.setTop (mkF m 30 #[.val (.ref a1), .val (.int p2), .val (.int (0 : Int32)), .val (.int (1 : Int32)), .val (.int (0 : Int32))] [])) _
        refine XS.iload X23.here hx rfl (hb hby fal_30) rfl ?_
        show Steps p.tables e below (T23.setTop (mkF m 32 #[.val (.ref a1), .val (.int p2), .val (.int (0 : Int32)), .val (.int (1 : Int32)), .val (.int (0 : Int32))] [(.int (0 : Int32))])) _
        refine XS.iconst X23.here hx rfl (hb hby fal_32) ?_
        show Steps p.tables e below (T23.setTop (mkF m 33 #[.val (.ref a1), .val (.int p2), .val (.int (0 : Int32)), .val (.int (1 : Int32)), .val (.int (0 : Int32))] [(.int (1 : Int32)), (.int (0 : Int32))])) _
        refine XS.iadd X23.here hx rfl (hb hby fal_33) rfl ?_
        show Steps p.tables e below (T23.setTop (mkF m 34 #[.val (.ref a1), .val (.int p2), .val (.int (0 : Int32)), .val (.int (1 : Int32)), .val (.int (0 : Int32))] [(.int (1 : Int32))])) _
        refine XS.istoreN X23.here hx rfl (hb hby fal_34) rfl (l' := #[.val (.ref a1), .val (.int p2), .val (.int (1 : Int32)), .val (.int (1 : Int32)), .val (.int (0 : Int32))]) rfl ?_
        show Steps p.tables e below (T23.setTop (mkF m 35 #[.val (.ref a1), .val (.int p2), .val (.int (1 : Int32)), .val (.int (1 : Int32)), .val (.int (0 : Int32))] [])) _
        refine XS.goto X23.here hx rfl (pc0 := 35) (pc' := 41) rfl (hb hby fal_35) (by decide) (by decide) ?_
        show Steps p.tables e below (T23.setTop (mkF m 41 #[.val (.ref a1), .val (.int p2), .val (.int (1 : Int32)), .val (.int (1 : Int32)), .val (.int (0 : Int32))] [])) _
        refine XS.goto X23.here hx rfl (pc0 := 41) (pc' := 7) rfl (hb hby fal_41) (by decide) (by decide) ?_
        show Steps p.tables e below (T23.setTop (mkF m 7 #[.val (.ref a1), .val (.int p2), .val (.int (1 : Int32)), .val (.int (1 : Int32)), .val (.int (0 : Int32))] [])) _
        refine XS.iloadN X23.here hx rfl (hb hby fal_7) rfl ?_
        show Steps p.tables e below (T23.setTop (mkF m 8 #[.val (.ref a1), .val (.int p2), .val (.int (1 : Int32)), .val (.int (1 : Int32)), .val (.int (0 : Int32))] [(.int (1 : Int32))])) _
        refine XS.iloadN X23.here hx rfl (hb hby fal_8) rfl ?_
        show Steps p.tables e below (T23.setTop (mkF m 9 #[.val (.ref a1), .val (.int p2), .val (.int (1 : Int32)), .val (.int (1 : Int32)), .val (.int (0 : Int32))] [(.int (1 : Int32)), (.int (1 : Int32))])) _
        refine XS.icmpYes X23.here hx rfl (pc0 := 9) (pc' := 44) rfl (hb hby fal_9) rfl (flt (by decide : ¬ ((1 : Int32) < (1 : Int32)))).2.1 (by decide) (by decide) ?_
        show Steps p.tables e below (T23.setTop (mkF m 44 #[.val (.ref a1), .val (.int p2), .val (.int (1 : Int32)), .val (.int (1 : Int32)), .val (.int (0 : Int32))] [])) _
        refine XS.iloadN X23.here hx rfl (hb hby fal_44) rfl ?_
        exact k)
      obtain ⟨fs, hr, hrun, hended, hW, hsame⟩ := X23.leave (v := some (.int (1 : Int32))) (fun h => by rw [Bd.returns] at h; cases h)
      refine ⟨_, _, go30 _ ?_, hrun, hended, _, _, rfl, ?_, ⟨_, rfl⟩, hW, hsame.mono (by decide) (by decide)⟩
      · exact retI X23 hx Bd.returns (hb hby fal_45) hr
      · show QV (.int (own_fal3 p2 x0 x1 x2)) h0 n0 _ T23.heap _
        rw [e23]
        exact ⟨congrArg some (congrArg Value.int (Eq.symm (show (own_fal3 p2 x0 x1 x2) = (1 : Int32) from by unfold own_fal3; rw [if_neg hc11, if_pos hc29]))), N0, rfl⟩
    · have go31 : ∀ t, Steps p.tables e below (T23.setTop (mkF m 45 #[.val (.ref a1), .val (.int p2), .val (.int (0 : Int32)), .val (.int (0 : Int32)), .val (.int (0 : Int32))] [(.int (0 : Int32))])) t → Steps p.tables e below (s₁.setTop (entryFrame m #[(.ref a1), (.int p2)] 5)) t := fun t k => go28 t (by
        show Steps p.tables e below (T23.setTop (mkF m 27 #[.val (.ref a1), .val (.int p2), .val (.int (0 : Int32)), .val (.int (1 : Int32)), .val (.int (0 : Int32))] [(.int p2), (.int x0)])) _
        refine XS.icmpYes X23.here hx rfl (pc0 := 27) (pc' := 38) rfl (hb hby fal_27) rfl (flt hc29).2.1 (by decide) (by decide) ?_
        show Steps p.tables e below (T23.setTop (mkF m 38 #[.val (.ref a1), .val (.int p2), .val (.int (0 : Int32)), .val (.int (1 : Int32)), .val (.int (0 : Int32))] [])) _
        refine XS.iload X23.here hx rfl (hb hby fal_38) rfl ?_
        show Steps p.tables e below (T23.setTop (mkF m 40 #[.val (.ref a1), .val (.int p2), .val (.int (0 : Int32)), .val (.int (1 : Int32)), .val (.int (0 : Int32))] [(.int (0 : Int32))])) _
        refine XS.istoreN X23.here hx rfl (hb hby fal_40) rfl (l' := #[.val (.ref a1), .val (.int p2), .val (.int (0 : Int32)), .val (.int (0 : Int32)), .val (.int (0 : Int32))]) rfl ?_
        show Steps p.tables e below (T23.setTop (mkF m 41 #[.val (.ref a1), .val (.int p2), .val (.int (0 : Int32)), .val (.int (0 : Int32)), .val (.int (0 : Int32))] [])) _
        refine XS.goto X23.here hx rfl (pc0 := 41) (pc' := 7) rfl (hb hby fal_41) (by decide) (by decide) ?_
        show Steps p.tables e below (T23.setTop (mkF m 7 #[.val (.ref a1), .val (.int p2), .val (.int (0 : Int32)), .val (.int (0 : Int32)), .val (.int (0 : Int32))] [])) _
        refine XS.iloadN X23.here hx rfl (hb hby fal_7) rfl ?_
        show Steps p.tables e below (T23.setTop (mkF m 8 #[.val (.ref a1), .val (.int p2), .val (.int (0 : Int32)), .val (.int (0 : Int32)), .val (.int (0 : Int32))] [(.int (0 : Int32))])) _
        refine XS.iloadN X23.here hx rfl (hb hby fal_8) rfl ?_
        show Steps p.tables e below (T23.setTop (mkF m 9 #[.val (.ref a1), .val (.int p2), .val (.int (0 : Int32)), .val (.int (0 : Int32)), .val (.int (0 : Int32))] [(.int (0 : Int32)), (.int (0 : Int32))])) _
        refine XS.icmpYes X23.here hx rfl (pc0 := 9) (pc' := 44) rfl (hb hby fal_9) rfl (flt (by decide : ¬ ((0 : Int32) < (0 : Int32)))).2.1 (by decide) (by decide) ?_
        show Steps p.tables e below (T23.setTop (mkF m 44 #[.val (.ref a1), .val (.int p2), .val (.int (0 : Int32)), .val (.int (0 : Int32)), .val (.int (0 : Int32))] [])) _
        refine XS.iloadN X23.here hx rfl (hb hby fal_44) rfl ?_
        exact k)
      obtain ⟨fs, hr, hrun, hended, hW, hsame⟩ := X23.leave (v := some (.int (0 : Int32))) (fun h => by rw [Bd.returns] at h; cases h)
      refine ⟨_, _, go31 _ ?_, hrun, hended, _, _, rfl, ?_, ⟨_, rfl⟩, hW, hsame.mono (by decide) (by decide)⟩
      · exact retI X23 hx Bd.returns (hb hby fal_45) hr
      · show QV (.int (own_fal3 p2 x0 x1 x2)) h0 n0 _ T23.heap _
        rw [e23]
        exact ⟨congrArg some (congrArg Value.int (Eq.symm (show (own_fal3 p2 x0 x1 x2) = (0 : Int32) from by unfold own_fal3; rw [if_neg hc11, if_neg hc29]))), N0, rfl⟩
def own_fal4 (p2 x0 x1 x2 x3 : Int32) : Int32 := if x2 < p2 then (if x3 < p2 then (4 : Int32) else (3 : Int32)) else (if x1 < p2 then (2 : Int32) else (if x0 < p2 then (1 : Int32) else (0 : Int32)))
set_option maxRecDepth 65536 in
set_option maxHeartbeats 40000000 in
theorem rm_fal4 (l : Launch) (Z : State) (a0 : Array Value) (hw : ∀ d ∈ tables_1, d.before a0 Z = true) (ws : List Jvm.Cond) (a1 : Addr) (p2 : Int32) (b : Addr) (kA : ClassId) (x0 x1 x2 x3 : Int32) (h0 : Heap) (n0 : Nat) (Z0 : n0 ≤ h0.size) (E1 : Exa Z h0 a1 "com/example/halting_hound/haltinghound/IntList") (F1 : Fld Z h0 a1 "com/example/halting_hound/haltinghound/IntList" "values" "[I" (.ref b)) (F2 : Fld Z h0 a1 "com/example/halting_hound/haltinghound/IntList" "size" "I" (.int (4 : Int32))) (V1 : Arv Z h0 b kA .int (4 : Int32) [(.int x0), (.int x1), (.int x2), (.int x3)] (.int (0 : Int32))) :
    MetFree l (⟨"com/example/halting_hound/haltinghound/IntList", "firstAtLeast", "(I)I"⟩ : MethodName) (head1 (Jvm.Cond.code (⟨"com/example/halting_hound/haltinghound/IntList", "firstAtLeast", "(I)I"⟩ : MethodName) prog_33_method_5_code 5 (some .int) :: ws) ({ frames := 0, cells := 0, slots := 0, locals := 0 } : Room)) (fun a U => a = #[(.ref a1), (.int p2)] ∧ Z.Warmed39 U.vm ∧ U.heap = h0) (fun _ _ _ _ _ => True) (fun _ U o U' => ∃ v L, o = .returned v ∧ QV (.int (own_fal4 p2 x0 x1 x2 x3)) h0 n0 v U'.heap L ∧ FrameEnd U o U' L ({ frames := 0, cells := 0, slots := 0, locals := 0 } : Room).cells ({ frames := 0, cells := 0, slots := 0, locals := 0 } : Room).slots) := by
  refine MetFree.of_bodySF (plainFor_of_name pn_fal) hisR ?_
  intro p e s m args below meth c s₁ Bd hml0 hP hK
  obtain ⟨rfl, hZ, hh⟩ := hP
  have hx := Bd.exec
  have hby := Bd.bytes
  have hml : c.maxLocals = 5 := hml0
  have hown : s.vm.findClass "com/example/halting_hound/haltinghound/IntList" = some m.cls := findClass_of_methodNamed Bd.named
  have hnm := (name_of_methodNamed Bd.named Bd.method).1
  have X0 : Stand p l e ({ frames := 0, cells := 0, slots := 0, locals := 0 } : Room) s m #[(.ref a1), (.int p2)] below meth c s₁ [] 0 0 := Stand.of_body Bd
  have e0 : s₁.heap = h0 := by rw [← hh, Bd.state]; rfl
  have N0 := Fr.nil n0
  have go0 : ∀ t, Steps p.tables e below (s₁.setTop (mkF m 0 #[.val (.ref a1), .val (.int p2), .unset, .unset, .unset] [])) t → Steps p.tables e below (s₁.setTop (entryFrame m #[(.ref a1), (.int p2)] 5)) t := fun t k => castTop (ef_fal m a1 p2) k
  have go1 : ∀ t, Steps p.tables e below (s₁.setTop (mkF m 3 #[.val (.ref a1), .val (.int p2), .val (.int (0 : Int32)), .unset, .unset] [(.ref a1)])) t → Steps p.tables e below (s₁.setTop (entryFrame m #[(.ref a1), (.int p2)] 5)) t := fun t k => go0 t (by
    show Steps p.tables e below (s₁.setTop (mkF m 0 #[.val (.ref a1), .val (.int p2), .unset, .unset, .unset] [])) _
    refine XS.iconst X0.here hx rfl (hb hby fal_0) ?_
    show Steps p.tables e below (s₁.setTop (mkF m 1 #[.val (.ref a1), .val (.int p2), .unset, .unset, .unset] [(.int (0 : Int32))])) _
    refine XS.istoreN X0.here hx rfl (hb hby fal_1) rfl (l' := #[.val (.ref a1), .val (.int p2), .val (.int (0 : Int32)), .unset, .unset]) rfl ?_
    show Steps p.tables e below (s₁.setTop (mkF m 2 #[.val (.ref a1), .val (.int p2), .val (.int (0 : Int32)), .unset, .unset] [])) _
    refine XS.aloadN X0.here hx rfl (hb hby fal_2) rfl rfl ?_
    exact k)
  obtain ⟨T2, X2, e2, st2⟩ := getF X0 hx hZ hown (host := "") (Or.inl (hw _ (List.mem_of_getElem? (i := 28) rfl))) Via.refl e0 F2 (g := (mkF m 3 #[.val (.ref a1), .val (.int p2), .val (.int (0 : Int32)), .unset, .unset] [(.ref a1)])) rfl rfl (hb hby fal_3)
  have go3 : ∀ t, Steps p.tables e below (T2.setTop (mkF m 6 #[.val (.ref a1), .val (.int p2), .val (.int (0 : Int32)), .unset, .unset] [(.int (4 : Int32))])) t → Steps p.tables e below (s₁.setTop (entryFrame m #[(.ref a1), (.int p2)] 5)) t := fun t k => go1 t (st2 t k)
  have go4 : ∀ t, Steps p.tables e below (T2.setTop (mkF m 20 #[.val (.ref a1), .val (.int p2), .val (.int (0 : Int32)), .val (.int (4 : Int32)), .val (.int (2 : Int32))] [(.ref a1)])) t → Steps p.tables e below (s₁.setTop (entryFrame m #[(.ref a1), (.int p2)] 5)) t := fun t k => go3 t (by
    show Steps p.tables e below (T2.setTop (mkF m 6 #[.val (.ref a1), .val (.int p2), .val (.int (0 : Int32)), .unset, .unset] [(.int (4 : Int32))])) _
    refine XS.istoreN X2.here hx rfl (hb hby fal_6) rfl (l' := #[.val (.ref a1), .val (.int p2), .val (.int (0 : Int32)), .val (.int (4 : Int32)), .unset]) rfl ?_
    show Steps p.tables e below (T2.setTop (mkF m 7 #[.val (.ref a1), .val (.int p2), .val (.int (0 : Int32)), .val (.int (4 : Int32)), .unset] [])) _
    refine XS.iloadN X2.here hx rfl (hb hby fal_7) rfl ?_
    show Steps p.tables e below (T2.setTop (mkF m 8 #[.val (.ref a1), .val (.int p2), .val (.int (0 : Int32)), .val (.int (4 : Int32)), .unset] [(.int (0 : Int32))])) _
    refine XS.iloadN X2.here hx rfl (hb hby fal_8) rfl ?_
    show Steps p.tables e below (T2.setTop (mkF m 9 #[.val (.ref a1), .val (.int p2), .val (.int (0 : Int32)), .val (.int (4 : Int32)), .unset] [(.int (4 : Int32)), (.int (0 : Int32))])) _
    refine XS.icmpNo X2.here hx rfl (hb hby fal_9) rfl (tlt (by decide : (0 : Int32) < (4 : Int32))).2.1 ?_
    show Steps p.tables e below (T2.setTop (mkF m 12 #[.val (.ref a1), .val (.int p2), .val (.int (0 : Int32)), .val (.int (4 : Int32)), .unset] [])) _
    refine XS.iloadN X2.here hx rfl (hb hby fal_12) rfl ?_
    show Steps p.tables e below (T2.setTop (mkF m 13 #[.val (.ref a1), .val (.int p2), .val (.int (0 : Int32)), .val (.int (4 : Int32)), .unset] [(.int (0 : Int32))])) _
    refine XS.iloadN X2.here hx rfl (hb hby fal_13) rfl ?_
    show Steps p.tables e below (T2.setTop (mkF m 14 #[.val (.ref a1), .val (.int p2), .val (.int (0 : Int32)), .val (.int (4 : Int32)), .unset] [(.int (4 : Int32)), (.int (0 : Int32))])) _
    refine XS.iadd X2.here hx rfl (hb hby fal_14) rfl ?_
    show Steps p.tables e below (T2.setTop (mkF m 15 #[.val (.ref a1), .val (.int p2), .val (.int (0 : Int32)), .val (.int (4 : Int32)), .unset] [(.int (4 : Int32))])) _
    refine XS.iconst X2.here hx rfl (hb hby fal_15) ?_
    show Steps p.tables e below (T2.setTop (mkF m 16 #[.val (.ref a1), .val (.int p2), .val (.int (0 : Int32)), .val (.int (4 : Int32)), .unset] [(.int (1 : Int32)), (.int (4 : Int32))])) _
    refine XS.iushr X2.here hx rfl (hb hby fal_16) rfl ?_
    show Steps p.tables e below (T2.setTop (mkF m 17 #[.val (.ref a1), .val (.int p2), .val (.int (0 : Int32)), .val (.int (4 : Int32)), .unset] [(.int (2 : Int32))])) _
    refine XS.istore X2.here hx rfl (hb hby fal_17) rfl (l' := #[.val (.ref a1), .val (.int p2), .val (.int (0 : Int32)), .val (.int (4 : Int32)), .val (.int (2 : Int32))]) rfl ?_
    show Steps p.tables e below (T2.setTop (mkF m 19 #[.val (.ref a1), .val (.int p2), .val (.int (0 : Int32)), .val (.int (4 : Int32)), .val (.int (2 : Int32))] [])) _
    refine XS.aloadN X2.here hx rfl (hb hby fal_19) rfl rfl ?_
    exact k)
  obtain ⟨T5, X5, e5, st5⟩ := getF X2 hx hZ hown (host := "") (Or.inl (hw _ (List.mem_of_getElem? (i := 17) rfl))) Via.refl e2 F1 (g := (mkF m 20 #[.val (.ref a1), .val (.int p2), .val (.int (0 : Int32)), .val (.int (4 : Int32)), .val (.int (2 : Int32))] [(.ref a1)])) rfl rfl (hb hby fal_20)
  have go6 : ∀ t, Steps p.tables e below (T5.setTop (mkF m 23 #[.val (.ref a1), .val (.int p2), .val (.int (0 : Int32)), .val (.int (4 : Int32)), .val (.int (2 : Int32))] [(.ref b)])) t → Steps p.tables e below (s₁.setTop (entryFrame m #[(.ref a1), (.int p2)] 5)) t := fun t k => go4 t (st5 t k)
  have go8 : ∀ t, Steps p.tables e below (T5.setTop (mkF m 25 #[.val (.ref a1), .val (.int p2), .val (.int (0 : Int32)), .val (.int (4 : Int32)), .val (.int (2 : Int32))] [(.int (2 : Int32)), (.ref b)])) t → Steps p.tables e below (s₁.setTop (entryFrame m #[(.ref a1), (.int p2)] 5)) t := fun t k => go6 t (by
    show Steps p.tables e below (T5.setTop (mkF m 23 #[.val (.ref a1), .val (.int p2), .val (.int (0 : Int32)), .val (.int (4 : Int32)), .val (.int (2 : Int32))] [(.ref b)])) _
    refine XS.iload X5.here hx rfl (hb hby fal_23) rfl ?_
    exact k)
  obtain ⟨cl7, Ar7, q7, S7, M7, H7, G7⟩ := id V1
  have go9 : ∀ t, Steps p.tables e below (T5.setTop (mkF m 26 #[.val (.ref a1), .val (.int p2), .val (.int (0 : Int32)), .val (.int (4 : Int32)), .val (.int (2 : Int32))] [(.int x2)])) t → Steps p.tables e below (s₁.setTop (entryFrame m #[(.ref a1), (.int p2)] 5)) t := fun t k => go8 t (by
    show Steps p.tables e below (T5.setTop (mkF m 25 #[.val (.ref a1), .val (.int p2), .val (.int (0 : Int32)), .val (.int (4 : Int32)), .val (.int (2 : Int32))] [(.int (2 : Int32)), (.ref b)])) _
    refine X5.iaload hx (j := (2 : Int32)) (v := (.int x2)) (by rw [e5]; exact Ar7.1) (State.isArrayOf_alike hZ.alike Ar7.2.1) Ar7.2.2 (inb_of S7 ⟨by decide, by decide⟩) (H7.at (inb_of S7 ⟨by decide, by decide⟩) rfl) (g := (mkF m 25 #[.val (.ref a1), .val (.int p2), .val (.int (0 : Int32)), .val (.int (4 : Int32)), .val (.int (2 : Int32))] [(.int (2 : Int32)), (.ref b)])) rfl rfl (hb hby fal_25) _ ?_
    exact k)
  have go10 : ∀ t, Steps p.tables e below (T5.setTop (mkF m 27 #[.val (.ref a1), .val (.int p2), .val (.int (0 : Int32)), .val (.int (4 : Int32)), .val (.int (2 : Int32))] [(.int p2), (.int x2)])) t → Steps p.tables e below (s₁.setTop (entryFrame m #[(.ref a1), (.int p2)] 5)) t := fun t k => go9 t (by
    show Steps p.tables e below (T5.setTop (mkF m 26 #[.val (.ref a1), .val (.int p2), .val (.int (0 : Int32)), .val (.int (4 : Int32)), .val (.int (2 : Int32))] [(.int x2)])) _
    refine XS.iloadN X5.here hx rfl (hb hby fal_26) rfl ?_
    exact k)
  by_cases hc11 : x2 < p2
  · have go12 : ∀ t, Steps p.tables e below (T5.setTop (mkF m 20 #[.val (.ref a1), .val (.int p2), .val (.int (3 : Int32)), .val (.int (4 : Int32)), .val (.int (3 : Int32))] [(.ref a1)])) t → Steps p.tables e below (s₁.setTop (entryFrame m #[(.ref a1), (.int p2)] 5)) t := fun t k => go10 t (by
      show Steps p.tables e below (T5.setTop (mkF m 27 #[.val (.ref a1), .val (.int p2), .val (.int (0 : Int32)), .val (.int (4 : Int32)), .val (.int (2 : Int32))] [(.int p2), (.int x2)])) _
      refine XS.icmpNo X5.here hx rfl (hb hby fal_27) rfl (tlt hc11).2.1 ?_
      show Steps p.tables e below (T5.setTop (mkF m 30 #[.val (.ref a1), .val (.int p2), .val (.int (0 : Int32)), .val (.int (4 : Int32)), .val (.int (2 : Int32))] [])) _
      refine XS.iload X5.here hx rfl (hb hby fal_30) rfl ?_
      show Steps p.tables e below (T5.setTop (mkF m 32 #[.val (.ref a1), .val (.int p2), .val (.int (0 : Int32)), .val (.int (4 : Int32)), .val (.int (2 : Int32))] [(.int (2 : Int32))])) _
      refine XS.iconst X5.here hx rfl (hb hby fal_32) ?_
      show Steps p.tables e below (T5.setTop (mkF m 33 #[.val (.ref a1), .val (.int p2), .val (.int (0 : Int32)), .val (.int (4 : Int32)), .val (.int (2 : Int32))] [(.int (1 : Int32)), (.int (2 : Int32))])) _
      refine XS.iadd X5.here hx rfl (hb hby fal_33) rfl ?_
      show Steps p.tables e below (T5.setTop (mkF m 34 #[.val (.ref a1), .val (.int p2), .val (.int (0 : Int32)), .val (.int (4 : Int32)), .val (.int (2 : Int32))] [(.int (3 : Int32))])) _
      refine XS.istoreN X5.here hx rfl (hb hby fal_34) rfl (l' := #[.val (.ref a1), .val (.int p2), .val (.int (3 : Int32)), .val (.int (4 : Int32)), .val (.int (2 : Int32))]) rfl ?_
      show Steps p.tables e below (T5.setTop (mkF m 35 #[.val (.ref a1), .val (.int p2), .val (.int (3 : Int32)), .val (.int (4 : Int32)), .val (.int (2 : Int32))] [])) _
      refine XS.goto X5.here hx rfl (pc0 := 35) (pc' := 41) rfl (hb hby fal_35) (by decide) (by decide) ?_
      show Steps p.tables e below (T5.setTop (mkF m 41 #[.val (.ref a1), .val (.int p2), .val (.int (3 : Int32)), .val (.int (4 : Int32)), .val (.int (2 : Int32))] [])) _
      refine XS.goto X5.here hx rfl (pc0 := 41) (pc' := 7) rfl (hb hby fal_41) (by decide) (by decide) ?_
      show Steps p.tables e below (T5.setTop (mkF m 7 #[.val (.ref a1), .val (.int p2), .val (.int (3 : Int32)), .val (.int (4 : Int32)), .val (.int (2 : Int32))] [])) _
      refine XS.iloadN X5.here hx rfl (hb hby fal_7) rfl ?_
      show Steps p.tables e below (T5.setTop (mkF m 8 #[.val (.ref a1), .val (.int p2), .val (.int (3 : Int32)), .val (.int (4 : Int32)), .val (.int (2 : Int32))] [(.int (3 : Int32))])) _
      refine XS.iloadN X5.here hx rfl (hb hby fal_8) rfl ?_
      show Steps p.tables e below (T5.setTop (mkF m 9 #[.val (.ref a1), .val (.int p2), .val (.int (3 : Int32)), .val (.int (4 : Int32)), .val (.int (2 : Int32))] [(.int (4 : Int32)), (.int (3 : Int32))])) _
      refine XS.icmpNo X5.here hx rfl (hb hby fal_9) rfl (tlt (by decide : (3 : Int32) < (4 : Int32))).2.1 ?_
      show Steps p.tables e below (T5.setTop (mkF m 12 #[.val (.ref a1), .val (.int p2), .val (.int (3 : Int32)), .val (.int (4 : Int32)), .val (.int (2 : Int32))] [])) _
      refine XS.iloadN X5.here hx rfl (hb hby fal_12) rfl ?_
      show Steps p.tables e below (T5.setTop (mkF m 13 #[.val (.ref a1), .val (.int p2), .val (.int (3 : Int32)), .val (.int (4 : Int32)), .val (.int (2 : Int32))] [(.int (3 : Int32))])) _
      refine XS.iloadN X5.here hx rfl (hb hby fal_13) rfl ?_
      show Steps p.tables e below (T5.setTop (mkF m 14 #[.val (.ref a1), .val (.int p2), .val (.int (3 : Int32)), .val (.int (4 : Int32)), .val (.int (2 : Int32))] [(.int (4 : Int32)), (.int (3 : Int32))])) _
      refine XS.iadd X5.here hx rfl (hb hby fal_14) rfl ?_
      show Steps p.tables e below (T5.setTop (mkF m 15 #[.val (.ref a1), .val (.int p2), .val (.int (3 : Int32)), .val (.int (4 : Int32)), .val (.int (2 : Int32))] [(.int (7 : Int32))])) _
      refine XS.iconst X5.here hx rfl (hb hby fal_15) ?_
      show Steps p.tables e below (T5.setTop (mkF m 16 #[.val (.ref a1), .val (.int p2), .val (.int (3 : Int32)), .val (.int (4 : Int32)), .val (.int (2 : Int32))] [(.int (1 : Int32)), (.int (7 : Int32))])) _
      refine XS.iushr X5.here hx rfl (hb hby fal_16) rfl ?_
      show Steps p.tables e below (T5.setTop (mkF m 17 #[.val (.ref a1), .val (.int p2), .val (.int (3 : Int32)), .val (.int (4 : Int32)), .val (.int (2 : Int32))] [(.int (3 : Int32))])) _
      refine XS.istore X5.here hx rfl (hb hby fal_17) rfl (l' := #[.val (.ref a1), .val (.int p2), .val (.int (3 : Int32)), .val (.int (4 : Int32)), .val (.int (3 : Int32))]) rfl ?_
      show Steps p.tables e below (T5.setTop (mkF m 19 #[.val (.ref a1), .val (.int p2), .val (.int (3 : Int32)), .val (.int (4 : Int32)), .val (.int (3 : Int32))] [])) _
      refine XS.aloadN X5.here hx rfl (hb hby fal_19) rfl rfl ?_
      exact k)
    obtain ⟨T13, X13, e13, st13⟩ := getF X5 hx hZ hown (host := "") (Or.inl (hw _ (List.mem_of_getElem? (i := 17) rfl))) Via.refl e5 F1 (g := (mkF m 20 #[.val (.ref a1), .val (.int p2), .val (.int (3 : Int32)), .val (.int (4 : Int32)), .val (.int (3 : Int32))] [(.ref a1)])) rfl rfl (hb hby fal_20)
    have go14 : ∀ t, Steps p.tables e below (T13.setTop (mkF m 23 #[.val (.ref a1), .val (.int p2), .val (.int (3 : Int32)), .val (.int (4 : Int32)), .val (.int (3 : Int32))] [(.ref b)])) t → Steps p.tables e below (s₁.setTop (entryFrame m #[(.ref a1), (.int p2)] 5)) t := fun t k => go12 t (st13 t k)
    have go16 : ∀ t, Steps p.tables e below (T13.setTop (mkF m 25 #[.val (.ref a1), .val (.int p2), .val (.int (3 : Int32)), .val (.int (4 : Int32)), .val (.int (3 : Int32))] [(.int (3 : Int32)), (.ref b)])) t → Steps p.tables e below (s₁.setTop (entryFrame m #[(.ref a1), (.int p2)] 5)) t := fun t k => go14 t (by
      show Steps p.tables e below (T13.setTop (mkF m 23 #[.val (.ref a1), .val (.int p2), .val (.int (3 : Int32)), .val (.int (4 : Int32)), .val (.int (3 : Int32))] [(.ref b)])) _
      refine XS.iload X13.here hx rfl (hb hby fal_23) rfl ?_
      exact k)
    obtain ⟨cl15, Ar15, q15, S15, M15, H15, G15⟩ := id V1
    have go17 : ∀ t, Steps p.tables e below (T13.setTop (mkF m 26 #[.val (.ref a1), .val (.int p2), .val (.int (3 : Int32)), .val (.int (4 : Int32)), .val (.int (3 : Int32))] [(.int x3)])) t → Steps p.tables e below (s₁.setTop (entryFrame m #[(.ref a1), (.int p2)] 5)) t := fun t k => go16 t (by
      show Steps p.tables e below (T13.setTop (mkF m 25 #[.val (.ref a1), .val (.int p2), .val (.int (3 : Int32)), .val (.int (4 : Int32)), .val (.int (3 : Int32))] [(.int (3 : Int32)), (.ref b)])) _
      refine X13.iaload hx (j := (3 : Int32)) (v := (.int x3)) (by rw [e13]; exact Ar15.1) (State.isArrayOf_alike hZ.alike Ar15.2.1) Ar15.2.2 (inb_of S15 ⟨by decide, by decide⟩) (H15.at (inb_of S15 ⟨by decide, by decide⟩) rfl) (g := (mkF m 25 #[.val (.ref a1), .val (.int p2), .val (.int (3 : Int32)), .val (.int (4 : Int32)), .val (.int (3 : Int32))] [(.int (3 : Int32)), (.ref b)])) rfl rfl (hb hby fal_25) _ ?_
      exact k)
    have go18 : ∀ t, Steps p.tables e below (T13.setTop (mkF m 27 #[.val (.ref a1), .val (.int p2), .val (.int (3 : Int32)), .val (.int (4 : Int32)), .val (.int (3 : Int32))] [(.int p2), (.int x3)])) t → Steps p.tables e below (s₁.setTop (entryFrame m #[(.ref a1), (.int p2)] 5)) t := fun t k => go17 t (by
      show Steps p.tables e below (T13.setTop (mkF m 26 #[.val (.ref a1), .val (.int p2), .val (.int (3 : Int32)), .val (.int (4 : Int32)), .val (.int (3 : Int32))] [(.int x3)])) _
      refine XS.iloadN X13.here hx rfl (hb hby fal_26) rfl ?_
      exact k)
    by_cases hc19 : x3 < p2
    · have go20 : ∀ t, Steps p.tables e below (T13.setTop (mkF m 45 #[.val (.ref a1), .val (.int p2), .val (.int (4 : Int32)), .val (.int (4 : Int32)), .val (.int (3 : Int32))] [(.int (4 : Int32))])) t → Steps p.tables e below (s₁.setTop (entryFrame m #[(.ref a1), (.int p2)] 5)) t := fun t k => go18 t (by
        show Steps p.tables e below (T13.setTop (mkF m 27 #[.val (.ref a1), .val (.int p2), .val (.int (3 : Int32)), .val (.int (4 : Int32)), .val (.int (3 : Int32))] [(.int p2), (.int x3)])) _
        refine XS.icmpNo X13.here hx rfl (hb hby fal_27) rfl (tlt hc19).2.1 ?_
        show Steps p.tables e below (T13.setTop (mkF m 30 #[.val (.ref a1), .val (.int p2), .val (.int (3 : Int32)), .val (.int (4 : Int32)), .val (.int (3 : Int32))] [])) _
        refine XS.iload X13.here hx rfl (hb hby fal_30) rfl ?_
        show Steps p.tables e below (T13.setTop (mkF m 32 #[.val (.ref a1), .val (.int p2), .val (.int (3 : Int32)), .val (.int (4 : Int32)), .val (.int (3 : Int32))] [(.int (3 : Int32))])) _
        refine XS.iconst X13.here hx rfl (hb hby fal_32) ?_
        show Steps p.tables e below (T13.setTop (mkF m 33 #[.val (.ref a1), .val (.int p2), .val (.int (3 : Int32)), .val (.int (4 : Int32)), .val (.int (3 : Int32))] [(.int (1 : Int32)), (.int (3 : Int32))])) _
        refine XS.iadd X13.here hx rfl (hb hby fal_33) rfl ?_
        show Steps p.tables e below (T13.setTop (mkF m 34 #[.val (.ref a1), .val (.int p2), .val (.int (3 : Int32)), .val (.int (4 : Int32)), .val (.int (3 : Int32))] [(.int (4 : Int32))])) _
        refine XS.istoreN X13.here hx rfl (hb hby fal_34) rfl (l' := #[.val (.ref a1), .val (.int p2), .val (.int (4 : Int32)), .val (.int (4 : Int32)), .val (.int (3 : Int32))]) rfl ?_
        show Steps p.tables e below (T13.setTop (mkF m 35 #[.val (.ref a1), .val (.int p2), .val (.int (4 : Int32)), .val (.int (4 : Int32)), .val (.int (3 : Int32))] [])) _
        refine XS.goto X13.here hx rfl (pc0 := 35) (pc' := 41) rfl (hb hby fal_35) (by decide) (by decide) ?_
        show Steps p.tables e below (T13.setTop (mkF m 41 #[.val (.ref a1), .val (.int p2), .val (.int (4 : Int32)), .val (.int (4 : Int32)), .val (.int (3 : Int32))] [])) _
        refine XS.goto X13.here hx rfl (pc0 := 41) (pc' := 7) rfl (hb hby fal_41) (by decide) (by decide) ?_
        show Steps p.tables e below (T13.setTop (mkF m 7 #[.val (.ref a1), .val (.int p2), .val (.int (4 : Int32)), .val (.int (4 : Int32)), .val (.int (3 : Int32))] [])) _
        refine XS.iloadN X13.here hx rfl (hb hby fal_7) rfl ?_
        show Steps p.tables e below (T13.setTop (mkF m 8 #[.val (.ref a1), .val (.int p2), .val (.int (4 : Int32)), .val (.int (4 : Int32)), .val (.int (3 : Int32))] [(.int (4 : Int32))])) _
        refine XS.iloadN X13.here hx rfl (hb hby fal_8) rfl ?_
        show Steps p.tables e below (T13.setTop (mkF m 9 #[.val (.ref a1), .val (.int p2), .val (.int (4 : Int32)), .val (.int (4 : Int32)), .val (.int (3 : Int32))] [(.int (4 : Int32)), (.int (4 : Int32))])) _
        refine XS.icmpYes X13.here hx rfl (pc0 := 9) (pc' := 44) rfl (hb hby fal_9) rfl (flt (by decide : ¬ ((4 : Int32) < (4 : Int32)))).2.1 (by decide) (by decide) ?_
        show Steps p.tables e below (T13.setTop (mkF m 44 #[.val (.ref a1), .val (.int p2), .val (.int (4 : Int32)), .val (.int (4 : Int32)), .val (.int (3 : Int32))] [])) _
        refine XS.iloadN X13.here hx rfl (hb hby fal_44) rfl ?_
        exact k)
      obtain ⟨fs, hr, hrun, hended, hW, hsame⟩ := X13.leave (v := some (.int (4 : Int32))) (fun h => by rw [Bd.returns] at h; cases h)
      refine ⟨_, _, go20 _ ?_, hrun, hended, _, _, rfl, ?_, ⟨_, rfl⟩, hW, hsame.mono (by decide) (by decide)⟩
      · exact retI X13 hx Bd.returns (hb hby fal_45) hr
      · show QV (.int (own_fal4 p2 x0 x1 x2 x3)) h0 n0 _ T13.heap _
        rw [e13]
        exact ⟨congrArg some (congrArg Value.int (Eq.symm (show (own_fal4 p2 x0 x1 x2 x3) = (4 : Int32) from by unfold own_fal4; rw [if_pos hc11, if_pos hc19]))), N0, rfl⟩
    · have go21 : ∀ t, Steps p.tables e below (T13.setTop (mkF m 45 #[.val (.ref a1), .val (.int p2), .val (.int (3 : Int32)), .val (.int (3 : Int32)), .val (.int (3 : Int32))] [(.int (3 : Int32))])) t → Steps p.tables e below (s₁.setTop (entryFrame m #[(.ref a1), (.int p2)] 5)) t := fun t k => go18 t (by
        show Steps p.tables e below (T13.setTop (mkF m 27 #[.val (.ref a1), .val (.int p2), .val (.int (3 : Int32)), .val (.int (4 : Int32)), .val (.int (3 : Int32))] [(.int p2), (.int x3)])) _
        refine XS.icmpYes X13.here hx rfl (pc0 := 27) (pc' := 38) rfl (hb hby fal_27) rfl (flt hc19).2.1 (by decide) (by decide) ?_
        show Steps p.tables e below (T13.setTop (mkF m 38 #[.val (.ref a1), .val (.int p2), .val (.int (3 : Int32)), .val (.int (4 : Int32)), .val (.int (3 : Int32))] [])) _
        refine XS.iload X13.here hx rfl (hb hby fal_38) rfl ?_
        show Steps p.tables e below (T13.setTop (mkF m 40 #[.val (.ref a1), .val (.int p2), .val (.int (3 : Int32)), .val (.int (4 : Int32)), .val (.int (3 : Int32))] [(.int (3 : Int32))])) _
        refine XS.istoreN X13.here hx rfl (hb hby fal_40) rfl (l' := #[.val (.ref a1), .val (.int p2), .val (.int (3 : Int32)), .val (.int (3 : Int32)), .val (.int (3 : Int32))]) rfl ?_
        show Steps p.tables e below (T13.setTop (mkF m 41 #[.val (.ref a1), .val (.int p2), .val (.int (3 : Int32)), .val (.int (3 : Int32)), .val (.int (3 : Int32))] [])) _
        refine XS.goto X13.here hx rfl (pc0 := 41) (pc' := 7) rfl (hb hby fal_41) (by decide) (by decide) ?_
        show Steps p.tables e below (T13.setTop (mkF m 7 #[.val (.ref a1), .val (.int p2), .val (.int (3 : Int32)), .val (.int (3 : Int32)), .val (.int (3 : Int32))] [])) _
        refine XS.iloadN X13.here hx rfl (hb hby fal_7) rfl ?_
        show Steps p.tables e below (T13.setTop (mkF m 8 #[.val (.ref a1), .val (.int p2), .val (.int (3 : Int32)), .val (.int (3 : Int32)), .val (.int (3 : Int32))] [(.int (3 : Int32))])) _
        refine XS.iloadN X13.here hx rfl (hb hby fal_8) rfl ?_
        show Steps p.tables e below (T13.setTop (mkF m 9 #[.val (.ref a1), .val (.int p2), .val (.int (3 : Int32)), .val (.int (3 : Int32)), .val (.int (3 : Int32))] [(.int (3 : Int32)), (.int (3 : Int32))])) _
        refine XS.icmpYes X13.here hx rfl (pc0 := 9) (pc' := 44) rfl (hb hby fal_9) rfl (flt (by decide : ¬ ((3 : Int32) < (3 : Int32)))).2.1 (by decide) (by decide) ?_
        show Steps p.tables e below (T13.setTop (mkF m 44 #[.val (.ref a1), .val (.int p2), .val (.int (3 : Int32)), .val (.int (3 : Int32)), .val (.int (3 : Int32))] [])) _
        refine XS.iloadN X13.here hx rfl (hb hby fal_44) rfl ?_
        exact k)
      obtain ⟨fs, hr, hrun, hended, hW, hsame⟩ := X13.leave (v := some (.int (3 : Int32))) (fun h => by rw [Bd.returns] at h; cases h)
      refine ⟨_, _, go21 _ ?_, hrun, hended, _, _, rfl, ?_, ⟨_, rfl⟩, hW, hsame.mono (by decide) (by decide)⟩
      · exact retI X13 hx Bd.returns (hb hby fal_45) hr
      · show QV (.int (own_fal4 p2 x0 x1 x2 x3)) h0 n0 _ T13.heap _
        rw [e13]
        exact ⟨congrArg some (congrArg Value.int (Eq.symm (show (own_fal4 p2 x0 x1 x2 x3) = (3 : Int32) from by unfold own_fal4; rw [if_pos hc11, if_neg hc19]))), N0, rfl⟩
  · have go22 : ∀ t, Steps p.tables e below (T5.setTop (mkF m 20 #[.val (.ref a1), .val (.int p2), .val (.int (0 : Int32)), .val (.int (2 : Int32)), .val (.int (1 : Int32))] [(.ref a1)])) t → Steps p.tables e below (s₁.setTop (entryFrame m #[(.ref a1), (.int p2)] 5)) t := fun t k => go10 t (by
      show Steps p.tables e below (T5.setTop (mkF m 27 #[.val (.ref a1), .val (.int p2), .val (.int (0 : Int32)), .val (.int (4 : Int32)), .val (.int (2 : Int32))] [(.int p2), (.int x2)])) _
      refine XS.icmpYes X5.here hx rfl (pc0 := 27) (pc' := 38) rfl (hb hby fal_27) rfl (flt hc11).2.1 (by decide) (by decide) ?_
      show Steps p.tables e below (T5.setTop (mkF m 38 #[.val (.ref a1), .val (.int p2), .val (.int (0 : Int32)), .val (.int (4 : Int32)), .val (.int (2 : Int32))] [])) _
      refine XS.iload X5.here hx rfl (hb hby fal_38) rfl ?_
      show Steps p.tables e below (T5.setTop (mkF m 40 #[.val (.ref a1), .val (.int p2), .val (.int (0 : Int32)), .val (.int (4 : Int32)), .val (.int (2 : Int32))] [(.int (2 : Int32))])) _
      refine XS.istoreN X5.here hx rfl (hb hby fal_40) rfl (l' := #[.val (.ref a1), .val (.int p2), .val (.int (0 : Int32)), .val (.int (2 : Int32)), .val (.int (2 : Int32))]) rfl ?_
      show Steps p.tables e below (T5.setTop (mkF m 41 #[.val (.ref a1), .val (.int p2), .val (.int (0 : Int32)), .val (.int (2 : Int32)), .val (.int (2 : Int32))] [])) _
      refine XS.goto X5.here hx rfl (pc0 := 41) (pc' := 7) rfl (hb hby fal_41) (by decide) (by decide) ?_
      show Steps p.tables e below (T5.setTop (mkF m 7 #[.val (.ref a1), .val (.int p2), .val (.int (0 : Int32)), .val (.int (2 : Int32)), .val (.int (2 : Int32))] [])) _
      refine XS.iloadN X5.here hx rfl (hb hby fal_7) rfl ?_
      show Steps p.tables e below (T5.setTop (mkF m 8 #[.val (.ref a1), .val (.int p2), .val (.int (0 : Int32)), .val (.int (2 : Int32)), .val (.int (2 : Int32))] [(.int (0 : Int32))])) _
      refine XS.iloadN X5.here hx rfl (hb hby fal_8) rfl ?_
      show Steps p.tables e below (T5.setTop (mkF m 9 #[.val (.ref a1), .val (.int p2), .val (.int (0 : Int32)), .val (.int (2 : Int32)), .val (.int (2 : Int32))] [(.int (2 : Int32)), (.int (0 : Int32))])) _
      refine XS.icmpNo X5.here hx rfl (hb hby fal_9) rfl (tlt (by decide : (0 : Int32) < (2 : Int32))).2.1 ?_
      show Steps p.tables e below (T5.setTop (mkF m 12 #[.val (.ref a1), .val (.int p2), .val (.int (0 : Int32)), .val (.int (2 : Int32)), .val (.int (2 : Int32))] [])) _
      refine XS.iloadN X5.here hx rfl (hb hby fal_12) rfl ?_
      show Steps p.tables e below (T5.setTop (mkF m 13 #[.val (.ref a1), .val (.int p2), .val (.int (0 : Int32)), .val (.int (2 : Int32)), .val (.int (2 : Int32))] [(.int (0 : Int32))])) _
      refine XS.iloadN X5.here hx rfl (hb hby fal_13) rfl ?_
      show Steps p.tables e below (T5.setTop (mkF m 14 #[.val (.ref a1), .val (.int p2), .val (.int (0 : Int32)), .val (.int (2 : Int32)), .val (.int (2 : Int32))] [(.int (2 : Int32)), (.int (0 : Int32))])) _
      refine XS.iadd X5.here hx rfl (hb hby fal_14) rfl ?_
      show Steps p.tables e below (T5.setTop (mkF m 15 #[.val (.ref a1), .val (.int p2), .val (.int (0 : Int32)), .val (.int (2 : Int32)), .val (.int (2 : Int32))] [(.int (2 : Int32))])) _
      refine XS.iconst X5.here hx rfl (hb hby fal_15) ?_
      show Steps p.tables e below (T5.setTop (mkF m 16 #[.val (.ref a1), .val (.int p2), .val (.int (0 : Int32)), .val (.int (2 : Int32)), .val (.int (2 : Int32))] [(.int (1 : Int32)), (.int (2 : Int32))])) _
      refine XS.iushr X5.here hx rfl (hb hby fal_16) rfl ?_
      show Steps p.tables e below (T5.setTop (mkF m 17 #[.val (.ref a1), .val (.int p2), .val (.int (0 : Int32)), .val (.int (2 : Int32)), .val (.int (2 : Int32))] [(.int (1 : Int32))])) _
      refine XS.istore X5.here hx rfl (hb hby fal_17) rfl (l' := #[.val (.ref a1), .val (.int p2), .val (.int (0 : Int32)), .val (.int (2 : Int32)), .val (.int (1 : Int32))]) rfl ?_
      show Steps p.tables e below (T5.setTop (mkF m 19 #[.val (.ref a1), .val (.int p2), .val (.int (0 : Int32)), .val (.int (2 : Int32)), .val (.int (1 : Int32))] [])) _
      refine XS.aloadN X5.here hx rfl (hb hby fal_19) rfl rfl ?_
      exact k)
    obtain ⟨T23, X23, e23, st23⟩ := getF X5 hx hZ hown (host := "") (Or.inl (hw _ (List.mem_of_getElem? (i := 17) rfl))) Via.refl e5 F1 (g := (mkF m 20 #[.val (.ref a1), .val (.int p2), .val (.int (0 : Int32)), .val (.int (2 : Int32)), .val (.int (1 : Int32))] [(.ref a1)])) rfl rfl (hb hby fal_20)
    have go24 : ∀ t, Steps p.tables e below (T23.setTop (mkF m 23 #[.val (.ref a1), .val (.int p2), .val (.int (0 : Int32)), .val (.int (2 : Int32)), .val (.int (1 : Int32))] [(.ref b)])) t → Steps p.tables e below (s₁.setTop (entryFrame m #[(.ref a1), (.int p2)] 5)) t := fun t k => go22 t (st23 t k)
    have go26 : ∀ t, Steps p.tables e below (T23.setTop (mkF m 25 #[.val (.ref a1), .val (.int p2), .val (.int (0 : Int32)), .val (.int (2 : Int32)), .val (.int (1 : Int32))] [(.int (1 : Int32)), (.ref b)])) t → Steps p.tables e below (s₁.setTop (entryFrame m #[(.ref a1), (.int p2)] 5)) t := fun t k => go24 t (by
      show Steps p.tables e below (T23.setTop (mkF m 23 #[.val (.ref a1), .val (.int p2), .val (.int (0 : Int32)), .val (.int (2 : Int32)), .val (.int (1 : Int32))] [(.ref b)])) _
      refine XS.iload X23.here hx rfl (hb hby fal_23) rfl ?_
      exact k)
    obtain ⟨cl25, Ar25, q25, S25, M25, H25, G25⟩ := id V1
    have go27 : ∀ t, Steps p.tables e below (T23.setTop (mkF m 26 #[.val (.ref a1), .val (.int p2), .val (.int (0 : Int32)), .val (.int (2 : Int32)), .val (.int (1 : Int32))] [(.int x1)])) t → Steps p.tables e below (s₁.setTop (entryFrame m #[(.ref a1), (.int p2)] 5)) t := fun t k => go26 t (by
      show Steps p.tables e below (T23.setTop (mkF m 25 #[.val (.ref a1), .val (.int p2), .val (.int (0 : Int32)), .val (.int (2 : Int32)), .val (.int (1 : Int32))] [(.int (1 : Int32)), (.ref b)])) _
      refine X23.iaload hx (j := (1 : Int32)) (v := (.int x1)) (by rw [e23]; exact Ar25.1) (State.isArrayOf_alike hZ.alike Ar25.2.1) Ar25.2.2 (inb_of S25 ⟨by decide, by decide⟩) (H25.at (inb_of S25 ⟨by decide, by decide⟩) rfl) (g := (mkF m 25 #[.val (.ref a1), .val (.int p2), .val (.int (0 : Int32)), .val (.int (2 : Int32)), .val (.int (1 : Int32))] [(.int (1 : Int32)), (.ref b)])) rfl rfl (hb hby fal_25) _ ?_
      exact k)
    have go28 : ∀ t, Steps p.tables e below (T23.setTop (mkF m 27 #[.val (.ref a1), .val (.int p2), .val (.int (0 : Int32)), .val (.int (2 : Int32)), .val (.int (1 : Int32))] [(.int p2), (.int x1)])) t → Steps p.tables e below (s₁.setTop (entryFrame m #[(.ref a1), (.int p2)] 5)) t := fun t k => go27 t (by
      show Steps p.tables e below (T23.setTop (mkF m 26 #[.val (.ref a1), .val (.int p2), .val (.int (0 : Int32)), .val (.int (2 : Int32)), .val (.int (1 : Int32))] [(.int x1)])) _
      refine XS.iloadN X23.here hx rfl (hb hby fal_26) rfl ?_
      exact k)
    by_cases hc29 : x1 < p2
    · have go30 : ∀ t, Steps p.tables e below (T23.setTop (mkF m 45 #[.val (.ref a1), .val (.int p2), .val (.int (2 : Int32)), .val (.int (2 : Int32)), .val (.int (1 : Int32))] [(.int (2 : Int32))])) t → Steps p.tables e below (s₁.setTop (entryFrame m #[(.ref a1), (.int p2)] 5)) t := fun t k => go28 t (by
        show Steps p.tables e below (T23.setTop (mkF m 27 #[.val (.ref a1), .val (.int p2), .val (.int (0 : Int32)), .val (.int (2 : Int32)), .val (.int (1 : Int32))] [(.int p2), (.int x1)])) _
        refine XS.icmpNo X23.here hx rfl (hb hby fal_27) rfl (tlt hc29).2.1 ?_
        show Steps p.tables e below (T23.setTop (mkF m 30 #[.val (.ref a1), .val (.int p2), .val (.int (0 : Int32)), .val (.int (2 : Int32)), .val (.int (1 : Int32))] [])) _
        refine XS.iload X23.here hx rfl (hb hby fal_30) rfl ?_
        show Steps p.tables e below (T23.setTop (mkF m 32 #[.val (.ref a1), .val (.int p2), .val (.int (0 : Int32)), .val (.int (2 : Int32)), .val (.int (1 : Int32))] [(.int (1 : Int32))])) _
        refine XS.iconst X23.here hx rfl (hb hby fal_32) ?_
        show Steps p.tables e below (T23.setTop (mkF m 33 #[.val (.ref a1), .val (.int p2), .val (.int (0 : Int32)), .val (.int (2 : Int32)), .val (.int (1 : Int32))] [(.int (1 : Int32)), (.int (1 : Int32))])) _
        refine XS.iadd X23.here hx rfl (hb hby fal_33) rfl ?_
        show Steps p.tables e below (T23.setTop (mkF m 34 #[.val (.ref a1), .val (.int p2), .val (.int (0 : Int32)), .val (.int (2 : Int32)), .val (.int (1 : Int32))] [(.int (2 : Int32))])) _
        refine XS.istoreN X23.here hx rfl (hb hby fal_34) rfl (l' := #[.val (.ref a1), .val (.int p2), .val (.int (2 : Int32)), .val (.int (2 : Int32)), .val (.int (1 : Int32))]) rfl ?_
        show Steps p.tables e below (T23.setTop (mkF m 35 #[.val (.ref a1), .val (.int p2), .val (.int (2 : Int32)), .val (.int (2 : Int32)), .val (.int (1 : Int32))] [])) _
        refine XS.goto X23.here hx rfl (pc0 := 35) (pc' := 41) rfl (hb hby fal_35) (by decide) (by decide) ?_
        show Steps p.tables e below (T23.setTop (mkF m 41 #[.val (.ref a1), .val (.int p2), .val (.int (2 : Int32)), .val (.int (2 : Int32)), .val (.int (1 : Int32))] [])) _
        refine XS.goto X23.here hx rfl (pc0 := 41) (pc' := 7) rfl (hb hby fal_41) (by decide) (by decide) ?_
        show Steps p.tables e below (T23.setTop (mkF m 7 #[.val (.ref a1), .val (.int p2), .val (.int (2 : Int32)), .val (.int (2 : Int32)), .val (.int (1 : Int32))] [])) _
        refine XS.iloadN X23.here hx rfl (hb hby fal_7) rfl ?_
        show Steps p.tables e below (T23.setTop (mkF m 8 #[.val (.ref a1), .val (.int p2), .val (.int (2 : Int32)), .val (.int (2 : Int32)), .val (.int (1 : Int32))] [(.int (2 : Int32))])) _
        refine XS.iloadN X23.here hx rfl (hb hby fal_8) rfl ?_
        show Steps p.tables e below (T23.setTop (mkF m 9 #[.val (.ref a1), .val (.int p2), .val (.int (2 : Int32)), .val (.int (2 : Int32)), .val (.int (1 : Int32))] [(.int (2 : Int32)), (.int (2 : Int32))])) _
        refine XS.icmpYes X23.here hx rfl (pc0 := 9) (pc' := 44) rfl (hb hby fal_9) rfl (flt (by decide : ¬ ((2 : Int32) < (2 : Int32)))).2.1 (by decide) (by decide) ?_
        show Steps p.tables e below (T23.setTop (mkF m 44 #[.val (.ref a1), .val (.int p2), .val (.int (2 : Int32)), .val (.int (2 : Int32)), .val (.int (1 : Int32))] [])) _
        refine XS.iloadN X23.here hx rfl (hb hby fal_44) rfl ?_
        exact k)
      obtain ⟨fs, hr, hrun, hended, hW, hsame⟩ := X23.leave (v := some (.int (2 : Int32))) (fun h => by rw [Bd.returns] at h; cases h)
      refine ⟨_, _, go30 _ ?_, hrun, hended, _, _, rfl, ?_, ⟨_, rfl⟩, hW, hsame.mono (by decide) (by decide)⟩
      · exact retI X23 hx Bd.returns (hb hby fal_45) hr
      · show QV (.int (own_fal4 p2 x0 x1 x2 x3)) h0 n0 _ T23.heap _
        rw [e23]
        exact ⟨congrArg some (congrArg Value.int (Eq.symm (show (own_fal4 p2 x0 x1 x2 x3) = (2 : Int32) from by unfold own_fal4; rw [if_neg hc11, if_pos hc29]))), N0, rfl⟩
    · have go31 : ∀ t, Steps p.tables e below (T23.setTop (mkF m 20 #[.val (.ref a1), .val (.int p2), .val (.int (0 : Int32)), .val (.int (1 : Int32)), .val (.int (0 : Int32))] [(.ref a1)])) t → Steps p.tables e below (s₁.setTop (entryFrame m #[(.ref a1), (.int p2)] 5)) t := fun t k => go28 t (by
        show Steps p.tables e below (T23.setTop (mkF m 27 #[.val (.ref a1), .val (.int p2), .val (.int (0 : Int32)), .val (.int (2 : Int32)), .val (.int (1 : Int32))] [(.int p2), (.int x1)])) _
        refine XS.icmpYes X23.here hx rfl (pc0 := 27) (pc' := 38) rfl (hb hby fal_27) rfl (flt hc29).2.1 (by decide) (by decide) ?_
        show Steps p.tables e below (T23.setTop (mkF m 38 #[.val (.ref a1), .val (.int p2), .val (.int (0 : Int32)), .val (.int (2 : Int32)), .val (.int (1 : Int32))] [])) _
        refine XS.iload X23.here hx rfl (hb hby fal_38) rfl ?_
        show Steps p.tables e below (T23.setTop (mkF m 40 #[.val (.ref a1), .val (.int p2), .val (.int (0 : Int32)), .val (.int (2 : Int32)), .val (.int (1 : Int32))] [(.int (1 : Int32))])) _
        refine XS.istoreN X23.here hx rfl (hb hby fal_40) rfl (l' := #[.val (.ref a1), .val (.int p2), .val (.int (0 : Int32)), .val (.int (1 : Int32)), .val (.int (1 : Int32))]) rfl ?_
        show Steps p.tables e below (T23.setTop (mkF m 41 #[.val (.ref a1), .val (.int p2), .val (.int (0 : Int32)), .val (.int (1 : Int32)), .val (.int (1 : Int32))] [])) _
        refine XS.goto X23.here hx rfl (pc0 := 41) (pc' := 7) rfl (hb hby fal_41) (by decide) (by decide) ?_
        show Steps p.tables e below (T23.setTop (mkF m 7 #[.val (.ref a1), .val (.int p2), .val (.int (0 : Int32)), .val (.int (1 : Int32)), .val (.int (1 : Int32))] [])) _
        refine XS.iloadN X23.here hx rfl (hb hby fal_7) rfl ?_
        show Steps p.tables e below (T23.setTop (mkF m 8 #[.val (.ref a1), .val (.int p2), .val (.int (0 : Int32)), .val (.int (1 : Int32)), .val (.int (1 : Int32))] [(.int (0 : Int32))])) _
        refine XS.iloadN X23.here hx rfl (hb hby fal_8) rfl ?_
        show Steps p.tables e below (T23.setTop (mkF m 9 #[.val (.ref a1), .val (.int p2), .val (.int (0 : Int32)), .val (.int (1 : Int32)), .val (.int (1 : Int32))] [(.int (1 : Int32)), (.int (0 : Int32))])) _
        refine XS.icmpNo X23.here hx rfl (hb hby fal_9) rfl (tlt (by decide : (0 : Int32) < (1 : Int32))).2.1 ?_
        show Steps p.tables e below (T23.setTop (mkF m 12 #[.val (.ref a1), .val (.int p2), .val (.int (0 : Int32)), .val (.int (1 : Int32)), .val (.int (1 : Int32))] [])) _
        refine XS.iloadN X23.here hx rfl (hb hby fal_12) rfl ?_
        show Steps p.tables e below (T23.setTop (mkF m 13 #[.val (.ref a1), .val (.int p2), .val (.int (0 : Int32)), .val (.int (1 : Int32)), .val (.int (1 : Int32))] [(.int (0 : Int32))])) _
        refine XS.iloadN X23.here hx rfl (hb hby fal_13) rfl ?_
        show Steps p.tables e below (T23.setTop (mkF m 14 #[.val (.ref a1), .val (.int p2), .val (.int (0 : Int32)), .val (.int (1 : Int32)), .val (.int (1 : Int32))] [(.int (1 : Int32)), (.int (0 : Int32))])) _
        refine XS.iadd X23.here hx rfl (hb hby fal_14) rfl ?_
        show Steps p.tables e below (T23.setTop (mkF m 15 #[.val (.ref a1), .val (.int p2), .val (.int (0 : Int32)), .val (.int (1 : Int32)), .val (.int (1 : Int32))] [(.int (1 : Int32))])) _
        refine XS.iconst X23.here hx rfl (hb hby fal_15) ?_
        show Steps p.tables e below (T23.setTop (mkF m 16 #[.val (.ref a1), .val (.int p2), .val (.int (0 : Int32)), .val (.int (1 : Int32)), .val (.int (1 : Int32))] [(.int (1 : Int32)), (.int (1 : Int32))])) _
        refine XS.iushr X23.here hx rfl (hb hby fal_16) rfl ?_
        show Steps p.tables e below (T23.setTop (mkF m 17 #[.val (.ref a1), .val (.int p2), .val (.int (0 : Int32)), .val (.int (1 : Int32)), .val (.int (1 : Int32))] [(.int (0 : Int32))])) _
        refine XS.istore X23.here hx rfl (hb hby fal_17) rfl (l' := #[.val (.ref a1), .val (.int p2), .val (.int (0 : Int32)), .val (.int (1 : Int32)), .val (.int (0 : Int32))]) rfl ?_
        show Steps p.tables e below (T23.setTop (mkF m 19 #[.val (.ref a1), .val (.int p2), .val (.int (0 : Int32)), .val (.int (1 : Int32)), .val (.int (0 : Int32))] [])) _
        refine XS.aloadN X23.here hx rfl (hb hby fal_19) rfl rfl ?_
        exact k)
      obtain ⟨T32, X32, e32, st32⟩ := getF X23 hx hZ hown (host := "") (Or.inl (hw _ (List.mem_of_getElem? (i := 17) rfl))) Via.refl e23 F1 (g := (mkF m 20 #[.val (.ref a1), .val (.int p2), .val (.int (0 : Int32)), .val (.int (1 : Int32)), .val (.int (0 : Int32))] [(.ref a1)])) rfl rfl (hb hby fal_20)
      have go33 : ∀ t, Steps p.tables e below (T32.setTop (mkF m 23 #[.val (.ref a1), .val (.int p2), .val (.int (0 : Int32)), .val (.int (1 : Int32)), .val (.int (0 : Int32))] [(.ref b)])) t → Steps p.tables e below (s₁.setTop (entryFrame m #[(.ref a1), (.int p2)] 5)) t := fun t k => go31 t (st32 t k)
      have go35 : ∀ t, Steps p.tables e below (T32.setTop (mkF m 25 #[.val (.ref a1), .val (.int p2), .val (.int (0 : Int32)), .val (.int (1 : Int32)), .val (.int (0 : Int32))] [(.int (0 : Int32)), (.ref b)])) t → Steps p.tables e below (s₁.setTop (entryFrame m #[(.ref a1), (.int p2)] 5)) t := fun t k => go33 t (by
        show Steps p.tables e below (T32.setTop (mkF m 23 #[.val (.ref a1), .val (.int p2), .val (.int (0 : Int32)), .val (.int (1 : Int32)), .val (.int (0 : Int32))] [(.ref b)])) _
        refine XS.iload X32.here hx rfl (hb hby fal_23) rfl ?_
        exact k)
      obtain ⟨cl34, Ar34, q34, S34, M34, H34, G34⟩ := id V1
      have go36 : ∀ t, Steps p.tables e below (T32.setTop (mkF m 26 #[.val (.ref a1), .val (.int p2), .val (.int (0 : Int32)), .val (.int (1 : Int32)), .val (.int (0 : Int32))] [(.int x0)])) t → Steps p.tables e below (s₁.setTop (entryFrame m #[(.ref a1), (.int p2)] 5)) t := fun t k => go35 t (by
        show Steps p.tables e below (T32.setTop (mkF m 25 #[.val (.ref a1), .val (.int p2), .val (.int (0 : Int32)), .val (.int (1 : Int32)), .val (.int (0 : Int32))] [(.int (0 : Int32)), (.ref b)])) _
        refine X32.iaload hx (j := (0 : Int32)) (v := (.int x0)) (by rw [e32]; exact Ar34.1) (State.isArrayOf_alike hZ.alike Ar34.2.1) Ar34.2.2 (inb_of S34 ⟨by decide, by decide⟩) (H34.at (inb_of S34 ⟨by decide, by decide⟩) rfl) (g := (mkF m 25 #[.val (.ref a1), .val (.int p2), .val (.int (0 : Int32)), .val (.int (1 : Int32)), .val (.int (0 : Int32))] [(.int (0 : Int32)), (.ref b)])) rfl rfl (hb hby fal_25) _ ?_
        exact k)
      have go37 : ∀ t, Steps p.tables e below (T32.setTop (mkF m 27 #[.val (.ref a1), .val (.int p2), .val (.int (0 : Int32)), .val (.int (1 : Int32)), .val (.int (0 : Int32))] [(.int p2), (.int x0)])) t → Steps p.tables e below (s₁.setTop (entryFrame m #[(.ref a1), (.int p2)] 5)) t := fun t k => go36 t (by
        show Steps p.tables e below (T32.setTop (mkF m 26 #[.val (.ref a1), .val (.int p2), .val (.int (0 : Int32)), .val (.int (1 : Int32)), .val (.int (0 : Int32))] [(.int x0)])) _
        refine XS.iloadN X32.here hx rfl (hb hby fal_26) rfl ?_
        exact k)
      by_cases hc38 : x0 < p2
      · have go39 : ∀ t, Steps p.tables e below (T32.setTop (mkF m 45 #[.val (.ref a1), .val (.int p2), .val (.int (1 : Int32)), .val (.int (1 : Int32)), .val (.int (0 : Int32))] [(.int (1 : Int32))])) t → Steps p.tables e below (s₁.setTop (entryFrame m #[(.ref a1), (.int p2)] 5)) t := fun t k => go37 t (by
          show Steps p.tables e below (T32.setTop (mkF m 27 #[.val (.ref a1), .val (.int p2), .val (.int (0 : Int32)), .val (.int (1 : Int32)), .val (.int (0 : Int32))] [(.int p2), (.int x0)])) _
          refine XS.icmpNo X32.here hx rfl (hb hby fal_27) rfl (tlt hc38).2.1 ?_
          show Steps p.tables e below (T32.setTop (mkF m 30 #[.val (.ref a1), .val (.int p2), .val (.int (0 : Int32)), .val (.int (1 : Int32)), .val (.int (0 : Int32))] [])) _
          refine XS.iload X32.here hx rfl (hb hby fal_30) rfl ?_
          show Steps p.tables e below (T32.setTop (mkF m 32 #[.val (.ref a1), .val (.int p2), .val (.int (0 : Int32)), .val (.int (1 : Int32)), .val (.int (0 : Int32))] [(.int (0 : Int32))])) _
          refine XS.iconst X32.here hx rfl (hb hby fal_32) ?_
          show Steps p.tables e below (T32.setTop (mkF m 33 #[.val (.ref a1), .val (.int p2), .val (.int (0 : Int32)), .val (.int (1 : Int32)), .val (.int (0 : Int32))] [(.int (1 : Int32)), (.int (0 : Int32))])) _
          refine XS.iadd X32.here hx rfl (hb hby fal_33) rfl ?_
          show Steps p.tables e below (T32.setTop (mkF m 34 #[.val (.ref a1), .val (.int p2), .val (.int (0 : Int32)), .val (.int (1 : Int32)), .val (.int (0 : Int32))] [(.int (1 : Int32))])) _
          refine XS.istoreN X32.here hx rfl (hb hby fal_34) rfl (l' := #[.val (.ref a1), .val (.int p2), .val (.int (1 : Int32)), .val (.int (1 : Int32)), .val (.int (0 : Int32))]) rfl ?_
          show Steps p.tables e below (T32.setTop (mkF m 35 #[.val (.ref a1), .val (.int p2), .val (.int (1 : Int32)), .val (.int (1 : Int32)), .val (.int (0 : Int32))] [])) _
          refine XS.goto X32.here hx rfl (pc0 := 35) (pc' := 41) rfl (hb hby fal_35) (by decide) (by decide) ?_
          show Steps p.tables e below (T32.setTop (mkF m 41 #[.val (.ref a1), .val (.int p2), .val (.int (1 : Int32)), .val (.int (1 : Int32)), .val (.int (0 : Int32))] [])) _
          refine XS.goto X32.here hx rfl (pc0 := 41) (pc' := 7) rfl (hb hby fal_41) (by decide) (by decide) ?_
          show Steps p.tables e below (T32.setTop (mkF m 7 #[.val (.ref a1), .val (.int p2), .val (.int (1 : Int32)), .val (.int (1 : Int32)), .val (.int (0 : Int32))] [])) _
          refine XS.iloadN X32.here hx rfl (hb hby fal_7) rfl ?_
          show Steps p.tables e below (T32.setTop (mkF m 8 #[.val (.ref a1), .val (.int p2), .val (.int (1 : Int32)), .val (.int (1 : Int32)), .val (.int (0 : Int32))] [(.int (1 : Int32))])) _
          refine XS.iloadN X32.here hx rfl (hb hby fal_8) rfl ?_
          show Steps p.tables e below (T32.setTop (mkF m 9 #[.val (.ref a1), .val (.int p2), .val (.int (1 : Int32)), .val (.int (1 : Int32)), .val (.int (0 : Int32))] [(.int (1 : Int32)), (.int (1 : Int32))])) _
          refine XS.icmpYes X32.here hx rfl (pc0 := 9) (pc' := 44) rfl (hb hby fal_9) rfl (flt (by decide : ¬ ((1 : Int32) < (1 : Int32)))).2.1 (by decide) (by decide) ?_
          show Steps p.tables e below (T32.setTop (mkF m 44 #[.val (.ref a1), .val (.int p2), .val (.int (1 : Int32)), .val (.int (1 : Int32)), .val (.int (0 : Int32))] [])) _
          refine XS.iloadN X32.here hx rfl (hb hby fal_44) rfl ?_
          exact k)
        obtain ⟨fs, hr, hrun, hended, hW, hsame⟩ := X32.leave (v := some (.int (1 : Int32))) (fun h => by rw [Bd.returns] at h; cases h)
        refine ⟨_, _, go39 _ ?_, hrun, hended, _, _, rfl, ?_, ⟨_, rfl⟩, hW, hsame.mono (by decide) (by decide)⟩
        · exact retI X32 hx Bd.returns (hb hby fal_45) hr
        · show QV (.int (own_fal4 p2 x0 x1 x2 x3)) h0 n0 _ T32.heap _
          rw [e32]
          exact ⟨congrArg some (congrArg Value.int (Eq.symm (show (own_fal4 p2 x0 x1 x2 x3) = (1 : Int32) from by unfold own_fal4; rw [if_neg hc11, if_neg hc29, if_pos hc38]))), N0, rfl⟩
      · have go40 : ∀ t, Steps p.tables e below (T32.setTop (mkF m 45 #[.val (.ref a1), .val (.int p2), .val (.int (0 : Int32)), .val (.int (0 : Int32)), .val (.int (0 : Int32))] [(.int (0 : Int32))])) t → Steps p.tables e below (s₁.setTop (entryFrame m #[(.ref a1), (.int p2)] 5)) t := fun t k => go37 t (by
          show Steps p.tables e below (T32.setTop (mkF m 27 #[.val (.ref a1), .val (.int p2), .val (.int (0 : Int32)), .val (.int (1 : Int32)), .val (.int (0 : Int32))] [(.int p2), (.int x0)])) _
          refine XS.icmpYes X32.here hx rfl (pc0 := 27) (pc' := 38) rfl (hb hby fal_27) rfl (flt hc38).2.1 (by decide) (by decide) ?_
          show Steps p.tables e below (T32.setTop (mkF m 38 #[.val (.ref a1), .val (.int p2), .val (.int (0 : Int32)), .val (.int (1 : Int32)), .val (.int (0 : Int32))] [])) _
          refine XS.iload X32.here hx rfl (hb hby fal_38) rfl ?_
          show Steps p.tables e below (T32.setTop (mkF m 40 #[.val (.ref a1), .val (.int p2), .val (.int (0 : Int32)), .val (.int (1 : Int32)), .val (.int (0 : Int32))] [(.int (0 : Int32))])) _
          refine XS.istoreN X32.here hx rfl (hb hby fal_40) rfl (l' := #[.val (.ref a1), .val (.int p2), .val (.int (0 : Int32)), .val (.int (0 : Int32)), .val (.int (0 : Int32))]) rfl ?_
          show Steps p.tables e below (T32.setTop (mkF m 41 #[.val (.ref a1), .val (.int p2), .val (.int (0 : Int32)), .val (.int (0 : Int32)), .val (.int (0 : Int32))] [])) _
          refine XS.goto X32.here hx rfl (pc0 := 41) (pc' := 7) rfl (hb hby fal_41) (by decide) (by decide) ?_
          show Steps p.tables e below (T32.setTop (mkF m 7 #[.val (.ref a1), .val (.int p2), .val (.int (0 : Int32)), .val (.int (0 : Int32)), .val (.int (0 : Int32))] [])) _
          refine XS.iloadN X32.here hx rfl (hb hby fal_7) rfl ?_
          show Steps p.tables e below (T32.setTop (mkF m 8 #[.val (.ref a1), .val (.int p2), .val (.int (0 : Int32)), .val (.int (0 : Int32)), .val (.int (0 : Int32))] [(.int (0 : Int32))])) _
          refine XS.iloadN X32.here hx rfl (hb hby fal_8) rfl ?_
          show Steps p.tables e below (T32.setTop (mkF m 9 #[.val (.ref a1), .val (.int p2), .val (.int (0 : Int32)), .val (.int (0 : Int32)), .val (.int (0 : Int32))] [(.int (0 : Int32)), (.int (0 : Int32))])) _
          refine XS.icmpYes X32.here hx rfl (pc0 := 9) (pc' := 44) rfl (hb hby fal_9) rfl (flt (by decide : ¬ ((0 : Int32) < (0 : Int32)))).2.1 (by decide) (by decide) ?_
          show Steps p.tables e below (T32.setTop (mkF m 44 #[.val (.ref a1), .val (.int p2), .val (.int (0 : Int32)), .val (.int (0 : Int32)), .val (.int (0 : Int32))] [])) _
          refine XS.iloadN X32.here hx rfl (hb hby fal_44) rfl ?_
          exact k)
        obtain ⟨fs, hr, hrun, hended, hW, hsame⟩ := X32.leave (v := some (.int (0 : Int32))) (fun h => by rw [Bd.returns] at h; cases h)
        refine ⟨_, _, go40 _ ?_, hrun, hended, _, _, rfl, ?_, ⟨_, rfl⟩, hW, hsame.mono (by decide) (by decide)⟩
        · exact retI X32 hx Bd.returns (hb hby fal_45) hr
        · show QV (.int (own_fal4 p2 x0 x1 x2 x3)) h0 n0 _ T32.heap _
          rw [e32]
          exact ⟨congrArg some (congrArg Value.int (Eq.symm (show (own_fal4 p2 x0 x1 x2 x3) = (0 : Int32) from by unfold own_fal4; rw [if_neg hc11, if_neg hc29, if_neg hc38]))), N0, rfl⟩
/-! the plain law -/
theorem own_min_le (a b : Int32) : (own_min a b).toInt ≤ a.toInt ∧ (own_min a b).toInt ≤ b.toInt ∧ (own_min a b = a ∨ own_min a b = b) := by
  unfold own_min
  by_cases h : b < a
  · rw [if_pos h]; rw [Int32.lt_iff_toInt_lt] at h; exact ⟨by omega, by omega, Or.inr rfl⟩
  · rw [if_neg h]; rw [Int32.lt_iff_toInt_lt] at h; exact ⟨by omega, by omega, Or.inl rfl⟩
theorem own_max_le (a b : Int32) : a.toInt ≤ (own_max a b).toInt ∧ b.toInt ≤ (own_max a b).toInt ∧ (own_max a b = a ∨ own_max a b = b) := by
  unfold own_max
  by_cases h : a < b
  · rw [if_pos h]; rw [Int32.lt_iff_toInt_lt] at h; exact ⟨by omega, by omega, Or.inr rfl⟩
  · rw [if_neg h]; rw [Int32.lt_iff_toInt_lt] at h; exact ⟨by omega, by omega, Or.inl rfl⟩
theorem own_le_min {x a b : Int32} (h1 : x.toInt ≤ a.toInt) (h2 : x.toInt ≤ b.toInt) : x.toInt ≤ (own_min a b).toInt := by
  rcases (own_min_le a b).2.2 with q | q <;> rw [q] <;> assumption
theorem own_max_ge {x a b : Int32} (h1 : a.toInt ≤ x.toInt) (h2 : b.toInt ≤ x.toInt) : (own_max a b).toInt ≤ x.toInt := by
  rcases (own_max_le a b).2.2 with q | q <;> rw [q] <;> assumption
/-- the network sorts: u0, w1, w2, u3 ascend -/
theorem own_sorts {a b x y s0 s1 s2 s3 u0 u1 u2 u3 w1 w2 : Int32} (h0 : s0 = own_min a b) (h1 : s1 = own_max a b) (h2 : s2 = own_min x y) (h3 : s3 = own_max x y)
    (g0 : u0 = own_min s0 s2) (g2 : u2 = own_max s0 s2) (g1 : u1 = own_min s1 s3) (g3 : u3 = own_max s1 s3) (k1 : w1 = own_min u1 u2) (k2 : w2 = own_max u1 u2) :
    u0.toInt ≤ w1.toInt ∧ w1.toInt ≤ w2.toInt ∧ w2.toInt ≤ u3.toInt := by
  have a1 : s0.toInt ≤ s1.toInt := by rw [h0, h1]; exact Int.le_trans (own_min_le a b).1 (own_max_le a b).1
  have a2 : s2.toInt ≤ s3.toInt := by rw [h2, h3]; exact Int.le_trans (own_min_le x y).1 (own_max_le x y).1
  have b0 := own_min_le s0 s2
  rw [← g0] at b0
  have b2 := own_max_le s0 s2
  rw [← g2] at b2
  have b1 := own_min_le s1 s3
  rw [← g1] at b1
  have b3 := own_max_le s1 s3
  rw [← g3] at b3
  refine ⟨?_, ?_, ?_⟩
  · rw [k1]
    refine own_le_min ?_ (by omega)
    rw [g1]
    exact own_le_min (by omega) (by omega)
  · rw [k1, k2]; exact Int.le_trans (own_min_le u1 u2).1 (own_max_le u1 u2).1
  · rw [k2]
    refine own_max_ge (by omega) ?_
    rw [g2]
    exact own_max_ge (by omega) (by omega)
theorem own_five (x : Int32) : ((x &&& (7 : Int32)) % (5 : Int32)) = (0 : Int32) ∨ ((x &&& (7 : Int32)) % (5 : Int32)) = (1 : Int32) ∨ ((x &&& (7 : Int32)) % (5 : Int32)) = (2 : Int32) ∨ ((x &&& (7 : Int32)) % (5 : Int32)) = (3 : Int32) ∨ ((x &&& (7 : Int32)) % (5 : Int32)) = (4 : Int32) := by
  have m := (c_andS x (7 : Int32)).2.2 (by decide)
  have r := (c_irem (x &&& (7 : Int32)) (5 : Int32) 5 (by decide)).1 m
  simp only [← Int32.toInt_inj, Int32.reduceToInt]
  omega
theorem own_b0 (x q : Int32) : own_below (0 : Int32) x q = (0 : Int32) := by unfold own_below; rw [if_pos rfl]
theorem own_b1 {x q : Int32} (h : x < q) : own_below (1 : Int32) x q = (1 : Int32) := by unfold own_below; rw [if_neg (show ¬ ((1 : Int32) = (0 : Int32)) from by decide), if_pos h]
theorem own_b2 {x q : Int32} (h : ¬ x < q) : own_below (1 : Int32) x q = (0 : Int32) := by unfold own_below; rw [if_neg (show ¬ ((1 : Int32) = (0 : Int32)) from by decide), if_neg h]
theorem own_law0 (p2 x0 x1 x2 x3 : Int32) (h1 : x0.toInt ≤ x1.toInt) (h2 : x1.toInt ≤ x2.toInt) (h3 : x2.toInt ≤ x3.toInt) : own_fal0 p2  = ((((own_below (0 : Int32) x0 p2) + (own_below (0 : Int32) x1 p2)) + (own_below (0 : Int32) x2 p2)) + (own_below (0 : Int32) x3 p2)) := by
  rw [own_b0 x0 p2, own_b0 x1 p2, own_b0 x2 p2, own_b0 x3 p2]
  unfold own_fal0
  decide
theorem own_law1 (p2 x0 x1 x2 x3 : Int32) (h1 : x0.toInt ≤ x1.toInt) (h2 : x1.toInt ≤ x2.toInt) (h3 : x2.toInt ≤ x3.toInt) : own_fal1 p2 x0 = ((((own_below (1 : Int32) x0 p2) + (own_below (0 : Int32) x1 p2)) + (own_below (0 : Int32) x2 p2)) + (own_below (0 : Int32) x3 p2)) := by
  by_cases c0 : x0 < p2
  · rw [own_b1 c0, own_b0 x1 p2, own_b0 x2 p2, own_b0 x3 p2]
    unfold own_fal1
    simp only [c0, if_true, if_false, if_pos, if_neg, not_false_eq_true, not_true_eq_false]; decide
  · rw [own_b2 c0, own_b0 x1 p2, own_b0 x2 p2, own_b0 x3 p2]
    unfold own_fal1
    simp only [c0, if_true, if_false, if_pos, if_neg, not_false_eq_true, not_true_eq_false]; decide
theorem own_law2 (p2 x0 x1 x2 x3 : Int32) (h1 : x0.toInt ≤ x1.toInt) (h2 : x1.toInt ≤ x2.toInt) (h3 : x2.toInt ≤ x3.toInt) : own_fal2 p2 x0 x1 = ((((own_below (1 : Int32) x0 p2) + (own_below (1 : Int32) x1 p2)) + (own_below (0 : Int32) x2 p2)) + (own_below (0 : Int32) x3 p2)) := by
  by_cases c0 : x0 < p2
  · by_cases c1 : x1 < p2
    · rw [own_b1 c0, own_b1 c1, own_b0 x2 p2, own_b0 x3 p2]
      unfold own_fal2
      simp only [c0, c1, if_true, if_false, if_pos, if_neg, not_false_eq_true, not_true_eq_false]; decide
    · rw [own_b1 c0, own_b2 c1, own_b0 x2 p2, own_b0 x3 p2]
      unfold own_fal2
      simp only [c0, c1, if_true, if_false, if_pos, if_neg, not_false_eq_true, not_true_eq_false]; decide
  · have c1 : ¬ (x1 < p2) := fun q => c0 (Int32.lt_iff_toInt_lt.mpr (by have := Int32.lt_iff_toInt_lt.mp q; omega))
    rw [own_b2 c0, own_b2 c1, own_b0 x2 p2, own_b0 x3 p2]
    unfold own_fal2
    simp only [c0, c1, if_true, if_false, if_pos, if_neg, not_false_eq_true, not_true_eq_false]; decide
theorem own_law3 (p2 x0 x1 x2 x3 : Int32) (h1 : x0.toInt ≤ x1.toInt) (h2 : x1.toInt ≤ x2.toInt) (h3 : x2.toInt ≤ x3.toInt) : own_fal3 p2 x0 x1 x2 = ((((own_below (1 : Int32) x0 p2) + (own_below (1 : Int32) x1 p2)) + (own_below (1 : Int32) x2 p2)) + (own_below (0 : Int32) x3 p2)) := by
  by_cases c0 : x0 < p2
  · by_cases c1 : x1 < p2
    · by_cases c2 : x2 < p2
      · rw [own_b1 c0, own_b1 c1, own_b1 c2, own_b0 x3 p2]
        unfold own_fal3
        simp only [c0, c1, c2, if_true, if_false, if_pos, if_neg, not_false_eq_true, not_true_eq_false]; decide
      · rw [own_b1 c0, own_b1 c1, own_b2 c2, own_b0 x3 p2]
        unfold own_fal3
        simp only [c0, c1, c2, if_true, if_false, if_pos, if_neg, not_false_eq_true, not_true_eq_false]; decide
    · have c2 : ¬ (x2 < p2) := fun q => c1 (Int32.lt_iff_toInt_lt.mpr (by have := Int32.lt_iff_toInt_lt.mp q; omega))
      rw [own_b1 c0, own_b2 c1, own_b2 c2, own_b0 x3 p2]
      unfold own_fal3
      simp only [c0, c1, c2, if_true, if_false, if_pos, if_neg, not_false_eq_true, not_true_eq_false]; decide
  · have c1 : ¬ (x1 < p2) := fun q => c0 (Int32.lt_iff_toInt_lt.mpr (by have := Int32.lt_iff_toInt_lt.mp q; omega))
    have c2 : ¬ (x2 < p2) := fun q => c0 (Int32.lt_iff_toInt_lt.mpr (by have := Int32.lt_iff_toInt_lt.mp q; omega))
    rw [own_b2 c0, own_b2 c1, own_b2 c2, own_b0 x3 p2]
    unfold own_fal3
    simp only [c0, c1, c2, if_true, if_false, if_pos, if_neg, not_false_eq_true, not_true_eq_false]; decide
theorem own_law4 (p2 x0 x1 x2 x3 : Int32) (h1 : x0.toInt ≤ x1.toInt) (h2 : x1.toInt ≤ x2.toInt) (h3 : x2.toInt ≤ x3.toInt) : own_fal4 p2 x0 x1 x2 x3 = ((((own_below (1 : Int32) x0 p2) + (own_below (1 : Int32) x1 p2)) + (own_below (1 : Int32) x2 p2)) + (own_below (1 : Int32) x3 p2)) := by
  by_cases c0 : x0 < p2
  · by_cases c1 : x1 < p2
    · by_cases c2 : x2 < p2
      · by_cases c3 : x3 < p2
        · rw [own_b1 c0, own_b1 c1, own_b1 c2, own_b1 c3]
          unfold own_fal4
          simp only [c0, c1, c2, c3, if_true, if_false, if_pos, if_neg, not_false_eq_true, not_true_eq_false]; decide
        · rw [own_b1 c0, own_b1 c1, own_b1 c2, own_b2 c3]
          unfold own_fal4
          simp only [c0, c1, c2, c3, if_true, if_false, if_pos, if_neg, not_false_eq_true, not_true_eq_false]; decide
      · have c3 : ¬ (x3 < p2) := fun q => c2 (Int32.lt_iff_toInt_lt.mpr (by have := Int32.lt_iff_toInt_lt.mp q; omega))
        rw [own_b1 c0, own_b1 c1, own_b2 c2, own_b2 c3]
        unfold own_fal4
        simp only [c0, c1, c2, c3, if_true, if_false, if_pos, if_neg, not_false_eq_true, not_true_eq_false]; decide
    · have c2 : ¬ (x2 < p2) := fun q => c1 (Int32.lt_iff_toInt_lt.mpr (by have := Int32.lt_iff_toInt_lt.mp q; omega))
      have c3 : ¬ (x3 < p2) := fun q => c1 (Int32.lt_iff_toInt_lt.mpr (by have := Int32.lt_iff_toInt_lt.mp q; omega))
      rw [own_b1 c0, own_b2 c1, own_b2 c2, own_b2 c3]
      unfold own_fal4
      simp only [c0, c1, c2, c3, if_true, if_false, if_pos, if_neg, not_false_eq_true, not_true_eq_false]; decide
  · have c1 : ¬ (x1 < p2) := fun q => c0 (Int32.lt_iff_toInt_lt.mpr (by have := Int32.lt_iff_toInt_lt.mp q; omega))
    have c2 : ¬ (x2 < p2) := fun q => c0 (Int32.lt_iff_toInt_lt.mpr (by have := Int32.lt_iff_toInt_lt.mp q; omega))
    have c3 : ¬ (x3 < p2) := fun q => c0 (Int32.lt_iff_toInt_lt.mpr (by have := Int32.lt_iff_toInt_lt.mp q; omega))
    rw [own_b2 c0, own_b2 c1, own_b2 c2, own_b2 c3]
    unfold own_fal4
    simp only [c0, c1, c2, c3, if_true, if_false, if_pos, if_neg, not_false_eq_true, not_true_eq_false]; decide
theorem pn_law : plainName "com/example/halting_hound/haltinghound/IntListFirstAtLeastPinLaw" = true := by first | (simp [plainName, overriddenIn]; done) | decide +kernel
theorem ef_law (m : MethodId) (p1 : Int32) (p2 : Int32) (p3 : Int32) (p4 : Int32) (p5 : Int32) (p6 : Int32) : entryFrame m #[(.int p1), (.int p2), (.int p3), (.int p4), (.int p5), (.int p6)] maxLocals = mkF m 0 #[.val (.int p1), .val (.int p2), .val (.int p3), .val (.int p4), .val (.int p5), .val (.int p6), .unset, .unset, .unset, .unset, .unset, .unset, .unset, .unset, .unset, .unset, .unset, .unset, .unset, .unset, .unset, .unset, .unset] [] := by first | (simp [entryFrame, mkF, argsToLocals, Value.category, maxLocals]; done) | rfl
def QL (n0 : Nat) (v : Option Value) (h : Heap) (L : List Loc) : Prop := v = some (.int 1) ∧ Fr n0 L
set_option maxRecDepth 65536 in
set_option maxHeartbeats 40000000 in
theorem rm_law (l : Launch) (Z : State) (a0 : Array Value) (hw : ∀ d ∈ tables_1, d.before a0 Z = true) (ws : List Jvm.Cond) (p1 : Int32) (p2 : Int32) (p3 : Int32) (p4 : Int32) (p5 : Int32) (p6 : Int32) (h0 : Heap) (n0 : Nat) (Z0 : n0 ≤ h0.size) :
    MetFree l x (head1 (Jvm.Cond.code x code maxLocals ret :: ws) room_1) (fun a U => a = #[(.int p1), (.int p2), (.int p3), (.int p4), (.int p5), (.int p6)] ∧ Z.Warmed39 U.vm ∧ U.heap = h0) (fun _ _ _ _ _ => True) (fun _ U o U' => ∃ v L, o = .returned v ∧ QL n0 v U'.heap L ∧ FrameEnd U o U' L room_1.cells room_1.slots) := by
  refine MetFree.of_bodySF (plainFor_of_name pn_law) hisR ?_
  intro p e s m args below meth c s₁ Bd hml0 hP hK
  obtain ⟨rfl, hZ, hh⟩ := hP
  have hx := Bd.exec
  have hby := Bd.bytes
  have hml : c.maxLocals = 23 := hml0
  have hown : s.vm.findClass "com/example/halting_hound/haltinghound/IntListFirstAtLeastPinLaw" = some m.cls := findClass_of_methodNamed Bd.named
  have hnm := (name_of_methodNamed Bd.named Bd.method).1
  have X0 : Stand p l e room_1 s m #[(.int p1), (.int p2), (.int p3), (.int p4), (.int p5), (.int p6)] below meth c s₁ [] 0 0 := Stand.of_body Bd
  have e0 : s₁.heap = h0 := by rw [← hh, Bd.state]; rfl
  have N0 := Fr.nil n0
  have go0 : ∀ t, Steps p.tables e below (s₁.setTop (mkF m 0 #[.val (.int p1), .val (.int p2), .val (.int p3), .val (.int p4), .val (.int p5), .val (.int p6), .unset, .unset, .unset, .unset, .unset, .unset, .unset, .unset, .unset, .unset, .unset, .unset, .unset, .unset, .unset, .unset, .unset] [])) t → Steps p.tables e below (s₁.setTop (entryFrame m #[(.int p1), (.int p2), (.int p3), (.int p4), (.int p5), (.int p6)] maxLocals)) t := fun t k => castTop (ef_law m p1 p2 p3 p4 p5 p6) k
  have go1 : ∀ t, Steps p.tables e below (s₁.setTop (mkF m 10 #[.val (.int p1), .val (.int p2), .val (.int p3), .val (.int p4), .val (.int p5), .val (.int p6), .val (.int ((p1 &&& (7 : Int32)) % (5 : Int32))), .unset, .unset, .unset, .unset, .unset, .unset, .unset, .unset, .unset, .unset, .unset, .unset, .unset, .unset, .unset, .unset] [(.int p4), (.int p3)])) t → Steps p.tables e below (s₁.setTop (entryFrame m #[(.int p1), (.int p2), (.int p3), (.int p4), (.int p5), (.int p6)] maxLocals)) t := fun t k => go0 t (by
    show Steps p.tables e below (s₁.setTop (mkF m 0 #[.val (.int p1), .val (.int p2), .val (.int p3), .val (.int p4), .val (.int p5), .val (.int p6), .unset, .unset, .unset, .unset, .unset, .unset, .unset, .unset, .unset, .unset, .unset, .unset, .unset, .unset, .unset, .unset, .unset] [])) _
    refine XS.iloadN X0.here hx rfl (hb hby at_0) rfl ?_
    show Steps p.tables e below (s₁.setTop (mkF m 1 #[.val (.int p1), .val (.int p2), .val (.int p3), .val (.int p4), .val (.int p5), .val (.int p6), .unset, .unset, .unset, .unset, .unset, .unset, .unset, .unset, .unset, .unset, .unset, .unset, .unset, .unset, .unset, .unset, .unset] [(.int p1)])) _
    refine XS.bipush X0.here hx rfl (hb hby at_1) ?_
    show Steps p.tables e below (s₁.setTop (mkF m 3 #[.val (.int p1), .val (.int p2), .val (.int p3), .val (.int p4), .val (.int p5), .val (.int p6), .unset, .unset, .unset, .unset, .unset, .unset, .unset, .unset, .unset, .unset, .unset, .unset, .unset, .unset, .unset, .unset, .unset] [(.int (7 : Int32)), (.int p1)])) _
    refine XS.iand X0.here hx rfl (hb hby at_3) rfl ?_
    show Steps p.tables e below (s₁.setTop (mkF m 4 #[.val (.int p1), .val (.int p2), .val (.int p3), .val (.int p4), .val (.int p5), .val (.int p6), .unset, .unset, .unset, .unset, .unset, .unset, .unset, .unset, .unset, .unset, .unset, .unset, .unset, .unset, .unset, .unset, .unset] [(.int (p1 &&& (7 : Int32)))])) _
    refine XS.iconst X0.here hx rfl (hb hby at_4) ?_
    show Steps p.tables e below (s₁.setTop (mkF m 5 #[.val (.int p1), .val (.int p2), .val (.int p3), .val (.int p4), .val (.int p5), .val (.int p6), .unset, .unset, .unset, .unset, .unset, .unset, .unset, .unset, .unset, .unset, .unset, .unset, .unset, .unset, .unset, .unset, .unset] [(.int (5 : Int32)), (.int (p1 &&& (7 : Int32)))])) _
    refine iremM X0 hx rfl (hb hby at_5) rfl (by decide) ?_
    show Steps p.tables e below (s₁.setTop (mkF m 6 #[.val (.int p1), .val (.int p2), .val (.int p3), .val (.int p4), .val (.int p5), .val (.int p6), .unset, .unset, .unset, .unset, .unset, .unset, .unset, .unset, .unset, .unset, .unset, .unset, .unset, .unset, .unset, .unset, .unset] [(.int ((p1 &&& (7 : Int32)) % (5 : Int32)))])) _
    refine XS.istore X0.here hx rfl (hb hby at_6) rfl (l' := #[.val (.int p1), .val (.int p2), .val (.int p3), .val (.int p4), .val (.int p5), .val (.int p6), .val (.int ((p1 &&& (7 : Int32)) % (5 : Int32))), .unset, .unset, .unset, .unset, .unset, .unset, .unset, .unset, .unset, .unset, .unset, .unset, .unset, .unset, .unset, .unset]) rfl ?_
    show Steps p.tables e below (s₁.setTop (mkF m 8 #[.val (.int p1), .val (.int p2), .val (.int p3), .val (.int p4), .val (.int p5), .val (.int p6), .val (.int ((p1 &&& (7 : Int32)) % (5 : Int32))), .unset, .unset, .unset, .unset, .unset, .unset, .unset, .unset, .unset, .unset, .unset, .unset, .unset, .unset, .unset, .unset] [])) _
    refine XS.iloadN X0.here hx rfl (hb hby at_8) rfl ?_
    show Steps p.tables e below (s₁.setTop (mkF m 9 #[.val (.int p1), .val (.int p2), .val (.int p3), .val (.int p4), .val (.int p5), .val (.int p6), .val (.int ((p1 &&& (7 : Int32)) % (5 : Int32))), .unset, .unset, .unset, .unset, .unset, .unset, .unset, .unset, .unset, .unset, .unset, .unset, .unset, .unset, .unset, .unset] [(.int p3)])) _
    refine XS.iloadN X0.here hx rfl (hb hby at_9) rfl ?_
    exact k)
  obtain ⟨_, _, ⟨T2, L2, k2, n2⟩, -, X2, ⟨Lc2, hQ2, l2, y2, z2⟩, st2⟩ := Jvm.LawKit.callS X0 hx (y := (⟨"java/lang/Math", "min", "(II)I"⟩ : MethodName)) hown (mvT hZ (hw _ (List.mem_of_getElem? (i := 0) rfl))) (mvT hZ (hw _ (List.mem_of_getElem? (i := 1) rfl))) (mvT hZ (hw _ (List.mem_of_getElem? (i := 2) rfl))) (mvT hZ (hw _ (List.mem_of_getElem? (i := 3) rfl))) (by decide) (backOf (W := 0) (rm_mn l Z a0 hw [] p3 p4 h0 n0 Z0 ) hZ (hw _ (List.mem_of_getElem? (i := 3) rfl)) (hw _ (List.mem_of_getElem? (i := 2) rfl)) (by decide) (by decide)) (g := (mkF m 10 #[.val (.int p1), .val (.int p2), .val (.int p3), .val (.int p4), .val (.int p5), .val (.int p6), .val (.int ((p1 &&& (7 : Int32)) % (5 : Int32))), .unset, .unset, .unset, .unset, .unset, .unset, .unset, .unset, .unset, .unset, .unset, .unset, .unset, .unset, .unset, .unset] [(.int p4), (.int p3)])) rfl (by rw [hml]; rfl) (argsL := [(.int p3), (.int p4)]) (rest := []) (lenOf pd_0 rfl) rfl (by show 2 * 0 + _ ≤ _; exact Nat.le_of_eq rfl) (hb hby at_10) (fun _ _ => ⟨rfl, e0, (by decide : 0 + 0 ≤ _), (by decide : 0 + 0 ≤ _)⟩)
  dsimp only [Pt.U, Pt.locs, Pt.cells, Pt.slots] at X2 l2 y2 z2 st2 hQ2
  subst l2 y2 z2
  obtain ⟨rfl, N2q, e2⟩ := hQ2
  have N2 := Fr.app N0 N2q
  have go3 : ∀ t, Steps p.tables e below (T2.setTop (mkF m 13 #[.val (.int p1), .val (.int p2), .val (.int p3), .val (.int p4), .val (.int p5), .val (.int p6), .val (.int ((p1 &&& (7 : Int32)) % (5 : Int32))), .unset, .unset, .unset, .unset, .unset, .unset, .unset, .unset, .unset, .unset, .unset, .unset, .unset, .unset, .unset, .unset] [(.int (own_min p3 p4))])) t → Steps p.tables e below (s₁.setTop (entryFrame m #[(.int p1), (.int p2), (.int p3), (.int p4), (.int p5), (.int p6)] maxLocals)) t := fun t k => go1 t (st2 t k)
  have go4 : ∀ t, Steps p.tables e below (T2.setTop (mkF m 15 #[.val (.int p1), .val (.int p2), .val (.int p3), .val (.int p4), .val (.int p5), .val (.int p6), .val (.int ((p1 &&& (7 : Int32)) % (5 : Int32))), .val (.int (own_min p3 p4)), .unset, .unset, .unset, .unset, .unset, .unset, .unset, .unset, .unset, .unset, .unset, .unset, .unset, .unset, .unset] [])) t → Steps p.tables e below (s₁.setTop (entryFrame m #[(.int p1), (.int p2), (.int p3), (.int p4), (.int p5), (.int p6)] maxLocals)) t := fun t k => go3 t (by
    show Steps p.tables e below (T2.setTop (mkF m 13 #[.val (.int p1), .val (.int p2), .val (.int p3), .val (.int p4), .val (.int p5), .val (.int p6), .val (.int ((p1 &&& (7 : Int32)) % (5 : Int32))), .unset, .unset, .unset, .unset, .unset, .unset, .unset, .unset, .unset, .unset, .unset, .unset, .unset, .unset, .unset, .unset] [(.int (own_min p3 p4))])) _
    refine XS.istore X2.here hx rfl (hb hby at_13) rfl (l' := #[.val (.int p1), .val (.int p2), .val (.int p3), .val (.int p4), .val (.int p5), .val (.int p6), .val (.int ((p1 &&& (7 : Int32)) % (5 : Int32))), .val (.int (own_min p3 p4)), .unset, .unset, .unset, .unset, .unset, .unset, .unset, .unset, .unset, .unset, .unset, .unset, .unset, .unset, .unset]) rfl ?_
    exact k)
  obtain ⟨s0, hs0⟩ : ∃ z, z = (own_min p3 p4) := ⟨_, rfl⟩
  rw [← hs0] at go4
  have go5 : ∀ t, Steps p.tables e below (T2.setTop (mkF m 17 #[.val (.int p1), .val (.int p2), .val (.int p3), .val (.int p4), .val (.int p5), .val (.int p6), .val (.int ((p1 &&& (7 : Int32)) % (5 : Int32))), .val (.int s0), .unset, .unset, .unset, .unset, .unset, .unset, .unset, .unset, .unset, .unset, .unset, .unset, .unset, .unset, .unset] [(.int p4), (.int p3)])) t → Steps p.tables e below (s₁.setTop (entryFrame m #[(.int p1), (.int p2), (.int p3), (.int p4), (.int p5), (.int p6)] maxLocals)) t := fun t k => go4 t (by
    show Steps p.tables e below (T2.setTop (mkF m 15 #[.val (.int p1), .val (.int p2), .val (.int p3), .val (.int p4), .val (.int p5), .val (.int p6), .val (.int ((p1 &&& (7 : Int32)) % (5 : Int32))), .val (.int s0), .unset, .unset, .unset, .unset, .unset, .unset, .unset, .unset, .unset, .unset, .unset, .unset, .unset, .unset, .unset] [])) _
    refine XS.iloadN X2.here hx rfl (hb hby at_15) rfl ?_
    show Steps p.tables e below (T2.setTop (mkF m 16 #[.val (.int p1), .val (.int p2), .val (.int p3), .val (.int p4), .val (.int p5), .val (.int p6), .val (.int ((p1 &&& (7 : Int32)) % (5 : Int32))), .val (.int s0), .unset, .unset, .unset, .unset, .unset, .unset, .unset, .unset, .unset, .unset, .unset, .unset, .unset, .unset, .unset] [(.int p3)])) _
    refine XS.iloadN X2.here hx rfl (hb hby at_16) rfl ?_
    exact k)
  obtain ⟨_, _, ⟨T6, L6, k6, n6⟩, -, X6, ⟨Lc6, hQ6, l6, y6, z6⟩, st6⟩ := Jvm.LawKit.callS X2 hx (y := (⟨"java/lang/Math", "max", "(II)I"⟩ : MethodName)) hown (mvT hZ (hw _ (List.mem_of_getElem? (i := 4) rfl))) (mvT hZ (hw _ (List.mem_of_getElem? (i := 5) rfl))) (mvT hZ (hw _ (List.mem_of_getElem? (i := 2) rfl))) (mvT hZ (hw _ (List.mem_of_getElem? (i := 6) rfl))) (by decide) (backOf (W := 0) (rm_mx l Z a0 hw [] p3 p4 h0 n0 Z0 ) hZ (hw _ (List.mem_of_getElem? (i := 6) rfl)) (hw _ (List.mem_of_getElem? (i := 2) rfl)) (by decide) (by decide)) (g := (mkF m 17 #[.val (.int p1), .val (.int p2), .val (.int p3), .val (.int p4), .val (.int p5), .val (.int p6), .val (.int ((p1 &&& (7 : Int32)) % (5 : Int32))), .val (.int s0), .unset, .unset, .unset, .unset, .unset, .unset, .unset, .unset, .unset, .unset, .unset, .unset, .unset, .unset, .unset] [(.int p4), (.int p3)])) rfl (by rw [hml]; rfl) (argsL := [(.int p3), (.int p4)]) (rest := []) (lenOf pd_0 rfl) rfl (by show 2 * 0 + _ ≤ _; exact Nat.le_of_eq rfl) (hb hby at_17) (fun _ _ => ⟨rfl, e2, (by decide : 0 + 0 ≤ _), (by decide : 0 + 0 ≤ _)⟩)
  dsimp only [Pt.U, Pt.locs, Pt.cells, Pt.slots] at X6 l6 y6 z6 st6 hQ6
  subst l6 y6 z6
  obtain ⟨rfl, N6q, e6⟩ := hQ6
  have N6 := Fr.app N2 N6q
  have go7 : ∀ t, Steps p.tables e below (T6.setTop (mkF m 20 #[.val (.int p1), .val (.int p2), .val (.int p3), .val (.int p4), .val (.int p5), .val (.int p6), .val (.int ((p1 &&& (7 : Int32)) % (5 : Int32))), .val (.int s0), .unset, .unset, .unset, .unset, .unset, .unset, .unset, .unset, .unset, .unset, .unset, .unset, .unset, .unset, .unset] [(.int (own_max p3 p4))])) t → Steps p.tables e below (s₁.setTop (entryFrame m #[(.int p1), (.int p2), (.int p3), (.int p4), (.int p5), (.int p6)] maxLocals)) t := fun t k => go5 t (st6 t k)
  have go8 : ∀ t, Steps p.tables e below (T6.setTop (mkF m 22 #[.val (.int p1), .val (.int p2), .val (.int p3), .val (.int p4), .val (.int p5), .val (.int p6), .val (.int ((p1 &&& (7 : Int32)) % (5 : Int32))), .val (.int s0), .val (.int (own_max p3 p4)), .unset, .unset, .unset, .unset, .unset, .unset, .unset, .unset, .unset, .unset, .unset, .unset, .unset, .unset] [])) t → Steps p.tables e below (s₁.setTop (entryFrame m #[(.int p1), (.int p2), (.int p3), (.int p4), (.int p5), (.int p6)] maxLocals)) t := fun t k => go7 t (by
    show Steps p.tables e below (T6.setTop (mkF m 20 #[.val (.int p1), .val (.int p2), .val (.int p3), .val (.int p4), .val (.int p5), .val (.int p6), .val (.int ((p1 &&& (7 : Int32)) % (5 : Int32))), .val (.int s0), .unset, .unset, .unset, .unset, .unset, .unset, .unset, .unset, .unset, .unset, .unset, .unset, .unset, .unset, .unset] [(.int (own_max p3 p4))])) _
    refine XS.istore X6.here hx rfl (hb hby at_20) rfl (l' := #[.val (.int p1), .val (.int p2), .val (.int p3), .val (.int p4), .val (.int p5), .val (.int p6), .val (.int ((p1 &&& (7 : Int32)) % (5 : Int32))), .val (.int s0), .val (.int (own_max p3 p4)), .unset, .unset, .unset, .unset, .unset, .unset, .unset, .unset, .unset, .unset, .unset, .unset, .unset, .unset]) rfl ?_
    exact k)
  obtain ⟨s1, hs1⟩ : ∃ z, z = (own_max p3 p4) := ⟨_, rfl⟩
  rw [← hs1] at go8
  have go9 : ∀ t, Steps p.tables e below (T6.setTop (mkF m 26 #[.val (.int p1), .val (.int p2), .val (.int p3), .val (.int p4), .val (.int p5), .val (.int p6), .val (.int ((p1 &&& (7 : Int32)) % (5 : Int32))), .val (.int s0), .val (.int s1), .unset, .unset, .unset, .unset, .unset, .unset, .unset, .unset, .unset, .unset, .unset, .unset, .unset, .unset] [(.int p6), (.int p5)])) t → Steps p.tables e below (s₁.setTop (entryFrame m #[(.int p1), (.int p2), (.int p3), (.int p4), (.int p5), (.int p6)] maxLocals)) t := fun t k => go8 t (by
    show Steps p.tables e below (T6.setTop (mkF m 22 #[.val (.int p1), .val (.int p2), .val (.int p3), .val (.int p4), .val (.int p5), .val (.int p6), .val (.int ((p1 &&& (7 : Int32)) % (5 : Int32))), .val (.int s0), .val (.int s1), .unset, .unset, .unset, .unset, .unset, .unset, .unset, .unset, .unset, .unset, .unset, .unset, .unset, .unset] [])) _
    refine XS.iload X6.here hx rfl (hb hby at_22) rfl ?_
    show Steps p.tables e below (T6.setTop (mkF m 24 #[.val (.int p1), .val (.int p2), .val (.int p3), .val (.int p4), .val (.int p5), .val (.int p6), .val (.int ((p1 &&& (7 : Int32)) % (5 : Int32))), .val (.int s0), .val (.int s1), .unset, .unset, .unset, .unset, .unset, .unset, .unset, .unset, .unset, .unset, .unset, .unset, .unset, .unset] [(.int p5)])) _
    refine XS.iload X6.here hx rfl (hb hby at_24) rfl ?_
    exact k)
  obtain ⟨_, _, ⟨T10, L10, k10, n10⟩, -, X10, ⟨Lc10, hQ10, l10, y10, z10⟩, st10⟩ := Jvm.LawKit.callS X6 hx (y := (⟨"java/lang/Math", "min", "(II)I"⟩ : MethodName)) hown (mvT hZ (hw _ (List.mem_of_getElem? (i := 0) rfl))) (mvT hZ (hw _ (List.mem_of_getElem? (i := 1) rfl))) (mvT hZ (hw _ (List.mem_of_getElem? (i := 2) rfl))) (mvT hZ (hw _ (List.mem_of_getElem? (i := 3) rfl))) (by decide) (backOf (W := 0) (rm_mn l Z a0 hw [] p5 p6 h0 n0 Z0 ) hZ (hw _ (List.mem_of_getElem? (i := 3) rfl)) (hw _ (List.mem_of_getElem? (i := 2) rfl)) (by decide) (by decide)) (g := (mkF m 26 #[.val (.int p1), .val (.int p2), .val (.int p3), .val (.int p4), .val (.int p5), .val (.int p6), .val (.int ((p1 &&& (7 : Int32)) % (5 : Int32))), .val (.int s0), .val (.int s1), .unset, .unset, .unset, .unset, .unset, .unset, .unset, .unset, .unset, .unset, .unset, .unset, .unset, .unset] [(.int p6), (.int p5)])) rfl (by rw [hml]; rfl) (argsL := [(.int p5), (.int p6)]) (rest := []) (lenOf pd_0 rfl) rfl (by show 2 * 0 + _ ≤ _; exact Nat.le_of_eq rfl) (hb hby at_26) (fun _ _ => ⟨rfl, e6, (by decide : 0 + 0 ≤ _), (by decide : 0 + 0 ≤ _)⟩)
  dsimp only [Pt.U, Pt.locs, Pt.cells, Pt.slots] at X10 l10 y10 z10 st10 hQ10
  subst l10 y10 z10
  obtain ⟨rfl, N10q, e10⟩ := hQ10
  have N10 := Fr.app N6 N10q
  have go11 : ∀ t, Steps p.tables e below (T10.setTop (mkF m 29 #[.val (.int p1), .val (.int p2), .val (.int p3), .val (.int p4), .val (.int p5), .val (.int p6), .val (.int ((p1 &&& (7 : Int32)) % (5 : Int32))), .val (.int s0), .val (.int s1), .unset, .unset, .unset, .unset, .unset, .unset, .unset, .unset, .unset, .unset, .unset, .unset, .unset, .unset] [(.int (own_min p5 p6))])) t → Steps p.tables e below (s₁.setTop (entryFrame m #[(.int p1), (.int p2), (.int p3), (.int p4), (.int p5), (.int p6)] maxLocals)) t := fun t k => go9 t (st10 t k)
  have go12 : ∀ t, Steps p.tables e below (T10.setTop (mkF m 31 #[.val (.int p1), .val (.int p2), .val (.int p3), .val (.int p4), .val (.int p5), .val (.int p6), .val (.int ((p1 &&& (7 : Int32)) % (5 : Int32))), .val (.int s0), .val (.int s1), .val (.int (own_min p5 p6)), .unset, .unset, .unset, .unset, .unset, .unset, .unset, .unset, .unset, .unset, .unset, .unset, .unset] [])) t → Steps p.tables e below (s₁.setTop (entryFrame m #[(.int p1), (.int p2), (.int p3), (.int p4), (.int p5), (.int p6)] maxLocals)) t := fun t k => go11 t (by
    show Steps p.tables e below (T10.setTop (mkF m 29 #[.val (.int p1), .val (.int p2), .val (.int p3), .val (.int p4), .val (.int p5), .val (.int p6), .val (.int ((p1 &&& (7 : Int32)) % (5 : Int32))), .val (.int s0), .val (.int s1), .unset, .unset, .unset, .unset, .unset, .unset, .unset, .unset, .unset, .unset, .unset, .unset, .unset, .unset] [(.int (own_min p5 p6))])) _
    refine XS.istore X10.here hx rfl (hb hby at_29) rfl (l' := #[.val (.int p1), .val (.int p2), .val (.int p3), .val (.int p4), .val (.int p5), .val (.int p6), .val (.int ((p1 &&& (7 : Int32)) % (5 : Int32))), .val (.int s0), .val (.int s1), .val (.int (own_min p5 p6)), .unset, .unset, .unset, .unset, .unset, .unset, .unset, .unset, .unset, .unset, .unset, .unset, .unset]) rfl ?_
    exact k)
  obtain ⟨s2, hs2⟩ : ∃ z, z = (own_min p5 p6) := ⟨_, rfl⟩
  rw [← hs2] at go12
  have go13 : ∀ t, Steps p.tables e below (T10.setTop (mkF m 35 #[.val (.int p1), .val (.int p2), .val (.int p3), .val (.int p4), .val (.int p5), .val (.int p6), .val (.int ((p1 &&& (7 : Int32)) % (5 : Int32))), .val (.int s0), .val (.int s1), .val (.int s2), .unset, .unset, .unset, .unset, .unset, .unset, .unset, .unset, .unset, .unset, .unset, .unset, .unset] [(.int p6), (.int p5)])) t → Steps p.tables e below (s₁.setTop (entryFrame m #[(.int p1), (.int p2), (.int p3), (.int p4), (.int p5), (.int p6)] maxLocals)) t := fun t k => go12 t (by
    show Steps p.tables e below (T10.setTop (mkF m 31 #[.val (.int p1), .val (.int p2), .val (.int p3), .val (.int p4), .val (.int p5), .val (.int p6), .val (.int ((p1 &&& (7 : Int32)) % (5 : Int32))), .val (.int s0), .val (.int s1), .val (.int s2), .unset, .unset, .unset, .unset, .unset, .unset, .unset, .unset, .unset, .unset, .unset, .unset, .unset] [])) _
    refine XS.iload X10.here hx rfl (hb hby at_31) rfl ?_
    show Steps p.tables e below (T10.setTop (mkF m 33 #[.val (.int p1), .val (.int p2), .val (.int p3), .val (.int p4), .val (.int p5), .val (.int p6), .val (.int ((p1 &&& (7 : Int32)) % (5 : Int32))), .val (.int s0), .val (.int s1), .val (.int s2), .unset, .unset, .unset, .unset, .unset, .unset, .unset, .unset, .unset, .unset, .unset, .unset, .unset] [(.int p5)])) _
    refine XS.iload X10.here hx rfl (hb hby at_33) rfl ?_
    exact k)
  obtain ⟨_, _, ⟨T14, L14, k14, n14⟩, -, X14, ⟨Lc14, hQ14, l14, y14, z14⟩, st14⟩ := Jvm.LawKit.callS X10 hx (y := (⟨"java/lang/Math", "max", "(II)I"⟩ : MethodName)) hown (mvT hZ (hw _ (List.mem_of_getElem? (i := 4) rfl))) (mvT hZ (hw _ (List.mem_of_getElem? (i := 5) rfl))) (mvT hZ (hw _ (List.mem_of_getElem? (i := 2) rfl))) (mvT hZ (hw _ (List.mem_of_getElem? (i := 6) rfl))) (by decide) (backOf (W := 0) (rm_mx l Z a0 hw [] p5 p6 h0 n0 Z0 ) hZ (hw _ (List.mem_of_getElem? (i := 6) rfl)) (hw _ (List.mem_of_getElem? (i := 2) rfl)) (by decide) (by decide)) (g := (mkF m 35 #[.val (.int p1), .val (.int p2), .val (.int p3), .val (.int p4), .val (.int p5), .val (.int p6), .val (.int ((p1 &&& (7 : Int32)) % (5 : Int32))), .val (.int s0), .val (.int s1), .val (.int s2), .unset, .unset, .unset, .unset, .unset, .unset, .unset, .unset, .unset, .unset, .unset, .unset, .unset] [(.int p6), (.int p5)])) rfl (by rw [hml]; rfl) (argsL := [(.int p5), (.int p6)]) (rest := []) (lenOf pd_0 rfl) rfl (by show 2 * 0 + _ ≤ _; exact Nat.le_of_eq rfl) (hb hby at_35) (fun _ _ => ⟨rfl, e10, (by decide : 0 + 0 ≤ _), (by decide : 0 + 0 ≤ _)⟩)
  dsimp only [Pt.U, Pt.locs, Pt.cells, Pt.slots] at X14 l14 y14 z14 st14 hQ14
  subst l14 y14 z14
  obtain ⟨rfl, N14q, e14⟩ := hQ14
  have N14 := Fr.app N10 N14q
  have go15 : ∀ t, Steps p.tables e below (T14.setTop (mkF m 38 #[.val (.int p1), .val (.int p2), .val (.int p3), .val (.int p4), .val (.int p5), .val (.int p6), .val (.int ((p1 &&& (7 : Int32)) % (5 : Int32))), .val (.int s0), .val (.int s1), .val (.int s2), .unset, .unset, .unset, .unset, .unset, .unset, .unset, .unset, .unset, .unset, .unset, .unset, .unset] [(.int (own_max p5 p6))])) t → Steps p.tables e below (s₁.setTop (entryFrame m #[(.int p1), (.int p2), (.int p3), (.int p4), (.int p5), (.int p6)] maxLocals)) t := fun t k => go13 t (st14 t k)
  have go16 : ∀ t, Steps p.tables e below (T14.setTop (mkF m 40 #[.val (.int p1), .val (.int p2), .val (.int p3), .val (.int p4), .val (.int p5), .val (.int p6), .val (.int ((p1 &&& (7 : Int32)) % (5 : Int32))), .val (.int s0), .val (.int s1), .val (.int s2), .val (.int (own_max p5 p6)), .unset, .unset, .unset, .unset, .unset, .unset, .unset, .unset, .unset, .unset, .unset, .unset] [])) t → Steps p.tables e below (s₁.setTop (entryFrame m #[(.int p1), (.int p2), (.int p3), (.int p4), (.int p5), (.int p6)] maxLocals)) t := fun t k => go15 t (by
    show Steps p.tables e below (T14.setTop (mkF m 38 #[.val (.int p1), .val (.int p2), .val (.int p3), .val (.int p4), .val (.int p5), .val (.int p6), .val (.int ((p1 &&& (7 : Int32)) % (5 : Int32))), .val (.int s0), .val (.int s1), .val (.int s2), .unset, .unset, .unset, .unset, .unset, .unset, .unset, .unset, .unset, .unset, .unset, .unset, .unset] [(.int (own_max p5 p6))])) _
    refine XS.istore X14.here hx rfl (hb hby at_38) rfl (l' := #[.val (.int p1), .val (.int p2), .val (.int p3), .val (.int p4), .val (.int p5), .val (.int p6), .val (.int ((p1 &&& (7 : Int32)) % (5 : Int32))), .val (.int s0), .val (.int s1), .val (.int s2), .val (.int (own_max p5 p6)), .unset, .unset, .unset, .unset, .unset, .unset, .unset, .unset, .unset, .unset, .unset, .unset]) rfl ?_
    exact k)
  obtain ⟨s3, hs3⟩ : ∃ z, z = (own_max p5 p6) := ⟨_, rfl⟩
  rw [← hs3] at go16
  have go17 : ∀ t, Steps p.tables e below (T14.setTop (mkF m 44 #[.val (.int p1), .val (.int p2), .val (.int p3), .val (.int p4), .val (.int p5), .val (.int p6), .val (.int ((p1 &&& (7 : Int32)) % (5 : Int32))), .val (.int s0), .val (.int s1), .val (.int s2), .val (.int s3), .unset, .unset, .unset, .unset, .unset, .unset, .unset, .unset, .unset, .unset, .unset, .unset] [(.int s2), (.int s0)])) t → Steps p.tables e below (s₁.setTop (entryFrame m #[(.int p1), (.int p2), (.int p3), (.int p4), (.int p5), (.int p6)] maxLocals)) t := fun t k => go16 t (by
    show Steps p.tables e below (T14.setTop (mkF m 40 #[.val (.int p1), .val (.int p2), .val (.int p3), .val (.int p4), .val (.int p5), .val (.int p6), .val (.int ((p1 &&& (7 : Int32)) % (5 : Int32))), .val (.int s0), .val (.int s1), .val (.int s2), .val (.int s3), .unset, .unset, .unset, .unset, .unset, .unset, .unset, .unset, .unset, .unset, .unset, .unset] [])) _
    refine XS.iload X14.here hx rfl (hb hby at_40) rfl ?_
    show Steps p.tables e below (T14.setTop (mkF m 42 #[.val (.int p1), .val (.int p2), .val (.int p3), .val (.int p4), .val (.int p5), .val (.int p6), .val (.int ((p1 &&& (7 : Int32)) % (5 : Int32))), .val (.int s0), .val (.int s1), .val (.int s2), .val (.int s3), .unset, .unset, .unset, .unset, .unset, .unset, .unset, .unset, .unset, .unset, .unset, .unset] [(.int s0)])) _
    refine XS.iload X14.here hx rfl (hb hby at_42) rfl ?_
    exact k)
  obtain ⟨_, _, ⟨T18, L18, k18, n18⟩, -, X18, ⟨Lc18, hQ18, l18, y18, z18⟩, st18⟩ := Jvm.LawKit.callS X14 hx (y := (⟨"java/lang/Math", "min", "(II)I"⟩ : MethodName)) hown (mvT hZ (hw _ (List.mem_of_getElem? (i := 0) rfl))) (mvT hZ (hw _ (List.mem_of_getElem? (i := 1) rfl))) (mvT hZ (hw _ (List.mem_of_getElem? (i := 2) rfl))) (mvT hZ (hw _ (List.mem_of_getElem? (i := 3) rfl))) (by decide) (backOf (W := 0) (rm_mn l Z a0 hw [] s0 s2 h0 n0 Z0 ) hZ (hw _ (List.mem_of_getElem? (i := 3) rfl)) (hw _ (List.mem_of_getElem? (i := 2) rfl)) (by decide) (by decide)) (g := (mkF m 44 #[.val (.int p1), .val (.int p2), .val (.int p3), .val (.int p4), .val (.int p5), .val (.int p6), .val (.int ((p1 &&& (7 : Int32)) % (5 : Int32))), .val (.int s0), .val (.int s1), .val (.int s2), .val (.int s3), .unset, .unset, .unset, .unset, .unset, .unset, .unset, .unset, .unset, .unset, .unset, .unset] [(.int s2), (.int s0)])) rfl (by rw [hml]; rfl) (argsL := [(.int s0), (.int s2)]) (rest := []) (lenOf pd_0 rfl) rfl (by show 2 * 0 + _ ≤ _; exact Nat.le_of_eq rfl) (hb hby at_44) (fun _ _ => ⟨rfl, e14, (by decide : 0 + 0 ≤ _), (by decide : 0 + 0 ≤ _)⟩)
  dsimp only [Pt.U, Pt.locs, Pt.cells, Pt.slots] at X18 l18 y18 z18 st18 hQ18
  subst l18 y18 z18
  obtain ⟨rfl, N18q, e18⟩ := hQ18
  have N18 := Fr.app N14 N18q
  have go19 : ∀ t, Steps p.tables e below (T18.setTop (mkF m 47 #[.val (.int p1), .val (.int p2), .val (.int p3), .val (.int p4), .val (.int p5), .val (.int p6), .val (.int ((p1 &&& (7 : Int32)) % (5 : Int32))), .val (.int s0), .val (.int s1), .val (.int s2), .val (.int s3), .unset, .unset, .unset, .unset, .unset, .unset, .unset, .unset, .unset, .unset, .unset, .unset] [(.int (own_min s0 s2))])) t → Steps p.tables e below (s₁.setTop (entryFrame m #[(.int p1), (.int p2), (.int p3), (.int p4), (.int p5), (.int p6)] maxLocals)) t := fun t k => go17 t (st18 t k)
  have go20 : ∀ t, Steps p.tables e below (T18.setTop (mkF m 49 #[.val (.int p1), .val (.int p2), .val (.int p3), .val (.int p4), .val (.int p5), .val (.int p6), .val (.int ((p1 &&& (7 : Int32)) % (5 : Int32))), .val (.int s0), .val (.int s1), .val (.int s2), .val (.int s3), .val (.int (own_min s0 s2)), .unset, .unset, .unset, .unset, .unset, .unset, .unset, .unset, .unset, .unset, .unset] [])) t → Steps p.tables e below (s₁.setTop (entryFrame m #[(.int p1), (.int p2), (.int p3), (.int p4), (.int p5), (.int p6)] maxLocals)) t := fun t k => go19 t (by
    show Steps p.tables e below (T18.setTop (mkF m 47 #[.val (.int p1), .val (.int p2), .val (.int p3), .val (.int p4), .val (.int p5), .val (.int p6), .val (.int ((p1 &&& (7 : Int32)) % (5 : Int32))), .val (.int s0), .val (.int s1), .val (.int s2), .val (.int s3), .unset, .unset, .unset, .unset, .unset, .unset, .unset, .unset, .unset, .unset, .unset, .unset] [(.int (own_min s0 s2))])) _
    refine XS.istore X18.here hx rfl (hb hby at_47) rfl (l' := #[.val (.int p1), .val (.int p2), .val (.int p3), .val (.int p4), .val (.int p5), .val (.int p6), .val (.int ((p1 &&& (7 : Int32)) % (5 : Int32))), .val (.int s0), .val (.int s1), .val (.int s2), .val (.int s3), .val (.int (own_min s0 s2)), .unset, .unset, .unset, .unset, .unset, .unset, .unset, .unset, .unset, .unset, .unset]) rfl ?_
    exact k)
  obtain ⟨u0, hu0⟩ : ∃ z, z = (own_min s0 s2) := ⟨_, rfl⟩
  rw [← hu0] at go20
  have go21 : ∀ t, Steps p.tables e below (T18.setTop (mkF m 53 #[.val (.int p1), .val (.int p2), .val (.int p3), .val (.int p4), .val (.int p5), .val (.int p6), .val (.int ((p1 &&& (7 : Int32)) % (5 : Int32))), .val (.int s0), .val (.int s1), .val (.int s2), .val (.int s3), .val (.int u0), .unset, .unset, .unset, .unset, .unset, .unset, .unset, .unset, .unset, .unset, .unset] [(.int s2), (.int s0)])) t → Steps p.tables e below (s₁.setTop (entryFrame m #[(.int p1), (.int p2), (.int p3), (.int p4), (.int p5), (.int p6)] maxLocals)) t := fun t k => go20 t (by
    show Steps p.tables e below (T18.setTop (mkF m 49 #[.val (.int p1), .val (.int p2), .val (.int p3), .val (.int p4), .val (.int p5), .val (.int p6), .val (.int ((p1 &&& (7 : Int32)) % (5 : Int32))), .val (.int s0), .val (.int s1), .val (.int s2), .val (.int s3), .val (.int u0), .unset, .unset, .unset, .unset, .unset, .unset, .unset, .unset, .unset, .unset, .unset] [])) _
    refine XS.iload X18.here hx rfl (hb hby at_49) rfl ?_
    show Steps p.tables e below (T18.setTop (mkF m 51 #[.val (.int p1), .val (.int p2), .val (.int p3), .val (.int p4), .val (.int p5), .val (.int p6), .val (.int ((p1 &&& (7 : Int32)) % (5 : Int32))), .val (.int s0), .val (.int s1), .val (.int s2), .val (.int s3), .val (.int u0), .unset, .unset, .unset, .unset, .unset, .unset, .unset, .unset, .unset, .unset, .unset] [(.int s0)])) _
    refine XS.iload X18.here hx rfl (hb hby at_51) rfl ?_
    exact k)
  obtain ⟨_, _, ⟨T22, L22, k22, n22⟩, -, X22, ⟨Lc22, hQ22, l22, y22, z22⟩, st22⟩ := Jvm.LawKit.callS X18 hx (y := (⟨"java/lang/Math", "max", "(II)I"⟩ : MethodName)) hown (mvT hZ (hw _ (List.mem_of_getElem? (i := 4) rfl))) (mvT hZ (hw _ (List.mem_of_getElem? (i := 5) rfl))) (mvT hZ (hw _ (List.mem_of_getElem? (i := 2) rfl))) (mvT hZ (hw _ (List.mem_of_getElem? (i := 6) rfl))) (by decide) (backOf (W := 0) (rm_mx l Z a0 hw [] s0 s2 h0 n0 Z0 ) hZ (hw _ (List.mem_of_getElem? (i := 6) rfl)) (hw _ (List.mem_of_getElem? (i := 2) rfl)) (by decide) (by decide)) (g := (mkF m 53 #[.val (.int p1), .val (.int p2), .val (.int p3), .val (.int p4), .val (.int p5), .val (.int p6), .val (.int ((p1 &&& (7 : Int32)) % (5 : Int32))), .val (.int s0), .val (.int s1), .val (.int s2), .val (.int s3), .val (.int u0), .unset, .unset, .unset, .unset, .unset, .unset, .unset, .unset, .unset, .unset, .unset] [(.int s2), (.int s0)])) rfl (by rw [hml]; rfl) (argsL := [(.int s0), (.int s2)]) (rest := []) (lenOf pd_0 rfl) rfl (by show 2 * 0 + _ ≤ _; exact Nat.le_of_eq rfl) (hb hby at_53) (fun _ _ => ⟨rfl, e18, (by decide : 0 + 0 ≤ _), (by decide : 0 + 0 ≤ _)⟩)
  dsimp only [Pt.U, Pt.locs, Pt.cells, Pt.slots] at X22 l22 y22 z22 st22 hQ22
  subst l22 y22 z22
  obtain ⟨rfl, N22q, e22⟩ := hQ22
  have N22 := Fr.app N18 N22q
  have go23 : ∀ t, Steps p.tables e below (T22.setTop (mkF m 56 #[.val (.int p1), .val (.int p2), .val (.int p3), .val (.int p4), .val (.int p5), .val (.int p6), .val (.int ((p1 &&& (7 : Int32)) % (5 : Int32))), .val (.int s0), .val (.int s1), .val (.int s2), .val (.int s3), .val (.int u0), .unset, .unset, .unset, .unset, .unset, .unset, .unset, .unset, .unset, .unset, .unset] [(.int (own_max s0 s2))])) t → Steps p.tables e below (s₁.setTop (entryFrame m #[(.int p1), (.int p2), (.int p3), (.int p4), (.int p5), (.int p6)] maxLocals)) t := fun t k => go21 t (st22 t k)
  have go24 : ∀ t, Steps p.tables e below (T22.setTop (mkF m 58 #[.val (.int p1), .val (.int p2), .val (.int p3), .val (.int p4), .val (.int p5), .val (.int p6), .val (.int ((p1 &&& (7 : Int32)) % (5 : Int32))), .val (.int s0), .val (.int s1), .val (.int s2), .val (.int s3), .val (.int u0), .val (.int (own_max s0 s2)), .unset, .unset, .unset, .unset, .unset, .unset, .unset, .unset, .unset, .unset] [])) t → Steps p.tables e below (s₁.setTop (entryFrame m #[(.int p1), (.int p2), (.int p3), (.int p4), (.int p5), (.int p6)] maxLocals)) t := fun t k => go23 t (by
    show Steps p.tables e below (T22.setTop (mkF m 56 #[.val (.int p1), .val (.int p2), .val (.int p3), .val (.int p4), .val (.int p5), .val (.int p6), .val (.int ((p1 &&& (7 : Int32)) % (5 : Int32))), .val (.int s0), .val (.int s1), .val (.int s2), .val (.int s3), .val (.int u0), .unset, .unset, .unset, .unset, .unset, .unset, .unset, .unset, .unset, .unset, .unset] [(.int (own_max s0 s2))])) _
    refine XS.istore X22.here hx rfl (hb hby at_56) rfl (l' := #[.val (.int p1), .val (.int p2), .val (.int p3), .val (.int p4), .val (.int p5), .val (.int p6), .val (.int ((p1 &&& (7 : Int32)) % (5 : Int32))), .val (.int s0), .val (.int s1), .val (.int s2), .val (.int s3), .val (.int u0), .val (.int (own_max s0 s2)), .unset, .unset, .unset, .unset, .unset, .unset, .unset, .unset, .unset, .unset]) rfl ?_
    exact k)
  obtain ⟨u2, hu2⟩ : ∃ z, z = (own_max s0 s2) := ⟨_, rfl⟩
  rw [← hu2] at go24
  have go25 : ∀ t, Steps p.tables e below (T22.setTop (mkF m 62 #[.val (.int p1), .val (.int p2), .val (.int p3), .val (.int p4), .val (.int p5), .val (.int p6), .val (.int ((p1 &&& (7 : Int32)) % (5 : Int32))), .val (.int s0), .val (.int s1), .val (.int s2), .val (.int s3), .val (.int u0), .val (.int u2), .unset, .unset, .unset, .unset, .unset, .unset, .unset, .unset, .unset, .unset] [(.int s3), (.int s1)])) t → Steps p.tables e below (s₁.setTop (entryFrame m #[(.int p1), (.int p2), (.int p3), (.int p4), (.int p5), (.int p6)] maxLocals)) t := fun t k => go24 t (by
    show Steps p.tables e below (T22.setTop (mkF m 58 #[.val (.int p1), .val (.int p2), .val (.int p3), .val (.int p4), .val (.int p5), .val (.int p6), .val (.int ((p1 &&& (7 : Int32)) % (5 : Int32))), .val (.int s0), .val (.int s1), .val (.int s2), .val (.int s3), .val (.int u0), .val (.int u2), .unset, .unset, .unset, .unset, .unset, .unset, .unset, .unset, .unset, .unset] [])) _
    refine XS.iload X22.here hx rfl (hb hby at_58) rfl ?_
    show Steps p.tables e below (T22.setTop (mkF m 60 #[.val (.int p1), .val (.int p2), .val (.int p3), .val (.int p4), .val (.int p5), .val (.int p6), .val (.int ((p1 &&& (7 : Int32)) % (5 : Int32))), .val (.int s0), .val (.int s1), .val (.int s2), .val (.int s3), .val (.int u0), .val (.int u2), .unset, .unset, .unset, .unset, .unset, .unset, .unset, .unset, .unset, .unset] [(.int s1)])) _
    refine XS.iload X22.here hx rfl (hb hby at_60) rfl ?_
    exact k)
  obtain ⟨_, _, ⟨T26, L26, k26, n26⟩, -, X26, ⟨Lc26, hQ26, l26, y26, z26⟩, st26⟩ := Jvm.LawKit.callS X22 hx (y := (⟨"java/lang/Math", "min", "(II)I"⟩ : MethodName)) hown (mvT hZ (hw _ (List.mem_of_getElem? (i := 0) rfl))) (mvT hZ (hw _ (List.mem_of_getElem? (i := 1) rfl))) (mvT hZ (hw _ (List.mem_of_getElem? (i := 2) rfl))) (mvT hZ (hw _ (List.mem_of_getElem? (i := 3) rfl))) (by decide) (backOf (W := 0) (rm_mn l Z a0 hw [] s1 s3 h0 n0 Z0 ) hZ (hw _ (List.mem_of_getElem? (i := 3) rfl)) (hw _ (List.mem_of_getElem? (i := 2) rfl)) (by decide) (by decide)) (g := (mkF m 62 #[.val (.int p1), .val (.int p2), .val (.int p3), .val (.int p4), .val (.int p5), .val (.int p6), .val (.int ((p1 &&& (7 : Int32)) % (5 : Int32))), .val (.int s0), .val (.int s1), .val (.int s2), .val (.int s3), .val (.int u0), .val (.int u2), .unset, .unset, .unset, .unset, .unset, .unset, .unset, .unset, .unset, .unset] [(.int s3), (.int s1)])) rfl (by rw [hml]; rfl) (argsL := [(.int s1), (.int s3)]) (rest := []) (lenOf pd_0 rfl) rfl (by show 2 * 0 + _ ≤ _; exact Nat.le_of_eq rfl) (hb hby at_62) (fun _ _ => ⟨rfl, e22, (by decide : 0 + 0 ≤ _), (by decide : 0 + 0 ≤ _)⟩)
  dsimp only [Pt.U, Pt.locs, Pt.cells, Pt.slots] at X26 l26 y26 z26 st26 hQ26
  subst l26 y26 z26
  obtain ⟨rfl, N26q, e26⟩ := hQ26
  have N26 := Fr.app N22 N26q
  have go27 : ∀ t, Steps p.tables e below (T26.setTop (mkF m 65 #[.val (.int p1), .val (.int p2), .val (.int p3), .val (.int p4), .val (.int p5), .val (.int p6), .val (.int ((p1 &&& (7 : Int32)) % (5 : Int32))), .val (.int s0), .val (.int s1), .val (.int s2), .val (.int s3), .val (.int u0), .val (.int u2), .unset, .unset, .unset, .unset, .unset, .unset, .unset, .unset, .unset, .unset] [(.int (own_min s1 s3))])) t → Steps p.tables e below (s₁.setTop (entryFrame m #[(.int p1), (.int p2), (.int p3), (.int p4), (.int p5), (.int p6)] maxLocals)) t := fun t k => go25 t (st26 t k)
  have go28 : ∀ t, Steps p.tables e below (T26.setTop (mkF m 67 #[.val (.int p1), .val (.int p2), .val (.int p3), .val (.int p4), .val (.int p5), .val (.int p6), .val (.int ((p1 &&& (7 : Int32)) % (5 : Int32))), .val (.int s0), .val (.int s1), .val (.int s2), .val (.int s3), .val (.int u0), .val (.int u2), .val (.int (own_min s1 s3)), .unset, .unset, .unset, .unset, .unset, .unset, .unset, .unset, .unset] [])) t → Steps p.tables e below (s₁.setTop (entryFrame m #[(.int p1), (.int p2), (.int p3), (.int p4), (.int p5), (.int p6)] maxLocals)) t := fun t k => go27 t (by
    show Steps p.tables e below (T26.setTop (mkF m 65 #[.val (.int p1), .val (.int p2), .val (.int p3), .val (.int p4), .val (.int p5), .val (.int p6), .val (.int ((p1 &&& (7 : Int32)) % (5 : Int32))), .val (.int s0), .val (.int s1), .val (.int s2), .val (.int s3), .val (.int u0), .val (.int u2), .unset, .unset, .unset, .unset, .unset, .unset, .unset, .unset, .unset, .unset] [(.int (own_min s1 s3))])) _
    refine XS.istore X26.here hx rfl (hb hby at_65) rfl (l' := #[.val (.int p1), .val (.int p2), .val (.int p3), .val (.int p4), .val (.int p5), .val (.int p6), .val (.int ((p1 &&& (7 : Int32)) % (5 : Int32))), .val (.int s0), .val (.int s1), .val (.int s2), .val (.int s3), .val (.int u0), .val (.int u2), .val (.int (own_min s1 s3)), .unset, .unset, .unset, .unset, .unset, .unset, .unset, .unset, .unset]) rfl ?_
    exact k)
  obtain ⟨u1, hu1⟩ : ∃ z, z = (own_min s1 s3) := ⟨_, rfl⟩
  rw [← hu1] at go28
  have go29 : ∀ t, Steps p.tables e below (T26.setTop (mkF m 71 #[.val (.int p1), .val (.int p2), .val (.int p3), .val (.int p4), .val (.int p5), .val (.int p6), .val (.int ((p1 &&& (7 : Int32)) % (5 : Int32))), .val (.int s0), .val (.int s1), .val (.int s2), .val (.int s3), .val (.int u0), .val (.int u2), .val (.int u1), .unset, .unset, .unset, .unset, .unset, .unset, .unset, .unset, .unset] [(.int s3), (.int s1)])) t → Steps p.tables e below (s₁.setTop (entryFrame m #[(.int p1), (.int p2), (.int p3), (.int p4), (.int p5), (.int p6)] maxLocals)) t := fun t k => go28 t (by
    show Steps p.tables e below (T26.setTop (mkF m 67 #[.val (.int p1), .val (.int p2), .val (.int p3), .val (.int p4), .val (.int p5), .val (.int p6), .val (.int ((p1 &&& (7 : Int32)) % (5 : Int32))), .val (.int s0), .val (.int s1), .val (.int s2), .val (.int s3), .val (.int u0), .val (.int u2), .val (.int u1), .unset, .unset, .unset, .unset, .unset, .unset, .unset, .unset, .unset] [])) _
    refine XS.iload X26.here hx rfl (hb hby at_67) rfl ?_
    show Steps p.tables e below (T26.setTop (mkF m 69 #[.val (.int p1), .val (.int p2), .val (.int p3), .val (.int p4), .val (.int p5), .val (.int p6), .val (.int ((p1 &&& (7 : Int32)) % (5 : Int32))), .val (.int s0), .val (.int s1), .val (.int s2), .val (.int s3), .val (.int u0), .val (.int u2), .val (.int u1), .unset, .unset, .unset, .unset, .unset, .unset, .unset, .unset, .unset] [(.int s1)])) _
    refine XS.iload X26.here hx rfl (hb hby at_69) rfl ?_
    exact k)
  obtain ⟨_, _, ⟨T30, L30, k30, n30⟩, -, X30, ⟨Lc30, hQ30, l30, y30, z30⟩, st30⟩ := Jvm.LawKit.callS X26 hx (y := (⟨"java/lang/Math", "max", "(II)I"⟩ : MethodName)) hown (mvT hZ (hw _ (List.mem_of_getElem? (i := 4) rfl))) (mvT hZ (hw _ (List.mem_of_getElem? (i := 5) rfl))) (mvT hZ (hw _ (List.mem_of_getElem? (i := 2) rfl))) (mvT hZ (hw _ (List.mem_of_getElem? (i := 6) rfl))) (by decide) (backOf (W := 0) (rm_mx l Z a0 hw [] s1 s3 h0 n0 Z0 ) hZ (hw _ (List.mem_of_getElem? (i := 6) rfl)) (hw _ (List.mem_of_getElem? (i := 2) rfl)) (by decide) (by decide)) (g := (mkF m 71 #[.val (.int p1), .val (.int p2), .val (.int p3), .val (.int p4), .val (.int p5), .val (.int p6), .val (.int ((p1 &&& (7 : Int32)) % (5 : Int32))), .val (.int s0), .val (.int s1), .val (.int s2), .val (.int s3), .val (.int u0), .val (.int u2), .val (.int u1), .unset, .unset, .unset, .unset, .unset, .unset, .unset, .unset, .unset] [(.int s3), (.int s1)])) rfl (by rw [hml]; rfl) (argsL := [(.int s1), (.int s3)]) (rest := []) (lenOf pd_0 rfl) rfl (by show 2 * 0 + _ ≤ _; exact Nat.le_of_eq rfl) (hb hby at_71) (fun _ _ => ⟨rfl, e26, (by decide : 0 + 0 ≤ _), (by decide : 0 + 0 ≤ _)⟩)
  dsimp only [Pt.U, Pt.locs, Pt.cells, Pt.slots] at X30 l30 y30 z30 st30 hQ30
  subst l30 y30 z30
  obtain ⟨rfl, N30q, e30⟩ := hQ30
  have N30 := Fr.app N26 N30q
  have go31 : ∀ t, Steps p.tables e below (T30.setTop (mkF m 74 #[.val (.int p1), .val (.int p2), .val (.int p3), .val (.int p4), .val (.int p5), .val (.int p6), .val (.int ((p1 &&& (7 : Int32)) % (5 : Int32))), .val (.int s0), .val (.int s1), .val (.int s2), .val (.int s3), .val (.int u0), .val (.int u2), .val (.int u1), .unset, .unset, .unset, .unset, .unset, .unset, .unset, .unset, .unset] [(.int (own_max s1 s3))])) t → Steps p.tables e below (s₁.setTop (entryFrame m #[(.int p1), (.int p2), (.int p3), (.int p4), (.int p5), (.int p6)] maxLocals)) t := fun t k => go29 t (st30 t k)
  have go32 : ∀ t, Steps p.tables e below (T30.setTop (mkF m 76 #[.val (.int p1), .val (.int p2), .val (.int p3), .val (.int p4), .val (.int p5), .val (.int p6), .val (.int ((p1 &&& (7 : Int32)) % (5 : Int32))), .val (.int s0), .val (.int s1), .val (.int s2), .val (.int s3), .val (.int u0), .val (.int u2), .val (.int u1), .val (.int (own_max s1 s3)), .unset, .unset, .unset, .unset, .unset, .unset, .unset, .unset] [])) t → Steps p.tables e below (s₁.setTop (entryFrame m #[(.int p1), (.int p2), (.int p3), (.int p4), (.int p5), (.int p6)] maxLocals)) t := fun t k => go31 t (by
    show Steps p.tables e below (T30.setTop (mkF m 74 #[.val (.int p1), .val (.int p2), .val (.int p3), .val (.int p4), .val (.int p5), .val (.int p6), .val (.int ((p1 &&& (7 : Int32)) % (5 : Int32))), .val (.int s0), .val (.int s1), .val (.int s2), .val (.int s3), .val (.int u0), .val (.int u2), .val (.int u1), .unset, .unset, .unset, .unset, .unset, .unset, .unset, .unset, .unset] [(.int (own_max s1 s3))])) _
    refine XS.istore X30.here hx rfl (hb hby at_74) rfl (l' := #[.val (.int p1), .val (.int p2), .val (.int p3), .val (.int p4), .val (.int p5), .val (.int p6), .val (.int ((p1 &&& (7 : Int32)) % (5 : Int32))), .val (.int s0), .val (.int s1), .val (.int s2), .val (.int s3), .val (.int u0), .val (.int u2), .val (.int u1), .val (.int (own_max s1 s3)), .unset, .unset, .unset, .unset, .unset, .unset, .unset, .unset]) rfl ?_
    exact k)
  obtain ⟨u3, hu3⟩ : ∃ z, z = (own_max s1 s3) := ⟨_, rfl⟩
  rw [← hu3] at go32
  have go33 : ∀ t, Steps p.tables e below (T30.setTop (mkF m 80 #[.val (.int p1), .val (.int p2), .val (.int p3), .val (.int p4), .val (.int p5), .val (.int p6), .val (.int ((p1 &&& (7 : Int32)) % (5 : Int32))), .val (.int s0), .val (.int s1), .val (.int s2), .val (.int s3), .val (.int u0), .val (.int u2), .val (.int u1), .val (.int u3), .unset, .unset, .unset, .unset, .unset, .unset, .unset, .unset] [(.int u2), (.int u1)])) t → Steps p.tables e below (s₁.setTop (entryFrame m #[(.int p1), (.int p2), (.int p3), (.int p4), (.int p5), (.int p6)] maxLocals)) t := fun t k => go32 t (by
    show Steps p.tables e below (T30.setTop (mkF m 76 #[.val (.int p1), .val (.int p2), .val (.int p3), .val (.int p4), .val (.int p5), .val (.int p6), .val (.int ((p1 &&& (7 : Int32)) % (5 : Int32))), .val (.int s0), .val (.int s1), .val (.int s2), .val (.int s3), .val (.int u0), .val (.int u2), .val (.int u1), .val (.int u3), .unset, .unset, .unset, .unset, .unset, .unset, .unset, .unset] [])) _
    refine XS.iload X30.here hx rfl (hb hby at_76) rfl ?_
    show Steps p.tables e below (T30.setTop (mkF m 78 #[.val (.int p1), .val (.int p2), .val (.int p3), .val (.int p4), .val (.int p5), .val (.int p6), .val (.int ((p1 &&& (7 : Int32)) % (5 : Int32))), .val (.int s0), .val (.int s1), .val (.int s2), .val (.int s3), .val (.int u0), .val (.int u2), .val (.int u1), .val (.int u3), .unset, .unset, .unset, .unset, .unset, .unset, .unset, .unset] [(.int u1)])) _
    refine XS.iload X30.here hx rfl (hb hby at_78) rfl ?_
    exact k)
  obtain ⟨_, _, ⟨T34, L34, k34, n34⟩, -, X34, ⟨Lc34, hQ34, l34, y34, z34⟩, st34⟩ := Jvm.LawKit.callS X30 hx (y := (⟨"java/lang/Math", "min", "(II)I"⟩ : MethodName)) hown (mvT hZ (hw _ (List.mem_of_getElem? (i := 0) rfl))) (mvT hZ (hw _ (List.mem_of_getElem? (i := 1) rfl))) (mvT hZ (hw _ (List.mem_of_getElem? (i := 2) rfl))) (mvT hZ (hw _ (List.mem_of_getElem? (i := 3) rfl))) (by decide) (backOf (W := 0) (rm_mn l Z a0 hw [] u1 u2 h0 n0 Z0 ) hZ (hw _ (List.mem_of_getElem? (i := 3) rfl)) (hw _ (List.mem_of_getElem? (i := 2) rfl)) (by decide) (by decide)) (g := (mkF m 80 #[.val (.int p1), .val (.int p2), .val (.int p3), .val (.int p4), .val (.int p5), .val (.int p6), .val (.int ((p1 &&& (7 : Int32)) % (5 : Int32))), .val (.int s0), .val (.int s1), .val (.int s2), .val (.int s3), .val (.int u0), .val (.int u2), .val (.int u1), .val (.int u3), .unset, .unset, .unset, .unset, .unset, .unset, .unset, .unset] [(.int u2), (.int u1)])) rfl (by rw [hml]; rfl) (argsL := [(.int u1), (.int u2)]) (rest := []) (lenOf pd_0 rfl) rfl (by show 2 * 0 + _ ≤ _; exact Nat.le_of_eq rfl) (hb hby at_80) (fun _ _ => ⟨rfl, e30, (by decide : 0 + 0 ≤ _), (by decide : 0 + 0 ≤ _)⟩)
  dsimp only [Pt.U, Pt.locs, Pt.cells, Pt.slots] at X34 l34 y34 z34 st34 hQ34
  subst l34 y34 z34
  obtain ⟨rfl, N34q, e34⟩ := hQ34
  have N34 := Fr.app N30 N34q
  have go35 : ∀ t, Steps p.tables e below (T34.setTop (mkF m 83 #[.val (.int p1), .val (.int p2), .val (.int p3), .val (.int p4), .val (.int p5), .val (.int p6), .val (.int ((p1 &&& (7 : Int32)) % (5 : Int32))), .val (.int s0), .val (.int s1), .val (.int s2), .val (.int s3), .val (.int u0), .val (.int u2), .val (.int u1), .val (.int u3), .unset, .unset, .unset, .unset, .unset, .unset, .unset, .unset] [(.int (own_min u1 u2))])) t → Steps p.tables e below (s₁.setTop (entryFrame m #[(.int p1), (.int p2), (.int p3), (.int p4), (.int p5), (.int p6)] maxLocals)) t := fun t k => go33 t (st34 t k)
  have go36 : ∀ t, Steps p.tables e below (T34.setTop (mkF m 85 #[.val (.int p1), .val (.int p2), .val (.int p3), .val (.int p4), .val (.int p5), .val (.int p6), .val (.int ((p1 &&& (7 : Int32)) % (5 : Int32))), .val (.int s0), .val (.int s1), .val (.int s2), .val (.int s3), .val (.int u0), .val (.int u2), .val (.int u1), .val (.int u3), .val (.int (own_min u1 u2)), .unset, .unset, .unset, .unset, .unset, .unset, .unset] [])) t → Steps p.tables e below (s₁.setTop (entryFrame m #[(.int p1), (.int p2), (.int p3), (.int p4), (.int p5), (.int p6)] maxLocals)) t := fun t k => go35 t (by
    show Steps p.tables e below (T34.setTop (mkF m 83 #[.val (.int p1), .val (.int p2), .val (.int p3), .val (.int p4), .val (.int p5), .val (.int p6), .val (.int ((p1 &&& (7 : Int32)) % (5 : Int32))), .val (.int s0), .val (.int s1), .val (.int s2), .val (.int s3), .val (.int u0), .val (.int u2), .val (.int u1), .val (.int u3), .unset, .unset, .unset, .unset, .unset, .unset, .unset, .unset] [(.int (own_min u1 u2))])) _
    refine XS.istore X34.here hx rfl (hb hby at_83) rfl (l' := #[.val (.int p1), .val (.int p2), .val (.int p3), .val (.int p4), .val (.int p5), .val (.int p6), .val (.int ((p1 &&& (7 : Int32)) % (5 : Int32))), .val (.int s0), .val (.int s1), .val (.int s2), .val (.int s3), .val (.int u0), .val (.int u2), .val (.int u1), .val (.int u3), .val (.int (own_min u1 u2)), .unset, .unset, .unset, .unset, .unset, .unset, .unset]) rfl ?_
    exact k)
  obtain ⟨w1, hw1⟩ : ∃ z, z = (own_min u1 u2) := ⟨_, rfl⟩
  rw [← hw1] at go36
  have go37 : ∀ t, Steps p.tables e below (T34.setTop (mkF m 89 #[.val (.int p1), .val (.int p2), .val (.int p3), .val (.int p4), .val (.int p5), .val (.int p6), .val (.int ((p1 &&& (7 : Int32)) % (5 : Int32))), .val (.int s0), .val (.int s1), .val (.int s2), .val (.int s3), .val (.int u0), .val (.int u2), .val (.int u1), .val (.int u3), .val (.int w1), .unset, .unset, .unset, .unset, .unset, .unset, .unset] [(.int u2), (.int u1)])) t → Steps p.tables e below (s₁.setTop (entryFrame m #[(.int p1), (.int p2), (.int p3), (.int p4), (.int p5), (.int p6)] maxLocals)) t := fun t k => go36 t (by
    show Steps p.tables e below (T34.setTop (mkF m 85 #[.val (.int p1), .val (.int p2), .val (.int p3), .val (.int p4), .val (.int p5), .val (.int p6), .val (.int ((p1 &&& (7 : Int32)) % (5 : Int32))), .val (.int s0), .val (.int s1), .val (.int s2), .val (.int s3), .val (.int u0), .val (.int u2), .val (.int u1), .val (.int u3), .val (.int w1), .unset, .unset, .unset, .unset, .unset, .unset, .unset] [])) _
    refine XS.iload X34.here hx rfl (hb hby at_85) rfl ?_
    show Steps p.tables e below (T34.setTop (mkF m 87 #[.val (.int p1), .val (.int p2), .val (.int p3), .val (.int p4), .val (.int p5), .val (.int p6), .val (.int ((p1 &&& (7 : Int32)) % (5 : Int32))), .val (.int s0), .val (.int s1), .val (.int s2), .val (.int s3), .val (.int u0), .val (.int u2), .val (.int u1), .val (.int u3), .val (.int w1), .unset, .unset, .unset, .unset, .unset, .unset, .unset] [(.int u1)])) _
    refine XS.iload X34.here hx rfl (hb hby at_87) rfl ?_
    exact k)
  obtain ⟨_, _, ⟨T38, L38, k38, n38⟩, -, X38, ⟨Lc38, hQ38, l38, y38, z38⟩, st38⟩ := Jvm.LawKit.callS X34 hx (y := (⟨"java/lang/Math", "max", "(II)I"⟩ : MethodName)) hown (mvT hZ (hw _ (List.mem_of_getElem? (i := 4) rfl))) (mvT hZ (hw _ (List.mem_of_getElem? (i := 5) rfl))) (mvT hZ (hw _ (List.mem_of_getElem? (i := 2) rfl))) (mvT hZ (hw _ (List.mem_of_getElem? (i := 6) rfl))) (by decide) (backOf (W := 0) (rm_mx l Z a0 hw [] u1 u2 h0 n0 Z0 ) hZ (hw _ (List.mem_of_getElem? (i := 6) rfl)) (hw _ (List.mem_of_getElem? (i := 2) rfl)) (by decide) (by decide)) (g := (mkF m 89 #[.val (.int p1), .val (.int p2), .val (.int p3), .val (.int p4), .val (.int p5), .val (.int p6), .val (.int ((p1 &&& (7 : Int32)) % (5 : Int32))), .val (.int s0), .val (.int s1), .val (.int s2), .val (.int s3), .val (.int u0), .val (.int u2), .val (.int u1), .val (.int u3), .val (.int w1), .unset, .unset, .unset, .unset, .unset, .unset, .unset] [(.int u2), (.int u1)])) rfl (by rw [hml]; rfl) (argsL := [(.int u1), (.int u2)]) (rest := []) (lenOf pd_0 rfl) rfl (by show 2 * 0 + _ ≤ _; exact Nat.le_of_eq rfl) (hb hby at_89) (fun _ _ => ⟨rfl, e34, (by decide : 0 + 0 ≤ _), (by decide : 0 + 0 ≤ _)⟩)
  dsimp only [Pt.U, Pt.locs, Pt.cells, Pt.slots] at X38 l38 y38 z38 st38 hQ38
  subst l38 y38 z38
  obtain ⟨rfl, N38q, e38⟩ := hQ38
  have N38 := Fr.app N34 N38q
  have go39 : ∀ t, Steps p.tables e below (T38.setTop (mkF m 92 #[.val (.int p1), .val (.int p2), .val (.int p3), .val (.int p4), .val (.int p5), .val (.int p6), .val (.int ((p1 &&& (7 : Int32)) % (5 : Int32))), .val (.int s0), .val (.int s1), .val (.int s2), .val (.int s3), .val (.int u0), .val (.int u2), .val (.int u1), .val (.int u3), .val (.int w1), .unset, .unset, .unset, .unset, .unset, .unset, .unset] [(.int (own_max u1 u2))])) t → Steps p.tables e below (s₁.setTop (entryFrame m #[(.int p1), (.int p2), (.int p3), (.int p4), (.int p5), (.int p6)] maxLocals)) t := fun t k => go37 t (st38 t k)
  have go40 : ∀ t, Steps p.tables e below (T38.setTop (mkF m 94 #[.val (.int p1), .val (.int p2), .val (.int p3), .val (.int p4), .val (.int p5), .val (.int p6), .val (.int ((p1 &&& (7 : Int32)) % (5 : Int32))), .val (.int s0), .val (.int s1), .val (.int s2), .val (.int s3), .val (.int u0), .val (.int u2), .val (.int u1), .val (.int u3), .val (.int w1), .val (.int (own_max u1 u2)), .unset, .unset, .unset, .unset, .unset, .unset] [])) t → Steps p.tables e below (s₁.setTop (entryFrame m #[(.int p1), (.int p2), (.int p3), (.int p4), (.int p5), (.int p6)] maxLocals)) t := fun t k => go39 t (by
    show Steps p.tables e below (T38.setTop (mkF m 92 #[.val (.int p1), .val (.int p2), .val (.int p3), .val (.int p4), .val (.int p5), .val (.int p6), .val (.int ((p1 &&& (7 : Int32)) % (5 : Int32))), .val (.int s0), .val (.int s1), .val (.int s2), .val (.int s3), .val (.int u0), .val (.int u2), .val (.int u1), .val (.int u3), .val (.int w1), .unset, .unset, .unset, .unset, .unset, .unset, .unset] [(.int (own_max u1 u2))])) _
    refine XS.istore X38.here hx rfl (hb hby at_92) rfl (l' := #[.val (.int p1), .val (.int p2), .val (.int p3), .val (.int p4), .val (.int p5), .val (.int p6), .val (.int ((p1 &&& (7 : Int32)) % (5 : Int32))), .val (.int s0), .val (.int s1), .val (.int s2), .val (.int s3), .val (.int u0), .val (.int u2), .val (.int u1), .val (.int u3), .val (.int w1), .val (.int (own_max u1 u2)), .unset, .unset, .unset, .unset, .unset, .unset]) rfl ?_
    exact k)
  obtain ⟨w2, hw2⟩ : ∃ z, z = (own_max u1 u2) := ⟨_, rfl⟩
  rw [← hw2] at go40
  obtain ⟨hs1, hs2, hs3⟩ := own_sorts hs0 hs1 hs2 hs3 hu0 hu2 hu1 hu3 hw1 hw2
  have go41 : ∀ t, Steps p.tables e below (T38.setTop (mkF m 99 #[.val (.int p1), .val (.int p2), .val (.int p3), .val (.int p4), .val (.int p5), .val (.int p6), .val (.int ((p1 &&& (7 : Int32)) % (5 : Int32))), .val (.int s0), .val (.int s1), .val (.int s2), .val (.int s3), .val (.int u0), .val (.int u2), .val (.int u1), .val (.int u3), .val (.int w1), .val (.int w2), .val (.int (p2 &&& (3 : Int32))), .unset, .unset, .unset, .unset, .unset] [])) t → Steps p.tables e below (s₁.setTop (entryFrame m #[(.int p1), (.int p2), (.int p3), (.int p4), (.int p5), (.int p6)] maxLocals)) t := fun t k => go40 t (by
    show Steps p.tables e below (T38.setTop (mkF m 94 #[.val (.int p1), .val (.int p2), .val (.int p3), .val (.int p4), .val (.int p5), .val (.int p6), .val (.int ((p1 &&& (7 : Int32)) % (5 : Int32))), .val (.int s0), .val (.int s1), .val (.int s2), .val (.int s3), .val (.int u0), .val (.int u2), .val (.int u1), .val (.int u3), .val (.int w1), .val (.int w2), .unset, .unset, .unset, .unset, .unset, .unset] [])) _
    refine XS.iloadN X38.here hx rfl (hb hby at_94) rfl ?_
    show Steps p.tables e below (T38.setTop (mkF m 95 #[.val (.int p1), .val (.int p2), .val (.int p3), .val (.int p4), .val (.int p5), .val (.int p6), .val (.int ((p1 &&& (7 : Int32)) % (5 : Int32))), .val (.int s0), .val (.int s1), .val (.int s2), .val (.int s3), .val (.int u0), .val (.int u2), .val (.int u1), .val (.int u3), .val (.int w1), .val (.int w2), .unset, .unset, .unset, .unset, .unset, .unset] [(.int p2)])) _
    refine XS.iconst X38.here hx rfl (hb hby at_95) ?_
    show Steps p.tables e below (T38.setTop (mkF m 96 #[.val (.int p1), .val (.int p2), .val (.int p3), .val (.int p4), .val (.int p5), .val (.int p6), .val (.int ((p1 &&& (7 : Int32)) % (5 : Int32))), .val (.int s0), .val (.int s1), .val (.int s2), .val (.int s3), .val (.int u0), .val (.int u2), .val (.int u1), .val (.int u3), .val (.int w1), .val (.int w2), .unset, .unset, .unset, .unset, .unset, .unset] [(.int (3 : Int32)), (.int p2)])) _
    refine XS.iand X38.here hx rfl (hb hby at_96) rfl ?_
    show Steps p.tables e below (T38.setTop (mkF m 97 #[.val (.int p1), .val (.int p2), .val (.int p3), .val (.int p4), .val (.int p5), .val (.int p6), .val (.int ((p1 &&& (7 : Int32)) % (5 : Int32))), .val (.int s0), .val (.int s1), .val (.int s2), .val (.int s3), .val (.int u0), .val (.int u2), .val (.int u1), .val (.int u3), .val (.int w1), .val (.int w2), .unset, .unset, .unset, .unset, .unset, .unset] [(.int (p2 &&& (3 : Int32)))])) _
    refine XS.istore X38.here hx rfl (hb hby at_97) rfl (l' := #[.val (.int p1), .val (.int p2), .val (.int p3), .val (.int p4), .val (.int p5), .val (.int p6), .val (.int ((p1 &&& (7 : Int32)) % (5 : Int32))), .val (.int s0), .val (.int s1), .val (.int s2), .val (.int s3), .val (.int u0), .val (.int u2), .val (.int u1), .val (.int u3), .val (.int w1), .val (.int w2), .val (.int (p2 &&& (3 : Int32))), .unset, .unset, .unset, .unset, .unset]) rfl ?_
    exact k)
  obtain ⟨e1, go52⟩ : ∃ e1 : Int32, ∀ t, Steps p.tables e below (T38.setTop (mkF m 141 #[.val (.int p1), .val (.int p2), .val (.int p3), .val (.int p4), .val (.int p5), .val (.int p6), .val (.int ((p1 &&& (7 : Int32)) % (5 : Int32))), .val (.int s0), .val (.int s1), .val (.int s2), .val (.int s3), .val (.int u0), .val (.int u2), .val (.int u1), .val (.int u3), .val (.int w1), .val (.int w2), .val (.int (p2 &&& (3 : Int32))), .val (.int e1), .unset, .unset, .unset, .unset] [])) t → Steps p.tables e below (s₁.setTop (entryFrame m #[(.int p1), (.int p2), (.int p3), (.int p4), (.int p5), (.int p6)] maxLocals)) t := by
    have go42 : ∀ t, Steps p.tables e below (T38.setTop (mkF m 101 #[.val (.int p1), .val (.int p2), .val (.int p3), .val (.int p4), .val (.int p5), .val (.int p6), .val (.int ((p1 &&& (7 : Int32)) % (5 : Int32))), .val (.int s0), .val (.int s1), .val (.int s2), .val (.int s3), .val (.int u0), .val (.int u2), .val (.int u1), .val (.int u3), .val (.int w1), .val (.int w2), .val (.int (p2 &&& (3 : Int32))), .unset, .unset, .unset, .unset, .unset] [(.int (p2 &&& (3 : Int32)))])) t → Steps p.tables e below (s₁.setTop (entryFrame m #[(.int p1), (.int p2), (.int p3), (.int p4), (.int p5), (.int p6)] maxLocals)) t := fun t k => go41 t (by
      show Steps p.tables e below (T38.setTop (mkF m 99 #[.val (.int p1), .val (.int p2), .val (.int p3), .val (.int p4), .val (.int p5), .val (.int p6), .val (.int ((p1 &&& (7 : Int32)) % (5 : Int32))), .val (.int s0), .val (.int s1), .val (.int s2), .val (.int s3), .val (.int u0), .val (.int u2), .val (.int u1), .val (.int u3), .val (.int w1), .val (.int w2), .val (.int (p2 &&& (3 : Int32))), .unset, .unset, .unset, .unset, .unset] [])) _
      refine XS.iload X38.here hx rfl (hb hby at_99) rfl ?_
      exact k)
    by_cases hc43 : (p2 &&& (3 : Int32)) = (0 : Int32)
    · have go44 : ∀ t, Steps p.tables e below (T38.setTop (mkF m 141 #[.val (.int p1), .val (.int p2), .val (.int p3), .val (.int p4), .val (.int p5), .val (.int p6), .val (.int ((p1 &&& (7 : Int32)) % (5 : Int32))), .val (.int s0), .val (.int s1), .val (.int s2), .val (.int s3), .val (.int u0), .val (.int u2), .val (.int u1), .val (.int u3), .val (.int w1), .val (.int w2), .val (.int (p2 &&& (3 : Int32))), .val (.int u0), .unset, .unset, .unset, .unset] [])) t → Steps p.tables e below (s₁.setTop (entryFrame m #[(.int p1), (.int p2), (.int p3), (.int p4), (.int p5), (.int p6)] maxLocals)) t := fun t k => go42 t (by
        show Steps p.tables e below (T38.setTop (mkF m 101 #[.val (.int p1), .val (.int p2), .val (.int p3), .val (.int p4), .val (.int p5), .val (.int p6), .val (.int ((p1 &&& (7 : Int32)) % (5 : Int32))), .val (.int s0), .val (.int s1), .val (.int s2), .val (.int s3), .val (.int u0), .val (.int u2), .val (.int u1), .val (.int u3), .val (.int w1), .val (.int w2), .val (.int (p2 &&& (3 : Int32))), .unset, .unset, .unset, .unset, .unset] [(.int (p2 &&& (3 : Int32)))])) _
        refine XS.ifNo X38.here hx rfl (hb hby at_101) rfl ((if0 _ _).trans (teq hc43).2) ?_
        show Steps p.tables e below (T38.setTop (mkF m 104 #[.val (.int p1), .val (.int p2), .val (.int p3), .val (.int p4), .val (.int p5), .val (.int p6), .val (.int ((p1 &&& (7 : Int32)) % (5 : Int32))), .val (.int s0), .val (.int s1), .val (.int s2), .val (.int s3), .val (.int u0), .val (.int u2), .val (.int u1), .val (.int u3), .val (.int w1), .val (.int w2), .val (.int (p2 &&& (3 : Int32))), .unset, .unset, .unset, .unset, .unset] [])) _
        refine XS.iload X38.here hx rfl (hb hby at_104) rfl ?_
        show Steps p.tables e below (T38.setTop (mkF m 106 #[.val (.int p1), .val (.int p2), .val (.int p3), .val (.int p4), .val (.int p5), .val (.int p6), .val (.int ((p1 &&& (7 : Int32)) % (5 : Int32))), .val (.int s0), .val (.int s1), .val (.int s2), .val (.int s3), .val (.int u0), .val (.int u2), .val (.int u1), .val (.int u3), .val (.int w1), .val (.int w2), .val (.int (p2 &&& (3 : Int32))), .unset, .unset, .unset, .unset, .unset] [(.int u0)])) _
        refine XS.istore X38.here hx rfl (hb hby at_106) rfl (l' := #[.val (.int p1), .val (.int p2), .val (.int p3), .val (.int p4), .val (.int p5), .val (.int p6), .val (.int ((p1 &&& (7 : Int32)) % (5 : Int32))), .val (.int s0), .val (.int s1), .val (.int s2), .val (.int s3), .val (.int u0), .val (.int u2), .val (.int u1), .val (.int u3), .val (.int w1), .val (.int w2), .val (.int (p2 &&& (3 : Int32))), .val (.int u0), .unset, .unset, .unset, .unset]) rfl ?_
        show Steps p.tables e below (T38.setTop (mkF m 108 #[.val (.int p1), .val (.int p2), .val (.int p3), .val (.int p4), .val (.int p5), .val (.int p6), .val (.int ((p1 &&& (7 : Int32)) % (5 : Int32))), .val (.int s0), .val (.int s1), .val (.int s2), .val (.int s3), .val (.int u0), .val (.int u2), .val (.int u1), .val (.int u3), .val (.int w1), .val (.int w2), .val (.int (p2 &&& (3 : Int32))), .val (.int u0), .unset, .unset, .unset, .unset] [])) _
        refine XS.goto X38.here hx rfl (pc0 := 108) (pc' := 141) rfl (hb hby at_108) (by decide) (by decide) ?_
        exact k)
      exact ⟨u0, go44⟩
    · have go45 : ∀ t, Steps p.tables e below (T38.setTop (mkF m 114 #[.val (.int p1), .val (.int p2), .val (.int p3), .val (.int p4), .val (.int p5), .val (.int p6), .val (.int ((p1 &&& (7 : Int32)) % (5 : Int32))), .val (.int s0), .val (.int s1), .val (.int s2), .val (.int s3), .val (.int u0), .val (.int u2), .val (.int u1), .val (.int u3), .val (.int w1), .val (.int w2), .val (.int (p2 &&& (3 : Int32))), .unset, .unset, .unset, .unset, .unset] [(.int (1 : Int32)), (.int (p2 &&& (3 : Int32)))])) t → Steps p.tables e below (s₁.setTop (entryFrame m #[(.int p1), (.int p2), (.int p3), (.int p4), (.int p5), (.int p6)] maxLocals)) t := fun t k => go42 t (by
        show Steps p.tables e below (T38.setTop (mkF m 101 #[.val (.int p1), .val (.int p2), .val (.int p3), .val (.int p4), .val (.int p5), .val (.int p6), .val (.int ((p1 &&& (7 : Int32)) % (5 : Int32))), .val (.int s0), .val (.int s1), .val (.int s2), .val (.int s3), .val (.int u0), .val (.int u2), .val (.int u1), .val (.int u3), .val (.int w1), .val (.int w2), .val (.int (p2 &&& (3 : Int32))), .unset, .unset, .unset, .unset, .unset] [(.int (p2 &&& (3 : Int32)))])) _
        refine XS.ifYes X38.here hx rfl (pc0 := 101) (pc' := 111) rfl (hb hby at_101) rfl ((if0 _ _).trans (feq hc43).2) (by decide) (by decide) ?_
        show Steps p.tables e below (T38.setTop (mkF m 111 #[.val (.int p1), .val (.int p2), .val (.int p3), .val (.int p4), .val (.int p5), .val (.int p6), .val (.int ((p1 &&& (7 : Int32)) % (5 : Int32))), .val (.int s0), .val (.int s1), .val (.int s2), .val (.int s3), .val (.int u0), .val (.int u2), .val (.int u1), .val (.int u3), .val (.int w1), .val (.int w2), .val (.int (p2 &&& (3 : Int32))), .unset, .unset, .unset, .unset, .unset] [])) _
        refine XS.iload X38.here hx rfl (hb hby at_111) rfl ?_
        show Steps p.tables e below (T38.setTop (mkF m 113 #[.val (.int p1), .val (.int p2), .val (.int p3), .val (.int p4), .val (.int p5), .val (.int p6), .val (.int ((p1 &&& (7 : Int32)) % (5 : Int32))), .val (.int s0), .val (.int s1), .val (.int s2), .val (.int s3), .val (.int u0), .val (.int u2), .val (.int u1), .val (.int u3), .val (.int w1), .val (.int w2), .val (.int (p2 &&& (3 : Int32))), .unset, .unset, .unset, .unset, .unset] [(.int (p2 &&& (3 : Int32)))])) _
        refine XS.iconst X38.here hx rfl (hb hby at_113) ?_
        exact k)
      by_cases hc46 : (p2 &&& (3 : Int32)) = (1 : Int32)
      · have go47 : ∀ t, Steps p.tables e below (T38.setTop (mkF m 141 #[.val (.int p1), .val (.int p2), .val (.int p3), .val (.int p4), .val (.int p5), .val (.int p6), .val (.int ((p1 &&& (7 : Int32)) % (5 : Int32))), .val (.int s0), .val (.int s1), .val (.int s2), .val (.int s3), .val (.int u0), .val (.int u2), .val (.int u1), .val (.int u3), .val (.int w1), .val (.int w2), .val (.int (p2 &&& (3 : Int32))), .val (.int w1), .unset, .unset, .unset, .unset] [])) t → Steps p.tables e below (s₁.setTop (entryFrame m #[(.int p1), (.int p2), (.int p3), (.int p4), (.int p5), (.int p6)] maxLocals)) t := fun t k => go45 t (by
          show Steps p.tables e below (T38.setTop (mkF m 114 #[.val (.int p1), .val (.int p2), .val (.int p3), .val (.int p4), .val (.int p5), .val (.int p6), .val (.int ((p1 &&& (7 : Int32)) % (5 : Int32))), .val (.int s0), .val (.int s1), .val (.int s2), .val (.int s3), .val (.int u0), .val (.int u2), .val (.int u1), .val (.int u3), .val (.int w1), .val (.int w2), .val (.int (p2 &&& (3 : Int32))), .unset, .unset, .unset, .unset, .unset] [(.int (1 : Int32)), (.int (p2 &&& (3 : Int32)))])) _
          refine XS.icmpNo X38.here hx rfl (hb hby at_114) rfl (teq hc46).2 ?_
          show Steps p.tables e below (T38.setTop (mkF m 117 #[.val (.int p1), .val (.int p2), .val (.int p3), .val (.int p4), .val (.int p5), .val (.int p6), .val (.int ((p1 &&& (7 : Int32)) % (5 : Int32))), .val (.int s0), .val (.int s1), .val (.int s2), .val (.int s3), .val (.int u0), .val (.int u2), .val (.int u1), .val (.int u3), .val (.int w1), .val (.int w2), .val (.int (p2 &&& (3 : Int32))), .unset, .unset, .unset, .unset, .unset] [])) _
          refine XS.iload X38.here hx rfl (hb hby at_117) rfl ?_
          show Steps p.tables e below (T38.setTop (mkF m 119 #[.val (.int p1), .val (.int p2), .val (.int p3), .val (.int p4), .val (.int p5), .val (.int p6), .val (.int ((p1 &&& (7 : Int32)) % (5 : Int32))), .val (.int s0), .val (.int s1), .val (.int s2), .val (.int s3), .val (.int u0), .val (.int u2), .val (.int u1), .val (.int u3), .val (.int w1), .val (.int w2), .val (.int (p2 &&& (3 : Int32))), .unset, .unset, .unset, .unset, .unset] [(.int w1)])) _
          refine XS.istore X38.here hx rfl (hb hby at_119) rfl (l' := #[.val (.int p1), .val (.int p2), .val (.int p3), .val (.int p4), .val (.int p5), .val (.int p6), .val (.int ((p1 &&& (7 : Int32)) % (5 : Int32))), .val (.int s0), .val (.int s1), .val (.int s2), .val (.int s3), .val (.int u0), .val (.int u2), .val (.int u1), .val (.int u3), .val (.int w1), .val (.int w2), .val (.int (p2 &&& (3 : Int32))), .val (.int w1), .unset, .unset, .unset, .unset]) rfl ?_
          show Steps p.tables e below (T38.setTop (mkF m 121 #[.val (.int p1), .val (.int p2), .val (.int p3), .val (.int p4), .val (.int p5), .val (.int p6), .val (.int ((p1 &&& (7 : Int32)) % (5 : Int32))), .val (.int s0), .val (.int s1), .val (.int s2), .val (.int s3), .val (.int u0), .val (.int u2), .val (.int u1), .val (.int u3), .val (.int w1), .val (.int w2), .val (.int (p2 &&& (3 : Int32))), .val (.int w1), .unset, .unset, .unset, .unset] [])) _
          refine XS.goto X38.here hx rfl (pc0 := 121) (pc' := 141) rfl (hb hby at_121) (by decide) (by decide) ?_
          exact k)
        exact ⟨w1, go47⟩
      · have go48 : ∀ t, Steps p.tables e below (T38.setTop (mkF m 127 #[.val (.int p1), .val (.int p2), .val (.int p3), .val (.int p4), .val (.int p5), .val (.int p6), .val (.int ((p1 &&& (7 : Int32)) % (5 : Int32))), .val (.int s0), .val (.int s1), .val (.int s2), .val (.int s3), .val (.int u0), .val (.int u2), .val (.int u1), .val (.int u3), .val (.int w1), .val (.int w2), .val (.int (p2 &&& (3 : Int32))), .unset, .unset, .unset, .unset, .unset] [(.int (2 : Int32)), (.int (p2 &&& (3 : Int32)))])) t → Steps p.tables e below (s₁.setTop (entryFrame m #[(.int p1), (.int p2), (.int p3), (.int p4), (.int p5), (.int p6)] maxLocals)) t := fun t k => go45 t (by
          show Steps p.tables e below (T38.setTop (mkF m 114 #[.val (.int p1), .val (.int p2), .val (.int p3), .val (.int p4), .val (.int p5), .val (.int p6), .val (.int ((p1 &&& (7 : Int32)) % (5 : Int32))), .val (.int s0), .val (.int s1), .val (.int s2), .val (.int s3), .val (.int u0), .val (.int u2), .val (.int u1), .val (.int u3), .val (.int w1), .val (.int w2), .val (.int (p2 &&& (3 : Int32))), .unset, .unset, .unset, .unset, .unset] [(.int (1 : Int32)), (.int (p2 &&& (3 : Int32)))])) _
          refine XS.icmpYes X38.here hx rfl (pc0 := 114) (pc' := 124) rfl (hb hby at_114) rfl (feq hc46).2 (by decide) (by decide) ?_
          show Steps p.tables e below (T38.setTop (mkF m 124 #[.val (.int p1), .val (.int p2), .val (.int p3), .val (.int p4), .val (.int p5), .val (.int p6), .val (.int ((p1 &&& (7 : Int32)) % (5 : Int32))), .val (.int s0), .val (.int s1), .val (.int s2), .val (.int s3), .val (.int u0), .val (.int u2), .val (.int u1), .val (.int u3), .val (.int w1), .val (.int w2), .val (.int (p2 &&& (3 : Int32))), .unset, .unset, .unset, .unset, .unset] [])) _
          refine XS.iload X38.here hx rfl (hb hby at_124) rfl ?_
          show Steps p.tables e below (T38.setTop (mkF m 126 #[.val (.int p1), .val (.int p2), .val (.int p3), .val (.int p4), .val (.int p5), .val (.int p6), .val (.int ((p1 &&& (7 : Int32)) % (5 : Int32))), .val (.int s0), .val (.int s1), .val (.int s2), .val (.int s3), .val (.int u0), .val (.int u2), .val (.int u1), .val (.int u3), .val (.int w1), .val (.int w2), .val (.int (p2 &&& (3 : Int32))), .unset, .unset, .unset, .unset, .unset] [(.int (p2 &&& (3 : Int32)))])) _
          refine XS.iconst X38.here hx rfl (hb hby at_126) ?_
          exact k)
        by_cases hc49 : (p2 &&& (3 : Int32)) = (2 : Int32)
        · have go50 : ∀ t, Steps p.tables e below (T38.setTop (mkF m 141 #[.val (.int p1), .val (.int p2), .val (.int p3), .val (.int p4), .val (.int p5), .val (.int p6), .val (.int ((p1 &&& (7 : Int32)) % (5 : Int32))), .val (.int s0), .val (.int s1), .val (.int s2), .val (.int s3), .val (.int u0), .val (.int u2), .val (.int u1), .val (.int u3), .val (.int w1), .val (.int w2), .val (.int (p2 &&& (3 : Int32))), .val (.int w2), .unset, .unset, .unset, .unset] [])) t → Steps p.tables e below (s₁.setTop (entryFrame m #[(.int p1), (.int p2), (.int p3), (.int p4), (.int p5), (.int p6)] maxLocals)) t := fun t k => go48 t (by
            show Steps p.tables e below (T38.setTop (mkF m 127 #[.val (.int p1), .val (.int p2), .val (.int p3), .val (.int p4), .val (.int p5), .val (.int p6), .val (.int ((p1 &&& (7 : Int32)) % (5 : Int32))), .val (.int s0), .val (.int s1), .val (.int s2), .val (.int s3), .val (.int u0), .val (.int u2), .val (.int u1), .val (.int u3), .val (.int w1), .val (.int w2), .val (.int (p2 &&& (3 : Int32))), .unset, .unset, .unset, .unset, .unset] [(.int (2 : Int32)), (.int (p2 &&& (3 : Int32)))])) _
            refine XS.icmpNo X38.here hx rfl (hb hby at_127) rfl (teq hc49).2 ?_
            show Steps p.tables e below (T38.setTop (mkF m 130 #[.val (.int p1), .val (.int p2), .val (.int p3), .val (.int p4), .val (.int p5), .val (.int p6), .val (.int ((p1 &&& (7 : Int32)) % (5 : Int32))), .val (.int s0), .val (.int s1), .val (.int s2), .val (.int s3), .val (.int u0), .val (.int u2), .val (.int u1), .val (.int u3), .val (.int w1), .val (.int w2), .val (.int (p2 &&& (3 : Int32))), .unset, .unset, .unset, .unset, .unset] [])) _
            refine XS.iload X38.here hx rfl (hb hby at_130) rfl ?_
            show Steps p.tables e below (T38.setTop (mkF m 132 #[.val (.int p1), .val (.int p2), .val (.int p3), .val (.int p4), .val (.int p5), .val (.int p6), .val (.int ((p1 &&& (7 : Int32)) % (5 : Int32))), .val (.int s0), .val (.int s1), .val (.int s2), .val (.int s3), .val (.int u0), .val (.int u2), .val (.int u1), .val (.int u3), .val (.int w1), .val (.int w2), .val (.int (p2 &&& (3 : Int32))), .unset, .unset, .unset, .unset, .unset] [(.int w2)])) _
            refine XS.istore X38.here hx rfl (hb hby at_132) rfl (l' := #[.val (.int p1), .val (.int p2), .val (.int p3), .val (.int p4), .val (.int p5), .val (.int p6), .val (.int ((p1 &&& (7 : Int32)) % (5 : Int32))), .val (.int s0), .val (.int s1), .val (.int s2), .val (.int s3), .val (.int u0), .val (.int u2), .val (.int u1), .val (.int u3), .val (.int w1), .val (.int w2), .val (.int (p2 &&& (3 : Int32))), .val (.int w2), .unset, .unset, .unset, .unset]) rfl ?_
            show Steps p.tables e below (T38.setTop (mkF m 134 #[.val (.int p1), .val (.int p2), .val (.int p3), .val (.int p4), .val (.int p5), .val (.int p6), .val (.int ((p1 &&& (7 : Int32)) % (5 : Int32))), .val (.int s0), .val (.int s1), .val (.int s2), .val (.int s3), .val (.int u0), .val (.int u2), .val (.int u1), .val (.int u3), .val (.int w1), .val (.int w2), .val (.int (p2 &&& (3 : Int32))), .val (.int w2), .unset, .unset, .unset, .unset] [])) _
            refine XS.goto X38.here hx rfl (pc0 := 134) (pc' := 141) rfl (hb hby at_134) (by decide) (by decide) ?_
            exact k)
          exact ⟨w2, go50⟩
        · have go51 : ∀ t, Steps p.tables e below (T38.setTop (mkF m 141 #[.val (.int p1), .val (.int p2), .val (.int p3), .val (.int p4), .val (.int p5), .val (.int p6), .val (.int ((p1 &&& (7 : Int32)) % (5 : Int32))), .val (.int s0), .val (.int s1), .val (.int s2), .val (.int s3), .val (.int u0), .val (.int u2), .val (.int u1), .val (.int u3), .val (.int w1), .val (.int w2), .val (.int (p2 &&& (3 : Int32))), .val (.int u3), .unset, .unset, .unset, .unset] [])) t → Steps p.tables e below (s₁.setTop (entryFrame m #[(.int p1), (.int p2), (.int p3), (.int p4), (.int p5), (.int p6)] maxLocals)) t := fun t k => go48 t (by
            show Steps p.tables e below (T38.setTop (mkF m 127 #[.val (.int p1), .val (.int p2), .val (.int p3), .val (.int p4), .val (.int p5), .val (.int p6), .val (.int ((p1 &&& (7 : Int32)) % (5 : Int32))), .val (.int s0), .val (.int s1), .val (.int s2), .val (.int s3), .val (.int u0), .val (.int u2), .val (.int u1), .val (.int u3), .val (.int w1), .val (.int w2), .val (.int (p2 &&& (3 : Int32))), .unset, .unset, .unset, .unset, .unset] [(.int (2 : Int32)), (.int (p2 &&& (3 : Int32)))])) _
            refine XS.icmpYes X38.here hx rfl (pc0 := 127) (pc' := 137) rfl (hb hby at_127) rfl (feq hc49).2 (by decide) (by decide) ?_
            show Steps p.tables e below (T38.setTop (mkF m 137 #[.val (.int p1), .val (.int p2), .val (.int p3), .val (.int p4), .val (.int p5), .val (.int p6), .val (.int ((p1 &&& (7 : Int32)) % (5 : Int32))), .val (.int s0), .val (.int s1), .val (.int s2), .val (.int s3), .val (.int u0), .val (.int u2), .val (.int u1), .val (.int u3), .val (.int w1), .val (.int w2), .val (.int (p2 &&& (3 : Int32))), .unset, .unset, .unset, .unset, .unset] [])) _
            refine XS.iload X38.here hx rfl (hb hby at_137) rfl ?_
            show Steps p.tables e below (T38.setTop (mkF m 139 #[.val (.int p1), .val (.int p2), .val (.int p3), .val (.int p4), .val (.int p5), .val (.int p6), .val (.int ((p1 &&& (7 : Int32)) % (5 : Int32))), .val (.int s0), .val (.int s1), .val (.int s2), .val (.int s3), .val (.int u0), .val (.int u2), .val (.int u1), .val (.int u3), .val (.int w1), .val (.int w2), .val (.int (p2 &&& (3 : Int32))), .unset, .unset, .unset, .unset, .unset] [(.int u3)])) _
            refine XS.istore X38.here hx rfl (hb hby at_139) rfl (l' := #[.val (.int p1), .val (.int p2), .val (.int p3), .val (.int p4), .val (.int p5), .val (.int p6), .val (.int ((p1 &&& (7 : Int32)) % (5 : Int32))), .val (.int s0), .val (.int s1), .val (.int s2), .val (.int s3), .val (.int u0), .val (.int u2), .val (.int u1), .val (.int u3), .val (.int w1), .val (.int w2), .val (.int (p2 &&& (3 : Int32))), .val (.int u3), .unset, .unset, .unset, .unset]) rfl ?_
            exact k)
          exact ⟨u3, go51⟩
  have go53 : ∀ t, Steps p.tables e below (T38.setTop (mkF m 148 #[.val (.int p1), .val (.int p2), .val (.int p3), .val (.int p4), .val (.int p5), .val (.int p6), .val (.int ((p1 &&& (7 : Int32)) % (5 : Int32))), .val (.int s0), .val (.int s1), .val (.int s2), .val (.int s3), .val (.int u0), .val (.int u2), .val (.int u1), .val (.int u3), .val (.int w1), .val (.int w2), .val (.int (p2 &&& (3 : Int32))), .val (.int e1), .val (.int (((p1.toUInt32 >>> ((3 : Int32) &&& 31).toUInt32).toInt32) &&& (3 : Int32))), .unset, .unset, .unset] [])) t → Steps p.tables e below (s₁.setTop (entryFrame m #[(.int p1), (.int p2), (.int p3), (.int p4), (.int p5), (.int p6)] maxLocals)) t := fun t k => go52 t (by
    show Steps p.tables e below (T38.setTop (mkF m 141 #[.val (.int p1), .val (.int p2), .val (.int p3), .val (.int p4), .val (.int p5), .val (.int p6), .val (.int ((p1 &&& (7 : Int32)) % (5 : Int32))), .val (.int s0), .val (.int s1), .val (.int s2), .val (.int s3), .val (.int u0), .val (.int u2), .val (.int u1), .val (.int u3), .val (.int w1), .val (.int w2), .val (.int (p2 &&& (3 : Int32))), .val (.int e1), .unset, .unset, .unset, .unset] [])) _
    refine XS.iloadN X38.here hx rfl (hb hby at_141) rfl ?_
    show Steps p.tables e below (T38.setTop (mkF m 142 #[.val (.int p1), .val (.int p2), .val (.int p3), .val (.int p4), .val (.int p5), .val (.int p6), .val (.int ((p1 &&& (7 : Int32)) % (5 : Int32))), .val (.int s0), .val (.int s1), .val (.int s2), .val (.int s3), .val (.int u0), .val (.int u2), .val (.int u1), .val (.int u3), .val (.int w1), .val (.int w2), .val (.int (p2 &&& (3 : Int32))), .val (.int e1), .unset, .unset, .unset, .unset] [(.int p1)])) _
    refine XS.iconst X38.here hx rfl (hb hby at_142) ?_
    show Steps p.tables e below (T38.setTop (mkF m 143 #[.val (.int p1), .val (.int p2), .val (.int p3), .val (.int p4), .val (.int p5), .val (.int p6), .val (.int ((p1 &&& (7 : Int32)) % (5 : Int32))), .val (.int s0), .val (.int s1), .val (.int s2), .val (.int s3), .val (.int u0), .val (.int u2), .val (.int u1), .val (.int u3), .val (.int w1), .val (.int w2), .val (.int (p2 &&& (3 : Int32))), .val (.int e1), .unset, .unset, .unset, .unset] [(.int (3 : Int32)), (.int p1)])) _
    refine XS.iushr X38.here hx rfl (hb hby at_143) rfl ?_
    show Steps p.tables e below (T38.setTop (mkF m 144 #[.val (.int p1), .val (.int p2), .val (.int p3), .val (.int p4), .val (.int p5), .val (.int p6), .val (.int ((p1 &&& (7 : Int32)) % (5 : Int32))), .val (.int s0), .val (.int s1), .val (.int s2), .val (.int s3), .val (.int u0), .val (.int u2), .val (.int u1), .val (.int u3), .val (.int w1), .val (.int w2), .val (.int (p2 &&& (3 : Int32))), .val (.int e1), .unset, .unset, .unset, .unset] [(.int ((p1.toUInt32 >>> ((3 : Int32) &&& 31).toUInt32).toInt32))])) _
    refine XS.iconst X38.here hx rfl (hb hby at_144) ?_
    show Steps p.tables e below (T38.setTop (mkF m 145 #[.val (.int p1), .val (.int p2), .val (.int p3), .val (.int p4), .val (.int p5), .val (.int p6), .val (.int ((p1 &&& (7 : Int32)) % (5 : Int32))), .val (.int s0), .val (.int s1), .val (.int s2), .val (.int s3), .val (.int u0), .val (.int u2), .val (.int u1), .val (.int u3), .val (.int w1), .val (.int w2), .val (.int (p2 &&& (3 : Int32))), .val (.int e1), .unset, .unset, .unset, .unset] [(.int (3 : Int32)), (.int ((p1.toUInt32 >>> ((3 : Int32) &&& 31).toUInt32).toInt32))])) _
    refine XS.iand X38.here hx rfl (hb hby at_145) rfl ?_
    show Steps p.tables e below (T38.setTop (mkF m 146 #[.val (.int p1), .val (.int p2), .val (.int p3), .val (.int p4), .val (.int p5), .val (.int p6), .val (.int ((p1 &&& (7 : Int32)) % (5 : Int32))), .val (.int s0), .val (.int s1), .val (.int s2), .val (.int s3), .val (.int u0), .val (.int u2), .val (.int u1), .val (.int u3), .val (.int w1), .val (.int w2), .val (.int (p2 &&& (3 : Int32))), .val (.int e1), .unset, .unset, .unset, .unset] [(.int (((p1.toUInt32 >>> ((3 : Int32) &&& 31).toUInt32).toInt32) &&& (3 : Int32)))])) _
    refine XS.istore X38.here hx rfl (hb hby at_146) rfl (l' := #[.val (.int p1), .val (.int p2), .val (.int p3), .val (.int p4), .val (.int p5), .val (.int p6), .val (.int ((p1 &&& (7 : Int32)) % (5 : Int32))), .val (.int s0), .val (.int s1), .val (.int s2), .val (.int s3), .val (.int u0), .val (.int u2), .val (.int u1), .val (.int u3), .val (.int w1), .val (.int w2), .val (.int (p2 &&& (3 : Int32))), .val (.int e1), .val (.int (((p1.toUInt32 >>> ((3 : Int32) &&& 31).toUInt32).toInt32) &&& (3 : Int32))), .unset, .unset, .unset]) rfl ?_
    exact k)
  obtain ⟨q1, go64⟩ : ∃ q1 : Int32, ∀ t, Steps p.tables e below (T38.setTop (mkF m 193 #[.val (.int p1), .val (.int p2), .val (.int p3), .val (.int p4), .val (.int p5), .val (.int p6), .val (.int ((p1 &&& (7 : Int32)) % (5 : Int32))), .val (.int s0), .val (.int s1), .val (.int s2), .val (.int s3), .val (.int u0), .val (.int u2), .val (.int u1), .val (.int u3), .val (.int w1), .val (.int w2), .val (.int (p2 &&& (3 : Int32))), .val (.int e1), .val (.int (((p1.toUInt32 >>> ((3 : Int32) &&& 31).toUInt32).toInt32) &&& (3 : Int32))), .val (.int q1), .unset, .unset] [])) t → Steps p.tables e below (s₁.setTop (entryFrame m #[(.int p1), (.int p2), (.int p3), (.int p4), (.int p5), (.int p6)] maxLocals)) t := by
    have go54 : ∀ t, Steps p.tables e below (T38.setTop (mkF m 150 #[.val (.int p1), .val (.int p2), .val (.int p3), .val (.int p4), .val (.int p5), .val (.int p6), .val (.int ((p1 &&& (7 : Int32)) % (5 : Int32))), .val (.int s0), .val (.int s1), .val (.int s2), .val (.int s3), .val (.int u0), .val (.int u2), .val (.int u1), .val (.int u3), .val (.int w1), .val (.int w2), .val (.int (p2 &&& (3 : Int32))), .val (.int e1), .val (.int (((p1.toUInt32 >>> ((3 : Int32) &&& 31).toUInt32).toInt32) &&& (3 : Int32))), .unset, .unset, .unset] [(.int (((p1.toUInt32 >>> ((3 : Int32) &&& 31).toUInt32).toInt32) &&& (3 : Int32)))])) t → Steps p.tables e below (s₁.setTop (entryFrame m #[(.int p1), (.int p2), (.int p3), (.int p4), (.int p5), (.int p6)] maxLocals)) t := fun t k => go53 t (by
      show Steps p.tables e below (T38.setTop (mkF m 148 #[.val (.int p1), .val (.int p2), .val (.int p3), .val (.int p4), .val (.int p5), .val (.int p6), .val (.int ((p1 &&& (7 : Int32)) % (5 : Int32))), .val (.int s0), .val (.int s1), .val (.int s2), .val (.int s3), .val (.int u0), .val (.int u2), .val (.int u1), .val (.int u3), .val (.int w1), .val (.int w2), .val (.int (p2 &&& (3 : Int32))), .val (.int e1), .val (.int (((p1.toUInt32 >>> ((3 : Int32) &&& 31).toUInt32).toInt32) &&& (3 : Int32))), .unset, .unset, .unset] [])) _
      refine XS.iload X38.here hx rfl (hb hby at_148) rfl ?_
      exact k)
    by_cases hc55 : (((p1.toUInt32 >>> ((3 : Int32) &&& 31).toUInt32).toInt32) &&& (3 : Int32)) = (0 : Int32)
    · have go56 : ∀ t, Steps p.tables e below (T38.setTop (mkF m 193 #[.val (.int p1), .val (.int p2), .val (.int p3), .val (.int p4), .val (.int p5), .val (.int p6), .val (.int ((p1 &&& (7 : Int32)) % (5 : Int32))), .val (.int s0), .val (.int s1), .val (.int s2), .val (.int s3), .val (.int u0), .val (.int u2), .val (.int u1), .val (.int u3), .val (.int w1), .val (.int w2), .val (.int (p2 &&& (3 : Int32))), .val (.int e1), .val (.int (((p1.toUInt32 >>> ((3 : Int32) &&& 31).toUInt32).toInt32) &&& (3 : Int32))), .val (.int p2), .unset, .unset] [])) t → Steps p.tables e below (s₁.setTop (entryFrame m #[(.int p1), (.int p2), (.int p3), (.int p4), (.int p5), (.int p6)] maxLocals)) t := fun t k => go54 t (by
        show Steps p.tables e below (T38.setTop (mkF m 150 #[.val (.int p1), .val (.int p2), .val (.int p3), .val (.int p4), .val (.int p5), .val (.int p6), .val (.int ((p1 &&& (7 : Int32)) % (5 : Int32))), .val (.int s0), .val (.int s1), .val (.int s2), .val (.int s3), .val (.int u0), .val (.int u2), .val (.int u1), .val (.int u3), .val (.int w1), .val (.int w2), .val (.int (p2 &&& (3 : Int32))), .val (.int e1), .val (.int (((p1.toUInt32 >>> ((3 : Int32) &&& 31).toUInt32).toInt32) &&& (3 : Int32))), .unset, .unset, .unset] [(.int (((p1.toUInt32 >>> ((3 : Int32) &&& 31).toUInt32).toInt32) &&& (3 : Int32)))])) _
        refine XS.ifNo X38.here hx rfl (hb hby at_150) rfl ((if0 _ _).trans (teq hc55).2) ?_
        show Steps p.tables e below (T38.setTop (mkF m 153 #[.val (.int p1), .val (.int p2), .val (.int p3), .val (.int p4), .val (.int p5), .val (.int p6), .val (.int ((p1 &&& (7 : Int32)) % (5 : Int32))), .val (.int s0), .val (.int s1), .val (.int s2), .val (.int s3), .val (.int u0), .val (.int u2), .val (.int u1), .val (.int u3), .val (.int w1), .val (.int w2), .val (.int (p2 &&& (3 : Int32))), .val (.int e1), .val (.int (((p1.toUInt32 >>> ((3 : Int32) &&& 31).toUInt32).toInt32) &&& (3 : Int32))), .unset, .unset, .unset] [])) _
        refine XS.iloadN X38.here hx rfl (hb hby at_153) rfl ?_
        show Steps p.tables e below (T38.setTop (mkF m 154 #[.val (.int p1), .val (.int p2), .val (.int p3), .val (.int p4), .val (.int p5), .val (.int p6), .val (.int ((p1 &&& (7 : Int32)) % (5 : Int32))), .val (.int s0), .val (.int s1), .val (.int s2), .val (.int s3), .val (.int u0), .val (.int u2), .val (.int u1), .val (.int u3), .val (.int w1), .val (.int w2), .val (.int (p2 &&& (3 : Int32))), .val (.int e1), .val (.int (((p1.toUInt32 >>> ((3 : Int32) &&& 31).toUInt32).toInt32) &&& (3 : Int32))), .unset, .unset, .unset] [(.int p2)])) _
        refine XS.istore X38.here hx rfl (hb hby at_154) rfl (l' := #[.val (.int p1), .val (.int p2), .val (.int p3), .val (.int p4), .val (.int p5), .val (.int p6), .val (.int ((p1 &&& (7 : Int32)) % (5 : Int32))), .val (.int s0), .val (.int s1), .val (.int s2), .val (.int s3), .val (.int u0), .val (.int u2), .val (.int u1), .val (.int u3), .val (.int w1), .val (.int w2), .val (.int (p2 &&& (3 : Int32))), .val (.int e1), .val (.int (((p1.toUInt32 >>> ((3 : Int32) &&& 31).toUInt32).toInt32) &&& (3 : Int32))), .val (.int p2), .unset, .unset]) rfl ?_
        show Steps p.tables e below (T38.setTop (mkF m 156 #[.val (.int p1), .val (.int p2), .val (.int p3), .val (.int p4), .val (.int p5), .val (.int p6), .val (.int ((p1 &&& (7 : Int32)) % (5 : Int32))), .val (.int s0), .val (.int s1), .val (.int s2), .val (.int s3), .val (.int u0), .val (.int u2), .val (.int u1), .val (.int u3), .val (.int w1), .val (.int w2), .val (.int (p2 &&& (3 : Int32))), .val (.int e1), .val (.int (((p1.toUInt32 >>> ((3 : Int32) &&& 31).toUInt32).toInt32) &&& (3 : Int32))), .val (.int p2), .unset, .unset] [])) _
        refine XS.goto X38.here hx rfl (pc0 := 156) (pc' := 193) rfl (hb hby at_156) (by decide) (by decide) ?_
        exact k)
      exact ⟨p2, go56⟩
    · have go57 : ∀ t, Steps p.tables e below (T38.setTop (mkF m 162 #[.val (.int p1), .val (.int p2), .val (.int p3), .val (.int p4), .val (.int p5), .val (.int p6), .val (.int ((p1 &&& (7 : Int32)) % (5 : Int32))), .val (.int s0), .val (.int s1), .val (.int s2), .val (.int s3), .val (.int u0), .val (.int u2), .val (.int u1), .val (.int u3), .val (.int w1), .val (.int w2), .val (.int (p2 &&& (3 : Int32))), .val (.int e1), .val (.int (((p1.toUInt32 >>> ((3 : Int32) &&& 31).toUInt32).toInt32) &&& (3 : Int32))), .unset, .unset, .unset] [(.int (1 : Int32)), (.int (((p1.toUInt32 >>> ((3 : Int32) &&& 31).toUInt32).toInt32) &&& (3 : Int32)))])) t → Steps p.tables e below (s₁.setTop (entryFrame m #[(.int p1), (.int p2), (.int p3), (.int p4), (.int p5), (.int p6)] maxLocals)) t := fun t k => go54 t (by
        show Steps p.tables e below (T38.setTop (mkF m 150 #[.val (.int p1), .val (.int p2), .val (.int p3), .val (.int p4), .val (.int p5), .val (.int p6), .val (.int ((p1 &&& (7 : Int32)) % (5 : Int32))), .val (.int s0), .val (.int s1), .val (.int s2), .val (.int s3), .val (.int u0), .val (.int u2), .val (.int u1), .val (.int u3), .val (.int w1), .val (.int w2), .val (.int (p2 &&& (3 : Int32))), .val (.int e1), .val (.int (((p1.toUInt32 >>> ((3 : Int32) &&& 31).toUInt32).toInt32) &&& (3 : Int32))), .unset, .unset, .unset] [(.int (((p1.toUInt32 >>> ((3 : Int32) &&& 31).toUInt32).toInt32) &&& (3 : Int32)))])) _
        refine XS.ifYes X38.here hx rfl (pc0 := 150) (pc' := 159) rfl (hb hby at_150) rfl ((if0 _ _).trans (feq hc55).2) (by decide) (by decide) ?_
        show Steps p.tables e below (T38.setTop (mkF m 159 #[.val (.int p1), .val (.int p2), .val (.int p3), .val (.int p4), .val (.int p5), .val (.int p6), .val (.int ((p1 &&& (7 : Int32)) % (5 : Int32))), .val (.int s0), .val (.int s1), .val (.int s2), .val (.int s3), .val (.int u0), .val (.int u2), .val (.int u1), .val (.int u3), .val (.int w1), .val (.int w2), .val (.int (p2 &&& (3 : Int32))), .val (.int e1), .val (.int (((p1.toUInt32 >>> ((3 : Int32) &&& 31).toUInt32).toInt32) &&& (3 : Int32))), .unset, .unset, .unset] [])) _
        refine XS.iload X38.here hx rfl (hb hby at_159) rfl ?_
        show Steps p.tables e below (T38.setTop (mkF m 161 #[.val (.int p1), .val (.int p2), .val (.int p3), .val (.int p4), .val (.int p5), .val (.int p6), .val (.int ((p1 &&& (7 : Int32)) % (5 : Int32))), .val (.int s0), .val (.int s1), .val (.int s2), .val (.int s3), .val (.int u0), .val (.int u2), .val (.int u1), .val (.int u3), .val (.int w1), .val (.int w2), .val (.int (p2 &&& (3 : Int32))), .val (.int e1), .val (.int (((p1.toUInt32 >>> ((3 : Int32) &&& 31).toUInt32).toInt32) &&& (3 : Int32))), .unset, .unset, .unset] [(.int (((p1.toUInt32 >>> ((3 : Int32) &&& 31).toUInt32).toInt32) &&& (3 : Int32)))])) _
        refine XS.iconst X38.here hx rfl (hb hby at_161) ?_
        exact k)
      by_cases hc58 : (((p1.toUInt32 >>> ((3 : Int32) &&& 31).toUInt32).toInt32) &&& (3 : Int32)) = (1 : Int32)
      · have go59 : ∀ t, Steps p.tables e below (T38.setTop (mkF m 193 #[.val (.int p1), .val (.int p2), .val (.int p3), .val (.int p4), .val (.int p5), .val (.int p6), .val (.int ((p1 &&& (7 : Int32)) % (5 : Int32))), .val (.int s0), .val (.int s1), .val (.int s2), .val (.int s3), .val (.int u0), .val (.int u2), .val (.int u1), .val (.int u3), .val (.int w1), .val (.int w2), .val (.int (p2 &&& (3 : Int32))), .val (.int e1), .val (.int (((p1.toUInt32 >>> ((3 : Int32) &&& 31).toUInt32).toInt32) &&& (3 : Int32))), .val (.int e1), .unset, .unset] [])) t → Steps p.tables e below (s₁.setTop (entryFrame m #[(.int p1), (.int p2), (.int p3), (.int p4), (.int p5), (.int p6)] maxLocals)) t := fun t k => go57 t (by
          show Steps p.tables e below (T38.setTop (mkF m 162 #[.val (.int p1), .val (.int p2), .val (.int p3), .val (.int p4), .val (.int p5), .val (.int p6), .val (.int ((p1 &&& (7 : Int32)) % (5 : Int32))), .val (.int s0), .val (.int s1), .val (.int s2), .val (.int s3), .val (.int u0), .val (.int u2), .val (.int u1), .val (.int u3), .val (.int w1), .val (.int w2), .val (.int (p2 &&& (3 : Int32))), .val (.int e1), .val (.int (((p1.toUInt32 >>> ((3 : Int32) &&& 31).toUInt32).toInt32) &&& (3 : Int32))), .unset, .unset, .unset] [(.int (1 : Int32)), (.int (((p1.toUInt32 >>> ((3 : Int32) &&& 31).toUInt32).toInt32) &&& (3 : Int32)))])) _
          refine XS.icmpNo X38.here hx rfl (hb hby at_162) rfl (teq hc58).2 ?_
          show Steps p.tables e below (T38.setTop (mkF m 165 #[.val (.int p1), .val (.int p2), .val (.int p3), .val (.int p4), .val (.int p5), .val (.int p6), .val (.int ((p1 &&& (7 : Int32)) % (5 : Int32))), .val (.int s0), .val (.int s1), .val (.int s2), .val (.int s3), .val (.int u0), .val (.int u2), .val (.int u1), .val (.int u3), .val (.int w1), .val (.int w2), .val (.int (p2 &&& (3 : Int32))), .val (.int e1), .val (.int (((p1.toUInt32 >>> ((3 : Int32) &&& 31).toUInt32).toInt32) &&& (3 : Int32))), .unset, .unset, .unset] [])) _
          refine XS.iload X38.here hx rfl (hb hby at_165) rfl ?_
          show Steps p.tables e below (T38.setTop (mkF m 167 #[.val (.int p1), .val (.int p2), .val (.int p3), .val (.int p4), .val (.int p5), .val (.int p6), .val (.int ((p1 &&& (7 : Int32)) % (5 : Int32))), .val (.int s0), .val (.int s1), .val (.int s2), .val (.int s3), .val (.int u0), .val (.int u2), .val (.int u1), .val (.int u3), .val (.int w1), .val (.int w2), .val (.int (p2 &&& (3 : Int32))), .val (.int e1), .val (.int (((p1.toUInt32 >>> ((3 : Int32) &&& 31).toUInt32).toInt32) &&& (3 : Int32))), .unset, .unset, .unset] [(.int e1)])) _
          refine XS.istore X38.here hx rfl (hb hby at_167) rfl (l' := #[.val (.int p1), .val (.int p2), .val (.int p3), .val (.int p4), .val (.int p5), .val (.int p6), .val (.int ((p1 &&& (7 : Int32)) % (5 : Int32))), .val (.int s0), .val (.int s1), .val (.int s2), .val (.int s3), .val (.int u0), .val (.int u2), .val (.int u1), .val (.int u3), .val (.int w1), .val (.int w2), .val (.int (p2 &&& (3 : Int32))), .val (.int e1), .val (.int (((p1.toUInt32 >>> ((3 : Int32) &&& 31).toUInt32).toInt32) &&& (3 : Int32))), .val (.int e1), .unset, .unset]) rfl ?_
          show Steps p.tables e below (T38.setTop (mkF m 169 #[.val (.int p1), .val (.int p2), .val (.int p3), .val (.int p4), .val (.int p5), .val (.int p6), .val (.int ((p1 &&& (7 : Int32)) % (5 : Int32))), .val (.int s0), .val (.int s1), .val (.int s2), .val (.int s3), .val (.int u0), .val (.int u2), .val (.int u1), .val (.int u3), .val (.int w1), .val (.int w2), .val (.int (p2 &&& (3 : Int32))), .val (.int e1), .val (.int (((p1.toUInt32 >>> ((3 : Int32) &&& 31).toUInt32).toInt32) &&& (3 : Int32))), .val (.int e1), .unset, .unset] [])) _
          refine XS.goto X38.here hx rfl (pc0 := 169) (pc' := 193) rfl (hb hby at_169) (by decide) (by decide) ?_
          exact k)
        exact ⟨e1, go59⟩
      · have go60 : ∀ t, Steps p.tables e below (T38.setTop (mkF m 175 #[.val (.int p1), .val (.int p2), .val (.int p3), .val (.int p4), .val (.int p5), .val (.int p6), .val (.int ((p1 &&& (7 : Int32)) % (5 : Int32))), .val (.int s0), .val (.int s1), .val (.int s2), .val (.int s3), .val (.int u0), .val (.int u2), .val (.int u1), .val (.int u3), .val (.int w1), .val (.int w2), .val (.int (p2 &&& (3 : Int32))), .val (.int e1), .val (.int (((p1.toUInt32 >>> ((3 : Int32) &&& 31).toUInt32).toInt32) &&& (3 : Int32))), .unset, .unset, .unset] [(.int (2 : Int32)), (.int (((p1.toUInt32 >>> ((3 : Int32) &&& 31).toUInt32).toInt32) &&& (3 : Int32)))])) t → Steps p.tables e below (s₁.setTop (entryFrame m #[(.int p1), (.int p2), (.int p3), (.int p4), (.int p5), (.int p6)] maxLocals)) t := fun t k => go57 t (by
          show Steps p.tables e below (T38.setTop (mkF m 162 #[.val (.int p1), .val (.int p2), .val (.int p3), .val (.int p4), .val (.int p5), .val (.int p6), .val (.int ((p1 &&& (7 : Int32)) % (5 : Int32))), .val (.int s0), .val (.int s1), .val (.int s2), .val (.int s3), .val (.int u0), .val (.int u2), .val (.int u1), .val (.int u3), .val (.int w1), .val (.int w2), .val (.int (p2 &&& (3 : Int32))), .val (.int e1), .val (.int (((p1.toUInt32 >>> ((3 : Int32) &&& 31).toUInt32).toInt32) &&& (3 : Int32))), .unset, .unset, .unset] [(.int (1 : Int32)), (.int (((p1.toUInt32 >>> ((3 : Int32) &&& 31).toUInt32).toInt32) &&& (3 : Int32)))])) _
          refine XS.icmpYes X38.here hx rfl (pc0 := 162) (pc' := 172) rfl (hb hby at_162) rfl (feq hc58).2 (by decide) (by decide) ?_
          show Steps p.tables e below (T38.setTop (mkF m 172 #[.val (.int p1), .val (.int p2), .val (.int p3), .val (.int p4), .val (.int p5), .val (.int p6), .val (.int ((p1 &&& (7 : Int32)) % (5 : Int32))), .val (.int s0), .val (.int s1), .val (.int s2), .val (.int s3), .val (.int u0), .val (.int u2), .val (.int u1), .val (.int u3), .val (.int w1), .val (.int w2), .val (.int (p2 &&& (3 : Int32))), .val (.int e1), .val (.int (((p1.toUInt32 >>> ((3 : Int32) &&& 31).toUInt32).toInt32) &&& (3 : Int32))), .unset, .unset, .unset] [])) _
          refine XS.iload X38.here hx rfl (hb hby at_172) rfl ?_
          show Steps p.tables e below (T38.setTop (mkF m 174 #[.val (.int p1), .val (.int p2), .val (.int p3), .val (.int p4), .val (.int p5), .val (.int p6), .val (.int ((p1 &&& (7 : Int32)) % (5 : Int32))), .val (.int s0), .val (.int s1), .val (.int s2), .val (.int s3), .val (.int u0), .val (.int u2), .val (.int u1), .val (.int u3), .val (.int w1), .val (.int w2), .val (.int (p2 &&& (3 : Int32))), .val (.int e1), .val (.int (((p1.toUInt32 >>> ((3 : Int32) &&& 31).toUInt32).toInt32) &&& (3 : Int32))), .unset, .unset, .unset] [(.int (((p1.toUInt32 >>> ((3 : Int32) &&& 31).toUInt32).toInt32) &&& (3 : Int32)))])) _
          refine XS.iconst X38.here hx rfl (hb hby at_174) ?_
          exact k)
        by_cases hc61 : (((p1.toUInt32 >>> ((3 : Int32) &&& 31).toUInt32).toInt32) &&& (3 : Int32)) = (2 : Int32)
        · have go62 : ∀ t, Steps p.tables e below (T38.setTop (mkF m 193 #[.val (.int p1), .val (.int p2), .val (.int p3), .val (.int p4), .val (.int p5), .val (.int p6), .val (.int ((p1 &&& (7 : Int32)) % (5 : Int32))), .val (.int s0), .val (.int s1), .val (.int s2), .val (.int s3), .val (.int u0), .val (.int u2), .val (.int u1), .val (.int u3), .val (.int w1), .val (.int w2), .val (.int (p2 &&& (3 : Int32))), .val (.int e1), .val (.int (((p1.toUInt32 >>> ((3 : Int32) &&& 31).toUInt32).toInt32) &&& (3 : Int32))), .val (.int (e1 + (1 : Int32))), .unset, .unset] [])) t → Steps p.tables e below (s₁.setTop (entryFrame m #[(.int p1), (.int p2), (.int p3), (.int p4), (.int p5), (.int p6)] maxLocals)) t := fun t k => go60 t (by
            show Steps p.tables e below (T38.setTop (mkF m 175 #[.val (.int p1), .val (.int p2), .val (.int p3), .val (.int p4), .val (.int p5), .val (.int p6), .val (.int ((p1 &&& (7 : Int32)) % (5 : Int32))), .val (.int s0), .val (.int s1), .val (.int s2), .val (.int s3), .val (.int u0), .val (.int u2), .val (.int u1), .val (.int u3), .val (.int w1), .val (.int w2), .val (.int (p2 &&& (3 : Int32))), .val (.int e1), .val (.int (((p1.toUInt32 >>> ((3 : Int32) &&& 31).toUInt32).toInt32) &&& (3 : Int32))), .unset, .unset, .unset] [(.int (2 : Int32)), (.int (((p1.toUInt32 >>> ((3 : Int32) &&& 31).toUInt32).toInt32) &&& (3 : Int32)))])) _
            refine XS.icmpNo X38.here hx rfl (hb hby at_175) rfl (teq hc61).2 ?_
            show Steps p.tables e below (T38.setTop (mkF m 178 #[.val (.int p1), .val (.int p2), .val (.int p3), .val (.int p4), .val (.int p5), .val (.int p6), .val (.int ((p1 &&& (7 : Int32)) % (5 : Int32))), .val (.int s0), .val (.int s1), .val (.int s2), .val (.int s3), .val (.int u0), .val (.int u2), .val (.int u1), .val (.int u3), .val (.int w1), .val (.int w2), .val (.int (p2 &&& (3 : Int32))), .val (.int e1), .val (.int (((p1.toUInt32 >>> ((3 : Int32) &&& 31).toUInt32).toInt32) &&& (3 : Int32))), .unset, .unset, .unset] [])) _
            refine XS.iload X38.here hx rfl (hb hby at_178) rfl ?_
            show Steps p.tables e below (T38.setTop (mkF m 180 #[.val (.int p1), .val (.int p2), .val (.int p3), .val (.int p4), .val (.int p5), .val (.int p6), .val (.int ((p1 &&& (7 : Int32)) % (5 : Int32))), .val (.int s0), .val (.int s1), .val (.int s2), .val (.int s3), .val (.int u0), .val (.int u2), .val (.int u1), .val (.int u3), .val (.int w1), .val (.int w2), .val (.int (p2 &&& (3 : Int32))), .val (.int e1), .val (.int (((p1.toUInt32 >>> ((3 : Int32) &&& 31).toUInt32).toInt32) &&& (3 : Int32))), .unset, .unset, .unset] [(.int e1)])) _
            refine XS.iconst X38.here hx rfl (hb hby at_180) ?_
            show Steps p.tables e below (T38.setTop (mkF m 181 #[.val (.int p1), .val (.int p2), .val (.int p3), .val (.int p4), .val (.int p5), .val (.int p6), .val (.int ((p1 &&& (7 : Int32)) % (5 : Int32))), .val (.int s0), .val (.int s1), .val (.int s2), .val (.int s3), .val (.int u0), .val (.int u2), .val (.int u1), .val (.int u3), .val (.int w1), .val (.int w2), .val (.int (p2 &&& (3 : Int32))), .val (.int e1), .val (.int (((p1.toUInt32 >>> ((3 : Int32) &&& 31).toUInt32).toInt32) &&& (3 : Int32))), .unset, .unset, .unset] [(.int (1 : Int32)), (.int e1)])) _
            refine XS.iadd X38.here hx rfl (hb hby at_181) rfl ?_
            show Steps p.tables e below (T38.setTop (mkF m 182 #[.val (.int p1), .val (.int p2), .val (.int p3), .val (.int p4), .val (.int p5), .val (.int p6), .val (.int ((p1 &&& (7 : Int32)) % (5 : Int32))), .val (.int s0), .val (.int s1), .val (.int s2), .val (.int s3), .val (.int u0), .val (.int u2), .val (.int u1), .val (.int u3), .val (.int w1), .val (.int w2), .val (.int (p2 &&& (3 : Int32))), .val (.int e1), .val (.int (((p1.toUInt32 >>> ((3 : Int32) &&& 31).toUInt32).toInt32) &&& (3 : Int32))), .unset, .unset, .unset] [(.int (e1 + (1 : Int32)))])) _
            refine XS.istore X38.here hx rfl (hb hby at_182) rfl (l' := #[.val (.int p1), .val (.int p2), .val (.int p3), .val (.int p4), .val (.int p5), .val (.int p6), .val (.int ((p1 &&& (7 : Int32)) % (5 : Int32))), .val (.int s0), .val (.int s1), .val (.int s2), .val (.int s3), .val (.int u0), .val (.int u2), .val (.int u1), .val (.int u3), .val (.int w1), .val (.int w2), .val (.int (p2 &&& (3 : Int32))), .val (.int e1), .val (.int (((p1.toUInt32 >>> ((3 : Int32) &&& 31).toUInt32).toInt32) &&& (3 : Int32))), .val (.int (e1 + (1 : Int32))), .unset, .unset]) rfl ?_
            show Steps p.tables e below (T38.setTop (mkF m 184 #[.val (.int p1), .val (.int p2), .val (.int p3), .val (.int p4), .val (.int p5), .val (.int p6), .val (.int ((p1 &&& (7 : Int32)) % (5 : Int32))), .val (.int s0), .val (.int s1), .val (.int s2), .val (.int s3), .val (.int u0), .val (.int u2), .val (.int u1), .val (.int u3), .val (.int w1), .val (.int w2), .val (.int (p2 &&& (3 : Int32))), .val (.int e1), .val (.int (((p1.toUInt32 >>> ((3 : Int32) &&& 31).toUInt32).toInt32) &&& (3 : Int32))), .val (.int (e1 + (1 : Int32))), .unset, .unset] [])) _
            refine XS.goto X38.here hx rfl (pc0 := 184) (pc' := 193) rfl (hb hby at_184) (by decide) (by decide) ?_
            exact k)
          exact ⟨(e1 + (1 : Int32)), go62⟩
        · have go63 : ∀ t, Steps p.tables e below (T38.setTop (mkF m 193 #[.val (.int p1), .val (.int p2), .val (.int p3), .val (.int p4), .val (.int p5), .val (.int p6), .val (.int ((p1 &&& (7 : Int32)) % (5 : Int32))), .val (.int s0), .val (.int s1), .val (.int s2), .val (.int s3), .val (.int u0), .val (.int u2), .val (.int u1), .val (.int u3), .val (.int w1), .val (.int w2), .val (.int (p2 &&& (3 : Int32))), .val (.int e1), .val (.int (((p1.toUInt32 >>> ((3 : Int32) &&& 31).toUInt32).toInt32) &&& (3 : Int32))), .val (.int (e1 - (1 : Int32))), .unset, .unset] [])) t → Steps p.tables e below (s₁.setTop (entryFrame m #[(.int p1), (.int p2), (.int p3), (.int p4), (.int p5), (.int p6)] maxLocals)) t := fun t k => go60 t (by
            show Steps p.tables e below (T38.setTop (mkF m 175 #[.val (.int p1), .val (.int p2), .val (.int p3), .val (.int p4), .val (.int p5), .val (.int p6), .val (.int ((p1 &&& (7 : Int32)) % (5 : Int32))), .val (.int s0), .val (.int s1), .val (.int s2), .val (.int s3), .val (.int u0), .val (.int u2), .val (.int u1), .val (.int u3), .val (.int w1), .val (.int w2), .val (.int (p2 &&& (3 : Int32))), .val (.int e1), .val (.int (((p1.toUInt32 >>> ((3 : Int32) &&& 31).toUInt32).toInt32) &&& (3 : Int32))), .unset, .unset, .unset] [(.int (2 : Int32)), (.int (((p1.toUInt32 >>> ((3 : Int32) &&& 31).toUInt32).toInt32) &&& (3 : Int32)))])) _
            refine XS.icmpYes X38.here hx rfl (pc0 := 175) (pc' := 187) rfl (hb hby at_175) rfl (feq hc61).2 (by decide) (by decide) ?_
            show Steps p.tables e below (T38.setTop (mkF m 187 #[.val (.int p1), .val (.int p2), .val (.int p3), .val (.int p4), .val (.int p5), .val (.int p6), .val (.int ((p1 &&& (7 : Int32)) % (5 : Int32))), .val (.int s0), .val (.int s1), .val (.int s2), .val (.int s3), .val (.int u0), .val (.int u2), .val (.int u1), .val (.int u3), .val (.int w1), .val (.int w2), .val (.int (p2 &&& (3 : Int32))), .val (.int e1), .val (.int (((p1.toUInt32 >>> ((3 : Int32) &&& 31).toUInt32).toInt32) &&& (3 : Int32))), .unset, .unset, .unset] [])) _
            refine XS.iload X38.here hx rfl (hb hby at_187) rfl ?_
            show Steps p.tables e below (T38.setTop (mkF m 189 #[.val (.int p1), .val (.int p2), .val (.int p3), .val (.int p4), .val (.int p5), .val (.int p6), .val (.int ((p1 &&& (7 : Int32)) % (5 : Int32))), .val (.int s0), .val (.int s1), .val (.int s2), .val (.int s3), .val (.int u0), .val (.int u2), .val (.int u1), .val (.int u3), .val (.int w1), .val (.int w2), .val (.int (p2 &&& (3 : Int32))), .val (.int e1), .val (.int (((p1.toUInt32 >>> ((3 : Int32) &&& 31).toUInt32).toInt32) &&& (3 : Int32))), .unset, .unset, .unset] [(.int e1)])) _
            refine XS.iconst X38.here hx rfl (hb hby at_189) ?_
            show Steps p.tables e below (T38.setTop (mkF m 190 #[.val (.int p1), .val (.int p2), .val (.int p3), .val (.int p4), .val (.int p5), .val (.int p6), .val (.int ((p1 &&& (7 : Int32)) % (5 : Int32))), .val (.int s0), .val (.int s1), .val (.int s2), .val (.int s3), .val (.int u0), .val (.int u2), .val (.int u1), .val (.int u3), .val (.int w1), .val (.int w2), .val (.int (p2 &&& (3 : Int32))), .val (.int e1), .val (.int (((p1.toUInt32 >>> ((3 : Int32) &&& 31).toUInt32).toInt32) &&& (3 : Int32))), .unset, .unset, .unset] [(.int (1 : Int32)), (.int e1)])) _
            refine XS.isub X38.here hx rfl (hb hby at_190) rfl ?_
            show Steps p.tables e below (T38.setTop (mkF m 191 #[.val (.int p1), .val (.int p2), .val (.int p3), .val (.int p4), .val (.int p5), .val (.int p6), .val (.int ((p1 &&& (7 : Int32)) % (5 : Int32))), .val (.int s0), .val (.int s1), .val (.int s2), .val (.int s3), .val (.int u0), .val (.int u2), .val (.int u1), .val (.int u3), .val (.int w1), .val (.int w2), .val (.int (p2 &&& (3 : Int32))), .val (.int e1), .val (.int (((p1.toUInt32 >>> ((3 : Int32) &&& 31).toUInt32).toInt32) &&& (3 : Int32))), .unset, .unset, .unset] [(.int (e1 - (1 : Int32)))])) _
            refine XS.istore X38.here hx rfl (hb hby at_191) rfl (l' := #[.val (.int p1), .val (.int p2), .val (.int p3), .val (.int p4), .val (.int p5), .val (.int p6), .val (.int ((p1 &&& (7 : Int32)) % (5 : Int32))), .val (.int s0), .val (.int s1), .val (.int s2), .val (.int s3), .val (.int u0), .val (.int u2), .val (.int u1), .val (.int u3), .val (.int w1), .val (.int w2), .val (.int (p2 &&& (3 : Int32))), .val (.int e1), .val (.int (((p1.toUInt32 >>> ((3 : Int32) &&& 31).toUInt32).toInt32) &&& (3 : Int32))), .val (.int (e1 - (1 : Int32))), .unset, .unset]) rfl ?_
            exact k)
          exact ⟨(e1 - (1 : Int32)), go63⟩
  rcases own_five p1 with hn | hn | hn | hn | hn
  · rw [hn] at go64
    obtain ⟨T65, h65, X65, e65, E65, A65, D65, -, st65⟩ := newO X38 hx hZ hown (hw _ (List.mem_of_getElem? (i := 7) rfl)) (hw _ (List.mem_of_getElem? (i := 8) rfl)) (hw _ (List.mem_of_getElem? (i := 9) rfl)) e38 (g := (mkF m 193 #[.val (.int p1), .val (.int p2), .val (.int p3), .val (.int p4), .val (.int p5), .val (.int p6), .val (.int (0 : Int32)), .val (.int s0), .val (.int s1), .val (.int s2), .val (.int s3), .val (.int u0), .val (.int u2), .val (.int u1), .val (.int u3), .val (.int w1), .val (.int w2), .val (.int (p2 &&& (3 : Int32))), .val (.int e1), .val (.int (((p1.toUInt32 >>> ((3 : Int32) &&& 31).toUInt32).toInt32) &&& (3 : Int32))), .val (.int q1), .unset, .unset] [])) rfl (hb hby at_193) (by decide) (by decide)
    obtain ⟨b65, g65⟩ : ∃ z, z = h0.size := ⟨_, rfl⟩
    rw [← g65] at A65 D65 st65
    have g_b65 : n0 ≤ b65 := Nat.le_trans Z0 (Nat.le_of_eq g65.symm)
    have F65_values : Fld Z h65 b65 "com/example/halting_hound/haltinghound/IntList" "values" "[I" .null := D65 (Or.inl (hw _ (List.mem_of_getElem? (i := 18) rfl))) (ty := (.array .int)) (by decide)
    have F65_size : Fld Z h65 b65 "com/example/halting_hound/haltinghound/IntList" "size" "I" (.int (0 : Int32)) := D65 (Or.inl (hw _ (List.mem_of_getElem? (i := 29) rfl))) (ty := .int) (by decide)
    have go66 : ∀ t, Steps p.tables e below (T65.setTop (mkF m 196 #[.val (.int p1), .val (.int p2), .val (.int p3), .val (.int p4), .val (.int p5), .val (.int p6), .val (.int (0 : Int32)), .val (.int s0), .val (.int s1), .val (.int s2), .val (.int s3), .val (.int u0), .val (.int u2), .val (.int u1), .val (.int u3), .val (.int w1), .val (.int w2), .val (.int (p2 &&& (3 : Int32))), .val (.int e1), .val (.int (((p1.toUInt32 >>> ((3 : Int32) &&& 31).toUInt32).toInt32) &&& (3 : Int32))), .val (.int q1), .unset, .unset] [(.ref b65)])) t → Steps p.tables e below (s₁.setTop (entryFrame m #[(.int p1), (.int p2), (.int p3), (.int p4), (.int p5), (.int p6)] maxLocals)) t := fun t k => go64 t (st65 t k)
    have go67 : ∀ t, Steps p.tables e below (T65.setTop (mkF m 197 #[.val (.int p1), .val (.int p2), .val (.int p3), .val (.int p4), .val (.int p5), .val (.int p6), .val (.int (0 : Int32)), .val (.int s0), .val (.int s1), .val (.int s2), .val (.int s3), .val (.int u0), .val (.int u2), .val (.int u1), .val (.int u3), .val (.int w1), .val (.int w2), .val (.int (p2 &&& (3 : Int32))), .val (.int e1), .val (.int (((p1.toUInt32 >>> ((3 : Int32) &&& 31).toUInt32).toInt32) &&& (3 : Int32))), .val (.int q1), .unset, .unset] [(.ref b65), (.ref b65)])) t → Steps p.tables e below (s₁.setTop (entryFrame m #[(.int p1), (.int p2), (.int p3), (.int p4), (.int p5), (.int p6)] maxLocals)) t := fun t k => go66 t (by
      show Steps p.tables e below (T65.setTop (mkF m 196 #[.val (.int p1), .val (.int p2), .val (.int p3), .val (.int p4), .val (.int p5), .val (.int p6), .val (.int (0 : Int32)), .val (.int s0), .val (.int s1), .val (.int s2), .val (.int s3), .val (.int u0), .val (.int u2), .val (.int u1), .val (.int u3), .val (.int w1), .val (.int w2), .val (.int (p2 &&& (3 : Int32))), .val (.int e1), .val (.int (((p1.toUInt32 >>> ((3 : Int32) &&& 31).toUInt32).toInt32) &&& (3 : Int32))), .val (.int q1), .unset, .unset] [(.ref b65)])) _
      refine XS.dup X65.here hx rfl (hb hby at_196) rfl rfl ?_
      exact k)
    obtain ⟨_, _, ⟨T68, L68, k68, n68⟩, -, X68, ⟨Lc68, hQ68, l68, y68, z68⟩, st68⟩ := X65.specialBack hx (y := (⟨"com/example/halting_hound/haltinghound/IntList", "<init>", "()V"⟩ : MethodName)) rfl hown (mvT hZ (hw _ (List.mem_of_getElem? (i := 10) rfl))) (mvT hZ (hw _ (List.mem_of_getElem? (i := 11) rfl))) (mvT hZ (hw _ (List.mem_of_getElem? (i := 12) rfl))) (by decide) (backOf (W := 1) (rm_ini l Z a0 hw [] b65 _ h65 n0 (Nat.le_trans Z0 E65.1) A65 F65_values F65_size g_b65) hZ (hw _ (List.mem_of_getElem? (i := 12) rfl)) (hw _ (List.mem_of_getElem? (i := 9) rfl)) (by decide) (by decide)) (g := (mkF m 197 #[.val (.int p1), .val (.int p2), .val (.int p3), .val (.int p4), .val (.int p5), .val (.int p6), .val (.int (0 : Int32)), .val (.int s0), .val (.int s1), .val (.int s2), .val (.int s3), .val (.int u0), .val (.int u2), .val (.int u1), .val (.int u3), .val (.int w1), .val (.int w2), .val (.int (p2 &&& (3 : Int32))), .val (.int e1), .val (.int (((p1.toUInt32 >>> ((3 : Int32) &&& 31).toUInt32).toInt32) &&& (3 : Int32))), .val (.int q1), .unset, .unset] [(.ref b65), (.ref b65)])) rfl (by rw [hml]; rfl) (Steps.refl _) (a := b65) (argsL := []) (rest := [(.ref b65)]) (lenOf pd_2 rfl) rfl (by show 2 * 0 + _ ≤ _; exact Nat.le_of_eq rfl) (hb hby at_197) (fun _ _ => ⟨rfl, e65, (by decide : 1 + 1 ≤ _), (by decide : 2 + 2 ≤ _)⟩)
    dsimp only [Pt.U, Pt.locs, Pt.cells, Pt.slots] at X68 l68 y68 z68 st68 hQ68
    subst l68 y68 z68
    obtain ⟨h68, e68⟩ : ∃ z, T68.heap = z := ⟨_, rfl⟩
    rw [e68] at hQ68
    obtain ⟨rfl, N68q, K68, F68z, b68, k68, g68, ne68, F68v, V68⟩ := hQ68
    have N68 := Fr.app N38 N68q
    have go69 : ∀ t, Steps p.tables e below (T68.setTop (mkF m 200 #[.val (.int p1), .val (.int p2), .val (.int p3), .val (.int p4), .val (.int p5), .val (.int p6), .val (.int (0 : Int32)), .val (.int s0), .val (.int s1), .val (.int s2), .val (.int s3), .val (.int u0), .val (.int u2), .val (.int u1), .val (.int u3), .val (.int w1), .val (.int w2), .val (.int (p2 &&& (3 : Int32))), .val (.int e1), .val (.int (((p1.toUInt32 >>> ((3 : Int32) &&& 31).toUInt32).toInt32) &&& (3 : Int32))), .val (.int q1), .unset, .unset] [(.ref b65)])) t → Steps p.tables e below (s₁.setTop (entryFrame m #[(.int p1), (.int p2), (.int p3), (.int p4), (.int p5), (.int p6)] maxLocals)) t := fun t k => go67 t (st68.trans k)
    have f70 := A65.keep K68
    have go71 : ∀ t, Steps p.tables e below (T68.setTop (mkF m 267 #[.val (.int p1), .val (.int p2), .val (.int p3), .val (.int p4), .val (.int p5), .val (.int p6), .val (.int (0 : Int32)), .val (.int s0), .val (.int s1), .val (.int s2), .val (.int s3), .val (.int u0), .val (.int u2), .val (.int u1), .val (.int u3), .val (.int w1), .val (.int w2), .val (.int (p2 &&& (3 : Int32))), .val (.int e1), .val (.int (((p1.toUInt32 >>> ((3 : Int32) &&& 31).toUInt32).toInt32) &&& (3 : Int32))), .val (.int q1), .val (.ref b65), .unset] [(.int q1), (.int u0), (.int (0 : Int32))])) t → Steps p.tables e below (s₁.setTop (entryFrame m #[(.int p1), (.int p2), (.int p3), (.int p4), (.int p5), (.int p6)] maxLocals)) t := fun t k => go69 t (by
      show Steps p.tables e below (T68.setTop (mkF m 200 #[.val (.int p1), .val (.int p2), .val (.int p3), .val (.int p4), .val (.int p5), .val (.int p6), .val (.int (0 : Int32)), .val (.int s0), .val (.int s1), .val (.int s2), .val (.int s3), .val (.int u0), .val (.int u2), .val (.int u1), .val (.int u3), .val (.int w1), .val (.int w2), .val (.int (p2 &&& (3 : Int32))), .val (.int e1), .val (.int (((p1.toUInt32 >>> ((3 : Int32) &&& 31).toUInt32).toInt32) &&& (3 : Int32))), .val (.int q1), .unset, .unset] [(.ref b65)])) _
      refine XS.astore X68.here hx rfl (hb hby at_200) rfl rfl (l' := #[.val (.int p1), .val (.int p2), .val (.int p3), .val (.int p4), .val (.int p5), .val (.int p6), .val (.int (0 : Int32)), .val (.int s0), .val (.int s1), .val (.int s2), .val (.int s3), .val (.int u0), .val (.int u2), .val (.int u1), .val (.int u3), .val (.int w1), .val (.int w2), .val (.int (p2 &&& (3 : Int32))), .val (.int e1), .val (.int (((p1.toUInt32 >>> ((3 : Int32) &&& 31).toUInt32).toInt32) &&& (3 : Int32))), .val (.int q1), .val (.ref b65), .unset]) rfl ?_
      show Steps p.tables e below (T68.setTop (mkF m 202 #[.val (.int p1), .val (.int p2), .val (.int p3), .val (.int p4), .val (.int p5), .val (.int p6), .val (.int (0 : Int32)), .val (.int s0), .val (.int s1), .val (.int s2), .val (.int s3), .val (.int u0), .val (.int u2), .val (.int u1), .val (.int u3), .val (.int w1), .val (.int w2), .val (.int (p2 &&& (3 : Int32))), .val (.int e1), .val (.int (((p1.toUInt32 >>> ((3 : Int32) &&& 31).toUInt32).toInt32) &&& (3 : Int32))), .val (.int q1), .val (.ref b65), .unset] [])) _
      refine XS.iload X68.here hx rfl (hb hby at_202) rfl ?_
      show Steps p.tables e below (T68.setTop (mkF m 204 #[.val (.int p1), .val (.int p2), .val (.int p3), .val (.int p4), .val (.int p5), .val (.int p6), .val (.int (0 : Int32)), .val (.int s0), .val (.int s1), .val (.int s2), .val (.int s3), .val (.int u0), .val (.int u2), .val (.int u1), .val (.int u3), .val (.int w1), .val (.int w2), .val (.int (p2 &&& (3 : Int32))), .val (.int e1), .val (.int (((p1.toUInt32 >>> ((3 : Int32) &&& 31).toUInt32).toInt32) &&& (3 : Int32))), .val (.int q1), .val (.ref b65), .unset] [(.int (0 : Int32))])) _
      refine XS.ifYes X68.here hx rfl (pc0 := 204) (pc' := 214) rfl (hb hby at_204) rfl ((if0 _ _).trans (flt (by decide : ¬ ((0 : Int32) < (0 : Int32)))).2.2.2) (by decide) (by decide) ?_
      show Steps p.tables e below (T68.setTop (mkF m 214 #[.val (.int p1), .val (.int p2), .val (.int p3), .val (.int p4), .val (.int p5), .val (.int p6), .val (.int (0 : Int32)), .val (.int s0), .val (.int s1), .val (.int s2), .val (.int s3), .val (.int u0), .val (.int u2), .val (.int u1), .val (.int u3), .val (.int w1), .val (.int w2), .val (.int (p2 &&& (3 : Int32))), .val (.int e1), .val (.int (((p1.toUInt32 >>> ((3 : Int32) &&& 31).toUInt32).toInt32) &&& (3 : Int32))), .val (.int q1), .val (.ref b65), .unset] [])) _
      refine XS.iload X68.here hx rfl (hb hby at_214) rfl ?_
      show Steps p.tables e below (T68.setTop (mkF m 216 #[.val (.int p1), .val (.int p2), .val (.int p3), .val (.int p4), .val (.int p5), .val (.int p6), .val (.int (0 : Int32)), .val (.int s0), .val (.int s1), .val (.int s2), .val (.int s3), .val (.int u0), .val (.int u2), .val (.int u1), .val (.int u3), .val (.int w1), .val (.int w2), .val (.int (p2 &&& (3 : Int32))), .val (.int e1), .val (.int (((p1.toUInt32 >>> ((3 : Int32) &&& 31).toUInt32).toInt32) &&& (3 : Int32))), .val (.int q1), .val (.ref b65), .unset] [(.int (0 : Int32))])) _
      refine XS.iconst X68.here hx rfl (hb hby at_216) ?_
      show Steps p.tables e below (T68.setTop (mkF m 217 #[.val (.int p1), .val (.int p2), .val (.int p3), .val (.int p4), .val (.int p5), .val (.int p6), .val (.int (0 : Int32)), .val (.int s0), .val (.int s1), .val (.int s2), .val (.int s3), .val (.int u0), .val (.int u2), .val (.int u1), .val (.int u3), .val (.int w1), .val (.int w2), .val (.int (p2 &&& (3 : Int32))), .val (.int e1), .val (.int (((p1.toUInt32 >>> ((3 : Int32) &&& 31).toUInt32).toInt32) &&& (3 : Int32))), .val (.int q1), .val (.ref b65), .unset] [(.int (1 : Int32)), (.int (0 : Int32))])) _
      refine XS.icmpYes X68.here hx rfl (pc0 := 217) (pc' := 227) rfl (hb hby at_217) rfl (flt (by decide : ¬ ((1 : Int32) < (0 : Int32)))).2.2.2 (by decide) (by decide) ?_
      show Steps p.tables e below (T68.setTop (mkF m 227 #[.val (.int p1), .val (.int p2), .val (.int p3), .val (.int p4), .val (.int p5), .val (.int p6), .val (.int (0 : Int32)), .val (.int s0), .val (.int s1), .val (.int s2), .val (.int s3), .val (.int u0), .val (.int u2), .val (.int u1), .val (.int u3), .val (.int w1), .val (.int w2), .val (.int (p2 &&& (3 : Int32))), .val (.int e1), .val (.int (((p1.toUInt32 >>> ((3 : Int32) &&& 31).toUInt32).toInt32) &&& (3 : Int32))), .val (.int q1), .val (.ref b65), .unset] [])) _
      refine XS.iload X68.here hx rfl (hb hby at_227) rfl ?_
      show Steps p.tables e below (T68.setTop (mkF m 229 #[.val (.int p1), .val (.int p2), .val (.int p3), .val (.int p4), .val (.int p5), .val (.int p6), .val (.int (0 : Int32)), .val (.int s0), .val (.int s1), .val (.int s2), .val (.int s3), .val (.int u0), .val (.int u2), .val (.int u1), .val (.int u3), .val (.int w1), .val (.int w2), .val (.int (p2 &&& (3 : Int32))), .val (.int e1), .val (.int (((p1.toUInt32 >>> ((3 : Int32) &&& 31).toUInt32).toInt32) &&& (3 : Int32))), .val (.int q1), .val (.ref b65), .unset] [(.int (0 : Int32))])) _
      refine XS.iconst X68.here hx rfl (hb hby at_229) ?_
      show Steps p.tables e below (T68.setTop (mkF m 230 #[.val (.int p1), .val (.int p2), .val (.int p3), .val (.int p4), .val (.int p5), .val (.int p6), .val (.int (0 : Int32)), .val (.int s0), .val (.int s1), .val (.int s2), .val (.int s3), .val (.int u0), .val (.int u2), .val (.int u1), .val (.int u3), .val (.int w1), .val (.int w2), .val (.int (p2 &&& (3 : Int32))), .val (.int e1), .val (.int (((p1.toUInt32 >>> ((3 : Int32) &&& 31).toUInt32).toInt32) &&& (3 : Int32))), .val (.int q1), .val (.ref b65), .unset] [(.int (2 : Int32)), (.int (0 : Int32))])) _
      refine XS.icmpYes X68.here hx rfl (pc0 := 230) (pc' := 240) rfl (hb hby at_230) rfl (flt (by decide : ¬ ((2 : Int32) < (0 : Int32)))).2.2.2 (by decide) (by decide) ?_
      show Steps p.tables e below (T68.setTop (mkF m 240 #[.val (.int p1), .val (.int p2), .val (.int p3), .val (.int p4), .val (.int p5), .val (.int p6), .val (.int (0 : Int32)), .val (.int s0), .val (.int s1), .val (.int s2), .val (.int s3), .val (.int u0), .val (.int u2), .val (.int u1), .val (.int u3), .val (.int w1), .val (.int w2), .val (.int (p2 &&& (3 : Int32))), .val (.int e1), .val (.int (((p1.toUInt32 >>> ((3 : Int32) &&& 31).toUInt32).toInt32) &&& (3 : Int32))), .val (.int q1), .val (.ref b65), .unset] [])) _
      refine XS.iload X68.here hx rfl (hb hby at_240) rfl ?_
      show Steps p.tables e below (T68.setTop (mkF m 242 #[.val (.int p1), .val (.int p2), .val (.int p3), .val (.int p4), .val (.int p5), .val (.int p6), .val (.int (0 : Int32)), .val (.int s0), .val (.int s1), .val (.int s2), .val (.int s3), .val (.int u0), .val (.int u2), .val (.int u1), .val (.int u3), .val (.int w1), .val (.int w2), .val (.int (p2 &&& (3 : Int32))), .val (.int e1), .val (.int (((p1.toUInt32 >>> ((3 : Int32) &&& 31).toUInt32).toInt32) &&& (3 : Int32))), .val (.int q1), .val (.ref b65), .unset] [(.int (0 : Int32))])) _
      refine XS.iconst X68.here hx rfl (hb hby at_242) ?_
      show Steps p.tables e below (T68.setTop (mkF m 243 #[.val (.int p1), .val (.int p2), .val (.int p3), .val (.int p4), .val (.int p5), .val (.int p6), .val (.int (0 : Int32)), .val (.int s0), .val (.int s1), .val (.int s2), .val (.int s3), .val (.int u0), .val (.int u2), .val (.int u1), .val (.int u3), .val (.int w1), .val (.int w2), .val (.int (p2 &&& (3 : Int32))), .val (.int e1), .val (.int (((p1.toUInt32 >>> ((3 : Int32) &&& 31).toUInt32).toInt32) &&& (3 : Int32))), .val (.int q1), .val (.ref b65), .unset] [(.int (3 : Int32)), (.int (0 : Int32))])) _
      refine XS.icmpYes X68.here hx rfl (pc0 := 243) (pc' := 253) rfl (hb hby at_243) rfl (flt (by decide : ¬ ((3 : Int32) < (0 : Int32)))).2.2.2 (by decide) (by decide) ?_
      show Steps p.tables e below (T68.setTop (mkF m 253 #[.val (.int p1), .val (.int p2), .val (.int p3), .val (.int p4), .val (.int p5), .val (.int p6), .val (.int (0 : Int32)), .val (.int s0), .val (.int s1), .val (.int s2), .val (.int s3), .val (.int u0), .val (.int u2), .val (.int u1), .val (.int u3), .val (.int w1), .val (.int w2), .val (.int (p2 &&& (3 : Int32))), .val (.int e1), .val (.int (((p1.toUInt32 >>> ((3 : Int32) &&& 31).toUInt32).toInt32) &&& (3 : Int32))), .val (.int q1), .val (.ref b65), .unset] [])) _
      refine XS.iload X68.here hx rfl (hb hby at_253) rfl ?_
      show Steps p.tables e below (T68.setTop (mkF m 255 #[.val (.int p1), .val (.int p2), .val (.int p3), .val (.int p4), .val (.int p5), .val (.int p6), .val (.int (0 : Int32)), .val (.int s0), .val (.int s1), .val (.int s2), .val (.int s3), .val (.int u0), .val (.int u2), .val (.int u1), .val (.int u3), .val (.int w1), .val (.int w2), .val (.int (p2 &&& (3 : Int32))), .val (.int e1), .val (.int (((p1.toUInt32 >>> ((3 : Int32) &&& 31).toUInt32).toInt32) &&& (3 : Int32))), .val (.int q1), .val (.ref b65), .unset] [(.int (0 : Int32))])) _
      refine XS.ifYes X68.here hx rfl (pc0 := 255) (pc' := 262) rfl (hb hby at_255) rfl ((if0 _ _).trans (flt (by decide : ¬ ((0 : Int32) < (0 : Int32)))).2.2.2) (by decide) (by decide) ?_
      show Steps p.tables e below (T68.setTop (mkF m 262 #[.val (.int p1), .val (.int p2), .val (.int p3), .val (.int p4), .val (.int p5), .val (.int p6), .val (.int (0 : Int32)), .val (.int s0), .val (.int s1), .val (.int s2), .val (.int s3), .val (.int u0), .val (.int u2), .val (.int u1), .val (.int u3), .val (.int w1), .val (.int w2), .val (.int (p2 &&& (3 : Int32))), .val (.int e1), .val (.int (((p1.toUInt32 >>> ((3 : Int32) &&& 31).toUInt32).toInt32) &&& (3 : Int32))), .val (.int q1), .val (.ref b65), .unset] [])) _
      refine XS.iconst X68.here hx rfl (hb hby at_262) ?_
      show Steps p.tables e below (T68.setTop (mkF m 263 #[.val (.int p1), .val (.int p2), .val (.int p3), .val (.int p4), .val (.int p5), .val (.int p6), .val (.int (0 : Int32)), .val (.int s0), .val (.int s1), .val (.int s2), .val (.int s3), .val (.int u0), .val (.int u2), .val (.int u1), .val (.int u3), .val (.int w1), .val (.int w2), .val (.int (p2 &&& (3 : Int32))), .val (.int e1), .val (.int (((p1.toUInt32 >>> ((3 : Int32) &&& 31).toUInt32).toInt32) &&& (3 : Int32))), .val (.int q1), .val (.ref b65), .unset] [(.int (0 : Int32))])) _
      refine XS.iload X68.here hx rfl (hb hby at_263) rfl ?_
      show Steps p.tables e below (T68.setTop (mkF m 265 #[.val (.int p1), .val (.int p2), .val (.int p3), .val (.int p4), .val (.int p5), .val (.int p6), .val (.int (0 : Int32)), .val (.int s0), .val (.int s1), .val (.int s2), .val (.int s3), .val (.int u0), .val (.int u2), .val (.int u1), .val (.int u3), .val (.int w1), .val (.int w2), .val (.int (p2 &&& (3 : Int32))), .val (.int e1), .val (.int (((p1.toUInt32 >>> ((3 : Int32) &&& 31).toUInt32).toInt32) &&& (3 : Int32))), .val (.int q1), .val (.ref b65), .unset] [(.int u0), (.int (0 : Int32))])) _
      refine XS.iload X68.here hx rfl (hb hby at_265) rfl ?_
      exact k)
    obtain ⟨_, _, ⟨T72, L72, k72, n72⟩, -, X72, ⟨Lc72, hQ72, l72, y72, z72⟩, st72⟩ := Jvm.LawKit.callS X68 hx (y := (⟨"com/example/halting_hound/haltinghound/IntListFirstAtLeastPinLaw", "below", "(ZII)I"⟩ : MethodName)) hown (mvT hZ (hw _ (List.mem_of_getElem? (i := 19) rfl))) (mvT hZ (hw _ (List.mem_of_getElem? (i := 20) rfl))) (mvT hZ (hw _ (List.mem_of_getElem? (i := 21) rfl))) (mvT hZ (hw _ (List.mem_of_getElem? (i := 22) rfl))) (by decide) (backOf (W := 0) (rm_bl l Z a0 hw [] (0 : Int32) u0 q1 h68 n0 (Nat.le_trans (Nat.le_trans Z0 E65.1) K68.1) ) hZ (hw _ (List.mem_of_getElem? (i := 22) rfl)) (hw _ (List.mem_of_getElem? (i := 21) rfl)) (by decide) (by decide)) (g := (mkF m 267 #[.val (.int p1), .val (.int p2), .val (.int p3), .val (.int p4), .val (.int p5), .val (.int p6), .val (.int (0 : Int32)), .val (.int s0), .val (.int s1), .val (.int s2), .val (.int s3), .val (.int u0), .val (.int u2), .val (.int u1), .val (.int u3), .val (.int w1), .val (.int w2), .val (.int (p2 &&& (3 : Int32))), .val (.int e1), .val (.int (((p1.toUInt32 >>> ((3 : Int32) &&& 31).toUInt32).toInt32) &&& (3 : Int32))), .val (.int q1), .val (.ref b65), .unset] [(.int q1), (.int u0), (.int (0 : Int32))])) rfl (by rw [hml]; rfl) (argsL := [(.int (0 : Int32)), (.int u0), (.int q1)]) (rest := []) (lenOf pd_3 rfl) rfl (by show 2 * 0 + _ ≤ _; exact Nat.le_of_eq rfl) (hb hby at_267) (fun _ _ => ⟨rfl, e68, (by decide : 2 + 0 ≤ _), (by decide : 4 + 0 ≤ _)⟩)
    dsimp only [Pt.U, Pt.locs, Pt.cells, Pt.slots] at X72 l72 y72 z72 st72 hQ72
    subst l72 y72 z72
    obtain ⟨rfl, N72q, e72⟩ := hQ72
    have N72 := Fr.app N68 N72q
    have go73 : ∀ t, Steps p.tables e below (T72.setTop (mkF m 270 #[.val (.int p1), .val (.int p2), .val (.int p3), .val (.int p4), .val (.int p5), .val (.int p6), .val (.int (0 : Int32)), .val (.int s0), .val (.int s1), .val (.int s2), .val (.int s3), .val (.int u0), .val (.int u2), .val (.int u1), .val (.int u3), .val (.int w1), .val (.int w2), .val (.int (p2 &&& (3 : Int32))), .val (.int e1), .val (.int (((p1.toUInt32 >>> ((3 : Int32) &&& 31).toUInt32).toInt32) &&& (3 : Int32))), .val (.int q1), .val (.ref b65), .unset] [(.int (own_below (0 : Int32) u0 q1))])) t → Steps p.tables e below (s₁.setTop (entryFrame m #[(.int p1), (.int p2), (.int p3), (.int p4), (.int p5), (.int p6)] maxLocals)) t := fun t k => go71 t (st72 t k)
    have go74 : ∀ t, Steps p.tables e below (T72.setTop (mkF m 285 #[.val (.int p1), .val (.int p2), .val (.int p3), .val (.int p4), .val (.int p5), .val (.int p6), .val (.int (0 : Int32)), .val (.int s0), .val (.int s1), .val (.int s2), .val (.int s3), .val (.int u0), .val (.int u2), .val (.int u1), .val (.int u3), .val (.int w1), .val (.int w2), .val (.int (p2 &&& (3 : Int32))), .val (.int e1), .val (.int (((p1.toUInt32 >>> ((3 : Int32) &&& 31).toUInt32).toInt32) &&& (3 : Int32))), .val (.int q1), .val (.ref b65), .unset] [(.int q1), (.int w1), (.int (0 : Int32)), (.int (own_below (0 : Int32) u0 q1))])) t → Steps p.tables e below (s₁.setTop (entryFrame m #[(.int p1), (.int p2), (.int p3), (.int p4), (.int p5), (.int p6)] maxLocals)) t := fun t k => go73 t (by
      show Steps p.tables e below (T72.setTop (mkF m 270 #[.val (.int p1), .val (.int p2), .val (.int p3), .val (.int p4), .val (.int p5), .val (.int p6), .val (.int (0 : Int32)), .val (.int s0), .val (.int s1), .val (.int s2), .val (.int s3), .val (.int u0), .val (.int u2), .val (.int u1), .val (.int u3), .val (.int w1), .val (.int w2), .val (.int (p2 &&& (3 : Int32))), .val (.int e1), .val (.int (((p1.toUInt32 >>> ((3 : Int32) &&& 31).toUInt32).toInt32) &&& (3 : Int32))), .val (.int q1), .val (.ref b65), .unset] [(.int (own_below (0 : Int32) u0 q1))])) _
      refine XS.iload X72.here hx rfl (hb hby at_270) rfl ?_
      show Steps p.tables e below (T72.setTop (mkF m 272 #[.val (.int p1), .val (.int p2), .val (.int p3), .val (.int p4), .val (.int p5), .val (.int p6), .val (.int (0 : Int32)), .val (.int s0), .val (.int s1), .val (.int s2), .val (.int s3), .val (.int u0), .val (.int u2), .val (.int u1), .val (.int u3), .val (.int w1), .val (.int w2), .val (.int (p2 &&& (3 : Int32))), .val (.int e1), .val (.int (((p1.toUInt32 >>> ((3 : Int32) &&& 31).toUInt32).toInt32) &&& (3 : Int32))), .val (.int q1), .val (.ref b65), .unset] [(.int (0 : Int32)), (.int (own_below (0 : Int32) u0 q1))])) _
      refine XS.iconst X72.here hx rfl (hb hby at_272) ?_
      show Steps p.tables e below (T72.setTop (mkF m 273 #[.val (.int p1), .val (.int p2), .val (.int p3), .val (.int p4), .val (.int p5), .val (.int p6), .val (.int (0 : Int32)), .val (.int s0), .val (.int s1), .val (.int s2), .val (.int s3), .val (.int u0), .val (.int u2), .val (.int u1), .val (.int u3), .val (.int w1), .val (.int w2), .val (.int (p2 &&& (3 : Int32))), .val (.int e1), .val (.int (((p1.toUInt32 >>> ((3 : Int32) &&& 31).toUInt32).toInt32) &&& (3 : Int32))), .val (.int q1), .val (.ref b65), .unset] [(.int (1 : Int32)), (.int (0 : Int32)), (.int (own_below (0 : Int32) u0 q1))])) _
      refine XS.icmpYes X72.here hx rfl (pc0 := 273) (pc' := 280) rfl (hb hby at_273) rfl (flt (by decide : ¬ ((1 : Int32) < (0 : Int32)))).2.2.2 (by decide) (by decide) ?_
      show Steps p.tables e below (T72.setTop (mkF m 280 #[.val (.int p1), .val (.int p2), .val (.int p3), .val (.int p4), .val (.int p5), .val (.int p6), .val (.int (0 : Int32)), .val (.int s0), .val (.int s1), .val (.int s2), .val (.int s3), .val (.int u0), .val (.int u2), .val (.int u1), .val (.int u3), .val (.int w1), .val (.int w2), .val (.int (p2 &&& (3 : Int32))), .val (.int e1), .val (.int (((p1.toUInt32 >>> ((3 : Int32) &&& 31).toUInt32).toInt32) &&& (3 : Int32))), .val (.int q1), .val (.ref b65), .unset] [(.int (own_below (0 : Int32) u0 q1))])) _
      refine XS.iconst X72.here hx rfl (hb hby at_280) ?_
      show Steps p.tables e below (T72.setTop (mkF m 281 #[.val (.int p1), .val (.int p2), .val (.int p3), .val (.int p4), .val (.int p5), .val (.int p6), .val (.int (0 : Int32)), .val (.int s0), .val (.int s1), .val (.int s2), .val (.int s3), .val (.int u0), .val (.int u2), .val (.int u1), .val (.int u3), .val (.int w1), .val (.int w2), .val (.int (p2 &&& (3 : Int32))), .val (.int e1), .val (.int (((p1.toUInt32 >>> ((3 : Int32) &&& 31).toUInt32).toInt32) &&& (3 : Int32))), .val (.int q1), .val (.ref b65), .unset] [(.int (0 : Int32)), (.int (own_below (0 : Int32) u0 q1))])) _
      refine XS.iload X72.here hx rfl (hb hby at_281) rfl ?_
      show Steps p.tables e below (T72.setTop (mkF m 283 #[.val (.int p1), .val (.int p2), .val (.int p3), .val (.int p4), .val (.int p5), .val (.int p6), .val (.int (0 : Int32)), .val (.int s0), .val (.int s1), .val (.int s2), .val (.int s3), .val (.int u0), .val (.int u2), .val (.int u1), .val (.int u3), .val (.int w1), .val (.int w2), .val (.int (p2 &&& (3 : Int32))), .val (.int e1), .val (.int (((p1.toUInt32 >>> ((3 : Int32) &&& 31).toUInt32).toInt32) &&& (3 : Int32))), .val (.int q1), .val (.ref b65), .unset] [(.int w1), (.int (0 : Int32)), (.int (own_below (0 : Int32) u0 q1))])) _
      refine XS.iload X72.here hx rfl (hb hby at_283) rfl ?_
      exact k)
    obtain ⟨_, _, ⟨T75, L75, k75, n75⟩, -, X75, ⟨Lc75, hQ75, l75, y75, z75⟩, st75⟩ := Jvm.LawKit.callS X72 hx (y := (⟨"com/example/halting_hound/haltinghound/IntListFirstAtLeastPinLaw", "below", "(ZII)I"⟩ : MethodName)) hown (mvT hZ (hw _ (List.mem_of_getElem? (i := 19) rfl))) (mvT hZ (hw _ (List.mem_of_getElem? (i := 20) rfl))) (mvT hZ (hw _ (List.mem_of_getElem? (i := 21) rfl))) (mvT hZ (hw _ (List.mem_of_getElem? (i := 22) rfl))) (by decide) (backOf (W := 1) (rm_bl l Z a0 hw [] (0 : Int32) w1 q1 h68 n0 (Nat.le_trans (Nat.le_trans Z0 E65.1) K68.1) ) hZ (hw _ (List.mem_of_getElem? (i := 22) rfl)) (hw _ (List.mem_of_getElem? (i := 21) rfl)) (by decide) (by decide)) (g := (mkF m 285 #[.val (.int p1), .val (.int p2), .val (.int p3), .val (.int p4), .val (.int p5), .val (.int p6), .val (.int (0 : Int32)), .val (.int s0), .val (.int s1), .val (.int s2), .val (.int s3), .val (.int u0), .val (.int u2), .val (.int u1), .val (.int u3), .val (.int w1), .val (.int w2), .val (.int (p2 &&& (3 : Int32))), .val (.int e1), .val (.int (((p1.toUInt32 >>> ((3 : Int32) &&& 31).toUInt32).toInt32) &&& (3 : Int32))), .val (.int q1), .val (.ref b65), .unset] [(.int q1), (.int w1), (.int (0 : Int32)), (.int (own_below (0 : Int32) u0 q1))])) rfl (by rw [hml]; rfl) (argsL := [(.int (0 : Int32)), (.int w1), (.int q1)]) (rest := [(.int (own_below (0 : Int32) u0 q1))]) (lenOf pd_3 rfl) rfl (by show 2 * 0 + _ ≤ _; exact Nat.le_of_eq rfl) (hb hby at_285) (fun _ _ => ⟨rfl, e72, (by decide : 2 + 0 ≤ _), (by decide : 4 + 0 ≤ _)⟩)
    dsimp only [Pt.U, Pt.locs, Pt.cells, Pt.slots] at X75 l75 y75 z75 st75 hQ75
    subst l75 y75 z75
    obtain ⟨rfl, N75q, e75⟩ := hQ75
    have N75 := Fr.app N72 N75q
    have go76 : ∀ t, Steps p.tables e below (T75.setTop (mkF m 288 #[.val (.int p1), .val (.int p2), .val (.int p3), .val (.int p4), .val (.int p5), .val (.int p6), .val (.int (0 : Int32)), .val (.int s0), .val (.int s1), .val (.int s2), .val (.int s3), .val (.int u0), .val (.int u2), .val (.int u1), .val (.int u3), .val (.int w1), .val (.int w2), .val (.int (p2 &&& (3 : Int32))), .val (.int e1), .val (.int (((p1.toUInt32 >>> ((3 : Int32) &&& 31).toUInt32).toInt32) &&& (3 : Int32))), .val (.int q1), .val (.ref b65), .unset] [(.int (own_below (0 : Int32) w1 q1)), (.int (own_below (0 : Int32) u0 q1))])) t → Steps p.tables e below (s₁.setTop (entryFrame m #[(.int p1), (.int p2), (.int p3), (.int p4), (.int p5), (.int p6)] maxLocals)) t := fun t k => go74 t (st75 t k)
    have go77 : ∀ t, Steps p.tables e below (T75.setTop (mkF m 304 #[.val (.int p1), .val (.int p2), .val (.int p3), .val (.int p4), .val (.int p5), .val (.int p6), .val (.int (0 : Int32)), .val (.int s0), .val (.int s1), .val (.int s2), .val (.int s3), .val (.int u0), .val (.int u2), .val (.int u1), .val (.int u3), .val (.int w1), .val (.int w2), .val (.int (p2 &&& (3 : Int32))), .val (.int e1), .val (.int (((p1.toUInt32 >>> ((3 : Int32) &&& 31).toUInt32).toInt32) &&& (3 : Int32))), .val (.int q1), .val (.ref b65), .unset] [(.int q1), (.int w2), (.int (0 : Int32)), (.int ((own_below (0 : Int32) u0 q1) + (own_below (0 : Int32) w1 q1)))])) t → Steps p.tables e below (s₁.setTop (entryFrame m #[(.int p1), (.int p2), (.int p3), (.int p4), (.int p5), (.int p6)] maxLocals)) t := fun t k => go76 t (by
      show Steps p.tables e below (T75.setTop (mkF m 288 #[.val (.int p1), .val (.int p2), .val (.int p3), .val (.int p4), .val (.int p5), .val (.int p6), .val (.int (0 : Int32)), .val (.int s0), .val (.int s1), .val (.int s2), .val (.int s3), .val (.int u0), .val (.int u2), .val (.int u1), .val (.int u3), .val (.int w1), .val (.int w2), .val (.int (p2 &&& (3 : Int32))), .val (.int e1), .val (.int (((p1.toUInt32 >>> ((3 : Int32) &&& 31).toUInt32).toInt32) &&& (3 : Int32))), .val (.int q1), .val (.ref b65), .unset] [(.int (own_below (0 : Int32) w1 q1)), (.int (own_below (0 : Int32) u0 q1))])) _
      refine XS.iadd X75.here hx rfl (hb hby at_288) rfl ?_
      show Steps p.tables e below (T75.setTop (mkF m 289 #[.val (.int p1), .val (.int p2), .val (.int p3), .val (.int p4), .val (.int p5), .val (.int p6), .val (.int (0 : Int32)), .val (.int s0), .val (.int s1), .val (.int s2), .val (.int s3), .val (.int u0), .val (.int u2), .val (.int u1), .val (.int u3), .val (.int w1), .val (.int w2), .val (.int (p2 &&& (3 : Int32))), .val (.int e1), .val (.int (((p1.toUInt32 >>> ((3 : Int32) &&& 31).toUInt32).toInt32) &&& (3 : Int32))), .val (.int q1), .val (.ref b65), .unset] [(.int ((own_below (0 : Int32) u0 q1) + (own_below (0 : Int32) w1 q1)))])) _
      refine XS.iload X75.here hx rfl (hb hby at_289) rfl ?_
      show Steps p.tables e below (T75.setTop (mkF m 291 #[.val (.int p1), .val (.int p2), .val (.int p3), .val (.int p4), .val (.int p5), .val (.int p6), .val (.int (0 : Int32)), .val (.int s0), .val (.int s1), .val (.int s2), .val (.int s3), .val (.int u0), .val (.int u2), .val (.int u1), .val (.int u3), .val (.int w1), .val (.int w2), .val (.int (p2 &&& (3 : Int32))), .val (.int e1), .val (.int (((p1.toUInt32 >>> ((3 : Int32) &&& 31).toUInt32).toInt32) &&& (3 : Int32))), .val (.int q1), .val (.ref b65), .unset] [(.int (0 : Int32)), (.int ((own_below (0 : Int32) u0 q1) + (own_below (0 : Int32) w1 q1)))])) _
      refine XS.iconst X75.here hx rfl (hb hby at_291) ?_
      show Steps p.tables e below (T75.setTop (mkF m 292 #[.val (.int p1), .val (.int p2), .val (.int p3), .val (.int p4), .val (.int p5), .val (.int p6), .val (.int (0 : Int32)), .val (.int s0), .val (.int s1), .val (.int s2), .val (.int s3), .val (.int u0), .val (.int u2), .val (.int u1), .val (.int u3), .val (.int w1), .val (.int w2), .val (.int (p2 &&& (3 : Int32))), .val (.int e1), .val (.int (((p1.toUInt32 >>> ((3 : Int32) &&& 31).toUInt32).toInt32) &&& (3 : Int32))), .val (.int q1), .val (.ref b65), .unset] [(.int (2 : Int32)), (.int (0 : Int32)), (.int ((own_below (0 : Int32) u0 q1) + (own_below (0 : Int32) w1 q1)))])) _
      refine XS.icmpYes X75.here hx rfl (pc0 := 292) (pc' := 299) rfl (hb hby at_292) rfl (flt (by decide : ¬ ((2 : Int32) < (0 : Int32)))).2.2.2 (by decide) (by decide) ?_
      show Steps p.tables e below (T75.setTop (mkF m 299 #[.val (.int p1), .val (.int p2), .val (.int p3), .val (.int p4), .val (.int p5), .val (.int p6), .val (.int (0 : Int32)), .val (.int s0), .val (.int s1), .val (.int s2), .val (.int s3), .val (.int u0), .val (.int u2), .val (.int u1), .val (.int u3), .val (.int w1), .val (.int w2), .val (.int (p2 &&& (3 : Int32))), .val (.int e1), .val (.int (((p1.toUInt32 >>> ((3 : Int32) &&& 31).toUInt32).toInt32) &&& (3 : Int32))), .val (.int q1), .val (.ref b65), .unset] [(.int ((own_below (0 : Int32) u0 q1) + (own_below (0 : Int32) w1 q1)))])) _
      refine XS.iconst X75.here hx rfl (hb hby at_299) ?_
      show Steps p.tables e below (T75.setTop (mkF m 300 #[.val (.int p1), .val (.int p2), .val (.int p3), .val (.int p4), .val (.int p5), .val (.int p6), .val (.int (0 : Int32)), .val (.int s0), .val (.int s1), .val (.int s2), .val (.int s3), .val (.int u0), .val (.int u2), .val (.int u1), .val (.int u3), .val (.int w1), .val (.int w2), .val (.int (p2 &&& (3 : Int32))), .val (.int e1), .val (.int (((p1.toUInt32 >>> ((3 : Int32) &&& 31).toUInt32).toInt32) &&& (3 : Int32))), .val (.int q1), .val (.ref b65), .unset] [(.int (0 : Int32)), (.int ((own_below (0 : Int32) u0 q1) + (own_below (0 : Int32) w1 q1)))])) _
      refine XS.iload X75.here hx rfl (hb hby at_300) rfl ?_
      show Steps p.tables e below (T75.setTop (mkF m 302 #[.val (.int p1), .val (.int p2), .val (.int p3), .val (.int p4), .val (.int p5), .val (.int p6), .val (.int (0 : Int32)), .val (.int s0), .val (.int s1), .val (.int s2), .val (.int s3), .val (.int u0), .val (.int u2), .val (.int u1), .val (.int u3), .val (.int w1), .val (.int w2), .val (.int (p2 &&& (3 : Int32))), .val (.int e1), .val (.int (((p1.toUInt32 >>> ((3 : Int32) &&& 31).toUInt32).toInt32) &&& (3 : Int32))), .val (.int q1), .val (.ref b65), .unset] [(.int w2), (.int (0 : Int32)), (.int ((own_below (0 : Int32) u0 q1) + (own_below (0 : Int32) w1 q1)))])) _
      refine XS.iload X75.here hx rfl (hb hby at_302) rfl ?_
      exact k)
    obtain ⟨_, _, ⟨T78, L78, k78, n78⟩, -, X78, ⟨Lc78, hQ78, l78, y78, z78⟩, st78⟩ := Jvm.LawKit.callS X75 hx (y := (⟨"com/example/halting_hound/haltinghound/IntListFirstAtLeastPinLaw", "below", "(ZII)I"⟩ : MethodName)) hown (mvT hZ (hw _ (List.mem_of_getElem? (i := 19) rfl))) (mvT hZ (hw _ (List.mem_of_getElem? (i := 20) rfl))) (mvT hZ (hw _ (List.mem_of_getElem? (i := 21) rfl))) (mvT hZ (hw _ (List.mem_of_getElem? (i := 22) rfl))) (by decide) (backOf (W := 1) (rm_bl l Z a0 hw [] (0 : Int32) w2 q1 h68 n0 (Nat.le_trans (Nat.le_trans Z0 E65.1) K68.1) ) hZ (hw _ (List.mem_of_getElem? (i := 22) rfl)) (hw _ (List.mem_of_getElem? (i := 21) rfl)) (by decide) (by decide)) (g := (mkF m 304 #[.val (.int p1), .val (.int p2), .val (.int p3), .val (.int p4), .val (.int p5), .val (.int p6), .val (.int (0 : Int32)), .val (.int s0), .val (.int s1), .val (.int s2), .val (.int s3), .val (.int u0), .val (.int u2), .val (.int u1), .val (.int u3), .val (.int w1), .val (.int w2), .val (.int (p2 &&& (3 : Int32))), .val (.int e1), .val (.int (((p1.toUInt32 >>> ((3 : Int32) &&& 31).toUInt32).toInt32) &&& (3 : Int32))), .val (.int q1), .val (.ref b65), .unset] [(.int q1), (.int w2), (.int (0 : Int32)), (.int ((own_below (0 : Int32) u0 q1) + (own_below (0 : Int32) w1 q1)))])) rfl (by rw [hml]; rfl) (argsL := [(.int (0 : Int32)), (.int w2), (.int q1)]) (rest := [(.int ((own_below (0 : Int32) u0 q1) + (own_below (0 : Int32) w1 q1)))]) (lenOf pd_3 rfl) rfl (by show 2 * 0 + _ ≤ _; exact Nat.le_of_eq rfl) (hb hby at_304) (fun _ _ => ⟨rfl, e75, (by decide : 2 + 0 ≤ _), (by decide : 4 + 0 ≤ _)⟩)
    dsimp only [Pt.U, Pt.locs, Pt.cells, Pt.slots] at X78 l78 y78 z78 st78 hQ78
    subst l78 y78 z78
    obtain ⟨rfl, N78q, e78⟩ := hQ78
    have N78 := Fr.app N75 N78q
    have go79 : ∀ t, Steps p.tables e below (T78.setTop (mkF m 307 #[.val (.int p1), .val (.int p2), .val (.int p3), .val (.int p4), .val (.int p5), .val (.int p6), .val (.int (0 : Int32)), .val (.int s0), .val (.int s1), .val (.int s2), .val (.int s3), .val (.int u0), .val (.int u2), .val (.int u1), .val (.int u3), .val (.int w1), .val (.int w2), .val (.int (p2 &&& (3 : Int32))), .val (.int e1), .val (.int (((p1.toUInt32 >>> ((3 : Int32) &&& 31).toUInt32).toInt32) &&& (3 : Int32))), .val (.int q1), .val (.ref b65), .unset] [(.int (own_below (0 : Int32) w2 q1)), (.int ((own_below (0 : Int32) u0 q1) + (own_below (0 : Int32) w1 q1)))])) t → Steps p.tables e below (s₁.setTop (entryFrame m #[(.int p1), (.int p2), (.int p3), (.int p4), (.int p5), (.int p6)] maxLocals)) t := fun t k => go77 t (st78 t k)
    have go80 : ∀ t, Steps p.tables e below (T78.setTop (mkF m 323 #[.val (.int p1), .val (.int p2), .val (.int p3), .val (.int p4), .val (.int p5), .val (.int p6), .val (.int (0 : Int32)), .val (.int s0), .val (.int s1), .val (.int s2), .val (.int s3), .val (.int u0), .val (.int u2), .val (.int u1), .val (.int u3), .val (.int w1), .val (.int w2), .val (.int (p2 &&& (3 : Int32))), .val (.int e1), .val (.int (((p1.toUInt32 >>> ((3 : Int32) &&& 31).toUInt32).toInt32) &&& (3 : Int32))), .val (.int q1), .val (.ref b65), .unset] [(.int q1), (.int u3), (.int (0 : Int32)), (.int (((own_below (0 : Int32) u0 q1) + (own_below (0 : Int32) w1 q1)) + (own_below (0 : Int32) w2 q1)))])) t → Steps p.tables e below (s₁.setTop (entryFrame m #[(.int p1), (.int p2), (.int p3), (.int p4), (.int p5), (.int p6)] maxLocals)) t := fun t k => go79 t (by
      show Steps p.tables e below (T78.setTop (mkF m 307 #[.val (.int p1), .val (.int p2), .val (.int p3), .val (.int p4), .val (.int p5), .val (.int p6), .val (.int (0 : Int32)), .val (.int s0), .val (.int s1), .val (.int s2), .val (.int s3), .val (.int u0), .val (.int u2), .val (.int u1), .val (.int u3), .val (.int w1), .val (.int w2), .val (.int (p2 &&& (3 : Int32))), .val (.int e1), .val (.int (((p1.toUInt32 >>> ((3 : Int32) &&& 31).toUInt32).toInt32) &&& (3 : Int32))), .val (.int q1), .val (.ref b65), .unset] [(.int (own_below (0 : Int32) w2 q1)), (.int ((own_below (0 : Int32) u0 q1) + (own_below (0 : Int32) w1 q1)))])) _
      refine XS.iadd X78.here hx rfl (hb hby at_307) rfl ?_
      show Steps p.tables e below (T78.setTop (mkF m 308 #[.val (.int p1), .val (.int p2), .val (.int p3), .val (.int p4), .val (.int p5), .val (.int p6), .val (.int (0 : Int32)), .val (.int s0), .val (.int s1), .val (.int s2), .val (.int s3), .val (.int u0), .val (.int u2), .val (.int u1), .val (.int u3), .val (.int w1), .val (.int w2), .val (.int (p2 &&& (3 : Int32))), .val (.int e1), .val (.int (((p1.toUInt32 >>> ((3 : Int32) &&& 31).toUInt32).toInt32) &&& (3 : Int32))), .val (.int q1), .val (.ref b65), .unset] [(.int (((own_below (0 : Int32) u0 q1) + (own_below (0 : Int32) w1 q1)) + (own_below (0 : Int32) w2 q1)))])) _
      refine XS.iload X78.here hx rfl (hb hby at_308) rfl ?_
      show Steps p.tables e below (T78.setTop (mkF m 310 #[.val (.int p1), .val (.int p2), .val (.int p3), .val (.int p4), .val (.int p5), .val (.int p6), .val (.int (0 : Int32)), .val (.int s0), .val (.int s1), .val (.int s2), .val (.int s3), .val (.int u0), .val (.int u2), .val (.int u1), .val (.int u3), .val (.int w1), .val (.int w2), .val (.int (p2 &&& (3 : Int32))), .val (.int e1), .val (.int (((p1.toUInt32 >>> ((3 : Int32) &&& 31).toUInt32).toInt32) &&& (3 : Int32))), .val (.int q1), .val (.ref b65), .unset] [(.int (0 : Int32)), (.int (((own_below (0 : Int32) u0 q1) + (own_below (0 : Int32) w1 q1)) + (own_below (0 : Int32) w2 q1)))])) _
      refine XS.iconst X78.here hx rfl (hb hby at_310) ?_
      show Steps p.tables e below (T78.setTop (mkF m 311 #[.val (.int p1), .val (.int p2), .val (.int p3), .val (.int p4), .val (.int p5), .val (.int p6), .val (.int (0 : Int32)), .val (.int s0), .val (.int s1), .val (.int s2), .val (.int s3), .val (.int u0), .val (.int u2), .val (.int u1), .val (.int u3), .val (.int w1), .val (.int w2), .val (.int (p2 &&& (3 : Int32))), .val (.int e1), .val (.int (((p1.toUInt32 >>> ((3 : Int32) &&& 31).toUInt32).toInt32) &&& (3 : Int32))), .val (.int q1), .val (.ref b65), .unset] [(.int (3 : Int32)), (.int (0 : Int32)), (.int (((own_below (0 : Int32) u0 q1) + (own_below (0 : Int32) w1 q1)) + (own_below (0 : Int32) w2 q1)))])) _
      refine XS.icmpYes X78.here hx rfl (pc0 := 311) (pc' := 318) rfl (hb hby at_311) rfl (flt (by decide : ¬ ((3 : Int32) < (0 : Int32)))).2.2.2 (by decide) (by decide) ?_
      show Steps p.tables e below (T78.setTop (mkF m 318 #[.val (.int p1), .val (.int p2), .val (.int p3), .val (.int p4), .val (.int p5), .val (.int p6), .val (.int (0 : Int32)), .val (.int s0), .val (.int s1), .val (.int s2), .val (.int s3), .val (.int u0), .val (.int u2), .val (.int u1), .val (.int u3), .val (.int w1), .val (.int w2), .val (.int (p2 &&& (3 : Int32))), .val (.int e1), .val (.int (((p1.toUInt32 >>> ((3 : Int32) &&& 31).toUInt32).toInt32) &&& (3 : Int32))), .val (.int q1), .val (.ref b65), .unset] [(.int (((own_below (0 : Int32) u0 q1) + (own_below (0 : Int32) w1 q1)) + (own_below (0 : Int32) w2 q1)))])) _
      refine XS.iconst X78.here hx rfl (hb hby at_318) ?_
      show Steps p.tables e below (T78.setTop (mkF m 319 #[.val (.int p1), .val (.int p2), .val (.int p3), .val (.int p4), .val (.int p5), .val (.int p6), .val (.int (0 : Int32)), .val (.int s0), .val (.int s1), .val (.int s2), .val (.int s3), .val (.int u0), .val (.int u2), .val (.int u1), .val (.int u3), .val (.int w1), .val (.int w2), .val (.int (p2 &&& (3 : Int32))), .val (.int e1), .val (.int (((p1.toUInt32 >>> ((3 : Int32) &&& 31).toUInt32).toInt32) &&& (3 : Int32))), .val (.int q1), .val (.ref b65), .unset] [(.int (0 : Int32)), (.int (((own_below (0 : Int32) u0 q1) + (own_below (0 : Int32) w1 q1)) + (own_below (0 : Int32) w2 q1)))])) _
      refine XS.iload X78.here hx rfl (hb hby at_319) rfl ?_
      show Steps p.tables e below (T78.setTop (mkF m 321 #[.val (.int p1), .val (.int p2), .val (.int p3), .val (.int p4), .val (.int p5), .val (.int p6), .val (.int (0 : Int32)), .val (.int s0), .val (.int s1), .val (.int s2), .val (.int s3), .val (.int u0), .val (.int u2), .val (.int u1), .val (.int u3), .val (.int w1), .val (.int w2), .val (.int (p2 &&& (3 : Int32))), .val (.int e1), .val (.int (((p1.toUInt32 >>> ((3 : Int32) &&& 31).toUInt32).toInt32) &&& (3 : Int32))), .val (.int q1), .val (.ref b65), .unset] [(.int u3), (.int (0 : Int32)), (.int (((own_below (0 : Int32) u0 q1) + (own_below (0 : Int32) w1 q1)) + (own_below (0 : Int32) w2 q1)))])) _
      refine XS.iload X78.here hx rfl (hb hby at_321) rfl ?_
      exact k)
    obtain ⟨_, _, ⟨T81, L81, k81, n81⟩, -, X81, ⟨Lc81, hQ81, l81, y81, z81⟩, st81⟩ := Jvm.LawKit.callS X78 hx (y := (⟨"com/example/halting_hound/haltinghound/IntListFirstAtLeastPinLaw", "below", "(ZII)I"⟩ : MethodName)) hown (mvT hZ (hw _ (List.mem_of_getElem? (i := 19) rfl))) (mvT hZ (hw _ (List.mem_of_getElem? (i := 20) rfl))) (mvT hZ (hw _ (List.mem_of_getElem? (i := 21) rfl))) (mvT hZ (hw _ (List.mem_of_getElem? (i := 22) rfl))) (by decide) (backOf (W := 1) (rm_bl l Z a0 hw [] (0 : Int32) u3 q1 h68 n0 (Nat.le_trans (Nat.le_trans Z0 E65.1) K68.1) ) hZ (hw _ (List.mem_of_getElem? (i := 22) rfl)) (hw _ (List.mem_of_getElem? (i := 21) rfl)) (by decide) (by decide)) (g := (mkF m 323 #[.val (.int p1), .val (.int p2), .val (.int p3), .val (.int p4), .val (.int p5), .val (.int p6), .val (.int (0 : Int32)), .val (.int s0), .val (.int s1), .val (.int s2), .val (.int s3), .val (.int u0), .val (.int u2), .val (.int u1), .val (.int u3), .val (.int w1), .val (.int w2), .val (.int (p2 &&& (3 : Int32))), .val (.int e1), .val (.int (((p1.toUInt32 >>> ((3 : Int32) &&& 31).toUInt32).toInt32) &&& (3 : Int32))), .val (.int q1), .val (.ref b65), .unset] [(.int q1), (.int u3), (.int (0 : Int32)), (.int (((own_below (0 : Int32) u0 q1) + (own_below (0 : Int32) w1 q1)) + (own_below (0 : Int32) w2 q1)))])) rfl (by rw [hml]; rfl) (argsL := [(.int (0 : Int32)), (.int u3), (.int q1)]) (rest := [(.int (((own_below (0 : Int32) u0 q1) + (own_below (0 : Int32) w1 q1)) + (own_below (0 : Int32) w2 q1)))]) (lenOf pd_3 rfl) rfl (by show 2 * 0 + _ ≤ _; exact Nat.le_of_eq rfl) (hb hby at_323) (fun _ _ => ⟨rfl, e78, (by decide : 2 + 0 ≤ _), (by decide : 4 + 0 ≤ _)⟩)
    dsimp only [Pt.U, Pt.locs, Pt.cells, Pt.slots] at X81 l81 y81 z81 st81 hQ81
    subst l81 y81 z81
    obtain ⟨rfl, N81q, e81⟩ := hQ81
    have N81 := Fr.app N78 N81q
    have go82 : ∀ t, Steps p.tables e below (T81.setTop (mkF m 326 #[.val (.int p1), .val (.int p2), .val (.int p3), .val (.int p4), .val (.int p5), .val (.int p6), .val (.int (0 : Int32)), .val (.int s0), .val (.int s1), .val (.int s2), .val (.int s3), .val (.int u0), .val (.int u2), .val (.int u1), .val (.int u3), .val (.int w1), .val (.int w2), .val (.int (p2 &&& (3 : Int32))), .val (.int e1), .val (.int (((p1.toUInt32 >>> ((3 : Int32) &&& 31).toUInt32).toInt32) &&& (3 : Int32))), .val (.int q1), .val (.ref b65), .unset] [(.int (own_below (0 : Int32) u3 q1)), (.int (((own_below (0 : Int32) u0 q1) + (own_below (0 : Int32) w1 q1)) + (own_below (0 : Int32) w2 q1)))])) t → Steps p.tables e below (s₁.setTop (entryFrame m #[(.int p1), (.int p2), (.int p3), (.int p4), (.int p5), (.int p6)] maxLocals)) t := fun t k => go80 t (st81 t k)
    have go83 : ∀ t, Steps p.tables e below (T81.setTop (mkF m 333 #[.val (.int p1), .val (.int p2), .val (.int p3), .val (.int p4), .val (.int p5), .val (.int p6), .val (.int (0 : Int32)), .val (.int s0), .val (.int s1), .val (.int s2), .val (.int s3), .val (.int u0), .val (.int u2), .val (.int u1), .val (.int u3), .val (.int w1), .val (.int w2), .val (.int (p2 &&& (3 : Int32))), .val (.int e1), .val (.int (((p1.toUInt32 >>> ((3 : Int32) &&& 31).toUInt32).toInt32) &&& (3 : Int32))), .val (.int q1), .val (.ref b65), .val (.int ((((own_below (0 : Int32) u0 q1) + (own_below (0 : Int32) w1 q1)) + (own_below (0 : Int32) w2 q1)) + (own_below (0 : Int32) u3 q1)))] [(.int q1), (.ref b65)])) t → Steps p.tables e below (s₁.setTop (entryFrame m #[(.int p1), (.int p2), (.int p3), (.int p4), (.int p5), (.int p6)] maxLocals)) t := fun t k => go82 t (by
      show Steps p.tables e below (T81.setTop (mkF m 326 #[.val (.int p1), .val (.int p2), .val (.int p3), .val (.int p4), .val (.int p5), .val (.int p6), .val (.int (0 : Int32)), .val (.int s0), .val (.int s1), .val (.int s2), .val (.int s3), .val (.int u0), .val (.int u2), .val (.int u1), .val (.int u3), .val (.int w1), .val (.int w2), .val (.int (p2 &&& (3 : Int32))), .val (.int e1), .val (.int (((p1.toUInt32 >>> ((3 : Int32) &&& 31).toUInt32).toInt32) &&& (3 : Int32))), .val (.int q1), .val (.ref b65), .unset] [(.int (own_below (0 : Int32) u3 q1)), (.int (((own_below (0 : Int32) u0 q1) + (own_below (0 : Int32) w1 q1)) + (own_below (0 : Int32) w2 q1)))])) _
      refine XS.iadd X81.here hx rfl (hb hby at_326) rfl ?_
      show Steps p.tables e below (T81.setTop (mkF m 327 #[.val (.int p1), .val (.int p2), .val (.int p3), .val (.int p4), .val (.int p5), .val (.int p6), .val (.int (0 : Int32)), .val (.int s0), .val (.int s1), .val (.int s2), .val (.int s3), .val (.int u0), .val (.int u2), .val (.int u1), .val (.int u3), .val (.int w1), .val (.int w2), .val (.int (p2 &&& (3 : Int32))), .val (.int e1), .val (.int (((p1.toUInt32 >>> ((3 : Int32) &&& 31).toUInt32).toInt32) &&& (3 : Int32))), .val (.int q1), .val (.ref b65), .unset] [(.int ((((own_below (0 : Int32) u0 q1) + (own_below (0 : Int32) w1 q1)) + (own_below (0 : Int32) w2 q1)) + (own_below (0 : Int32) u3 q1)))])) _
      refine XS.istore X81.here hx rfl (hb hby at_327) rfl (l' := #[.val (.int p1), .val (.int p2), .val (.int p3), .val (.int p4), .val (.int p5), .val (.int p6), .val (.int (0 : Int32)), .val (.int s0), .val (.int s1), .val (.int s2), .val (.int s3), .val (.int u0), .val (.int u2), .val (.int u1), .val (.int u3), .val (.int w1), .val (.int w2), .val (.int (p2 &&& (3 : Int32))), .val (.int e1), .val (.int (((p1.toUInt32 >>> ((3 : Int32) &&& 31).toUInt32).toInt32) &&& (3 : Int32))), .val (.int q1), .val (.ref b65), .val (.int ((((own_below (0 : Int32) u0 q1) + (own_below (0 : Int32) w1 q1)) + (own_below (0 : Int32) w2 q1)) + (own_below (0 : Int32) u3 q1)))]) rfl ?_
      show Steps p.tables e below (T81.setTop (mkF m 329 #[.val (.int p1), .val (.int p2), .val (.int p3), .val (.int p4), .val (.int p5), .val (.int p6), .val (.int (0 : Int32)), .val (.int s0), .val (.int s1), .val (.int s2), .val (.int s3), .val (.int u0), .val (.int u2), .val (.int u1), .val (.int u3), .val (.int w1), .val (.int w2), .val (.int (p2 &&& (3 : Int32))), .val (.int e1), .val (.int (((p1.toUInt32 >>> ((3 : Int32) &&& 31).toUInt32).toInt32) &&& (3 : Int32))), .val (.int q1), .val (.ref b65), .val (.int ((((own_below (0 : Int32) u0 q1) + (own_below (0 : Int32) w1 q1)) + (own_below (0 : Int32) w2 q1)) + (own_below (0 : Int32) u3 q1)))] [])) _
      refine XS.aload X81.here hx rfl (hb hby at_329) rfl rfl ?_
      show Steps p.tables e below (T81.setTop (mkF m 331 #[.val (.int p1), .val (.int p2), .val (.int p3), .val (.int p4), .val (.int p5), .val (.int p6), .val (.int (0 : Int32)), .val (.int s0), .val (.int s1), .val (.int s2), .val (.int s3), .val (.int u0), .val (.int u2), .val (.int u1), .val (.int u3), .val (.int w1), .val (.int w2), .val (.int (p2 &&& (3 : Int32))), .val (.int e1), .val (.int (((p1.toUInt32 >>> ((3 : Int32) &&& 31).toUInt32).toInt32) &&& (3 : Int32))), .val (.int q1), .val (.ref b65), .val (.int ((((own_below (0 : Int32) u0 q1) + (own_below (0 : Int32) w1 q1)) + (own_below (0 : Int32) w2 q1)) + (own_below (0 : Int32) u3 q1)))] [(.ref b65)])) _
      refine XS.iload X81.here hx rfl (hb hby at_331) rfl ?_
      exact k)
    obtain ⟨cq84, kq84, q84a, q84b, q84c⟩ := isOf hZ e81 f70
    obtain ⟨_, _, ⟨T84, L84, k84, n84⟩, -, X84, ⟨Lc84, hQ84, l84, y84, z84⟩, st84⟩ := X81.virtualBack hx (y := (⟨"com/example/halting_hound/haltinghound/IntList", "firstAtLeast", "(I)I"⟩ : MethodName)) (z := (⟨"com/example/halting_hound/haltinghound/IntList", "firstAtLeast", "(I)I"⟩ : MethodName)) hown (mvT hZ (hw _ (List.mem_of_getElem? (i := 23) rfl))) (mvT hZ (hw _ (List.mem_of_getElem? (i := 24) rfl))) (notFace_of_selects (args := #[]) (mvT hZ (hw _ (List.mem_of_getElem? (i := 26) rfl)))) (mvT hZ (hw _ (List.mem_of_getElem? (i := 26) rfl))) (mvT hZ (hw _ (List.mem_of_getElem? (i := 25) rfl))) (by decide) (backOf (W := 0) (rm_fal0 l Z a0 hw [] b65 q1 b68 k68  h68 n0 (Nat.le_trans (Nat.le_trans Z0 E65.1) K68.1) f70 F68v F68z V68) hZ (hw _ (List.mem_of_getElem? (i := 27) rfl)) (hw _ (List.mem_of_getElem? (i := 9) rfl)) (by decide) (by decide)) q84a q84c (g := (mkF m 333 #[.val (.int p1), .val (.int p2), .val (.int p3), .val (.int p4), .val (.int p5), .val (.int p6), .val (.int (0 : Int32)), .val (.int s0), .val (.int s1), .val (.int s2), .val (.int s3), .val (.int u0), .val (.int u2), .val (.int u1), .val (.int u3), .val (.int w1), .val (.int w2), .val (.int (p2 &&& (3 : Int32))), .val (.int e1), .val (.int (((p1.toUInt32 >>> ((3 : Int32) &&& 31).toUInt32).toInt32) &&& (3 : Int32))), .val (.int q1), .val (.ref b65), .val (.int ((((own_below (0 : Int32) u0 q1) + (own_below (0 : Int32) w1 q1)) + (own_below (0 : Int32) w2 q1)) + (own_below (0 : Int32) u3 q1)))] [(.int q1), (.ref b65)])) rfl (by rw [hml]; rfl) (Steps.refl _) (argsL := [(.int q1)]) (rest := []) (lenOf pd_4 rfl) rfl (by show 2 * 0 + _ ≤ _; exact Nat.le_of_eq rfl) (hb hby at_333) (fun _ _ => ⟨rfl, e81, (by decide : 2 + 0 ≤ _), (by decide : 4 + 0 ≤ _)⟩)
    dsimp only [Pt.U, Pt.locs, Pt.cells, Pt.slots] at X84 l84 y84 z84 st84 hQ84
    subst l84 y84 z84
    obtain ⟨rfl, N84q, e84⟩ := hQ84
    have N84 := Fr.app N81 N84q
    have go85 : ∀ t, Steps p.tables e below (T84.setTop (mkF m 336 #[.val (.int p1), .val (.int p2), .val (.int p3), .val (.int p4), .val (.int p5), .val (.int p6), .val (.int (0 : Int32)), .val (.int s0), .val (.int s1), .val (.int s2), .val (.int s3), .val (.int u0), .val (.int u2), .val (.int u1), .val (.int u3), .val (.int w1), .val (.int w2), .val (.int (p2 &&& (3 : Int32))), .val (.int e1), .val (.int (((p1.toUInt32 >>> ((3 : Int32) &&& 31).toUInt32).toInt32) &&& (3 : Int32))), .val (.int q1), .val (.ref b65), .val (.int ((((own_below (0 : Int32) u0 q1) + (own_below (0 : Int32) w1 q1)) + (own_below (0 : Int32) w2 q1)) + (own_below (0 : Int32) u3 q1)))] [(.int (own_fal0 q1))])) t → Steps p.tables e below (s₁.setTop (entryFrame m #[(.int p1), (.int p2), (.int p3), (.int p4), (.int p5), (.int p6)] maxLocals)) t := fun t k => go83 t (st84.trans k)
    have go86 : ∀ t, Steps p.tables e below (T84.setTop (mkF m 346 #[.val (.int p1), .val (.int p2), .val (.int p3), .val (.int p4), .val (.int p5), .val (.int p6), .val (.int (0 : Int32)), .val (.int s0), .val (.int s1), .val (.int s2), .val (.int s3), .val (.int u0), .val (.int u2), .val (.int u1), .val (.int u3), .val (.int w1), .val (.int w2), .val (.int (p2 &&& (3 : Int32))), .val (.int e1), .val (.int (((p1.toUInt32 >>> ((3 : Int32) &&& 31).toUInt32).toInt32) &&& (3 : Int32))), .val (.int q1), .val (.ref b65), .val (.int ((((own_below (0 : Int32) u0 q1) + (own_below (0 : Int32) w1 q1)) + (own_below (0 : Int32) w2 q1)) + (own_below (0 : Int32) u3 q1)))] [(.int (1 : Int32))])) t → Steps p.tables e below (s₁.setTop (entryFrame m #[(.int p1), (.int p2), (.int p3), (.int p4), (.int p5), (.int p6)] maxLocals)) t := fun t k => go85 t (by
      show Steps p.tables e below (T84.setTop (mkF m 336 #[.val (.int p1), .val (.int p2), .val (.int p3), .val (.int p4), .val (.int p5), .val (.int p6), .val (.int (0 : Int32)), .val (.int s0), .val (.int s1), .val (.int s2), .val (.int s3), .val (.int u0), .val (.int u2), .val (.int u1), .val (.int u3), .val (.int w1), .val (.int w2), .val (.int (p2 &&& (3 : Int32))), .val (.int e1), .val (.int (((p1.toUInt32 >>> ((3 : Int32) &&& 31).toUInt32).toInt32) &&& (3 : Int32))), .val (.int q1), .val (.ref b65), .val (.int ((((own_below (0 : Int32) u0 q1) + (own_below (0 : Int32) w1 q1)) + (own_below (0 : Int32) w2 q1)) + (own_below (0 : Int32) u3 q1)))] [(.int (own_fal0 q1))])) _
      refine XS.iload X84.here hx rfl (hb hby at_336) rfl ?_
      show Steps p.tables e below (T84.setTop (mkF m 338 #[.val (.int p1), .val (.int p2), .val (.int p3), .val (.int p4), .val (.int p5), .val (.int p6), .val (.int (0 : Int32)), .val (.int s0), .val (.int s1), .val (.int s2), .val (.int s3), .val (.int u0), .val (.int u2), .val (.int u1), .val (.int u3), .val (.int w1), .val (.int w2), .val (.int (p2 &&& (3 : Int32))), .val (.int e1), .val (.int (((p1.toUInt32 >>> ((3 : Int32) &&& 31).toUInt32).toInt32) &&& (3 : Int32))), .val (.int q1), .val (.ref b65), .val (.int ((((own_below (0 : Int32) u0 q1) + (own_below (0 : Int32) w1 q1)) + (own_below (0 : Int32) w2 q1)) + (own_below (0 : Int32) u3 q1)))] [(.int ((((own_below (0 : Int32) u0 q1) + (own_below (0 : Int32) w1 q1)) + (own_below (0 : Int32) w2 q1)) + (own_below (0 : Int32) u3 q1))), (.int (own_fal0 q1))])) _
      refine XS.icmpNo X84.here hx rfl (hb hby at_338) rfl (teq (own_law0 q1 u0 w1 w2 u3 hs1 hs2 hs3)).2 ?_
      show Steps p.tables e below (T84.setTop (mkF m 341 #[.val (.int p1), .val (.int p2), .val (.int p3), .val (.int p4), .val (.int p5), .val (.int p6), .val (.int (0 : Int32)), .val (.int s0), .val (.int s1), .val (.int s2), .val (.int s3), .val (.int u0), .val (.int u2), .val (.int u1), .val (.int u3), .val (.int w1), .val (.int w2), .val (.int (p2 &&& (3 : Int32))), .val (.int e1), .val (.int (((p1.toUInt32 >>> ((3 : Int32) &&& 31).toUInt32).toInt32) &&& (3 : Int32))), .val (.int q1), .val (.ref b65), .val (.int ((((own_below (0 : Int32) u0 q1) + (own_below (0 : Int32) w1 q1)) + (own_below (0 : Int32) w2 q1)) + (own_below (0 : Int32) u3 q1)))] [])) _
      refine XS.iconst X84.here hx rfl (hb hby at_341) ?_
      show Steps p.tables e below (T84.setTop (mkF m 342 #[.val (.int p1), .val (.int p2), .val (.int p3), .val (.int p4), .val (.int p5), .val (.int p6), .val (.int (0 : Int32)), .val (.int s0), .val (.int s1), .val (.int s2), .val (.int s3), .val (.int u0), .val (.int u2), .val (.int u1), .val (.int u3), .val (.int w1), .val (.int w2), .val (.int (p2 &&& (3 : Int32))), .val (.int e1), .val (.int (((p1.toUInt32 >>> ((3 : Int32) &&& 31).toUInt32).toInt32) &&& (3 : Int32))), .val (.int q1), .val (.ref b65), .val (.int ((((own_below (0 : Int32) u0 q1) + (own_below (0 : Int32) w1 q1)) + (own_below (0 : Int32) w2 q1)) + (own_below (0 : Int32) u3 q1)))] [(.int (1 : Int32))])) _
      refine XS.goto X84.here hx rfl (pc0 := 342) (pc' := 346) rfl (hb hby at_342) (by decide) (by decide) ?_
      exact k)
    obtain ⟨fs, hr, hrun, hended, hW, hsame⟩ := X84.leave (v := some (.int (1 : Int32))) (fun h => by rw [Bd.returns] at h; cases h)
    refine ⟨_, _, go86 _ ?_, hrun, hended, _, _, rfl, ?_, ⟨_, rfl⟩, hW, hsame.mono (by decide) (by decide)⟩
    · exact retN X84 hx (t := .boolean) Bd.returns (by simp) (hb hby at_346) hr
    · show QL n0 _ T84.heap _
      rw [e84]
      exact ⟨rfl, N84⟩
  · rw [hn] at go64
    obtain ⟨T87, h87, X87, e87, E87, A87, D87, -, st87⟩ := newO X38 hx hZ hown (hw _ (List.mem_of_getElem? (i := 7) rfl)) (hw _ (List.mem_of_getElem? (i := 8) rfl)) (hw _ (List.mem_of_getElem? (i := 9) rfl)) e38 (g := (mkF m 193 #[.val (.int p1), .val (.int p2), .val (.int p3), .val (.int p4), .val (.int p5), .val (.int p6), .val (.int (1 : Int32)), .val (.int s0), .val (.int s1), .val (.int s2), .val (.int s3), .val (.int u0), .val (.int u2), .val (.int u1), .val (.int u3), .val (.int w1), .val (.int w2), .val (.int (p2 &&& (3 : Int32))), .val (.int e1), .val (.int (((p1.toUInt32 >>> ((3 : Int32) &&& 31).toUInt32).toInt32) &&& (3 : Int32))), .val (.int q1), .unset, .unset] [])) rfl (hb hby at_193) (by decide) (by decide)
    obtain ⟨b87, g87⟩ : ∃ z, z = h0.size := ⟨_, rfl⟩
    rw [← g87] at A87 D87 st87
    have g_b87 : n0 ≤ b87 := Nat.le_trans Z0 (Nat.le_of_eq g87.symm)
    have F87_values : Fld Z h87 b87 "com/example/halting_hound/haltinghound/IntList" "values" "[I" .null := D87 (Or.inl (hw _ (List.mem_of_getElem? (i := 18) rfl))) (ty := (.array .int)) (by decide)
    have F87_size : Fld Z h87 b87 "com/example/halting_hound/haltinghound/IntList" "size" "I" (.int (0 : Int32)) := D87 (Or.inl (hw _ (List.mem_of_getElem? (i := 29) rfl))) (ty := .int) (by decide)
    have go88 : ∀ t, Steps p.tables e below (T87.setTop (mkF m 196 #[.val (.int p1), .val (.int p2), .val (.int p3), .val (.int p4), .val (.int p5), .val (.int p6), .val (.int (1 : Int32)), .val (.int s0), .val (.int s1), .val (.int s2), .val (.int s3), .val (.int u0), .val (.int u2), .val (.int u1), .val (.int u3), .val (.int w1), .val (.int w2), .val (.int (p2 &&& (3 : Int32))), .val (.int e1), .val (.int (((p1.toUInt32 >>> ((3 : Int32) &&& 31).toUInt32).toInt32) &&& (3 : Int32))), .val (.int q1), .unset, .unset] [(.ref b87)])) t → Steps p.tables e below (s₁.setTop (entryFrame m #[(.int p1), (.int p2), (.int p3), (.int p4), (.int p5), (.int p6)] maxLocals)) t := fun t k => go64 t (st87 t k)
    have go89 : ∀ t, Steps p.tables e below (T87.setTop (mkF m 197 #[.val (.int p1), .val (.int p2), .val (.int p3), .val (.int p4), .val (.int p5), .val (.int p6), .val (.int (1 : Int32)), .val (.int s0), .val (.int s1), .val (.int s2), .val (.int s3), .val (.int u0), .val (.int u2), .val (.int u1), .val (.int u3), .val (.int w1), .val (.int w2), .val (.int (p2 &&& (3 : Int32))), .val (.int e1), .val (.int (((p1.toUInt32 >>> ((3 : Int32) &&& 31).toUInt32).toInt32) &&& (3 : Int32))), .val (.int q1), .unset, .unset] [(.ref b87), (.ref b87)])) t → Steps p.tables e below (s₁.setTop (entryFrame m #[(.int p1), (.int p2), (.int p3), (.int p4), (.int p5), (.int p6)] maxLocals)) t := fun t k => go88 t (by
      show Steps p.tables e below (T87.setTop (mkF m 196 #[.val (.int p1), .val (.int p2), .val (.int p3), .val (.int p4), .val (.int p5), .val (.int p6), .val (.int (1 : Int32)), .val (.int s0), .val (.int s1), .val (.int s2), .val (.int s3), .val (.int u0), .val (.int u2), .val (.int u1), .val (.int u3), .val (.int w1), .val (.int w2), .val (.int (p2 &&& (3 : Int32))), .val (.int e1), .val (.int (((p1.toUInt32 >>> ((3 : Int32) &&& 31).toUInt32).toInt32) &&& (3 : Int32))), .val (.int q1), .unset, .unset] [(.ref b87)])) _
      refine XS.dup X87.here hx rfl (hb hby at_196) rfl rfl ?_
      exact k)
    obtain ⟨_, _, ⟨T90, L90, k90, n90⟩, -, X90, ⟨Lc90, hQ90, l90, y90, z90⟩, st90⟩ := X87.specialBack hx (y := (⟨"com/example/halting_hound/haltinghound/IntList", "<init>", "()V"⟩ : MethodName)) rfl hown (mvT hZ (hw _ (List.mem_of_getElem? (i := 10) rfl))) (mvT hZ (hw _ (List.mem_of_getElem? (i := 11) rfl))) (mvT hZ (hw _ (List.mem_of_getElem? (i := 12) rfl))) (by decide) (backOf (W := 1) (rm_ini l Z a0 hw [] b87 _ h87 n0 (Nat.le_trans Z0 E87.1) A87 F87_values F87_size g_b87) hZ (hw _ (List.mem_of_getElem? (i := 12) rfl)) (hw _ (List.mem_of_getElem? (i := 9) rfl)) (by decide) (by decide)) (g := (mkF m 197 #[.val (.int p1), .val (.int p2), .val (.int p3), .val (.int p4), .val (.int p5), .val (.int p6), .val (.int (1 : Int32)), .val (.int s0), .val (.int s1), .val (.int s2), .val (.int s3), .val (.int u0), .val (.int u2), .val (.int u1), .val (.int u3), .val (.int w1), .val (.int w2), .val (.int (p2 &&& (3 : Int32))), .val (.int e1), .val (.int (((p1.toUInt32 >>> ((3 : Int32) &&& 31).toUInt32).toInt32) &&& (3 : Int32))), .val (.int q1), .unset, .unset] [(.ref b87), (.ref b87)])) rfl (by rw [hml]; rfl) (Steps.refl _) (a := b87) (argsL := []) (rest := [(.ref b87)]) (lenOf pd_2 rfl) rfl (by show 2 * 0 + _ ≤ _; exact Nat.le_of_eq rfl) (hb hby at_197) (fun _ _ => ⟨rfl, e87, (by decide : 1 + 1 ≤ _), (by decide : 2 + 2 ≤ _)⟩)
    dsimp only [Pt.U, Pt.locs, Pt.cells, Pt.slots] at X90 l90 y90 z90 st90 hQ90
    subst l90 y90 z90
    obtain ⟨h90, e90⟩ : ∃ z, T90.heap = z := ⟨_, rfl⟩
    rw [e90] at hQ90
    obtain ⟨rfl, N90q, K90, F90z, b90, k90, g90, ne90, F90v, V90⟩ := hQ90
    have N90 := Fr.app N38 N90q
    have go91 : ∀ t, Steps p.tables e below (T90.setTop (mkF m 200 #[.val (.int p1), .val (.int p2), .val (.int p3), .val (.int p4), .val (.int p5), .val (.int p6), .val (.int (1 : Int32)), .val (.int s0), .val (.int s1), .val (.int s2), .val (.int s3), .val (.int u0), .val (.int u2), .val (.int u1), .val (.int u3), .val (.int w1), .val (.int w2), .val (.int (p2 &&& (3 : Int32))), .val (.int e1), .val (.int (((p1.toUInt32 >>> ((3 : Int32) &&& 31).toUInt32).toInt32) &&& (3 : Int32))), .val (.int q1), .unset, .unset] [(.ref b87)])) t → Steps p.tables e below (s₁.setTop (entryFrame m #[(.int p1), (.int p2), (.int p3), (.int p4), (.int p5), (.int p6)] maxLocals)) t := fun t k => go89 t (st90.trans k)
    have f92 := A87.keep K90
    have go93 : ∀ t, Steps p.tables e below (T90.setTop (mkF m 211 #[.val (.int p1), .val (.int p2), .val (.int p3), .val (.int p4), .val (.int p5), .val (.int p6), .val (.int (1 : Int32)), .val (.int s0), .val (.int s1), .val (.int s2), .val (.int s3), .val (.int u0), .val (.int u2), .val (.int u1), .val (.int u3), .val (.int w1), .val (.int w2), .val (.int (p2 &&& (3 : Int32))), .val (.int e1), .val (.int (((p1.toUInt32 >>> ((3 : Int32) &&& 31).toUInt32).toInt32) &&& (3 : Int32))), .val (.int q1), .val (.ref b87), .unset] [(.int u0), (.ref b87)])) t → Steps p.tables e below (s₁.setTop (entryFrame m #[(.int p1), (.int p2), (.int p3), (.int p4), (.int p5), (.int p6)] maxLocals)) t := fun t k => go91 t (by
      show Steps p.tables e below (T90.setTop (mkF m 200 #[.val (.int p1), .val (.int p2), .val (.int p3), .val (.int p4), .val (.int p5), .val (.int p6), .val (.int (1 : Int32)), .val (.int s0), .val (.int s1), .val (.int s2), .val (.int s3), .val (.int u0), .val (.int u2), .val (.int u1), .val (.int u3), .val (.int w1), .val (.int w2), .val (.int (p2 &&& (3 : Int32))), .val (.int e1), .val (.int (((p1.toUInt32 >>> ((3 : Int32) &&& 31).toUInt32).toInt32) &&& (3 : Int32))), .val (.int q1), .unset, .unset] [(.ref b87)])) _
      refine XS.astore X90.here hx rfl (hb hby at_200) rfl rfl (l' := #[.val (.int p1), .val (.int p2), .val (.int p3), .val (.int p4), .val (.int p5), .val (.int p6), .val (.int (1 : Int32)), .val (.int s0), .val (.int s1), .val (.int s2), .val (.int s3), .val (.int u0), .val (.int u2), .val (.int u1), .val (.int u3), .val (.int w1), .val (.int w2), .val (.int (p2 &&& (3 : Int32))), .val (.int e1), .val (.int (((p1.toUInt32 >>> ((3 : Int32) &&& 31).toUInt32).toInt32) &&& (3 : Int32))), .val (.int q1), .val (.ref b87), .unset]) rfl ?_
      show Steps p.tables e below (T90.setTop (mkF m 202 #[.val (.int p1), .val (.int p2), .val (.int p3), .val (.int p4), .val (.int p5), .val (.int p6), .val (.int (1 : Int32)), .val (.int s0), .val (.int s1), .val (.int s2), .val (.int s3), .val (.int u0), .val (.int u2), .val (.int u1), .val (.int u3), .val (.int w1), .val (.int w2), .val (.int (p2 &&& (3 : Int32))), .val (.int e1), .val (.int (((p1.toUInt32 >>> ((3 : Int32) &&& 31).toUInt32).toInt32) &&& (3 : Int32))), .val (.int q1), .val (.ref b87), .unset] [])) _
      refine XS.iload X90.here hx rfl (hb hby at_202) rfl ?_
      show Steps p.tables e below (T90.setTop (mkF m 204 #[.val (.int p1), .val (.int p2), .val (.int p3), .val (.int p4), .val (.int p5), .val (.int p6), .val (.int (1 : Int32)), .val (.int s0), .val (.int s1), .val (.int s2), .val (.int s3), .val (.int u0), .val (.int u2), .val (.int u1), .val (.int u3), .val (.int w1), .val (.int w2), .val (.int (p2 &&& (3 : Int32))), .val (.int e1), .val (.int (((p1.toUInt32 >>> ((3 : Int32) &&& 31).toUInt32).toInt32) &&& (3 : Int32))), .val (.int q1), .val (.ref b87), .unset] [(.int (1 : Int32))])) _
      refine XS.ifNo X90.here hx rfl (hb hby at_204) rfl ((if0 _ _).trans (tlt (by decide : (0 : Int32) < (1 : Int32))).2.2.2) ?_
      show Steps p.tables e below (T90.setTop (mkF m 207 #[.val (.int p1), .val (.int p2), .val (.int p3), .val (.int p4), .val (.int p5), .val (.int p6), .val (.int (1 : Int32)), .val (.int s0), .val (.int s1), .val (.int s2), .val (.int s3), .val (.int u0), .val (.int u2), .val (.int u1), .val (.int u3), .val (.int w1), .val (.int w2), .val (.int (p2 &&& (3 : Int32))), .val (.int e1), .val (.int (((p1.toUInt32 >>> ((3 : Int32) &&& 31).toUInt32).toInt32) &&& (3 : Int32))), .val (.int q1), .val (.ref b87), .unset] [])) _
      refine XS.aload X90.here hx rfl (hb hby at_207) rfl rfl ?_
      show Steps p.tables e below (T90.setTop (mkF m 209 #[.val (.int p1), .val (.int p2), .val (.int p3), .val (.int p4), .val (.int p5), .val (.int p6), .val (.int (1 : Int32)), .val (.int s0), .val (.int s1), .val (.int s2), .val (.int s3), .val (.int u0), .val (.int u2), .val (.int u1), .val (.int u3), .val (.int w1), .val (.int w2), .val (.int (p2 &&& (3 : Int32))), .val (.int e1), .val (.int (((p1.toUInt32 >>> ((3 : Int32) &&& 31).toUInt32).toInt32) &&& (3 : Int32))), .val (.int q1), .val (.ref b87), .unset] [(.ref b87)])) _
      refine XS.iload X90.here hx rfl (hb hby at_209) rfl ?_
      exact k)
    obtain ⟨cq94, kq94, q94a, q94b, q94c⟩ := isOf hZ e90 f92
    obtain ⟨_, _, ⟨T94, L94, k94, n94⟩, -, X94, ⟨Lc94, hQ94, l94, y94, z94⟩, st94⟩ := X90.virtualBack hx (y := (⟨"com/example/halting_hound/haltinghound/IntList", "add", "(I)V"⟩ : MethodName)) (z := (⟨"com/example/halting_hound/haltinghound/IntList", "add", "(I)V"⟩ : MethodName)) hown (mvT hZ (hw _ (List.mem_of_getElem? (i := 30) rfl))) (mvT hZ (hw _ (List.mem_of_getElem? (i := 31) rfl))) (notFace_of_selects (args := #[]) (mvT hZ (hw _ (List.mem_of_getElem? (i := 33) rfl)))) (mvT hZ (hw _ (List.mem_of_getElem? (i := 33) rfl))) (mvT hZ (hw _ (List.mem_of_getElem? (i := 32) rfl))) (by decide) (backOf (W := 0) (rm_add0 l Z a0 hw [] b87 u0 b90 k90  h90 n0 (Nat.le_trans (Nat.le_trans Z0 E87.1) K90.1) f92 F90v F90z V90 g_b87 g90 ne90) hZ (hw _ (List.mem_of_getElem? (i := 34) rfl)) (hw _ (List.mem_of_getElem? (i := 9) rfl)) (by decide) (by decide)) q94a q94c (g := (mkF m 211 #[.val (.int p1), .val (.int p2), .val (.int p3), .val (.int p4), .val (.int p5), .val (.int p6), .val (.int (1 : Int32)), .val (.int s0), .val (.int s1), .val (.int s2), .val (.int s3), .val (.int u0), .val (.int u2), .val (.int u1), .val (.int u3), .val (.int w1), .val (.int w2), .val (.int (p2 &&& (3 : Int32))), .val (.int e1), .val (.int (((p1.toUInt32 >>> ((3 : Int32) &&& 31).toUInt32).toInt32) &&& (3 : Int32))), .val (.int q1), .val (.ref b87), .unset] [(.int u0), (.ref b87)])) rfl (by rw [hml]; rfl) (Steps.refl _) (argsL := [(.int u0)]) (rest := []) (lenOf pd_5 rfl) rfl (by show 2 * 0 + _ ≤ _; exact Nat.le_of_eq rfl) (hb hby at_211) (fun _ _ => ⟨rfl, e90, (by decide : 2 + 0 ≤ _), (by decide : 4 + 0 ≤ _)⟩)
    dsimp only [Pt.U, Pt.locs, Pt.cells, Pt.slots] at X94 l94 y94 z94 st94 hQ94
    subst l94 y94 z94
    obtain ⟨h94, e94⟩ : ∃ z, T94.heap = z := ⟨_, rfl⟩
    rw [e94] at hQ94
    obtain ⟨rfl, N94q, K94, F94z, F94v, V94⟩ := hQ94
    have N94 := Fr.app N90 N94q
    have go95 : ∀ t, Steps p.tables e below (T94.setTop (mkF m 214 #[.val (.int p1), .val (.int p2), .val (.int p3), .val (.int p4), .val (.int p5), .val (.int p6), .val (.int (1 : Int32)), .val (.int s0), .val (.int s1), .val (.int s2), .val (.int s3), .val (.int u0), .val (.int u2), .val (.int u1), .val (.int u3), .val (.int w1), .val (.int w2), .val (.int (p2 &&& (3 : Int32))), .val (.int e1), .val (.int (((p1.toUInt32 >>> ((3 : Int32) &&& 31).toUInt32).toInt32) &&& (3 : Int32))), .val (.int q1), .val (.ref b87), .unset] [])) t → Steps p.tables e below (s₁.setTop (entryFrame m #[(.int p1), (.int p2), (.int p3), (.int p4), (.int p5), (.int p6)] maxLocals)) t := fun t k => go93 t (st94.trans k)
    have f96 := f92.keep K94
    have go97 : ∀ t, Steps p.tables e below (T94.setTop (mkF m 267 #[.val (.int p1), .val (.int p2), .val (.int p3), .val (.int p4), .val (.int p5), .val (.int p6), .val (.int (1 : Int32)), .val (.int s0), .val (.int s1), .val (.int s2), .val (.int s3), .val (.int u0), .val (.int u2), .val (.int u1), .val (.int u3), .val (.int w1), .val (.int w2), .val (.int (p2 &&& (3 : Int32))), .val (.int e1), .val (.int (((p1.toUInt32 >>> ((3 : Int32) &&& 31).toUInt32).toInt32) &&& (3 : Int32))), .val (.int q1), .val (.ref b87), .unset] [(.int q1), (.int u0), (.int (1 : Int32))])) t → Steps p.tables e below (s₁.setTop (entryFrame m #[(.int p1), (.int p2), (.int p3), (.int p4), (.int p5), (.int p6)] maxLocals)) t := fun t k => go95 t (by
      show Steps p.tables e below (T94.setTop (mkF m 214 #[.val (.int p1), .val (.int p2), .val (.int p3), .val (.int p4), .val (.int p5), .val (.int p6), .val (.int (1 : Int32)), .val (.int s0), .val (.int s1), .val (.int s2), .val (.int s3), .val (.int u0), .val (.int u2), .val (.int u1), .val (.int u3), .val (.int w1), .val (.int w2), .val (.int (p2 &&& (3 : Int32))), .val (.int e1), .val (.int (((p1.toUInt32 >>> ((3 : Int32) &&& 31).toUInt32).toInt32) &&& (3 : Int32))), .val (.int q1), .val (.ref b87), .unset] [])) _
      refine XS.iload X94.here hx rfl (hb hby at_214) rfl ?_
      show Steps p.tables e below (T94.setTop (mkF m 216 #[.val (.int p1), .val (.int p2), .val (.int p3), .val (.int p4), .val (.int p5), .val (.int p6), .val (.int (1 : Int32)), .val (.int s0), .val (.int s1), .val (.int s2), .val (.int s3), .val (.int u0), .val (.int u2), .val (.int u1), .val (.int u3), .val (.int w1), .val (.int w2), .val (.int (p2 &&& (3 : Int32))), .val (.int e1), .val (.int (((p1.toUInt32 >>> ((3 : Int32) &&& 31).toUInt32).toInt32) &&& (3 : Int32))), .val (.int q1), .val (.ref b87), .unset] [(.int (1 : Int32))])) _
      refine XS.iconst X94.here hx rfl (hb hby at_216) ?_
      show Steps p.tables e below (T94.setTop (mkF m 217 #[.val (.int p1), .val (.int p2), .val (.int p3), .val (.int p4), .val (.int p5), .val (.int p6), .val (.int (1 : Int32)), .val (.int s0), .val (.int s1), .val (.int s2), .val (.int s3), .val (.int u0), .val (.int u2), .val (.int u1), .val (.int u3), .val (.int w1), .val (.int w2), .val (.int (p2 &&& (3 : Int32))), .val (.int e1), .val (.int (((p1.toUInt32 >>> ((3 : Int32) &&& 31).toUInt32).toInt32) &&& (3 : Int32))), .val (.int q1), .val (.ref b87), .unset] [(.int (1 : Int32)), (.int (1 : Int32))])) _
      refine XS.icmpYes X94.here hx rfl (pc0 := 217) (pc' := 227) rfl (hb hby at_217) rfl (flt (by decide : ¬ ((1 : Int32) < (1 : Int32)))).2.2.2 (by decide) (by decide) ?_
      show Steps p.tables e below (T94.setTop (mkF m 227 #[.val (.int p1), .val (.int p2), .val (.int p3), .val (.int p4), .val (.int p5), .val (.int p6), .val (.int (1 : Int32)), .val (.int s0), .val (.int s1), .val (.int s2), .val (.int s3), .val (.int u0), .val (.int u2), .val (.int u1), .val (.int u3), .val (.int w1), .val (.int w2), .val (.int (p2 &&& (3 : Int32))), .val (.int e1), .val (.int (((p1.toUInt32 >>> ((3 : Int32) &&& 31).toUInt32).toInt32) &&& (3 : Int32))), .val (.int q1), .val (.ref b87), .unset] [])) _
      refine XS.iload X94.here hx rfl (hb hby at_227) rfl ?_
      show Steps p.tables e below (T94.setTop (mkF m 229 #[.val (.int p1), .val (.int p2), .val (.int p3), .val (.int p4), .val (.int p5), .val (.int p6), .val (.int (1 : Int32)), .val (.int s0), .val (.int s1), .val (.int s2), .val (.int s3), .val (.int u0), .val (.int u2), .val (.int u1), .val (.int u3), .val (.int w1), .val (.int w2), .val (.int (p2 &&& (3 : Int32))), .val (.int e1), .val (.int (((p1.toUInt32 >>> ((3 : Int32) &&& 31).toUInt32).toInt32) &&& (3 : Int32))), .val (.int q1), .val (.ref b87), .unset] [(.int (1 : Int32))])) _
      refine XS.iconst X94.here hx rfl (hb hby at_229) ?_
      show Steps p.tables e below (T94.setTop (mkF m 230 #[.val (.int p1), .val (.int p2), .val (.int p3), .val (.int p4), .val (.int p5), .val (.int p6), .val (.int (1 : Int32)), .val (.int s0), .val (.int s1), .val (.int s2), .val (.int s3), .val (.int u0), .val (.int u2), .val (.int u1), .val (.int u3), .val (.int w1), .val (.int w2), .val (.int (p2 &&& (3 : Int32))), .val (.int e1), .val (.int (((p1.toUInt32 >>> ((3 : Int32) &&& 31).toUInt32).toInt32) &&& (3 : Int32))), .val (.int q1), .val (.ref b87), .unset] [(.int (2 : Int32)), (.int (1 : Int32))])) _
      refine XS.icmpYes X94.here hx rfl (pc0 := 230) (pc' := 240) rfl (hb hby at_230) rfl (flt (by decide : ¬ ((2 : Int32) < (1 : Int32)))).2.2.2 (by decide) (by decide) ?_
      show Steps p.tables e below (T94.setTop (mkF m 240 #[.val (.int p1), .val (.int p2), .val (.int p3), .val (.int p4), .val (.int p5), .val (.int p6), .val (.int (1 : Int32)), .val (.int s0), .val (.int s1), .val (.int s2), .val (.int s3), .val (.int u0), .val (.int u2), .val (.int u1), .val (.int u3), .val (.int w1), .val (.int w2), .val (.int (p2 &&& (3 : Int32))), .val (.int e1), .val (.int (((p1.toUInt32 >>> ((3 : Int32) &&& 31).toUInt32).toInt32) &&& (3 : Int32))), .val (.int q1), .val (.ref b87), .unset] [])) _
      refine XS.iload X94.here hx rfl (hb hby at_240) rfl ?_
      show Steps p.tables e below (T94.setTop (mkF m 242 #[.val (.int p1), .val (.int p2), .val (.int p3), .val (.int p4), .val (.int p5), .val (.int p6), .val (.int (1 : Int32)), .val (.int s0), .val (.int s1), .val (.int s2), .val (.int s3), .val (.int u0), .val (.int u2), .val (.int u1), .val (.int u3), .val (.int w1), .val (.int w2), .val (.int (p2 &&& (3 : Int32))), .val (.int e1), .val (.int (((p1.toUInt32 >>> ((3 : Int32) &&& 31).toUInt32).toInt32) &&& (3 : Int32))), .val (.int q1), .val (.ref b87), .unset] [(.int (1 : Int32))])) _
      refine XS.iconst X94.here hx rfl (hb hby at_242) ?_
      show Steps p.tables e below (T94.setTop (mkF m 243 #[.val (.int p1), .val (.int p2), .val (.int p3), .val (.int p4), .val (.int p5), .val (.int p6), .val (.int (1 : Int32)), .val (.int s0), .val (.int s1), .val (.int s2), .val (.int s3), .val (.int u0), .val (.int u2), .val (.int u1), .val (.int u3), .val (.int w1), .val (.int w2), .val (.int (p2 &&& (3 : Int32))), .val (.int e1), .val (.int (((p1.toUInt32 >>> ((3 : Int32) &&& 31).toUInt32).toInt32) &&& (3 : Int32))), .val (.int q1), .val (.ref b87), .unset] [(.int (3 : Int32)), (.int (1 : Int32))])) _
      refine XS.icmpYes X94.here hx rfl (pc0 := 243) (pc' := 253) rfl (hb hby at_243) rfl (flt (by decide : ¬ ((3 : Int32) < (1 : Int32)))).2.2.2 (by decide) (by decide) ?_
      show Steps p.tables e below (T94.setTop (mkF m 253 #[.val (.int p1), .val (.int p2), .val (.int p3), .val (.int p4), .val (.int p5), .val (.int p6), .val (.int (1 : Int32)), .val (.int s0), .val (.int s1), .val (.int s2), .val (.int s3), .val (.int u0), .val (.int u2), .val (.int u1), .val (.int u3), .val (.int w1), .val (.int w2), .val (.int (p2 &&& (3 : Int32))), .val (.int e1), .val (.int (((p1.toUInt32 >>> ((3 : Int32) &&& 31).toUInt32).toInt32) &&& (3 : Int32))), .val (.int q1), .val (.ref b87), .unset] [])) _
      refine XS.iload X94.here hx rfl (hb hby at_253) rfl ?_
      show Steps p.tables e below (T94.setTop (mkF m 255 #[.val (.int p1), .val (.int p2), .val (.int p3), .val (.int p4), .val (.int p5), .val (.int p6), .val (.int (1 : Int32)), .val (.int s0), .val (.int s1), .val (.int s2), .val (.int s3), .val (.int u0), .val (.int u2), .val (.int u1), .val (.int u3), .val (.int w1), .val (.int w2), .val (.int (p2 &&& (3 : Int32))), .val (.int e1), .val (.int (((p1.toUInt32 >>> ((3 : Int32) &&& 31).toUInt32).toInt32) &&& (3 : Int32))), .val (.int q1), .val (.ref b87), .unset] [(.int (1 : Int32))])) _
      refine XS.ifNo X94.here hx rfl (hb hby at_255) rfl ((if0 _ _).trans (tlt (by decide : (0 : Int32) < (1 : Int32))).2.2.2) ?_
      show Steps p.tables e below (T94.setTop (mkF m 258 #[.val (.int p1), .val (.int p2), .val (.int p3), .val (.int p4), .val (.int p5), .val (.int p6), .val (.int (1 : Int32)), .val (.int s0), .val (.int s1), .val (.int s2), .val (.int s3), .val (.int u0), .val (.int u2), .val (.int u1), .val (.int u3), .val (.int w1), .val (.int w2), .val (.int (p2 &&& (3 : Int32))), .val (.int e1), .val (.int (((p1.toUInt32 >>> ((3 : Int32) &&& 31).toUInt32).toInt32) &&& (3 : Int32))), .val (.int q1), .val (.ref b87), .unset] [])) _
      refine XS.iconst X94.here hx rfl (hb hby at_258) ?_
      show Steps p.tables e below (T94.setTop (mkF m 259 #[.val (.int p1), .val (.int p2), .val (.int p3), .val (.int p4), .val (.int p5), .val (.int p6), .val (.int (1 : Int32)), .val (.int s0), .val (.int s1), .val (.int s2), .val (.int s3), .val (.int u0), .val (.int u2), .val (.int u1), .val (.int u3), .val (.int w1), .val (.int w2), .val (.int (p2 &&& (3 : Int32))), .val (.int e1), .val (.int (((p1.toUInt32 >>> ((3 : Int32) &&& 31).toUInt32).toInt32) &&& (3 : Int32))), .val (.int q1), .val (.ref b87), .unset] [(.int (1 : Int32))])) _
      refine XS.goto X94.here hx rfl (pc0 := 259) (pc' := 263) rfl (hb hby at_259) (by decide) (by decide) ?_
      show Steps p.tables e below (T94.setTop (mkF m 263 #[.val (.int p1), .val (.int p2), .val (.int p3), .val (.int p4), .val (.int p5), .val (.int p6), .val (.int (1 : Int32)), .val (.int s0), .val (.int s1), .val (.int s2), .val (.int s3), .val (.int u0), .val (.int u2), .val (.int u1), .val (.int u3), .val (.int w1), .val (.int w2), .val (.int (p2 &&& (3 : Int32))), .val (.int e1), .val (.int (((p1.toUInt32 >>> ((3 : Int32) &&& 31).toUInt32).toInt32) &&& (3 : Int32))), .val (.int q1), .val (.ref b87), .unset] [(.int (1 : Int32))])) _
      refine XS.iload X94.here hx rfl (hb hby at_263) rfl ?_
      show Steps p.tables e below (T94.setTop (mkF m 265 #[.val (.int p1), .val (.int p2), .val (.int p3), .val (.int p4), .val (.int p5), .val (.int p6), .val (.int (1 : Int32)), .val (.int s0), .val (.int s1), .val (.int s2), .val (.int s3), .val (.int u0), .val (.int u2), .val (.int u1), .val (.int u3), .val (.int w1), .val (.int w2), .val (.int (p2 &&& (3 : Int32))), .val (.int e1), .val (.int (((p1.toUInt32 >>> ((3 : Int32) &&& 31).toUInt32).toInt32) &&& (3 : Int32))), .val (.int q1), .val (.ref b87), .unset] [(.int u0), (.int (1 : Int32))])) _
      refine XS.iload X94.here hx rfl (hb hby at_265) rfl ?_
      exact k)
    obtain ⟨_, _, ⟨T98, L98, k98, n98⟩, -, X98, ⟨Lc98, hQ98, l98, y98, z98⟩, st98⟩ := Jvm.LawKit.callS X94 hx (y := (⟨"com/example/halting_hound/haltinghound/IntListFirstAtLeastPinLaw", "below", "(ZII)I"⟩ : MethodName)) hown (mvT hZ (hw _ (List.mem_of_getElem? (i := 19) rfl))) (mvT hZ (hw _ (List.mem_of_getElem? (i := 20) rfl))) (mvT hZ (hw _ (List.mem_of_getElem? (i := 21) rfl))) (mvT hZ (hw _ (List.mem_of_getElem? (i := 22) rfl))) (by decide) (backOf (W := 0) (rm_bl l Z a0 hw [] (1 : Int32) u0 q1 h94 n0 (Nat.le_trans (Nat.le_trans (Nat.le_trans Z0 E87.1) K90.1) K94.1) ) hZ (hw _ (List.mem_of_getElem? (i := 22) rfl)) (hw _ (List.mem_of_getElem? (i := 21) rfl)) (by decide) (by decide)) (g := (mkF m 267 #[.val (.int p1), .val (.int p2), .val (.int p3), .val (.int p4), .val (.int p5), .val (.int p6), .val (.int (1 : Int32)), .val (.int s0), .val (.int s1), .val (.int s2), .val (.int s3), .val (.int u0), .val (.int u2), .val (.int u1), .val (.int u3), .val (.int w1), .val (.int w2), .val (.int (p2 &&& (3 : Int32))), .val (.int e1), .val (.int (((p1.toUInt32 >>> ((3 : Int32) &&& 31).toUInt32).toInt32) &&& (3 : Int32))), .val (.int q1), .val (.ref b87), .unset] [(.int q1), (.int u0), (.int (1 : Int32))])) rfl (by rw [hml]; rfl) (argsL := [(.int (1 : Int32)), (.int u0), (.int q1)]) (rest := []) (lenOf pd_3 rfl) rfl (by show 2 * 0 + _ ≤ _; exact Nat.le_of_eq rfl) (hb hby at_267) (fun _ _ => ⟨rfl, e94, (by decide : 2 + 0 ≤ _), (by decide : 4 + 0 ≤ _)⟩)
    dsimp only [Pt.U, Pt.locs, Pt.cells, Pt.slots] at X98 l98 y98 z98 st98 hQ98
    subst l98 y98 z98
    obtain ⟨rfl, N98q, e98⟩ := hQ98
    have N98 := Fr.app N94 N98q
    have go99 : ∀ t, Steps p.tables e below (T98.setTop (mkF m 270 #[.val (.int p1), .val (.int p2), .val (.int p3), .val (.int p4), .val (.int p5), .val (.int p6), .val (.int (1 : Int32)), .val (.int s0), .val (.int s1), .val (.int s2), .val (.int s3), .val (.int u0), .val (.int u2), .val (.int u1), .val (.int u3), .val (.int w1), .val (.int w2), .val (.int (p2 &&& (3 : Int32))), .val (.int e1), .val (.int (((p1.toUInt32 >>> ((3 : Int32) &&& 31).toUInt32).toInt32) &&& (3 : Int32))), .val (.int q1), .val (.ref b87), .unset] [(.int (own_below (1 : Int32) u0 q1))])) t → Steps p.tables e below (s₁.setTop (entryFrame m #[(.int p1), (.int p2), (.int p3), (.int p4), (.int p5), (.int p6)] maxLocals)) t := fun t k => go97 t (st98 t k)
    have go100 : ∀ t, Steps p.tables e below (T98.setTop (mkF m 285 #[.val (.int p1), .val (.int p2), .val (.int p3), .val (.int p4), .val (.int p5), .val (.int p6), .val (.int (1 : Int32)), .val (.int s0), .val (.int s1), .val (.int s2), .val (.int s3), .val (.int u0), .val (.int u2), .val (.int u1), .val (.int u3), .val (.int w1), .val (.int w2), .val (.int (p2 &&& (3 : Int32))), .val (.int e1), .val (.int (((p1.toUInt32 >>> ((3 : Int32) &&& 31).toUInt32).toInt32) &&& (3 : Int32))), .val (.int q1), .val (.ref b87), .unset] [(.int q1), (.int w1), (.int (0 : Int32)), (.int (own_below (1 : Int32) u0 q1))])) t → Steps p.tables e below (s₁.setTop (entryFrame m #[(.int p1), (.int p2), (.int p3), (.int p4), (.int p5), (.int p6)] maxLocals)) t := fun t k => go99 t (by
      show Steps p.tables e below (T98.setTop (mkF m 270 #[.val (.int p1), .val (.int p2), .val (.int p3), .val (.int p4), .val (.int p5), .val (.int p6), .val (.int (1 : Int32)), .val (.int s0), .val (.int s1), .val (.int s2), .val (.int s3), .val (.int u0), .val (.int u2), .val (.int u1), .val (.int u3), .val (.int w1), .val (.int w2), .val (.int (p2 &&& (3 : Int32))), .val (.int e1), .val (.int (((p1.toUInt32 >>> ((3 : Int32) &&& 31).toUInt32).toInt32) &&& (3 : Int32))), .val (.int q1), .val (.ref b87), .unset] [(.int (own_below (1 : Int32) u0 q1))])) _
      refine XS.iload X98.here hx rfl (hb hby at_270) rfl ?_
      show Steps p.tables e below (T98.setTop (mkF m 272 #[.val (.int p1), .val (.int p2), .val (.int p3), .val (.int p4), .val (.int p5), .val (.int p6), .val (.int (1 : Int32)), .val (.int s0), .val (.int s1), .val (.int s2), .val (.int s3), .val (.int u0), .val (.int u2), .val (.int u1), .val (.int u3), .val (.int w1), .val (.int w2), .val (.int (p2 &&& (3 : Int32))), .val (.int e1), .val (.int (((p1.toUInt32 >>> ((3 : Int32) &&& 31).toUInt32).toInt32) &&& (3 : Int32))), .val (.int q1), .val (.ref b87), .unset] [(.int (1 : Int32)), (.int (own_below (1 : Int32) u0 q1))])) _
      refine XS.iconst X98.here hx rfl (hb hby at_272) ?_
      show Steps p.tables e below (T98.setTop (mkF m 273 #[.val (.int p1), .val (.int p2), .val (.int p3), .val (.int p4), .val (.int p5), .val (.int p6), .val (.int (1 : Int32)), .val (.int s0), .val (.int s1), .val (.int s2), .val (.int s3), .val (.int u0), .val (.int u2), .val (.int u1), .val (.int u3), .val (.int w1), .val (.int w2), .val (.int (p2 &&& (3 : Int32))), .val (.int e1), .val (.int (((p1.toUInt32 >>> ((3 : Int32) &&& 31).toUInt32).toInt32) &&& (3 : Int32))), .val (.int q1), .val (.ref b87), .unset] [(.int (1 : Int32)), (.int (1 : Int32)), (.int (own_below (1 : Int32) u0 q1))])) _
      refine XS.icmpYes X98.here hx rfl (pc0 := 273) (pc' := 280) rfl (hb hby at_273) rfl (flt (by decide : ¬ ((1 : Int32) < (1 : Int32)))).2.2.2 (by decide) (by decide) ?_
      show Steps p.tables e below (T98.setTop (mkF m 280 #[.val (.int p1), .val (.int p2), .val (.int p3), .val (.int p4), .val (.int p5), .val (.int p6), .val (.int (1 : Int32)), .val (.int s0), .val (.int s1), .val (.int s2), .val (.int s3), .val (.int u0), .val (.int u2), .val (.int u1), .val (.int u3), .val (.int w1), .val (.int w2), .val (.int (p2 &&& (3 : Int32))), .val (.int e1), .val (.int (((p1.toUInt32 >>> ((3 : Int32) &&& 31).toUInt32).toInt32) &&& (3 : Int32))), .val (.int q1), .val (.ref b87), .unset] [(.int (own_below (1 : Int32) u0 q1))])) _
      refine XS.iconst X98.here hx rfl (hb hby at_280) ?_
      show Steps p.tables e below (T98.setTop (mkF m 281 #[.val (.int p1), .val (.int p2), .val (.int p3), .val (.int p4), .val (.int p5), .val (.int p6), .val (.int (1 : Int32)), .val (.int s0), .val (.int s1), .val (.int s2), .val (.int s3), .val (.int u0), .val (.int u2), .val (.int u1), .val (.int u3), .val (.int w1), .val (.int w2), .val (.int (p2 &&& (3 : Int32))), .val (.int e1), .val (.int (((p1.toUInt32 >>> ((3 : Int32) &&& 31).toUInt32).toInt32) &&& (3 : Int32))), .val (.int q1), .val (.ref b87), .unset] [(.int (0 : Int32)), (.int (own_below (1 : Int32) u0 q1))])) _
      refine XS.iload X98.here hx rfl (hb hby at_281) rfl ?_
      show Steps p.tables e below (T98.setTop (mkF m 283 #[.val (.int p1), .val (.int p2), .val (.int p3), .val (.int p4), .val (.int p5), .val (.int p6), .val (.int (1 : Int32)), .val (.int s0), .val (.int s1), .val (.int s2), .val (.int s3), .val (.int u0), .val (.int u2), .val (.int u1), .val (.int u3), .val (.int w1), .val (.int w2), .val (.int (p2 &&& (3 : Int32))), .val (.int e1), .val (.int (((p1.toUInt32 >>> ((3 : Int32) &&& 31).toUInt32).toInt32) &&& (3 : Int32))), .val (.int q1), .val (.ref b87), .unset] [(.int w1), (.int (0 : Int32)), (.int (own_below (1 : Int32) u0 q1))])) _
      refine XS.iload X98.here hx rfl (hb hby at_283) rfl ?_
      exact k)
    obtain ⟨_, _, ⟨T101, L101, k101, n101⟩, -, X101, ⟨Lc101, hQ101, l101, y101, z101⟩, st101⟩ := Jvm.LawKit.callS X98 hx (y := (⟨"com/example/halting_hound/haltinghound/IntListFirstAtLeastPinLaw", "below", "(ZII)I"⟩ : MethodName)) hown (mvT hZ (hw _ (List.mem_of_getElem? (i := 19) rfl))) (mvT hZ (hw _ (List.mem_of_getElem? (i := 20) rfl))) (mvT hZ (hw _ (List.mem_of_getElem? (i := 21) rfl))) (mvT hZ (hw _ (List.mem_of_getElem? (i := 22) rfl))) (by decide) (backOf (W := 1) (rm_bl l Z a0 hw [] (0 : Int32) w1 q1 h94 n0 (Nat.le_trans (Nat.le_trans (Nat.le_trans Z0 E87.1) K90.1) K94.1) ) hZ (hw _ (List.mem_of_getElem? (i := 22) rfl)) (hw _ (List.mem_of_getElem? (i := 21) rfl)) (by decide) (by decide)) (g := (mkF m 285 #[.val (.int p1), .val (.int p2), .val (.int p3), .val (.int p4), .val (.int p5), .val (.int p6), .val (.int (1 : Int32)), .val (.int s0), .val (.int s1), .val (.int s2), .val (.int s3), .val (.int u0), .val (.int u2), .val (.int u1), .val (.int u3), .val (.int w1), .val (.int w2), .val (.int (p2 &&& (3 : Int32))), .val (.int e1), .val (.int (((p1.toUInt32 >>> ((3 : Int32) &&& 31).toUInt32).toInt32) &&& (3 : Int32))), .val (.int q1), .val (.ref b87), .unset] [(.int q1), (.int w1), (.int (0 : Int32)), (.int (own_below (1 : Int32) u0 q1))])) rfl (by rw [hml]; rfl) (argsL := [(.int (0 : Int32)), (.int w1), (.int q1)]) (rest := [(.int (own_below (1 : Int32) u0 q1))]) (lenOf pd_3 rfl) rfl (by show 2 * 0 + _ ≤ _; exact Nat.le_of_eq rfl) (hb hby at_285) (fun _ _ => ⟨rfl, e98, (by decide : 2 + 0 ≤ _), (by decide : 4 + 0 ≤ _)⟩)
    dsimp only [Pt.U, Pt.locs, Pt.cells, Pt.slots] at X101 l101 y101 z101 st101 hQ101
    subst l101 y101 z101
    obtain ⟨rfl, N101q, e101⟩ := hQ101
    have N101 := Fr.app N98 N101q
    have go102 : ∀ t, Steps p.tables e below (T101.setTop (mkF m 288 #[.val (.int p1), .val (.int p2), .val (.int p3), .val (.int p4), .val (.int p5), .val (.int p6), .val (.int (1 : Int32)), .val (.int s0), .val (.int s1), .val (.int s2), .val (.int s3), .val (.int u0), .val (.int u2), .val (.int u1), .val (.int u3), .val (.int w1), .val (.int w2), .val (.int (p2 &&& (3 : Int32))), .val (.int e1), .val (.int (((p1.toUInt32 >>> ((3 : Int32) &&& 31).toUInt32).toInt32) &&& (3 : Int32))), .val (.int q1), .val (.ref b87), .unset] [(.int (own_below (0 : Int32) w1 q1)), (.int (own_below (1 : Int32) u0 q1))])) t → Steps p.tables e below (s₁.setTop (entryFrame m #[(.int p1), (.int p2), (.int p3), (.int p4), (.int p5), (.int p6)] maxLocals)) t := fun t k => go100 t (st101 t k)
    have go103 : ∀ t, Steps p.tables e below (T101.setTop (mkF m 304 #[.val (.int p1), .val (.int p2), .val (.int p3), .val (.int p4), .val (.int p5), .val (.int p6), .val (.int (1 : Int32)), .val (.int s0), .val (.int s1), .val (.int s2), .val (.int s3), .val (.int u0), .val (.int u2), .val (.int u1), .val (.int u3), .val (.int w1), .val (.int w2), .val (.int (p2 &&& (3 : Int32))), .val (.int e1), .val (.int (((p1.toUInt32 >>> ((3 : Int32) &&& 31).toUInt32).toInt32) &&& (3 : Int32))), .val (.int q1), .val (.ref b87), .unset] [(.int q1), (.int w2), (.int (0 : Int32)), (.int ((own_below (1 : Int32) u0 q1) + (own_below (0 : Int32) w1 q1)))])) t → Steps p.tables e below (s₁.setTop (entryFrame m #[(.int p1), (.int p2), (.int p3), (.int p4), (.int p5), (.int p6)] maxLocals)) t := fun t k => go102 t (by
      show Steps p.tables e below (T101.setTop (mkF m 288 #[.val (.int p1), .val (.int p2), .val (.int p3), .val (.int p4), .val (.int p5), .val (.int p6), .val (.int (1 : Int32)), .val (.int s0), .val (.int s1), .val (.int s2), .val (.int s3), .val (.int u0), .val (.int u2), .val (.int u1), .val (.int u3), .val (.int w1), .val (.int w2), .val (.int (p2 &&& (3 : Int32))), .val (.int e1), .val (.int (((p1.toUInt32 >>> ((3 : Int32) &&& 31).toUInt32).toInt32) &&& (3 : Int32))), .val (.int q1), .val (.ref b87), .unset] [(.int (own_below (0 : Int32) w1 q1)), (.int (own_below (1 : Int32) u0 q1))])) _
      refine XS.iadd X101.here hx rfl (hb hby at_288) rfl ?_
      show Steps p.tables e below (T101.setTop (mkF m 289 #[.val (.int p1), .val (.int p2), .val (.int p3), .val (.int p4), .val (.int p5), .val (.int p6), .val (.int (1 : Int32)), .val (.int s0), .val (.int s1), .val (.int s2), .val (.int s3), .val (.int u0), .val (.int u2), .val (.int u1), .val (.int u3), .val (.int w1), .val (.int w2), .val (.int (p2 &&& (3 : Int32))), .val (.int e1), .val (.int (((p1.toUInt32 >>> ((3 : Int32) &&& 31).toUInt32).toInt32) &&& (3 : Int32))), .val (.int q1), .val (.ref b87), .unset] [(.int ((own_below (1 : Int32) u0 q1) + (own_below (0 : Int32) w1 q1)))])) _
      refine XS.iload X101.here hx rfl (hb hby at_289) rfl ?_
      show Steps p.tables e below (T101.setTop (mkF m 291 #[.val (.int p1), .val (.int p2), .val (.int p3), .val (.int p4), .val (.int p5), .val (.int p6), .val (.int (1 : Int32)), .val (.int s0), .val (.int s1), .val (.int s2), .val (.int s3), .val (.int u0), .val (.int u2), .val (.int u1), .val (.int u3), .val (.int w1), .val (.int w2), .val (.int (p2 &&& (3 : Int32))), .val (.int e1), .val (.int (((p1.toUInt32 >>> ((3 : Int32) &&& 31).toUInt32).toInt32) &&& (3 : Int32))), .val (.int q1), .val (.ref b87), .unset] [(.int (1 : Int32)), (.int ((own_below (1 : Int32) u0 q1) + (own_below (0 : Int32) w1 q1)))])) _
      refine XS.iconst X101.here hx rfl (hb hby at_291) ?_
      show Steps p.tables e below (T101.setTop (mkF m 292 #[.val (.int p1), .val (.int p2), .val (.int p3), .val (.int p4), .val (.int p5), .val (.int p6), .val (.int (1 : Int32)), .val (.int s0), .val (.int s1), .val (.int s2), .val (.int s3), .val (.int u0), .val (.int u2), .val (.int u1), .val (.int u3), .val (.int w1), .val (.int w2), .val (.int (p2 &&& (3 : Int32))), .val (.int e1), .val (.int (((p1.toUInt32 >>> ((3 : Int32) &&& 31).toUInt32).toInt32) &&& (3 : Int32))), .val (.int q1), .val (.ref b87), .unset] [(.int (2 : Int32)), (.int (1 : Int32)), (.int ((own_below (1 : Int32) u0 q1) + (own_below (0 : Int32) w1 q1)))])) _
      refine XS.icmpYes X101.here hx rfl (pc0 := 292) (pc' := 299) rfl (hb hby at_292) rfl (flt (by decide : ¬ ((2 : Int32) < (1 : Int32)))).2.2.2 (by decide) (by decide) ?_
      show Steps p.tables e below (T101.setTop (mkF m 299 #[.val (.int p1), .val (.int p2), .val (.int p3), .val (.int p4), .val (.int p5), .val (.int p6), .val (.int (1 : Int32)), .val (.int s0), .val (.int s1), .val (.int s2), .val (.int s3), .val (.int u0), .val (.int u2), .val (.int u1), .val (.int u3), .val (.int w1), .val (.int w2), .val (.int (p2 &&& (3 : Int32))), .val (.int e1), .val (.int (((p1.toUInt32 >>> ((3 : Int32) &&& 31).toUInt32).toInt32) &&& (3 : Int32))), .val (.int q1), .val (.ref b87), .unset] [(.int ((own_below (1 : Int32) u0 q1) + (own_below (0 : Int32) w1 q1)))])) _
      refine XS.iconst X101.here hx rfl (hb hby at_299) ?_
      show Steps p.tables e below (T101.setTop (mkF m 300 #[.val (.int p1), .val (.int p2), .val (.int p3), .val (.int p4), .val (.int p5), .val (.int p6), .val (.int (1 : Int32)), .val (.int s0), .val (.int s1), .val (.int s2), .val (.int s3), .val (.int u0), .val (.int u2), .val (.int u1), .val (.int u3), .val (.int w1), .val (.int w2), .val (.int (p2 &&& (3 : Int32))), .val (.int e1), .val (.int (((p1.toUInt32 >>> ((3 : Int32) &&& 31).toUInt32).toInt32) &&& (3 : Int32))), .val (.int q1), .val (.ref b87), .unset] [(.int (0 : Int32)), (.int ((own_below (1 : Int32) u0 q1) + (own_below (0 : Int32) w1 q1)))])) _
      refine XS.iload X101.here hx rfl (hb hby at_300) rfl ?_
      show Steps p.tables e below (T101.setTop (mkF m 302 #[.val (.int p1), .val (.int p2), .val (.int p3), .val (.int p4), .val (.int p5), .val (.int p6), .val (.int (1 : Int32)), .val (.int s0), .val (.int s1), .val (.int s2), .val (.int s3), .val (.int u0), .val (.int u2), .val (.int u1), .val (.int u3), .val (.int w1), .val (.int w2), .val (.int (p2 &&& (3 : Int32))), .val (.int e1), .val (.int (((p1.toUInt32 >>> ((3 : Int32) &&& 31).toUInt32).toInt32) &&& (3 : Int32))), .val (.int q1), .val (.ref b87), .unset] [(.int w2), (.int (0 : Int32)), (.int ((own_below (1 : Int32) u0 q1) + (own_below (0 : Int32) w1 q1)))])) _
      refine XS.iload X101.here hx rfl (hb hby at_302) rfl ?_
      exact k)
    obtain ⟨_, _, ⟨T104, L104, k104, n104⟩, -, X104, ⟨Lc104, hQ104, l104, y104, z104⟩, st104⟩ := Jvm.LawKit.callS X101 hx (y := (⟨"com/example/halting_hound/haltinghound/IntListFirstAtLeastPinLaw", "below", "(ZII)I"⟩ : MethodName)) hown (mvT hZ (hw _ (List.mem_of_getElem? (i := 19) rfl))) (mvT hZ (hw _ (List.mem_of_getElem? (i := 20) rfl))) (mvT hZ (hw _ (List.mem_of_getElem? (i := 21) rfl))) (mvT hZ (hw _ (List.mem_of_getElem? (i := 22) rfl))) (by decide) (backOf (W := 1) (rm_bl l Z a0 hw [] (0 : Int32) w2 q1 h94 n0 (Nat.le_trans (Nat.le_trans (Nat.le_trans Z0 E87.1) K90.1) K94.1) ) hZ (hw _ (List.mem_of_getElem? (i := 22) rfl)) (hw _ (List.mem_of_getElem? (i := 21) rfl)) (by decide) (by decide)) (g := (mkF m 304 #[.val (.int p1), .val (.int p2), .val (.int p3), .val (.int p4), .val (.int p5), .val (.int p6), .val (.int (1 : Int32)), .val (.int s0), .val (.int s1), .val (.int s2), .val (.int s3), .val (.int u0), .val (.int u2), .val (.int u1), .val (.int u3), .val (.int w1), .val (.int w2), .val (.int (p2 &&& (3 : Int32))), .val (.int e1), .val (.int (((p1.toUInt32 >>> ((3 : Int32) &&& 31).toUInt32).toInt32) &&& (3 : Int32))), .val (.int q1), .val (.ref b87), .unset] [(.int q1), (.int w2), (.int (0 : Int32)), (.int ((own_below (1 : Int32) u0 q1) + (own_below (0 : Int32) w1 q1)))])) rfl (by rw [hml]; rfl) (argsL := [(.int (0 : Int32)), (.int w2), (.int q1)]) (rest := [(.int ((own_below (1 : Int32) u0 q1) + (own_below (0 : Int32) w1 q1)))]) (lenOf pd_3 rfl) rfl (by show 2 * 0 + _ ≤ _; exact Nat.le_of_eq rfl) (hb hby at_304) (fun _ _ => ⟨rfl, e101, (by decide : 2 + 0 ≤ _), (by decide : 4 + 0 ≤ _)⟩)
    dsimp only [Pt.U, Pt.locs, Pt.cells, Pt.slots] at X104 l104 y104 z104 st104 hQ104
    subst l104 y104 z104
    obtain ⟨rfl, N104q, e104⟩ := hQ104
    have N104 := Fr.app N101 N104q
    have go105 : ∀ t, Steps p.tables e below (T104.setTop (mkF m 307 #[.val (.int p1), .val (.int p2), .val (.int p3), .val (.int p4), .val (.int p5), .val (.int p6), .val (.int (1 : Int32)), .val (.int s0), .val (.int s1), .val (.int s2), .val (.int s3), .val (.int u0), .val (.int u2), .val (.int u1), .val (.int u3), .val (.int w1), .val (.int w2), .val (.int (p2 &&& (3 : Int32))), .val (.int e1), .val (.int (((p1.toUInt32 >>> ((3 : Int32) &&& 31).toUInt32).toInt32) &&& (3 : Int32))), .val (.int q1), .val (.ref b87), .unset] [(.int (own_below (0 : Int32) w2 q1)), (.int ((own_below (1 : Int32) u0 q1) + (own_below (0 : Int32) w1 q1)))])) t → Steps p.tables e below (s₁.setTop (entryFrame m #[(.int p1), (.int p2), (.int p3), (.int p4), (.int p5), (.int p6)] maxLocals)) t := fun t k => go103 t (st104 t k)
    have go106 : ∀ t, Steps p.tables e below (T104.setTop (mkF m 323 #[.val (.int p1), .val (.int p2), .val (.int p3), .val (.int p4), .val (.int p5), .val (.int p6), .val (.int (1 : Int32)), .val (.int s0), .val (.int s1), .val (.int s2), .val (.int s3), .val (.int u0), .val (.int u2), .val (.int u1), .val (.int u3), .val (.int w1), .val (.int w2), .val (.int (p2 &&& (3 : Int32))), .val (.int e1), .val (.int (((p1.toUInt32 >>> ((3 : Int32) &&& 31).toUInt32).toInt32) &&& (3 : Int32))), .val (.int q1), .val (.ref b87), .unset] [(.int q1), (.int u3), (.int (0 : Int32)), (.int (((own_below (1 : Int32) u0 q1) + (own_below (0 : Int32) w1 q1)) + (own_below (0 : Int32) w2 q1)))])) t → Steps p.tables e below (s₁.setTop (entryFrame m #[(.int p1), (.int p2), (.int p3), (.int p4), (.int p5), (.int p6)] maxLocals)) t := fun t k => go105 t (by
      show Steps p.tables e below (T104.setTop (mkF m 307 #[.val (.int p1), .val (.int p2), .val (.int p3), .val (.int p4), .val (.int p5), .val (.int p6), .val (.int (1 : Int32)), .val (.int s0), .val (.int s1), .val (.int s2), .val (.int s3), .val (.int u0), .val (.int u2), .val (.int u1), .val (.int u3), .val (.int w1), .val (.int w2), .val (.int (p2 &&& (3 : Int32))), .val (.int e1), .val (.int (((p1.toUInt32 >>> ((3 : Int32) &&& 31).toUInt32).toInt32) &&& (3 : Int32))), .val (.int q1), .val (.ref b87), .unset] [(.int (own_below (0 : Int32) w2 q1)), (.int ((own_below (1 : Int32) u0 q1) + (own_below (0 : Int32) w1 q1)))])) _
      refine XS.iadd X104.here hx rfl (hb hby at_307) rfl ?_
      show Steps p.tables e below (T104.setTop (mkF m 308 #[.val (.int p1), .val (.int p2), .val (.int p3), .val (.int p4), .val (.int p5), .val (.int p6), .val (.int (1 : Int32)), .val (.int s0), .val (.int s1), .val (.int s2), .val (.int s3), .val (.int u0), .val (.int u2), .val (.int u1), .val (.int u3), .val (.int w1), .val (.int w2), .val (.int (p2 &&& (3 : Int32))), .val (.int e1), .val (.int (((p1.toUInt32 >>> ((3 : Int32) &&& 31).toUInt32).toInt32) &&& (3 : Int32))), .val (.int q1), .val (.ref b87), .unset] [(.int (((own_below (1 : Int32) u0 q1) + (own_below (0 : Int32) w1 q1)) + (own_below (0 : Int32) w2 q1)))])) _
      refine XS.iload X104.here hx rfl (hb hby at_308) rfl ?_
      show Steps p.tables e below (T104.setTop (mkF m 310 #[.val (.int p1), .val (.int p2), .val (.int p3), .val (.int p4), .val (.int p5), .val (.int p6), .val (.int (1 : Int32)), .val (.int s0), .val (.int s1), .val (.int s2), .val (.int s3), .val (.int u0), .val (.int u2), .val (.int u1), .val (.int u3), .val (.int w1), .val (.int w2), .val (.int (p2 &&& (3 : Int32))), .val (.int e1), .val (.int (((p1.toUInt32 >>> ((3 : Int32) &&& 31).toUInt32).toInt32) &&& (3 : Int32))), .val (.int q1), .val (.ref b87), .unset] [(.int (1 : Int32)), (.int (((own_below (1 : Int32) u0 q1) + (own_below (0 : Int32) w1 q1)) + (own_below (0 : Int32) w2 q1)))])) _
      refine XS.iconst X104.here hx rfl (hb hby at_310) ?_
      show Steps p.tables e below (T104.setTop (mkF m 311 #[.val (.int p1), .val (.int p2), .val (.int p3), .val (.int p4), .val (.int p5), .val (.int p6), .val (.int (1 : Int32)), .val (.int s0), .val (.int s1), .val (.int s2), .val (.int s3), .val (.int u0), .val (.int u2), .val (.int u1), .val (.int u3), .val (.int w1), .val (.int w2), .val (.int (p2 &&& (3 : Int32))), .val (.int e1), .val (.int (((p1.toUInt32 >>> ((3 : Int32) &&& 31).toUInt32).toInt32) &&& (3 : Int32))), .val (.int q1), .val (.ref b87), .unset] [(.int (3 : Int32)), (.int (1 : Int32)), (.int (((own_below (1 : Int32) u0 q1) + (own_below (0 : Int32) w1 q1)) + (own_below (0 : Int32) w2 q1)))])) _
      refine XS.icmpYes X104.here hx rfl (pc0 := 311) (pc' := 318) rfl (hb hby at_311) rfl (flt (by decide : ¬ ((3 : Int32) < (1 : Int32)))).2.2.2 (by decide) (by decide) ?_
      show Steps p.tables e below (T104.setTop (mkF m 318 #[.val (.int p1), .val (.int p2), .val (.int p3), .val (.int p4), .val (.int p5), .val (.int p6), .val (.int (1 : Int32)), .val (.int s0), .val (.int s1), .val (.int s2), .val (.int s3), .val (.int u0), .val (.int u2), .val (.int u1), .val (.int u3), .val (.int w1), .val (.int w2), .val (.int (p2 &&& (3 : Int32))), .val (.int e1), .val (.int (((p1.toUInt32 >>> ((3 : Int32) &&& 31).toUInt32).toInt32) &&& (3 : Int32))), .val (.int q1), .val (.ref b87), .unset] [(.int (((own_below (1 : Int32) u0 q1) + (own_below (0 : Int32) w1 q1)) + (own_below (0 : Int32) w2 q1)))])) _
      refine XS.iconst X104.here hx rfl (hb hby at_318) ?_
      show Steps p.tables e below (T104.setTop (mkF m 319 #[.val (.int p1), .val (.int p2), .val (.int p3), .val (.int p4), .val (.int p5), .val (.int p6), .val (.int (1 : Int32)), .val (.int s0), .val (.int s1), .val (.int s2), .val (.int s3), .val (.int u0), .val (.int u2), .val (.int u1), .val (.int u3), .val (.int w1), .val (.int w2), .val (.int (p2 &&& (3 : Int32))), .val (.int e1), .val (.int (((p1.toUInt32 >>> ((3 : Int32) &&& 31).toUInt32).toInt32) &&& (3 : Int32))), .val (.int q1), .val (.ref b87), .unset] [(.int (0 : Int32)), (.int (((own_below (1 : Int32) u0 q1) + (own_below (0 : Int32) w1 q1)) + (own_below (0 : Int32) w2 q1)))])) _
      refine XS.iload X104.here hx rfl (hb hby at_319) rfl ?_
      show Steps p.tables e below (T104.setTop (mkF m 321 #[.val (.int p1), .val (.int p2), .val (.int p3), .val (.int p4), .val (.int p5), .val (.int p6), .val (.int (1 : Int32)), .val (.int s0), .val (.int s1), .val (.int s2), .val (.int s3), .val (.int u0), .val (.int u2), .val (.int u1), .val (.int u3), .val (.int w1), .val (.int w2), .val (.int (p2 &&& (3 : Int32))), .val (.int e1), .val (.int (((p1.toUInt32 >>> ((3 : Int32) &&& 31).toUInt32).toInt32) &&& (3 : Int32))), .val (.int q1), .val (.ref b87), .unset] [(.int u3), (.int (0 : Int32)), (.int (((own_below (1 : Int32) u0 q1) + (own_below (0 : Int32) w1 q1)) + (own_below (0 : Int32) w2 q1)))])) _
      refine XS.iload X104.here hx rfl (hb hby at_321) rfl ?_
      exact k)
    obtain ⟨_, _, ⟨T107, L107, k107, n107⟩, -, X107, ⟨Lc107, hQ107, l107, y107, z107⟩, st107⟩ := Jvm.LawKit.callS X104 hx (y := (⟨"com/example/halting_hound/haltinghound/IntListFirstAtLeastPinLaw", "below", "(ZII)I"⟩ : MethodName)) hown (mvT hZ (hw _ (List.mem_of_getElem? (i := 19) rfl))) (mvT hZ (hw _ (List.mem_of_getElem? (i := 20) rfl))) (mvT hZ (hw _ (List.mem_of_getElem? (i := 21) rfl))) (mvT hZ (hw _ (List.mem_of_getElem? (i := 22) rfl))) (by decide) (backOf (W := 1) (rm_bl l Z a0 hw [] (0 : Int32) u3 q1 h94 n0 (Nat.le_trans (Nat.le_trans (Nat.le_trans Z0 E87.1) K90.1) K94.1) ) hZ (hw _ (List.mem_of_getElem? (i := 22) rfl)) (hw _ (List.mem_of_getElem? (i := 21) rfl)) (by decide) (by decide)) (g := (mkF m 323 #[.val (.int p1), .val (.int p2), .val (.int p3), .val (.int p4), .val (.int p5), .val (.int p6), .val (.int (1 : Int32)), .val (.int s0), .val (.int s1), .val (.int s2), .val (.int s3), .val (.int u0), .val (.int u2), .val (.int u1), .val (.int u3), .val (.int w1), .val (.int w2), .val (.int (p2 &&& (3 : Int32))), .val (.int e1), .val (.int (((p1.toUInt32 >>> ((3 : Int32) &&& 31).toUInt32).toInt32) &&& (3 : Int32))), .val (.int q1), .val (.ref b87), .unset] [(.int q1), (.int u3), (.int (0 : Int32)), (.int (((own_below (1 : Int32) u0 q1) + (own_below (0 : Int32) w1 q1)) + (own_below (0 : Int32) w2 q1)))])) rfl (by rw [hml]; rfl) (argsL := [(.int (0 : Int32)), (.int u3), (.int q1)]) (rest := [(.int (((own_below (1 : Int32) u0 q1) + (own_below (0 : Int32) w1 q1)) + (own_below (0 : Int32) w2 q1)))]) (lenOf pd_3 rfl) rfl (by show 2 * 0 + _ ≤ _; exact Nat.le_of_eq rfl) (hb hby at_323) (fun _ _ => ⟨rfl, e104, (by decide : 2 + 0 ≤ _), (by decide : 4 + 0 ≤ _)⟩)
    dsimp only [Pt.U, Pt.locs, Pt.cells, Pt.slots] at X107 l107 y107 z107 st107 hQ107
    subst l107 y107 z107
    obtain ⟨rfl, N107q, e107⟩ := hQ107
    have N107 := Fr.app N104 N107q
    have go108 : ∀ t, Steps p.tables e below (T107.setTop (mkF m 326 #[.val (.int p1), .val (.int p2), .val (.int p3), .val (.int p4), .val (.int p5), .val (.int p6), .val (.int (1 : Int32)), .val (.int s0), .val (.int s1), .val (.int s2), .val (.int s3), .val (.int u0), .val (.int u2), .val (.int u1), .val (.int u3), .val (.int w1), .val (.int w2), .val (.int (p2 &&& (3 : Int32))), .val (.int e1), .val (.int (((p1.toUInt32 >>> ((3 : Int32) &&& 31).toUInt32).toInt32) &&& (3 : Int32))), .val (.int q1), .val (.ref b87), .unset] [(.int (own_below (0 : Int32) u3 q1)), (.int (((own_below (1 : Int32) u0 q1) + (own_below (0 : Int32) w1 q1)) + (own_below (0 : Int32) w2 q1)))])) t → Steps p.tables e below (s₁.setTop (entryFrame m #[(.int p1), (.int p2), (.int p3), (.int p4), (.int p5), (.int p6)] maxLocals)) t := fun t k => go106 t (st107 t k)
    have go109 : ∀ t, Steps p.tables e below (T107.setTop (mkF m 333 #[.val (.int p1), .val (.int p2), .val (.int p3), .val (.int p4), .val (.int p5), .val (.int p6), .val (.int (1 : Int32)), .val (.int s0), .val (.int s1), .val (.int s2), .val (.int s3), .val (.int u0), .val (.int u2), .val (.int u1), .val (.int u3), .val (.int w1), .val (.int w2), .val (.int (p2 &&& (3 : Int32))), .val (.int e1), .val (.int (((p1.toUInt32 >>> ((3 : Int32) &&& 31).toUInt32).toInt32) &&& (3 : Int32))), .val (.int q1), .val (.ref b87), .val (.int ((((own_below (1 : Int32) u0 q1) + (own_below (0 : Int32) w1 q1)) + (own_below (0 : Int32) w2 q1)) + (own_below (0 : Int32) u3 q1)))] [(.int q1), (.ref b87)])) t → Steps p.tables e below (s₁.setTop (entryFrame m #[(.int p1), (.int p2), (.int p3), (.int p4), (.int p5), (.int p6)] maxLocals)) t := fun t k => go108 t (by
      show Steps p.tables e below (T107.setTop (mkF m 326 #[.val (.int p1), .val (.int p2), .val (.int p3), .val (.int p4), .val (.int p5), .val (.int p6), .val (.int (1 : Int32)), .val (.int s0), .val (.int s1), .val (.int s2), .val (.int s3), .val (.int u0), .val (.int u2), .val (.int u1), .val (.int u3), .val (.int w1), .val (.int w2), .val (.int (p2 &&& (3 : Int32))), .val (.int e1), .val (.int (((p1.toUInt32 >>> ((3 : Int32) &&& 31).toUInt32).toInt32) &&& (3 : Int32))), .val (.int q1), .val (.ref b87), .unset] [(.int (own_below (0 : Int32) u3 q1)), (.int (((own_below (1 : Int32) u0 q1) + (own_below (0 : Int32) w1 q1)) + (own_below (0 : Int32) w2 q1)))])) _
      refine XS.iadd X107.here hx rfl (hb hby at_326) rfl ?_
      show Steps p.tables e below (T107.setTop (mkF m 327 #[.val (.int p1), .val (.int p2), .val (.int p3), .val (.int p4), .val (.int p5), .val (.int p6), .val (.int (1 : Int32)), .val (.int s0), .val (.int s1), .val (.int s2), .val (.int s3), .val (.int u0), .val (.int u2), .val (.int u1), .val (.int u3), .val (.int w1), .val (.int w2), .val (.int (p2 &&& (3 : Int32))), .val (.int e1), .val (.int (((p1.toUInt32 >>> ((3 : Int32) &&& 31).toUInt32).toInt32) &&& (3 : Int32))), .val (.int q1), .val (.ref b87), .unset] [(.int ((((own_below (1 : Int32) u0 q1) + (own_below (0 : Int32) w1 q1)) + (own_below (0 : Int32) w2 q1)) + (own_below (0 : Int32) u3 q1)))])) _
      refine XS.istore X107.here hx rfl (hb hby at_327) rfl (l' := #[.val (.int p1), .val (.int p2), .val (.int p3), .val (.int p4), .val (.int p5), .val (.int p6), .val (.int (1 : Int32)), .val (.int s0), .val (.int s1), .val (.int s2), .val (.int s3), .val (.int u0), .val (.int u2), .val (.int u1), .val (.int u3), .val (.int w1), .val (.int w2), .val (.int (p2 &&& (3 : Int32))), .val (.int e1), .val (.int (((p1.toUInt32 >>> ((3 : Int32) &&& 31).toUInt32).toInt32) &&& (3 : Int32))), .val (.int q1), .val (.ref b87), .val (.int ((((own_below (1 : Int32) u0 q1) + (own_below (0 : Int32) w1 q1)) + (own_below (0 : Int32) w2 q1)) + (own_below (0 : Int32) u3 q1)))]) rfl ?_
      show Steps p.tables e below (T107.setTop (mkF m 329 #[.val (.int p1), .val (.int p2), .val (.int p3), .val (.int p4), .val (.int p5), .val (.int p6), .val (.int (1 : Int32)), .val (.int s0), .val (.int s1), .val (.int s2), .val (.int s3), .val (.int u0), .val (.int u2), .val (.int u1), .val (.int u3), .val (.int w1), .val (.int w2), .val (.int (p2 &&& (3 : Int32))), .val (.int e1), .val (.int (((p1.toUInt32 >>> ((3 : Int32) &&& 31).toUInt32).toInt32) &&& (3 : Int32))), .val (.int q1), .val (.ref b87), .val (.int ((((own_below (1 : Int32) u0 q1) + (own_below (0 : Int32) w1 q1)) + (own_below (0 : Int32) w2 q1)) + (own_below (0 : Int32) u3 q1)))] [])) _
      refine XS.aload X107.here hx rfl (hb hby at_329) rfl rfl ?_
      show Steps p.tables e below (T107.setTop (mkF m 331 #[.val (.int p1), .val (.int p2), .val (.int p3), .val (.int p4), .val (.int p5), .val (.int p6), .val (.int (1 : Int32)), .val (.int s0), .val (.int s1), .val (.int s2), .val (.int s3), .val (.int u0), .val (.int u2), .val (.int u1), .val (.int u3), .val (.int w1), .val (.int w2), .val (.int (p2 &&& (3 : Int32))), .val (.int e1), .val (.int (((p1.toUInt32 >>> ((3 : Int32) &&& 31).toUInt32).toInt32) &&& (3 : Int32))), .val (.int q1), .val (.ref b87), .val (.int ((((own_below (1 : Int32) u0 q1) + (own_below (0 : Int32) w1 q1)) + (own_below (0 : Int32) w2 q1)) + (own_below (0 : Int32) u3 q1)))] [(.ref b87)])) _
      refine XS.iload X107.here hx rfl (hb hby at_331) rfl ?_
      exact k)
    obtain ⟨cq110, kq110, q110a, q110b, q110c⟩ := isOf hZ e107 f96
    obtain ⟨_, _, ⟨T110, L110, k110, n110⟩, -, X110, ⟨Lc110, hQ110, l110, y110, z110⟩, st110⟩ := X107.virtualBack hx (y := (⟨"com/example/halting_hound/haltinghound/IntList", "firstAtLeast", "(I)I"⟩ : MethodName)) (z := (⟨"com/example/halting_hound/haltinghound/IntList", "firstAtLeast", "(I)I"⟩ : MethodName)) hown (mvT hZ (hw _ (List.mem_of_getElem? (i := 23) rfl))) (mvT hZ (hw _ (List.mem_of_getElem? (i := 24) rfl))) (notFace_of_selects (args := #[]) (mvT hZ (hw _ (List.mem_of_getElem? (i := 26) rfl)))) (mvT hZ (hw _ (List.mem_of_getElem? (i := 26) rfl))) (mvT hZ (hw _ (List.mem_of_getElem? (i := 25) rfl))) (by decide) (backOf (W := 0) (rm_fal1 l Z a0 hw [] b87 q1 b90 k90 u0 h94 n0 (Nat.le_trans (Nat.le_trans (Nat.le_trans Z0 E87.1) K90.1) K94.1) f96 F94v F94z V94) hZ (hw _ (List.mem_of_getElem? (i := 27) rfl)) (hw _ (List.mem_of_getElem? (i := 9) rfl)) (by decide) (by decide)) q110a q110c (g := (mkF m 333 #[.val (.int p1), .val (.int p2), .val (.int p3), .val (.int p4), .val (.int p5), .val (.int p6), .val (.int (1 : Int32)), .val (.int s0), .val (.int s1), .val (.int s2), .val (.int s3), .val (.int u0), .val (.int u2), .val (.int u1), .val (.int u3), .val (.int w1), .val (.int w2), .val (.int (p2 &&& (3 : Int32))), .val (.int e1), .val (.int (((p1.toUInt32 >>> ((3 : Int32) &&& 31).toUInt32).toInt32) &&& (3 : Int32))), .val (.int q1), .val (.ref b87), .val (.int ((((own_below (1 : Int32) u0 q1) + (own_below (0 : Int32) w1 q1)) + (own_below (0 : Int32) w2 q1)) + (own_below (0 : Int32) u3 q1)))] [(.int q1), (.ref b87)])) rfl (by rw [hml]; rfl) (Steps.refl _) (argsL := [(.int q1)]) (rest := []) (lenOf pd_4 rfl) rfl (by show 2 * 0 + _ ≤ _; exact Nat.le_of_eq rfl) (hb hby at_333) (fun _ _ => ⟨rfl, e107, (by decide : 2 + 0 ≤ _), (by decide : 4 + 0 ≤ _)⟩)
    dsimp only [Pt.U, Pt.locs, Pt.cells, Pt.slots] at X110 l110 y110 z110 st110 hQ110
    subst l110 y110 z110
    obtain ⟨rfl, N110q, e110⟩ := hQ110
    have N110 := Fr.app N107 N110q
    have go111 : ∀ t, Steps p.tables e below (T110.setTop (mkF m 336 #[.val (.int p1), .val (.int p2), .val (.int p3), .val (.int p4), .val (.int p5), .val (.int p6), .val (.int (1 : Int32)), .val (.int s0), .val (.int s1), .val (.int s2), .val (.int s3), .val (.int u0), .val (.int u2), .val (.int u1), .val (.int u3), .val (.int w1), .val (.int w2), .val (.int (p2 &&& (3 : Int32))), .val (.int e1), .val (.int (((p1.toUInt32 >>> ((3 : Int32) &&& 31).toUInt32).toInt32) &&& (3 : Int32))), .val (.int q1), .val (.ref b87), .val (.int ((((own_below (1 : Int32) u0 q1) + (own_below (0 : Int32) w1 q1)) + (own_below (0 : Int32) w2 q1)) + (own_below (0 : Int32) u3 q1)))] [(.int (own_fal1 q1 u0))])) t → Steps p.tables e below (s₁.setTop (entryFrame m #[(.int p1), (.int p2), (.int p3), (.int p4), (.int p5), (.int p6)] maxLocals)) t := fun t k => go109 t (st110.trans k)
    have go112 : ∀ t, Steps p.tables e below (T110.setTop (mkF m 346 #[.val (.int p1), .val (.int p2), .val (.int p3), .val (.int p4), .val (.int p5), .val (.int p6), .val (.int (1 : Int32)), .val (.int s0), .val (.int s1), .val (.int s2), .val (.int s3), .val (.int u0), .val (.int u2), .val (.int u1), .val (.int u3), .val (.int w1), .val (.int w2), .val (.int (p2 &&& (3 : Int32))), .val (.int e1), .val (.int (((p1.toUInt32 >>> ((3 : Int32) &&& 31).toUInt32).toInt32) &&& (3 : Int32))), .val (.int q1), .val (.ref b87), .val (.int ((((own_below (1 : Int32) u0 q1) + (own_below (0 : Int32) w1 q1)) + (own_below (0 : Int32) w2 q1)) + (own_below (0 : Int32) u3 q1)))] [(.int (1 : Int32))])) t → Steps p.tables e below (s₁.setTop (entryFrame m #[(.int p1), (.int p2), (.int p3), (.int p4), (.int p5), (.int p6)] maxLocals)) t := fun t k => go111 t (by
      show Steps p.tables e below (T110.setTop (mkF m 336 #[.val (.int p1), .val (.int p2), .val (.int p3), .val (.int p4), .val (.int p5), .val (.int p6), .val (.int (1 : Int32)), .val (.int s0), .val (.int s1), .val (.int s2), .val (.int s3), .val (.int u0), .val (.int u2), .val (.int u1), .val (.int u3), .val (.int w1), .val (.int w2), .val (.int (p2 &&& (3 : Int32))), .val (.int e1), .val (.int (((p1.toUInt32 >>> ((3 : Int32) &&& 31).toUInt32).toInt32) &&& (3 : Int32))), .val (.int q1), .val (.ref b87), .val (.int ((((own_below (1 : Int32) u0 q1) + (own_below (0 : Int32) w1 q1)) + (own_below (0 : Int32) w2 q1)) + (own_below (0 : Int32) u3 q1)))] [(.int (own_fal1 q1 u0))])) _
      refine XS.iload X110.here hx rfl (hb hby at_336) rfl ?_
      show Steps p.tables e below (T110.setTop (mkF m 338 #[.val (.int p1), .val (.int p2), .val (.int p3), .val (.int p4), .val (.int p5), .val (.int p6), .val (.int (1 : Int32)), .val (.int s0), .val (.int s1), .val (.int s2), .val (.int s3), .val (.int u0), .val (.int u2), .val (.int u1), .val (.int u3), .val (.int w1), .val (.int w2), .val (.int (p2 &&& (3 : Int32))), .val (.int e1), .val (.int (((p1.toUInt32 >>> ((3 : Int32) &&& 31).toUInt32).toInt32) &&& (3 : Int32))), .val (.int q1), .val (.ref b87), .val (.int ((((own_below (1 : Int32) u0 q1) + (own_below (0 : Int32) w1 q1)) + (own_below (0 : Int32) w2 q1)) + (own_below (0 : Int32) u3 q1)))] [(.int ((((own_below (1 : Int32) u0 q1) + (own_below (0 : Int32) w1 q1)) + (own_below (0 : Int32) w2 q1)) + (own_below (0 : Int32) u3 q1))), (.int (own_fal1 q1 u0))])) _
      refine XS.icmpNo X110.here hx rfl (hb hby at_338) rfl (teq (own_law1 q1 u0 w1 w2 u3 hs1 hs2 hs3)).2 ?_
      show Steps p.tables e below (T110.setTop (mkF m 341 #[.val (.int p1), .val (.int p2), .val (.int p3), .val (.int p4), .val (.int p5), .val (.int p6), .val (.int (1 : Int32)), .val (.int s0), .val (.int s1), .val (.int s2), .val (.int s3), .val (.int u0), .val (.int u2), .val (.int u1), .val (.int u3), .val (.int w1), .val (.int w2), .val (.int (p2 &&& (3 : Int32))), .val (.int e1), .val (.int (((p1.toUInt32 >>> ((3 : Int32) &&& 31).toUInt32).toInt32) &&& (3 : Int32))), .val (.int q1), .val (.ref b87), .val (.int ((((own_below (1 : Int32) u0 q1) + (own_below (0 : Int32) w1 q1)) + (own_below (0 : Int32) w2 q1)) + (own_below (0 : Int32) u3 q1)))] [])) _
      refine XS.iconst X110.here hx rfl (hb hby at_341) ?_
      show Steps p.tables e below (T110.setTop (mkF m 342 #[.val (.int p1), .val (.int p2), .val (.int p3), .val (.int p4), .val (.int p5), .val (.int p6), .val (.int (1 : Int32)), .val (.int s0), .val (.int s1), .val (.int s2), .val (.int s3), .val (.int u0), .val (.int u2), .val (.int u1), .val (.int u3), .val (.int w1), .val (.int w2), .val (.int (p2 &&& (3 : Int32))), .val (.int e1), .val (.int (((p1.toUInt32 >>> ((3 : Int32) &&& 31).toUInt32).toInt32) &&& (3 : Int32))), .val (.int q1), .val (.ref b87), .val (.int ((((own_below (1 : Int32) u0 q1) + (own_below (0 : Int32) w1 q1)) + (own_below (0 : Int32) w2 q1)) + (own_below (0 : Int32) u3 q1)))] [(.int (1 : Int32))])) _
      refine XS.goto X110.here hx rfl (pc0 := 342) (pc' := 346) rfl (hb hby at_342) (by decide) (by decide) ?_
      exact k)
    obtain ⟨fs, hr, hrun, hended, hW, hsame⟩ := X110.leave (v := some (.int (1 : Int32))) (fun h => by rw [Bd.returns] at h; cases h)
    refine ⟨_, _, go112 _ ?_, hrun, hended, _, _, rfl, ?_, ⟨_, rfl⟩, hW, hsame.mono (by decide) (by decide)⟩
    · exact retN X110 hx (t := .boolean) Bd.returns (by simp) (hb hby at_346) hr
    · show QL n0 _ T110.heap _
      rw [e110]
      exact ⟨rfl, N110⟩
  · rw [hn] at go64
    obtain ⟨T113, h113, X113, e113, E113, A113, D113, -, st113⟩ := newO X38 hx hZ hown (hw _ (List.mem_of_getElem? (i := 7) rfl)) (hw _ (List.mem_of_getElem? (i := 8) rfl)) (hw _ (List.mem_of_getElem? (i := 9) rfl)) e38 (g := (mkF m 193 #[.val (.int p1), .val (.int p2), .val (.int p3), .val (.int p4), .val (.int p5), .val (.int p6), .val (.int (2 : Int32)), .val (.int s0), .val (.int s1), .val (.int s2), .val (.int s3), .val (.int u0), .val (.int u2), .val (.int u1), .val (.int u3), .val (.int w1), .val (.int w2), .val (.int (p2 &&& (3 : Int32))), .val (.int e1), .val (.int (((p1.toUInt32 >>> ((3 : Int32) &&& 31).toUInt32).toInt32) &&& (3 : Int32))), .val (.int q1), .unset, .unset] [])) rfl (hb hby at_193) (by decide) (by decide)
    obtain ⟨b113, g113⟩ : ∃ z, z = h0.size := ⟨_, rfl⟩
    rw [← g113] at A113 D113 st113
    have g_b113 : n0 ≤ b113 := Nat.le_trans Z0 (Nat.le_of_eq g113.symm)
    have F113_values : Fld Z h113 b113 "com/example/halting_hound/haltinghound/IntList" "values" "[I" .null := D113 (Or.inl (hw _ (List.mem_of_getElem? (i := 18) rfl))) (ty := (.array .int)) (by decide)
    have F113_size : Fld Z h113 b113 "com/example/halting_hound/haltinghound/IntList" "size" "I" (.int (0 : Int32)) := D113 (Or.inl (hw _ (List.mem_of_getElem? (i := 29) rfl))) (ty := .int) (by decide)
    have go114 : ∀ t, Steps p.tables e below (T113.setTop (mkF m 196 #[.val (.int p1), .val (.int p2), .val (.int p3), .val (.int p4), .val (.int p5), .val (.int p6), .val (.int (2 : Int32)), .val (.int s0), .val (.int s1), .val (.int s2), .val (.int s3), .val (.int u0), .val (.int u2), .val (.int u1), .val (.int u3), .val (.int w1), .val (.int w2), .val (.int (p2 &&& (3 : Int32))), .val (.int e1), .val (.int (((p1.toUInt32 >>> ((3 : Int32) &&& 31).toUInt32).toInt32) &&& (3 : Int32))), .val (.int q1), .unset, .unset] [(.ref b113)])) t → Steps p.tables e below (s₁.setTop (entryFrame m #[(.int p1), (.int p2), (.int p3), (.int p4), (.int p5), (.int p6)] maxLocals)) t := fun t k => go64 t (st113 t k)
    have go115 : ∀ t, Steps p.tables e below (T113.setTop (mkF m 197 #[.val (.int p1), .val (.int p2), .val (.int p3), .val (.int p4), .val (.int p5), .val (.int p6), .val (.int (2 : Int32)), .val (.int s0), .val (.int s1), .val (.int s2), .val (.int s3), .val (.int u0), .val (.int u2), .val (.int u1), .val (.int u3), .val (.int w1), .val (.int w2), .val (.int (p2 &&& (3 : Int32))), .val (.int e1), .val (.int (((p1.toUInt32 >>> ((3 : Int32) &&& 31).toUInt32).toInt32) &&& (3 : Int32))), .val (.int q1), .unset, .unset] [(.ref b113), (.ref b113)])) t → Steps p.tables e below (s₁.setTop (entryFrame m #[(.int p1), (.int p2), (.int p3), (.int p4), (.int p5), (.int p6)] maxLocals)) t := fun t k => go114 t (by
      show Steps p.tables e below (T113.setTop (mkF m 196 #[.val (.int p1), .val (.int p2), .val (.int p3), .val (.int p4), .val (.int p5), .val (.int p6), .val (.int (2 : Int32)), .val (.int s0), .val (.int s1), .val (.int s2), .val (.int s3), .val (.int u0), .val (.int u2), .val (.int u1), .val (.int u3), .val (.int w1), .val (.int w2), .val (.int (p2 &&& (3 : Int32))), .val (.int e1), .val (.int (((p1.toUInt32 >>> ((3 : Int32) &&& 31).toUInt32).toInt32) &&& (3 : Int32))), .val (.int q1), .unset, .unset] [(.ref b113)])) _
      refine XS.dup X113.here hx rfl (hb hby at_196) rfl rfl ?_
      exact k)
    obtain ⟨_, _, ⟨T116, L116, k116, n116⟩, -, X116, ⟨Lc116, hQ116, l116, y116, z116⟩, st116⟩ := X113.specialBack hx (y := (⟨"com/example/halting_hound/haltinghound/IntList", "<init>", "()V"⟩ : MethodName)) rfl hown (mvT hZ (hw _ (List.mem_of_getElem? (i := 10) rfl))) (mvT hZ (hw _ (List.mem_of_getElem? (i := 11) rfl))) (mvT hZ (hw _ (List.mem_of_getElem? (i := 12) rfl))) (by decide) (backOf (W := 1) (rm_ini l Z a0 hw [] b113 _ h113 n0 (Nat.le_trans Z0 E113.1) A113 F113_values F113_size g_b113) hZ (hw _ (List.mem_of_getElem? (i := 12) rfl)) (hw _ (List.mem_of_getElem? (i := 9) rfl)) (by decide) (by decide)) (g := (mkF m 197 #[.val (.int p1), .val (.int p2), .val (.int p3), .val (.int p4), .val (.int p5), .val (.int p6), .val (.int (2 : Int32)), .val (.int s0), .val (.int s1), .val (.int s2), .val (.int s3), .val (.int u0), .val (.int u2), .val (.int u1), .val (.int u3), .val (.int w1), .val (.int w2), .val (.int (p2 &&& (3 : Int32))), .val (.int e1), .val (.int (((p1.toUInt32 >>> ((3 : Int32) &&& 31).toUInt32).toInt32) &&& (3 : Int32))), .val (.int q1), .unset, .unset] [(.ref b113), (.ref b113)])) rfl (by rw [hml]; rfl) (Steps.refl _) (a := b113) (argsL := []) (rest := [(.ref b113)]) (lenOf pd_2 rfl) rfl (by show 2 * 0 + _ ≤ _; exact Nat.le_of_eq rfl) (hb hby at_197) (fun _ _ => ⟨rfl, e113, (by decide : 1 + 1 ≤ _), (by decide : 2 + 2 ≤ _)⟩)
    dsimp only [Pt.U, Pt.locs, Pt.cells, Pt.slots] at X116 l116 y116 z116 st116 hQ116
    subst l116 y116 z116
    obtain ⟨h116, e116⟩ : ∃ z, T116.heap = z := ⟨_, rfl⟩
    rw [e116] at hQ116
    obtain ⟨rfl, N116q, K116, F116z, b116, k116, g116, ne116, F116v, V116⟩ := hQ116
    have N116 := Fr.app N38 N116q
    have go117 : ∀ t, Steps p.tables e below (T116.setTop (mkF m 200 #[.val (.int p1), .val (.int p2), .val (.int p3), .val (.int p4), .val (.int p5), .val (.int p6), .val (.int (2 : Int32)), .val (.int s0), .val (.int s1), .val (.int s2), .val (.int s3), .val (.int u0), .val (.int u2), .val (.int u1), .val (.int u3), .val (.int w1), .val (.int w2), .val (.int (p2 &&& (3 : Int32))), .val (.int e1), .val (.int (((p1.toUInt32 >>> ((3 : Int32) &&& 31).toUInt32).toInt32) &&& (3 : Int32))), .val (.int q1), .unset, .unset] [(.ref b113)])) t → Steps p.tables e below (s₁.setTop (entryFrame m #[(.int p1), (.int p2), (.int p3), (.int p4), (.int p5), (.int p6)] maxLocals)) t := fun t k => go115 t (st116.trans k)
    have f118 := A113.keep K116
    have go119 : ∀ t, Steps p.tables e below (T116.setTop (mkF m 211 #[.val (.int p1), .val (.int p2), .val (.int p3), .val (.int p4), .val (.int p5), .val (.int p6), .val (.int (2 : Int32)), .val (.int s0), .val (.int s1), .val (.int s2), .val (.int s3), .val (.int u0), .val (.int u2), .val (.int u1), .val (.int u3), .val (.int w1), .val (.int w2), .val (.int (p2 &&& (3 : Int32))), .val (.int e1), .val (.int (((p1.toUInt32 >>> ((3 : Int32) &&& 31).toUInt32).toInt32) &&& (3 : Int32))), .val (.int q1), .val (.ref b113), .unset] [(.int u0), (.ref b113)])) t → Steps p.tables e below (s₁.setTop (entryFrame m #[(.int p1), (.int p2), (.int p3), (.int p4), (.int p5), (.int p6)] maxLocals)) t := fun t k => go117 t (by
      show Steps p.tables e below (T116.setTop (mkF m 200 #[.val (.int p1), .val (.int p2), .val (.int p3), .val (.int p4), .val (.int p5), .val (.int p6), .val (.int (2 : Int32)), .val (.int s0), .val (.int s1), .val (.int s2), .val (.int s3), .val (.int u0), .val (.int u2), .val (.int u1), .val (.int u3), .val (.int w1), .val (.int w2), .val (.int (p2 &&& (3 : Int32))), .val (.int e1), .val (.int (((p1.toUInt32 >>> ((3 : Int32) &&& 31).toUInt32).toInt32) &&& (3 : Int32))), .val (.int q1), .unset, .unset] [(.ref b113)])) _
      refine XS.astore X116.here hx rfl (hb hby at_200) rfl rfl (l' := #[.val (.int p1), .val (.int p2), .val (.int p3), .val (.int p4), .val (.int p5), .val (.int p6), .val (.int (2 : Int32)), .val (.int s0), .val (.int s1), .val (.int s2), .val (.int s3), .val (.int u0), .val (.int u2), .val (.int u1), .val (.int u3), .val (.int w1), .val (.int w2), .val (.int (p2 &&& (3 : Int32))), .val (.int e1), .val (.int (((p1.toUInt32 >>> ((3 : Int32) &&& 31).toUInt32).toInt32) &&& (3 : Int32))), .val (.int q1), .val (.ref b113), .unset]) rfl ?_
      show Steps p.tables e below (T116.setTop (mkF m 202 #[.val (.int p1), .val (.int p2), .val (.int p3), .val (.int p4), .val (.int p5), .val (.int p6), .val (.int (2 : Int32)), .val (.int s0), .val (.int s1), .val (.int s2), .val (.int s3), .val (.int u0), .val (.int u2), .val (.int u1), .val (.int u3), .val (.int w1), .val (.int w2), .val (.int (p2 &&& (3 : Int32))), .val (.int e1), .val (.int (((p1.toUInt32 >>> ((3 : Int32) &&& 31).toUInt32).toInt32) &&& (3 : Int32))), .val (.int q1), .val (.ref b113), .unset] [])) _
      refine XS.iload X116.here hx rfl (hb hby at_202) rfl ?_
      show Steps p.tables e below (T116.setTop (mkF m 204 #[.val (.int p1), .val (.int p2), .val (.int p3), .val (.int p4), .val (.int p5), .val (.int p6), .val (.int (2 : Int32)), .val (.int s0), .val (.int s1), .val (.int s2), .val (.int s3), .val (.int u0), .val (.int u2), .val (.int u1), .val (.int u3), .val (.int w1), .val (.int w2), .val (.int (p2 &&& (3 : Int32))), .val (.int e1), .val (.int (((p1.toUInt32 >>> ((3 : Int32) &&& 31).toUInt32).toInt32) &&& (3 : Int32))), .val (.int q1), .val (.ref b113), .unset] [(.int (2 : Int32))])) _
      refine XS.ifNo X116.here hx rfl (hb hby at_204) rfl ((if0 _ _).trans (tlt (by decide : (0 : Int32) < (2 : Int32))).2.2.2) ?_
      show Steps p.tables e below (T116.setTop (mkF m 207 #[.val (.int p1), .val (.int p2), .val (.int p3), .val (.int p4), .val (.int p5), .val (.int p6), .val (.int (2 : Int32)), .val (.int s0), .val (.int s1), .val (.int s2), .val (.int s3), .val (.int u0), .val (.int u2), .val (.int u1), .val (.int u3), .val (.int w1), .val (.int w2), .val (.int (p2 &&& (3 : Int32))), .val (.int e1), .val (.int (((p1.toUInt32 >>> ((3 : Int32) &&& 31).toUInt32).toInt32) &&& (3 : Int32))), .val (.int q1), .val (.ref b113), .unset] [])) _
      refine XS.aload X116.here hx rfl (hb hby at_207) rfl rfl ?_
      show Steps p.tables e below (T116.setTop (mkF m 209 #[.val (.int p1), .val (.int p2), .val (.int p3), .val (.int p4), .val (.int p5), .val (.int p6), .val (.int (2 : Int32)), .val (.int s0), .val (.int s1), .val (.int s2), .val (.int s3), .val (.int u0), .val (.int u2), .val (.int u1), .val (.int u3), .val (.int w1), .val (.int w2), .val (.int (p2 &&& (3 : Int32))), .val (.int e1), .val (.int (((p1.toUInt32 >>> ((3 : Int32) &&& 31).toUInt32).toInt32) &&& (3 : Int32))), .val (.int q1), .val (.ref b113), .unset] [(.ref b113)])) _
      refine XS.iload X116.here hx rfl (hb hby at_209) rfl ?_
      exact k)
    obtain ⟨cq120, kq120, q120a, q120b, q120c⟩ := isOf hZ e116 f118
    obtain ⟨_, _, ⟨T120, L120, k120, n120⟩, -, X120, ⟨Lc120, hQ120, l120, y120, z120⟩, st120⟩ := X116.virtualBack hx (y := (⟨"com/example/halting_hound/haltinghound/IntList", "add", "(I)V"⟩ : MethodName)) (z := (⟨"com/example/halting_hound/haltinghound/IntList", "add", "(I)V"⟩ : MethodName)) hown (mvT hZ (hw _ (List.mem_of_getElem? (i := 30) rfl))) (mvT hZ (hw _ (List.mem_of_getElem? (i := 31) rfl))) (notFace_of_selects (args := #[]) (mvT hZ (hw _ (List.mem_of_getElem? (i := 33) rfl)))) (mvT hZ (hw _ (List.mem_of_getElem? (i := 33) rfl))) (mvT hZ (hw _ (List.mem_of_getElem? (i := 32) rfl))) (by decide) (backOf (W := 0) (rm_add0 l Z a0 hw [] b113 u0 b116 k116  h116 n0 (Nat.le_trans (Nat.le_trans Z0 E113.1) K116.1) f118 F116v F116z V116 g_b113 g116 ne116) hZ (hw _ (List.mem_of_getElem? (i := 34) rfl)) (hw _ (List.mem_of_getElem? (i := 9) rfl)) (by decide) (by decide)) q120a q120c (g := (mkF m 211 #[.val (.int p1), .val (.int p2), .val (.int p3), .val (.int p4), .val (.int p5), .val (.int p6), .val (.int (2 : Int32)), .val (.int s0), .val (.int s1), .val (.int s2), .val (.int s3), .val (.int u0), .val (.int u2), .val (.int u1), .val (.int u3), .val (.int w1), .val (.int w2), .val (.int (p2 &&& (3 : Int32))), .val (.int e1), .val (.int (((p1.toUInt32 >>> ((3 : Int32) &&& 31).toUInt32).toInt32) &&& (3 : Int32))), .val (.int q1), .val (.ref b113), .unset] [(.int u0), (.ref b113)])) rfl (by rw [hml]; rfl) (Steps.refl _) (argsL := [(.int u0)]) (rest := []) (lenOf pd_5 rfl) rfl (by show 2 * 0 + _ ≤ _; exact Nat.le_of_eq rfl) (hb hby at_211) (fun _ _ => ⟨rfl, e116, (by decide : 2 + 0 ≤ _), (by decide : 4 + 0 ≤ _)⟩)
    dsimp only [Pt.U, Pt.locs, Pt.cells, Pt.slots] at X120 l120 y120 z120 st120 hQ120
    subst l120 y120 z120
    obtain ⟨h120, e120⟩ : ∃ z, T120.heap = z := ⟨_, rfl⟩
    rw [e120] at hQ120
    obtain ⟨rfl, N120q, K120, F120z, F120v, V120⟩ := hQ120
    have N120 := Fr.app N116 N120q
    have go121 : ∀ t, Steps p.tables e below (T120.setTop (mkF m 214 #[.val (.int p1), .val (.int p2), .val (.int p3), .val (.int p4), .val (.int p5), .val (.int p6), .val (.int (2 : Int32)), .val (.int s0), .val (.int s1), .val (.int s2), .val (.int s3), .val (.int u0), .val (.int u2), .val (.int u1), .val (.int u3), .val (.int w1), .val (.int w2), .val (.int (p2 &&& (3 : Int32))), .val (.int e1), .val (.int (((p1.toUInt32 >>> ((3 : Int32) &&& 31).toUInt32).toInt32) &&& (3 : Int32))), .val (.int q1), .val (.ref b113), .unset] [])) t → Steps p.tables e below (s₁.setTop (entryFrame m #[(.int p1), (.int p2), (.int p3), (.int p4), (.int p5), (.int p6)] maxLocals)) t := fun t k => go119 t (st120.trans k)
    have f122 := f118.keep K120
    have go123 : ∀ t, Steps p.tables e below (T120.setTop (mkF m 224 #[.val (.int p1), .val (.int p2), .val (.int p3), .val (.int p4), .val (.int p5), .val (.int p6), .val (.int (2 : Int32)), .val (.int s0), .val (.int s1), .val (.int s2), .val (.int s3), .val (.int u0), .val (.int u2), .val (.int u1), .val (.int u3), .val (.int w1), .val (.int w2), .val (.int (p2 &&& (3 : Int32))), .val (.int e1), .val (.int (((p1.toUInt32 >>> ((3 : Int32) &&& 31).toUInt32).toInt32) &&& (3 : Int32))), .val (.int q1), .val (.ref b113), .unset] [(.int w1), (.ref b113)])) t → Steps p.tables e below (s₁.setTop (entryFrame m #[(.int p1), (.int p2), (.int p3), (.int p4), (.int p5), (.int p6)] maxLocals)) t := fun t k => go121 t (by
      show Steps p.tables e below (T120.setTop (mkF m 214 #[.val (.int p1), .val (.int p2), .val (.int p3), .val (.int p4), .val (.int p5), .val (.int p6), .val (.int (2 : Int32)), .val (.int s0), .val (.int s1), .val (.int s2), .val (.int s3), .val (.int u0), .val (.int u2), .val (.int u1), .val (.int u3), .val (.int w1), .val (.int w2), .val (.int (p2 &&& (3 : Int32))), .val (.int e1), .val (.int (((p1.toUInt32 >>> ((3 : Int32) &&& 31).toUInt32).toInt32) &&& (3 : Int32))), .val (.int q1), .val (.ref b113), .unset] [])) _
      refine XS.iload X120.here hx rfl (hb hby at_214) rfl ?_
      show Steps p.tables e below (T120.setTop (mkF m 216 #[.val (.int p1), .val (.int p2), .val (.int p3), .val (.int p4), .val (.int p5), .val (.int p6), .val (.int (2 : Int32)), .val (.int s0), .val (.int s1), .val (.int s2), .val (.int s3), .val (.int u0), .val (.int u2), .val (.int u1), .val (.int u3), .val (.int w1), .val (.int w2), .val (.int (p2 &&& (3 : Int32))), .val (.int e1), .val (.int (((p1.toUInt32 >>> ((3 : Int32) &&& 31).toUInt32).toInt32) &&& (3 : Int32))), .val (.int q1), .val (.ref b113), .unset] [(.int (2 : Int32))])) _
      refine XS.iconst X120.here hx rfl (hb hby at_216) ?_
      show Steps p.tables e below (T120.setTop (mkF m 217 #[.val (.int p1), .val (.int p2), .val (.int p3), .val (.int p4), .val (.int p5), .val (.int p6), .val (.int (2 : Int32)), .val (.int s0), .val (.int s1), .val (.int s2), .val (.int s3), .val (.int u0), .val (.int u2), .val (.int u1), .val (.int u3), .val (.int w1), .val (.int w2), .val (.int (p2 &&& (3 : Int32))), .val (.int e1), .val (.int (((p1.toUInt32 >>> ((3 : Int32) &&& 31).toUInt32).toInt32) &&& (3 : Int32))), .val (.int q1), .val (.ref b113), .unset] [(.int (1 : Int32)), (.int (2 : Int32))])) _
      refine XS.icmpNo X120.here hx rfl (hb hby at_217) rfl (tlt (by decide : (1 : Int32) < (2 : Int32))).2.2.2 ?_
      show Steps p.tables e below (T120.setTop (mkF m 220 #[.val (.int p1), .val (.int p2), .val (.int p3), .val (.int p4), .val (.int p5), .val (.int p6), .val (.int (2 : Int32)), .val (.int s0), .val (.int s1), .val (.int s2), .val (.int s3), .val (.int u0), .val (.int u2), .val (.int u1), .val (.int u3), .val (.int w1), .val (.int w2), .val (.int (p2 &&& (3 : Int32))), .val (.int e1), .val (.int (((p1.toUInt32 >>> ((3 : Int32) &&& 31).toUInt32).toInt32) &&& (3 : Int32))), .val (.int q1), .val (.ref b113), .unset] [])) _
      refine XS.aload X120.here hx rfl (hb hby at_220) rfl rfl ?_
      show Steps p.tables e below (T120.setTop (mkF m 222 #[.val (.int p1), .val (.int p2), .val (.int p3), .val (.int p4), .val (.int p5), .val (.int p6), .val (.int (2 : Int32)), .val (.int s0), .val (.int s1), .val (.int s2), .val (.int s3), .val (.int u0), .val (.int u2), .val (.int u1), .val (.int u3), .val (.int w1), .val (.int w2), .val (.int (p2 &&& (3 : Int32))), .val (.int e1), .val (.int (((p1.toUInt32 >>> ((3 : Int32) &&& 31).toUInt32).toInt32) &&& (3 : Int32))), .val (.int q1), .val (.ref b113), .unset] [(.ref b113)])) _
      refine XS.iload X120.here hx rfl (hb hby at_222) rfl ?_
      exact k)
    obtain ⟨cq124, kq124, q124a, q124b, q124c⟩ := isOf hZ e120 f122
    obtain ⟨_, _, ⟨T124, L124, k124, n124⟩, -, X124, ⟨Lc124, hQ124, l124, y124, z124⟩, st124⟩ := X120.virtualBack hx (y := (⟨"com/example/halting_hound/haltinghound/IntList", "add", "(I)V"⟩ : MethodName)) (z := (⟨"com/example/halting_hound/haltinghound/IntList", "add", "(I)V"⟩ : MethodName)) hown (mvT hZ (hw _ (List.mem_of_getElem? (i := 30) rfl))) (mvT hZ (hw _ (List.mem_of_getElem? (i := 31) rfl))) (notFace_of_selects (args := #[]) (mvT hZ (hw _ (List.mem_of_getElem? (i := 33) rfl)))) (mvT hZ (hw _ (List.mem_of_getElem? (i := 33) rfl))) (mvT hZ (hw _ (List.mem_of_getElem? (i := 32) rfl))) (by decide) (backOf (W := 0) (rm_add1 l Z a0 hw [] b113 w1 b116 k116 u0 h120 n0 (Nat.le_trans (Nat.le_trans (Nat.le_trans Z0 E113.1) K116.1) K120.1) f122 F120v F120z V120 g_b113 g116 ne116) hZ (hw _ (List.mem_of_getElem? (i := 34) rfl)) (hw _ (List.mem_of_getElem? (i := 9) rfl)) (by decide) (by decide)) q124a q124c (g := (mkF m 224 #[.val (.int p1), .val (.int p2), .val (.int p3), .val (.int p4), .val (.int p5), .val (.int p6), .val (.int (2 : Int32)), .val (.int s0), .val (.int s1), .val (.int s2), .val (.int s3), .val (.int u0), .val (.int u2), .val (.int u1), .val (.int u3), .val (.int w1), .val (.int w2), .val (.int (p2 &&& (3 : Int32))), .val (.int e1), .val (.int (((p1.toUInt32 >>> ((3 : Int32) &&& 31).toUInt32).toInt32) &&& (3 : Int32))), .val (.int q1), .val (.ref b113), .unset] [(.int w1), (.ref b113)])) rfl (by rw [hml]; rfl) (Steps.refl _) (argsL := [(.int w1)]) (rest := []) (lenOf pd_5 rfl) rfl (by show 2 * 0 + _ ≤ _; exact Nat.le_of_eq rfl) (hb hby at_224) (fun _ _ => ⟨rfl, e120, (by decide : 2 + 0 ≤ _), (by decide : 4 + 0 ≤ _)⟩)
    dsimp only [Pt.U, Pt.locs, Pt.cells, Pt.slots] at X124 l124 y124 z124 st124 hQ124
    subst l124 y124 z124
    obtain ⟨h124, e124⟩ : ∃ z, T124.heap = z := ⟨_, rfl⟩
    rw [e124] at hQ124
    obtain ⟨rfl, N124q, K124, F124z, F124v, V124⟩ := hQ124
    have N124 := Fr.app N120 N124q
    have go125 : ∀ t, Steps p.tables e below (T124.setTop (mkF m 227 #[.val (.int p1), .val (.int p2), .val (.int p3), .val (.int p4), .val (.int p5), .val (.int p6), .val (.int (2 : Int32)), .val (.int s0), .val (.int s1), .val (.int s2), .val (.int s3), .val (.int u0), .val (.int u2), .val (.int u1), .val (.int u3), .val (.int w1), .val (.int w2), .val (.int (p2 &&& (3 : Int32))), .val (.int e1), .val (.int (((p1.toUInt32 >>> ((3 : Int32) &&& 31).toUInt32).toInt32) &&& (3 : Int32))), .val (.int q1), .val (.ref b113), .unset] [])) t → Steps p.tables e below (s₁.setTop (entryFrame m #[(.int p1), (.int p2), (.int p3), (.int p4), (.int p5), (.int p6)] maxLocals)) t := fun t k => go123 t (st124.trans k)
    have f126 := f122.keep K124
    have go127 : ∀ t, Steps p.tables e below (T124.setTop (mkF m 267 #[.val (.int p1), .val (.int p2), .val (.int p3), .val (.int p4), .val (.int p5), .val (.int p6), .val (.int (2 : Int32)), .val (.int s0), .val (.int s1), .val (.int s2), .val (.int s3), .val (.int u0), .val (.int u2), .val (.int u1), .val (.int u3), .val (.int w1), .val (.int w2), .val (.int (p2 &&& (3 : Int32))), .val (.int e1), .val (.int (((p1.toUInt32 >>> ((3 : Int32) &&& 31).toUInt32).toInt32) &&& (3 : Int32))), .val (.int q1), .val (.ref b113), .unset] [(.int q1), (.int u0), (.int (1 : Int32))])) t → Steps p.tables e below (s₁.setTop (entryFrame m #[(.int p1), (.int p2), (.int p3), (.int p4), (.int p5), (.int p6)] maxLocals)) t := fun t k => go125 t (by
      show Steps p.tables e below (T124.setTop (mkF m 227 #[.val (.int p1), .val (.int p2), .val (.int p3), .val (.int p4), .val (.int p5), .val (.int p6), .val (.int (2 : Int32)), .val (.int s0), .val (.int s1), .val (.int s2), .val (.int s3), .val (.int u0), .val (.int u2), .val (.int u1), .val (.int u3), .val (.int w1), .val (.int w2), .val (.int (p2 &&& (3 : Int32))), .val (.int e1), .val (.int (((p1.toUInt32 >>> ((3 : Int32) &&& 31).toUInt32).toInt32) &&& (3 : Int32))), .val (.int q1), .val (.ref b113), .unset] [])) _
      refine XS.iload X124.here hx rfl (hb hby at_227) rfl ?_
      show Steps p.tables e below (T124.setTop (mkF m 229 #[.val (.int p1), .val (.int p2), .val (.int p3), .val (.int p4), .val (.int p5), .val (.int p6), .val (.int (2 : Int32)), .val (.int s0), .val (.int s1), .val (.int s2), .val (.int s3), .val (.int u0), .val (.int u2), .val (.int u1), .val (.int u3), .val (.int w1), .val (.int w2), .val (.int (p2 &&& (3 : Int32))), .val (.int e1), .val (.int (((p1.toUInt32 >>> ((3 : Int32) &&& 31).toUInt32).toInt32) &&& (3 : Int32))), .val (.int q1), .val (.ref b113), .unset] [(.int (2 : Int32))])) _
      refine XS.iconst X124.here hx rfl (hb hby at_229) ?_
      show Steps p.tables e below (T124.setTop (mkF m 230 #[.val (.int p1), .val (.int p2), .val (.int p3), .val (.int p4), .val (.int p5), .val (.int p6), .val (.int (2 : Int32)), .val (.int s0), .val (.int s1), .val (.int s2), .val (.int s3), .val (.int u0), .val (.int u2), .val (.int u1), .val (.int u3), .val (.int w1), .val (.int w2), .val (.int (p2 &&& (3 : Int32))), .val (.int e1), .val (.int (((p1.toUInt32 >>> ((3 : Int32) &&& 31).toUInt32).toInt32) &&& (3 : Int32))), .val (.int q1), .val (.ref b113), .unset] [(.int (2 : Int32)), (.int (2 : Int32))])) _
      refine XS.icmpYes X124.here hx rfl (pc0 := 230) (pc' := 240) rfl (hb hby at_230) rfl (flt (by decide : ¬ ((2 : Int32) < (2 : Int32)))).2.2.2 (by decide) (by decide) ?_
      show Steps p.tables e below (T124.setTop (mkF m 240 #[.val (.int p1), .val (.int p2), .val (.int p3), .val (.int p4), .val (.int p5), .val (.int p6), .val (.int (2 : Int32)), .val (.int s0), .val (.int s1), .val (.int s2), .val (.int s3), .val (.int u0), .val (.int u2), .val (.int u1), .val (.int u3), .val (.int w1), .val (.int w2), .val (.int (p2 &&& (3 : Int32))), .val (.int e1), .val (.int (((p1.toUInt32 >>> ((3 : Int32) &&& 31).toUInt32).toInt32) &&& (3 : Int32))), .val (.int q1), .val (.ref b113), .unset] [])) _
      refine XS.iload X124.here hx rfl (hb hby at_240) rfl ?_
      show Steps p.tables e below (T124.setTop (mkF m 242 #[.val (.int p1), .val (.int p2), .val (.int p3), .val (.int p4), .val (.int p5), .val (.int p6), .val (.int (2 : Int32)), .val (.int s0), .val (.int s1), .val (.int s2), .val (.int s3), .val (.int u0), .val (.int u2), .val (.int u1), .val (.int u3), .val (.int w1), .val (.int w2), .val (.int (p2 &&& (3 : Int32))), .val (.int e1), .val (.int (((p1.toUInt32 >>> ((3 : Int32) &&& 31).toUInt32).toInt32) &&& (3 : Int32))), .val (.int q1), .val (.ref b113), .unset] [(.int (2 : Int32))])) _
      refine XS.iconst X124.here hx rfl (hb hby at_242) ?_
      show Steps p.tables e below (T124.setTop (mkF m 243 #[.val (.int p1), .val (.int p2), .val (.int p3), .val (.int p4), .val (.int p5), .val (.int p6), .val (.int (2 : Int32)), .val (.int s0), .val (.int s1), .val (.int s2), .val (.int s3), .val (.int u0), .val (.int u2), .val (.int u1), .val (.int u3), .val (.int w1), .val (.int w2), .val (.int (p2 &&& (3 : Int32))), .val (.int e1), .val (.int (((p1.toUInt32 >>> ((3 : Int32) &&& 31).toUInt32).toInt32) &&& (3 : Int32))), .val (.int q1), .val (.ref b113), .unset] [(.int (3 : Int32)), (.int (2 : Int32))])) _
      refine XS.icmpYes X124.here hx rfl (pc0 := 243) (pc' := 253) rfl (hb hby at_243) rfl (flt (by decide : ¬ ((3 : Int32) < (2 : Int32)))).2.2.2 (by decide) (by decide) ?_
      show Steps p.tables e below (T124.setTop (mkF m 253 #[.val (.int p1), .val (.int p2), .val (.int p3), .val (.int p4), .val (.int p5), .val (.int p6), .val (.int (2 : Int32)), .val (.int s0), .val (.int s1), .val (.int s2), .val (.int s3), .val (.int u0), .val (.int u2), .val (.int u1), .val (.int u3), .val (.int w1), .val (.int w2), .val (.int (p2 &&& (3 : Int32))), .val (.int e1), .val (.int (((p1.toUInt32 >>> ((3 : Int32) &&& 31).toUInt32).toInt32) &&& (3 : Int32))), .val (.int q1), .val (.ref b113), .unset] [])) _
      refine XS.iload X124.here hx rfl (hb hby at_253) rfl ?_
      show Steps p.tables e below (T124.setTop (mkF m 255 #[.val (.int p1), .val (.int p2), .val (.int p3), .val (.int p4), .val (.int p5), .val (.int p6), .val (.int (2 : Int32)), .val (.int s0), .val (.int s1), .val (.int s2), .val (.int s3), .val (.int u0), .val (.int u2), .val (.int u1), .val (.int u3), .val (.int w1), .val (.int w2), .val (.int (p2 &&& (3 : Int32))), .val (.int e1), .val (.int (((p1.toUInt32 >>> ((3 : Int32) &&& 31).toUInt32).toInt32) &&& (3 : Int32))), .val (.int q1), .val (.ref b113), .unset] [(.int (2 : Int32))])) _
      refine XS.ifNo X124.here hx rfl (hb hby at_255) rfl ((if0 _ _).trans (tlt (by decide : (0 : Int32) < (2 : Int32))).2.2.2) ?_
      show Steps p.tables e below (T124.setTop (mkF m 258 #[.val (.int p1), .val (.int p2), .val (.int p3), .val (.int p4), .val (.int p5), .val (.int p6), .val (.int (2 : Int32)), .val (.int s0), .val (.int s1), .val (.int s2), .val (.int s3), .val (.int u0), .val (.int u2), .val (.int u1), .val (.int u3), .val (.int w1), .val (.int w2), .val (.int (p2 &&& (3 : Int32))), .val (.int e1), .val (.int (((p1.toUInt32 >>> ((3 : Int32) &&& 31).toUInt32).toInt32) &&& (3 : Int32))), .val (.int q1), .val (.ref b113), .unset] [])) _
      refine XS.iconst X124.here hx rfl (hb hby at_258) ?_
      show Steps p.tables e below (T124.setTop (mkF m 259 #[.val (.int p1), .val (.int p2), .val (.int p3), .val (.int p4), .val (.int p5), .val (.int p6), .val (.int (2 : Int32)), .val (.int s0), .val (.int s1), .val (.int s2), .val (.int s3), .val (.int u0), .val (.int u2), .val (.int u1), .val (.int u3), .val (.int w1), .val (.int w2), .val (.int (p2 &&& (3 : Int32))), .val (.int e1), .val (.int (((p1.toUInt32 >>> ((3 : Int32) &&& 31).toUInt32).toInt32) &&& (3 : Int32))), .val (.int q1), .val (.ref b113), .unset] [(.int (1 : Int32))])) _
      refine XS.goto X124.here hx rfl (pc0 := 259) (pc' := 263) rfl (hb hby at_259) (by decide) (by decide) ?_
      show Steps p.tables e below (T124.setTop (mkF m 263 #[.val (.int p1), .val (.int p2), .val (.int p3), .val (.int p4), .val (.int p5), .val (.int p6), .val (.int (2 : Int32)), .val (.int s0), .val (.int s1), .val (.int s2), .val (.int s3), .val (.int u0), .val (.int u2), .val (.int u1), .val (.int u3), .val (.int w1), .val (.int w2), .val (.int (p2 &&& (3 : Int32))), .val (.int e1), .val (.int (((p1.toUInt32 >>> ((3 : Int32) &&& 31).toUInt32).toInt32) &&& (3 : Int32))), .val (.int q1), .val (.ref b113), .unset] [(.int (1 : Int32))])) _
      refine XS.iload X124.here hx rfl (hb hby at_263) rfl ?_
      show Steps p.tables e below (T124.setTop (mkF m 265 #[.val (.int p1), .val (.int p2), .val (.int p3), .val (.int p4), .val (.int p5), .val (.int p6), .val (.int (2 : Int32)), .val (.int s0), .val (.int s1), .val (.int s2), .val (.int s3), .val (.int u0), .val (.int u2), .val (.int u1), .val (.int u3), .val (.int w1), .val (.int w2), .val (.int (p2 &&& (3 : Int32))), .val (.int e1), .val (.int (((p1.toUInt32 >>> ((3 : Int32) &&& 31).toUInt32).toInt32) &&& (3 : Int32))), .val (.int q1), .val (.ref b113), .unset] [(.int u0), (.int (1 : Int32))])) _
      refine XS.iload X124.here hx rfl (hb hby at_265) rfl ?_
      exact k)
    obtain ⟨_, _, ⟨T128, L128, k128, n128⟩, -, X128, ⟨Lc128, hQ128, l128, y128, z128⟩, st128⟩ := Jvm.LawKit.callS X124 hx (y := (⟨"com/example/halting_hound/haltinghound/IntListFirstAtLeastPinLaw", "below", "(ZII)I"⟩ : MethodName)) hown (mvT hZ (hw _ (List.mem_of_getElem? (i := 19) rfl))) (mvT hZ (hw _ (List.mem_of_getElem? (i := 20) rfl))) (mvT hZ (hw _ (List.mem_of_getElem? (i := 21) rfl))) (mvT hZ (hw _ (List.mem_of_getElem? (i := 22) rfl))) (by decide) (backOf (W := 0) (rm_bl l Z a0 hw [] (1 : Int32) u0 q1 h124 n0 (Nat.le_trans (Nat.le_trans (Nat.le_trans (Nat.le_trans Z0 E113.1) K116.1) K120.1) K124.1) ) hZ (hw _ (List.mem_of_getElem? (i := 22) rfl)) (hw _ (List.mem_of_getElem? (i := 21) rfl)) (by decide) (by decide)) (g := (mkF m 267 #[.val (.int p1), .val (.int p2), .val (.int p3), .val (.int p4), .val (.int p5), .val (.int p6), .val (.int (2 : Int32)), .val (.int s0), .val (.int s1), .val (.int s2), .val (.int s3), .val (.int u0), .val (.int u2), .val (.int u1), .val (.int u3), .val (.int w1), .val (.int w2), .val (.int (p2 &&& (3 : Int32))), .val (.int e1), .val (.int (((p1.toUInt32 >>> ((3 : Int32) &&& 31).toUInt32).toInt32) &&& (3 : Int32))), .val (.int q1), .val (.ref b113), .unset] [(.int q1), (.int u0), (.int (1 : Int32))])) rfl (by rw [hml]; rfl) (argsL := [(.int (1 : Int32)), (.int u0), (.int q1)]) (rest := []) (lenOf pd_3 rfl) rfl (by show 2 * 0 + _ ≤ _; exact Nat.le_of_eq rfl) (hb hby at_267) (fun _ _ => ⟨rfl, e124, (by decide : 2 + 0 ≤ _), (by decide : 4 + 0 ≤ _)⟩)
    dsimp only [Pt.U, Pt.locs, Pt.cells, Pt.slots] at X128 l128 y128 z128 st128 hQ128
    subst l128 y128 z128
    obtain ⟨rfl, N128q, e128⟩ := hQ128
    have N128 := Fr.app N124 N128q
    have go129 : ∀ t, Steps p.tables e below (T128.setTop (mkF m 270 #[.val (.int p1), .val (.int p2), .val (.int p3), .val (.int p4), .val (.int p5), .val (.int p6), .val (.int (2 : Int32)), .val (.int s0), .val (.int s1), .val (.int s2), .val (.int s3), .val (.int u0), .val (.int u2), .val (.int u1), .val (.int u3), .val (.int w1), .val (.int w2), .val (.int (p2 &&& (3 : Int32))), .val (.int e1), .val (.int (((p1.toUInt32 >>> ((3 : Int32) &&& 31).toUInt32).toInt32) &&& (3 : Int32))), .val (.int q1), .val (.ref b113), .unset] [(.int (own_below (1 : Int32) u0 q1))])) t → Steps p.tables e below (s₁.setTop (entryFrame m #[(.int p1), (.int p2), (.int p3), (.int p4), (.int p5), (.int p6)] maxLocals)) t := fun t k => go127 t (st128 t k)
    have go130 : ∀ t, Steps p.tables e below (T128.setTop (mkF m 285 #[.val (.int p1), .val (.int p2), .val (.int p3), .val (.int p4), .val (.int p5), .val (.int p6), .val (.int (2 : Int32)), .val (.int s0), .val (.int s1), .val (.int s2), .val (.int s3), .val (.int u0), .val (.int u2), .val (.int u1), .val (.int u3), .val (.int w1), .val (.int w2), .val (.int (p2 &&& (3 : Int32))), .val (.int e1), .val (.int (((p1.toUInt32 >>> ((3 : Int32) &&& 31).toUInt32).toInt32) &&& (3 : Int32))), .val (.int q1), .val (.ref b113), .unset] [(.int q1), (.int w1), (.int (1 : Int32)), (.int (own_below (1 : Int32) u0 q1))])) t → Steps p.tables e below (s₁.setTop (entryFrame m #[(.int p1), (.int p2), (.int p3), (.int p4), (.int p5), (.int p6)] maxLocals)) t := fun t k => go129 t (by
      show Steps p.tables e below (T128.setTop (mkF m 270 #[.val (.int p1), .val (.int p2), .val (.int p3), .val (.int p4), .val (.int p5), .val (.int p6), .val (.int (2 : Int32)), .val (.int s0), .val (.int s1), .val (.int s2), .val (.int s3), .val (.int u0), .val (.int u2), .val (.int u1), .val (.int u3), .val (.int w1), .val (.int w2), .val (.int (p2 &&& (3 : Int32))), .val (.int e1), .val (.int (((p1.toUInt32 >>> ((3 : Int32) &&& 31).toUInt32).toInt32) &&& (3 : Int32))), .val (.int q1), .val (.ref b113), .unset] [(.int (own_below (1 : Int32) u0 q1))])) _
      refine XS.iload X128.here hx rfl (hb hby at_270) rfl ?_
      show Steps p.tables e below (T128.setTop (mkF m 272 #[.val (.int p1), .val (.int p2), .val (.int p3), .val (.int p4), .val (.int p5), .val (.int p6), .val (.int (2 : Int32)), .val (.int s0), .val (.int s1), .val (.int s2), .val (.int s3), .val (.int u0), .val (.int u2), .val (.int u1), .val (.int u3), .val (.int w1), .val (.int w2), .val (.int (p2 &&& (3 : Int32))), .val (.int e1), .val (.int (((p1.toUInt32 >>> ((3 : Int32) &&& 31).toUInt32).toInt32) &&& (3 : Int32))), .val (.int q1), .val (.ref b113), .unset] [(.int (2 : Int32)), (.int (own_below (1 : Int32) u0 q1))])) _
      refine XS.iconst X128.here hx rfl (hb hby at_272) ?_
      show Steps p.tables e below (T128.setTop (mkF m 273 #[.val (.int p1), .val (.int p2), .val (.int p3), .val (.int p4), .val (.int p5), .val (.int p6), .val (.int (2 : Int32)), .val (.int s0), .val (.int s1), .val (.int s2), .val (.int s3), .val (.int u0), .val (.int u2), .val (.int u1), .val (.int u3), .val (.int w1), .val (.int w2), .val (.int (p2 &&& (3 : Int32))), .val (.int e1), .val (.int (((p1.toUInt32 >>> ((3 : Int32) &&& 31).toUInt32).toInt32) &&& (3 : Int32))), .val (.int q1), .val (.ref b113), .unset] [(.int (1 : Int32)), (.int (2 : Int32)), (.int (own_below (1 : Int32) u0 q1))])) _
      refine XS.icmpNo X128.here hx rfl (hb hby at_273) rfl (tlt (by decide : (1 : Int32) < (2 : Int32))).2.2.2 ?_
      show Steps p.tables e below (T128.setTop (mkF m 276 #[.val (.int p1), .val (.int p2), .val (.int p3), .val (.int p4), .val (.int p5), .val (.int p6), .val (.int (2 : Int32)), .val (.int s0), .val (.int s1), .val (.int s2), .val (.int s3), .val (.int u0), .val (.int u2), .val (.int u1), .val (.int u3), .val (.int w1), .val (.int w2), .val (.int (p2 &&& (3 : Int32))), .val (.int e1), .val (.int (((p1.toUInt32 >>> ((3 : Int32) &&& 31).toUInt32).toInt32) &&& (3 : Int32))), .val (.int q1), .val (.ref b113), .unset] [(.int (own_below (1 : Int32) u0 q1))])) _
      refine XS.iconst X128.here hx rfl (hb hby at_276) ?_
      show Steps p.tables e below (T128.setTop (mkF m 277 #[.val (.int p1), .val (.int p2), .val (.int p3), .val (.int p4), .val (.int p5), .val (.int p6), .val (.int (2 : Int32)), .val (.int s0), .val (.int s1), .val (.int s2), .val (.int s3), .val (.int u0), .val (.int u2), .val (.int u1), .val (.int u3), .val (.int w1), .val (.int w2), .val (.int (p2 &&& (3 : Int32))), .val (.int e1), .val (.int (((p1.toUInt32 >>> ((3 : Int32) &&& 31).toUInt32).toInt32) &&& (3 : Int32))), .val (.int q1), .val (.ref b113), .unset] [(.int (1 : Int32)), (.int (own_below (1 : Int32) u0 q1))])) _
      refine XS.goto X128.here hx rfl (pc0 := 277) (pc' := 281) rfl (hb hby at_277) (by decide) (by decide) ?_
      show Steps p.tables e below (T128.setTop (mkF m 281 #[.val (.int p1), .val (.int p2), .val (.int p3), .val (.int p4), .val (.int p5), .val (.int p6), .val (.int (2 : Int32)), .val (.int s0), .val (.int s1), .val (.int s2), .val (.int s3), .val (.int u0), .val (.int u2), .val (.int u1), .val (.int u3), .val (.int w1), .val (.int w2), .val (.int (p2 &&& (3 : Int32))), .val (.int e1), .val (.int (((p1.toUInt32 >>> ((3 : Int32) &&& 31).toUInt32).toInt32) &&& (3 : Int32))), .val (.int q1), .val (.ref b113), .unset] [(.int (1 : Int32)), (.int (own_below (1 : Int32) u0 q1))])) _
      refine XS.iload X128.here hx rfl (hb hby at_281) rfl ?_
      show Steps p.tables e below (T128.setTop (mkF m 283 #[.val (.int p1), .val (.int p2), .val (.int p3), .val (.int p4), .val (.int p5), .val (.int p6), .val (.int (2 : Int32)), .val (.int s0), .val (.int s1), .val (.int s2), .val (.int s3), .val (.int u0), .val (.int u2), .val (.int u1), .val (.int u3), .val (.int w1), .val (.int w2), .val (.int (p2 &&& (3 : Int32))), .val (.int e1), .val (.int (((p1.toUInt32 >>> ((3 : Int32) &&& 31).toUInt32).toInt32) &&& (3 : Int32))), .val (.int q1), .val (.ref b113), .unset] [(.int w1), (.int (1 : Int32)), (.int (own_below (1 : Int32) u0 q1))])) _
      refine XS.iload X128.here hx rfl (hb hby at_283) rfl ?_
      exact k)
    obtain ⟨_, _, ⟨T131, L131, k131, n131⟩, -, X131, ⟨Lc131, hQ131, l131, y131, z131⟩, st131⟩ := Jvm.LawKit.callS X128 hx (y := (⟨"com/example/halting_hound/haltinghound/IntListFirstAtLeastPinLaw", "below", "(ZII)I"⟩ : MethodName)) hown (mvT hZ (hw _ (List.mem_of_getElem? (i := 19) rfl))) (mvT hZ (hw _ (List.mem_of_getElem? (i := 20) rfl))) (mvT hZ (hw _ (List.mem_of_getElem? (i := 21) rfl))) (mvT hZ (hw _ (List.mem_of_getElem? (i := 22) rfl))) (by decide) (backOf (W := 1) (rm_bl l Z a0 hw [] (1 : Int32) w1 q1 h124 n0 (Nat.le_trans (Nat.le_trans (Nat.le_trans (Nat.le_trans Z0 E113.1) K116.1) K120.1) K124.1) ) hZ (hw _ (List.mem_of_getElem? (i := 22) rfl)) (hw _ (List.mem_of_getElem? (i := 21) rfl)) (by decide) (by decide)) (g := (mkF m 285 #[.val (.int p1), .val (.int p2), .val (.int p3), .val (.int p4), .val (.int p5), .val (.int p6), .val (.int (2 : Int32)), .val (.int s0), .val (.int s1), .val (.int s2), .val (.int s3), .val (.int u0), .val (.int u2), .val (.int u1), .val (.int u3), .val (.int w1), .val (.int w2), .val (.int (p2 &&& (3 : Int32))), .val (.int e1), .val (.int (((p1.toUInt32 >>> ((3 : Int32) &&& 31).toUInt32).toInt32) &&& (3 : Int32))), .val (.int q1), .val (.ref b113), .unset] [(.int q1), (.int w1), (.int (1 : Int32)), (.int (own_below (1 : Int32) u0 q1))])) rfl (by rw [hml]; rfl) (argsL := [(.int (1 : Int32)), (.int w1), (.int q1)]) (rest := [(.int (own_below (1 : Int32) u0 q1))]) (lenOf pd_3 rfl) rfl (by show 2 * 0 + _ ≤ _; exact Nat.le_of_eq rfl) (hb hby at_285) (fun _ _ => ⟨rfl, e128, (by decide : 2 + 0 ≤ _), (by decide : 4 + 0 ≤ _)⟩)
    dsimp only [Pt.U, Pt.locs, Pt.cells, Pt.slots] at X131 l131 y131 z131 st131 hQ131
    subst l131 y131 z131
    obtain ⟨rfl, N131q, e131⟩ := hQ131
    have N131 := Fr.app N128 N131q
    have go132 : ∀ t, Steps p.tables e below (T131.setTop (mkF m 288 #[.val (.int p1), .val (.int p2), .val (.int p3), .val (.int p4), .val (.int p5), .val (.int p6), .val (.int (2 : Int32)), .val (.int s0), .val (.int s1), .val (.int s2), .val (.int s3), .val (.int u0), .val (.int u2), .val (.int u1), .val (.int u3), .val (.int w1), .val (.int w2), .val (.int (p2 &&& (3 : Int32))), .val (.int e1), .val (.int (((p1.toUInt32 >>> ((3 : Int32) &&& 31).toUInt32).toInt32) &&& (3 : Int32))), .val (.int q1), .val (.ref b113), .unset] [(.int (own_below (1 : Int32) w1 q1)), (.int (own_below (1 : Int32) u0 q1))])) t → Steps p.tables e below (s₁.setTop (entryFrame m #[(.int p1), (.int p2), (.int p3), (.int p4), (.int p5), (.int p6)] maxLocals)) t := fun t k => go130 t (st131 t k)
    have go133 : ∀ t, Steps p.tables e below (T131.setTop (mkF m 304 #[.val (.int p1), .val (.int p2), .val (.int p3), .val (.int p4), .val (.int p5), .val (.int p6), .val (.int (2 : Int32)), .val (.int s0), .val (.int s1), .val (.int s2), .val (.int s3), .val (.int u0), .val (.int u2), .val (.int u1), .val (.int u3), .val (.int w1), .val (.int w2), .val (.int (p2 &&& (3 : Int32))), .val (.int e1), .val (.int (((p1.toUInt32 >>> ((3 : Int32) &&& 31).toUInt32).toInt32) &&& (3 : Int32))), .val (.int q1), .val (.ref b113), .unset] [(.int q1), (.int w2), (.int (0 : Int32)), (.int ((own_below (1 : Int32) u0 q1) + (own_below (1 : Int32) w1 q1)))])) t → Steps p.tables e below (s₁.setTop (entryFrame m #[(.int p1), (.int p2), (.int p3), (.int p4), (.int p5), (.int p6)] maxLocals)) t := fun t k => go132 t (by
      show Steps p.tables e below (T131.setTop (mkF m 288 #[.val (.int p1), .val (.int p2), .val (.int p3), .val (.int p4), .val (.int p5), .val (.int p6), .val (.int (2 : Int32)), .val (.int s0), .val (.int s1), .val (.int s2), .val (.int s3), .val (.int u0), .val (.int u2), .val (.int u1), .val (.int u3), .val (.int w1), .val (.int w2), .val (.int (p2 &&& (3 : Int32))), .val (.int e1), .val (.int (((p1.toUInt32 >>> ((3 : Int32) &&& 31).toUInt32).toInt32) &&& (3 : Int32))), .val (.int q1), .val (.ref b113), .unset] [(.int (own_below (1 : Int32) w1 q1)), (.int (own_below (1 : Int32) u0 q1))])) _
      refine XS.iadd X131.here hx rfl (hb hby at_288) rfl ?_
      show Steps p.tables e below (T131.setTop (mkF m 289 #[.val (.int p1), .val (.int p2), .val (.int p3), .val (.int p4), .val (.int p5), .val (.int p6), .val (.int (2 : Int32)), .val (.int s0), .val (.int s1), .val (.int s2), .val (.int s3), .val (.int u0), .val (.int u2), .val (.int u1), .val (.int u3), .val (.int w1), .val (.int w2), .val (.int (p2 &&& (3 : Int32))), .val (.int e1), .val (.int (((p1.toUInt32 >>> ((3 : Int32) &&& 31).toUInt32).toInt32) &&& (3 : Int32))), .val (.int q1), .val (.ref b113), .unset] [(.int ((own_below (1 : Int32) u0 q1) + (own_below (1 : Int32) w1 q1)))])) _
      refine XS.iload X131.here hx rfl (hb hby at_289) rfl ?_
      show Steps p.tables e below (T131.setTop (mkF m 291 #[.val (.int p1), .val (.int p2), .val (.int p3), .val (.int p4), .val (.int p5), .val (.int p6), .val (.int (2 : Int32)), .val (.int s0), .val (.int s1), .val (.int s2), .val (.int s3), .val (.int u0), .val (.int u2), .val (.int u1), .val (.int u3), .val (.int w1), .val (.int w2), .val (.int (p2 &&& (3 : Int32))), .val (.int e1), .val (.int (((p1.toUInt32 >>> ((3 : Int32) &&& 31).toUInt32).toInt32) &&& (3 : Int32))), .val (.int q1), .val (.ref b113), .unset] [(.int (2 : Int32)), (.int ((own_below (1 : Int32) u0 q1) + (own_below (1 : Int32) w1 q1)))])) _
      refine XS.iconst X131.here hx rfl (hb hby at_291) ?_
      show Steps p.tables e below (T131.setTop (mkF m 292 #[.val (.int p1), .val (.int p2), .val (.int p3), .val (.int p4), .val (.int p5), .val (.int p6), .val (.int (2 : Int32)), .val (.int s0), .val (.int s1), .val (.int s2), .val (.int s3), .val (.int u0), .val (.int u2), .val (.int u1), .val (.int u3), .val (.int w1), .val (.int w2), .val (.int (p2 &&& (3 : Int32))), .val (.int e1), .val (.int (((p1.toUInt32 >>> ((3 : Int32) &&& 31).toUInt32).toInt32) &&& (3 : Int32))), .val (.int q1), .val (.ref b113), .unset] [(.int (2 : Int32)), (.int (2 : Int32)), (.int ((own_below (1 : Int32) u0 q1) + (own_below (1 : Int32) w1 q1)))])) _
      refine XS.icmpYes X131.here hx rfl (pc0 := 292) (pc' := 299) rfl (hb hby at_292) rfl (flt (by decide : ¬ ((2 : Int32) < (2 : Int32)))).2.2.2 (by decide) (by decide) ?_
      show Steps p.tables e below (T131.setTop (mkF m 299 #[.val (.int p1), .val (.int p2), .val (.int p3), .val (.int p4), .val (.int p5), .val (.int p6), .val (.int (2 : Int32)), .val (.int s0), .val (.int s1), .val (.int s2), .val (.int s3), .val (.int u0), .val (.int u2), .val (.int u1), .val (.int u3), .val (.int w1), .val (.int w2), .val (.int (p2 &&& (3 : Int32))), .val (.int e1), .val (.int (((p1.toUInt32 >>> ((3 : Int32) &&& 31).toUInt32).toInt32) &&& (3 : Int32))), .val (.int q1), .val (.ref b113), .unset] [(.int ((own_below (1 : Int32) u0 q1) + (own_below (1 : Int32) w1 q1)))])) _
      refine XS.iconst X131.here hx rfl (hb hby at_299) ?_
      show Steps p.tables e below (T131.setTop (mkF m 300 #[.val (.int p1), .val (.int p2), .val (.int p3), .val (.int p4), .val (.int p5), .val (.int p6), .val (.int (2 : Int32)), .val (.int s0), .val (.int s1), .val (.int s2), .val (.int s3), .val (.int u0), .val (.int u2), .val (.int u1), .val (.int u3), .val (.int w1), .val (.int w2), .val (.int (p2 &&& (3 : Int32))), .val (.int e1), .val (.int (((p1.toUInt32 >>> ((3 : Int32) &&& 31).toUInt32).toInt32) &&& (3 : Int32))), .val (.int q1), .val (.ref b113), .unset] [(.int (0 : Int32)), (.int ((own_below (1 : Int32) u0 q1) + (own_below (1 : Int32) w1 q1)))])) _
      refine XS.iload X131.here hx rfl (hb hby at_300) rfl ?_
      show Steps p.tables e below (T131.setTop (mkF m 302 #[.val (.int p1), .val (.int p2), .val (.int p3), .val (.int p4), .val (.int p5), .val (.int p6), .val (.int (2 : Int32)), .val (.int s0), .val (.int s1), .val (.int s2), .val (.int s3), .val (.int u0), .val (.int u2), .val (.int u1), .val (.int u3), .val (.int w1), .val (.int w2), .val (.int (p2 &&& (3 : Int32))), .val (.int e1), .val (.int (((p1.toUInt32 >>> ((3 : Int32) &&& 31).toUInt32).toInt32) &&& (3 : Int32))), .val (.int q1), .val (.ref b113), .unset] [(.int w2), (.int (0 : Int32)), (.int ((own_below (1 : Int32) u0 q1) + (own_below (1 : Int32) w1 q1)))])) _
      refine XS.iload X131.here hx rfl (hb hby at_302) rfl ?_
      exact k)
    obtain ⟨_, _, ⟨T134, L134, k134, n134⟩, -, X134, ⟨Lc134, hQ134, l134, y134, z134⟩, st134⟩ := Jvm.LawKit.callS X131 hx (y := (⟨"com/example/halting_hound/haltinghound/IntListFirstAtLeastPinLaw", "below", "(ZII)I"⟩ : MethodName)) hown (mvT hZ (hw _ (List.mem_of_getElem? (i := 19) rfl))) (mvT hZ (hw _ (List.mem_of_getElem? (i := 20) rfl))) (mvT hZ (hw _ (List.mem_of_getElem? (i := 21) rfl))) (mvT hZ (hw _ (List.mem_of_getElem? (i := 22) rfl))) (by decide) (backOf (W := 1) (rm_bl l Z a0 hw [] (0 : Int32) w2 q1 h124 n0 (Nat.le_trans (Nat.le_trans (Nat.le_trans (Nat.le_trans Z0 E113.1) K116.1) K120.1) K124.1) ) hZ (hw _ (List.mem_of_getElem? (i := 22) rfl)) (hw _ (List.mem_of_getElem? (i := 21) rfl)) (by decide) (by decide)) (g := (mkF m 304 #[.val (.int p1), .val (.int p2), .val (.int p3), .val (.int p4), .val (.int p5), .val (.int p6), .val (.int (2 : Int32)), .val (.int s0), .val (.int s1), .val (.int s2), .val (.int s3), .val (.int u0), .val (.int u2), .val (.int u1), .val (.int u3), .val (.int w1), .val (.int w2), .val (.int (p2 &&& (3 : Int32))), .val (.int e1), .val (.int (((p1.toUInt32 >>> ((3 : Int32) &&& 31).toUInt32).toInt32) &&& (3 : Int32))), .val (.int q1), .val (.ref b113), .unset] [(.int q1), (.int w2), (.int (0 : Int32)), (.int ((own_below (1 : Int32) u0 q1) + (own_below (1 : Int32) w1 q1)))])) rfl (by rw [hml]; rfl) (argsL := [(.int (0 : Int32)), (.int w2), (.int q1)]) (rest := [(.int ((own_below (1 : Int32) u0 q1) + (own_below (1 : Int32) w1 q1)))]) (lenOf pd_3 rfl) rfl (by show 2 * 0 + _ ≤ _; exact Nat.le_of_eq rfl) (hb hby at_304) (fun _ _ => ⟨rfl, e131, (by decide : 2 + 0 ≤ _), (by decide : 4 + 0 ≤ _)⟩)
    dsimp only [Pt.U, Pt.locs, Pt.cells, Pt.slots] at X134 l134 y134 z134 st134 hQ134
    subst l134 y134 z134
    obtain ⟨rfl, N134q, e134⟩ := hQ134
    have N134 := Fr.app N131 N134q
    have go135 : ∀ t, Steps p.tables e below (T134.setTop (mkF m 307 #[.val (.int p1), .val (.int p2), .val (.int p3), .val (.int p4), .val (.int p5), .val (.int p6), .val (.int (2 : Int32)), .val (.int s0), .val (.int s1), .val (.int s2), .val (.int s3), .val (.int u0), .val (.int u2), .val (.int u1), .val (.int u3), .val (.int w1), .val (.int w2), .val (.int (p2 &&& (3 : Int32))), .val (.int e1), .val (.int (((p1.toUInt32 >>> ((3 : Int32) &&& 31).toUInt32).toInt32) &&& (3 : Int32))), .val (.int q1), .val (.ref b113), .unset] [(.int (own_below (0 : Int32) w2 q1)), (.int ((own_below (1 : Int32) u0 q1) + (own_below (1 : Int32) w1 q1)))])) t → Steps p.tables e below (s₁.setTop (entryFrame m #[(.int p1), (.int p2), (.int p3), (.int p4), (.int p5), (.int p6)] maxLocals)) t := fun t k => go133 t (st134 t k)
    have go136 : ∀ t, Steps p.tables e below (T134.setTop (mkF m 323 #[.val (.int p1), .val (.int p2), .val (.int p3), .val (.int p4), .val (.int p5), .val (.int p6), .val (.int (2 : Int32)), .val (.int s0), .val (.int s1), .val (.int s2), .val (.int s3), .val (.int u0), .val (.int u2), .val (.int u1), .val (.int u3), .val (.int w1), .val (.int w2), .val (.int (p2 &&& (3 : Int32))), .val (.int e1), .val (.int (((p1.toUInt32 >>> ((3 : Int32) &&& 31).toUInt32).toInt32) &&& (3 : Int32))), .val (.int q1), .val (.ref b113), .unset] [(.int q1), (.int u3), (.int (0 : Int32)), (.int (((own_below (1 : Int32) u0 q1) + (own_below (1 : Int32) w1 q1)) + (own_below (0 : Int32) w2 q1)))])) t → Steps p.tables e below (s₁.setTop (entryFrame m #[(.int p1), (.int p2), (.int p3), (.int p4), (.int p5), (.int p6)] maxLocals)) t := fun t k => go135 t (by
      show Steps p.tables e below (T134.setTop (mkF m 307 #[.val (.int p1), .val (.int p2), .val (.int p3), .val (.int p4), .val (.int p5), .val (.int p6), .val (.int (2 : Int32)), .val (.int s0), .val (.int s1), .val (.int s2), .val (.int s3), .val (.int u0), .val (.int u2), .val (.int u1), .val (.int u3), .val (.int w1), .val (.int w2), .val (.int (p2 &&& (3 : Int32))), .val (.int e1), .val (.int (((p1.toUInt32 >>> ((3 : Int32) &&& 31).toUInt32).toInt32) &&& (3 : Int32))), .val (.int q1), .val (.ref b113), .unset] [(.int (own_below (0 : Int32) w2 q1)), (.int ((own_below (1 : Int32) u0 q1) + (own_below (1 : Int32) w1 q1)))])) _
      refine XS.iadd X134.here hx rfl (hb hby at_307) rfl ?_
      show Steps p.tables e below (T134.setTop (mkF m 308 #[.val (.int p1), .val (.int p2), .val (.int p3), .val (.int p4), .val (.int p5), .val (.int p6), .val (.int (2 : Int32)), .val (.int s0), .val (.int s1), .val (.int s2), .val (.int s3), .val (.int u0), .val (.int u2), .val (.int u1), .val (.int u3), .val (.int w1), .val (.int w2), .val (.int (p2 &&& (3 : Int32))), .val (.int e1), .val (.int (((p1.toUInt32 >>> ((3 : Int32) &&& 31).toUInt32).toInt32) &&& (3 : Int32))), .val (.int q1), .val (.ref b113), .unset] [(.int (((own_below (1 : Int32) u0 q1) + (own_below (1 : Int32) w1 q1)) + (own_below (0 : Int32) w2 q1)))])) _
      refine XS.iload X134.here hx rfl (hb hby at_308) rfl ?_
      show Steps p.tables e below (T134.setTop (mkF m 310 #[.val (.int p1), .val (.int p2), .val (.int p3), .val (.int p4), .val (.int p5), .val (.int p6), .val (.int (2 : Int32)), .val (.int s0), .val (.int s1), .val (.int s2), .val (.int s3), .val (.int u0), .val (.int u2), .val (.int u1), .val (.int u3), .val (.int w1), .val (.int w2), .val (.int (p2 &&& (3 : Int32))), .val (.int e1), .val (.int (((p1.toUInt32 >>> ((3 : Int32) &&& 31).toUInt32).toInt32) &&& (3 : Int32))), .val (.int q1), .val (.ref b113), .unset] [(.int (2 : Int32)), (.int (((own_below (1 : Int32) u0 q1) + (own_below (1 : Int32) w1 q1)) + (own_below (0 : Int32) w2 q1)))])) _
      refine XS.iconst X134.here hx rfl (hb hby at_310) ?_
      show Steps p.tables e below (T134.setTop (mkF m 311 #[.val (.int p1), .val (.int p2), .val (.int p3), .val (.int p4), .val (.int p5), .val (.int p6), .val (.int (2 : Int32)), .val (.int s0), .val (.int s1), .val (.int s2), .val (.int s3), .val (.int u0), .val (.int u2), .val (.int u1), .val (.int u3), .val (.int w1), .val (.int w2), .val (.int (p2 &&& (3 : Int32))), .val (.int e1), .val (.int (((p1.toUInt32 >>> ((3 : Int32) &&& 31).toUInt32).toInt32) &&& (3 : Int32))), .val (.int q1), .val (.ref b113), .unset] [(.int (3 : Int32)), (.int (2 : Int32)), (.int (((own_below (1 : Int32) u0 q1) + (own_below (1 : Int32) w1 q1)) + (own_below (0 : Int32) w2 q1)))])) _
      refine XS.icmpYes X134.here hx rfl (pc0 := 311) (pc' := 318) rfl (hb hby at_311) rfl (flt (by decide : ¬ ((3 : Int32) < (2 : Int32)))).2.2.2 (by decide) (by decide) ?_
      show Steps p.tables e below (T134.setTop (mkF m 318 #[.val (.int p1), .val (.int p2), .val (.int p3), .val (.int p4), .val (.int p5), .val (.int p6), .val (.int (2 : Int32)), .val (.int s0), .val (.int s1), .val (.int s2), .val (.int s3), .val (.int u0), .val (.int u2), .val (.int u1), .val (.int u3), .val (.int w1), .val (.int w2), .val (.int (p2 &&& (3 : Int32))), .val (.int e1), .val (.int (((p1.toUInt32 >>> ((3 : Int32) &&& 31).toUInt32).toInt32) &&& (3 : Int32))), .val (.int q1), .val (.ref b113), .unset] [(.int (((own_below (1 : Int32) u0 q1) + (own_below (1 : Int32) w1 q1)) + (own_below (0 : Int32) w2 q1)))])) _
      refine XS.iconst X134.here hx rfl (hb hby at_318) ?_
      show Steps p.tables e below (T134.setTop (mkF m 319 #[.val (.int p1), .val (.int p2), .val (.int p3), .val (.int p4), .val (.int p5), .val (.int p6), .val (.int (2 : Int32)), .val (.int s0), .val (.int s1), .val (.int s2), .val (.int s3), .val (.int u0), .val (.int u2), .val (.int u1), .val (.int u3), .val (.int w1), .val (.int w2), .val (.int (p2 &&& (3 : Int32))), .val (.int e1), .val (.int (((p1.toUInt32 >>> ((3 : Int32) &&& 31).toUInt32).toInt32) &&& (3 : Int32))), .val (.int q1), .val (.ref b113), .unset] [(.int (0 : Int32)), (.int (((own_below (1 : Int32) u0 q1) + (own_below (1 : Int32) w1 q1)) + (own_below (0 : Int32) w2 q1)))])) _
      refine XS.iload X134.here hx rfl (hb hby at_319) rfl ?_
      show Steps p.tables e below (T134.setTop (mkF m 321 #[.val (.int p1), .val (.int p2), .val (.int p3), .val (.int p4), .val (.int p5), .val (.int p6), .val (.int (2 : Int32)), .val (.int s0), .val (.int s1), .val (.int s2), .val (.int s3), .val (.int u0), .val (.int u2), .val (.int u1), .val (.int u3), .val (.int w1), .val (.int w2), .val (.int (p2 &&& (3 : Int32))), .val (.int e1), .val (.int (((p1.toUInt32 >>> ((3 : Int32) &&& 31).toUInt32).toInt32) &&& (3 : Int32))), .val (.int q1), .val (.ref b113), .unset] [(.int u3), (.int (0 : Int32)), (.int (((own_below (1 : Int32) u0 q1) + (own_below (1 : Int32) w1 q1)) + (own_below (0 : Int32) w2 q1)))])) _
      refine XS.iload X134.here hx rfl (hb hby at_321) rfl ?_
      exact k)
    obtain ⟨_, _, ⟨T137, L137, k137, n137⟩, -, X137, ⟨Lc137, hQ137, l137, y137, z137⟩, st137⟩ := Jvm.LawKit.callS X134 hx (y := (⟨"com/example/halting_hound/haltinghound/IntListFirstAtLeastPinLaw", "below", "(ZII)I"⟩ : MethodName)) hown (mvT hZ (hw _ (List.mem_of_getElem? (i := 19) rfl))) (mvT hZ (hw _ (List.mem_of_getElem? (i := 20) rfl))) (mvT hZ (hw _ (List.mem_of_getElem? (i := 21) rfl))) (mvT hZ (hw _ (List.mem_of_getElem? (i := 22) rfl))) (by decide) (backOf (W := 1) (rm_bl l Z a0 hw [] (0 : Int32) u3 q1 h124 n0 (Nat.le_trans (Nat.le_trans (Nat.le_trans (Nat.le_trans Z0 E113.1) K116.1) K120.1) K124.1) ) hZ (hw _ (List.mem_of_getElem? (i := 22) rfl)) (hw _ (List.mem_of_getElem? (i := 21) rfl)) (by decide) (by decide)) (g := (mkF m 323 #[.val (.int p1), .val (.int p2), .val (.int p3), .val (.int p4), .val (.int p5), .val (.int p6), .val (.int (2 : Int32)), .val (.int s0), .val (.int s1), .val (.int s2), .val (.int s3), .val (.int u0), .val (.int u2), .val (.int u1), .val (.int u3), .val (.int w1), .val (.int w2), .val (.int (p2 &&& (3 : Int32))), .val (.int e1), .val (.int (((p1.toUInt32 >>> ((3 : Int32) &&& 31).toUInt32).toInt32) &&& (3 : Int32))), .val (.int q1), .val (.ref b113), .unset] [(.int q1), (.int u3), (.int (0 : Int32)), (.int (((own_below (1 : Int32) u0 q1) + (own_below (1 : Int32) w1 q1)) + (own_below (0 : Int32) w2 q1)))])) rfl (by rw [hml]; rfl) (argsL := [(.int (0 : Int32)), (.int u3), (.int q1)]) (rest := [(.int (((own_below (1 : Int32) u0 q1) + (own_below (1 : Int32) w1 q1)) + (own_below (0 : Int32) w2 q1)))]) (lenOf pd_3 rfl) rfl (by show 2 * 0 + _ ≤ _; exact Nat.le_of_eq rfl) (hb hby at_323) (fun _ _ => ⟨rfl, e134, (by decide : 2 + 0 ≤ _), (by decide : 4 + 0 ≤ _)⟩)
    dsimp only [Pt.U, Pt.locs, Pt.cells, Pt.slots] at X137 l137 y137 z137 st137 hQ137
    subst l137 y137 z137
    obtain ⟨rfl, N137q, e137⟩ := hQ137
    have N137 := Fr.app N134 N137q
    have go138 : ∀ t, Steps p.tables e below (T137.setTop (mkF m 326 #[.val (.int p1), .val (.int p2), .val (.int p3), .val (.int p4), .val (.int p5), .val (.int p6), .val (.int (2 : Int32)), .val (.int s0), .val (.int s1), .val (.int s2), .val (.int s3), .val (.int u0), .val (.int u2), .val (.int u1), .val (.int u3), .val (.int w1), .val (.int w2), .val (.int (p2 &&& (3 : Int32))), .val (.int e1), .val (.int (((p1.toUInt32 >>> ((3 : Int32) &&& 31).toUInt32).toInt32) &&& (3 : Int32))), .val (.int q1), .val (.ref b113), .unset] [(.int (own_below (0 : Int32) u3 q1)), (.int (((own_below (1 : Int32) u0 q1) + (own_below (1 : Int32) w1 q1)) + (own_below (0 : Int32) w2 q1)))])) t → Steps p.tables e below (s₁.setTop (entryFrame m #[(.int p1), (.int p2), (.int p3), (.int p4), (.int p5), (.int p6)] maxLocals)) t := fun t k => go136 t (st137 t k)
    have go139 : ∀ t, Steps p.tables e below (T137.setTop (mkF m 333 #[.val (.int p1), .val (.int p2), .val (.int p3), .val (.int p4), .val (.int p5), .val (.int p6), .val (.int (2 : Int32)), .val (.int s0), .val (.int s1), .val (.int s2), .val (.int s3), .val (.int u0), .val (.int u2), .val (.int u1), .val (.int u3), .val (.int w1), .val (.int w2), .val (.int (p2 &&& (3 : Int32))), .val (.int e1), .val (.int (((p1.toUInt32 >>> ((3 : Int32) &&& 31).toUInt32).toInt32) &&& (3 : Int32))), .val (.int q1), .val (.ref b113), .val (.int ((((own_below (1 : Int32) u0 q1) + (own_below (1 : Int32) w1 q1)) + (own_below (0 : Int32) w2 q1)) + (own_below (0 : Int32) u3 q1)))] [(.int q1), (.ref b113)])) t → Steps p.tables e below (s₁.setTop (entryFrame m #[(.int p1), (.int p2), (.int p3), (.int p4), (.int p5), (.int p6)] maxLocals)) t := fun t k => go138 t (by
      show Steps p.tables e below (T137.setTop (mkF m 326 #[.val (.int p1), .val (.int p2), .val (.int p3), .val (.int p4), .val (.int p5), .val (.int p6), .val (.int (2 : Int32)), .val (.int s0), .val (.int s1), .val (.int s2), .val (.int s3), .val (.int u0), .val (.int u2), .val (.int u1), .val (.int u3), .val (.int w1), .val (.int w2), .val (.int (p2 &&& (3 : Int32))), .val (.int e1), .val (.int (((p1.toUInt32 >>> ((3 : Int32) &&& 31).toUInt32).toInt32) &&& (3 : Int32))), .val (.int q1), .val (.ref b113), .unset] [(.int (own_below (0 : Int32) u3 q1)), (.int (((own_below (1 : Int32) u0 q1) + (own_below (1 : Int32) w1 q1)) + (own_below (0 : Int32) w2 q1)))])) _
      refine XS.iadd X137.here hx rfl (hb hby at_326) rfl ?_
      show Steps p.tables e below (T137.setTop (mkF m 327 #[.val (.int p1), .val (.int p2), .val (.int p3), .val (.int p4), .val (.int p5), .val (.int p6), .val (.int (2 : Int32)), .val (.int s0), .val (.int s1), .val (.int s2), .val (.int s3), .val (.int u0), .val (.int u2), .val (.int u1), .val (.int u3), .val (.int w1), .val (.int w2), .val (.int (p2 &&& (3 : Int32))), .val (.int e1), .val (.int (((p1.toUInt32 >>> ((3 : Int32) &&& 31).toUInt32).toInt32) &&& (3 : Int32))), .val (.int q1), .val (.ref b113), .unset] [(.int ((((own_below (1 : Int32) u0 q1) + (own_below (1 : Int32) w1 q1)) + (own_below (0 : Int32) w2 q1)) + (own_below (0 : Int32) u3 q1)))])) _
      refine XS.istore X137.here hx rfl (hb hby at_327) rfl (l' := #[.val (.int p1), .val (.int p2), .val (.int p3), .val (.int p4), .val (.int p5), .val (.int p6), .val (.int (2 : Int32)), .val (.int s0), .val (.int s1), .val (.int s2), .val (.int s3), .val (.int u0), .val (.int u2), .val (.int u1), .val (.int u3), .val (.int w1), .val (.int w2), .val (.int (p2 &&& (3 : Int32))), .val (.int e1), .val (.int (((p1.toUInt32 >>> ((3 : Int32) &&& 31).toUInt32).toInt32) &&& (3 : Int32))), .val (.int q1), .val (.ref b113), .val (.int ((((own_below (1 : Int32) u0 q1) + (own_below (1 : Int32) w1 q1)) + (own_below (0 : Int32) w2 q1)) + (own_below (0 : Int32) u3 q1)))]) rfl ?_
      show Steps p.tables e below (T137.setTop (mkF m 329 #[.val (.int p1), .val (.int p2), .val (.int p3), .val (.int p4), .val (.int p5), .val (.int p6), .val (.int (2 : Int32)), .val (.int s0), .val (.int s1), .val (.int s2), .val (.int s3), .val (.int u0), .val (.int u2), .val (.int u1), .val (.int u3), .val (.int w1), .val (.int w2), .val (.int (p2 &&& (3 : Int32))), .val (.int e1), .val (.int (((p1.toUInt32 >>> ((3 : Int32) &&& 31).toUInt32).toInt32) &&& (3 : Int32))), .val (.int q1), .val (.ref b113), .val (.int ((((own_below (1 : Int32) u0 q1) + (own_below (1 : Int32) w1 q1)) + (own_below (0 : Int32) w2 q1)) + (own_below (0 : Int32) u3 q1)))] [])) _
      refine XS.aload X137.here hx rfl (hb hby at_329) rfl rfl ?_
      show Steps p.tables e below (T137.setTop (mkF m 331 #[.val (.int p1), .val (.int p2), .val (.int p3), .val (.int p4), .val (.int p5), .val (.int p6), .val (.int (2 : Int32)), .val (.int s0), .val (.int s1), .val (.int s2), .val (.int s3), .val (.int u0), .val (.int u2), .val (.int u1), .val (.int u3), .val (.int w1), .val (.int w2), .val (.int (p2 &&& (3 : Int32))), .val (.int e1), .val (.int (((p1.toUInt32 >>> ((3 : Int32) &&& 31).toUInt32).toInt32) &&& (3 : Int32))), .val (.int q1), .val (.ref b113), .val (.int ((((own_below (1 : Int32) u0 q1) + (own_below (1 : Int32) w1 q1)) + (own_below (0 : Int32) w2 q1)) + (own_below (0 : Int32) u3 q1)))] [(.ref b113)])) _
      refine XS.iload X137.here hx rfl (hb hby at_331) rfl ?_
      exact k)
    obtain ⟨cq140, kq140, q140a, q140b, q140c⟩ := isOf hZ e137 f126
    obtain ⟨_, _, ⟨T140, L140, k140, n140⟩, -, X140, ⟨Lc140, hQ140, l140, y140, z140⟩, st140⟩ := X137.virtualBack hx (y := (⟨"com/example/halting_hound/haltinghound/IntList", "firstAtLeast", "(I)I"⟩ : MethodName)) (z := (⟨"com/example/halting_hound/haltinghound/IntList", "firstAtLeast", "(I)I"⟩ : MethodName)) hown (mvT hZ (hw _ (List.mem_of_getElem? (i := 23) rfl))) (mvT hZ (hw _ (List.mem_of_getElem? (i := 24) rfl))) (notFace_of_selects (args := #[]) (mvT hZ (hw _ (List.mem_of_getElem? (i := 26) rfl)))) (mvT hZ (hw _ (List.mem_of_getElem? (i := 26) rfl))) (mvT hZ (hw _ (List.mem_of_getElem? (i := 25) rfl))) (by decide) (backOf (W := 0) (rm_fal2 l Z a0 hw [] b113 q1 b116 k116 u0 w1 h124 n0 (Nat.le_trans (Nat.le_trans (Nat.le_trans (Nat.le_trans Z0 E113.1) K116.1) K120.1) K124.1) f126 F124v F124z V124) hZ (hw _ (List.mem_of_getElem? (i := 27) rfl)) (hw _ (List.mem_of_getElem? (i := 9) rfl)) (by decide) (by decide)) q140a q140c (g := (mkF m 333 #[.val (.int p1), .val (.int p2), .val (.int p3), .val (.int p4), .val (.int p5), .val (.int p6), .val (.int (2 : Int32)), .val (.int s0), .val (.int s1), .val (.int s2), .val (.int s3), .val (.int u0), .val (.int u2), .val (.int u1), .val (.int u3), .val (.int w1), .val (.int w2), .val (.int (p2 &&& (3 : Int32))), .val (.int e1), .val (.int (((p1.toUInt32 >>> ((3 : Int32) &&& 31).toUInt32).toInt32) &&& (3 : Int32))), .val (.int q1), .val (.ref b113), .val (.int ((((own_below (1 : Int32) u0 q1) + (own_below (1 : Int32) w1 q1)) + (own_below (0 : Int32) w2 q1)) + (own_below (0 : Int32) u3 q1)))] [(.int q1), (.ref b113)])) rfl (by rw [hml]; rfl) (Steps.refl _) (argsL := [(.int q1)]) (rest := []) (lenOf pd_4 rfl) rfl (by show 2 * 0 + _ ≤ _; exact Nat.le_of_eq rfl) (hb hby at_333) (fun _ _ => ⟨rfl, e137, (by decide : 2 + 0 ≤ _), (by decide : 4 + 0 ≤ _)⟩)
    dsimp only [Pt.U, Pt.locs, Pt.cells, Pt.slots] at X140 l140 y140 z140 st140 hQ140
    subst l140 y140 z140
    obtain ⟨rfl, N140q, e140⟩ := hQ140
    have N140 := Fr.app N137 N140q
    have go141 : ∀ t, Steps p.tables e below (T140.setTop (mkF m 336 #[.val (.int p1), .val (.int p2), .val (.int p3), .val (.int p4), .val (.int p5), .val (.int p6), .val (.int (2 : Int32)), .val (.int s0), .val (.int s1), .val (.int s2), .val (.int s3), .val (.int u0), .val (.int u2), .val (.int u1), .val (.int u3), .val (.int w1), .val (.int w2), .val (.int (p2 &&& (3 : Int32))), .val (.int e1), .val (.int (((p1.toUInt32 >>> ((3 : Int32) &&& 31).toUInt32).toInt32) &&& (3 : Int32))), .val (.int q1), .val (.ref b113), .val (.int ((((own_below (1 : Int32) u0 q1) + (own_below (1 : Int32) w1 q1)) + (own_below (0 : Int32) w2 q1)) + (own_below (0 : Int32) u3 q1)))] [(.int (own_fal2 q1 u0 w1))])) t → Steps p.tables e below (s₁.setTop (entryFrame m #[(.int p1), (.int p2), (.int p3), (.int p4), (.int p5), (.int p6)] maxLocals)) t := fun t k => go139 t (st140.trans k)
    have go142 : ∀ t, Steps p.tables e below (T140.setTop (mkF m 346 #[.val (.int p1), .val (.int p2), .val (.int p3), .val (.int p4), .val (.int p5), .val (.int p6), .val (.int (2 : Int32)), .val (.int s0), .val (.int s1), .val (.int s2), .val (.int s3), .val (.int u0), .val (.int u2), .val (.int u1), .val (.int u3), .val (.int w1), .val (.int w2), .val (.int (p2 &&& (3 : Int32))), .val (.int e1), .val (.int (((p1.toUInt32 >>> ((3 : Int32) &&& 31).toUInt32).toInt32) &&& (3 : Int32))), .val (.int q1), .val (.ref b113), .val (.int ((((own_below (1 : Int32) u0 q1) + (own_below (1 : Int32) w1 q1)) + (own_below (0 : Int32) w2 q1)) + (own_below (0 : Int32) u3 q1)))] [(.int (1 : Int32))])) t → Steps p.tables e below (s₁.setTop (entryFrame m #[(.int p1), (.int p2), (.int p3), (.int p4), (.int p5), (.int p6)] maxLocals)) t := fun t k => go141 t (by
      show Steps p.tables e below (T140.setTop (mkF m 336 #[.val (.int p1), .val (.int p2), .val (.int p3), .val (.int p4), .val (.int p5), .val (.int p6), .val (.int (2 : Int32)), .val (.int s0), .val (.int s1), .val (.int s2), .val (.int s3), .val (.int u0), .val (.int u2), .val (.int u1), .val (.int u3), .val (.int w1), .val (.int w2), .val (.int (p2 &&& (3 : Int32))), .val (.int e1), .val (.int (((p1.toUInt32 >>> ((3 : Int32) &&& 31).toUInt32).toInt32) &&& (3 : Int32))), .val (.int q1), .val (.ref b113), .val (.int ((((own_below (1 : Int32) u0 q1) + (own_below (1 : Int32) w1 q1)) + (own_below (0 : Int32) w2 q1)) + (own_below (0 : Int32) u3 q1)))] [(.int (own_fal2 q1 u0 w1))])) _
      refine XS.iload X140.here hx rfl (hb hby at_336) rfl ?_
      show Steps p.tables e below (T140.setTop (mkF m 338 #[.val (.int p1), .val (.int p2), .val (.int p3), .val (.int p4), .val (.int p5), .val (.int p6), .val (.int (2 : Int32)), .val (.int s0), .val (.int s1), .val (.int s2), .val (.int s3), .val (.int u0), .val (.int u2), .val (.int u1), .val (.int u3), .val (.int w1), .val (.int w2), .val (.int (p2 &&& (3 : Int32))), .val (.int e1), .val (.int (((p1.toUInt32 >>> ((3 : Int32) &&& 31).toUInt32).toInt32) &&& (3 : Int32))), .val (.int q1), .val (.ref b113), .val (.int ((((own_below (1 : Int32) u0 q1) + (own_below (1 : Int32) w1 q1)) + (own_below (0 : Int32) w2 q1)) + (own_below (0 : Int32) u3 q1)))] [(.int ((((own_below (1 : Int32) u0 q1) + (own_below (1 : Int32) w1 q1)) + (own_below (0 : Int32) w2 q1)) + (own_below (0 : Int32) u3 q1))), (.int (own_fal2 q1 u0 w1))])) _
      refine XS.icmpNo X140.here hx rfl (hb hby at_338) rfl (teq (own_law2 q1 u0 w1 w2 u3 hs1 hs2 hs3)).2 ?_
      show Steps p.tables e below (T140.setTop (mkF m 341 #[.val (.int p1), .val (.int p2), .val (.int p3), .val (.int p4), .val (.int p5), .val (.int p6), .val (.int (2 : Int32)), .val (.int s0), .val (.int s1), .val (.int s2), .val (.int s3), .val (.int u0), .val (.int u2), .val (.int u1), .val (.int u3), .val (.int w1), .val (.int w2), .val (.int (p2 &&& (3 : Int32))), .val (.int e1), .val (.int (((p1.toUInt32 >>> ((3 : Int32) &&& 31).toUInt32).toInt32) &&& (3 : Int32))), .val (.int q1), .val (.ref b113), .val (.int ((((own_below (1 : Int32) u0 q1) + (own_below (1 : Int32) w1 q1)) + (own_below (0 : Int32) w2 q1)) + (own_below (0 : Int32) u3 q1)))] [])) _
      refine XS.iconst X140.here hx rfl (hb hby at_341) ?_
      show Steps p.tables e below (T140.setTop (mkF m 342 #[.val (.int p1), .val (.int p2), .val (.int p3), .val (.int p4), .val (.int p5), .val (.int p6), .val (.int (2 : Int32)), .val (.int s0), .val (.int s1), .val (.int s2), .val (.int s3), .val (.int u0), .val (.int u2), .val (.int u1), .val (.int u3), .val (.int w1), .val (.int w2), .val (.int (p2 &&& (3 : Int32))), .val (.int e1), .val (.int (((p1.toUInt32 >>> ((3 : Int32) &&& 31).toUInt32).toInt32) &&& (3 : Int32))), .val (.int q1), .val (.ref b113), .val (.int ((((own_below (1 : Int32) u0 q1) + (own_below (1 : Int32) w1 q1)) + (own_below (0 : Int32) w2 q1)) + (own_below (0 : Int32) u3 q1)))] [(.int (1 : Int32))])) _
      refine XS.goto X140.here hx rfl (pc0 := 342) (pc' := 346) rfl (hb hby at_342) (by decide) (by decide) ?_
      exact k)
    obtain ⟨fs, hr, hrun, hended, hW, hsame⟩ := X140.leave (v := some (.int (1 : Int32))) (fun h => by rw [Bd.returns] at h; cases h)
    refine ⟨_, _, go142 _ ?_, hrun, hended, _, _, rfl, ?_, ⟨_, rfl⟩, hW, hsame.mono (by decide) (by decide)⟩
    · exact retN X140 hx (t := .boolean) Bd.returns (by simp) (hb hby at_346) hr
    · show QL n0 _ T140.heap _
      rw [e140]
      exact ⟨rfl, N140⟩
  · rw [hn] at go64
    obtain ⟨T143, h143, X143, e143, E143, A143, D143, -, st143⟩ := newO X38 hx hZ hown (hw _ (List.mem_of_getElem? (i := 7) rfl)) (hw _ (List.mem_of_getElem? (i := 8) rfl)) (hw _ (List.mem_of_getElem? (i := 9) rfl)) e38 (g := (mkF m 193 #[.val (.int p1), .val (.int p2), .val (.int p3), .val (.int p4), .val (.int p5), .val (.int p6), .val (.int (3 : Int32)), .val (.int s0), .val (.int s1), .val (.int s2), .val (.int s3), .val (.int u0), .val (.int u2), .val (.int u1), .val (.int u3), .val (.int w1), .val (.int w2), .val (.int (p2 &&& (3 : Int32))), .val (.int e1), .val (.int (((p1.toUInt32 >>> ((3 : Int32) &&& 31).toUInt32).toInt32) &&& (3 : Int32))), .val (.int q1), .unset, .unset] [])) rfl (hb hby at_193) (by decide) (by decide)
    obtain ⟨b143, g143⟩ : ∃ z, z = h0.size := ⟨_, rfl⟩
    rw [← g143] at A143 D143 st143
    have g_b143 : n0 ≤ b143 := Nat.le_trans Z0 (Nat.le_of_eq g143.symm)
    have F143_values : Fld Z h143 b143 "com/example/halting_hound/haltinghound/IntList" "values" "[I" .null := D143 (Or.inl (hw _ (List.mem_of_getElem? (i := 18) rfl))) (ty := (.array .int)) (by decide)
    have F143_size : Fld Z h143 b143 "com/example/halting_hound/haltinghound/IntList" "size" "I" (.int (0 : Int32)) := D143 (Or.inl (hw _ (List.mem_of_getElem? (i := 29) rfl))) (ty := .int) (by decide)
    have go144 : ∀ t, Steps p.tables e below (T143.setTop (mkF m 196 #[.val (.int p1), .val (.int p2), .val (.int p3), .val (.int p4), .val (.int p5), .val (.int p6), .val (.int (3 : Int32)), .val (.int s0), .val (.int s1), .val (.int s2), .val (.int s3), .val (.int u0), .val (.int u2), .val (.int u1), .val (.int u3), .val (.int w1), .val (.int w2), .val (.int (p2 &&& (3 : Int32))), .val (.int e1), .val (.int (((p1.toUInt32 >>> ((3 : Int32) &&& 31).toUInt32).toInt32) &&& (3 : Int32))), .val (.int q1), .unset, .unset] [(.ref b143)])) t → Steps p.tables e below (s₁.setTop (entryFrame m #[(.int p1), (.int p2), (.int p3), (.int p4), (.int p5), (.int p6)] maxLocals)) t := fun t k => go64 t (st143 t k)
    have go145 : ∀ t, Steps p.tables e below (T143.setTop (mkF m 197 #[.val (.int p1), .val (.int p2), .val (.int p3), .val (.int p4), .val (.int p5), .val (.int p6), .val (.int (3 : Int32)), .val (.int s0), .val (.int s1), .val (.int s2), .val (.int s3), .val (.int u0), .val (.int u2), .val (.int u1), .val (.int u3), .val (.int w1), .val (.int w2), .val (.int (p2 &&& (3 : Int32))), .val (.int e1), .val (.int (((p1.toUInt32 >>> ((3 : Int32) &&& 31).toUInt32).toInt32) &&& (3 : Int32))), .val (.int q1), .unset, .unset] [(.ref b143), (.ref b143)])) t → Steps p.tables e below (s₁.setTop (entryFrame m #[(.int p1), (.int p2), (.int p3), (.int p4), (.int p5), (.int p6)] maxLocals)) t := fun t k => go144 t (by
      show Steps p.tables e below (T143.setTop (mkF m 196 #[.val (.int p1), .val (.int p2), .val (.int p3), .val (.int p4), .val (.int p5), .val (.int p6), .val (.int (3 : Int32)), .val (.int s0), .val (.int s1), .val (.int s2), .val (.int s3), .val (.int u0), .val (.int u2), .val (.int u1), .val (.int u3), .val (.int w1), .val (.int w2), .val (.int (p2 &&& (3 : Int32))), .val (.int e1), .val (.int (((p1.toUInt32 >>> ((3 : Int32) &&& 31).toUInt32).toInt32) &&& (3 : Int32))), .val (.int q1), .unset, .unset] [(.ref b143)])) _
      refine XS.dup X143.here hx rfl (hb hby at_196) rfl rfl ?_
      exact k)
    obtain ⟨_, _, ⟨T146, L146, k146, n146⟩, -, X146, ⟨Lc146, hQ146, l146, y146, z146⟩, st146⟩ := X143.specialBack hx (y := (⟨"com/example/halting_hound/haltinghound/IntList", "<init>", "()V"⟩ : MethodName)) rfl hown (mvT hZ (hw _ (List.mem_of_getElem? (i := 10) rfl))) (mvT hZ (hw _ (List.mem_of_getElem? (i := 11) rfl))) (mvT hZ (hw _ (List.mem_of_getElem? (i := 12) rfl))) (by decide) (backOf (W := 1) (rm_ini l Z a0 hw [] b143 _ h143 n0 (Nat.le_trans Z0 E143.1) A143 F143_values F143_size g_b143) hZ (hw _ (List.mem_of_getElem? (i := 12) rfl)) (hw _ (List.mem_of_getElem? (i := 9) rfl)) (by decide) (by decide)) (g := (mkF m 197 #[.val (.int p1), .val (.int p2), .val (.int p3), .val (.int p4), .val (.int p5), .val (.int p6), .val (.int (3 : Int32)), .val (.int s0), .val (.int s1), .val (.int s2), .val (.int s3), .val (.int u0), .val (.int u2), .val (.int u1), .val (.int u3), .val (.int w1), .val (.int w2), .val (.int (p2 &&& (3 : Int32))), .val (.int e1), .val (.int (((p1.toUInt32 >>> ((3 : Int32) &&& 31).toUInt32).toInt32) &&& (3 : Int32))), .val (.int q1), .unset, .unset] [(.ref b143), (.ref b143)])) rfl (by rw [hml]; rfl) (Steps.refl _) (a := b143) (argsL := []) (rest := [(.ref b143)]) (lenOf pd_2 rfl) rfl (by show 2 * 0 + _ ≤ _; exact Nat.le_of_eq rfl) (hb hby at_197) (fun _ _ => ⟨rfl, e143, (by decide : 1 + 1 ≤ _), (by decide : 2 + 2 ≤ _)⟩)
    dsimp only [Pt.U, Pt.locs, Pt.cells, Pt.slots] at X146 l146 y146 z146 st146 hQ146
    subst l146 y146 z146
    obtain ⟨h146, e146⟩ : ∃ z, T146.heap = z := ⟨_, rfl⟩
    rw [e146] at hQ146
    obtain ⟨rfl, N146q, K146, F146z, b146, k146, g146, ne146, F146v, V146⟩ := hQ146
    have N146 := Fr.app N38 N146q
    have go147 : ∀ t, Steps p.tables e below (T146.setTop (mkF m 200 #[.val (.int p1), .val (.int p2), .val (.int p3), .val (.int p4), .val (.int p5), .val (.int p6), .val (.int (3 : Int32)), .val (.int s0), .val (.int s1), .val (.int s2), .val (.int s3), .val (.int u0), .val (.int u2), .val (.int u1), .val (.int u3), .val (.int w1), .val (.int w2), .val (.int (p2 &&& (3 : Int32))), .val (.int e1), .val (.int (((p1.toUInt32 >>> ((3 : Int32) &&& 31).toUInt32).toInt32) &&& (3 : Int32))), .val (.int q1), .unset, .unset] [(.ref b143)])) t → Steps p.tables e below (s₁.setTop (entryFrame m #[(.int p1), (.int p2), (.int p3), (.int p4), (.int p5), (.int p6)] maxLocals)) t := fun t k => go145 t (st146.trans k)
    have f148 := A143.keep K146
    have go149 : ∀ t, Steps p.tables e below (T146.setTop (mkF m 211 #[.val (.int p1), .val (.int p2), .val (.int p3), .val (.int p4), .val (.int p5), .val (.int p6), .val (.int (3 : Int32)), .val (.int s0), .val (.int s1), .val (.int s2), .val (.int s3), .val (.int u0), .val (.int u2), .val (.int u1), .val (.int u3), .val (.int w1), .val (.int w2), .val (.int (p2 &&& (3 : Int32))), .val (.int e1), .val (.int (((p1.toUInt32 >>> ((3 : Int32) &&& 31).toUInt32).toInt32) &&& (3 : Int32))), .val (.int q1), .val (.ref b143), .unset] [(.int u0), (.ref b143)])) t → Steps p.tables e below (s₁.setTop (entryFrame m #[(.int p1), (.int p2), (.int p3), (.int p4), (.int p5), (.int p6)] maxLocals)) t := fun t k => go147 t (by
      show Steps p.tables e below (T146.setTop (mkF m 200 #[.val (.int p1), .val (.int p2), .val (.int p3), .val (.int p4), .val (.int p5), .val (.int p6), .val (.int (3 : Int32)), .val (.int s0), .val (.int s1), .val (.int s2), .val (.int s3), .val (.int u0), .val (.int u2), .val (.int u1), .val (.int u3), .val (.int w1), .val (.int w2), .val (.int (p2 &&& (3 : Int32))), .val (.int e1), .val (.int (((p1.toUInt32 >>> ((3 : Int32) &&& 31).toUInt32).toInt32) &&& (3 : Int32))), .val (.int q1), .unset, .unset] [(.ref b143)])) _
      refine XS.astore X146.here hx rfl (hb hby at_200) rfl rfl (l' := #[.val (.int p1), .val (.int p2), .val (.int p3), .val (.int p4), .val (.int p5), .val (.int p6), .val (.int (3 : Int32)), .val (.int s0), .val (.int s1), .val (.int s2), .val (.int s3), .val (.int u0), .val (.int u2), .val (.int u1), .val (.int u3), .val (.int w1), .val (.int w2), .val (.int (p2 &&& (3 : Int32))), .val (.int e1), .val (.int (((p1.toUInt32 >>> ((3 : Int32) &&& 31).toUInt32).toInt32) &&& (3 : Int32))), .val (.int q1), .val (.ref b143), .unset]) rfl ?_
      show Steps p.tables e below (T146.setTop (mkF m 202 #[.val (.int p1), .val (.int p2), .val (.int p3), .val (.int p4), .val (.int p5), .val (.int p6), .val (.int (3 : Int32)), .val (.int s0), .val (.int s1), .val (.int s2), .val (.int s3), .val (.int u0), .val (.int u2), .val (.int u1), .val (.int u3), .val (.int w1), .val (.int w2), .val (.int (p2 &&& (3 : Int32))), .val (.int e1), .val (.int (((p1.toUInt32 >>> ((3 : Int32) &&& 31).toUInt32).toInt32) &&& (3 : Int32))), .val (.int q1), .val (.ref b143), .unset] [])) _
      refine XS.iload X146.here hx rfl (hb hby at_202) rfl ?_
      show Steps p.tables e below (T146.setTop (mkF m 204 #[.val (.int p1), .val (.int p2), .val (.int p3), .val (.int p4), .val (.int p5), .val (.int p6), .val (.int (3 : Int32)), .val (.int s0), .val (.int s1), .val (.int s2), .val (.int s3), .val (.int u0), .val (.int u2), .val (.int u1), .val (.int u3), .val (.int w1), .val (.int w2), .val (.int (p2 &&& (3 : Int32))), .val (.int e1), .val (.int (((p1.toUInt32 >>> ((3 : Int32) &&& 31).toUInt32).toInt32) &&& (3 : Int32))), .val (.int q1), .val (.ref b143), .unset] [(.int (3 : Int32))])) _
      refine XS.ifNo X146.here hx rfl (hb hby at_204) rfl ((if0 _ _).trans (tlt (by decide : (0 : Int32) < (3 : Int32))).2.2.2) ?_
      show Steps p.tables e below (T146.setTop (mkF m 207 #[.val (.int p1), .val (.int p2), .val (.int p3), .val (.int p4), .val (.int p5), .val (.int p6), .val (.int (3 : Int32)), .val (.int s0), .val (.int s1), .val (.int s2), .val (.int s3), .val (.int u0), .val (.int u2), .val (.int u1), .val (.int u3), .val (.int w1), .val (.int w2), .val (.int (p2 &&& (3 : Int32))), .val (.int e1), .val (.int (((p1.toUInt32 >>> ((3 : Int32) &&& 31).toUInt32).toInt32) &&& (3 : Int32))), .val (.int q1), .val (.ref b143), .unset] [])) _
      refine XS.aload X146.here hx rfl (hb hby at_207) rfl rfl ?_
      show Steps p.tables e below (T146.setTop (mkF m 209 #[.val (.int p1), .val (.int p2), .val (.int p3), .val (.int p4), .val (.int p5), .val (.int p6), .val (.int (3 : Int32)), .val (.int s0), .val (.int s1), .val (.int s2), .val (.int s3), .val (.int u0), .val (.int u2), .val (.int u1), .val (.int u3), .val (.int w1), .val (.int w2), .val (.int (p2 &&& (3 : Int32))), .val (.int e1), .val (.int (((p1.toUInt32 >>> ((3 : Int32) &&& 31).toUInt32).toInt32) &&& (3 : Int32))), .val (.int q1), .val (.ref b143), .unset] [(.ref b143)])) _
      refine XS.iload X146.here hx rfl (hb hby at_209) rfl ?_
      exact k)
    obtain ⟨cq150, kq150, q150a, q150b, q150c⟩ := isOf hZ e146 f148
    obtain ⟨_, _, ⟨T150, L150, k150, n150⟩, -, X150, ⟨Lc150, hQ150, l150, y150, z150⟩, st150⟩ := X146.virtualBack hx (y := (⟨"com/example/halting_hound/haltinghound/IntList", "add", "(I)V"⟩ : MethodName)) (z := (⟨"com/example/halting_hound/haltinghound/IntList", "add", "(I)V"⟩ : MethodName)) hown (mvT hZ (hw _ (List.mem_of_getElem? (i := 30) rfl))) (mvT hZ (hw _ (List.mem_of_getElem? (i := 31) rfl))) (notFace_of_selects (args := #[]) (mvT hZ (hw _ (List.mem_of_getElem? (i := 33) rfl)))) (mvT hZ (hw _ (List.mem_of_getElem? (i := 33) rfl))) (mvT hZ (hw _ (List.mem_of_getElem? (i := 32) rfl))) (by decide) (backOf (W := 0) (rm_add0 l Z a0 hw [] b143 u0 b146 k146  h146 n0 (Nat.le_trans (Nat.le_trans Z0 E143.1) K146.1) f148 F146v F146z V146 g_b143 g146 ne146) hZ (hw _ (List.mem_of_getElem? (i := 34) rfl)) (hw _ (List.mem_of_getElem? (i := 9) rfl)) (by decide) (by decide)) q150a q150c (g := (mkF m 211 #[.val (.int p1), .val (.int p2), .val (.int p3), .val (.int p4), .val (.int p5), .val (.int p6), .val (.int (3 : Int32)), .val (.int s0), .val (.int s1), .val (.int s2), .val (.int s3), .val (.int u0), .val (.int u2), .val (.int u1), .val (.int u3), .val (.int w1), .val (.int w2), .val (.int (p2 &&& (3 : Int32))), .val (.int e1), .val (.int (((p1.toUInt32 >>> ((3 : Int32) &&& 31).toUInt32).toInt32) &&& (3 : Int32))), .val (.int q1), .val (.ref b143), .unset] [(.int u0), (.ref b143)])) rfl (by rw [hml]; rfl) (Steps.refl _) (argsL := [(.int u0)]) (rest := []) (lenOf pd_5 rfl) rfl (by show 2 * 0 + _ ≤ _; exact Nat.le_of_eq rfl) (hb hby at_211) (fun _ _ => ⟨rfl, e146, (by decide : 2 + 0 ≤ _), (by decide : 4 + 0 ≤ _)⟩)
    dsimp only [Pt.U, Pt.locs, Pt.cells, Pt.slots] at X150 l150 y150 z150 st150 hQ150
    subst l150 y150 z150
    obtain ⟨h150, e150⟩ : ∃ z, T150.heap = z := ⟨_, rfl⟩
    rw [e150] at hQ150
    obtain ⟨rfl, N150q, K150, F150z, F150v, V150⟩ := hQ150
    have N150 := Fr.app N146 N150q
    have go151 : ∀ t, Steps p.tables e below (T150.setTop (mkF m 214 #[.val (.int p1), .val (.int p2), .val (.int p3), .val (.int p4), .val (.int p5), .val (.int p6), .val (.int (3 : Int32)), .val (.int s0), .val (.int s1), .val (.int s2), .val (.int s3), .val (.int u0), .val (.int u2), .val (.int u1), .val (.int u3), .val (.int w1), .val (.int w2), .val (.int (p2 &&& (3 : Int32))), .val (.int e1), .val (.int (((p1.toUInt32 >>> ((3 : Int32) &&& 31).toUInt32).toInt32) &&& (3 : Int32))), .val (.int q1), .val (.ref b143), .unset] [])) t → Steps p.tables e below (s₁.setTop (entryFrame m #[(.int p1), (.int p2), (.int p3), (.int p4), (.int p5), (.int p6)] maxLocals)) t := fun t k => go149 t (st150.trans k)
    have f152 := f148.keep K150
    have go153 : ∀ t, Steps p.tables e below (T150.setTop (mkF m 224 #[.val (.int p1), .val (.int p2), .val (.int p3), .val (.int p4), .val (.int p5), .val (.int p6), .val (.int (3 : Int32)), .val (.int s0), .val (.int s1), .val (.int s2), .val (.int s3), .val (.int u0), .val (.int u2), .val (.int u1), .val (.int u3), .val (.int w1), .val (.int w2), .val (.int (p2 &&& (3 : Int32))), .val (.int e1), .val (.int (((p1.toUInt32 >>> ((3 : Int32) &&& 31).toUInt32).toInt32) &&& (3 : Int32))), .val (.int q1), .val (.ref b143), .unset] [(.int w1), (.ref b143)])) t → Steps p.tables e below (s₁.setTop (entryFrame m #[(.int p1), (.int p2), (.int p3), (.int p4), (.int p5), (.int p6)] maxLocals)) t := fun t k => go151 t (by
      show Steps p.tables e below (T150.setTop (mkF m 214 #[.val (.int p1), .val (.int p2), .val (.int p3), .val (.int p4), .val (.int p5), .val (.int p6), .val (.int (3 : Int32)), .val (.int s0), .val (.int s1), .val (.int s2), .val (.int s3), .val (.int u0), .val (.int u2), .val (.int u1), .val (.int u3), .val (.int w1), .val (.int w2), .val (.int (p2 &&& (3 : Int32))), .val (.int e1), .val (.int (((p1.toUInt32 >>> ((3 : Int32) &&& 31).toUInt32).toInt32) &&& (3 : Int32))), .val (.int q1), .val (.ref b143), .unset] [])) _
      refine XS.iload X150.here hx rfl (hb hby at_214) rfl ?_
      show Steps p.tables e below (T150.setTop (mkF m 216 #[.val (.int p1), .val (.int p2), .val (.int p3), .val (.int p4), .val (.int p5), .val (.int p6), .val (.int (3 : Int32)), .val (.int s0), .val (.int s1), .val (.int s2), .val (.int s3), .val (.int u0), .val (.int u2), .val (.int u1), .val (.int u3), .val (.int w1), .val (.int w2), .val (.int (p2 &&& (3 : Int32))), .val (.int e1), .val (.int (((p1.toUInt32 >>> ((3 : Int32) &&& 31).toUInt32).toInt32) &&& (3 : Int32))), .val (.int q1), .val (.ref b143), .unset] [(.int (3 : Int32))])) _
      refine XS.iconst X150.here hx rfl (hb hby at_216) ?_
      show Steps p.tables e below (T150.setTop (mkF m 217 #[.val (.int p1), .val (.int p2), .val (.int p3), .val (.int p4), .val (.int p5), .val (.int p6), .val (.int (3 : Int32)), .val (.int s0), .val (.int s1), .val (.int s2), .val (.int s3), .val (.int u0), .val (.int u2), .val (.int u1), .val (.int u3), .val (.int w1), .val (.int w2), .val (.int (p2 &&& (3 : Int32))), .val (.int e1), .val (.int (((p1.toUInt32 >>> ((3 : Int32) &&& 31).toUInt32).toInt32) &&& (3 : Int32))), .val (.int q1), .val (.ref b143), .unset] [(.int (1 : Int32)), (.int (3 : Int32))])) _
      refine XS.icmpNo X150.here hx rfl (hb hby at_217) rfl (tlt (by decide : (1 : Int32) < (3 : Int32))).2.2.2 ?_
      show Steps p.tables e below (T150.setTop (mkF m 220 #[.val (.int p1), .val (.int p2), .val (.int p3), .val (.int p4), .val (.int p5), .val (.int p6), .val (.int (3 : Int32)), .val (.int s0), .val (.int s1), .val (.int s2), .val (.int s3), .val (.int u0), .val (.int u2), .val (.int u1), .val (.int u3), .val (.int w1), .val (.int w2), .val (.int (p2 &&& (3 : Int32))), .val (.int e1), .val (.int (((p1.toUInt32 >>> ((3 : Int32) &&& 31).toUInt32).toInt32) &&& (3 : Int32))), .val (.int q1), .val (.ref b143), .unset] [])) _
      refine XS.aload X150.here hx rfl (hb hby at_220) rfl rfl ?_
      show Steps p.tables e below (T150.setTop (mkF m 222 #[.val (.int p1), .val (.int p2), .val (.int p3), .val (.int p4), .val (.int p5), .val (.int p6), .val (.int (3 : Int32)), .val (.int s0), .val (.int s1), .val (.int s2), .val (.int s3), .val (.int u0), .val (.int u2), .val (.int u1), .val (.int u3), .val (.int w1), .val (.int w2), .val (.int (p2 &&& (3 : Int32))), .val (.int e1), .val (.int (((p1.toUInt32 >>> ((3 : Int32) &&& 31).toUInt32).toInt32) &&& (3 : Int32))), .val (.int q1), .val (.ref b143), .unset] [(.ref b143)])) _
      refine XS.iload X150.here hx rfl (hb hby at_222) rfl ?_
      exact k)
    obtain ⟨cq154, kq154, q154a, q154b, q154c⟩ := isOf hZ e150 f152
    obtain ⟨_, _, ⟨T154, L154, k154, n154⟩, -, X154, ⟨Lc154, hQ154, l154, y154, z154⟩, st154⟩ := X150.virtualBack hx (y := (⟨"com/example/halting_hound/haltinghound/IntList", "add", "(I)V"⟩ : MethodName)) (z := (⟨"com/example/halting_hound/haltinghound/IntList", "add", "(I)V"⟩ : MethodName)) hown (mvT hZ (hw _ (List.mem_of_getElem? (i := 30) rfl))) (mvT hZ (hw _ (List.mem_of_getElem? (i := 31) rfl))) (notFace_of_selects (args := #[]) (mvT hZ (hw _ (List.mem_of_getElem? (i := 33) rfl)))) (mvT hZ (hw _ (List.mem_of_getElem? (i := 33) rfl))) (mvT hZ (hw _ (List.mem_of_getElem? (i := 32) rfl))) (by decide) (backOf (W := 0) (rm_add1 l Z a0 hw [] b143 w1 b146 k146 u0 h150 n0 (Nat.le_trans (Nat.le_trans (Nat.le_trans Z0 E143.1) K146.1) K150.1) f152 F150v F150z V150 g_b143 g146 ne146) hZ (hw _ (List.mem_of_getElem? (i := 34) rfl)) (hw _ (List.mem_of_getElem? (i := 9) rfl)) (by decide) (by decide)) q154a q154c (g := (mkF m 224 #[.val (.int p1), .val (.int p2), .val (.int p3), .val (.int p4), .val (.int p5), .val (.int p6), .val (.int (3 : Int32)), .val (.int s0), .val (.int s1), .val (.int s2), .val (.int s3), .val (.int u0), .val (.int u2), .val (.int u1), .val (.int u3), .val (.int w1), .val (.int w2), .val (.int (p2 &&& (3 : Int32))), .val (.int e1), .val (.int (((p1.toUInt32 >>> ((3 : Int32) &&& 31).toUInt32).toInt32) &&& (3 : Int32))), .val (.int q1), .val (.ref b143), .unset] [(.int w1), (.ref b143)])) rfl (by rw [hml]; rfl) (Steps.refl _) (argsL := [(.int w1)]) (rest := []) (lenOf pd_5 rfl) rfl (by show 2 * 0 + _ ≤ _; exact Nat.le_of_eq rfl) (hb hby at_224) (fun _ _ => ⟨rfl, e150, (by decide : 2 + 0 ≤ _), (by decide : 4 + 0 ≤ _)⟩)
    dsimp only [Pt.U, Pt.locs, Pt.cells, Pt.slots] at X154 l154 y154 z154 st154 hQ154
    subst l154 y154 z154
    obtain ⟨h154, e154⟩ : ∃ z, T154.heap = z := ⟨_, rfl⟩
    rw [e154] at hQ154
    obtain ⟨rfl, N154q, K154, F154z, F154v, V154⟩ := hQ154
    have N154 := Fr.app N150 N154q
    have go155 : ∀ t, Steps p.tables e below (T154.setTop (mkF m 227 #[.val (.int p1), .val (.int p2), .val (.int p3), .val (.int p4), .val (.int p5), .val (.int p6), .val (.int (3 : Int32)), .val (.int s0), .val (.int s1), .val (.int s2), .val (.int s3), .val (.int u0), .val (.int u2), .val (.int u1), .val (.int u3), .val (.int w1), .val (.int w2), .val (.int (p2 &&& (3 : Int32))), .val (.int e1), .val (.int (((p1.toUInt32 >>> ((3 : Int32) &&& 31).toUInt32).toInt32) &&& (3 : Int32))), .val (.int q1), .val (.ref b143), .unset] [])) t → Steps p.tables e below (s₁.setTop (entryFrame m #[(.int p1), (.int p2), (.int p3), (.int p4), (.int p5), (.int p6)] maxLocals)) t := fun t k => go153 t (st154.trans k)
    have f156 := f152.keep K154
    have go157 : ∀ t, Steps p.tables e below (T154.setTop (mkF m 237 #[.val (.int p1), .val (.int p2), .val (.int p3), .val (.int p4), .val (.int p5), .val (.int p6), .val (.int (3 : Int32)), .val (.int s0), .val (.int s1), .val (.int s2), .val (.int s3), .val (.int u0), .val (.int u2), .val (.int u1), .val (.int u3), .val (.int w1), .val (.int w2), .val (.int (p2 &&& (3 : Int32))), .val (.int e1), .val (.int (((p1.toUInt32 >>> ((3 : Int32) &&& 31).toUInt32).toInt32) &&& (3 : Int32))), .val (.int q1), .val (.ref b143), .unset] [(.int w2), (.ref b143)])) t → Steps p.tables e below (s₁.setTop (entryFrame m #[(.int p1), (.int p2), (.int p3), (.int p4), (.int p5), (.int p6)] maxLocals)) t := fun t k => go155 t (by
      show Steps p.tables e below (T154.setTop (mkF m 227 #[.val (.int p1), .val (.int p2), .val (.int p3), .val (.int p4), .val (.int p5), .val (.int p6), .val (.int (3 : Int32)), .val (.int s0), .val (.int s1), .val (.int s2), .val (.int s3), .val (.int u0), .val (.int u2), .val (.int u1), .val (.int u3), .val (.int w1), .val (.int w2), .val (.int (p2 &&& (3 : Int32))), .val (.int e1), .val (.int (((p1.toUInt32 >>> ((3 : Int32) &&& 31).toUInt32).toInt32) &&& (3 : Int32))), .val (.int q1), .val (.ref b143), .unset] [])) _
      refine XS.iload X154.here hx rfl (hb hby at_227) rfl ?_
      show Steps p.tables e below (T154.setTop (mkF m 229 #[.val (.int p1), .val (.int p2), .val (.int p3), .val (.int p4), .val (.int p5), .val (.int p6), .val (.int (3 : Int32)), .val (.int s0), .val (.int s1), .val (.int s2), .val (.int s3), .val (.int u0), .val (.int u2), .val (.int u1), .val (.int u3), .val (.int w1), .val (.int w2), .val (.int (p2 &&& (3 : Int32))), .val (.int e1), .val (.int (((p1.toUInt32 >>> ((3 : Int32) &&& 31).toUInt32).toInt32) &&& (3 : Int32))), .val (.int q1), .val (.ref b143), .unset] [(.int (3 : Int32))])) _
      refine XS.iconst X154.here hx rfl (hb hby at_229) ?_
      show Steps p.tables e below (T154.setTop (mkF m 230 #[.val (.int p1), .val (.int p2), .val (.int p3), .val (.int p4), .val (.int p5), .val (.int p6), .val (.int (3 : Int32)), .val (.int s0), .val (.int s1), .val (.int s2), .val (.int s3), .val (.int u0), .val (.int u2), .val (.int u1), .val (.int u3), .val (.int w1), .val (.int w2), .val (.int (p2 &&& (3 : Int32))), .val (.int e1), .val (.int (((p1.toUInt32 >>> ((3 : Int32) &&& 31).toUInt32).toInt32) &&& (3 : Int32))), .val (.int q1), .val (.ref b143), .unset] [(.int (2 : Int32)), (.int (3 : Int32))])) _
      refine XS.icmpNo X154.here hx rfl (hb hby at_230) rfl (tlt (by decide : (2 : Int32) < (3 : Int32))).2.2.2 ?_
      show Steps p.tables e below (T154.setTop (mkF m 233 #[.val (.int p1), .val (.int p2), .val (.int p3), .val (.int p4), .val (.int p5), .val (.int p6), .val (.int (3 : Int32)), .val (.int s0), .val (.int s1), .val (.int s2), .val (.int s3), .val (.int u0), .val (.int u2), .val (.int u1), .val (.int u3), .val (.int w1), .val (.int w2), .val (.int (p2 &&& (3 : Int32))), .val (.int e1), .val (.int (((p1.toUInt32 >>> ((3 : Int32) &&& 31).toUInt32).toInt32) &&& (3 : Int32))), .val (.int q1), .val (.ref b143), .unset] [])) _
      refine XS.aload X154.here hx rfl (hb hby at_233) rfl rfl ?_
      show Steps p.tables e below (T154.setTop (mkF m 235 #[.val (.int p1), .val (.int p2), .val (.int p3), .val (.int p4), .val (.int p5), .val (.int p6), .val (.int (3 : Int32)), .val (.int s0), .val (.int s1), .val (.int s2), .val (.int s3), .val (.int u0), .val (.int u2), .val (.int u1), .val (.int u3), .val (.int w1), .val (.int w2), .val (.int (p2 &&& (3 : Int32))), .val (.int e1), .val (.int (((p1.toUInt32 >>> ((3 : Int32) &&& 31).toUInt32).toInt32) &&& (3 : Int32))), .val (.int q1), .val (.ref b143), .unset] [(.ref b143)])) _
      refine XS.iload X154.here hx rfl (hb hby at_235) rfl ?_
      exact k)
    obtain ⟨cq158, kq158, q158a, q158b, q158c⟩ := isOf hZ e154 f156
    obtain ⟨_, _, ⟨T158, L158, k158, n158⟩, -, X158, ⟨Lc158, hQ158, l158, y158, z158⟩, st158⟩ := X154.virtualBack hx (y := (⟨"com/example/halting_hound/haltinghound/IntList", "add", "(I)V"⟩ : MethodName)) (z := (⟨"com/example/halting_hound/haltinghound/IntList", "add", "(I)V"⟩ : MethodName)) hown (mvT hZ (hw _ (List.mem_of_getElem? (i := 30) rfl))) (mvT hZ (hw _ (List.mem_of_getElem? (i := 31) rfl))) (notFace_of_selects (args := #[]) (mvT hZ (hw _ (List.mem_of_getElem? (i := 33) rfl)))) (mvT hZ (hw _ (List.mem_of_getElem? (i := 33) rfl))) (mvT hZ (hw _ (List.mem_of_getElem? (i := 32) rfl))) (by decide) (backOf (W := 0) (rm_add2 l Z a0 hw [] b143 w2 b146 k146 u0 w1 h154 n0 (Nat.le_trans (Nat.le_trans (Nat.le_trans (Nat.le_trans Z0 E143.1) K146.1) K150.1) K154.1) f156 F154v F154z V154 g_b143 g146 ne146) hZ (hw _ (List.mem_of_getElem? (i := 34) rfl)) (hw _ (List.mem_of_getElem? (i := 9) rfl)) (by decide) (by decide)) q158a q158c (g := (mkF m 237 #[.val (.int p1), .val (.int p2), .val (.int p3), .val (.int p4), .val (.int p5), .val (.int p6), .val (.int (3 : Int32)), .val (.int s0), .val (.int s1), .val (.int s2), .val (.int s3), .val (.int u0), .val (.int u2), .val (.int u1), .val (.int u3), .val (.int w1), .val (.int w2), .val (.int (p2 &&& (3 : Int32))), .val (.int e1), .val (.int (((p1.toUInt32 >>> ((3 : Int32) &&& 31).toUInt32).toInt32) &&& (3 : Int32))), .val (.int q1), .val (.ref b143), .unset] [(.int w2), (.ref b143)])) rfl (by rw [hml]; rfl) (Steps.refl _) (argsL := [(.int w2)]) (rest := []) (lenOf pd_5 rfl) rfl (by show 2 * 0 + _ ≤ _; exact Nat.le_of_eq rfl) (hb hby at_237) (fun _ _ => ⟨rfl, e154, (by decide : 2 + 1 ≤ _), (by decide : 4 + 4 ≤ _)⟩)
    dsimp only [Pt.U, Pt.locs, Pt.cells, Pt.slots] at X158 l158 y158 z158 st158 hQ158
    subst l158 y158 z158
    obtain ⟨h158, e158⟩ : ∃ z, T158.heap = z := ⟨_, rfl⟩
    rw [e158] at hQ158
    obtain ⟨rfl, N158q, K158, F158z, b158, k158, g158, ne158, F158v, V158⟩ := hQ158
    have N158 := Fr.app N154 N158q
    have go159 : ∀ t, Steps p.tables e below (T158.setTop (mkF m 240 #[.val (.int p1), .val (.int p2), .val (.int p3), .val (.int p4), .val (.int p5), .val (.int p6), .val (.int (3 : Int32)), .val (.int s0), .val (.int s1), .val (.int s2), .val (.int s3), .val (.int u0), .val (.int u2), .val (.int u1), .val (.int u3), .val (.int w1), .val (.int w2), .val (.int (p2 &&& (3 : Int32))), .val (.int e1), .val (.int (((p1.toUInt32 >>> ((3 : Int32) &&& 31).toUInt32).toInt32) &&& (3 : Int32))), .val (.int q1), .val (.ref b143), .unset] [])) t → Steps p.tables e below (s₁.setTop (entryFrame m #[(.int p1), (.int p2), (.int p3), (.int p4), (.int p5), (.int p6)] maxLocals)) t := fun t k => go157 t (st158.trans k)
    have f160 := f156.keep K158
    have f161 := V154.keep K158 (ninS (Ne.symm ne146) nin0)
    have go162 : ∀ t, Steps p.tables e below (T158.setTop (mkF m 267 #[.val (.int p1), .val (.int p2), .val (.int p3), .val (.int p4), .val (.int p5), .val (.int p6), .val (.int (3 : Int32)), .val (.int s0), .val (.int s1), .val (.int s2), .val (.int s3), .val (.int u0), .val (.int u2), .val (.int u1), .val (.int u3), .val (.int w1), .val (.int w2), .val (.int (p2 &&& (3 : Int32))), .val (.int e1), .val (.int (((p1.toUInt32 >>> ((3 : Int32) &&& 31).toUInt32).toInt32) &&& (3 : Int32))), .val (.int q1), .val (.ref b143), .unset] [(.int q1), (.int u0), (.int (1 : Int32))])) t → Steps p.tables e below (s₁.setTop (entryFrame m #[(.int p1), (.int p2), (.int p3), (.int p4), (.int p5), (.int p6)] maxLocals)) t := fun t k => go159 t (by
      show Steps p.tables e below (T158.setTop (mkF m 240 #[.val (.int p1), .val (.int p2), .val (.int p3), .val (.int p4), .val (.int p5), .val (.int p6), .val (.int (3 : Int32)), .val (.int s0), .val (.int s1), .val (.int s2), .val (.int s3), .val (.int u0), .val (.int u2), .val (.int u1), .val (.int u3), .val (.int w1), .val (.int w2), .val (.int (p2 &&& (3 : Int32))), .val (.int e1), .val (.int (((p1.toUInt32 >>> ((3 : Int32) &&& 31).toUInt32).toInt32) &&& (3 : Int32))), .val (.int q1), .val (.ref b143), .unset] [])) _
      refine XS.iload X158.here hx rfl (hb hby at_240) rfl ?_
      show Steps p.tables e below (T158.setTop (mkF m 242 #[.val (.int p1), .val (.int p2), .val (.int p3), .val (.int p4), .val (.int p5), .val (.int p6), .val (.int (3 : Int32)), .val (.int s0), .val (.int s1), .val (.int s2), .val (.int s3), .val (.int u0), .val (.int u2), .val (.int u1), .val (.int u3), .val (.int w1), .val (.int w2), .val (.int (p2 &&& (3 : Int32))), .val (.int e1), .val (.int (((p1.toUInt32 >>> ((3 : Int32) &&& 31).toUInt32).toInt32) &&& (3 : Int32))), .val (.int q1), .val (.ref b143), .unset] [(.int (3 : Int32))])) _
      refine XS.iconst X158.here hx rfl (hb hby at_242) ?_
      show Steps p.tables e below (T158.setTop (mkF m 243 #[.val (.int p1), .val (.int p2), .val (.int p3), .val (.int p4), .val (.int p5), .val (.int p6), .val (.int (3 : Int32)), .val (.int s0), .val (.int s1), .val (.int s2), .val (.int s3), .val (.int u0), .val (.int u2), .val (.int u1), .val (.int u3), .val (.int w1), .val (.int w2), .val (.int (p2 &&& (3 : Int32))), .val (.int e1), .val (.int (((p1.toUInt32 >>> ((3 : Int32) &&& 31).toUInt32).toInt32) &&& (3 : Int32))), .val (.int q1), .val (.ref b143), .unset] [(.int (3 : Int32)), (.int (3 : Int32))])) _
      refine XS.icmpYes X158.here hx rfl (pc0 := 243) (pc' := 253) rfl (hb hby at_243) rfl (flt (by decide : ¬ ((3 : Int32) < (3 : Int32)))).2.2.2 (by decide) (by decide) ?_
      show Steps p.tables e below (T158.setTop (mkF m 253 #[.val (.int p1), .val (.int p2), .val (.int p3), .val (.int p4), .val (.int p5), .val (.int p6), .val (.int (3 : Int32)), .val (.int s0), .val (.int s1), .val (.int s2), .val (.int s3), .val (.int u0), .val (.int u2), .val (.int u1), .val (.int u3), .val (.int w1), .val (.int w2), .val (.int (p2 &&& (3 : Int32))), .val (.int e1), .val (.int (((p1.toUInt32 >>> ((3 : Int32) &&& 31).toUInt32).toInt32) &&& (3 : Int32))), .val (.int q1), .val (.ref b143), .unset] [])) _
      refine XS.iload X158.here hx rfl (hb hby at_253) rfl ?_
      show Steps p.tables e below (T158.setTop (mkF m 255 #[.val (.int p1), .val (.int p2), .val (.int p3), .val (.int p4), .val (.int p5), .val (.int p6), .val (.int (3 : Int32)), .val (.int s0), .val (.int s1), .val (.int s2), .val (.int s3), .val (.int u0), .val (.int u2), .val (.int u1), .val (.int u3), .val (.int w1), .val (.int w2), .val (.int (p2 &&& (3 : Int32))), .val (.int e1), .val (.int (((p1.toUInt32 >>> ((3 : Int32) &&& 31).toUInt32).toInt32) &&& (3 : Int32))), .val (.int q1), .val (.ref b143), .unset] [(.int (3 : Int32))])) _
      refine XS.ifNo X158.here hx rfl (hb hby at_255) rfl ((if0 _ _).trans (tlt (by decide : (0 : Int32) < (3 : Int32))).2.2.2) ?_
      show Steps p.tables e below (T158.setTop (mkF m 258 #[.val (.int p1), .val (.int p2), .val (.int p3), .val (.int p4), .val (.int p5), .val (.int p6), .val (.int (3 : Int32)), .val (.int s0), .val (.int s1), .val (.int s2), .val (.int s3), .val (.int u0), .val (.int u2), .val (.int u1), .val (.int u3), .val (.int w1), .val (.int w2), .val (.int (p2 &&& (3 : Int32))), .val (.int e1), .val (.int (((p1.toUInt32 >>> ((3 : Int32) &&& 31).toUInt32).toInt32) &&& (3 : Int32))), .val (.int q1), .val (.ref b143), .unset] [])) _
      refine XS.iconst X158.here hx rfl (hb hby at_258) ?_
      show Steps p.tables e below (T158.setTop (mkF m 259 #[.val (.int p1), .val (.int p2), .val (.int p3), .val (.int p4), .val (.int p5), .val (.int p6), .val (.int (3 : Int32)), .val (.int s0), .val (.int s1), .val (.int s2), .val (.int s3), .val (.int u0), .val (.int u2), .val (.int u1), .val (.int u3), .val (.int w1), .val (.int w2), .val (.int (p2 &&& (3 : Int32))), .val (.int e1), .val (.int (((p1.toUInt32 >>> ((3 : Int32) &&& 31).toUInt32).toInt32) &&& (3 : Int32))), .val (.int q1), .val (.ref b143), .unset] [(.int (1 : Int32))])) _
      refine XS.goto X158.here hx rfl (pc0 := 259) (pc' := 263) rfl (hb hby at_259) (by decide) (by decide) ?_
      show Steps p.tables e below (T158.setTop (mkF m 263 #[.val (.int p1), .val (.int p2), .val (.int p3), .val (.int p4), .val (.int p5), .val (.int p6), .val (.int (3 : Int32)), .val (.int s0), .val (.int s1), .val (.int s2), .val (.int s3), .val (.int u0), .val (.int u2), .val (.int u1), .val (.int u3), .val (.int w1), .val (.int w2), .val (.int (p2 &&& (3 : Int32))), .val (.int e1), .val (.int (((p1.toUInt32 >>> ((3 : Int32) &&& 31).toUInt32).toInt32) &&& (3 : Int32))), .val (.int q1), .val (.ref b143), .unset] [(.int (1 : Int32))])) _
      refine XS.iload X158.here hx rfl (hb hby at_263) rfl ?_
      show Steps p.tables e below (T158.setTop (mkF m 265 #[.val (.int p1), .val (.int p2), .val (.int p3), .val (.int p4), .val (.int p5), .val (.int p6), .val (.int (3 : Int32)), .val (.int s0), .val (.int s1), .val (.int s2), .val (.int s3), .val (.int u0), .val (.int u2), .val (.int u1), .val (.int u3), .val (.int w1), .val (.int w2), .val (.int (p2 &&& (3 : Int32))), .val (.int e1), .val (.int (((p1.toUInt32 >>> ((3 : Int32) &&& 31).toUInt32).toInt32) &&& (3 : Int32))), .val (.int q1), .val (.ref b143), .unset] [(.int u0), (.int (1 : Int32))])) _
      refine XS.iload X158.here hx rfl (hb hby at_265) rfl ?_
      exact k)
    obtain ⟨_, _, ⟨T163, L163, k163, n163⟩, -, X163, ⟨Lc163, hQ163, l163, y163, z163⟩, st163⟩ := Jvm.LawKit.callS X158 hx (y := (⟨"com/example/halting_hound/haltinghound/IntListFirstAtLeastPinLaw", "below", "(ZII)I"⟩ : MethodName)) hown (mvT hZ (hw _ (List.mem_of_getElem? (i := 19) rfl))) (mvT hZ (hw _ (List.mem_of_getElem? (i := 20) rfl))) (mvT hZ (hw _ (List.mem_of_getElem? (i := 21) rfl))) (mvT hZ (hw _ (List.mem_of_getElem? (i := 22) rfl))) (by decide) (backOf (W := 0) (rm_bl l Z a0 hw [] (1 : Int32) u0 q1 h158 n0 (Nat.le_trans (Nat.le_trans (Nat.le_trans (Nat.le_trans (Nat.le_trans Z0 E143.1) K146.1) K150.1) K154.1) K158.1) ) hZ (hw _ (List.mem_of_getElem? (i := 22) rfl)) (hw _ (List.mem_of_getElem? (i := 21) rfl)) (by decide) (by decide)) (g := (mkF m 267 #[.val (.int p1), .val (.int p2), .val (.int p3), .val (.int p4), .val (.int p5), .val (.int p6), .val (.int (3 : Int32)), .val (.int s0), .val (.int s1), .val (.int s2), .val (.int s3), .val (.int u0), .val (.int u2), .val (.int u1), .val (.int u3), .val (.int w1), .val (.int w2), .val (.int (p2 &&& (3 : Int32))), .val (.int e1), .val (.int (((p1.toUInt32 >>> ((3 : Int32) &&& 31).toUInt32).toInt32) &&& (3 : Int32))), .val (.int q1), .val (.ref b143), .unset] [(.int q1), (.int u0), (.int (1 : Int32))])) rfl (by rw [hml]; rfl) (argsL := [(.int (1 : Int32)), (.int u0), (.int q1)]) (rest := []) (lenOf pd_3 rfl) rfl (by show 2 * 0 + _ ≤ _; exact Nat.le_of_eq rfl) (hb hby at_267) (fun _ _ => ⟨rfl, e158, (by decide : 3 + 0 ≤ _), (by decide : 8 + 0 ≤ _)⟩)
    dsimp only [Pt.U, Pt.locs, Pt.cells, Pt.slots] at X163 l163 y163 z163 st163 hQ163
    subst l163 y163 z163
    obtain ⟨rfl, N163q, e163⟩ := hQ163
    have N163 := Fr.app N158 N163q
    have go164 : ∀ t, Steps p.tables e below (T163.setTop (mkF m 270 #[.val (.int p1), .val (.int p2), .val (.int p3), .val (.int p4), .val (.int p5), .val (.int p6), .val (.int (3 : Int32)), .val (.int s0), .val (.int s1), .val (.int s2), .val (.int s3), .val (.int u0), .val (.int u2), .val (.int u1), .val (.int u3), .val (.int w1), .val (.int w2), .val (.int (p2 &&& (3 : Int32))), .val (.int e1), .val (.int (((p1.toUInt32 >>> ((3 : Int32) &&& 31).toUInt32).toInt32) &&& (3 : Int32))), .val (.int q1), .val (.ref b143), .unset] [(.int (own_below (1 : Int32) u0 q1))])) t → Steps p.tables e below (s₁.setTop (entryFrame m #[(.int p1), (.int p2), (.int p3), (.int p4), (.int p5), (.int p6)] maxLocals)) t := fun t k => go162 t (st163 t k)
    have go165 : ∀ t, Steps p.tables e below (T163.setTop (mkF m 285 #[.val (.int p1), .val (.int p2), .val (.int p3), .val (.int p4), .val (.int p5), .val (.int p6), .val (.int (3 : Int32)), .val (.int s0), .val (.int s1), .val (.int s2), .val (.int s3), .val (.int u0), .val (.int u2), .val (.int u1), .val (.int u3), .val (.int w1), .val (.int w2), .val (.int (p2 &&& (3 : Int32))), .val (.int e1), .val (.int (((p1.toUInt32 >>> ((3 : Int32) &&& 31).toUInt32).toInt32) &&& (3 : Int32))), .val (.int q1), .val (.ref b143), .unset] [(.int q1), (.int w1), (.int (1 : Int32)), (.int (own_below (1 : Int32) u0 q1))])) t → Steps p.tables e below (s₁.setTop (entryFrame m #[(.int p1), (.int p2), (.int p3), (.int p4), (.int p5), (.int p6)] maxLocals)) t := fun t k => go164 t (by
      show Steps p.tables e below (T163.setTop (mkF m 270 #[.val (.int p1), .val (.int p2), .val (.int p3), .val (.int p4), .val (.int p5), .val (.int p6), .val (.int (3 : Int32)), .val (.int s0), .val (.int s1), .val (.int s2), .val (.int s3), .val (.int u0), .val (.int u2), .val (.int u1), .val (.int u3), .val (.int w1), .val (.int w2), .val (.int (p2 &&& (3 : Int32))), .val (.int e1), .val (.int (((p1.toUInt32 >>> ((3 : Int32) &&& 31).toUInt32).toInt32) &&& (3 : Int32))), .val (.int q1), .val (.ref b143), .unset] [(.int (own_below (1 : Int32) u0 q1))])) _
      refine XS.iload X163.here hx rfl (hb hby at_270) rfl ?_
      show Steps p.tables e below (T163.setTop (mkF m 272 #[.val (.int p1), .val (.int p2), .val (.int p3), .val (.int p4), .val (.int p5), .val (.int p6), .val (.int (3 : Int32)), .val (.int s0), .val (.int s1), .val (.int s2), .val (.int s3), .val (.int u0), .val (.int u2), .val (.int u1), .val (.int u3), .val (.int w1), .val (.int w2), .val (.int (p2 &&& (3 : Int32))), .val (.int e1), .val (.int (((p1.toUInt32 >>> ((3 : Int32) &&& 31).toUInt32).toInt32) &&& (3 : Int32))), .val (.int q1), .val (.ref b143), .unset] [(.int (3 : Int32)), (.int (own_below (1 : Int32) u0 q1))])) _
      refine XS.iconst X163.here hx rfl (hb hby at_272) ?_
      show Steps p.tables e below (T163.setTop (mkF m 273 #[.val (.int p1), .val (.int p2), .val (.int p3), .val (.int p4), .val (.int p5), .val (.int p6), .val (.int (3 : Int32)), .val (.int s0), .val (.int s1), .val (.int s2), .val (.int s3), .val (.int u0), .val (.int u2), .val (.int u1), .val (.int u3), .val (.int w1), .val (.int w2), .val (.int (p2 &&& (3 : Int32))), .val (.int e1), .val (.int (((p1.toUInt32 >>> ((3 : Int32) &&& 31).toUInt32).toInt32) &&& (3 : Int32))), .val (.int q1), .val (.ref b143), .unset] [(.int (1 : Int32)), (.int (3 : Int32)), (.int (own_below (1 : Int32) u0 q1))])) _
      refine XS.icmpNo X163.here hx rfl (hb hby at_273) rfl (tlt (by decide : (1 : Int32) < (3 : Int32))).2.2.2 ?_
      show Steps p.tables e below (T163.setTop (mkF m 276 #[.val (.int p1), .val (.int p2), .val (.int p3), .val (.int p4), .val (.int p5), .val (.int p6), .val (.int (3 : Int32)), .val (.int s0), .val (.int s1), .val (.int s2), .val (.int s3), .val (.int u0), .val (.int u2), .val (.int u1), .val (.int u3), .val (.int w1), .val (.int w2), .val (.int (p2 &&& (3 : Int32))), .val (.int e1), .val (.int (((p1.toUInt32 >>> ((3 : Int32) &&& 31).toUInt32).toInt32) &&& (3 : Int32))), .val (.int q1), .val (.ref b143), .unset] [(.int (own_below (1 : Int32) u0 q1))])) _
      refine XS.iconst X163.here hx rfl (hb hby at_276) ?_
      show Steps p.tables e below (T163.setTop (mkF m 277 #[.val (.int p1), .val (.int p2), .val (.int p3), .val (.int p4), .val (.int p5), .val (.int p6), .val (.int (3 : Int32)), .val (.int s0), .val (.int s1), .val (.int s2), .val (.int s3), .val (.int u0), .val (.int u2), .val (.int u1), .val (.int u3), .val (.int w1), .val (.int w2), .val (.int (p2 &&& (3 : Int32))), .val (.int e1), .val (.int (((p1.toUInt32 >>> ((3 : Int32) &&& 31).toUInt32).toInt32) &&& (3 : Int32))), .val (.int q1), .val (.ref b143), .unset] [(.int (1 : Int32)), (.int (own_below (1 : Int32) u0 q1))])) _
      refine XS.goto X163.here hx rfl (pc0 := 277) (pc' := 281) rfl (hb hby at_277) (by decide) (by decide) ?_
      show Steps p.tables e below (T163.setTop (mkF m 281 #[.val (.int p1), .val (.int p2), .val (.int p3), .val (.int p4), .val (.int p5), .val (.int p6), .val (.int (3 : Int32)), .val (.int s0), .val (.int s1), .val (.int s2), .val (.int s3), .val (.int u0), .val (.int u2), .val (.int u1), .val (.int u3), .val (.int w1), .val (.int w2), .val (.int (p2 &&& (3 : Int32))), .val (.int e1), .val (.int (((p1.toUInt32 >>> ((3 : Int32) &&& 31).toUInt32).toInt32) &&& (3 : Int32))), .val (.int q1), .val (.ref b143), .unset] [(.int (1 : Int32)), (.int (own_below (1 : Int32) u0 q1))])) _
      refine XS.iload X163.here hx rfl (hb hby at_281) rfl ?_
      show Steps p.tables e below (T163.setTop (mkF m 283 #[.val (.int p1), .val (.int p2), .val (.int p3), .val (.int p4), .val (.int p5), .val (.int p6), .val (.int (3 : Int32)), .val (.int s0), .val (.int s1), .val (.int s2), .val (.int s3), .val (.int u0), .val (.int u2), .val (.int u1), .val (.int u3), .val (.int w1), .val (.int w2), .val (.int (p2 &&& (3 : Int32))), .val (.int e1), .val (.int (((p1.toUInt32 >>> ((3 : Int32) &&& 31).toUInt32).toInt32) &&& (3 : Int32))), .val (.int q1), .val (.ref b143), .unset] [(.int w1), (.int (1 : Int32)), (.int (own_below (1 : Int32) u0 q1))])) _
      refine XS.iload X163.here hx rfl (hb hby at_283) rfl ?_
      exact k)
    obtain ⟨_, _, ⟨T166, L166, k166, n166⟩, -, X166, ⟨Lc166, hQ166, l166, y166, z166⟩, st166⟩ := Jvm.LawKit.callS X163 hx (y := (⟨"com/example/halting_hound/haltinghound/IntListFirstAtLeastPinLaw", "below", "(ZII)I"⟩ : MethodName)) hown (mvT hZ (hw _ (List.mem_of_getElem? (i := 19) rfl))) (mvT hZ (hw _ (List.mem_of_getElem? (i := 20) rfl))) (mvT hZ (hw _ (List.mem_of_getElem? (i := 21) rfl))) (mvT hZ (hw _ (List.mem_of_getElem? (i := 22) rfl))) (by decide) (backOf (W := 1) (rm_bl l Z a0 hw [] (1 : Int32) w1 q1 h158 n0 (Nat.le_trans (Nat.le_trans (Nat.le_trans (Nat.le_trans (Nat.le_trans Z0 E143.1) K146.1) K150.1) K154.1) K158.1) ) hZ (hw _ (List.mem_of_getElem? (i := 22) rfl)) (hw _ (List.mem_of_getElem? (i := 21) rfl)) (by decide) (by decide)) (g := (mkF m 285 #[.val (.int p1), .val (.int p2), .val (.int p3), .val (.int p4), .val (.int p5), .val (.int p6), .val (.int (3 : Int32)), .val (.int s0), .val (.int s1), .val (.int s2), .val (.int s3), .val (.int u0), .val (.int u2), .val (.int u1), .val (.int u3), .val (.int w1), .val (.int w2), .val (.int (p2 &&& (3 : Int32))), .val (.int e1), .val (.int (((p1.toUInt32 >>> ((3 : Int32) &&& 31).toUInt32).toInt32) &&& (3 : Int32))), .val (.int q1), .val (.ref b143), .unset] [(.int q1), (.int w1), (.int (1 : Int32)), (.int (own_below (1 : Int32) u0 q1))])) rfl (by rw [hml]; rfl) (argsL := [(.int (1 : Int32)), (.int w1), (.int q1)]) (rest := [(.int (own_below (1 : Int32) u0 q1))]) (lenOf pd_3 rfl) rfl (by show 2 * 0 + _ ≤ _; exact Nat.le_of_eq rfl) (hb hby at_285) (fun _ _ => ⟨rfl, e163, (by decide : 3 + 0 ≤ _), (by decide : 8 + 0 ≤ _)⟩)
    dsimp only [Pt.U, Pt.locs, Pt.cells, Pt.slots] at X166 l166 y166 z166 st166 hQ166
    subst l166 y166 z166
    obtain ⟨rfl, N166q, e166⟩ := hQ166
    have N166 := Fr.app N163 N166q
    have go167 : ∀ t, Steps p.tables e below (T166.setTop (mkF m 288 #[.val (.int p1), .val (.int p2), .val (.int p3), .val (.int p4), .val (.int p5), .val (.int p6), .val (.int (3 : Int32)), .val (.int s0), .val (.int s1), .val (.int s2), .val (.int s3), .val (.int u0), .val (.int u2), .val (.int u1), .val (.int u3), .val (.int w1), .val (.int w2), .val (.int (p2 &&& (3 : Int32))), .val (.int e1), .val (.int (((p1.toUInt32 >>> ((3 : Int32) &&& 31).toUInt32).toInt32) &&& (3 : Int32))), .val (.int q1), .val (.ref b143), .unset] [(.int (own_below (1 : Int32) w1 q1)), (.int (own_below (1 : Int32) u0 q1))])) t → Steps p.tables e below (s₁.setTop (entryFrame m #[(.int p1), (.int p2), (.int p3), (.int p4), (.int p5), (.int p6)] maxLocals)) t := fun t k => go165 t (st166 t k)
    have go168 : ∀ t, Steps p.tables e below (T166.setTop (mkF m 304 #[.val (.int p1), .val (.int p2), .val (.int p3), .val (.int p4), .val (.int p5), .val (.int p6), .val (.int (3 : Int32)), .val (.int s0), .val (.int s1), .val (.int s2), .val (.int s3), .val (.int u0), .val (.int u2), .val (.int u1), .val (.int u3), .val (.int w1), .val (.int w2), .val (.int (p2 &&& (3 : Int32))), .val (.int e1), .val (.int (((p1.toUInt32 >>> ((3 : Int32) &&& 31).toUInt32).toInt32) &&& (3 : Int32))), .val (.int q1), .val (.ref b143), .unset] [(.int q1), (.int w2), (.int (1 : Int32)), (.int ((own_below (1 : Int32) u0 q1) + (own_below (1 : Int32) w1 q1)))])) t → Steps p.tables e below (s₁.setTop (entryFrame m #[(.int p1), (.int p2), (.int p3), (.int p4), (.int p5), (.int p6)] maxLocals)) t := fun t k => go167 t (by
      show Steps p.tables e below (T166.setTop (mkF m 288 #[.val (.int p1), .val (.int p2), .val (.int p3), .val (.int p4), .val (.int p5), .val (.int p6), .val (.int (3 : Int32)), .val (.int s0), .val (.int s1), .val (.int s2), .val (.int s3), .val (.int u0), .val (.int u2), .val (.int u1), .val (.int u3), .val (.int w1), .val (.int w2), .val (.int (p2 &&& (3 : Int32))), .val (.int e1), .val (.int (((p1.toUInt32 >>> ((3 : Int32) &&& 31).toUInt32).toInt32) &&& (3 : Int32))), .val (.int q1), .val (.ref b143), .unset] [(.int (own_below (1 : Int32) w1 q1)), (.int (own_below (1 : Int32) u0 q1))])) _
      refine XS.iadd X166.here hx rfl (hb hby at_288) rfl ?_
      show Steps p.tables e below (T166.setTop (mkF m 289 #[.val (.int p1), .val (.int p2), .val (.int p3), .val (.int p4), .val (.int p5), .val (.int p6), .val (.int (3 : Int32)), .val (.int s0), .val (.int s1), .val (.int s2), .val (.int s3), .val (.int u0), .val (.int u2), .val (.int u1), .val (.int u3), .val (.int w1), .val (.int w2), .val (.int (p2 &&& (3 : Int32))), .val (.int e1), .val (.int (((p1.toUInt32 >>> ((3 : Int32) &&& 31).toUInt32).toInt32) &&& (3 : Int32))), .val (.int q1), .val (.ref b143), .unset] [(.int ((own_below (1 : Int32) u0 q1) + (own_below (1 : Int32) w1 q1)))])) _
      refine XS.iload X166.here hx rfl (hb hby at_289) rfl ?_
      show Steps p.tables e below (T166.setTop (mkF m 291 #[.val (.int p1), .val (.int p2), .val (.int p3), .val (.int p4), .val (.int p5), .val (.int p6), .val (.int (3 : Int32)), .val (.int s0), .val (.int s1), .val (.int s2), .val (.int s3), .val (.int u0), .val (.int u2), .val (.int u1), .val (.int u3), .val (.int w1), .val (.int w2), .val (.int (p2 &&& (3 : Int32))), .val (.int e1), .val (.int (((p1.toUInt32 >>> ((3 : Int32) &&& 31).toUInt32).toInt32) &&& (3 : Int32))), .val (.int q1), .val (.ref b143), .unset] [(.int (3 : Int32)), (.int ((own_below (1 : Int32) u0 q1) + (own_below (1 : Int32) w1 q1)))])) _
      refine XS.iconst X166.here hx rfl (hb hby at_291) ?_
      show Steps p.tables e below (T166.setTop (mkF m 292 #[.val (.int p1), .val (.int p2), .val (.int p3), .val (.int p4), .val (.int p5), .val (.int p6), .val (.int (3 : Int32)), .val (.int s0), .val (.int s1), .val (.int s2), .val (.int s3), .val (.int u0), .val (.int u2), .val (.int u1), .val (.int u3), .val (.int w1), .val (.int w2), .val (.int (p2 &&& (3 : Int32))), .val (.int e1), .val (.int (((p1.toUInt32 >>> ((3 : Int32) &&& 31).toUInt32).toInt32) &&& (3 : Int32))), .val (.int q1), .val (.ref b143), .unset] [(.int (2 : Int32)), (.int (3 : Int32)), (.int ((own_below (1 : Int32) u0 q1) + (own_below (1 : Int32) w1 q1)))])) _
      refine XS.icmpNo X166.here hx rfl (hb hby at_292) rfl (tlt (by decide : (2 : Int32) < (3 : Int32))).2.2.2 ?_
      show Steps p.tables e below (T166.setTop (mkF m 295 #[.val (.int p1), .val (.int p2), .val (.int p3), .val (.int p4), .val (.int p5), .val (.int p6), .val (.int (3 : Int32)), .val (.int s0), .val (.int s1), .val (.int s2), .val (.int s3), .val (.int u0), .val (.int u2), .val (.int u1), .val (.int u3), .val (.int w1), .val (.int w2), .val (.int (p2 &&& (3 : Int32))), .val (.int e1), .val (.int (((p1.toUInt32 >>> ((3 : Int32) &&& 31).toUInt32).toInt32) &&& (3 : Int32))), .val (.int q1), .val (.ref b143), .unset] [(.int ((own_below (1 : Int32) u0 q1) + (own_below (1 : Int32) w1 q1)))])) _
      refine XS.iconst X166.here hx rfl (hb hby at_295) ?_
      show Steps p.tables e below (T166.setTop (mkF m 296 #[.val (.int p1), .val (.int p2), .val (.int p3), .val (.int p4), .val (.int p5), .val (.int p6), .val (.int (3 : Int32)), .val (.int s0), .val (.int s1), .val (.int s2), .val (.int s3), .val (.int u0), .val (.int u2), .val (.int u1), .val (.int u3), .val (.int w1), .val (.int w2), .val (.int (p2 &&& (3 : Int32))), .val (.int e1), .val (.int (((p1.toUInt32 >>> ((3 : Int32) &&& 31).toUInt32).toInt32) &&& (3 : Int32))), .val (.int q1), .val (.ref b143), .unset] [(.int (1 : Int32)), (.int ((own_below (1 : Int32) u0 q1) + (own_below (1 : Int32) w1 q1)))])) _
      refine XS.goto X166.here hx rfl (pc0 := 296) (pc' := 300) rfl (hb hby at_296) (by decide) (by decide) ?_
      show Steps p.tables e below (T166.setTop (mkF m 300 #[.val (.int p1), .val (.int p2), .val (.int p3), .val (.int p4), .val (.int p5), .val (.int p6), .val (.int (3 : Int32)), .val (.int s0), .val (.int s1), .val (.int s2), .val (.int s3), .val (.int u0), .val (.int u2), .val (.int u1), .val (.int u3), .val (.int w1), .val (.int w2), .val (.int (p2 &&& (3 : Int32))), .val (.int e1), .val (.int (((p1.toUInt32 >>> ((3 : Int32) &&& 31).toUInt32).toInt32) &&& (3 : Int32))), .val (.int q1), .val (.ref b143), .unset] [(.int (1 : Int32)), (.int ((own_below (1 : Int32) u0 q1) + (own_below (1 : Int32) w1 q1)))])) _
      refine XS.iload X166.here hx rfl (hb hby at_300) rfl ?_
      show Steps p.tables e below (T166.setTop (mkF m 302 #[.val (.int p1), .val (.int p2), .val (.int p3), .val (.int p4), .val (.int p5), .val (.int p6), .val (.int (3 : Int32)), .val (.int s0), .val (.int s1), .val (.int s2), .val (.int s3), .val (.int u0), .val (.int u2), .val (.int u1), .val (.int u3), .val (.int w1), .val (.int w2), .val (.int (p2 &&& (3 : Int32))), .val (.int e1), .val (.int (((p1.toUInt32 >>> ((3 : Int32) &&& 31).toUInt32).toInt32) &&& (3 : Int32))), .val (.int q1), .val (.ref b143), .unset] [(.int w2), (.int (1 : Int32)), (.int ((own_below (1 : Int32) u0 q1) + (own_below (1 : Int32) w1 q1)))])) _
      refine XS.iload X166.here hx rfl (hb hby at_302) rfl ?_
      exact k)
    obtain ⟨_, _, ⟨T169, L169, k169, n169⟩, -, X169, ⟨Lc169, hQ169, l169, y169, z169⟩, st169⟩ := Jvm.LawKit.callS X166 hx (y := (⟨"com/example/halting_hound/haltinghound/IntListFirstAtLeastPinLaw", "below", "(ZII)I"⟩ : MethodName)) hown (mvT hZ (hw _ (List.mem_of_getElem? (i := 19) rfl))) (mvT hZ (hw _ (List.mem_of_getElem? (i := 20) rfl))) (mvT hZ (hw _ (List.mem_of_getElem? (i := 21) rfl))) (mvT hZ (hw _ (List.mem_of_getElem? (i := 22) rfl))) (by decide) (backOf (W := 1) (rm_bl l Z a0 hw [] (1 : Int32) w2 q1 h158 n0 (Nat.le_trans (Nat.le_trans (Nat.le_trans (Nat.le_trans (Nat.le_trans Z0 E143.1) K146.1) K150.1) K154.1) K158.1) ) hZ (hw _ (List.mem_of_getElem? (i := 22) rfl)) (hw _ (List.mem_of_getElem? (i := 21) rfl)) (by decide) (by decide)) (g := (mkF m 304 #[.val (.int p1), .val (.int p2), .val (.int p3), .val (.int p4), .val (.int p5), .val (.int p6), .val (.int (3 : Int32)), .val (.int s0), .val (.int s1), .val (.int s2), .val (.int s3), .val (.int u0), .val (.int u2), .val (.int u1), .val (.int u3), .val (.int w1), .val (.int w2), .val (.int (p2 &&& (3 : Int32))), .val (.int e1), .val (.int (((p1.toUInt32 >>> ((3 : Int32) &&& 31).toUInt32).toInt32) &&& (3 : Int32))), .val (.int q1), .val (.ref b143), .unset] [(.int q1), (.int w2), (.int (1 : Int32)), (.int ((own_below (1 : Int32) u0 q1) + (own_below (1 : Int32) w1 q1)))])) rfl (by rw [hml]; rfl) (argsL := [(.int (1 : Int32)), (.int w2), (.int q1)]) (rest := [(.int ((own_below (1 : Int32) u0 q1) + (own_below (1 : Int32) w1 q1)))]) (lenOf pd_3 rfl) rfl (by show 2 * 0 + _ ≤ _; exact Nat.le_of_eq rfl) (hb hby at_304) (fun _ _ => ⟨rfl, e166, (by decide : 3 + 0 ≤ _), (by decide : 8 + 0 ≤ _)⟩)
    dsimp only [Pt.U, Pt.locs, Pt.cells, Pt.slots] at X169 l169 y169 z169 st169 hQ169
    subst l169 y169 z169
    obtain ⟨rfl, N169q, e169⟩ := hQ169
    have N169 := Fr.app N166 N169q
    have go170 : ∀ t, Steps p.tables e below (T169.setTop (mkF m 307 #[.val (.int p1), .val (.int p2), .val (.int p3), .val (.int p4), .val (.int p5), .val (.int p6), .val (.int (3 : Int32)), .val (.int s0), .val (.int s1), .val (.int s2), .val (.int s3), .val (.int u0), .val (.int u2), .val (.int u1), .val (.int u3), .val (.int w1), .val (.int w2), .val (.int (p2 &&& (3 : Int32))), .val (.int e1), .val (.int (((p1.toUInt32 >>> ((3 : Int32) &&& 31).toUInt32).toInt32) &&& (3 : Int32))), .val (.int q1), .val (.ref b143), .unset] [(.int (own_below (1 : Int32) w2 q1)), (.int ((own_below (1 : Int32) u0 q1) + (own_below (1 : Int32) w1 q1)))])) t → Steps p.tables e below (s₁.setTop (entryFrame m #[(.int p1), (.int p2), (.int p3), (.int p4), (.int p5), (.int p6)] maxLocals)) t := fun t k => go168 t (st169 t k)
    have go171 : ∀ t, Steps p.tables e below (T169.setTop (mkF m 323 #[.val (.int p1), .val (.int p2), .val (.int p3), .val (.int p4), .val (.int p5), .val (.int p6), .val (.int (3 : Int32)), .val (.int s0), .val (.int s1), .val (.int s2), .val (.int s3), .val (.int u0), .val (.int u2), .val (.int u1), .val (.int u3), .val (.int w1), .val (.int w2), .val (.int (p2 &&& (3 : Int32))), .val (.int e1), .val (.int (((p1.toUInt32 >>> ((3 : Int32) &&& 31).toUInt32).toInt32) &&& (3 : Int32))), .val (.int q1), .val (.ref b143), .unset] [(.int q1), (.int u3), (.int (0 : Int32)), (.int (((own_below (1 : Int32) u0 q1) + (own_below (1 : Int32) w1 q1)) + (own_below (1 : Int32) w2 q1)))])) t → Steps p.tables e below (s₁.setTop (entryFrame m #[(.int p1), (.int p2), (.int p3), (.int p4), (.int p5), (.int p6)] maxLocals)) t := fun t k => go170 t (by
      show Steps p.tables e below (T169.setTop (mkF m 307 #[.val (.int p1), .val (.int p2), .val (.int p3), .val (.int p4), .val (.int p5), .val (.int p6), .val (.int (3 : Int32)), .val (.int s0), .val (.int s1), .val (.int s2), .val (.int s3), .val (.int u0), .val (.int u2), .val (.int u1), .val (.int u3), .val (.int w1), .val (.int w2), .val (.int (p2 &&& (3 : Int32))), .val (.int e1), .val (.int (((p1.toUInt32 >>> ((3 : Int32) &&& 31).toUInt32).toInt32) &&& (3 : Int32))), .val (.int q1), .val (.ref b143), .unset] [(.int (own_below (1 : Int32) w2 q1)), (.int ((own_below (1 : Int32) u0 q1) + (own_below (1 : Int32) w1 q1)))])) _
      refine XS.iadd X169.here hx rfl (hb hby at_307) rfl ?_
      show Steps p.tables e below (T169.setTop (mkF m 308 #[.val (.int p1), .val (.int p2), .val (.int p3), .val (.int p4), .val (.int p5), .val (.int p6), .val (.int (3 : Int32)), .val (.int s0), .val (.int s1), .val (.int s2), .val (.int s3), .val (.int u0), .val (.int u2), .val (.int u1), .val (.int u3), .val (.int w1), .val (.int w2), .val (.int (p2 &&& (3 : Int32))), .val (.int e1), .val (.int (((p1.toUInt32 >>> ((3 : Int32) &&& 31).toUInt32).toInt32) &&& (3 : Int32))), .val (.int q1), .val (.ref b143), .unset] [(.int (((own_below (1 : Int32) u0 q1) + (own_below (1 : Int32) w1 q1)) + (own_below (1 : Int32) w2 q1)))])) _
      refine XS.iload X169.here hx rfl (hb hby at_308) rfl ?_
      show Steps p.tables e below (T169.setTop (mkF m 310 #[.val (.int p1), .val (.int p2), .val (.int p3), .val (.int p4), .val (.int p5), .val (.int p6), .val (.int (3 : Int32)), .val (.int s0), .val (.int s1), .val (.int s2), .val (.int s3), .val (.int u0), .val (.int u2), .val (.int u1), .val (.int u3), .val (.int w1), .val (.int w2), .val (.int (p2 &&& (3 : Int32))), .val (.int e1), .val (.int (((p1.toUInt32 >>> ((3 : Int32) &&& 31).toUInt32).toInt32) &&& (3 : Int32))), .val (.int q1), .val (.ref b143), .unset] [(.int (3 : Int32)), (.int (((own_below (1 : Int32) u0 q1) + (own_below (1 : Int32) w1 q1)) + (own_below (1 : Int32) w2 q1)))])) _
      refine XS.iconst X169.here hx rfl (hb hby at_310) ?_
      show Steps p.tables e below (T169.setTop (mkF m 311 #[.val (.int p1), .val (.int p2), .val (.int p3), .val (.int p4), .val (.int p5), .val (.int p6), .val (.int (3 : Int32)), .val (.int s0), .val (.int s1), .val (.int s2), .val (.int s3), .val (.int u0), .val (.int u2), .val (.int u1), .val (.int u3), .val (.int w1), .val (.int w2), .val (.int (p2 &&& (3 : Int32))), .val (.int e1), .val (.int (((p1.toUInt32 >>> ((3 : Int32) &&& 31).toUInt32).toInt32) &&& (3 : Int32))), .val (.int q1), .val (.ref b143), .unset] [(.int (3 : Int32)), (.int (3 : Int32)), (.int (((own_below (1 : Int32) u0 q1) + (own_below (1 : Int32) w1 q1)) + (own_below (1 : Int32) w2 q1)))])) _
      refine XS.icmpYes X169.here hx rfl (pc0 := 311) (pc' := 318) rfl (hb hby at_311) rfl (flt (by decide : ¬ ((3 : Int32) < (3 : Int32)))).2.2.2 (by decide) (by decide) ?_
      show Steps p.tables e below (T169.setTop (mkF m 318 #[.val (.int p1), .val (.int p2), .val (.int p3), .val (.int p4), .val (.int p5), .val (.int p6), .val (.int (3 : Int32)), .val (.int s0), .val (.int s1), .val (.int s2), .val (.int s3), .val (.int u0), .val (.int u2), .val (.int u1), .val (.int u3), .val (.int w1), .val (.int w2), .val (.int (p2 &&& (3 : Int32))), .val (.int e1), .val (.int (((p1.toUInt32 >>> ((3 : Int32) &&& 31).toUInt32).toInt32) &&& (3 : Int32))), .val (.int q1), .val (.ref b143), .unset] [(.int (((own_below (1 : Int32) u0 q1) + (own_below (1 : Int32) w1 q1)) + (own_below (1 : Int32) w2 q1)))])) _
      refine XS.iconst X169.here hx rfl (hb hby at_318) ?_
      show Steps p.tables e below (T169.setTop (mkF m 319 #[.val (.int p1), .val (.int p2), .val (.int p3), .val (.int p4), .val (.int p5), .val (.int p6), .val (.int (3 : Int32)), .val (.int s0), .val (.int s1), .val (.int s2), .val (.int s3), .val (.int u0), .val (.int u2), .val (.int u1), .val (.int u3), .val (.int w1), .val (.int w2), .val (.int (p2 &&& (3 : Int32))), .val (.int e1), .val (.int (((p1.toUInt32 >>> ((3 : Int32) &&& 31).toUInt32).toInt32) &&& (3 : Int32))), .val (.int q1), .val (.ref b143), .unset] [(.int (0 : Int32)), (.int (((own_below (1 : Int32) u0 q1) + (own_below (1 : Int32) w1 q1)) + (own_below (1 : Int32) w2 q1)))])) _
      refine XS.iload X169.here hx rfl (hb hby at_319) rfl ?_
      show Steps p.tables e below (T169.setTop (mkF m 321 #[.val (.int p1), .val (.int p2), .val (.int p3), .val (.int p4), .val (.int p5), .val (.int p6), .val (.int (3 : Int32)), .val (.int s0), .val (.int s1), .val (.int s2), .val (.int s3), .val (.int u0), .val (.int u2), .val (.int u1), .val (.int u3), .val (.int w1), .val (.int w2), .val (.int (p2 &&& (3 : Int32))), .val (.int e1), .val (.int (((p1.toUInt32 >>> ((3 : Int32) &&& 31).toUInt32).toInt32) &&& (3 : Int32))), .val (.int q1), .val (.ref b143), .unset] [(.int u3), (.int (0 : Int32)), (.int (((own_below (1 : Int32) u0 q1) + (own_below (1 : Int32) w1 q1)) + (own_below (1 : Int32) w2 q1)))])) _
      refine XS.iload X169.here hx rfl (hb hby at_321) rfl ?_
      exact k)
    obtain ⟨_, _, ⟨T172, L172, k172, n172⟩, -, X172, ⟨Lc172, hQ172, l172, y172, z172⟩, st172⟩ := Jvm.LawKit.callS X169 hx (y := (⟨"com/example/halting_hound/haltinghound/IntListFirstAtLeastPinLaw", "below", "(ZII)I"⟩ : MethodName)) hown (mvT hZ (hw _ (List.mem_of_getElem? (i := 19) rfl))) (mvT hZ (hw _ (List.mem_of_getElem? (i := 20) rfl))) (mvT hZ (hw _ (List.mem_of_getElem? (i := 21) rfl))) (mvT hZ (hw _ (List.mem_of_getElem? (i := 22) rfl))) (by decide) (backOf (W := 1) (rm_bl l Z a0 hw [] (0 : Int32) u3 q1 h158 n0 (Nat.le_trans (Nat.le_trans (Nat.le_trans (Nat.le_trans (Nat.le_trans Z0 E143.1) K146.1) K150.1) K154.1) K158.1) ) hZ (hw _ (List.mem_of_getElem? (i := 22) rfl)) (hw _ (List.mem_of_getElem? (i := 21) rfl)) (by decide) (by decide)) (g := (mkF m 323 #[.val (.int p1), .val (.int p2), .val (.int p3), .val (.int p4), .val (.int p5), .val (.int p6), .val (.int (3 : Int32)), .val (.int s0), .val (.int s1), .val (.int s2), .val (.int s3), .val (.int u0), .val (.int u2), .val (.int u1), .val (.int u3), .val (.int w1), .val (.int w2), .val (.int (p2 &&& (3 : Int32))), .val (.int e1), .val (.int (((p1.toUInt32 >>> ((3 : Int32) &&& 31).toUInt32).toInt32) &&& (3 : Int32))), .val (.int q1), .val (.ref b143), .unset] [(.int q1), (.int u3), (.int (0 : Int32)), (.int (((own_below (1 : Int32) u0 q1) + (own_below (1 : Int32) w1 q1)) + (own_below (1 : Int32) w2 q1)))])) rfl (by rw [hml]; rfl) (argsL := [(.int (0 : Int32)), (.int u3), (.int q1)]) (rest := [(.int (((own_below (1 : Int32) u0 q1) + (own_below (1 : Int32) w1 q1)) + (own_below (1 : Int32) w2 q1)))]) (lenOf pd_3 rfl) rfl (by show 2 * 0 + _ ≤ _; exact Nat.le_of_eq rfl) (hb hby at_323) (fun _ _ => ⟨rfl, e169, (by decide : 3 + 0 ≤ _), (by decide : 8 + 0 ≤ _)⟩)
    dsimp only [Pt.U, Pt.locs, Pt.cells, Pt.slots] at X172 l172 y172 z172 st172 hQ172
    subst l172 y172 z172
    obtain ⟨rfl, N172q, e172⟩ := hQ172
    have N172 := Fr.app N169 N172q
    have go173 : ∀ t, Steps p.tables e below (T172.setTop (mkF m 326 #[.val (.int p1), .val (.int p2), .val (.int p3), .val (.int p4), .val (.int p5), .val (.int p6), .val (.int (3 : Int32)), .val (.int s0), .val (.int s1), .val (.int s2), .val (.int s3), .val (.int u0), .val (.int u2), .val (.int u1), .val (.int u3), .val (.int w1), .val (.int w2), .val (.int (p2 &&& (3 : Int32))), .val (.int e1), .val (.int (((p1.toUInt32 >>> ((3 : Int32) &&& 31).toUInt32).toInt32) &&& (3 : Int32))), .val (.int q1), .val (.ref b143), .unset] [(.int (own_below (0 : Int32) u3 q1)), (.int (((own_below (1 : Int32) u0 q1) + (own_below (1 : Int32) w1 q1)) + (own_below (1 : Int32) w2 q1)))])) t → Steps p.tables e below (s₁.setTop (entryFrame m #[(.int p1), (.int p2), (.int p3), (.int p4), (.int p5), (.int p6)] maxLocals)) t := fun t k => go171 t (st172 t k)
    have go174 : ∀ t, Steps p.tables e below (T172.setTop (mkF m 333 #[.val (.int p1), .val (.int p2), .val (.int p3), .val (.int p4), .val (.int p5), .val (.int p6), .val (.int (3 : Int32)), .val (.int s0), .val (.int s1), .val (.int s2), .val (.int s3), .val (.int u0), .val (.int u2), .val (.int u1), .val (.int u3), .val (.int w1), .val (.int w2), .val (.int (p2 &&& (3 : Int32))), .val (.int e1), .val (.int (((p1.toUInt32 >>> ((3 : Int32) &&& 31).toUInt32).toInt32) &&& (3 : Int32))), .val (.int q1), .val (.ref b143), .val (.int ((((own_below (1 : Int32) u0 q1) + (own_below (1 : Int32) w1 q1)) + (own_below (1 : Int32) w2 q1)) + (own_below (0 : Int32) u3 q1)))] [(.int q1), (.ref b143)])) t → Steps p.tables e below (s₁.setTop (entryFrame m #[(.int p1), (.int p2), (.int p3), (.int p4), (.int p5), (.int p6)] maxLocals)) t := fun t k => go173 t (by
      show Steps p.tables e below (T172.setTop (mkF m 326 #[.val (.int p1), .val (.int p2), .val (.int p3), .val (.int p4), .val (.int p5), .val (.int p6), .val (.int (3 : Int32)), .val (.int s0), .val (.int s1), .val (.int s2), .val (.int s3), .val (.int u0), .val (.int u2), .val (.int u1), .val (.int u3), .val (.int w1), .val (.int w2), .val (.int (p2 &&& (3 : Int32))), .val (.int e1), .val (.int (((p1.toUInt32 >>> ((3 : Int32) &&& 31).toUInt32).toInt32) &&& (3 : Int32))), .val (.int q1), .val (.ref b143), .unset] [(.int (own_below (0 : Int32) u3 q1)), (.int (((own_below (1 : Int32) u0 q1) + (own_below (1 : Int32) w1 q1)) + (own_below (1 : Int32) w2 q1)))])) _
      refine XS.iadd X172.here hx rfl (hb hby at_326) rfl ?_
      show Steps p.tables e below (T172.setTop (mkF m 327 #[.val (.int p1), .val (.int p2), .val (.int p3), .val (.int p4), .val (.int p5), .val (.int p6), .val (.int (3 : Int32)), .val (.int s0), .val (.int s1), .val (.int s2), .val (.int s3), .val (.int u0), .val (.int u2), .val (.int u1), .val (.int u3), .val (.int w1), .val (.int w2), .val (.int (p2 &&& (3 : Int32))), .val (.int e1), .val (.int (((p1.toUInt32 >>> ((3 : Int32) &&& 31).toUInt32).toInt32) &&& (3 : Int32))), .val (.int q1), .val (.ref b143), .unset] [(.int ((((own_below (1 : Int32) u0 q1) + (own_below (1 : Int32) w1 q1)) + (own_below (1 : Int32) w2 q1)) + (own_below (0 : Int32) u3 q1)))])) _
      refine XS.istore X172.here hx rfl (hb hby at_327) rfl (l' := #[.val (.int p1), .val (.int p2), .val (.int p3), .val (.int p4), .val (.int p5), .val (.int p6), .val (.int (3 : Int32)), .val (.int s0), .val (.int s1), .val (.int s2), .val (.int s3), .val (.int u0), .val (.int u2), .val (.int u1), .val (.int u3), .val (.int w1), .val (.int w2), .val (.int (p2 &&& (3 : Int32))), .val (.int e1), .val (.int (((p1.toUInt32 >>> ((3 : Int32) &&& 31).toUInt32).toInt32) &&& (3 : Int32))), .val (.int q1), .val (.ref b143), .val (.int ((((own_below (1 : Int32) u0 q1) + (own_below (1 : Int32) w1 q1)) + (own_below (1 : Int32) w2 q1)) + (own_below (0 : Int32) u3 q1)))]) rfl ?_
      show Steps p.tables e below (T172.setTop (mkF m 329 #[.val (.int p1), .val (.int p2), .val (.int p3), .val (.int p4), .val (.int p5), .val (.int p6), .val (.int (3 : Int32)), .val (.int s0), .val (.int s1), .val (.int s2), .val (.int s3), .val (.int u0), .val (.int u2), .val (.int u1), .val (.int u3), .val (.int w1), .val (.int w2), .val (.int (p2 &&& (3 : Int32))), .val (.int e1), .val (.int (((p1.toUInt32 >>> ((3 : Int32) &&& 31).toUInt32).toInt32) &&& (3 : Int32))), .val (.int q1), .val (.ref b143), .val (.int ((((own_below (1 : Int32) u0 q1) + (own_below (1 : Int32) w1 q1)) + (own_below (1 : Int32) w2 q1)) + (own_below (0 : Int32) u3 q1)))] [])) _
      refine XS.aload X172.here hx rfl (hb hby at_329) rfl rfl ?_
      show Steps p.tables e below (T172.setTop (mkF m 331 #[.val (.int p1), .val (.int p2), .val (.int p3), .val (.int p4), .val (.int p5), .val (.int p6), .val (.int (3 : Int32)), .val (.int s0), .val (.int s1), .val (.int s2), .val (.int s3), .val (.int u0), .val (.int u2), .val (.int u1), .val (.int u3), .val (.int w1), .val (.int w2), .val (.int (p2 &&& (3 : Int32))), .val (.int e1), .val (.int (((p1.toUInt32 >>> ((3 : Int32) &&& 31).toUInt32).toInt32) &&& (3 : Int32))), .val (.int q1), .val (.ref b143), .val (.int ((((own_below (1 : Int32) u0 q1) + (own_below (1 : Int32) w1 q1)) + (own_below (1 : Int32) w2 q1)) + (own_below (0 : Int32) u3 q1)))] [(.ref b143)])) _
      refine XS.iload X172.here hx rfl (hb hby at_331) rfl ?_
      exact k)
    obtain ⟨cq175, kq175, q175a, q175b, q175c⟩ := isOf hZ e172 f160
    obtain ⟨_, _, ⟨T175, L175, k175, n175⟩, -, X175, ⟨Lc175, hQ175, l175, y175, z175⟩, st175⟩ := X172.virtualBack hx (y := (⟨"com/example/halting_hound/haltinghound/IntList", "firstAtLeast", "(I)I"⟩ : MethodName)) (z := (⟨"com/example/halting_hound/haltinghound/IntList", "firstAtLeast", "(I)I"⟩ : MethodName)) hown (mvT hZ (hw _ (List.mem_of_getElem? (i := 23) rfl))) (mvT hZ (hw _ (List.mem_of_getElem? (i := 24) rfl))) (notFace_of_selects (args := #[]) (mvT hZ (hw _ (List.mem_of_getElem? (i := 26) rfl)))) (mvT hZ (hw _ (List.mem_of_getElem? (i := 26) rfl))) (mvT hZ (hw _ (List.mem_of_getElem? (i := 25) rfl))) (by decide) (backOf (W := 0) (rm_fal3 l Z a0 hw [] b143 q1 b158 k158 u0 w1 w2 h158 n0 (Nat.le_trans (Nat.le_trans (Nat.le_trans (Nat.le_trans (Nat.le_trans Z0 E143.1) K146.1) K150.1) K154.1) K158.1) f160 F158v F158z V158) hZ (hw _ (List.mem_of_getElem? (i := 27) rfl)) (hw _ (List.mem_of_getElem? (i := 9) rfl)) (by decide) (by decide)) q175a q175c (g := (mkF m 333 #[.val (.int p1), .val (.int p2), .val (.int p3), .val (.int p4), .val (.int p5), .val (.int p6), .val (.int (3 : Int32)), .val (.int s0), .val (.int s1), .val (.int s2), .val (.int s3), .val (.int u0), .val (.int u2), .val (.int u1), .val (.int u3), .val (.int w1), .val (.int w2), .val (.int (p2 &&& (3 : Int32))), .val (.int e1), .val (.int (((p1.toUInt32 >>> ((3 : Int32) &&& 31).toUInt32).toInt32) &&& (3 : Int32))), .val (.int q1), .val (.ref b143), .val (.int ((((own_below (1 : Int32) u0 q1) + (own_below (1 : Int32) w1 q1)) + (own_below (1 : Int32) w2 q1)) + (own_below (0 : Int32) u3 q1)))] [(.int q1), (.ref b143)])) rfl (by rw [hml]; rfl) (Steps.refl _) (argsL := [(.int q1)]) (rest := []) (lenOf pd_4 rfl) rfl (by show 2 * 0 + _ ≤ _; exact Nat.le_of_eq rfl) (hb hby at_333) (fun _ _ => ⟨rfl, e172, (by decide : 3 + 0 ≤ _), (by decide : 8 + 0 ≤ _)⟩)
    dsimp only [Pt.U, Pt.locs, Pt.cells, Pt.slots] at X175 l175 y175 z175 st175 hQ175
    subst l175 y175 z175
    obtain ⟨rfl, N175q, e175⟩ := hQ175
    have N175 := Fr.app N172 N175q
    have go176 : ∀ t, Steps p.tables e below (T175.setTop (mkF m 336 #[.val (.int p1), .val (.int p2), .val (.int p3), .val (.int p4), .val (.int p5), .val (.int p6), .val (.int (3 : Int32)), .val (.int s0), .val (.int s1), .val (.int s2), .val (.int s3), .val (.int u0), .val (.int u2), .val (.int u1), .val (.int u3), .val (.int w1), .val (.int w2), .val (.int (p2 &&& (3 : Int32))), .val (.int e1), .val (.int (((p1.toUInt32 >>> ((3 : Int32) &&& 31).toUInt32).toInt32) &&& (3 : Int32))), .val (.int q1), .val (.ref b143), .val (.int ((((own_below (1 : Int32) u0 q1) + (own_below (1 : Int32) w1 q1)) + (own_below (1 : Int32) w2 q1)) + (own_below (0 : Int32) u3 q1)))] [(.int (own_fal3 q1 u0 w1 w2))])) t → Steps p.tables e below (s₁.setTop (entryFrame m #[(.int p1), (.int p2), (.int p3), (.int p4), (.int p5), (.int p6)] maxLocals)) t := fun t k => go174 t (st175.trans k)
    have go177 : ∀ t, Steps p.tables e below (T175.setTop (mkF m 346 #[.val (.int p1), .val (.int p2), .val (.int p3), .val (.int p4), .val (.int p5), .val (.int p6), .val (.int (3 : Int32)), .val (.int s0), .val (.int s1), .val (.int s2), .val (.int s3), .val (.int u0), .val (.int u2), .val (.int u1), .val (.int u3), .val (.int w1), .val (.int w2), .val (.int (p2 &&& (3 : Int32))), .val (.int e1), .val (.int (((p1.toUInt32 >>> ((3 : Int32) &&& 31).toUInt32).toInt32) &&& (3 : Int32))), .val (.int q1), .val (.ref b143), .val (.int ((((own_below (1 : Int32) u0 q1) + (own_below (1 : Int32) w1 q1)) + (own_below (1 : Int32) w2 q1)) + (own_below (0 : Int32) u3 q1)))] [(.int (1 : Int32))])) t → Steps p.tables e below (s₁.setTop (entryFrame m #[(.int p1), (.int p2), (.int p3), (.int p4), (.int p5), (.int p6)] maxLocals)) t := fun t k => go176 t (by
      show Steps p.tables e below (T175.setTop (mkF m 336 #[.val (.int p1), .val (.int p2), .val (.int p3), .val (.int p4), .val (.int p5), .val (.int p6), .val (.int (3 : Int32)), .val (.int s0), .val (.int s1), .val (.int s2), .val (.int s3), .val (.int u0), .val (.int u2), .val (.int u1), .val (.int u3), .val (.int w1), .val (.int w2), .val (.int (p2 &&& (3 : Int32))), .val (.int e1), .val (.int (((p1.toUInt32 >>> ((3 : Int32) &&& 31).toUInt32).toInt32) &&& (3 : Int32))), .val (.int q1), .val (.ref b143), .val (.int ((((own_below (1 : Int32) u0 q1) + (own_below (1 : Int32) w1 q1)) + (own_below (1 : Int32) w2 q1)) + (own_below (0 : Int32) u3 q1)))] [(.int (own_fal3 q1 u0 w1 w2))])) _
      refine XS.iload X175.here hx rfl (hb hby at_336) rfl ?_
      show Steps p.tables e below (T175.setTop (mkF m 338 #[.val (.int p1), .val (.int p2), .val (.int p3), .val (.int p4), .val (.int p5), .val (.int p6), .val (.int (3 : Int32)), .val (.int s0), .val (.int s1), .val (.int s2), .val (.int s3), .val (.int u0), .val (.int u2), .val (.int u1), .val (.int u3), .val (.int w1), .val (.int w2), .val (.int (p2 &&& (3 : Int32))), .val (.int e1), .val (.int (((p1.toUInt32 >>> ((3 : Int32) &&& 31).toUInt32).toInt32) &&& (3 : Int32))), .val (.int q1), .val (.ref b143), .val (.int ((((own_below (1 : Int32) u0 q1) + (own_below (1 : Int32) w1 q1)) + (own_below (1 : Int32) w2 q1)) + (own_below (0 : Int32) u3 q1)))] [(.int ((((own_below (1 : Int32) u0 q1) + (own_below (1 : Int32) w1 q1)) + (own_below (1 : Int32) w2 q1)) + (own_below (0 : Int32) u3 q1))), (.int (own_fal3 q1 u0 w1 w2))])) _
      refine XS.icmpNo X175.here hx rfl (hb hby at_338) rfl (teq (own_law3 q1 u0 w1 w2 u3 hs1 hs2 hs3)).2 ?_
      show Steps p.tables e below (T175.setTop (mkF m 341 #[.val (.int p1), .val (.int p2), .val (.int p3), .val (.int p4), .val (.int p5), .val (.int p6), .val (.int (3 : Int32)), .val (.int s0), .val (.int s1), .val (.int s2), .val (.int s3), .val (.int u0), .val (.int u2), .val (.int u1), .val (.int u3), .val (.int w1), .val (.int w2), .val (.int (p2 &&& (3 : Int32))), .val (.int e1), .val (.int (((p1.toUInt32 >>> ((3 : Int32) &&& 31).toUInt32).toInt32) &&& (3 : Int32))), .val (.int q1), .val (.ref b143), .val (.int ((((own_below (1 : Int32) u0 q1) + (own_below (1 : Int32) w1 q1)) + (own_below (1 : Int32) w2 q1)) + (own_below (0 : Int32) u3 q1)))] [])) _
      refine XS.iconst X175.here hx rfl (hb hby at_341) ?_
      show Steps p.tables e below (T175.setTop (mkF m 342 #[.val (.int p1), .val (.int p2), .val (.int p3), .val (.int p4), .val (.int p5), .val (.int p6), .val (.int (3 : Int32)), .val (.int s0), .val (.int s1), .val (.int s2), .val (.int s3), .val (.int u0), .val (.int u2), .val (.int u1), .val (.int u3), .val (.int w1), .val (.int w2), .val (.int (p2 &&& (3 : Int32))), .val (.int e1), .val (.int (((p1.toUInt32 >>> ((3 : Int32) &&& 31).toUInt32).toInt32) &&& (3 : Int32))), .val (.int q1), .val (.ref b143), .val (.int ((((own_below (1 : Int32) u0 q1) + (own_below (1 : Int32) w1 q1)) + (own_below (1 : Int32) w2 q1)) + (own_below (0 : Int32) u3 q1)))] [(.int (1 : Int32))])) _
      refine XS.goto X175.here hx rfl (pc0 := 342) (pc' := 346) rfl (hb hby at_342) (by decide) (by decide) ?_
      exact k)
    obtain ⟨fs, hr, hrun, hended, hW, hsame⟩ := X175.leave (v := some (.int (1 : Int32))) (fun h => by rw [Bd.returns] at h; cases h)
    refine ⟨_, _, go177 _ ?_, hrun, hended, _, _, rfl, ?_, ⟨_, rfl⟩, hW, hsame.mono (by decide) (by decide)⟩
    · exact retN X175 hx (t := .boolean) Bd.returns (by simp) (hb hby at_346) hr
    · show QL n0 _ T175.heap _
      rw [e175]
      exact ⟨rfl, N175⟩
  · rw [hn] at go64
    obtain ⟨T178, h178, X178, e178, E178, A178, D178, -, st178⟩ := newO X38 hx hZ hown (hw _ (List.mem_of_getElem? (i := 7) rfl)) (hw _ (List.mem_of_getElem? (i := 8) rfl)) (hw _ (List.mem_of_getElem? (i := 9) rfl)) e38 (g := (mkF m 193 #[.val (.int p1), .val (.int p2), .val (.int p3), .val (.int p4), .val (.int p5), .val (.int p6), .val (.int (4 : Int32)), .val (.int s0), .val (.int s1), .val (.int s2), .val (.int s3), .val (.int u0), .val (.int u2), .val (.int u1), .val (.int u3), .val (.int w1), .val (.int w2), .val (.int (p2 &&& (3 : Int32))), .val (.int e1), .val (.int (((p1.toUInt32 >>> ((3 : Int32) &&& 31).toUInt32).toInt32) &&& (3 : Int32))), .val (.int q1), .unset, .unset] [])) rfl (hb hby at_193) (by decide) (by decide)
    obtain ⟨b178, g178⟩ : ∃ z, z = h0.size := ⟨_, rfl⟩
    rw [← g178] at A178 D178 st178
    have g_b178 : n0 ≤ b178 := Nat.le_trans Z0 (Nat.le_of_eq g178.symm)
    have F178_values : Fld Z h178 b178 "com/example/halting_hound/haltinghound/IntList" "values" "[I" .null := D178 (Or.inl (hw _ (List.mem_of_getElem? (i := 18) rfl))) (ty := (.array .int)) (by decide)
    have F178_size : Fld Z h178 b178 "com/example/halting_hound/haltinghound/IntList" "size" "I" (.int (0 : Int32)) := D178 (Or.inl (hw _ (List.mem_of_getElem? (i := 29) rfl))) (ty := .int) (by decide)
    have go179 : ∀ t, Steps p.tables e below (T178.setTop (mkF m 196 #[.val (.int p1), .val (.int p2), .val (.int p3), .val (.int p4), .val (.int p5), .val (.int p6), .val (.int (4 : Int32)), .val (.int s0), .val (.int s1), .val (.int s2), .val (.int s3), .val (.int u0), .val (.int u2), .val (.int u1), .val (.int u3), .val (.int w1), .val (.int w2), .val (.int (p2 &&& (3 : Int32))), .val (.int e1), .val (.int (((p1.toUInt32 >>> ((3 : Int32) &&& 31).toUInt32).toInt32) &&& (3 : Int32))), .val (.int q1), .unset, .unset] [(.ref b178)])) t → Steps p.tables e below (s₁.setTop (entryFrame m #[(.int p1), (.int p2), (.int p3), (.int p4), (.int p5), (.int p6)] maxLocals)) t := fun t k => go64 t (st178 t k)
    have go180 : ∀ t, Steps p.tables e below (T178.setTop (mkF m 197 #[.val (.int p1), .val (.int p2), .val (.int p3), .val (.int p4), .val (.int p5), .val (.int p6), .val (.int (4 : Int32)), .val (.int s0), .val (.int s1), .val (.int s2), .val (.int s3), .val (.int u0), .val (.int u2), .val (.int u1), .val (.int u3), .val (.int w1), .val (.int w2), .val (.int (p2 &&& (3 : Int32))), .val (.int e1), .val (.int (((p1.toUInt32 >>> ((3 : Int32) &&& 31).toUInt32).toInt32) &&& (3 : Int32))), .val (.int q1), .unset, .unset] [(.ref b178), (.ref b178)])) t → Steps p.tables e below (s₁.setTop (entryFrame m #[(.int p1), (.int p2), (.int p3), (.int p4), (.int p5), (.int p6)] maxLocals)) t := fun t k => go179 t (by
      show Steps p.tables e below (T178.setTop (mkF m 196 #[.val (.int p1), .val (.int p2), .val (.int p3), .val (.int p4), .val (.int p5), .val (.int p6), .val (.int (4 : Int32)), .val (.int s0), .val (.int s1), .val (.int s2), .val (.int s3), .val (.int u0), .val (.int u2), .val (.int u1), .val (.int u3), .val (.int w1), .val (.int w2), .val (.int (p2 &&& (3 : Int32))), .val (.int e1), .val (.int (((p1.toUInt32 >>> ((3 : Int32) &&& 31).toUInt32).toInt32) &&& (3 : Int32))), .val (.int q1), .unset, .unset] [(.ref b178)])) _
      refine XS.dup X178.here hx rfl (hb hby at_196) rfl rfl ?_
      exact k)
    obtain ⟨_, _, ⟨T181, L181, k181, n181⟩, -, X181, ⟨Lc181, hQ181, l181, y181, z181⟩, st181⟩ := X178.specialBack hx (y := (⟨"com/example/halting_hound/haltinghound/IntList", "<init>", "()V"⟩ : MethodName)) rfl hown (mvT hZ (hw _ (List.mem_of_getElem? (i := 10) rfl))) (mvT hZ (hw _ (List.mem_of_getElem? (i := 11) rfl))) (mvT hZ (hw _ (List.mem_of_getElem? (i := 12) rfl))) (by decide) (backOf (W := 1) (rm_ini l Z a0 hw [] b178 _ h178 n0 (Nat.le_trans Z0 E178.1) A178 F178_values F178_size g_b178) hZ (hw _ (List.mem_of_getElem? (i := 12) rfl)) (hw _ (List.mem_of_getElem? (i := 9) rfl)) (by decide) (by decide)) (g := (mkF m 197 #[.val (.int p1), .val (.int p2), .val (.int p3), .val (.int p4), .val (.int p5), .val (.int p6), .val (.int (4 : Int32)), .val (.int s0), .val (.int s1), .val (.int s2), .val (.int s3), .val (.int u0), .val (.int u2), .val (.int u1), .val (.int u3), .val (.int w1), .val (.int w2), .val (.int (p2 &&& (3 : Int32))), .val (.int e1), .val (.int (((p1.toUInt32 >>> ((3 : Int32) &&& 31).toUInt32).toInt32) &&& (3 : Int32))), .val (.int q1), .unset, .unset] [(.ref b178), (.ref b178)])) rfl (by rw [hml]; rfl) (Steps.refl _) (a := b178) (argsL := []) (rest := [(.ref b178)]) (lenOf pd_2 rfl) rfl (by show 2 * 0 + _ ≤ _; exact Nat.le_of_eq rfl) (hb hby at_197) (fun _ _ => ⟨rfl, e178, (by decide : 1 + 1 ≤ _), (by decide : 2 + 2 ≤ _)⟩)
    dsimp only [Pt.U, Pt.locs, Pt.cells, Pt.slots] at X181 l181 y181 z181 st181 hQ181
    subst l181 y181 z181
    obtain ⟨h181, e181⟩ : ∃ z, T181.heap = z := ⟨_, rfl⟩
    rw [e181] at hQ181
    obtain ⟨rfl, N181q, K181, F181z, b181, k181, g181, ne181, F181v, V181⟩ := hQ181
    have N181 := Fr.app N38 N181q
    have go182 : ∀ t, Steps p.tables e below (T181.setTop (mkF m 200 #[.val (.int p1), .val (.int p2), .val (.int p3), .val (.int p4), .val (.int p5), .val (.int p6), .val (.int (4 : Int32)), .val (.int s0), .val (.int s1), .val (.int s2), .val (.int s3), .val (.int u0), .val (.int u2), .val (.int u1), .val (.int u3), .val (.int w1), .val (.int w2), .val (.int (p2 &&& (3 : Int32))), .val (.int e1), .val (.int (((p1.toUInt32 >>> ((3 : Int32) &&& 31).toUInt32).toInt32) &&& (3 : Int32))), .val (.int q1), .unset, .unset] [(.ref b178)])) t → Steps p.tables e below (s₁.setTop (entryFrame m #[(.int p1), (.int p2), (.int p3), (.int p4), (.int p5), (.int p6)] maxLocals)) t := fun t k => go180 t (st181.trans k)
    have f183 := A178.keep K181
    have go184 : ∀ t, Steps p.tables e below (T181.setTop (mkF m 211 #[.val (.int p1), .val (.int p2), .val (.int p3), .val (.int p4), .val (.int p5), .val (.int p6), .val (.int (4 : Int32)), .val (.int s0), .val (.int s1), .val (.int s2), .val (.int s3), .val (.int u0), .val (.int u2), .val (.int u1), .val (.int u3), .val (.int w1), .val (.int w2), .val (.int (p2 &&& (3 : Int32))), .val (.int e1), .val (.int (((p1.toUInt32 >>> ((3 : Int32) &&& 31).toUInt32).toInt32) &&& (3 : Int32))), .val (.int q1), .val (.ref b178), .unset] [(.int u0), (.ref b178)])) t → Steps p.tables e below (s₁.setTop (entryFrame m #[(.int p1), (.int p2), (.int p3), (.int p4), (.int p5), (.int p6)] maxLocals)) t := fun t k => go182 t (by
      show Steps p.tables e below (T181.setTop (mkF m 200 #[.val (.int p1), .val (.int p2), .val (.int p3), .val (.int p4), .val (.int p5), .val (.int p6), .val (.int (4 : Int32)), .val (.int s0), .val (.int s1), .val (.int s2), .val (.int s3), .val (.int u0), .val (.int u2), .val (.int u1), .val (.int u3), .val (.int w1), .val (.int w2), .val (.int (p2 &&& (3 : Int32))), .val (.int e1), .val (.int (((p1.toUInt32 >>> ((3 : Int32) &&& 31).toUInt32).toInt32) &&& (3 : Int32))), .val (.int q1), .unset, .unset] [(.ref b178)])) _
      refine XS.astore X181.here hx rfl (hb hby at_200) rfl rfl (l' := #[.val (.int p1), .val (.int p2), .val (.int p3), .val (.int p4), .val (.int p5), .val (.int p6), .val (.int (4 : Int32)), .val (.int s0), .val (.int s1), .val (.int s2), .val (.int s3), .val (.int u0), .val (.int u2), .val (.int u1), .val (.int u3), .val (.int w1), .val (.int w2), .val (.int (p2 &&& (3 : Int32))), .val (.int e1), .val (.int (((p1.toUInt32 >>> ((3 : Int32) &&& 31).toUInt32).toInt32) &&& (3 : Int32))), .val (.int q1), .val (.ref b178), .unset]) rfl ?_
      show Steps p.tables e below (T181.setTop (mkF m 202 #[.val (.int p1), .val (.int p2), .val (.int p3), .val (.int p4), .val (.int p5), .val (.int p6), .val (.int (4 : Int32)), .val (.int s0), .val (.int s1), .val (.int s2), .val (.int s3), .val (.int u0), .val (.int u2), .val (.int u1), .val (.int u3), .val (.int w1), .val (.int w2), .val (.int (p2 &&& (3 : Int32))), .val (.int e1), .val (.int (((p1.toUInt32 >>> ((3 : Int32) &&& 31).toUInt32).toInt32) &&& (3 : Int32))), .val (.int q1), .val (.ref b178), .unset] [])) _
      refine XS.iload X181.here hx rfl (hb hby at_202) rfl ?_
      show Steps p.tables e below (T181.setTop (mkF m 204 #[.val (.int p1), .val (.int p2), .val (.int p3), .val (.int p4), .val (.int p5), .val (.int p6), .val (.int (4 : Int32)), .val (.int s0), .val (.int s1), .val (.int s2), .val (.int s3), .val (.int u0), .val (.int u2), .val (.int u1), .val (.int u3), .val (.int w1), .val (.int w2), .val (.int (p2 &&& (3 : Int32))), .val (.int e1), .val (.int (((p1.toUInt32 >>> ((3 : Int32) &&& 31).toUInt32).toInt32) &&& (3 : Int32))), .val (.int q1), .val (.ref b178), .unset] [(.int (4 : Int32))])) _
      refine XS.ifNo X181.here hx rfl (hb hby at_204) rfl ((if0 _ _).trans (tlt (by decide : (0 : Int32) < (4 : Int32))).2.2.2) ?_
      show Steps p.tables e below (T181.setTop (mkF m 207 #[.val (.int p1), .val (.int p2), .val (.int p3), .val (.int p4), .val (.int p5), .val (.int p6), .val (.int (4 : Int32)), .val (.int s0), .val (.int s1), .val (.int s2), .val (.int s3), .val (.int u0), .val (.int u2), .val (.int u1), .val (.int u3), .val (.int w1), .val (.int w2), .val (.int (p2 &&& (3 : Int32))), .val (.int e1), .val (.int (((p1.toUInt32 >>> ((3 : Int32) &&& 31).toUInt32).toInt32) &&& (3 : Int32))), .val (.int q1), .val (.ref b178), .unset] [])) _
      refine XS.aload X181.here hx rfl (hb hby at_207) rfl rfl ?_
      show Steps p.tables e below (T181.setTop (mkF m 209 #[.val (.int p1), .val (.int p2), .val (.int p3), .val (.int p4), .val (.int p5), .val (.int p6), .val (.int (4 : Int32)), .val (.int s0), .val (.int s1), .val (.int s2), .val (.int s3), .val (.int u0), .val (.int u2), .val (.int u1), .val (.int u3), .val (.int w1), .val (.int w2), .val (.int (p2 &&& (3 : Int32))), .val (.int e1), .val (.int (((p1.toUInt32 >>> ((3 : Int32) &&& 31).toUInt32).toInt32) &&& (3 : Int32))), .val (.int q1), .val (.ref b178), .unset] [(.ref b178)])) _
      refine XS.iload X181.here hx rfl (hb hby at_209) rfl ?_
      exact k)
    obtain ⟨cq185, kq185, q185a, q185b, q185c⟩ := isOf hZ e181 f183
    obtain ⟨_, _, ⟨T185, L185, k185, n185⟩, -, X185, ⟨Lc185, hQ185, l185, y185, z185⟩, st185⟩ := X181.virtualBack hx (y := (⟨"com/example/halting_hound/haltinghound/IntList", "add", "(I)V"⟩ : MethodName)) (z := (⟨"com/example/halting_hound/haltinghound/IntList", "add", "(I)V"⟩ : MethodName)) hown (mvT hZ (hw _ (List.mem_of_getElem? (i := 30) rfl))) (mvT hZ (hw _ (List.mem_of_getElem? (i := 31) rfl))) (notFace_of_selects (args := #[]) (mvT hZ (hw _ (List.mem_of_getElem? (i := 33) rfl)))) (mvT hZ (hw _ (List.mem_of_getElem? (i := 33) rfl))) (mvT hZ (hw _ (List.mem_of_getElem? (i := 32) rfl))) (by decide) (backOf (W := 0) (rm_add0 l Z a0 hw [] b178 u0 b181 k181  h181 n0 (Nat.le_trans (Nat.le_trans Z0 E178.1) K181.1) f183 F181v F181z V181 g_b178 g181 ne181) hZ (hw _ (List.mem_of_getElem? (i := 34) rfl)) (hw _ (List.mem_of_getElem? (i := 9) rfl)) (by decide) (by decide)) q185a q185c (g := (mkF m 211 #[.val (.int p1), .val (.int p2), .val (.int p3), .val (.int p4), .val (.int p5), .val (.int p6), .val (.int (4 : Int32)), .val (.int s0), .val (.int s1), .val (.int s2), .val (.int s3), .val (.int u0), .val (.int u2), .val (.int u1), .val (.int u3), .val (.int w1), .val (.int w2), .val (.int (p2 &&& (3 : Int32))), .val (.int e1), .val (.int (((p1.toUInt32 >>> ((3 : Int32) &&& 31).toUInt32).toInt32) &&& (3 : Int32))), .val (.int q1), .val (.ref b178), .unset] [(.int u0), (.ref b178)])) rfl (by rw [hml]; rfl) (Steps.refl _) (argsL := [(.int u0)]) (rest := []) (lenOf pd_5 rfl) rfl (by show 2 * 0 + _ ≤ _; exact Nat.le_of_eq rfl) (hb hby at_211) (fun _ _ => ⟨rfl, e181, (by decide : 2 + 0 ≤ _), (by decide : 4 + 0 ≤ _)⟩)
    dsimp only [Pt.U, Pt.locs, Pt.cells, Pt.slots] at X185 l185 y185 z185 st185 hQ185
    subst l185 y185 z185
    obtain ⟨h185, e185⟩ : ∃ z, T185.heap = z := ⟨_, rfl⟩
    rw [e185] at hQ185
    obtain ⟨rfl, N185q, K185, F185z, F185v, V185⟩ := hQ185
    have N185 := Fr.app N181 N185q
    have go186 : ∀ t, Steps p.tables e below (T185.setTop (mkF m 214 #[.val (.int p1), .val (.int p2), .val (.int p3), .val (.int p4), .val (.int p5), .val (.int p6), .val (.int (4 : Int32)), .val (.int s0), .val (.int s1), .val (.int s2), .val (.int s3), .val (.int u0), .val (.int u2), .val (.int u1), .val (.int u3), .val (.int w1), .val (.int w2), .val (.int (p2 &&& (3 : Int32))), .val (.int e1), .val (.int (((p1.toUInt32 >>> ((3 : Int32) &&& 31).toUInt32).toInt32) &&& (3 : Int32))), .val (.int q1), .val (.ref b178), .unset] [])) t → Steps p.tables e below (s₁.setTop (entryFrame m #[(.int p1), (.int p2), (.int p3), (.int p4), (.int p5), (.int p6)] maxLocals)) t := fun t k => go184 t (st185.trans k)
    have f187 := f183.keep K185
    have go188 : ∀ t, Steps p.tables e below (T185.setTop (mkF m 224 #[.val (.int p1), .val (.int p2), .val (.int p3), .val (.int p4), .val (.int p5), .val (.int p6), .val (.int (4 : Int32)), .val (.int s0), .val (.int s1), .val (.int s2), .val (.int s3), .val (.int u0), .val (.int u2), .val (.int u1), .val (.int u3), .val (.int w1), .val (.int w2), .val (.int (p2 &&& (3 : Int32))), .val (.int e1), .val (.int (((p1.toUInt32 >>> ((3 : Int32) &&& 31).toUInt32).toInt32) &&& (3 : Int32))), .val (.int q1), .val (.ref b178), .unset] [(.int w1), (.ref b178)])) t → Steps p.tables e below (s₁.setTop (entryFrame m #[(.int p1), (.int p2), (.int p3), (.int p4), (.int p5), (.int p6)] maxLocals)) t := fun t k => go186 t (by
      show Steps p.tables e below (T185.setTop (mkF m 214 #[.val (.int p1), .val (.int p2), .val (.int p3), .val (.int p4), .val (.int p5), .val (.int p6), .val (.int (4 : Int32)), .val (.int s0), .val (.int s1), .val (.int s2), .val (.int s3), .val (.int u0), .val (.int u2), .val (.int u1), .val (.int u3), .val (.int w1), .val (.int w2), .val (.int (p2 &&& (3 : Int32))), .val (.int e1), .val (.int (((p1.toUInt32 >>> ((3 : Int32) &&& 31).toUInt32).toInt32) &&& (3 : Int32))), .val (.int q1), .val (.ref b178), .unset] [])) _
      refine XS.iload X185.here hx rfl (hb hby at_214) rfl ?_
      show Steps p.tables e below (T185.setTop (mkF m 216 #[.val (.int p1), .val (.int p2), .val (.int p3), .val (.int p4), .val (.int p5), .val (.int p6), .val (.int (4 : Int32)), .val (.int s0), .val (.int s1), .val (.int s2), .val (.int s3), .val (.int u0), .val (.int u2), .val (.int u1), .val (.int u3), .val (.int w1), .val (.int w2), .val (.int (p2 &&& (3 : Int32))), .val (.int e1), .val (.int (((p1.toUInt32 >>> ((3 : Int32) &&& 31).toUInt32).toInt32) &&& (3 : Int32))), .val (.int q1), .val (.ref b178), .unset] [(.int (4 : Int32))])) _
      refine XS.iconst X185.here hx rfl (hb hby at_216) ?_
      show Steps p.tables e below (T185.setTop (mkF m 217 #[.val (.int p1), .val (.int p2), .val (.int p3), .val (.int p4), .val (.int p5), .val (.int p6), .val (.int (4 : Int32)), .val (.int s0), .val (.int s1), .val (.int s2), .val (.int s3), .val (.int u0), .val (.int u2), .val (.int u1), .val (.int u3), .val (.int w1), .val (.int w2), .val (.int (p2 &&& (3 : Int32))), .val (.int e1), .val (.int (((p1.toUInt32 >>> ((3 : Int32) &&& 31).toUInt32).toInt32) &&& (3 : Int32))), .val (.int q1), .val (.ref b178), .unset] [(.int (1 : Int32)), (.int (4 : Int32))])) _
      refine XS.icmpNo X185.here hx rfl (hb hby at_217) rfl (tlt (by decide : (1 : Int32) < (4 : Int32))).2.2.2 ?_
      show Steps p.tables e below (T185.setTop (mkF m 220 #[.val (.int p1), .val (.int p2), .val (.int p3), .val (.int p4), .val (.int p5), .val (.int p6), .val (.int (4 : Int32)), .val (.int s0), .val (.int s1), .val (.int s2), .val (.int s3), .val (.int u0), .val (.int u2), .val (.int u1), .val (.int u3), .val (.int w1), .val (.int w2), .val (.int (p2 &&& (3 : Int32))), .val (.int e1), .val (.int (((p1.toUInt32 >>> ((3 : Int32) &&& 31).toUInt32).toInt32) &&& (3 : Int32))), .val (.int q1), .val (.ref b178), .unset] [])) _
      refine XS.aload X185.here hx rfl (hb hby at_220) rfl rfl ?_
      show Steps p.tables e below (T185.setTop (mkF m 222 #[.val (.int p1), .val (.int p2), .val (.int p3), .val (.int p4), .val (.int p5), .val (.int p6), .val (.int (4 : Int32)), .val (.int s0), .val (.int s1), .val (.int s2), .val (.int s3), .val (.int u0), .val (.int u2), .val (.int u1), .val (.int u3), .val (.int w1), .val (.int w2), .val (.int (p2 &&& (3 : Int32))), .val (.int e1), .val (.int (((p1.toUInt32 >>> ((3 : Int32) &&& 31).toUInt32).toInt32) &&& (3 : Int32))), .val (.int q1), .val (.ref b178), .unset] [(.ref b178)])) _
      refine XS.iload X185.here hx rfl (hb hby at_222) rfl ?_
      exact k)
    obtain ⟨cq189, kq189, q189a, q189b, q189c⟩ := isOf hZ e185 f187
    obtain ⟨_, _, ⟨T189, L189, k189, n189⟩, -, X189, ⟨Lc189, hQ189, l189, y189, z189⟩, st189⟩ := X185.virtualBack hx (y := (⟨"com/example/halting_hound/haltinghound/IntList", "add", "(I)V"⟩ : MethodName)) (z := (⟨"com/example/halting_hound/haltinghound/IntList", "add", "(I)V"⟩ : MethodName)) hown (mvT hZ (hw _ (List.mem_of_getElem? (i := 30) rfl))) (mvT hZ (hw _ (List.mem_of_getElem? (i := 31) rfl))) (notFace_of_selects (args := #[]) (mvT hZ (hw _ (List.mem_of_getElem? (i := 33) rfl)))) (mvT hZ (hw _ (List.mem_of_getElem? (i := 33) rfl))) (mvT hZ (hw _ (List.mem_of_getElem? (i := 32) rfl))) (by decide) (backOf (W := 0) (rm_add1 l Z a0 hw [] b178 w1 b181 k181 u0 h185 n0 (Nat.le_trans (Nat.le_trans (Nat.le_trans Z0 E178.1) K181.1) K185.1) f187 F185v F185z V185 g_b178 g181 ne181) hZ (hw _ (List.mem_of_getElem? (i := 34) rfl)) (hw _ (List.mem_of_getElem? (i := 9) rfl)) (by decide) (by decide)) q189a q189c (g := (mkF m 224 #[.val (.int p1), .val (.int p2), .val (.int p3), .val (.int p4), .val (.int p5), .val (.int p6), .val (.int (4 : Int32)), .val (.int s0), .val (.int s1), .val (.int s2), .val (.int s3), .val (.int u0), .val (.int u2), .val (.int u1), .val (.int u3), .val (.int w1), .val (.int w2), .val (.int (p2 &&& (3 : Int32))), .val (.int e1), .val (.int (((p1.toUInt32 >>> ((3 : Int32) &&& 31).toUInt32).toInt32) &&& (3 : Int32))), .val (.int q1), .val (.ref b178), .unset] [(.int w1), (.ref b178)])) rfl (by rw [hml]; rfl) (Steps.refl _) (argsL := [(.int w1)]) (rest := []) (lenOf pd_5 rfl) rfl (by show 2 * 0 + _ ≤ _; exact Nat.le_of_eq rfl) (hb hby at_224) (fun _ _ => ⟨rfl, e185, (by decide : 2 + 0 ≤ _), (by decide : 4 + 0 ≤ _)⟩)
    dsimp only [Pt.U, Pt.locs, Pt.cells, Pt.slots] at X189 l189 y189 z189 st189 hQ189
    subst l189 y189 z189
    obtain ⟨h189, e189⟩ : ∃ z, T189.heap = z := ⟨_, rfl⟩
    rw [e189] at hQ189
    obtain ⟨rfl, N189q, K189, F189z, F189v, V189⟩ := hQ189
    have N189 := Fr.app N185 N189q
    have go190 : ∀ t, Steps p.tables e below (T189.setTop (mkF m 227 #[.val (.int p1), .val (.int p2), .val (.int p3), .val (.int p4), .val (.int p5), .val (.int p6), .val (.int (4 : Int32)), .val (.int s0), .val (.int s1), .val (.int s2), .val (.int s3), .val (.int u0), .val (.int u2), .val (.int u1), .val (.int u3), .val (.int w1), .val (.int w2), .val (.int (p2 &&& (3 : Int32))), .val (.int e1), .val (.int (((p1.toUInt32 >>> ((3 : Int32) &&& 31).toUInt32).toInt32) &&& (3 : Int32))), .val (.int q1), .val (.ref b178), .unset] [])) t → Steps p.tables e below (s₁.setTop (entryFrame m #[(.int p1), (.int p2), (.int p3), (.int p4), (.int p5), (.int p6)] maxLocals)) t := fun t k => go188 t (st189.trans k)
    have f191 := f187.keep K189
    have go192 : ∀ t, Steps p.tables e below (T189.setTop (mkF m 237 #[.val (.int p1), .val (.int p2), .val (.int p3), .val (.int p4), .val (.int p5), .val (.int p6), .val (.int (4 : Int32)), .val (.int s0), .val (.int s1), .val (.int s2), .val (.int s3), .val (.int u0), .val (.int u2), .val (.int u1), .val (.int u3), .val (.int w1), .val (.int w2), .val (.int (p2 &&& (3 : Int32))), .val (.int e1), .val (.int (((p1.toUInt32 >>> ((3 : Int32) &&& 31).toUInt32).toInt32) &&& (3 : Int32))), .val (.int q1), .val (.ref b178), .unset] [(.int w2), (.ref b178)])) t → Steps p.tables e below (s₁.setTop (entryFrame m #[(.int p1), (.int p2), (.int p3), (.int p4), (.int p5), (.int p6)] maxLocals)) t := fun t k => go190 t (by
      show Steps p.tables e below (T189.setTop (mkF m 227 #[.val (.int p1), .val (.int p2), .val (.int p3), .val (.int p4), .val (.int p5), .val (.int p6), .val (.int (4 : Int32)), .val (.int s0), .val (.int s1), .val (.int s2), .val (.int s3), .val (.int u0), .val (.int u2), .val (.int u1), .val (.int u3), .val (.int w1), .val (.int w2), .val (.int (p2 &&& (3 : Int32))), .val (.int e1), .val (.int (((p1.toUInt32 >>> ((3 : Int32) &&& 31).toUInt32).toInt32) &&& (3 : Int32))), .val (.int q1), .val (.ref b178), .unset] [])) _
      refine XS.iload X189.here hx rfl (hb hby at_227) rfl ?_
      show Steps p.tables e below (T189.setTop (mkF m 229 #[.val (.int p1), .val (.int p2), .val (.int p3), .val (.int p4), .val (.int p5), .val (.int p6), .val (.int (4 : Int32)), .val (.int s0), .val (.int s1), .val (.int s2), .val (.int s3), .val (.int u0), .val (.int u2), .val (.int u1), .val (.int u3), .val (.int w1), .val (.int w2), .val (.int (p2 &&& (3 : Int32))), .val (.int e1), .val (.int (((p1.toUInt32 >>> ((3 : Int32) &&& 31).toUInt32).toInt32) &&& (3 : Int32))), .val (.int q1), .val (.ref b178), .unset] [(.int (4 : Int32))])) _
      refine XS.iconst X189.here hx rfl (hb hby at_229) ?_
      show Steps p.tables e below (T189.setTop (mkF m 230 #[.val (.int p1), .val (.int p2), .val (.int p3), .val (.int p4), .val (.int p5), .val (.int p6), .val (.int (4 : Int32)), .val (.int s0), .val (.int s1), .val (.int s2), .val (.int s3), .val (.int u0), .val (.int u2), .val (.int u1), .val (.int u3), .val (.int w1), .val (.int w2), .val (.int (p2 &&& (3 : Int32))), .val (.int e1), .val (.int (((p1.toUInt32 >>> ((3 : Int32) &&& 31).toUInt32).toInt32) &&& (3 : Int32))), .val (.int q1), .val (.ref b178), .unset] [(.int (2 : Int32)), (.int (4 : Int32))])) _
      refine XS.icmpNo X189.here hx rfl (hb hby at_230) rfl (tlt (by decide : (2 : Int32) < (4 : Int32))).2.2.2 ?_
      show Steps p.tables e below (T189.setTop (mkF m 233 #[.val (.int p1), .val (.int p2), .val (.int p3), .val (.int p4), .val (.int p5), .val (.int p6), .val (.int (4 : Int32)), .val (.int s0), .val (.int s1), .val (.int s2), .val (.int s3), .val (.int u0), .val (.int u2), .val (.int u1), .val (.int u3), .val (.int w1), .val (.int w2), .val (.int (p2 &&& (3 : Int32))), .val (.int e1), .val (.int (((p1.toUInt32 >>> ((3 : Int32) &&& 31).toUInt32).toInt32) &&& (3 : Int32))), .val (.int q1), .val (.ref b178), .unset] [])) _
      refine XS.aload X189.here hx rfl (hb hby at_233) rfl rfl ?_
      show Steps p.tables e below (T189.setTop (mkF m 235 #[.val (.int p1), .val (.int p2), .val (.int p3), .val (.int p4), .val (.int p5), .val (.int p6), .val (.int (4 : Int32)), .val (.int s0), .val (.int s1), .val (.int s2), .val (.int s3), .val (.int u0), .val (.int u2), .val (.int u1), .val (.int u3), .val (.int w1), .val (.int w2), .val (.int (p2 &&& (3 : Int32))), .val (.int e1), .val (.int (((p1.toUInt32 >>> ((3 : Int32) &&& 31).toUInt32).toInt32) &&& (3 : Int32))), .val (.int q1), .val (.ref b178), .unset] [(.ref b178)])) _
      refine XS.iload X189.here hx rfl (hb hby at_235) rfl ?_
      exact k)
    obtain ⟨cq193, kq193, q193a, q193b, q193c⟩ := isOf hZ e189 f191
    obtain ⟨_, _, ⟨T193, L193, k193, n193⟩, -, X193, ⟨Lc193, hQ193, l193, y193, z193⟩, st193⟩ := X189.virtualBack hx (y := (⟨"com/example/halting_hound/haltinghound/IntList", "add", "(I)V"⟩ : MethodName)) (z := (⟨"com/example/halting_hound/haltinghound/IntList", "add", "(I)V"⟩ : MethodName)) hown (mvT hZ (hw _ (List.mem_of_getElem? (i := 30) rfl))) (mvT hZ (hw _ (List.mem_of_getElem? (i := 31) rfl))) (notFace_of_selects (args := #[]) (mvT hZ (hw _ (List.mem_of_getElem? (i := 33) rfl)))) (mvT hZ (hw _ (List.mem_of_getElem? (i := 33) rfl))) (mvT hZ (hw _ (List.mem_of_getElem? (i := 32) rfl))) (by decide) (backOf (W := 0) (rm_add2 l Z a0 hw [] b178 w2 b181 k181 u0 w1 h189 n0 (Nat.le_trans (Nat.le_trans (Nat.le_trans (Nat.le_trans Z0 E178.1) K181.1) K185.1) K189.1) f191 F189v F189z V189 g_b178 g181 ne181) hZ (hw _ (List.mem_of_getElem? (i := 34) rfl)) (hw _ (List.mem_of_getElem? (i := 9) rfl)) (by decide) (by decide)) q193a q193c (g := (mkF m 237 #[.val (.int p1), .val (.int p2), .val (.int p3), .val (.int p4), .val (.int p5), .val (.int p6), .val (.int (4 : Int32)), .val (.int s0), .val (.int s1), .val (.int s2), .val (.int s3), .val (.int u0), .val (.int u2), .val (.int u1), .val (.int u3), .val (.int w1), .val (.int w2), .val (.int (p2 &&& (3 : Int32))), .val (.int e1), .val (.int (((p1.toUInt32 >>> ((3 : Int32) &&& 31).toUInt32).toInt32) &&& (3 : Int32))), .val (.int q1), .val (.ref b178), .unset] [(.int w2), (.ref b178)])) rfl (by rw [hml]; rfl) (Steps.refl _) (argsL := [(.int w2)]) (rest := []) (lenOf pd_5 rfl) rfl (by show 2 * 0 + _ ≤ _; exact Nat.le_of_eq rfl) (hb hby at_237) (fun _ _ => ⟨rfl, e189, (by decide : 2 + 1 ≤ _), (by decide : 4 + 4 ≤ _)⟩)
    dsimp only [Pt.U, Pt.locs, Pt.cells, Pt.slots] at X193 l193 y193 z193 st193 hQ193
    subst l193 y193 z193
    obtain ⟨h193, e193⟩ : ∃ z, T193.heap = z := ⟨_, rfl⟩
    rw [e193] at hQ193
    obtain ⟨rfl, N193q, K193, F193z, b193, k193, g193, ne193, F193v, V193⟩ := hQ193
    have N193 := Fr.app N189 N193q
    have go194 : ∀ t, Steps p.tables e below (T193.setTop (mkF m 240 #[.val (.int p1), .val (.int p2), .val (.int p3), .val (.int p4), .val (.int p5), .val (.int p6), .val (.int (4 : Int32)), .val (.int s0), .val (.int s1), .val (.int s2), .val (.int s3), .val (.int u0), .val (.int u2), .val (.int u1), .val (.int u3), .val (.int w1), .val (.int w2), .val (.int (p2 &&& (3 : Int32))), .val (.int e1), .val (.int (((p1.toUInt32 >>> ((3 : Int32) &&& 31).toUInt32).toInt32) &&& (3 : Int32))), .val (.int q1), .val (.ref b178), .unset] [])) t → Steps p.tables e below (s₁.setTop (entryFrame m #[(.int p1), (.int p2), (.int p3), (.int p4), (.int p5), (.int p6)] maxLocals)) t := fun t k => go192 t (st193.trans k)
    have f195 := f191.keep K193
    have f196 := V189.keep K193 (ninS (Ne.symm ne181) nin0)
    have go197 : ∀ t, Steps p.tables e below (T193.setTop (mkF m 250 #[.val (.int p1), .val (.int p2), .val (.int p3), .val (.int p4), .val (.int p5), .val (.int p6), .val (.int (4 : Int32)), .val (.int s0), .val (.int s1), .val (.int s2), .val (.int s3), .val (.int u0), .val (.int u2), .val (.int u1), .val (.int u3), .val (.int w1), .val (.int w2), .val (.int (p2 &&& (3 : Int32))), .val (.int e1), .val (.int (((p1.toUInt32 >>> ((3 : Int32) &&& 31).toUInt32).toInt32) &&& (3 : Int32))), .val (.int q1), .val (.ref b178), .unset] [(.int u3), (.ref b178)])) t → Steps p.tables e below (s₁.setTop (entryFrame m #[(.int p1), (.int p2), (.int p3), (.int p4), (.int p5), (.int p6)] maxLocals)) t := fun t k => go194 t (by
      show Steps p.tables e below (T193.setTop (mkF m 240 #[.val (.int p1), .val (.int p2), .val (.int p3), .val (.int p4), .val (.int p5), .val (.int p6), .val (.int (4 : Int32)), .val (.int s0), .val (.int s1), .val (.int s2), .val (.int s3), .val (.int u0), .val (.int u2), .val (.int u1), .val (.int u3), .val (.int w1), .val (.int w2), .val (.int (p2 &&& (3 : Int32))), .val (.int e1), .val (.int (((p1.toUInt32 >>> ((3 : Int32) &&& 31).toUInt32).toInt32) &&& (3 : Int32))), .val (.int q1), .val (.ref b178), .unset] [])) _
      refine XS.iload X193.here hx rfl (hb hby at_240) rfl ?_
      show Steps p.tables e below (T193.setTop (mkF m 242 #[.val (.int p1), .val (.int p2), .val (.int p3), .val (.int p4), .val (.int p5), .val (.int p6), .val (.int (4 : Int32)), .val (.int s0), .val (.int s1), .val (.int s2), .val (.int s3), .val (.int u0), .val (.int u2), .val (.int u1), .val (.int u3), .val (.int w1), .val (.int w2), .val (.int (p2 &&& (3 : Int32))), .val (.int e1), .val (.int (((p1.toUInt32 >>> ((3 : Int32) &&& 31).toUInt32).toInt32) &&& (3 : Int32))), .val (.int q1), .val (.ref b178), .unset] [(.int (4 : Int32))])) _
      refine XS.iconst X193.here hx rfl (hb hby at_242) ?_
      show Steps p.tables e below (T193.setTop (mkF m 243 #[.val (.int p1), .val (.int p2), .val (.int p3), .val (.int p4), .val (.int p5), .val (.int p6), .val (.int (4 : Int32)), .val (.int s0), .val (.int s1), .val (.int s2), .val (.int s3), .val (.int u0), .val (.int u2), .val (.int u1), .val (.int u3), .val (.int w1), .val (.int w2), .val (.int (p2 &&& (3 : Int32))), .val (.int e1), .val (.int (((p1.toUInt32 >>> ((3 : Int32) &&& 31).toUInt32).toInt32) &&& (3 : Int32))), .val (.int q1), .val (.ref b178), .unset] [(.int (3 : Int32)), (.int (4 : Int32))])) _
      refine XS.icmpNo X193.here hx rfl (hb hby at_243) rfl (tlt (by decide : (3 : Int32) < (4 : Int32))).2.2.2 ?_
      show Steps p.tables e below (T193.setTop (mkF m 246 #[.val (.int p1), .val (.int p2), .val (.int p3), .val (.int p4), .val (.int p5), .val (.int p6), .val (.int (4 : Int32)), .val (.int s0), .val (.int s1), .val (.int s2), .val (.int s3), .val (.int u0), .val (.int u2), .val (.int u1), .val (.int u3), .val (.int w1), .val (.int w2), .val (.int (p2 &&& (3 : Int32))), .val (.int e1), .val (.int (((p1.toUInt32 >>> ((3 : Int32) &&& 31).toUInt32).toInt32) &&& (3 : Int32))), .val (.int q1), .val (.ref b178), .unset] [])) _
      refine XS.aload X193.here hx rfl (hb hby at_246) rfl rfl ?_
      show Steps p.tables e below (T193.setTop (mkF m 248 #[.val (.int p1), .val (.int p2), .val (.int p3), .val (.int p4), .val (.int p5), .val (.int p6), .val (.int (4 : Int32)), .val (.int s0), .val (.int s1), .val (.int s2), .val (.int s3), .val (.int u0), .val (.int u2), .val (.int u1), .val (.int u3), .val (.int w1), .val (.int w2), .val (.int (p2 &&& (3 : Int32))), .val (.int e1), .val (.int (((p1.toUInt32 >>> ((3 : Int32) &&& 31).toUInt32).toInt32) &&& (3 : Int32))), .val (.int q1), .val (.ref b178), .unset] [(.ref b178)])) _
      refine XS.iload X193.here hx rfl (hb hby at_248) rfl ?_
      exact k)
    obtain ⟨cq198, kq198, q198a, q198b, q198c⟩ := isOf hZ e193 f195
    obtain ⟨_, _, ⟨T198, L198, k198, n198⟩, -, X198, ⟨Lc198, hQ198, l198, y198, z198⟩, st198⟩ := X193.virtualBack hx (y := (⟨"com/example/halting_hound/haltinghound/IntList", "add", "(I)V"⟩ : MethodName)) (z := (⟨"com/example/halting_hound/haltinghound/IntList", "add", "(I)V"⟩ : MethodName)) hown (mvT hZ (hw _ (List.mem_of_getElem? (i := 30) rfl))) (mvT hZ (hw _ (List.mem_of_getElem? (i := 31) rfl))) (notFace_of_selects (args := #[]) (mvT hZ (hw _ (List.mem_of_getElem? (i := 33) rfl)))) (mvT hZ (hw _ (List.mem_of_getElem? (i := 33) rfl))) (mvT hZ (hw _ (List.mem_of_getElem? (i := 32) rfl))) (by decide) (backOf (W := 0) (rm_add3 l Z a0 hw [] b178 u3 b193 k193 u0 w1 w2 h193 n0 (Nat.le_trans (Nat.le_trans (Nat.le_trans (Nat.le_trans (Nat.le_trans Z0 E178.1) K181.1) K185.1) K189.1) K193.1) f195 F193v F193z V193 g_b178 g193 ne193) hZ (hw _ (List.mem_of_getElem? (i := 34) rfl)) (hw _ (List.mem_of_getElem? (i := 9) rfl)) (by decide) (by decide)) q198a q198c (g := (mkF m 250 #[.val (.int p1), .val (.int p2), .val (.int p3), .val (.int p4), .val (.int p5), .val (.int p6), .val (.int (4 : Int32)), .val (.int s0), .val (.int s1), .val (.int s2), .val (.int s3), .val (.int u0), .val (.int u2), .val (.int u1), .val (.int u3), .val (.int w1), .val (.int w2), .val (.int (p2 &&& (3 : Int32))), .val (.int e1), .val (.int (((p1.toUInt32 >>> ((3 : Int32) &&& 31).toUInt32).toInt32) &&& (3 : Int32))), .val (.int q1), .val (.ref b178), .unset] [(.int u3), (.ref b178)])) rfl (by rw [hml]; rfl) (Steps.refl _) (argsL := [(.int u3)]) (rest := []) (lenOf pd_5 rfl) rfl (by show 2 * 0 + _ ≤ _; exact Nat.le_of_eq rfl) (hb hby at_250) (fun _ _ => ⟨rfl, e193, (by decide : 3 + 0 ≤ _), (by decide : 8 + 0 ≤ _)⟩)
    dsimp only [Pt.U, Pt.locs, Pt.cells, Pt.slots] at X198 l198 y198 z198 st198 hQ198
    subst l198 y198 z198
    obtain ⟨h198, e198⟩ : ∃ z, T198.heap = z := ⟨_, rfl⟩
    rw [e198] at hQ198
    obtain ⟨rfl, N198q, K198, F198z, F198v, V198⟩ := hQ198
    have N198 := Fr.app N193 N198q
    have go199 : ∀ t, Steps p.tables e below (T198.setTop (mkF m 253 #[.val (.int p1), .val (.int p2), .val (.int p3), .val (.int p4), .val (.int p5), .val (.int p6), .val (.int (4 : Int32)), .val (.int s0), .val (.int s1), .val (.int s2), .val (.int s3), .val (.int u0), .val (.int u2), .val (.int u1), .val (.int u3), .val (.int w1), .val (.int w2), .val (.int (p2 &&& (3 : Int32))), .val (.int e1), .val (.int (((p1.toUInt32 >>> ((3 : Int32) &&& 31).toUInt32).toInt32) &&& (3 : Int32))), .val (.int q1), .val (.ref b178), .unset] [])) t → Steps p.tables e below (s₁.setTop (entryFrame m #[(.int p1), (.int p2), (.int p3), (.int p4), (.int p5), (.int p6)] maxLocals)) t := fun t k => go197 t (st198.trans k)
    have f200 := f195.keep K198
    have go201 : ∀ t, Steps p.tables e below (T198.setTop (mkF m 267 #[.val (.int p1), .val (.int p2), .val (.int p3), .val (.int p4), .val (.int p5), .val (.int p6), .val (.int (4 : Int32)), .val (.int s0), .val (.int s1), .val (.int s2), .val (.int s3), .val (.int u0), .val (.int u2), .val (.int u1), .val (.int u3), .val (.int w1), .val (.int w2), .val (.int (p2 &&& (3 : Int32))), .val (.int e1), .val (.int (((p1.toUInt32 >>> ((3 : Int32) &&& 31).toUInt32).toInt32) &&& (3 : Int32))), .val (.int q1), .val (.ref b178), .unset] [(.int q1), (.int u0), (.int (1 : Int32))])) t → Steps p.tables e below (s₁.setTop (entryFrame m #[(.int p1), (.int p2), (.int p3), (.int p4), (.int p5), (.int p6)] maxLocals)) t := fun t k => go199 t (by
      show Steps p.tables e below (T198.setTop (mkF m 253 #[.val (.int p1), .val (.int p2), .val (.int p3), .val (.int p4), .val (.int p5), .val (.int p6), .val (.int (4 : Int32)), .val (.int s0), .val (.int s1), .val (.int s2), .val (.int s3), .val (.int u0), .val (.int u2), .val (.int u1), .val (.int u3), .val (.int w1), .val (.int w2), .val (.int (p2 &&& (3 : Int32))), .val (.int e1), .val (.int (((p1.toUInt32 >>> ((3 : Int32) &&& 31).toUInt32).toInt32) &&& (3 : Int32))), .val (.int q1), .val (.ref b178), .unset] [])) _
      refine XS.iload X198.here hx rfl (hb hby at_253) rfl ?_
      show Steps p.tables e below (T198.setTop (mkF m 255 #[.val (.int p1), .val (.int p2), .val (.int p3), .val (.int p4), .val (.int p5), .val (.int p6), .val (.int (4 : Int32)), .val (.int s0), .val (.int s1), .val (.int s2), .val (.int s3), .val (.int u0), .val (.int u2), .val (.int u1), .val (.int u3), .val (.int w1), .val (.int w2), .val (.int (p2 &&& (3 : Int32))), .val (.int e1), .val (.int (((p1.toUInt32 >>> ((3 : Int32) &&& 31).toUInt32).toInt32) &&& (3 : Int32))), .val (.int q1), .val (.ref b178), .unset] [(.int (4 : Int32))])) _
      refine XS.ifNo X198.here hx rfl (hb hby at_255) rfl ((if0 _ _).trans (tlt (by decide : (0 : Int32) < (4 : Int32))).2.2.2) ?_
      show Steps p.tables e below (T198.setTop (mkF m 258 #[.val (.int p1), .val (.int p2), .val (.int p3), .val (.int p4), .val (.int p5), .val (.int p6), .val (.int (4 : Int32)), .val (.int s0), .val (.int s1), .val (.int s2), .val (.int s3), .val (.int u0), .val (.int u2), .val (.int u1), .val (.int u3), .val (.int w1), .val (.int w2), .val (.int (p2 &&& (3 : Int32))), .val (.int e1), .val (.int (((p1.toUInt32 >>> ((3 : Int32) &&& 31).toUInt32).toInt32) &&& (3 : Int32))), .val (.int q1), .val (.ref b178), .unset] [])) _
      refine XS.iconst X198.here hx rfl (hb hby at_258) ?_
      show Steps p.tables e below (T198.setTop (mkF m 259 #[.val (.int p1), .val (.int p2), .val (.int p3), .val (.int p4), .val (.int p5), .val (.int p6), .val (.int (4 : Int32)), .val (.int s0), .val (.int s1), .val (.int s2), .val (.int s3), .val (.int u0), .val (.int u2), .val (.int u1), .val (.int u3), .val (.int w1), .val (.int w2), .val (.int (p2 &&& (3 : Int32))), .val (.int e1), .val (.int (((p1.toUInt32 >>> ((3 : Int32) &&& 31).toUInt32).toInt32) &&& (3 : Int32))), .val (.int q1), .val (.ref b178), .unset] [(.int (1 : Int32))])) _
      refine XS.goto X198.here hx rfl (pc0 := 259) (pc' := 263) rfl (hb hby at_259) (by decide) (by decide) ?_
      show Steps p.tables e below (T198.setTop (mkF m 263 #[.val (.int p1), .val (.int p2), .val (.int p3), .val (.int p4), .val (.int p5), .val (.int p6), .val (.int (4 : Int32)), .val (.int s0), .val (.int s1), .val (.int s2), .val (.int s3), .val (.int u0), .val (.int u2), .val (.int u1), .val (.int u3), .val (.int w1), .val (.int w2), .val (.int (p2 &&& (3 : Int32))), .val (.int e1), .val (.int (((p1.toUInt32 >>> ((3 : Int32) &&& 31).toUInt32).toInt32) &&& (3 : Int32))), .val (.int q1), .val (.ref b178), .unset] [(.int (1 : Int32))])) _
      refine XS.iload X198.here hx rfl (hb hby at_263) rfl ?_
      show Steps p.tables e below (T198.setTop (mkF m 265 #[.val (.int p1), .val (.int p2), .val (.int p3), .val (.int p4), .val (.int p5), .val (.int p6), .val (.int (4 : Int32)), .val (.int s0), .val (.int s1), .val (.int s2), .val (.int s3), .val (.int u0), .val (.int u2), .val (.int u1), .val (.int u3), .val (.int w1), .val (.int w2), .val (.int (p2 &&& (3 : Int32))), .val (.int e1), .val (.int (((p1.toUInt32 >>> ((3 : Int32) &&& 31).toUInt32).toInt32) &&& (3 : Int32))), .val (.int q1), .val (.ref b178), .unset] [(.int u0), (.int (1 : Int32))])) _
      refine XS.iload X198.here hx rfl (hb hby at_265) rfl ?_
      exact k)
    obtain ⟨_, _, ⟨T202, L202, k202, n202⟩, -, X202, ⟨Lc202, hQ202, l202, y202, z202⟩, st202⟩ := Jvm.LawKit.callS X198 hx (y := (⟨"com/example/halting_hound/haltinghound/IntListFirstAtLeastPinLaw", "below", "(ZII)I"⟩ : MethodName)) hown (mvT hZ (hw _ (List.mem_of_getElem? (i := 19) rfl))) (mvT hZ (hw _ (List.mem_of_getElem? (i := 20) rfl))) (mvT hZ (hw _ (List.mem_of_getElem? (i := 21) rfl))) (mvT hZ (hw _ (List.mem_of_getElem? (i := 22) rfl))) (by decide) (backOf (W := 0) (rm_bl l Z a0 hw [] (1 : Int32) u0 q1 h198 n0 (Nat.le_trans (Nat.le_trans (Nat.le_trans (Nat.le_trans (Nat.le_trans (Nat.le_trans Z0 E178.1) K181.1) K185.1) K189.1) K193.1) K198.1) ) hZ (hw _ (List.mem_of_getElem? (i := 22) rfl)) (hw _ (List.mem_of_getElem? (i := 21) rfl)) (by decide) (by decide)) (g := (mkF m 267 #[.val (.int p1), .val (.int p2), .val (.int p3), .val (.int p4), .val (.int p5), .val (.int p6), .val (.int (4 : Int32)), .val (.int s0), .val (.int s1), .val (.int s2), .val (.int s3), .val (.int u0), .val (.int u2), .val (.int u1), .val (.int u3), .val (.int w1), .val (.int w2), .val (.int (p2 &&& (3 : Int32))), .val (.int e1), .val (.int (((p1.toUInt32 >>> ((3 : Int32) &&& 31).toUInt32).toInt32) &&& (3 : Int32))), .val (.int q1), .val (.ref b178), .unset] [(.int q1), (.int u0), (.int (1 : Int32))])) rfl (by rw [hml]; rfl) (argsL := [(.int (1 : Int32)), (.int u0), (.int q1)]) (rest := []) (lenOf pd_3 rfl) rfl (by show 2 * 0 + _ ≤ _; exact Nat.le_of_eq rfl) (hb hby at_267) (fun _ _ => ⟨rfl, e198, (by decide : 3 + 0 ≤ _), (by decide : 8 + 0 ≤ _)⟩)
    dsimp only [Pt.U, Pt.locs, Pt.cells, Pt.slots] at X202 l202 y202 z202 st202 hQ202
    subst l202 y202 z202
    obtain ⟨rfl, N202q, e202⟩ := hQ202
    have N202 := Fr.app N198 N202q
    have go203 : ∀ t, Steps p.tables e below (T202.setTop (mkF m 270 #[.val (.int p1), .val (.int p2), .val (.int p3), .val (.int p4), .val (.int p5), .val (.int p6), .val (.int (4 : Int32)), .val (.int s0), .val (.int s1), .val (.int s2), .val (.int s3), .val (.int u0), .val (.int u2), .val (.int u1), .val (.int u3), .val (.int w1), .val (.int w2), .val (.int (p2 &&& (3 : Int32))), .val (.int e1), .val (.int (((p1.toUInt32 >>> ((3 : Int32) &&& 31).toUInt32).toInt32) &&& (3 : Int32))), .val (.int q1), .val (.ref b178), .unset] [(.int (own_below (1 : Int32) u0 q1))])) t → Steps p.tables e below (s₁.setTop (entryFrame m #[(.int p1), (.int p2), (.int p3), (.int p4), (.int p5), (.int p6)] maxLocals)) t := fun t k => go201 t (st202 t k)
    have go204 : ∀ t, Steps p.tables e below (T202.setTop (mkF m 285 #[.val (.int p1), .val (.int p2), .val (.int p3), .val (.int p4), .val (.int p5), .val (.int p6), .val (.int (4 : Int32)), .val (.int s0), .val (.int s1), .val (.int s2), .val (.int s3), .val (.int u0), .val (.int u2), .val (.int u1), .val (.int u3), .val (.int w1), .val (.int w2), .val (.int (p2 &&& (3 : Int32))), .val (.int e1), .val (.int (((p1.toUInt32 >>> ((3 : Int32) &&& 31).toUInt32).toInt32) &&& (3 : Int32))), .val (.int q1), .val (.ref b178), .unset] [(.int q1), (.int w1), (.int (1 : Int32)), (.int (own_below (1 : Int32) u0 q1))])) t → Steps p.tables e below (s₁.setTop (entryFrame m #[(.int p1), (.int p2), (.int p3), (.int p4), (.int p5), (.int p6)] maxLocals)) t := fun t k => go203 t (by
      show Steps p.tables e below (T202.setTop (mkF m 270 #[.val (.int p1), .val (.int p2), .val (.int p3), .val (.int p4), .val (.int p5), .val (.int p6), .val (.int (4 : Int32)), .val (.int s0), .val (.int s1), .val (.int s2), .val (.int s3), .val (.int u0), .val (.int u2), .val (.int u1), .val (.int u3), .val (.int w1), .val (.int w2), .val (.int (p2 &&& (3 : Int32))), .val (.int e1), .val (.int (((p1.toUInt32 >>> ((3 : Int32) &&& 31).toUInt32).toInt32) &&& (3 : Int32))), .val (.int q1), .val (.ref b178), .unset] [(.int (own_below (1 : Int32) u0 q1))])) _
      refine XS.iload X202.here hx rfl (hb hby at_270) rfl ?_
      show Steps p.tables e below (T202.setTop (mkF m 272 #[.val (.int p1), .val (.int p2), .val (.int p3), .val (.int p4), .val (.int p5), .val (.int p6), .val (.int (4 : Int32)), .val (.int s0), .val (.int s1), .val (.int s2), .val (.int s3), .val (.int u0), .val (.int u2), .val (.int u1), .val (.int u3), .val (.int w1), .val (.int w2), .val (.int (p2 &&& (3 : Int32))), .val (.int e1), .val (.int (((p1.toUInt32 >>> ((3 : Int32) &&& 31).toUInt32).toInt32) &&& (3 : Int32))), .val (.int q1), .val (.ref b178), .unset] [(.int (4 : Int32)), (.int (own_below (1 : Int32) u0 q1))])) _
      refine XS.iconst X202.here hx rfl (hb hby at_272) ?_
      show Steps p.tables e below (T202.setTop (mkF m 273 #[.val (.int p1), .val (.int p2), .val (.int p3), .val (.int p4), .val (.int p5), .val (.int p6), .val (.int (4 : Int32)), .val (.int s0), .val (.int s1), .val (.int s2), .val (.int s3), .val (.int u0), .val (.int u2), .val (.int u1), .val (.int u3), .val (.int w1), .val (.int w2), .val (.int (p2 &&& (3 : Int32))), .val (.int e1), .val (.int (((p1.toUInt32 >>> ((3 : Int32) &&& 31).toUInt32).toInt32) &&& (3 : Int32))), .val (.int q1), .val (.ref b178), .unset] [(.int (1 : Int32)), (.int (4 : Int32)), (.int (own_below (1 : Int32) u0 q1))])) _
      refine XS.icmpNo X202.here hx rfl (hb hby at_273) rfl (tlt (by decide : (1 : Int32) < (4 : Int32))).2.2.2 ?_
      show Steps p.tables e below (T202.setTop (mkF m 276 #[.val (.int p1), .val (.int p2), .val (.int p3), .val (.int p4), .val (.int p5), .val (.int p6), .val (.int (4 : Int32)), .val (.int s0), .val (.int s1), .val (.int s2), .val (.int s3), .val (.int u0), .val (.int u2), .val (.int u1), .val (.int u3), .val (.int w1), .val (.int w2), .val (.int (p2 &&& (3 : Int32))), .val (.int e1), .val (.int (((p1.toUInt32 >>> ((3 : Int32) &&& 31).toUInt32).toInt32) &&& (3 : Int32))), .val (.int q1), .val (.ref b178), .unset] [(.int (own_below (1 : Int32) u0 q1))])) _
      refine XS.iconst X202.here hx rfl (hb hby at_276) ?_
      show Steps p.tables e below (T202.setTop (mkF m 277 #[.val (.int p1), .val (.int p2), .val (.int p3), .val (.int p4), .val (.int p5), .val (.int p6), .val (.int (4 : Int32)), .val (.int s0), .val (.int s1), .val (.int s2), .val (.int s3), .val (.int u0), .val (.int u2), .val (.int u1), .val (.int u3), .val (.int w1), .val (.int w2), .val (.int (p2 &&& (3 : Int32))), .val (.int e1), .val (.int (((p1.toUInt32 >>> ((3 : Int32) &&& 31).toUInt32).toInt32) &&& (3 : Int32))), .val (.int q1), .val (.ref b178), .unset] [(.int (1 : Int32)), (.int (own_below (1 : Int32) u0 q1))])) _
      refine XS.goto X202.here hx rfl (pc0 := 277) (pc' := 281) rfl (hb hby at_277) (by decide) (by decide) ?_
      show Steps p.tables e below (T202.setTop (mkF m 281 #[.val (.int p1), .val (.int p2), .val (.int p3), .val (.int p4), .val (.int p5), .val (.int p6), .val (.int (4 : Int32)), .val (.int s0), .val (.int s1), .val (.int s2), .val (.int s3), .val (.int u0), .val (.int u2), .val (.int u1), .val (.int u3), .val (.int w1), .val (.int w2), .val (.int (p2 &&& (3 : Int32))), .val (.int e1), .val (.int (((p1.toUInt32 >>> ((3 : Int32) &&& 31).toUInt32).toInt32) &&& (3 : Int32))), .val (.int q1), .val (.ref b178), .unset] [(.int (1 : Int32)), (.int (own_below (1 : Int32) u0 q1))])) _
      refine XS.iload X202.here hx rfl (hb hby at_281) rfl ?_
      show Steps p.tables e below (T202.setTop (mkF m 283 #[.val (.int p1), .val (.int p2), .val (.int p3), .val (.int p4), .val (.int p5), .val (.int p6), .val (.int (4 : Int32)), .val (.int s0), .val (.int s1), .val (.int s2), .val (.int s3), .val (.int u0), .val (.int u2), .val (.int u1), .val (.int u3), .val (.int w1), .val (.int w2), .val (.int (p2 &&& (3 : Int32))), .val (.int e1), .val (.int (((p1.toUInt32 >>> ((3 : Int32) &&& 31).toUInt32).toInt32) &&& (3 : Int32))), .val (.int q1), .val (.ref b178), .unset] [(.int w1), (.int (1 : Int32)), (.int (own_below (1 : Int32) u0 q1))])) _
      refine XS.iload X202.here hx rfl (hb hby at_283) rfl ?_
      exact k)
    obtain ⟨_, _, ⟨T205, L205, k205, n205⟩, -, X205, ⟨Lc205, hQ205, l205, y205, z205⟩, st205⟩ := Jvm.LawKit.callS X202 hx (y := (⟨"com/example/halting_hound/haltinghound/IntListFirstAtLeastPinLaw", "below", "(ZII)I"⟩ : MethodName)) hown (mvT hZ (hw _ (List.mem_of_getElem? (i := 19) rfl))) (mvT hZ (hw _ (List.mem_of_getElem? (i := 20) rfl))) (mvT hZ (hw _ (List.mem_of_getElem? (i := 21) rfl))) (mvT hZ (hw _ (List.mem_of_getElem? (i := 22) rfl))) (by decide) (backOf (W := 1) (rm_bl l Z a0 hw [] (1 : Int32) w1 q1 h198 n0 (Nat.le_trans (Nat.le_trans (Nat.le_trans (Nat.le_trans (Nat.le_trans (Nat.le_trans Z0 E178.1) K181.1) K185.1) K189.1) K193.1) K198.1) ) hZ (hw _ (List.mem_of_getElem? (i := 22) rfl)) (hw _ (List.mem_of_getElem? (i := 21) rfl)) (by decide) (by decide)) (g := (mkF m 285 #[.val (.int p1), .val (.int p2), .val (.int p3), .val (.int p4), .val (.int p5), .val (.int p6), .val (.int (4 : Int32)), .val (.int s0), .val (.int s1), .val (.int s2), .val (.int s3), .val (.int u0), .val (.int u2), .val (.int u1), .val (.int u3), .val (.int w1), .val (.int w2), .val (.int (p2 &&& (3 : Int32))), .val (.int e1), .val (.int (((p1.toUInt32 >>> ((3 : Int32) &&& 31).toUInt32).toInt32) &&& (3 : Int32))), .val (.int q1), .val (.ref b178), .unset] [(.int q1), (.int w1), (.int (1 : Int32)), (.int (own_below (1 : Int32) u0 q1))])) rfl (by rw [hml]; rfl) (argsL := [(.int (1 : Int32)), (.int w1), (.int q1)]) (rest := [(.int (own_below (1 : Int32) u0 q1))]) (lenOf pd_3 rfl) rfl (by show 2 * 0 + _ ≤ _; exact Nat.le_of_eq rfl) (hb hby at_285) (fun _ _ => ⟨rfl, e202, (by decide : 3 + 0 ≤ _), (by decide : 8 + 0 ≤ _)⟩)
    dsimp only [Pt.U, Pt.locs, Pt.cells, Pt.slots] at X205 l205 y205 z205 st205 hQ205
    subst l205 y205 z205
    obtain ⟨rfl, N205q, e205⟩ := hQ205
    have N205 := Fr.app N202 N205q
    have go206 : ∀ t, Steps p.tables e below (T205.setTop (mkF m 288 #[.val (.int p1), .val (.int p2), .val (.int p3), .val (.int p4), .val (.int p5), .val (.int p6), .val (.int (4 : Int32)), .val (.int s0), .val (.int s1), .val (.int s2), .val (.int s3), .val (.int u0), .val (.int u2), .val (.int u1), .val (.int u3), .val (.int w1), .val (.int w2), .val (.int (p2 &&& (3 : Int32))), .val (.int e1), .val (.int (((p1.toUInt32 >>> ((3 : Int32) &&& 31).toUInt32).toInt32) &&& (3 : Int32))), .val (.int q1), .val (.ref b178), .unset] [(.int (own_below (1 : Int32) w1 q1)), (.int (own_below (1 : Int32) u0 q1))])) t → Steps p.tables e below (s₁.setTop (entryFrame m #[(.int p1), (.int p2), (.int p3), (.int p4), (.int p5), (.int p6)] maxLocals)) t := fun t k => go204 t (st205 t k)
    have go207 : ∀ t, Steps p.tables e below (T205.setTop (mkF m 304 #[.val (.int p1), .val (.int p2), .val (.int p3), .val (.int p4), .val (.int p5), .val (.int p6), .val (.int (4 : Int32)), .val (.int s0), .val (.int s1), .val (.int s2), .val (.int s3), .val (.int u0), .val (.int u2), .val (.int u1), .val (.int u3), .val (.int w1), .val (.int w2), .val (.int (p2 &&& (3 : Int32))), .val (.int e1), .val (.int (((p1.toUInt32 >>> ((3 : Int32) &&& 31).toUInt32).toInt32) &&& (3 : Int32))), .val (.int q1), .val (.ref b178), .unset] [(.int q1), (.int w2), (.int (1 : Int32)), (.int ((own_below (1 : Int32) u0 q1) + (own_below (1 : Int32) w1 q1)))])) t → Steps p.tables e below (s₁.setTop (entryFrame m #[(.int p1), (.int p2), (.int p3), (.int p4), (.int p5), (.int p6)] maxLocals)) t := fun t k => go206 t (by
      show Steps p.tables e below (T205.setTop (mkF m 288 #[.val (.int p1), .val (.int p2), .val (.int p3), .val (.int p4), .val (.int p5), .val (.int p6), .val (.int (4 : Int32)), .val (.int s0), .val (.int s1), .val (.int s2), .val (.int s3), .val (.int u0), .val (.int u2), .val (.int u1), .val (.int u3), .val (.int w1), .val (.int w2), .val (.int (p2 &&& (3 : Int32))), .val (.int e1), .val (.int (((p1.toUInt32 >>> ((3 : Int32) &&& 31).toUInt32).toInt32) &&& (3 : Int32))), .val (.int q1), .val (.ref b178), .unset] [(.int (own_below (1 : Int32) w1 q1)), (.int (own_below (1 : Int32) u0 q1))])) _
      refine XS.iadd X205.here hx rfl (hb hby at_288) rfl ?_
      show Steps p.tables e below (T205.setTop (mkF m 289 #[.val (.int p1), .val (.int p2), .val (.int p3), .val (.int p4), .val (.int p5), .val (.int p6), .val (.int (4 : Int32)), .val (.int s0), .val (.int s1), .val (.int s2), .val (.int s3), .val (.int u0), .val (.int u2), .val (.int u1), .val (.int u3), .val (.int w1), .val (.int w2), .val (.int (p2 &&& (3 : Int32))), .val (.int e1), .val (.int (((p1.toUInt32 >>> ((3 : Int32) &&& 31).toUInt32).toInt32) &&& (3 : Int32))), .val (.int q1), .val (.ref b178), .unset] [(.int ((own_below (1 : Int32) u0 q1) + (own_below (1 : Int32) w1 q1)))])) _
      refine XS.iload X205.here hx rfl (hb hby at_289) rfl ?_
      show Steps p.tables e below (T205.setTop (mkF m 291 #[.val (.int p1), .val (.int p2), .val (.int p3), .val (.int p4), .val (.int p5), .val (.int p6), .val (.int (4 : Int32)), .val (.int s0), .val (.int s1), .val (.int s2), .val (.int s3), .val (.int u0), .val (.int u2), .val (.int u1), .val (.int u3), .val (.int w1), .val (.int w2), .val (.int (p2 &&& (3 : Int32))), .val (.int e1), .val (.int (((p1.toUInt32 >>> ((3 : Int32) &&& 31).toUInt32).toInt32) &&& (3 : Int32))), .val (.int q1), .val (.ref b178), .unset] [(.int (4 : Int32)), (.int ((own_below (1 : Int32) u0 q1) + (own_below (1 : Int32) w1 q1)))])) _
      refine XS.iconst X205.here hx rfl (hb hby at_291) ?_
      show Steps p.tables e below (T205.setTop (mkF m 292 #[.val (.int p1), .val (.int p2), .val (.int p3), .val (.int p4), .val (.int p5), .val (.int p6), .val (.int (4 : Int32)), .val (.int s0), .val (.int s1), .val (.int s2), .val (.int s3), .val (.int u0), .val (.int u2), .val (.int u1), .val (.int u3), .val (.int w1), .val (.int w2), .val (.int (p2 &&& (3 : Int32))), .val (.int e1), .val (.int (((p1.toUInt32 >>> ((3 : Int32) &&& 31).toUInt32).toInt32) &&& (3 : Int32))), .val (.int q1), .val (.ref b178), .unset] [(.int (2 : Int32)), (.int (4 : Int32)), (.int ((own_below (1 : Int32) u0 q1) + (own_below (1 : Int32) w1 q1)))])) _
      refine XS.icmpNo X205.here hx rfl (hb hby at_292) rfl (tlt (by decide : (2 : Int32) < (4 : Int32))).2.2.2 ?_
      show Steps p.tables e below (T205.setTop (mkF m 295 #[.val (.int p1), .val (.int p2), .val (.int p3), .val (.int p4), .val (.int p5), .val (.int p6), .val (.int (4 : Int32)), .val (.int s0), .val (.int s1), .val (.int s2), .val (.int s3), .val (.int u0), .val (.int u2), .val (.int u1), .val (.int u3), .val (.int w1), .val (.int w2), .val (.int (p2 &&& (3 : Int32))), .val (.int e1), .val (.int (((p1.toUInt32 >>> ((3 : Int32) &&& 31).toUInt32).toInt32) &&& (3 : Int32))), .val (.int q1), .val (.ref b178), .unset] [(.int ((own_below (1 : Int32) u0 q1) + (own_below (1 : Int32) w1 q1)))])) _
      refine XS.iconst X205.here hx rfl (hb hby at_295) ?_
      show Steps p.tables e below (T205.setTop (mkF m 296 #[.val (.int p1), .val (.int p2), .val (.int p3), .val (.int p4), .val (.int p5), .val (.int p6), .val (.int (4 : Int32)), .val (.int s0), .val (.int s1), .val (.int s2), .val (.int s3), .val (.int u0), .val (.int u2), .val (.int u1), .val (.int u3), .val (.int w1), .val (.int w2), .val (.int (p2 &&& (3 : Int32))), .val (.int e1), .val (.int (((p1.toUInt32 >>> ((3 : Int32) &&& 31).toUInt32).toInt32) &&& (3 : Int32))), .val (.int q1), .val (.ref b178), .unset] [(.int (1 : Int32)), (.int ((own_below (1 : Int32) u0 q1) + (own_below (1 : Int32) w1 q1)))])) _
      refine XS.goto X205.here hx rfl (pc0 := 296) (pc' := 300) rfl (hb hby at_296) (by decide) (by decide) ?_
      show Steps p.tables e below (T205.setTop (mkF m 300 #[.val (.int p1), .val (.int p2), .val (.int p3), .val (.int p4), .val (.int p5), .val (.int p6), .val (.int (4 : Int32)), .val (.int s0), .val (.int s1), .val (.int s2), .val (.int s3), .val (.int u0), .val (.int u2), .val (.int u1), .val (.int u3), .val (.int w1), .val (.int w2), .val (.int (p2 &&& (3 : Int32))), .val (.int e1), .val (.int (((p1.toUInt32 >>> ((3 : Int32) &&& 31).toUInt32).toInt32) &&& (3 : Int32))), .val (.int q1), .val (.ref b178), .unset] [(.int (1 : Int32)), (.int ((own_below (1 : Int32) u0 q1) + (own_below (1 : Int32) w1 q1)))])) _
      refine XS.iload X205.here hx rfl (hb hby at_300) rfl ?_
      show Steps p.tables e below (T205.setTop (mkF m 302 #[.val (.int p1), .val (.int p2), .val (.int p3), .val (.int p4), .val (.int p5), .val (.int p6), .val (.int (4 : Int32)), .val (.int s0), .val (.int s1), .val (.int s2), .val (.int s3), .val (.int u0), .val (.int u2), .val (.int u1), .val (.int u3), .val (.int w1), .val (.int w2), .val (.int (p2 &&& (3 : Int32))), .val (.int e1), .val (.int (((p1.toUInt32 >>> ((3 : Int32) &&& 31).toUInt32).toInt32) &&& (3 : Int32))), .val (.int q1), .val (.ref b178), .unset] [(.int w2), (.int (1 : Int32)), (.int ((own_below (1 : Int32) u0 q1) + (own_below (1 : Int32) w1 q1)))])) _
      refine XS.iload X205.here hx rfl (hb hby at_302) rfl ?_
      exact k)
    obtain ⟨_, _, ⟨T208, L208, k208, n208⟩, -, X208, ⟨Lc208, hQ208, l208, y208, z208⟩, st208⟩ := Jvm.LawKit.callS X205 hx (y := (⟨"com/example/halting_hound/haltinghound/IntListFirstAtLeastPinLaw", "below", "(ZII)I"⟩ : MethodName)) hown (mvT hZ (hw _ (List.mem_of_getElem? (i := 19) rfl))) (mvT hZ (hw _ (List.mem_of_getElem? (i := 20) rfl))) (mvT hZ (hw _ (List.mem_of_getElem? (i := 21) rfl))) (mvT hZ (hw _ (List.mem_of_getElem? (i := 22) rfl))) (by decide) (backOf (W := 1) (rm_bl l Z a0 hw [] (1 : Int32) w2 q1 h198 n0 (Nat.le_trans (Nat.le_trans (Nat.le_trans (Nat.le_trans (Nat.le_trans (Nat.le_trans Z0 E178.1) K181.1) K185.1) K189.1) K193.1) K198.1) ) hZ (hw _ (List.mem_of_getElem? (i := 22) rfl)) (hw _ (List.mem_of_getElem? (i := 21) rfl)) (by decide) (by decide)) (g := (mkF m 304 #[.val (.int p1), .val (.int p2), .val (.int p3), .val (.int p4), .val (.int p5), .val (.int p6), .val (.int (4 : Int32)), .val (.int s0), .val (.int s1), .val (.int s2), .val (.int s3), .val (.int u0), .val (.int u2), .val (.int u1), .val (.int u3), .val (.int w1), .val (.int w2), .val (.int (p2 &&& (3 : Int32))), .val (.int e1), .val (.int (((p1.toUInt32 >>> ((3 : Int32) &&& 31).toUInt32).toInt32) &&& (3 : Int32))), .val (.int q1), .val (.ref b178), .unset] [(.int q1), (.int w2), (.int (1 : Int32)), (.int ((own_below (1 : Int32) u0 q1) + (own_below (1 : Int32) w1 q1)))])) rfl (by rw [hml]; rfl) (argsL := [(.int (1 : Int32)), (.int w2), (.int q1)]) (rest := [(.int ((own_below (1 : Int32) u0 q1) + (own_below (1 : Int32) w1 q1)))]) (lenOf pd_3 rfl) rfl (by show 2 * 0 + _ ≤ _; exact Nat.le_of_eq rfl) (hb hby at_304) (fun _ _ => ⟨rfl, e205, (by decide : 3 + 0 ≤ _), (by decide : 8 + 0 ≤ _)⟩)
    dsimp only [Pt.U, Pt.locs, Pt.cells, Pt.slots] at X208 l208 y208 z208 st208 hQ208
    subst l208 y208 z208
    obtain ⟨rfl, N208q, e208⟩ := hQ208
    have N208 := Fr.app N205 N208q
    have go209 : ∀ t, Steps p.tables e below (T208.setTop (mkF m 307 #[.val (.int p1), .val (.int p2), .val (.int p3), .val (.int p4), .val (.int p5), .val (.int p6), .val (.int (4 : Int32)), .val (.int s0), .val (.int s1), .val (.int s2), .val (.int s3), .val (.int u0), .val (.int u2), .val (.int u1), .val (.int u3), .val (.int w1), .val (.int w2), .val (.int (p2 &&& (3 : Int32))), .val (.int e1), .val (.int (((p1.toUInt32 >>> ((3 : Int32) &&& 31).toUInt32).toInt32) &&& (3 : Int32))), .val (.int q1), .val (.ref b178), .unset] [(.int (own_below (1 : Int32) w2 q1)), (.int ((own_below (1 : Int32) u0 q1) + (own_below (1 : Int32) w1 q1)))])) t → Steps p.tables e below (s₁.setTop (entryFrame m #[(.int p1), (.int p2), (.int p3), (.int p4), (.int p5), (.int p6)] maxLocals)) t := fun t k => go207 t (st208 t k)
    have go210 : ∀ t, Steps p.tables e below (T208.setTop (mkF m 323 #[.val (.int p1), .val (.int p2), .val (.int p3), .val (.int p4), .val (.int p5), .val (.int p6), .val (.int (4 : Int32)), .val (.int s0), .val (.int s1), .val (.int s2), .val (.int s3), .val (.int u0), .val (.int u2), .val (.int u1), .val (.int u3), .val (.int w1), .val (.int w2), .val (.int (p2 &&& (3 : Int32))), .val (.int e1), .val (.int (((p1.toUInt32 >>> ((3 : Int32) &&& 31).toUInt32).toInt32) &&& (3 : Int32))), .val (.int q1), .val (.ref b178), .unset] [(.int q1), (.int u3), (.int (1 : Int32)), (.int (((own_below (1 : Int32) u0 q1) + (own_below (1 : Int32) w1 q1)) + (own_below (1 : Int32) w2 q1)))])) t → Steps p.tables e below (s₁.setTop (entryFrame m #[(.int p1), (.int p2), (.int p3), (.int p4), (.int p5), (.int p6)] maxLocals)) t := fun t k => go209 t (by
      show Steps p.tables e below (T208.setTop (mkF m 307 #[.val (.int p1), .val (.int p2), .val (.int p3), .val (.int p4), .val (.int p5), .val (.int p6), .val (.int (4 : Int32)), .val (.int s0), .val (.int s1), .val (.int s2), .val (.int s3), .val (.int u0), .val (.int u2), .val (.int u1), .val (.int u3), .val (.int w1), .val (.int w2), .val (.int (p2 &&& (3 : Int32))), .val (.int e1), .val (.int (((p1.toUInt32 >>> ((3 : Int32) &&& 31).toUInt32).toInt32) &&& (3 : Int32))), .val (.int q1), .val (.ref b178), .unset] [(.int (own_below (1 : Int32) w2 q1)), (.int ((own_below (1 : Int32) u0 q1) + (own_below (1 : Int32) w1 q1)))])) _
      refine XS.iadd X208.here hx rfl (hb hby at_307) rfl ?_
      show Steps p.tables e below (T208.setTop (mkF m 308 #[.val (.int p1), .val (.int p2), .val (.int p3), .val (.int p4), .val (.int p5), .val (.int p6), .val (.int (4 : Int32)), .val (.int s0), .val (.int s1), .val (.int s2), .val (.int s3), .val (.int u0), .val (.int u2), .val (.int u1), .val (.int u3), .val (.int w1), .val (.int w2), .val (.int (p2 &&& (3 : Int32))), .val (.int e1), .val (.int (((p1.toUInt32 >>> ((3 : Int32) &&& 31).toUInt32).toInt32) &&& (3 : Int32))), .val (.int q1), .val (.ref b178), .unset] [(.int (((own_below (1 : Int32) u0 q1) + (own_below (1 : Int32) w1 q1)) + (own_below (1 : Int32) w2 q1)))])) _
      refine XS.iload X208.here hx rfl (hb hby at_308) rfl ?_
      show Steps p.tables e below (T208.setTop (mkF m 310 #[.val (.int p1), .val (.int p2), .val (.int p3), .val (.int p4), .val (.int p5), .val (.int p6), .val (.int (4 : Int32)), .val (.int s0), .val (.int s1), .val (.int s2), .val (.int s3), .val (.int u0), .val (.int u2), .val (.int u1), .val (.int u3), .val (.int w1), .val (.int w2), .val (.int (p2 &&& (3 : Int32))), .val (.int e1), .val (.int (((p1.toUInt32 >>> ((3 : Int32) &&& 31).toUInt32).toInt32) &&& (3 : Int32))), .val (.int q1), .val (.ref b178), .unset] [(.int (4 : Int32)), (.int (((own_below (1 : Int32) u0 q1) + (own_below (1 : Int32) w1 q1)) + (own_below (1 : Int32) w2 q1)))])) _
      refine XS.iconst X208.here hx rfl (hb hby at_310) ?_
      show Steps p.tables e below (T208.setTop (mkF m 311 #[.val (.int p1), .val (.int p2), .val (.int p3), .val (.int p4), .val (.int p5), .val (.int p6), .val (.int (4 : Int32)), .val (.int s0), .val (.int s1), .val (.int s2), .val (.int s3), .val (.int u0), .val (.int u2), .val (.int u1), .val (.int u3), .val (.int w1), .val (.int w2), .val (.int (p2 &&& (3 : Int32))), .val (.int e1), .val (.int (((p1.toUInt32 >>> ((3 : Int32) &&& 31).toUInt32).toInt32) &&& (3 : Int32))), .val (.int q1), .val (.ref b178), .unset] [(.int (3 : Int32)), (.int (4 : Int32)), (.int (((own_below (1 : Int32) u0 q1) + (own_below (1 : Int32) w1 q1)) + (own_below (1 : Int32) w2 q1)))])) _
      refine XS.icmpNo X208.here hx rfl (hb hby at_311) rfl (tlt (by decide : (3 : Int32) < (4 : Int32))).2.2.2 ?_
      show Steps p.tables e below (T208.setTop (mkF m 314 #[.val (.int p1), .val (.int p2), .val (.int p3), .val (.int p4), .val (.int p5), .val (.int p6), .val (.int (4 : Int32)), .val (.int s0), .val (.int s1), .val (.int s2), .val (.int s3), .val (.int u0), .val (.int u2), .val (.int u1), .val (.int u3), .val (.int w1), .val (.int w2), .val (.int (p2 &&& (3 : Int32))), .val (.int e1), .val (.int (((p1.toUInt32 >>> ((3 : Int32) &&& 31).toUInt32).toInt32) &&& (3 : Int32))), .val (.int q1), .val (.ref b178), .unset] [(.int (((own_below (1 : Int32) u0 q1) + (own_below (1 : Int32) w1 q1)) + (own_below (1 : Int32) w2 q1)))])) _
      refine XS.iconst X208.here hx rfl (hb hby at_314) ?_
      show Steps p.tables e below (T208.setTop (mkF m 315 #[.val (.int p1), .val (.int p2), .val (.int p3), .val (.int p4), .val (.int p5), .val (.int p6), .val (.int (4 : Int32)), .val (.int s0), .val (.int s1), .val (.int s2), .val (.int s3), .val (.int u0), .val (.int u2), .val (.int u1), .val (.int u3), .val (.int w1), .val (.int w2), .val (.int (p2 &&& (3 : Int32))), .val (.int e1), .val (.int (((p1.toUInt32 >>> ((3 : Int32) &&& 31).toUInt32).toInt32) &&& (3 : Int32))), .val (.int q1), .val (.ref b178), .unset] [(.int (1 : Int32)), (.int (((own_below (1 : Int32) u0 q1) + (own_below (1 : Int32) w1 q1)) + (own_below (1 : Int32) w2 q1)))])) _
      refine XS.goto X208.here hx rfl (pc0 := 315) (pc' := 319) rfl (hb hby at_315) (by decide) (by decide) ?_
      show Steps p.tables e below (T208.setTop (mkF m 319 #[.val (.int p1), .val (.int p2), .val (.int p3), .val (.int p4), .val (.int p5), .val (.int p6), .val (.int (4 : Int32)), .val (.int s0), .val (.int s1), .val (.int s2), .val (.int s3), .val (.int u0), .val (.int u2), .val (.int u1), .val (.int u3), .val (.int w1), .val (.int w2), .val (.int (p2 &&& (3 : Int32))), .val (.int e1), .val (.int (((p1.toUInt32 >>> ((3 : Int32) &&& 31).toUInt32).toInt32) &&& (3 : Int32))), .val (.int q1), .val (.ref b178), .unset] [(.int (1 : Int32)), (.int (((own_below (1 : Int32) u0 q1) + (own_below (1 : Int32) w1 q1)) + (own_below (1 : Int32) w2 q1)))])) _
      refine XS.iload X208.here hx rfl (hb hby at_319) rfl ?_
      show Steps p.tables e below (T208.setTop (mkF m 321 #[.val (.int p1), .val (.int p2), .val (.int p3), .val (.int p4), .val (.int p5), .val (.int p6), .val (.int (4 : Int32)), .val (.int s0), .val (.int s1), .val (.int s2), .val (.int s3), .val (.int u0), .val (.int u2), .val (.int u1), .val (.int u3), .val (.int w1), .val (.int w2), .val (.int (p2 &&& (3 : Int32))), .val (.int e1), .val (.int (((p1.toUInt32 >>> ((3 : Int32) &&& 31).toUInt32).toInt32) &&& (3 : Int32))), .val (.int q1), .val (.ref b178), .unset] [(.int u3), (.int (1 : Int32)), (.int (((own_below (1 : Int32) u0 q1) + (own_below (1 : Int32) w1 q1)) + (own_below (1 : Int32) w2 q1)))])) _
      refine XS.iload X208.here hx rfl (hb hby at_321) rfl ?_
      exact k)
    obtain ⟨_, _, ⟨T211, L211, k211, n211⟩, -, X211, ⟨Lc211, hQ211, l211, y211, z211⟩, st211⟩ := Jvm.LawKit.callS X208 hx (y := (⟨"com/example/halting_hound/haltinghound/IntListFirstAtLeastPinLaw", "below", "(ZII)I"⟩ : MethodName)) hown (mvT hZ (hw _ (List.mem_of_getElem? (i := 19) rfl))) (mvT hZ (hw _ (List.mem_of_getElem? (i := 20) rfl))) (mvT hZ (hw _ (List.mem_of_getElem? (i := 21) rfl))) (mvT hZ (hw _ (List.mem_of_getElem? (i := 22) rfl))) (by decide) (backOf (W := 1) (rm_bl l Z a0 hw [] (1 : Int32) u3 q1 h198 n0 (Nat.le_trans (Nat.le_trans (Nat.le_trans (Nat.le_trans (Nat.le_trans (Nat.le_trans Z0 E178.1) K181.1) K185.1) K189.1) K193.1) K198.1) ) hZ (hw _ (List.mem_of_getElem? (i := 22) rfl)) (hw _ (List.mem_of_getElem? (i := 21) rfl)) (by decide) (by decide)) (g := (mkF m 323 #[.val (.int p1), .val (.int p2), .val (.int p3), .val (.int p4), .val (.int p5), .val (.int p6), .val (.int (4 : Int32)), .val (.int s0), .val (.int s1), .val (.int s2), .val (.int s3), .val (.int u0), .val (.int u2), .val (.int u1), .val (.int u3), .val (.int w1), .val (.int w2), .val (.int (p2 &&& (3 : Int32))), .val (.int e1), .val (.int (((p1.toUInt32 >>> ((3 : Int32) &&& 31).toUInt32).toInt32) &&& (3 : Int32))), .val (.int q1), .val (.ref b178), .unset] [(.int q1), (.int u3), (.int (1 : Int32)), (.int (((own_below (1 : Int32) u0 q1) + (own_below (1 : Int32) w1 q1)) + (own_below (1 : Int32) w2 q1)))])) rfl (by rw [hml]; rfl) (argsL := [(.int (1 : Int32)), (.int u3), (.int q1)]) (rest := [(.int (((own_below (1 : Int32) u0 q1) + (own_below (1 : Int32) w1 q1)) + (own_below (1 : Int32) w2 q1)))]) (lenOf pd_3 rfl) rfl (by show 2 * 0 + _ ≤ _; exact Nat.le_of_eq rfl) (hb hby at_323) (fun _ _ => ⟨rfl, e208, (by decide : 3 + 0 ≤ _), (by decide : 8 + 0 ≤ _)⟩)
    dsimp only [Pt.U, Pt.locs, Pt.cells, Pt.slots] at X211 l211 y211 z211 st211 hQ211
    subst l211 y211 z211
    obtain ⟨rfl, N211q, e211⟩ := hQ211
    have N211 := Fr.app N208 N211q
    have go212 : ∀ t, Steps p.tables e below (T211.setTop (mkF m 326 #[.val (.int p1), .val (.int p2), .val (.int p3), .val (.int p4), .val (.int p5), .val (.int p6), .val (.int (4 : Int32)), .val (.int s0), .val (.int s1), .val (.int s2), .val (.int s3), .val (.int u0), .val (.int u2), .val (.int u1), .val (.int u3), .val (.int w1), .val (.int w2), .val (.int (p2 &&& (3 : Int32))), .val (.int e1), .val (.int (((p1.toUInt32 >>> ((3 : Int32) &&& 31).toUInt32).toInt32) &&& (3 : Int32))), .val (.int q1), .val (.ref b178), .unset] [(.int (own_below (1 : Int32) u3 q1)), (.int (((own_below (1 : Int32) u0 q1) + (own_below (1 : Int32) w1 q1)) + (own_below (1 : Int32) w2 q1)))])) t → Steps p.tables e below (s₁.setTop (entryFrame m #[(.int p1), (.int p2), (.int p3), (.int p4), (.int p5), (.int p6)] maxLocals)) t := fun t k => go210 t (st211 t k)
    have go213 : ∀ t, Steps p.tables e below (T211.setTop (mkF m 333 #[.val (.int p1), .val (.int p2), .val (.int p3), .val (.int p4), .val (.int p5), .val (.int p6), .val (.int (4 : Int32)), .val (.int s0), .val (.int s1), .val (.int s2), .val (.int s3), .val (.int u0), .val (.int u2), .val (.int u1), .val (.int u3), .val (.int w1), .val (.int w2), .val (.int (p2 &&& (3 : Int32))), .val (.int e1), .val (.int (((p1.toUInt32 >>> ((3 : Int32) &&& 31).toUInt32).toInt32) &&& (3 : Int32))), .val (.int q1), .val (.ref b178), .val (.int ((((own_below (1 : Int32) u0 q1) + (own_below (1 : Int32) w1 q1)) + (own_below (1 : Int32) w2 q1)) + (own_below (1 : Int32) u3 q1)))] [(.int q1), (.ref b178)])) t → Steps p.tables e below (s₁.setTop (entryFrame m #[(.int p1), (.int p2), (.int p3), (.int p4), (.int p5), (.int p6)] maxLocals)) t := fun t k => go212 t (by
      show Steps p.tables e below (T211.setTop (mkF m 326 #[.val (.int p1), .val (.int p2), .val (.int p3), .val (.int p4), .val (.int p5), .val (.int p6), .val (.int (4 : Int32)), .val (.int s0), .val (.int s1), .val (.int s2), .val (.int s3), .val (.int u0), .val (.int u2), .val (.int u1), .val (.int u3), .val (.int w1), .val (.int w2), .val (.int (p2 &&& (3 : Int32))), .val (.int e1), .val (.int (((p1.toUInt32 >>> ((3 : Int32) &&& 31).toUInt32).toInt32) &&& (3 : Int32))), .val (.int q1), .val (.ref b178), .unset] [(.int (own_below (1 : Int32) u3 q1)), (.int (((own_below (1 : Int32) u0 q1) + (own_below (1 : Int32) w1 q1)) + (own_below (1 : Int32) w2 q1)))])) _
      refine XS.iadd X211.here hx rfl (hb hby at_326) rfl ?_
      show Steps p.tables e below (T211.setTop (mkF m 327 #[.val (.int p1), .val (.int p2), .val (.int p3), .val (.int p4), .val (.int p5), .val (.int p6), .val (.int (4 : Int32)), .val (.int s0), .val (.int s1), .val (.int s2), .val (.int s3), .val (.int u0), .val (.int u2), .val (.int u1), .val (.int u3), .val (.int w1), .val (.int w2), .val (.int (p2 &&& (3 : Int32))), .val (.int e1), .val (.int (((p1.toUInt32 >>> ((3 : Int32) &&& 31).toUInt32).toInt32) &&& (3 : Int32))), .val (.int q1), .val (.ref b178), .unset] [(.int ((((own_below (1 : Int32) u0 q1) + (own_below (1 : Int32) w1 q1)) + (own_below (1 : Int32) w2 q1)) + (own_below (1 : Int32) u3 q1)))])) _
      refine XS.istore X211.here hx rfl (hb hby at_327) rfl (l' := #[.val (.int p1), .val (.int p2), .val (.int p3), .val (.int p4), .val (.int p5), .val (.int p6), .val (.int (4 : Int32)), .val (.int s0), .val (.int s1), .val (.int s2), .val (.int s3), .val (.int u0), .val (.int u2), .val (.int u1), .val (.int u3), .val (.int w1), .val (.int w2), .val (.int (p2 &&& (3 : Int32))), .val (.int e1), .val (.int (((p1.toUInt32 >>> ((3 : Int32) &&& 31).toUInt32).toInt32) &&& (3 : Int32))), .val (.int q1), .val (.ref b178), .val (.int ((((own_below (1 : Int32) u0 q1) + (own_below (1 : Int32) w1 q1)) + (own_below (1 : Int32) w2 q1)) + (own_below (1 : Int32) u3 q1)))]) rfl ?_
      show Steps p.tables e below (T211.setTop (mkF m 329 #[.val (.int p1), .val (.int p2), .val (.int p3), .val (.int p4), .val (.int p5), .val (.int p6), .val (.int (4 : Int32)), .val (.int s0), .val (.int s1), .val (.int s2), .val (.int s3), .val (.int u0), .val (.int u2), .val (.int u1), .val (.int u3), .val (.int w1), .val (.int w2), .val (.int (p2 &&& (3 : Int32))), .val (.int e1), .val (.int (((p1.toUInt32 >>> ((3 : Int32) &&& 31).toUInt32).toInt32) &&& (3 : Int32))), .val (.int q1), .val (.ref b178), .val (.int ((((own_below (1 : Int32) u0 q1) + (own_below (1 : Int32) w1 q1)) + (own_below (1 : Int32) w2 q1)) + (own_below (1 : Int32) u3 q1)))] [])) _
      refine XS.aload X211.here hx rfl (hb hby at_329) rfl rfl ?_
      show Steps p.tables e below (T211.setTop (mkF m 331 #[.val (.int p1), .val (.int p2), .val (.int p3), .val (.int p4), .val (.int p5), .val (.int p6), .val (.int (4 : Int32)), .val (.int s0), .val (.int s1), .val (.int s2), .val (.int s3), .val (.int u0), .val (.int u2), .val (.int u1), .val (.int u3), .val (.int w1), .val (.int w2), .val (.int (p2 &&& (3 : Int32))), .val (.int e1), .val (.int (((p1.toUInt32 >>> ((3 : Int32) &&& 31).toUInt32).toInt32) &&& (3 : Int32))), .val (.int q1), .val (.ref b178), .val (.int ((((own_below (1 : Int32) u0 q1) + (own_below (1 : Int32) w1 q1)) + (own_below (1 : Int32) w2 q1)) + (own_below (1 : Int32) u3 q1)))] [(.ref b178)])) _
      refine XS.iload X211.here hx rfl (hb hby at_331) rfl ?_
      exact k)
    obtain ⟨cq214, kq214, q214a, q214b, q214c⟩ := isOf hZ e211 f200
    obtain ⟨_, _, ⟨T214, L214, k214, n214⟩, -, X214, ⟨Lc214, hQ214, l214, y214, z214⟩, st214⟩ := X211.virtualBack hx (y := (⟨"com/example/halting_hound/haltinghound/IntList", "firstAtLeast", "(I)I"⟩ : MethodName)) (z := (⟨"com/example/halting_hound/haltinghound/IntList", "firstAtLeast", "(I)I"⟩ : MethodName)) hown (mvT hZ (hw _ (List.mem_of_getElem? (i := 23) rfl))) (mvT hZ (hw _ (List.mem_of_getElem? (i := 24) rfl))) (notFace_of_selects (args := #[]) (mvT hZ (hw _ (List.mem_of_getElem? (i := 26) rfl)))) (mvT hZ (hw _ (List.mem_of_getElem? (i := 26) rfl))) (mvT hZ (hw _ (List.mem_of_getElem? (i := 25) rfl))) (by decide) (backOf (W := 0) (rm_fal4 l Z a0 hw [] b178 q1 b193 k193 u0 w1 w2 u3 h198 n0 (Nat.le_trans (Nat.le_trans (Nat.le_trans (Nat.le_trans (Nat.le_trans (Nat.le_trans Z0 E178.1) K181.1) K185.1) K189.1) K193.1) K198.1) f200 F198v F198z V198) hZ (hw _ (List.mem_of_getElem? (i := 27) rfl)) (hw _ (List.mem_of_getElem? (i := 9) rfl)) (by decide) (by decide)) q214a q214c (g := (mkF m 333 #[.val (.int p1), .val (.int p2), .val (.int p3), .val (.int p4), .val (.int p5), .val (.int p6), .val (.int (4 : Int32)), .val (.int s0), .val (.int s1), .val (.int s2), .val (.int s3), .val (.int u0), .val (.int u2), .val (.int u1), .val (.int u3), .val (.int w1), .val (.int w2), .val (.int (p2 &&& (3 : Int32))), .val (.int e1), .val (.int (((p1.toUInt32 >>> ((3 : Int32) &&& 31).toUInt32).toInt32) &&& (3 : Int32))), .val (.int q1), .val (.ref b178), .val (.int ((((own_below (1 : Int32) u0 q1) + (own_below (1 : Int32) w1 q1)) + (own_below (1 : Int32) w2 q1)) + (own_below (1 : Int32) u3 q1)))] [(.int q1), (.ref b178)])) rfl (by rw [hml]; rfl) (Steps.refl _) (argsL := [(.int q1)]) (rest := []) (lenOf pd_4 rfl) rfl (by show 2 * 0 + _ ≤ _; exact Nat.le_of_eq rfl) (hb hby at_333) (fun _ _ => ⟨rfl, e211, (by decide : 3 + 0 ≤ _), (by decide : 8 + 0 ≤ _)⟩)
    dsimp only [Pt.U, Pt.locs, Pt.cells, Pt.slots] at X214 l214 y214 z214 st214 hQ214
    subst l214 y214 z214
    obtain ⟨rfl, N214q, e214⟩ := hQ214
    have N214 := Fr.app N211 N214q
    have go215 : ∀ t, Steps p.tables e below (T214.setTop (mkF m 336 #[.val (.int p1), .val (.int p2), .val (.int p3), .val (.int p4), .val (.int p5), .val (.int p6), .val (.int (4 : Int32)), .val (.int s0), .val (.int s1), .val (.int s2), .val (.int s3), .val (.int u0), .val (.int u2), .val (.int u1), .val (.int u3), .val (.int w1), .val (.int w2), .val (.int (p2 &&& (3 : Int32))), .val (.int e1), .val (.int (((p1.toUInt32 >>> ((3 : Int32) &&& 31).toUInt32).toInt32) &&& (3 : Int32))), .val (.int q1), .val (.ref b178), .val (.int ((((own_below (1 : Int32) u0 q1) + (own_below (1 : Int32) w1 q1)) + (own_below (1 : Int32) w2 q1)) + (own_below (1 : Int32) u3 q1)))] [(.int (own_fal4 q1 u0 w1 w2 u3))])) t → Steps p.tables e below (s₁.setTop (entryFrame m #[(.int p1), (.int p2), (.int p3), (.int p4), (.int p5), (.int p6)] maxLocals)) t := fun t k => go213 t (st214.trans k)
    have go216 : ∀ t, Steps p.tables e below (T214.setTop (mkF m 346 #[.val (.int p1), .val (.int p2), .val (.int p3), .val (.int p4), .val (.int p5), .val (.int p6), .val (.int (4 : Int32)), .val (.int s0), .val (.int s1), .val (.int s2), .val (.int s3), .val (.int u0), .val (.int u2), .val (.int u1), .val (.int u3), .val (.int w1), .val (.int w2), .val (.int (p2 &&& (3 : Int32))), .val (.int e1), .val (.int (((p1.toUInt32 >>> ((3 : Int32) &&& 31).toUInt32).toInt32) &&& (3 : Int32))), .val (.int q1), .val (.ref b178), .val (.int ((((own_below (1 : Int32) u0 q1) + (own_below (1 : Int32) w1 q1)) + (own_below (1 : Int32) w2 q1)) + (own_below (1 : Int32) u3 q1)))] [(.int (1 : Int32))])) t → Steps p.tables e below (s₁.setTop (entryFrame m #[(.int p1), (.int p2), (.int p3), (.int p4), (.int p5), (.int p6)] maxLocals)) t := fun t k => go215 t (by
      show Steps p.tables e below (T214.setTop (mkF m 336 #[.val (.int p1), .val (.int p2), .val (.int p3), .val (.int p4), .val (.int p5), .val (.int p6), .val (.int (4 : Int32)), .val (.int s0), .val (.int s1), .val (.int s2), .val (.int s3), .val (.int u0), .val (.int u2), .val (.int u1), .val (.int u3), .val (.int w1), .val (.int w2), .val (.int (p2 &&& (3 : Int32))), .val (.int e1), .val (.int (((p1.toUInt32 >>> ((3 : Int32) &&& 31).toUInt32).toInt32) &&& (3 : Int32))), .val (.int q1), .val (.ref b178), .val (.int ((((own_below (1 : Int32) u0 q1) + (own_below (1 : Int32) w1 q1)) + (own_below (1 : Int32) w2 q1)) + (own_below (1 : Int32) u3 q1)))] [(.int (own_fal4 q1 u0 w1 w2 u3))])) _
      refine XS.iload X214.here hx rfl (hb hby at_336) rfl ?_
      show Steps p.tables e below (T214.setTop (mkF m 338 #[.val (.int p1), .val (.int p2), .val (.int p3), .val (.int p4), .val (.int p5), .val (.int p6), .val (.int (4 : Int32)), .val (.int s0), .val (.int s1), .val (.int s2), .val (.int s3), .val (.int u0), .val (.int u2), .val (.int u1), .val (.int u3), .val (.int w1), .val (.int w2), .val (.int (p2 &&& (3 : Int32))), .val (.int e1), .val (.int (((p1.toUInt32 >>> ((3 : Int32) &&& 31).toUInt32).toInt32) &&& (3 : Int32))), .val (.int q1), .val (.ref b178), .val (.int ((((own_below (1 : Int32) u0 q1) + (own_below (1 : Int32) w1 q1)) + (own_below (1 : Int32) w2 q1)) + (own_below (1 : Int32) u3 q1)))] [(.int ((((own_below (1 : Int32) u0 q1) + (own_below (1 : Int32) w1 q1)) + (own_below (1 : Int32) w2 q1)) + (own_below (1 : Int32) u3 q1))), (.int (own_fal4 q1 u0 w1 w2 u3))])) _
      refine XS.icmpNo X214.here hx rfl (hb hby at_338) rfl (teq (own_law4 q1 u0 w1 w2 u3 hs1 hs2 hs3)).2 ?_
      show Steps p.tables e below (T214.setTop (mkF m 341 #[.val (.int p1), .val (.int p2), .val (.int p3), .val (.int p4), .val (.int p5), .val (.int p6), .val (.int (4 : Int32)), .val (.int s0), .val (.int s1), .val (.int s2), .val (.int s3), .val (.int u0), .val (.int u2), .val (.int u1), .val (.int u3), .val (.int w1), .val (.int w2), .val (.int (p2 &&& (3 : Int32))), .val (.int e1), .val (.int (((p1.toUInt32 >>> ((3 : Int32) &&& 31).toUInt32).toInt32) &&& (3 : Int32))), .val (.int q1), .val (.ref b178), .val (.int ((((own_below (1 : Int32) u0 q1) + (own_below (1 : Int32) w1 q1)) + (own_below (1 : Int32) w2 q1)) + (own_below (1 : Int32) u3 q1)))] [])) _
      refine XS.iconst X214.here hx rfl (hb hby at_341) ?_
      show Steps p.tables e below (T214.setTop (mkF m 342 #[.val (.int p1), .val (.int p2), .val (.int p3), .val (.int p4), .val (.int p5), .val (.int p6), .val (.int (4 : Int32)), .val (.int s0), .val (.int s1), .val (.int s2), .val (.int s3), .val (.int u0), .val (.int u2), .val (.int u1), .val (.int u3), .val (.int w1), .val (.int w2), .val (.int (p2 &&& (3 : Int32))), .val (.int e1), .val (.int (((p1.toUInt32 >>> ((3 : Int32) &&& 31).toUInt32).toInt32) &&& (3 : Int32))), .val (.int q1), .val (.ref b178), .val (.int ((((own_below (1 : Int32) u0 q1) + (own_below (1 : Int32) w1 q1)) + (own_below (1 : Int32) w2 q1)) + (own_below (1 : Int32) u3 q1)))] [(.int (1 : Int32))])) _
      refine XS.goto X214.here hx rfl (pc0 := 342) (pc' := 346) rfl (hb hby at_342) (by decide) (by decide) ?_
      exact k)
    obtain ⟨fs, hr, hrun, hended, hW, hsame⟩ := X214.leave (v := some (.int (1 : Int32))) (fun h => by rw [Bd.returns] at h; cases h)
    refine ⟨_, _, go216 _ ?_, hrun, hended, _, _, rfl, ?_, ⟨_, rfl⟩, hW, hsame.mono (by decide) (by decide)⟩
    · exact retN X214 hx (t := .boolean) Bd.returns (by simp) (hb hby at_346) hr
    · show QL n0 _ T214.heap _
      rw [e214]
      exact ⟨rfl, N214⟩
set_option maxRecDepth 65536 in
set_option maxHeartbeats 40000000 in
theorem comes_1 {Post : Tables → Env → Array Value → State → Outcome → State → Prop} (hpost : ∀ tb e args s v u, (limb_1_1.after args s (.returned v) u = true ∧ limb_1_2.after args s (.returned v) u = true ∧ True) → FrameEnd s (.returned v) u (Jvm.fieldLocs frame_1_writes args s ++ Jvm.arrayLocs frame_1_arrays args s ++ Jvm.staticLocs frame_1_statics s) 16 128 → Post tb e args s (.returned v) u) :
    ArmFor flags0 classFile x code maxLocals ret World_1 tables_1 room_1 Calls_1 rest_1 Pre_1 Post := by
  intro l hfl _ _ p e ha hc hk s m args below hf hA hF happ hP
  obtain ⟨hcalls, hrest, hpre⟩ := hP
  obtain ⟨-, -, -, hnamed, -, -, -, hat⟩ := (Spec.applies_iff hf).mp happ
  obtain ⟨hg, hn⟩ := and_e (Cond.before_iff.mp (show (Jvm.Cond.and given_1 narrow_1).before args s = true from hpre))
  obtain ⟨g1, g2⟩ := and_e hg
  obtain ⟨g3, g4⟩ := and_e g2
  obtain ⟨g5, g6⟩ := and_e g4
  obtain ⟨g7, g8⟩ := and_e g6
  obtain ⟨g9, g10⟩ := and_e g8
  obtain ⟨g11, g12⟩ := and_e g10
  obtain ⟨w0, w1, w2, w3, w4, w5, rfl⟩ : ∃ w0 w1 w2 w3 w4 w5 : Value, args = #[w0, w1, w2, w3, w4, w5] := by
    have hs : args.size = 6 := by simpa [Cond.value, given_1] using g1
    obtain ⟨L⟩ := args
    match L, hs with
    | [w0, w1, w2, w3, w4, w5], _ => exact ⟨w0, w1, w2, w3, w4, w5, rfl⟩
  have hw := fun d (hd : d ∈ tables_1) => atoms_spec (ws := Jvm.Cond.code x code maxLocals ret :: tables_1) hat d (List.mem_cons_of_mem _ hd)
  obtain ⟨i0, ei0⟩ := is_v g3
  obtain rfl : w0 = (.int i0) := Option.some.inj ei0
  obtain ⟨i1, ei1⟩ := is_v g5
  obtain rfl : w1 = (.int i1) := Option.some.inj ei1
  obtain ⟨i2, ei2⟩ := is_v g7
  obtain rfl : w2 = (.int i2) := Option.some.inj ei2
  obtain ⟨i3, ei3⟩ := is_v g9
  obtain rfl : w3 = (.int i3) := Option.some.inj ei3
  obtain ⟨i4, ei4⟩ := is_v g11
  obtain rfl : w4 = (.int i4) := Option.some.inj ei4
  obtain ⟨i5, ei5⟩ := is_v g12
  obtain rfl : w5 = (.int i5) := Option.some.inj ei5
  obtain ⟨n, o, h1, h2, h3, _, L, rfl, ⟨rfl, N⟩, hq⟩ := rm_law l s _ hw tables_1 i0 i1 i2 i3 i4 i5 s.heap s.heap.size (Nat.le_refl _)  p e ha hc hk s m _ below hf ((Spec.applies_iff_loose hf).mp happ).1 ⟨rfl, State.Warmed39.refl s, rfl⟩ trivial
  refine ⟨n, _, h1, h2, h3, hpost _ _ _ _ _ _ ⟨Cond.after_iff.mpr rfl, Cond.after_iff.mpr (eq_i res_at (Term.int_eval (1)) rfl), trivial⟩ ⟨hq.1, hq.2.1, (hq.2.2.sift fun y hy => Or.inr (N y hy)).mono (by decide) (by decide)⟩⟩
theorem main_1_1 : Claimed_1_1 := comes_1 fun _ _ _ _ _ _ h hF => ⟨h.1, hF⟩
theorem main_1_2 : Claimed_1_2 := comes_1 fun _ _ _ _ _ _ h hF => ⟨h.2.1, hF⟩
end Jvm.Pilot.@@N@@
namespace Jvm.Pilot.@@N@@
open Jvm Jvm.ClassFile Sem Op Lib Jvm.Free Jvm.Stand Jvm.Pilot.@@N@@.Jvm.D
/-! MADE BY PROGRAM (witnessworld.py) out of the Statement's table words and the real class files: 12 classes; the members and pool entries that the words name. The judged class is class 1, her method 2. -/
namespace start1
open Jvm.ClassFile
def u (s : String) : CpInfo := .utf8 (stringToUtf16 s)
/-- a pool by its gaps: so many unusable entries, then the entry; so many at the end -/
def gap : Nat → List CpInfo → List CpInfo
  | 0, r => r
  | n + 1, r => .unusable :: gap n r
def poolList (es : List (Nat × CpInfo)) (last : Nat) : List CpInfo := es.foldr (fun e r => gap e.1 (e.2 :: r)) (gap last [])
def pool (es : List (Nat × CpInfo)) (last : Nat) : Array CpInfo := ⟨poolList es last⟩
def fileOf (pool : Array CpInfo) (this : Nat) (attrs : Array Attribute := #[]) (ms : Array MethodInfo := #[]) (fl : Nat := 33) (sup : Nat := 0) (ifs : Array Nat := #[]) (fds : Array FieldInfo := #[]) : ClassFile where
  minorVersion := 0
  majorVersion := 65
  constantPool := pool
  accessFlags := fl
  thisClass := this
  superClass := sup
  interfaces := ifs
  fields := fds
  methods := ms
  attributes := attrs
def plain (name : String) (sup : Option ClassId) : Class where
  name := name
  kind := .ordinary
  loader := none
  accessFlags := 33
  super := sup
  interfaces := #[]
  cf := none
  fields := #[]
  methods := #[]
  instanceTypes := #[]
  staticTypes := #[]
  resolved := #[]
  callSites := []
  init := .initialized
  statics := none
  mirror := none

def pool0 : Array CpInfo := pool [(5, u "<init>"), (0, u "()V"), (1, .class_ 10), (1, u "java/lang/Object")] 113

def k0c0 : Code := { maxStack := 0, maxLocals := 1, code := object_method_1_code, exceptionTable := #[], attributes := #[] }
def k0m0 : Method := { name := "<init>", desc := "()V", sig := { parameters := [], returnType := none }, accessFlags := 1, code := some k0c0 }
/-- java/lang/Object -/
def k0 : Class := { plain "java/lang/Object" none with
  accessFlags := 33
  interfaces := #[]
  cf := some (fileOf pool0 8 #[] #[{ accessFlags := 1, nameIndex := 5, descriptorIndex := 6, attributes := #[] }] 33 0 #[] #[])
  fields := #[]
  methods := #[k0m0]
  instanceTypes := #[]
  staticTypes := #[]
  resolved := Array.replicate 124 none
  statics := none }

def pool1 : Array CpInfo := pool [(2, .class_ 4), (0, .nameAndType 5 6), (0, u "java/lang/Object"), (0, u "<init>"), (0, u "()V"), (0, .methodref 8 9), (0, .class_ 10), (0, .nameAndType 11 12), (0, u "java/lang/Math"), (0, u "min"), (0, u "(II)I"), (0, .methodref 8 14), (0, .nameAndType 15 12), (0, u "max"), (0, .class_ 17), (0, u "com/example/halting_hound/haltinghound/IntList"), (0, .methodref 16 3), (0, .methodref 16 20), (0, .nameAndType 21 22), (0, u "add"), (0, u "(I)V"), (0, .methodref 24 25), (0, .class_ 26), (0, .nameAndType 27 28), (0, u "com/example/halting_hound/haltinghound/IntListFirstAtLeastPinLaw"), (0, u "below"), (0, u "(ZII)I"), (0, .methodref 16 30), (0, .nameAndType 31 32), (0, u "firstAtLeast"), (0, u "(I)I"), (3, u "law"), (0, u "(IIIIII)Z")] 2

def k1m0 : Method := { name := "<init>", desc := "()V", sig := { parameters := [], returnType := none }, accessFlags := 1, code := none }
def k1c1 : Code := { maxStack := 2, maxLocals := 3, code := method_2_code, exceptionTable := #[], attributes := #[] }
def k1m1 : Method := { name := "below", desc := "(ZII)I", sig := { parameters := [.boolean, .int, .int], returnType := some .int }, accessFlags := 10, code := some k1c1 }
def k1c2 : Code := { maxStack := 4, maxLocals := 23, code := code, exceptionTable := #[], attributes := #[] }
def k1m2 : Method := { name := "law", desc := "(IIIIII)Z", sig := { parameters := [.int, .int, .int, .int, .int, .int], returnType := some .boolean }, accessFlags := 9, code := some k1c2 }
/-- com/example/halting_hound/haltinghound/IntListFirstAtLeastPinLaw -/
def k1 : Class := { plain "com/example/halting_hound/haltinghound/IntListFirstAtLeastPinLaw" (some 0) with
  accessFlags := 49
  interfaces := #[]
  cf := some (fileOf pool1 24 #[] #[{ accessFlags := 1, nameIndex := 5, descriptorIndex := 6, attributes := #[] }, { accessFlags := 10, nameIndex := 27, descriptorIndex := 28, attributes := #[] }, { accessFlags := 9, nameIndex := 36, descriptorIndex := 37, attributes := #[] }] 49 2 #[] #[])
  fields := #[]
  methods := #[k1m0, k1m1, k1m2]
  instanceTypes := #[]
  staticTypes := #[]
  resolved := Array.replicate 40 none
  statics := none }

def pool2 : Array CpInfo := pool [(1, .class_ 2), (0, u "java/lang/Math"), (1, .class_ 6), (1, u "java/lang/Object"), (0, u "<init>"), (0, u "()V"), (89, .class_ 100), (1, u "java/lang/Math$RandomNumberGeneratorHolder"), (71, u "negativeZeroFloatBits"), (0, u "J"), (2, u "negativeZeroDoubleBits"), (21, u "max"), (2, u "min"), (43, u "$assertionsDisabled"), (0, u "Z"), (88, u "(II)I"), (2, u "twoToTheDoubleScaleDown"), (0, u "D"), (4, u "twoToTheDoubleScaleUp"), (9, u "E"), (3, u "PI"), (2, u "TAU"), (2, u "DEGREES_TO_RADIANS"), (0, u "RADIANS_TO_DEGREES")] 94

def k2m0 : Method := { name := "<init>", desc := "()V", sig := { parameters := [], returnType := none }, accessFlags := 2, code := none }
def k2c1 : Code := { maxStack := 2, maxLocals := 2, code := jdk_29_method_65_code, exceptionTable := #[], attributes := #[] }
def k2m1 : Method := { name := "max", desc := "(II)I", sig := { parameters := [.int, .int], returnType := some .int }, accessFlags := 9, code := some k2c1 }
def k2c2 : Code := { maxStack := 2, maxLocals := 2, code := jdk_29_method_69_code, exceptionTable := #[], attributes := #[] }
def k2m2 : Method := { name := "min", desc := "(II)I", sig := { parameters := [.int, .int], returnType := some .int }, accessFlags := 9, code := some k2c2 }
/-- java/lang/Math -/
def k2 : Class := { plain "java/lang/Math" (some 0) with
  accessFlags := 49
  interfaces := #[]
  cf := some (fileOf pool2 1 #[.nestMembers #[98]] #[{ accessFlags := 2, nameIndex := 7, descriptorIndex := 8, attributes := #[] }, { accessFlags := 9, nameIndex := 198, descriptorIndex := 335, attributes := #[] }, { accessFlags := 9, nameIndex := 201, descriptorIndex := 335, attributes := #[] }] 49 4 #[] #[{ accessFlags := 25, nameIndex := 354, descriptorIndex := 339, attributes := #[] }, { accessFlags := 25, nameIndex := 358, descriptorIndex := 339, attributes := #[] }, { accessFlags := 25, nameIndex := 361, descriptorIndex := 339, attributes := #[] }, { accessFlags := 26, nameIndex := 364, descriptorIndex := 339, attributes := #[] }, { accessFlags := 26, nameIndex := 365, descriptorIndex := 339, attributes := #[] }, { accessFlags := 26, nameIndex := 172, descriptorIndex := 173, attributes := #[] }, { accessFlags := 26, nameIndex := 176, descriptorIndex := 173, attributes := #[] }, { accessFlags := 8, nameIndex := 344, descriptorIndex := 339, attributes := #[] }, { accessFlags := 8, nameIndex := 338, descriptorIndex := 339, attributes := #[] }, { accessFlags := 4120, nameIndex := 245, descriptorIndex := 246, attributes := #[] }])
  fields := #[{ name := "E", type := .double, accessFlags := 25, slot := 0, constantValue := 0 }, { name := "PI", type := .double, accessFlags := 25, slot := 1, constantValue := 0 }, { name := "TAU", type := .double, accessFlags := 25, slot := 2, constantValue := 0 }, { name := "DEGREES_TO_RADIANS", type := .double, accessFlags := 26, slot := 3, constantValue := 0 }, { name := "RADIANS_TO_DEGREES", type := .double, accessFlags := 26, slot := 4, constantValue := 0 }, { name := "negativeZeroFloatBits", type := .long, accessFlags := 26, slot := 5, constantValue := 0 }, { name := "negativeZeroDoubleBits", type := .long, accessFlags := 26, slot := 6, constantValue := 0 }, { name := "twoToTheDoubleScaleUp", type := .double, accessFlags := 8, slot := 7, constantValue := 0 }, { name := "twoToTheDoubleScaleDown", type := .double, accessFlags := 8, slot := 8, constantValue := 0 }, { name := "$assertionsDisabled", type := .boolean, accessFlags := 4120, slot := 9, constantValue := 0 }]
  methods := #[k2m0, k2m1, k2m2]
  instanceTypes := #[]
  staticTypes := #[.double, .double, .double, .double, .double, .long, .long, .double, .double, .boolean]
  resolved := Array.replicate 460 none
  statics := none }

def pool3 : Array CpInfo := pool [(1, .methodref 2 3), (0, .class_ 4), (0, .nameAndType 5 6), (0, u "java/lang/Object"), (0, u "<init>"), (0, u "()V"), (0, .fieldref 8 9), (0, .class_ 10), (0, .nameAndType 11 12), (0, u "com/example/halting_hound/haltinghound/IntList"), (0, u "values"), (0, u "[I"), (0, .fieldref 8 14), (0, .nameAndType 15 16), (0, u "size"), (0, u "I"), (0, .methodref 18 19), (0, .class_ 20), (0, .nameAndType 21 22), (0, u "java/util/Arrays"), (0, u "copyOf"), (0, u "([II)[I"), (11, u "add"), (0, u "(I)V"), (2, u "(I)I"), (1, u "firstAtLeast")] 17

def k3c0 : Code := { maxStack := 2, maxLocals := 1, code := prog_33_method_1_code, exceptionTable := #[], attributes := #[] }
def k3m0 : Method := { name := "<init>", desc := "()V", sig := { parameters := [], returnType := none }, accessFlags := 0, code := some k3c0 }
def k3c1 : Code := { maxStack := 5, maxLocals := 2, code := prog_33_method_2_code, exceptionTable := #[], attributes := #[] }
def k3m1 : Method := { name := "add", desc := "(I)V", sig := { parameters := [.int], returnType := none }, accessFlags := 0, code := some k3c1 }
def k3c2 : Code := { maxStack := 2, maxLocals := 5, code := prog_33_method_5_code, exceptionTable := #[], attributes := #[] }
def k3m2 : Method := { name := "firstAtLeast", desc := "(I)I", sig := { parameters := [.int], returnType := some .int }, accessFlags := 0, code := some k3c2 }
/-- com/example/halting_hound/haltinghound/IntList -/
def k3 : Class := { plain "com/example/halting_hound/haltinghound/IntList" (some 0) with
  accessFlags := 48
  interfaces := #[]
  cf := some (fileOf pool3 8 #[] #[{ accessFlags := 0, nameIndex := 5, descriptorIndex := 6, attributes := #[] }, { accessFlags := 0, nameIndex := 34, descriptorIndex := 35, attributes := #[] }, { accessFlags := 0, nameIndex := 40, descriptorIndex := 38, attributes := #[] }] 48 2 #[] #[{ accessFlags := 2, nameIndex := 11, descriptorIndex := 12, attributes := #[] }, { accessFlags := 2, nameIndex := 15, descriptorIndex := 16, attributes := #[] }])
  fields := #[{ name := "values", type := (.array .int), accessFlags := 2, slot := 0, constantValue := 0 }, { name := "size", type := .int, accessFlags := 2, slot := 1, constantValue := 0 }]
  methods := #[k3m0, k3m1, k3m2]
  instanceTypes := #[(.array .int), .int]
  staticTypes := #[]
  resolved := Array.replicate 58 none
  statics := none }

def pool4 : Array CpInfo := pool [(2, .class_ 4), (1, u "java/lang/Object"), (0, u "<init>"), (0, u "()V"), (7, .class_ 16), (1, u "java/util/Arrays"), (57, .class_ 76), (1, u "java/util/Arrays$NaturalOrder"), (36, .class_ 115), (1, u "java/util/Arrays$LegacyMergeSort"), (1, u "Z"), (32, .methodref 151 152), (0, .class_ 153), (0, .nameAndType 154 155), (0, u "java/lang/System"), (0, u "arraycopy"), (0, u "(Ljava/lang/Object;ILjava/lang/Object;II)V"), (146, u "copyOf"), (1, .methodref 305 306), (0, .class_ 307), (0, .nameAndType 308 309), (0, u "java/lang/Math"), (0, u "min"), (0, u "(II)I"), (65, .class_ 376), (0, u "java/util/Arrays$ArrayList"), (68, u "$assertionsDisabled"), (269, u "MIN_ARRAY_SORT_GRAN"), (0, u "I"), (2, u "INSERTIONSORT_THRESHOLD"), (151, u "([II)[I"), (103, .class_ 976), (0, u "java/util/Arrays$ArrayItr")] 52

def k4m0 : Method := { name := "<init>", desc := "()V", sig := { parameters := [], returnType := none }, accessFlags := 2, code := none }
def k4c1 : Code := { maxStack := 6, maxLocals := 3, code := jdk_65_method_123_code, exceptionTable := #[], attributes := #[] }
def k4m1 : Method := { name := "copyOf", desc := "([II)[I", sig := { parameters := [(.array .int), .int], returnType := some (.array .int) }, accessFlags := 9, code := some k4c1 }
/-- java/util/Arrays -/
def k4 : Class := { plain "java/util/Arrays" (some 0) with
  accessFlags := 49
  interfaces := #[]
  cf := some (fileOf pool4 14 #[.nestMembers #[975, 375, 113, 74]] #[{ accessFlags := 2, nameIndex := 5, descriptorIndex := 6, attributes := #[] }, { accessFlags := 9, nameIndex := 302, descriptorIndex := 871, attributes := #[] }] 49 2 #[] #[{ accessFlags := 26, nameIndex := 715, descriptorIndex := 716, attributes := #[] }, { accessFlags := 26, nameIndex := 719, descriptorIndex := 716, attributes := #[] }, { accessFlags := 4120, nameIndex := 445, descriptorIndex := 117, attributes := #[] }])
  fields := #[{ name := "MIN_ARRAY_SORT_GRAN", type := .int, accessFlags := 26, slot := 0, constantValue := 0 }, { name := "INSERTIONSORT_THRESHOLD", type := .int, accessFlags := 26, slot := 1, constantValue := 0 }, { name := "$assertionsDisabled", type := .boolean, accessFlags := 4120, slot := 2, constantValue := 0 }]
  methods := #[k4m0, k4m1]
  instanceTypes := #[]
  staticTypes := #[.int, .int, .boolean]
  resolved := Array.replicate 1029 none
  statics := none }

def pool5 : Array CpInfo := pool [(2, .class_ 4), (1, u "java/lang/Object"), (0, u "<init>"), (0, u "()V"), (1, .class_ 10), (1, u "java/lang/System"), (0, u "allowSecurityManager"), (0, u "I"), (16, u "cons"), (0, u "Ljava/io/Console;"), (77, .class_ 110), (1, u "java/lang/System$CallersHolder"), (43, u "initialErrStream"), (0, u "Ljava/io/PrintStream;"), (19, u "security"), (0, u "Ljava/lang/SecurityManager;"), (31, .class_ 209), (0, u "java/lang/System$1"), (7, u "props"), (0, u "Ljava/util/Properties;"), (2, u "lineSeparator"), (0, u "Ljava/lang/String;"), (96, .class_ 321), (1, u "java/lang/System$LoggerFinder"), (5, .class_ 328), (0, u "java/lang/System$Logger"), (67, u "err"), (2, u "out"), (91, u "notSupportedJnuEncoding"), (15, u "in"), (17, u "initialIn"), (0, u "Ljava/io/InputStream;"), (35, u "bootLayer"), (0, u "Ljava/lang/ModuleLayer;"), (99, .class_ 664), (0, u "java/lang/System$2"), (9, u "NEVER"), (2, u "MAYBE"), (49, u "arraycopy"), (0, u "(Ljava/lang/Object;ILjava/lang/Object;II)V"), (72, .class_ 802), (0, u "java/lang/System$Logger$Level")] 31

def k5m0 : Method := { name := "<init>", desc := "()V", sig := { parameters := [], returnType := none }, accessFlags := 2, code := none }
def k5m1 : Method := { name := "arraycopy", desc := "(Ljava/lang/Object;ILjava/lang/Object;II)V", sig := { parameters := [(.object "java/lang/Object"), .int, (.object "java/lang/Object"), .int, .int], returnType := none }, accessFlags := 265, code := none }
/-- java/lang/System -/
def k5 : Class := { plain "java/lang/System" (some 0) with
  accessFlags := 49
  interfaces := #[]
  cf := some (fileOf pool5 8 #[.nestMembers #[319, 327, 801, 108, 663, 208]] #[{ accessFlags := 2, nameIndex := 5, descriptorIndex := 6, attributes := #[] }, { accessFlags := 265, nameIndex := 727, descriptorIndex := 728, attributes := #[] }] 49 2 #[] #[{ accessFlags := 25, nameIndex := 507, descriptorIndex := 526, attributes := #[] }, { accessFlags := 25, nameIndex := 399, descriptorIndex := 155, attributes := #[] }, { accessFlags := 25, nameIndex := 396, descriptorIndex := 155, attributes := #[] }, { accessFlags := 10, nameIndex := 525, descriptorIndex := 526, attributes := #[] }, { accessFlags := 26, nameIndex := 674, descriptorIndex := 12, attributes := #[] }, { accessFlags := 26, nameIndex := 677, descriptorIndex := 12, attributes := #[] }, { accessFlags := 10, nameIndex := 11, descriptorIndex := 12, attributes := #[] }, { accessFlags := 74, nameIndex := 175, descriptorIndex := 176, attributes := #[] }, { accessFlags := 10, nameIndex := 491, descriptorIndex := 222, attributes := #[] }, { accessFlags := 74, nameIndex := 29, descriptorIndex := 30, attributes := #[] }, { accessFlags := 74, nameIndex := 154, descriptorIndex := 155, attributes := #[] }, { accessFlags := 10, nameIndex := 217, descriptorIndex := 218, attributes := #[] }, { accessFlags := 10, nameIndex := 221, descriptorIndex := 222, attributes := #[] }, { accessFlags := 8, nameIndex := 562, descriptorIndex := 563, attributes := #[] }])
  fields := #[{ name := "in", type := (.object "java/io/InputStream"), accessFlags := 25, slot := 0, constantValue := 0 }, { name := "out", type := (.object "java/io/PrintStream"), accessFlags := 25, slot := 1, constantValue := 0 }, { name := "err", type := (.object "java/io/PrintStream"), accessFlags := 25, slot := 2, constantValue := 0 }, { name := "initialIn", type := (.object "java/io/InputStream"), accessFlags := 10, slot := 3, constantValue := 0 }, { name := "NEVER", type := .int, accessFlags := 26, slot := 4, constantValue := 0 }, { name := "MAYBE", type := .int, accessFlags := 26, slot := 5, constantValue := 0 }, { name := "allowSecurityManager", type := .int, accessFlags := 10, slot := 6, constantValue := 0 }, { name := "security", type := (.object "java/lang/SecurityManager"), accessFlags := 74, slot := 7, constantValue := 0 }, { name := "notSupportedJnuEncoding", type := (.object "java/lang/String"), accessFlags := 10, slot := 8, constantValue := 0 }, { name := "cons", type := (.object "java/io/Console"), accessFlags := 74, slot := 9, constantValue := 0 }, { name := "initialErrStream", type := (.object "java/io/PrintStream"), accessFlags := 74, slot := 10, constantValue := 0 }, { name := "props", type := (.object "java/util/Properties"), accessFlags := 10, slot := 11, constantValue := 0 }, { name := "lineSeparator", type := (.object "java/lang/String"), accessFlags := 10, slot := 12, constantValue := 0 }, { name := "bootLayer", type := (.object "java/lang/ModuleLayer"), accessFlags := 8, slot := 13, constantValue := 0 }]
  methods := #[k5m0, k5m1]
  instanceTypes := #[]
  staticTypes := #[(.object "java/io/InputStream"), (.object "java/io/PrintStream"), (.object "java/io/PrintStream"), (.object "java/io/InputStream"), .int, .int, .int, (.object "java/lang/SecurityManager"), (.object "java/lang/String"), (.object "java/io/Console"), (.object "java/io/PrintStream"), (.object "java/util/Properties"), (.object "java/lang/String"), (.object "java/lang/ModuleLayer")]
  resolved := Array.replicate 834 none
  statics := none }

def pool6 : Array CpInfo := pool [(1, u "java/lang/Cloneable"), (0, .class_ 1), (0, u "java/lang/Object"), (0, .class_ 3)] 3

/-- java/lang/Cloneable -/
def k6 : Class := { plain "java/lang/Cloneable" (some 0) with
  accessFlags := 1537
  interfaces := #[]
  cf := some (fileOf pool6 2 #[] #[] 1537 4 #[] #[])
  fields := #[]
  methods := #[]
  instanceTypes := #[]
  staticTypes := #[]
  resolved := Array.replicate 8 none
  statics := none }

def pool7 : Array CpInfo := pool [(1, u "java/io/Serializable"), (0, .class_ 1), (0, u "java/lang/Object"), (0, .class_ 3)] 3

/-- java/io/Serializable -/
def k7 : Class := { plain "java/io/Serializable" (some 0) with
  accessFlags := 1537
  interfaces := #[]
  cf := some (fileOf pool7 2 #[] #[] 1537 4 #[] #[])
  fields := #[]
  methods := #[]
  instanceTypes := #[]
  staticTypes := #[]
  resolved := Array.replicate 8 none
  statics := none }

/-- the primitive byte -/
def k8 : Class := { plain "byte" none with kind := .primitive 'B', accessFlags := 0x411 }
/-- [B -/
def k9 : Class := { plain "[B" (some 0) with kind := .array 8 .byte, interfaces := #[6, 7], accessFlags := 1041 }

/-- the primitive int -/
def k10 : Class := { plain "int" none with kind := .primitive 'I', accessFlags := 0x411 }
/-- [I -/
def k11 : Class := { plain "[I" (some 0) with kind := .array 10 .int, interfaces := #[6, 7], accessFlags := 1041 }

def heap : Heap := #[]
def classes : Array Class := #[k0, k1, k2, k3, k4, k5, k6, k7, k8, k9, k10, k11]
def interned : List (Array UInt16 × Addr) := []
def slotsUsed : Nat := 0
def theMethod : MethodId := ⟨1, 2⟩
def args0 : Array Value := #[.int 4, .int 2, .int 3, .int 4, .int 5, .int 6]
def aboutOver (below : List Frame) : State where
  vm := { classes := classes, interned := interned.toArray }
  heap := heap
  slotsUsed := slotsUsed
  threads := #[{ frames := .invoking theMethod args0 :: below }]
def below0 : List Frame := [.native { method := ⟨0, 0⟩, args := #[] }]
def about1 : State := aboutOver below0
def p0 : Program := .bare "" "" ""
def e0 : Env := launch0.env 0 0 0
theorem w_frames : about1.frames = Frame.invoking theMethod args0 :: below0 := rfl
set_option maxRecDepth 65536 in
theorem w_args : argsFit about1.vm theMethod args0 = true := by decide +kernel
set_option maxRecDepth 65536 in
theorem w_heap : heapFits about1 = true := by decide +kernel
set_option maxRecDepth 65536 in
theorem w_runnable : about1.curStatus? = some .runnable := by decide +kernel
set_option maxRecDepth 65536 in
theorem w_alone : about1.alone = true := by decide +kernel
set_option maxRecDepth 65536 in
theorem w_named : about1.methodNamed? x = some theMethod := by decide +kernel
set_option maxRecDepth 65536 in
theorem w_hears : about1.hears theMethod below0 = true := by decide +kernel
set_option maxRecDepth 65536 in
theorem w_ripe : about1.ripe theMethod args0 below0 = true := by decide +kernel
theorem w_running : about1.status = .running := rfl
set_option maxRecDepth 65536 in
theorem w_room : about1.hasRoom e0.platform room_1 = true :=
  launch0.hasRoom_least _ room_1 (by decide +kernel) (by decide +kernel) (by decide +kernel) (by decide +kernel) (by decide +kernel) (by decide +kernel)
theorem allAtoms_all (ts : List Jvm.Cond) (a : Array Jvm.Value) (st : Jvm.State) : (allAtoms ts).before a st = ts.all (fun c => c.before a st) := by
  induction ts with
  | nil => rfl
  | cons c t ih =>
    show (Jvm.Cond.and c (allAtoms t)).before a st = _
    rw [Jvm.Cond.before_and, ih, List.all_cons]
def words1 : List Jvm.Cond := Jvm.Cond.code x code maxLocals ret :: tables_1
/-- a 'code' word, met by the world's own term for the bytes: nothing is compared byte by byte -/
theorem code_word {y : MethodName} {bytes : ByteArray} {mx : Nat} {rt : Option FieldType} {a : Array Value} {s : State} {m : MethodId} {meth : Method} {c : Code} (h1 : s.methodNamed? y = some m) (h2 : s.vm.method? m = some meth) (h3 : meth.code = some c) (h4 : c.code = bytes)
    (h5 : (c.maxLocals == mx && c.exceptionTable.isEmpty && decide (c.maxStack ≤ mostOperands) && decide (meth.sig.returnType = rt) && !meth.locks && decide (parseMethodDescriptor y.desc = some meth.sig)) = true) : (Jvm.Cond.code y bytes mx rt).before a s = true := by
  simp only [Bool.and_eq_true, beq_iff_eq, Bool.not_eq_true', decide_eq_true_eq] at h5
  obtain ⟨⟨⟨⟨⟨g1, g2⟩, g3⟩, g4⟩, g5⟩, g6⟩ := h5
  simp [Cond.before, Cond.holds, Cond.value, h1, h2, h3, h4, g1, g2, g3, g4, g5, g6]
def isCode : Jvm.Cond → Bool
  | .code _ _ _ _ => true
  | _ => false
theorem all_split {L : List Jvm.Cond} {P : Jvm.Cond → Bool} (h1 : L.all (fun c => isCode c || P c) = true) (h2 : ∀ c ∈ L.filter isCode, P c = true) : L.all P = true := by
  refine List.all_eq_true.mpr fun c hc => ?_
  have h := List.all_eq_true.mp h1 c hc
  rcases Bool.eq_false_or_eq_true (isCode c) with hi | hi
  · exact h2 c (List.mem_filter.mpr ⟨hc, hi⟩)
  · simpa [hi] using h
set_option maxRecDepth 65536 in
theorem w_c0 : (Jvm.Cond.code x code maxLocals ret).before args0 about1 = true := code_word (m := ⟨1, 2⟩) (meth := k1m2) (c := k1c2) (by decide +kernel) rfl rfl rfl (by decide +kernel)
set_option maxRecDepth 65536 in
theorem w_c1 : (Jvm.Cond.code ({ cls := "java/lang/Math", name := "min", desc := "(II)I" } : Jvm.MethodName) jdk_29_method_69_code (2 : Nat) (Option.some Jvm.ClassFile.FieldType.int)).before args0 about1 = true := code_word (m := ⟨2, 2⟩) (meth := k2m2) (c := k2c2) (by decide +kernel) rfl rfl rfl (by decide +kernel)
set_option maxRecDepth 65536 in
theorem w_c2 : (Jvm.Cond.code ({ cls := "java/lang/Math", name := "max", desc := "(II)I" } : Jvm.MethodName) jdk_29_method_65_code (2 : Nat) (Option.some Jvm.ClassFile.FieldType.int)).before args0 about1 = true := code_word (m := ⟨2, 1⟩) (meth := k2m1) (c := k2c1) (by decide +kernel) rfl rfl rfl (by decide +kernel)
set_option maxRecDepth 65536 in
theorem w_c3 : (Jvm.Cond.code ({ cls := "com/example/halting_hound/haltinghound/IntList", name := "<init>", desc := "()V" } : Jvm.MethodName) prog_33_method_1_code (1 : Nat) (Option.none : Option Jvm.ClassFile.FieldType)).before args0 about1 = true := code_word (m := ⟨3, 0⟩) (meth := k3m0) (c := k3c0) (by decide +kernel) rfl rfl rfl (by decide +kernel)
set_option maxRecDepth 65536 in
theorem w_c4 : (Jvm.Cond.code ({ cls := "java/lang/Object", name := "<init>", desc := "()V" } : Jvm.MethodName) object_method_1_code (1 : Nat) (Option.none : Option Jvm.ClassFile.FieldType)).before args0 about1 = true := code_word (m := ⟨0, 0⟩) (meth := k0m0) (c := k0c0) (by decide +kernel) rfl rfl rfl (by decide +kernel)
set_option maxRecDepth 65536 in
theorem w_c5 : (Jvm.Cond.code ({ cls := "com/example/halting_hound/haltinghound/IntListFirstAtLeastPinLaw", name := "below", desc := "(ZII)I" } : Jvm.MethodName) method_2_code (3 : Nat) (Option.some Jvm.ClassFile.FieldType.int)).before args0 about1 = true := code_word (m := ⟨1, 1⟩) (meth := k1m1) (c := k1c1) (by decide +kernel) rfl rfl rfl (by decide +kernel)
set_option maxRecDepth 65536 in
theorem w_c6 : (Jvm.Cond.code ({ cls := "com/example/halting_hound/haltinghound/IntList", name := "firstAtLeast", desc := "(I)I" } : Jvm.MethodName) prog_33_method_5_code (5 : Nat) (Option.some Jvm.ClassFile.FieldType.int)).before args0 about1 = true := code_word (m := ⟨3, 2⟩) (meth := k3m2) (c := k3c2) (by decide +kernel) rfl rfl rfl (by decide +kernel)
set_option maxRecDepth 65536 in
theorem w_c7 : (Jvm.Cond.code ({ cls := "com/example/halting_hound/haltinghound/IntList", name := "add", desc := "(I)V" } : Jvm.MethodName) prog_33_method_2_code (2 : Nat) (Option.none : Option Jvm.ClassFile.FieldType)).before args0 about1 = true := code_word (m := ⟨3, 1⟩) (meth := k3m1) (c := k3c1) (by decide +kernel) rfl rfl rfl (by decide +kernel)
set_option maxRecDepth 65536 in
theorem w_c8 : (Jvm.Cond.code ({ cls := "java/util/Arrays", name := "copyOf", desc := "([II)[I" } : Jvm.MethodName) jdk_65_method_123_code (3 : Nat) (Option.some (Jvm.ClassFile.FieldType.array Jvm.ClassFile.FieldType.int))).before args0 about1 = true := code_word (m := ⟨4, 1⟩) (meth := k4m1) (c := k4c1) (by decide +kernel) rfl rfl rfl (by decide +kernel)
def codes1 : List Jvm.Cond := [Jvm.Cond.code x code maxLocals ret, Jvm.Cond.code ({ cls := "java/lang/Math", name := "min", desc := "(II)I" } : Jvm.MethodName) jdk_29_method_69_code (2 : Nat) (Option.some Jvm.ClassFile.FieldType.int), Jvm.Cond.code ({ cls := "java/lang/Math", name := "max", desc := "(II)I" } : Jvm.MethodName) jdk_29_method_65_code (2 : Nat) (Option.some Jvm.ClassFile.FieldType.int), Jvm.Cond.code ({ cls := "com/example/halting_hound/haltinghound/IntList", name := "<init>", desc := "()V" } : Jvm.MethodName) prog_33_method_1_code (1 : Nat) (Option.none : Option Jvm.ClassFile.FieldType), Jvm.Cond.code ({ cls := "java/lang/Object", name := "<init>", desc := "()V" } : Jvm.MethodName) object_method_1_code (1 : Nat) (Option.none : Option Jvm.ClassFile.FieldType), Jvm.Cond.code ({ cls := "com/example/halting_hound/haltinghound/IntListFirstAtLeastPinLaw", name := "below", desc := "(ZII)I" } : Jvm.MethodName) method_2_code (3 : Nat) (Option.some Jvm.ClassFile.FieldType.int), Jvm.Cond.code ({ cls := "com/example/halting_hound/haltinghound/IntList", name := "firstAtLeast", desc := "(I)I" } : Jvm.MethodName) prog_33_method_5_code (5 : Nat) (Option.some Jvm.ClassFile.FieldType.int), Jvm.Cond.code ({ cls := "com/example/halting_hound/haltinghound/IntList", name := "add", desc := "(I)V" } : Jvm.MethodName) prog_33_method_2_code (2 : Nat) (Option.none : Option Jvm.ClassFile.FieldType), Jvm.Cond.code ({ cls := "java/util/Arrays", name := "copyOf", desc := "([II)[I" } : Jvm.MethodName) jdk_65_method_123_code (3 : Nat) (Option.some (Jvm.ClassFile.FieldType.array Jvm.ClassFile.FieldType.int))]
set_option maxRecDepth 65536 in
theorem codes_eq : words1.filter isCode = codes1 := rfl
theorem w_codes : ∀ c ∈ words1.filter isCode, c.before args0 about1 = true := by
  rw [codes_eq]
  intro c hc
  simp only [codes1, List.mem_cons, List.not_mem_nil, or_false] at hc
  rcases hc with rfl | rfl | rfl | rfl | rfl | rfl | rfl | rfl | rfl
  · exact w_c0
  · exact w_c1
  · exact w_c2
  · exact w_c3
  · exact w_c4
  · exact w_c5
  · exact w_c6
  · exact w_c7
  · exact w_c8
set_option maxRecDepth 65536 in
theorem w_t1 : (words1.take 24).all (fun c => isCode c || c.before args0 about1) = true := by decide +kernel
set_option maxRecDepth 65536 in
theorem w_t2 : (words1.drop 24).all (fun c => isCode c || c.before args0 about1) = true := by decide +kernel
theorem w_tables : (allAtoms (Jvm.Cond.code x code maxLocals ret :: tables_1)).before args0 about1 = true := by
  rw [allAtoms_all]
  show words1.all (fun c => c.before args0 about1) = true
  refine all_split ?_ w_codes
  rw [← List.take_append_drop 24 words1, List.all_append, w_t1, w_t2]
  rfl
set_option maxRecDepth 65536 in
theorem w_case : (Jvm.Cond.and given_1 narrow_1).before args0 about1 = true := by decide +kernel
theorem w_applies : (headSpec (Jvm.Cond.code x code maxLocals ret :: tables_1) room_1).applies x e0.platform about1 = true :=
  (Spec.applies_iff w_frames).mpr ⟨w_running, w_runnable, w_alone, w_named, w_hears, w_ripe, w_room, w_tables⟩
theorem atStart : AtStart classFile x code maxLocals ret World_1 tables_1 room_1 Calls_1 rest_1 Pre_1 launch0 p0 e0 about1 theMethod args0 below0 :=
  ⟨lists_1, trivial, launch0.admits_env _ _ _, launch0.least_env, fairChoices_fair.cas, fairChoices_fair.clock, w_frames, w_args, w_heap, w_applies, trivial, trivial, w_case⟩
end start1
theorem witness_1 : WitnessClaimed_1 := ⟨start1.p0, start1.e0, start1.about1, start1.theMethod, start1.args0, start1.below0, start1.atStart⟩
end Jvm.Pilot.@@N@@
