import JvmDerived
import JvmDerived.Pilot.@@N@@Statement
import JvmDerived.Pilot.@@N@@Code
set_option linter.unusedVariables false
set_option linter.unusedSimpArgs false
namespace Jvm.RoadKit
open Sem ClassFile Op Lib Jvm.Stand Jvm.Free Jvm.LawKit
section New
variable {p : Program} {l : Launch} {e : Env} {R : Room} {s : State} {m : MethodId} {args : Array Value} {below : List Frame} {meth : Method} {c : Code} {T : State} {locs : List Loc} {cells slots : Nat}
theorem retI (X : Stand p l e R s m args below meth c T locs cells slots) (hx : p.tables.exec = Jvm.exec) {pc : Nat} {Ls : Array Slot} {z : Int32} {rest : List Value} (hret : meth.sig.returnType = some .int) (hd : decode c.code pc = .ok (.ireturn, 1)) {fs : List Frame}
    (hl : ∀ (f : JFrame) (acts : List Action), f.method = m → f.locked = none → f.entered = [] → (doReturn e (T.setTop f) acts (some (.int z))).1 = T.setFrames fs) : Steps p.tables e below (T.setTop (mkF m pc Ls (.int z :: rest))) (T.setFrames fs) := by
  have hm' : T.vm.method? m = some meth := X.method'
  have hn : narrow .int (.int z) = .int z := rfl
  show Steps p.tables e below (T.setTop { method := m, pc := pc, locals := Ls, stack := _ :: rest, locked := none }) _
  jvm_step X.here [X.here.top, hx, hd, hm', hret, hn]
  first | (intro acts; rw [hl _ acts rfl rfl rfl]) | rw [hl _ _ rfl rfl rfl]
  exact Steps.refl _
end New
end Jvm.RoadKit
namespace Jvm.Pilot.@@N@@
open Jvm Jvm.ClassFile Sem Op Lib Jvm.Free Jvm.Stand Jvm.LawKit Jvm.RoadKit Bundle Jvm.Pilot.@@N@@.Jvm.D
/-- a body that writes nothing and returns r -/
def QV (r : Value) (h0 : Heap) (n0 : Nat) (v : Option Value) (h : Heap) (L : List Loc) : Prop := v = some r ∧ Fr n0 L ∧ h = h0
/-- a body that writes nothing and returns nothing -/
def QN (h0 : Heap) (n0 : Nat) (v : Option Value) (h : Heap) (L : List Loc) : Prop := v = none ∧ Fr n0 L ∧ h = h0
theorem pd_0 : parseMethodDescriptor "(JJ)J" = some ⟨[.long, .long], some .long⟩ := by decide +kernel
theorem pd_1 : parseMethodDescriptor "([I)Z" = some ⟨[(.array .int)], some .boolean⟩ := by decide +kernel
theorem pd_2 : parseMethodDescriptor "(IIIII)Z" = some ⟨[.int, .int, .int, .int, .int], some .boolean⟩ := by decide +kernel
theorem mj_0 : decode jdk_29_method_70_code 0 = .ok (.lload_n 0, 1) := by decide +kernel
theorem mj_1 : decode jdk_29_method_70_code 1 = .ok (.lload_n 2, 1) := by decide +kernel
theorem mj_2 : decode jdk_29_method_70_code 2 = .ok (.lcmp, 1) := by decide +kernel
theorem mj_3 : decode jdk_29_method_70_code 3 = .ok (.ifCond .gt 7, 3) := by decide +kernel
theorem mj_6 : decode jdk_29_method_70_code 6 = .ok (.lload_n 0, 1) := by decide +kernel
theorem mj_7 : decode jdk_29_method_70_code 7 = .ok (.goto 4, 3) := by decide +kernel
theorem mj_10 : decode jdk_29_method_70_code 10 = .ok (.lload_n 2, 1) := by decide +kernel
theorem mj_11 : decode jdk_29_method_70_code 11 = .ok (.lreturn, 1) := by decide +kernel
theorem ef_mj (m : MethodId) (q1 : Int64) (q2 : Int64) : entryFrame m #[(.long q1), (.long q2)] 4 = mkF m 0 #[.val (.long q1), .second, .val (.long q2), .second] [] := by first | (simp [entryFrame, mkF, argsToLocals, Value.category]; done) | rfl
def own_mj (q1 : Int64) (q2 : Int64) : Int64 := if q2 < q1 then q2 else q1
set_option maxRecDepth 65536 in
set_option maxHeartbeats 40000000 in
theorem rm_mj (l : Launch) (Z : State) (a0 : Array Value) (hw : ∀ d ∈ tables_1, d.before a0 Z = true) (ws : List Jvm.Cond) (q1 : Int64) (q2 : Int64) (h0 : Heap) (n0 : Nat) (Z0 : n0 ≤ h0.size)  :
    MetFree l (⟨"java/lang/Math", "min", "(JJ)J"⟩ : MethodName) (head1 (Jvm.Cond.code (⟨"java/lang/Math", "min", "(JJ)J"⟩ : MethodName) jdk_29_method_70_code 4 (some .long) :: ws) ({ frames := 0, cells := 0, slots := 0, locals := 0 } : Room)) (fun a U => a = #[(.long q1), (.long q2)] ∧ Z.Warmed39 U.vm ∧ U.heap = h0) (fun _ _ _ _ _ => True) (fun _ U o U' => ∃ v L, o = .returned v ∧ QV (.long (own_mj q1 q2)) h0 n0 v U'.heap L ∧ FrameEnd U o U' L ({ frames := 0, cells := 0, slots := 0, locals := 0 } : Room).cells ({ frames := 0, cells := 0, slots := 0, locals := 0 } : Room).slots) := by
  refine MetFree.of_bodySF (Jvm.Free.JP.mathPlain rfl (by decide +kernel)) hisR ?_
  intro p e s m args below meth c s₁ Bd hml0 hP hK
  obtain ⟨rfl, hZ, hh⟩ := hP
  have hx := Bd.exec
  have hby := Bd.bytes
  have hml : c.maxLocals = 4 := hml0
  have hown : s.vm.findClass "java/lang/Math" = some m.cls := findClass_of_methodNamed Bd.named
  have hnm := (name_of_methodNamed Bd.named Bd.method).1
  have X0 : Stand p l e ({ frames := 0, cells := 0, slots := 0, locals := 0 } : Room) s m #[(.long q1), (.long q2)] below meth c s₁ [] 0 0 := Stand.of_body Bd
  have e0 : s₁.heap = h0 := by rw [← hh, Bd.state]; rfl
  have N0 := Fr.nil n0
  have go0 : ∀ t, Steps p.tables e below (s₁.setTop (mkF m 0 #[.val (.long q1), .second, .val (.long q2), .second] [])) t → Steps p.tables e below (s₁.setTop (entryFrame m #[(.long q1), (.long q2)] 4)) t := fun t k => castTop (ef_mj m q1 q2) k
  have go1 : ∀ t, Steps p.tables e below (s₁.setTop (mkF m 3 #[.val (.long q1), .second, .val (.long q2), .second] [(.int (lcmpW q1 q2))])) t → Steps p.tables e below (s₁.setTop (entryFrame m #[(.long q1), (.long q2)] 4)) t := fun t k => go0 t (by
    show Steps p.tables e below (s₁.setTop (mkF m 0 #[.val (.long q1), .second, .val (.long q2), .second] [])) _
    refine XS.lloadN X0.here hx rfl (hb hby mj_0) rfl ?_
    show Steps p.tables e below (s₁.setTop (mkF m 1 #[.val (.long q1), .second, .val (.long q2), .second] [(.long q1)])) _
    refine XS.lloadN X0.here hx rfl (hb hby mj_1) rfl ?_
    show Steps p.tables e below (s₁.setTop (mkF m 2 #[.val (.long q1), .second, .val (.long q2), .second] [(.long q2), (.long q1)])) _
    refine XS.lcmp X0.here hx rfl (hb hby mj_2) rfl ?_
    exact k)
  by_cases hc2 : q2 < q1
  · have go3 : ∀ t, Steps p.tables e below (s₁.setTop (mkF m 11 #[.val (.long q1), .second, .val (.long q2), .second] [(.long q2)])) t → Steps p.tables e below (s₁.setTop (entryFrame m #[(.long q1), (.long q2)] 4)) t := fun t k => go1 t (by
      show Steps p.tables e below (s₁.setTop (mkF m 3 #[.val (.long q1), .second, .val (.long q2), .second] [(.int (lcmpW q1 q2))])) _
      refine XS.ifYes X0.here hx rfl (pc0 := 3) (pc' := 10) rfl (hb hby mj_3) rfl ((if0 _ _).trans (tlt ((lw_gt _ _).mpr hc2)).2.2.1) (by decide) (by decide) ?_
      show Steps p.tables e below (s₁.setTop (mkF m 10 #[.val (.long q1), .second, .val (.long q2), .second] [])) _
      refine XS.lloadN X0.here hx rfl (hb hby mj_10) rfl ?_
      exact k)
    obtain ⟨fs, hr, hrun, hended, hW, hsame⟩ := X0.leave (v := some (.long q2)) (fun h => by rw [Bd.returns] at h; cases h)
    refine ⟨_, _, go3 _ ?_, hrun, hended, _, _, rfl, ?_, ⟨_, rfl⟩, hW, hsame.mono (by decide) (by decide)⟩
    · show Steps p.tables e below (s₁.setTop (mkF m 11 #[.val (.long q1), .second, .val (.long q2), .second] [(.long q2)])) _
      jvm_step X0.here [X0.here.top, hx, (hb hby mj_11), X0.method', Bd.returns, narrow]
      first | (intro acts; rw [hr _ acts rfl rfl rfl]) | rw [hr _ _ rfl rfl rfl]
      exact Steps.refl _
    · show QV (.long (own_mj q1 q2)) h0 n0 _ s₁.heap _
      rw [e0]
      exact ⟨congrArg some (congrArg Value.long (Eq.symm (show (own_mj q1 q2) = q2 from by unfold own_mj; rw [if_pos hc2]))), N0, rfl⟩
  · have go4 : ∀ t, Steps p.tables e below (s₁.setTop (mkF m 11 #[.val (.long q1), .second, .val (.long q2), .second] [(.long q1)])) t → Steps p.tables e below (s₁.setTop (entryFrame m #[(.long q1), (.long q2)] 4)) t := fun t k => go1 t (by
      show Steps p.tables e below (s₁.setTop (mkF m 3 #[.val (.long q1), .second, .val (.long q2), .second] [(.int (lcmpW q1 q2))])) _
      refine XS.ifNo X0.here hx rfl (hb hby mj_3) rfl ((if0 _ _).trans (flt (mt (lw_gt _ _).mp hc2)).2.2.1) ?_
      show Steps p.tables e below (s₁.setTop (mkF m 6 #[.val (.long q1), .second, .val (.long q2), .second] [])) _
      refine XS.lloadN X0.here hx rfl (hb hby mj_6) rfl ?_
      show Steps p.tables e below (s₁.setTop (mkF m 7 #[.val (.long q1), .second, .val (.long q2), .second] [(.long q1)])) _
      refine XS.goto X0.here hx rfl (pc0 := 7) (pc' := 11) rfl (hb hby mj_7) (by decide) (by decide) ?_
      exact k)
    obtain ⟨fs, hr, hrun, hended, hW, hsame⟩ := X0.leave (v := some (.long q1)) (fun h => by rw [Bd.returns] at h; cases h)
    refine ⟨_, _, go4 _ ?_, hrun, hended, _, _, rfl, ?_, ⟨_, rfl⟩, hW, hsame.mono (by decide) (by decide)⟩
    · show Steps p.tables e below (s₁.setTop (mkF m 11 #[.val (.long q1), .second, .val (.long q2), .second] [(.long q1)])) _
      jvm_step X0.here [X0.here.top, hx, (hb hby mj_11), X0.method', Bd.returns, narrow]
      first | (intro acts; rw [hr _ acts rfl rfl rfl]) | rw [hr _ _ rfl rfl rfl]
      exact Steps.refl _
    · show QV (.long (own_mj q1 q2)) h0 n0 _ s₁.heap _
      rw [e0]
      exact ⟨congrArg some (congrArg Value.long (Eq.symm (show (own_mj q1 q2) = q1 from by unfold own_mj; rw [if_neg hc2]))), N0, rfl⟩
def own_cap (s : Int64) (x : Int32) : Int64 := own_mj (s * (x.toInt64)) (2147483640 : Int64)
def own_fits0  : Int32 := if (2147483639 : Int64) < (1 : Int64) then (0 : Int32) else (1 : Int32)
theorem fits_0 : decode prog_34_method_3_code 0 = .ok (.lconst 1, 1) := by decide +kernel
theorem fits_1 : decode prog_34_method_3_code 1 = .ok (.lstore_n 1, 1) := by decide +kernel
theorem fits_2 : decode prog_34_method_3_code 2 = .ok (.aload_n 0, 1) := by decide +kernel
theorem fits_3 : decode prog_34_method_3_code 3 = .ok (.astore_n 3, 1) := by decide +kernel
theorem fits_4 : decode prog_34_method_3_code 4 = .ok (.aload_n 3, 1) := by decide +kernel
theorem fits_5 : decode prog_34_method_3_code 5 = .ok (.arraylength, 1) := by decide +kernel
theorem fits_6 : decode prog_34_method_3_code 6 = .ok (.istore 4, 2) := by decide +kernel
theorem fits_8 : decode prog_34_method_3_code 8 = .ok (.iconst 0, 1) := by decide +kernel
theorem fits_9 : decode prog_34_method_3_code 9 = .ok (.istore 5, 2) := by decide +kernel
theorem fits_11 : decode prog_34_method_3_code 11 = .ok (.iload 5, 2) := by decide +kernel
theorem fits_13 : decode prog_34_method_3_code 13 = .ok (.iload 4, 2) := by decide +kernel
theorem fits_15 : decode prog_34_method_3_code 15 = .ok (.if_icmp .ge 27, 3) := by decide +kernel
theorem fits_18 : decode prog_34_method_3_code 18 = .ok (.aload_n 3, 1) := by decide +kernel
theorem fits_19 : decode prog_34_method_3_code 19 = .ok (.iload 5, 2) := by decide +kernel
theorem fits_21 : decode prog_34_method_3_code 21 = .ok (.iaload, 1) := by decide +kernel
theorem fits_22 : decode prog_34_method_3_code 22 = .ok (.istore 6, 2) := by decide +kernel
theorem fits_24 : decode prog_34_method_3_code 24 = .ok (.lload_n 1, 1) := by decide +kernel
theorem fits_25 : decode prog_34_method_3_code 25 = .ok (.iload 6, 2) := by decide +kernel
theorem fits_27 : decode prog_34_method_3_code 27 = .ok (.i2l, 1) := by decide +kernel
theorem fits_28 : decode prog_34_method_3_code 28 = .ok (.lmul, 1) := by decide +kernel
theorem fits_29 : decode prog_34_method_3_code 29 = .ok (.ldc2_w 27, 3) := by decide +kernel
theorem fits_32 : decode prog_34_method_3_code 32 = .ok (.invokestatic 29, 3) := by decide +kernel
theorem fits_35 : decode prog_34_method_3_code 35 = .ok (.lstore_n 1, 1) := by decide +kernel
theorem fits_36 : decode prog_34_method_3_code 36 = .ok (.iinc 5 1, 3) := by decide +kernel
theorem fits_39 : decode prog_34_method_3_code 39 = .ok (.goto (-28), 3) := by decide +kernel
theorem fits_42 : decode prog_34_method_3_code 42 = .ok (.lload_n 1, 1) := by decide +kernel
theorem fits_43 : decode prog_34_method_3_code 43 = .ok (.ldc2_w 35, 3) := by decide +kernel
theorem fits_46 : decode prog_34_method_3_code 46 = .ok (.lcmp, 1) := by decide +kernel
theorem fits_47 : decode prog_34_method_3_code 47 = .ok (.ifCond .gt 7, 3) := by decide +kernel
theorem fits_50 : decode prog_34_method_3_code 50 = .ok (.iconst 1, 1) := by decide +kernel
theorem fits_51 : decode prog_34_method_3_code 51 = .ok (.goto 4, 3) := by decide +kernel
theorem fits_54 : decode prog_34_method_3_code 54 = .ok (.iconst 0, 1) := by decide +kernel
theorem fits_55 : decode prog_34_method_3_code 55 = .ok (.ireturn, 1) := by decide +kernel
theorem pn_fits : plainName "com/example/inlet/inlet/compiler/ArrayValue" = true := by first | (simp [plainName, overriddenIn]; done) | decide +kernel
theorem ef_fits (m : MethodId) (a1 : Addr) : entryFrame m #[(.ref a1)] 7 = mkF m 0 #[.val (.ref a1), .unset, .unset, .unset, .unset, .unset, .unset] [] := by first | (simp [entryFrame, mkF, argsToLocals, Value.category]; done) | rfl
set_option maxRecDepth 65536 in
set_option maxHeartbeats 40000000 in
theorem rm_fits0 (l : Launch) (Z : State) (a0 : Array Value) (hw : ∀ d ∈ tables_1, d.before a0 Z = true) (ws : List Jvm.Cond) (a1 : Addr) (kA : ClassId)  (h0 : Heap) (n0 : Nat) (Z0 : n0 ≤ h0.size) (V1 : Arv Z h0 a1 kA .int (0 : Int32) [] (.int (0 : Int32))) :
    MetFree l (⟨"com/example/inlet/inlet/compiler/ArrayValue", "fits", "([I)Z"⟩ : MethodName) (head1 (Jvm.Cond.code (⟨"com/example/inlet/inlet/compiler/ArrayValue", "fits", "([I)Z"⟩ : MethodName) prog_34_method_3_code 7 (some .boolean) :: ws) ({ frames := 0, cells := 0, slots := 0, locals := 0 } : Room)) (fun a U => a = #[(.ref a1)] ∧ Z.Warmed39 U.vm ∧ U.heap = h0) (fun _ _ _ _ _ => True) (fun _ U o U' => ∃ v L, o = .returned v ∧ QV (.int own_fits0) h0 n0 v U'.heap L ∧ FrameEnd U o U' L ({ frames := 0, cells := 0, slots := 0, locals := 0 } : Room).cells ({ frames := 0, cells := 0, slots := 0, locals := 0 } : Room).slots) := by
  refine MetFree.of_bodySF (plainFor_of_name pn_fits) hisR ?_
  intro p e s m args below meth c s₁ Bd hml0 hP hK
  obtain ⟨rfl, hZ, hh⟩ := hP
  have hx := Bd.exec
  have hby := Bd.bytes
  have hml : c.maxLocals = 7 := hml0
  have hown : s.vm.findClass "com/example/inlet/inlet/compiler/ArrayValue" = some m.cls := findClass_of_methodNamed Bd.named
  have hnm := (name_of_methodNamed Bd.named Bd.method).1
  have X0 : Stand p l e ({ frames := 0, cells := 0, slots := 0, locals := 0 } : Room) s m #[(.ref a1)] below meth c s₁ [] 0 0 := Stand.of_body Bd
  have e0 : s₁.heap = h0 := by rw [← hh, Bd.state]; rfl
  have N0 := Fr.nil n0
  have go0 : ∀ t, Steps p.tables e below (s₁.setTop (mkF m 0 #[.val (.ref a1), .unset, .unset, .unset, .unset, .unset, .unset] [])) t → Steps p.tables e below (s₁.setTop (entryFrame m #[(.ref a1)] 7)) t := fun t k => castTop (ef_fits m a1) k
  have go2 : ∀ t, Steps p.tables e below (s₁.setTop (mkF m 5 #[.val (.ref a1), .val (.long (1 : Int64)), .second, .val (.ref a1), .unset, .unset, .unset] [(.ref a1)])) t → Steps p.tables e below (s₁.setTop (entryFrame m #[(.ref a1)] 7)) t := fun t k => go0 t (by
    show Steps p.tables e below (s₁.setTop (mkF m 0 #[.val (.ref a1), .unset, .unset, .unset, .unset, .unset, .unset] [])) _
    refine XS.lconst X0.here hx rfl (hb hby fits_0) ?_
    show Steps p.tables e below (s₁.setTop (mkF m 1 #[.val (.ref a1), .unset, .unset, .unset, .unset, .unset, .unset] [(.long (1 : Int64))])) _
    refine XS.lstoreN X0.here hx rfl (hb hby fits_1) rfl (l' := #[.val (.ref a1), .val (.long (1 : Int64)), .second, .unset, .unset, .unset, .unset]) rfl ?_
    show Steps p.tables e below (s₁.setTop (mkF m 2 #[.val (.ref a1), .val (.long (1 : Int64)), .second, .unset, .unset, .unset, .unset] [])) _
    refine XS.aloadN X0.here hx rfl (hb hby fits_2) rfl rfl ?_
    show Steps p.tables e below (s₁.setTop (mkF m 3 #[.val (.ref a1), .val (.long (1 : Int64)), .second, .unset, .unset, .unset, .unset] [(.ref a1)])) _
    refine XS.astoreN X0.here hx rfl (hb hby fits_3) rfl rfl (l' := #[.val (.ref a1), .val (.long (1 : Int64)), .second, .val (.ref a1), .unset, .unset, .unset]) rfl ?_
    show Steps p.tables e below (s₁.setTop (mkF m 4 #[.val (.ref a1), .val (.long (1 : Int64)), .second, .val (.ref a1), .unset, .unset, .unset] [])) _
    refine XS.aloadN X0.here hx rfl (hb hby fits_4) rfl rfl ?_
    exact k)
  obtain ⟨cl1, Ar1, q1, S1, M1, H1, G1⟩ := id V1
  have go3 : ∀ t, Steps p.tables e below (s₁.setTop (mkF m 6 #[.val (.ref a1), .val (.long (1 : Int64)), .second, .val (.ref a1), .unset, .unset, .unset] [(.int (0 : Int32))])) t → Steps p.tables e below (s₁.setTop (entryFrame m #[(.ref a1)] 7)) t := fun t k => go2 t (by
    show Steps p.tables e below (s₁.setTop (mkF m 5 #[.val (.ref a1), .val (.long (1 : Int64)), .second, .val (.ref a1), .unset, .unset, .unset] [(.ref a1)])) _
    refine X0.arraylength hx (by rw [e0]; exact Ar1.1) (State.isArrayOf_alike hZ.alike Ar1.2.1) (g := (mkF m 5 #[.val (.ref a1), .val (.long (1 : Int64)), .second, .val (.ref a1), .unset, .unset, .unset] [(.ref a1)])) rfl rfl (hb hby fits_5) _ ?_
    rw [len_of S1 M1]
    exact k)
  have go4 : ∀ t, Steps p.tables e below (s₁.setTop (mkF m 55 #[.val (.ref a1), .val (.long (1 : Int64)), .second, .val (.ref a1), .val (.int (0 : Int32)), .val (.int (0 : Int32)), .unset] [(.int (1 : Int32))])) t → Steps p.tables e below (s₁.setTop (entryFrame m #[(.ref a1)] 7)) t := fun t k => go3 t (by
    show Steps p.tables e below (s₁.setTop (mkF m 6 #[.val (.ref a1), .val (.long (1 : Int64)), .second, .val (.ref a1), .unset, .unset, .unset] [(.int (0 : Int32))])) _
    refine XS.istore X0.here hx rfl (hb hby fits_6) rfl (l' := #[.val (.ref a1), .val (.long (1 : Int64)), .second, .val (.ref a1), .val (.int (0 : Int32)), .unset, .unset]) rfl ?_
    show Steps p.tables e below (s₁.setTop (mkF m 8 #[.val (.ref a1), .val (.long (1 : Int64)), .second, .val (.ref a1), .val (.int (0 : Int32)), .unset, .unset] [])) _
    refine XS.iconst X0.here hx rfl (hb hby fits_8) ?_
    show Steps p.tables e below (s₁.setTop (mkF m 9 #[.val (.ref a1), .val (.long (1 : Int64)), .second, .val (.ref a1), .val (.int (0 : Int32)), .unset, .unset] [(.int (0 : Int32))])) _
    refine XS.istore X0.here hx rfl (hb hby fits_9) rfl (l' := #[.val (.ref a1), .val (.long (1 : Int64)), .second, .val (.ref a1), .val (.int (0 : Int32)), .val (.int (0 : Int32)), .unset]) rfl ?_
    show Steps p.tables e below (s₁.setTop (mkF m 11 #[.val (.ref a1), .val (.long (1 : Int64)), .second, .val (.ref a1), .val (.int (0 : Int32)), .val (.int (0 : Int32)), .unset] [])) _
    refine XS.iload X0.here hx rfl (hb hby fits_11) rfl ?_
    show Steps p.tables e below (s₁.setTop (mkF m 13 #[.val (.ref a1), .val (.long (1 : Int64)), .second, .val (.ref a1), .val (.int (0 : Int32)), .val (.int (0 : Int32)), .unset] [(.int (0 : Int32))])) _
    refine XS.iload X0.here hx rfl (hb hby fits_13) rfl ?_
    show Steps p.tables e below (s₁.setTop (mkF m 15 #[.val (.ref a1), .val (.long (1 : Int64)), .second, .val (.ref a1), .val (.int (0 : Int32)), .val (.int (0 : Int32)), .unset] [(.int (0 : Int32)), (.int (0 : Int32))])) _
    refine XS.icmpYes X0.here hx rfl (pc0 := 15) (pc' := 42) rfl (hb hby fits_15) rfl (flt (by decide : ¬ ((0 : Int32) < (0 : Int32)))).2.1 (by decide) (by decide) ?_
    show Steps p.tables e below (s₁.setTop (mkF m 42 #[.val (.ref a1), .val (.long (1 : Int64)), .second, .val (.ref a1), .val (.int (0 : Int32)), .val (.int (0 : Int32)), .unset] [])) _
    refine XS.lloadN X0.here hx rfl (hb hby fits_42) rfl ?_
    show Steps p.tables e below (s₁.setTop (mkF m 43 #[.val (.ref a1), .val (.long (1 : Int64)), .second, .val (.ref a1), .val (.int (0 : Int32)), .val (.int (0 : Int32)), .unset] [(.long (1 : Int64))])) _
    refine X0.ldc2J hx hown (mvT hZ (hw _ (List.mem_of_getElem? (i := 6) rfl))) rfl (hb hby fits_43) ?_
    show Steps p.tables e below (s₁.setTop (mkF m 46 #[.val (.ref a1), .val (.long (1 : Int64)), .second, .val (.ref a1), .val (.int (0 : Int32)), .val (.int (0 : Int32)), .unset] [(.long (2147483639 : Int64)), (.long (1 : Int64))])) _
    refine XS.lcmp X0.here hx rfl (hb hby fits_46) rfl ?_
    show Steps p.tables e below (s₁.setTop (mkF m 47 #[.val (.ref a1), .val (.long (1 : Int64)), .second, .val (.ref a1), .val (.int (0 : Int32)), .val (.int (0 : Int32)), .unset] [(.int (lcmpW (1 : Int64) (2147483639 : Int64)))])) _
    refine XS.ifNo X0.here hx rfl (hb hby fits_47) rfl ((if0 _ _).trans (flt (mt (lw_gt _ _).mp (by decide : ¬ ((2147483639 : Int64) < (1 : Int64))))).2.2.1) ?_
    show Steps p.tables e below (s₁.setTop (mkF m 50 #[.val (.ref a1), .val (.long (1 : Int64)), .second, .val (.ref a1), .val (.int (0 : Int32)), .val (.int (0 : Int32)), .unset] [])) _
    refine XS.iconst X0.here hx rfl (hb hby fits_50) ?_
    show Steps p.tables e below (s₁.setTop (mkF m 51 #[.val (.ref a1), .val (.long (1 : Int64)), .second, .val (.ref a1), .val (.int (0 : Int32)), .val (.int (0 : Int32)), .unset] [(.int (1 : Int32))])) _
    refine XS.goto X0.here hx rfl (pc0 := 51) (pc' := 55) rfl (hb hby fits_51) (by decide) (by decide) ?_
    exact k)
  obtain ⟨fs, hr, hrun, hended, hW, hsame⟩ := X0.leave (v := some (.int (1 : Int32))) (fun h => by rw [Bd.returns] at h; cases h)
  refine ⟨_, _, go4 _ ?_, hrun, hended, _, _, rfl, ?_, ⟨_, rfl⟩, hW, hsame.mono (by decide) (by decide)⟩
  · exact retN X0 hx (t := .boolean) Bd.returns (by simp) (hb hby fits_55) hr
  · show QV (.int own_fits0) h0 n0 _ s₁.heap _
    rw [e0]
    exact ⟨congrArg some (congrArg Value.int (Eq.symm (show own_fits0 = (1 : Int32) from by decide))), N0, rfl⟩
theorem exp_0 : decode method_3_code 0 = .ok (.ldc2_w 20, 3) := by decide +kernel
theorem exp_3 : decode method_3_code 3 = .ok (.lstore 5, 2) := by decide +kernel
theorem exp_5 : decode method_3_code 5 = .ok (.iload_n 0, 1) := by decide +kernel
theorem exp_6 : decode method_3_code 6 = .ok (.iconst 1, 1) := by decide +kernel
theorem exp_7 : decode method_3_code 7 = .ok (.if_icmp .lt 7, 3) := by decide +kernel
theorem exp_10 : decode method_3_code 10 = .ok (.iload_n 1, 1) := by decide +kernel
theorem exp_11 : decode method_3_code 11 = .ok (.ifCond .eq 31, 3) := by decide +kernel
theorem exp_14 : decode method_3_code 14 = .ok (.iload_n 0, 1) := by decide +kernel
theorem exp_15 : decode method_3_code 15 = .ok (.iconst 2, 1) := by decide +kernel
theorem exp_16 : decode method_3_code 16 = .ok (.if_icmp .lt 7, 3) := by decide +kernel
theorem exp_19 : decode method_3_code 19 = .ok (.iload_n 2, 1) := by decide +kernel
theorem exp_20 : decode method_3_code 20 = .ok (.ifCond .eq 22, 3) := by decide +kernel
theorem exp_23 : decode method_3_code 23 = .ok (.iload_n 0, 1) := by decide +kernel
theorem exp_24 : decode method_3_code 24 = .ok (.iconst 3, 1) := by decide +kernel
theorem exp_25 : decode method_3_code 25 = .ok (.if_icmp .lt 7, 3) := by decide +kernel
theorem exp_28 : decode method_3_code 28 = .ok (.iload_n 3, 1) := by decide +kernel
theorem exp_29 : decode method_3_code 29 = .ok (.ifCond .eq 13, 3) := by decide +kernel
theorem exp_32 : decode method_3_code 32 = .ok (.iload_n 0, 1) := by decide +kernel
theorem exp_33 : decode method_3_code 33 = .ok (.iconst 4, 1) := by decide +kernel
theorem exp_34 : decode method_3_code 34 = .ok (.if_icmp .lt 12, 3) := by decide +kernel
theorem exp_37 : decode method_3_code 37 = .ok (.iload 4, 2) := by decide +kernel
theorem exp_39 : decode method_3_code 39 = .ok (.ifCond .ne 7, 3) := by decide +kernel
theorem exp_42 : decode method_3_code 42 = .ok (.iconst 1, 1) := by decide +kernel
theorem exp_43 : decode method_3_code 43 = .ok (.goto 4, 3) := by decide +kernel
theorem exp_46 : decode method_3_code 46 = .ok (.iconst 0, 1) := by decide +kernel
theorem exp_47 : decode method_3_code 47 = .ok (.istore 7, 2) := by decide +kernel
theorem exp_49 : decode method_3_code 49 = .ok (.iload 7, 2) := by decide +kernel
theorem exp_51 : decode method_3_code 51 = .ok (.ifCond .eq 5, 3) := by decide +kernel
theorem exp_54 : decode method_3_code 54 = .ok (.iconst 1, 1) := by decide +kernel
theorem exp_55 : decode method_3_code 55 = .ok (.ireturn, 1) := by decide +kernel
theorem exp_56 : decode method_3_code 56 = .ok (.lconst 1, 1) := by decide +kernel
theorem exp_57 : decode method_3_code 57 = .ok (.lstore 8, 2) := by decide +kernel
theorem exp_59 : decode method_3_code 59 = .ok (.iload_n 0, 1) := by decide +kernel
theorem exp_60 : decode method_3_code 60 = .ok (.iconst 1, 1) := by decide +kernel
theorem exp_61 : decode method_3_code 61 = .ok (.if_icmp .lt 17, 3) := by decide +kernel
theorem exp_64 : decode method_3_code 64 = .ok (.iload_n 1, 1) := by decide +kernel
theorem exp_65 : decode method_3_code 65 = .ok (.i2l, 1) := by decide +kernel
theorem exp_66 : decode method_3_code 66 = .ok (.lstore 8, 2) := by decide +kernel
theorem exp_68 : decode method_3_code 68 = .ok (.lload 8, 2) := by decide +kernel
theorem exp_70 : decode method_3_code 70 = .ok (.lload 5, 2) := by decide +kernel
theorem exp_72 : decode method_3_code 72 = .ok (.lcmp, 1) := by decide +kernel
theorem exp_73 : decode method_3_code 73 = .ok (.ifCond .le 5, 3) := by decide +kernel
theorem exp_76 : decode method_3_code 76 = .ok (.iconst 0, 1) := by decide +kernel
theorem exp_77 : decode method_3_code 77 = .ok (.ireturn, 1) := by decide +kernel
theorem exp_78 : decode method_3_code 78 = .ok (.iload_n 0, 1) := by decide +kernel
theorem exp_79 : decode method_3_code 79 = .ok (.iconst 2, 1) := by decide +kernel
theorem exp_80 : decode method_3_code 80 = .ok (.if_icmp .lt 20, 3) := by decide +kernel
theorem exp_83 : decode method_3_code 83 = .ok (.lload 8, 2) := by decide +kernel
theorem exp_85 : decode method_3_code 85 = .ok (.iload_n 2, 1) := by decide +kernel
theorem exp_86 : decode method_3_code 86 = .ok (.i2l, 1) := by decide +kernel
theorem exp_87 : decode method_3_code 87 = .ok (.lmul, 1) := by decide +kernel
theorem exp_88 : decode method_3_code 88 = .ok (.lstore 8, 2) := by decide +kernel
theorem exp_90 : decode method_3_code 90 = .ok (.lload 8, 2) := by decide +kernel
theorem exp_92 : decode method_3_code 92 = .ok (.lload 5, 2) := by decide +kernel
theorem exp_94 : decode method_3_code 94 = .ok (.lcmp, 1) := by decide +kernel
theorem exp_95 : decode method_3_code 95 = .ok (.ifCond .le 5, 3) := by decide +kernel
theorem exp_98 : decode method_3_code 98 = .ok (.iconst 0, 1) := by decide +kernel
theorem exp_99 : decode method_3_code 99 = .ok (.ireturn, 1) := by decide +kernel
theorem exp_100 : decode method_3_code 100 = .ok (.iload_n 0, 1) := by decide +kernel
theorem exp_101 : decode method_3_code 101 = .ok (.iconst 3, 1) := by decide +kernel
theorem exp_102 : decode method_3_code 102 = .ok (.if_icmp .lt 20, 3) := by decide +kernel
theorem exp_105 : decode method_3_code 105 = .ok (.lload 8, 2) := by decide +kernel
theorem exp_107 : decode method_3_code 107 = .ok (.iload_n 3, 1) := by decide +kernel
theorem exp_108 : decode method_3_code 108 = .ok (.i2l, 1) := by decide +kernel
theorem exp_109 : decode method_3_code 109 = .ok (.lmul, 1) := by decide +kernel
theorem exp_110 : decode method_3_code 110 = .ok (.lstore 8, 2) := by decide +kernel
theorem exp_112 : decode method_3_code 112 = .ok (.lload 8, 2) := by decide +kernel
theorem exp_114 : decode method_3_code 114 = .ok (.lload 5, 2) := by decide +kernel
theorem exp_116 : decode method_3_code 116 = .ok (.lcmp, 1) := by decide +kernel
theorem exp_117 : decode method_3_code 117 = .ok (.ifCond .le 5, 3) := by decide +kernel
theorem exp_120 : decode method_3_code 120 = .ok (.iconst 0, 1) := by decide +kernel
theorem exp_121 : decode method_3_code 121 = .ok (.ireturn, 1) := by decide +kernel
theorem exp_122 : decode method_3_code 122 = .ok (.iload_n 0, 1) := by decide +kernel
theorem exp_123 : decode method_3_code 123 = .ok (.iconst 4, 1) := by decide +kernel
theorem exp_124 : decode method_3_code 124 = .ok (.if_icmp .lt 21, 3) := by decide +kernel
theorem exp_127 : decode method_3_code 127 = .ok (.lload 8, 2) := by decide +kernel
theorem exp_129 : decode method_3_code 129 = .ok (.iload 4, 2) := by decide +kernel
theorem exp_131 : decode method_3_code 131 = .ok (.i2l, 1) := by decide +kernel
theorem exp_132 : decode method_3_code 132 = .ok (.lmul, 1) := by decide +kernel
theorem exp_133 : decode method_3_code 133 = .ok (.lstore 8, 2) := by decide +kernel
theorem exp_135 : decode method_3_code 135 = .ok (.lload 8, 2) := by decide +kernel
theorem exp_137 : decode method_3_code 137 = .ok (.lload 5, 2) := by decide +kernel
theorem exp_139 : decode method_3_code 139 = .ok (.lcmp, 1) := by decide +kernel
theorem exp_140 : decode method_3_code 140 = .ok (.ifCond .le 5, 3) := by decide +kernel
theorem exp_143 : decode method_3_code 143 = .ok (.iconst 0, 1) := by decide +kernel
theorem exp_144 : decode method_3_code 144 = .ok (.ireturn, 1) := by decide +kernel
theorem exp_145 : decode method_3_code 145 = .ok (.iconst 1, 1) := by decide +kernel
theorem exp_146 : decode method_3_code 146 = .ok (.ireturn, 1) := by decide +kernel
theorem pn_exp : plainName "com/example/inlet/inlet/compiler/ArrayValueFitsPinLaw" = true := by first | (simp [plainName, overriddenIn]; done) | decide +kernel
theorem ef_exp (m : MethodId) (p1 : Int32) (p2 : Int32) (p3 : Int32) (p4 : Int32) (p5 : Int32) : entryFrame m #[(.int p1), (.int p2), (.int p3), (.int p4), (.int p5)] 10 = mkF m 0 #[.val (.int p1), .val (.int p2), .val (.int p3), .val (.int p4), .val (.int p5), .unset, .unset, .unset, .unset, .unset] [] := by first | (simp [entryFrame, mkF, argsToLocals, Value.category]; done) | rfl
def own_exp0 (p2 : Int32) (p3 : Int32) (p4 : Int32) (p5 : Int32) : Int32 := (1 : Int32)
set_option maxRecDepth 65536 in
set_option maxHeartbeats 40000000 in
theorem rm_exp0 (l : Launch) (Z : State) (a0 : Array Value) (hw : ∀ d ∈ tables_1, d.before a0 Z = true) (ws : List Jvm.Cond) (p2 : Int32) (p3 : Int32) (p4 : Int32) (p5 : Int32) (h0 : Heap) (n0 : Nat) (Z0 : n0 ≤ h0.size)  :
    MetFree l (⟨"com/example/inlet/inlet/compiler/ArrayValueFitsPinLaw", "expected", "(IIIII)Z"⟩ : MethodName) (head1 (Jvm.Cond.code (⟨"com/example/inlet/inlet/compiler/ArrayValueFitsPinLaw", "expected", "(IIIII)Z"⟩ : MethodName) method_3_code 10 (some .boolean) :: ws) ({ frames := 0, cells := 0, slots := 0, locals := 0 } : Room)) (fun a U => a = #[(.int (0 : Int32)), (.int p2), (.int p3), (.int p4), (.int p5)] ∧ Z.Warmed39 U.vm ∧ U.heap = h0) (fun _ _ _ _ _ => True) (fun _ U o U' => ∃ v L, o = .returned v ∧ QV (.int (own_exp0 p2 p3 p4 p5)) h0 n0 v U'.heap L ∧ FrameEnd U o U' L ({ frames := 0, cells := 0, slots := 0, locals := 0 } : Room).cells ({ frames := 0, cells := 0, slots := 0, locals := 0 } : Room).slots) := by
  refine MetFree.of_bodySF (plainFor_of_name pn_exp) hisR ?_
  intro p e s m args below meth c s₁ Bd hml0 hP hK
  obtain ⟨rfl, hZ, hh⟩ := hP
  have hx := Bd.exec
  have hby := Bd.bytes
  have hml : c.maxLocals = 10 := hml0
  have hown : s.vm.findClass "com/example/inlet/inlet/compiler/ArrayValueFitsPinLaw" = some m.cls := findClass_of_methodNamed Bd.named
  have hnm := (name_of_methodNamed Bd.named Bd.method).1
  have X0 : Stand p l e ({ frames := 0, cells := 0, slots := 0, locals := 0 } : Room) s m #[(.int (0 : Int32)), (.int p2), (.int p3), (.int p4), (.int p5)] below meth c s₁ [] 0 0 := Stand.of_body Bd
  have e0 : s₁.heap = h0 := by rw [← hh, Bd.state]; rfl
  have N0 := Fr.nil n0
  have go0 : ∀ t, Steps p.tables e below (s₁.setTop (mkF m 0 #[.val (.int (0 : Int32)), .val (.int p2), .val (.int p3), .val (.int p4), .val (.int p5), .unset, .unset, .unset, .unset, .unset] [])) t → Steps p.tables e below (s₁.setTop (entryFrame m #[(.int (0 : Int32)), (.int p2), (.int p3), (.int p4), (.int p5)] 10)) t := fun t k => castTop (ef_exp m (0 : Int32) p2 p3 p4 p5) k
  have go1 : ∀ t, Steps p.tables e below (s₁.setTop (mkF m 146 #[.val (.int (0 : Int32)), .val (.int p2), .val (.int p3), .val (.int p4), .val (.int p5), .val (.long (2147483639 : Int64)), .second, .val (.int (0 : Int32)), .val (.long (1 : Int64)), .second] [(.int (1 : Int32))])) t → Steps p.tables e below (s₁.setTop (entryFrame m #[(.int (0 : Int32)), (.int p2), (.int p3), (.int p4), (.int p5)] 10)) t := fun t k => go0 t (by
    show Steps p.tables e below (s₁.setTop (mkF m 0 #[.val (.int (0 : Int32)), .val (.int p2), .val (.int p3), .val (.int p4), .val (.int p5), .unset, .unset, .unset, .unset, .unset] [])) _
    refine X0.ldc2J hx hown (mvT hZ (hw _ (List.mem_of_getElem? (i := 11) rfl))) rfl (hb hby exp_0) ?_
    show Steps p.tables e below (s₁.setTop (mkF m 3 #[.val (.int (0 : Int32)), .val (.int p2), .val (.int p3), .val (.int p4), .val (.int p5), .unset, .unset, .unset, .unset, .unset] [(.long (2147483639 : Int64))])) _
    refine XS.lstore X0.here hx rfl (hb hby exp_3) rfl (l' := #[.val (.int (0 : Int32)), .val (.int p2), .val (.int p3), .val (.int p4), .val (.int p5), .val (.long (2147483639 : Int64)), .second, .unset, .unset, .unset]) rfl ?_
    show Steps p.tables e below (s₁.setTop (mkF m 5 #[.val (.int (0 : Int32)), .val (.int p2), .val (.int p3), .val (.int p4), .val (.int p5), .val (.long (2147483639 : Int64)), .second, .unset, .unset, .unset] [])) _
    refine XS.iloadN X0.here hx rfl (hb hby exp_5) rfl ?_
    show Steps p.tables e below (s₁.setTop (mkF m 6 #[.val (.int (0 : Int32)), .val (.int p2), .val (.int p3), .val (.int p4), .val (.int p5), .val (.long (2147483639 : Int64)), .second, .unset, .unset, .unset] [(.int (0 : Int32))])) _
    refine XS.iconst X0.here hx rfl (hb hby exp_6) ?_
    show Steps p.tables e below (s₁.setTop (mkF m 7 #[.val (.int (0 : Int32)), .val (.int p2), .val (.int p3), .val (.int p4), .val (.int p5), .val (.long (2147483639 : Int64)), .second, .unset, .unset, .unset] [(.int (1 : Int32)), (.int (0 : Int32))])) _
    refine XS.icmpYes X0.here hx rfl (pc0 := 7) (pc' := 14) rfl (hb hby exp_7) rfl (tlt (by decide : (0 : Int32) < (1 : Int32))).1 (by decide) (by decide) ?_
    show Steps p.tables e below (s₁.setTop (mkF m 14 #[.val (.int (0 : Int32)), .val (.int p2), .val (.int p3), .val (.int p4), .val (.int p5), .val (.long (2147483639 : Int64)), .second, .unset, .unset, .unset] [])) _
    refine XS.iloadN X0.here hx rfl (hb hby exp_14) rfl ?_
    show Steps p.tables e below (s₁.setTop (mkF m 15 #[.val (.int (0 : Int32)), .val (.int p2), .val (.int p3), .val (.int p4), .val (.int p5), .val (.long (2147483639 : Int64)), .second, .unset, .unset, .unset] [(.int (0 : Int32))])) _
    refine XS.iconst X0.here hx rfl (hb hby exp_15) ?_
    show Steps p.tables e below (s₁.setTop (mkF m 16 #[.val (.int (0 : Int32)), .val (.int p2), .val (.int p3), .val (.int p4), .val (.int p5), .val (.long (2147483639 : Int64)), .second, .unset, .unset, .unset] [(.int (2 : Int32)), (.int (0 : Int32))])) _
    refine XS.icmpYes X0.here hx rfl (pc0 := 16) (pc' := 23) rfl (hb hby exp_16) rfl (tlt (by decide : (0 : Int32) < (2 : Int32))).1 (by decide) (by decide) ?_
    show Steps p.tables e below (s₁.setTop (mkF m 23 #[.val (.int (0 : Int32)), .val (.int p2), .val (.int p3), .val (.int p4), .val (.int p5), .val (.long (2147483639 : Int64)), .second, .unset, .unset, .unset] [])) _
    refine XS.iloadN X0.here hx rfl (hb hby exp_23) rfl ?_
    show Steps p.tables e below (s₁.setTop (mkF m 24 #[.val (.int (0 : Int32)), .val (.int p2), .val (.int p3), .val (.int p4), .val (.int p5), .val (.long (2147483639 : Int64)), .second, .unset, .unset, .unset] [(.int (0 : Int32))])) _
    refine XS.iconst X0.here hx rfl (hb hby exp_24) ?_
    show Steps p.tables e below (s₁.setTop (mkF m 25 #[.val (.int (0 : Int32)), .val (.int p2), .val (.int p3), .val (.int p4), .val (.int p5), .val (.long (2147483639 : Int64)), .second, .unset, .unset, .unset] [(.int (3 : Int32)), (.int (0 : Int32))])) _
    refine XS.icmpYes X0.here hx rfl (pc0 := 25) (pc' := 32) rfl (hb hby exp_25) rfl (tlt (by decide : (0 : Int32) < (3 : Int32))).1 (by decide) (by decide) ?_
    show Steps p.tables e below (s₁.setTop (mkF m 32 #[.val (.int (0 : Int32)), .val (.int p2), .val (.int p3), .val (.int p4), .val (.int p5), .val (.long (2147483639 : Int64)), .second, .unset, .unset, .unset] [])) _
    refine XS.iloadN X0.here hx rfl (hb hby exp_32) rfl ?_
    show Steps p.tables e below (s₁.setTop (mkF m 33 #[.val (.int (0 : Int32)), .val (.int p2), .val (.int p3), .val (.int p4), .val (.int p5), .val (.long (2147483639 : Int64)), .second, .unset, .unset, .unset] [(.int (0 : Int32))])) _
    refine XS.iconst X0.here hx rfl (hb hby exp_33) ?_
    show Steps p.tables e below (s₁.setTop (mkF m 34 #[.val (.int (0 : Int32)), .val (.int p2), .val (.int p3), .val (.int p4), .val (.int p5), .val (.long (2147483639 : Int64)), .second, .unset, .unset, .unset] [(.int (4 : Int32)), (.int (0 : Int32))])) _
    refine XS.icmpYes X0.here hx rfl (pc0 := 34) (pc' := 46) rfl (hb hby exp_34) rfl (tlt (by decide : (0 : Int32) < (4 : Int32))).1 (by decide) (by decide) ?_
    show Steps p.tables e below (s₁.setTop (mkF m 46 #[.val (.int (0 : Int32)), .val (.int p2), .val (.int p3), .val (.int p4), .val (.int p5), .val (.long (2147483639 : Int64)), .second, .unset, .unset, .unset] [])) _
    refine XS.iconst X0.here hx rfl (hb hby exp_46) ?_
    show Steps p.tables e below (s₁.setTop (mkF m 47 #[.val (.int (0 : Int32)), .val (.int p2), .val (.int p3), .val (.int p4), .val (.int p5), .val (.long (2147483639 : Int64)), .second, .unset, .unset, .unset] [(.int (0 : Int32))])) _
    refine XS.istore X0.here hx rfl (hb hby exp_47) rfl (l' := #[.val (.int (0 : Int32)), .val (.int p2), .val (.int p3), .val (.int p4), .val (.int p5), .val (.long (2147483639 : Int64)), .second, .val (.int (0 : Int32)), .unset, .unset]) rfl ?_
    show Steps p.tables e below (s₁.setTop (mkF m 49 #[.val (.int (0 : Int32)), .val (.int p2), .val (.int p3), .val (.int p4), .val (.int p5), .val (.long (2147483639 : Int64)), .second, .val (.int (0 : Int32)), .unset, .unset] [])) _
    refine XS.iload X0.here hx rfl (hb hby exp_49) rfl ?_
    show Steps p.tables e below (s₁.setTop (mkF m 51 #[.val (.int (0 : Int32)), .val (.int p2), .val (.int p3), .val (.int p4), .val (.int p5), .val (.long (2147483639 : Int64)), .second, .val (.int (0 : Int32)), .unset, .unset] [(.int (0 : Int32))])) _
    refine XS.ifYes X0.here hx rfl (pc0 := 51) (pc' := 56) rfl (hb hby exp_51) rfl ((if0 _ _).trans (teq (by decide : (0 : Int32) = (0 : Int32))).1) (by decide) (by decide) ?_
    show Steps p.tables e below (s₁.setTop (mkF m 56 #[.val (.int (0 : Int32)), .val (.int p2), .val (.int p3), .val (.int p4), .val (.int p5), .val (.long (2147483639 : Int64)), .second, .val (.int (0 : Int32)), .unset, .unset] [])) _
    refine XS.lconst X0.here hx rfl (hb hby exp_56) ?_
    show Steps p.tables e below (s₁.setTop (mkF m 57 #[.val (.int (0 : Int32)), .val (.int p2), .val (.int p3), .val (.int p4), .val (.int p5), .val (.long (2147483639 : Int64)), .second, .val (.int (0 : Int32)), .unset, .unset] [(.long (1 : Int64))])) _
    refine XS.lstore X0.here hx rfl (hb hby exp_57) rfl (l' := #[.val (.int (0 : Int32)), .val (.int p2), .val (.int p3), .val (.int p4), .val (.int p5), .val (.long (2147483639 : Int64)), .second, .val (.int (0 : Int32)), .val (.long (1 : Int64)), .second]) rfl ?_
    show Steps p.tables e below (s₁.setTop (mkF m 59 #[.val (.int (0 : Int32)), .val (.int p2), .val (.int p3), .val (.int p4), .val (.int p5), .val (.long (2147483639 : Int64)), .second, .val (.int (0 : Int32)), .val (.long (1 : Int64)), .second] [])) _
    refine XS.iloadN X0.here hx rfl (hb hby exp_59) rfl ?_
    show Steps p.tables e below (s₁.setTop (mkF m 60 #[.val (.int (0 : Int32)), .val (.int p2), .val (.int p3), .val (.int p4), .val (.int p5), .val (.long (2147483639 : Int64)), .second, .val (.int (0 : Int32)), .val (.long (1 : Int64)), .second] [(.int (0 : Int32))])) _
    refine XS.iconst X0.here hx rfl (hb hby exp_60) ?_
    show Steps p.tables e below (s₁.setTop (mkF m 61 #[.val (.int (0 : Int32)), .val (.int p2), .val (.int p3), .val (.int p4), .val (.int p5), .val (.long (2147483639 : Int64)), .second, .val (.int (0 : Int32)), .val (.long (1 : Int64)), .second] [(.int (1 : Int32)), (.int (0 : Int32))])) _
    refine XS.icmpYes X0.here hx rfl (pc0 := 61) (pc' := 78) rfl (hb hby exp_61) rfl (tlt (by decide : (0 : Int32) < (1 : Int32))).1 (by decide) (by decide) ?_
    show Steps p.tables e below (s₁.setTop (mkF m 78 #[.val (.int (0 : Int32)), .val (.int p2), .val (.int p3), .val (.int p4), .val (.int p5), .val (.long (2147483639 : Int64)), .second, .val (.int (0 : Int32)), .val (.long (1 : Int64)), .second] [])) _
    refine XS.iloadN X0.here hx rfl (hb hby exp_78) rfl ?_
    show Steps p.tables e below (s₁.setTop (mkF m 79 #[.val (.int (0 : Int32)), .val (.int p2), .val (.int p3), .val (.int p4), .val (.int p5), .val (.long (2147483639 : Int64)), .second, .val (.int (0 : Int32)), .val (.long (1 : Int64)), .second] [(.int (0 : Int32))])) _
    refine XS.iconst X0.here hx rfl (hb hby exp_79) ?_
    show Steps p.tables e below (s₁.setTop (mkF m 80 #[.val (.int (0 : Int32)), .val (.int p2), .val (.int p3), .val (.int p4), .val (.int p5), .val (.long (2147483639 : Int64)), .second, .val (.int (0 : Int32)), .val (.long (1 : Int64)), .second] [(.int (2 : Int32)), (.int (0 : Int32))])) _
    refine XS.icmpYes X0.here hx rfl (pc0 := 80) (pc' := 100) rfl (hb hby exp_80) rfl (tlt (by decide : (0 : Int32) < (2 : Int32))).1 (by decide) (by decide) ?_
    show Steps p.tables e below (s₁.setTop (mkF m 100 #[.val (.int (0 : Int32)), .val (.int p2), .val (.int p3), .val (.int p4), .val (.int p5), .val (.long (2147483639 : Int64)), .second, .val (.int (0 : Int32)), .val (.long (1 : Int64)), .second] [])) _
    refine XS.iloadN X0.here hx rfl (hb hby exp_100) rfl ?_
    show Steps p.tables e below (s₁.setTop (mkF m 101 #[.val (.int (0 : Int32)), .val (.int p2), .val (.int p3), .val (.int p4), .val (.int p5), .val (.long (2147483639 : Int64)), .second, .val (.int (0 : Int32)), .val (.long (1 : Int64)), .second] [(.int (0 : Int32))])) _
    refine XS.iconst X0.here hx rfl (hb hby exp_101) ?_
    show Steps p.tables e below (s₁.setTop (mkF m 102 #[.val (.int (0 : Int32)), .val (.int p2), .val (.int p3), .val (.int p4), .val (.int p5), .val (.long (2147483639 : Int64)), .second, .val (.int (0 : Int32)), .val (.long (1 : Int64)), .second] [(.int (3 : Int32)), (.int (0 : Int32))])) _
    refine XS.icmpYes X0.here hx rfl (pc0 := 102) (pc' := 122) rfl (hb hby exp_102) rfl (tlt (by decide : (0 : Int32) < (3 : Int32))).1 (by decide) (by decide) ?_
    show Steps p.tables e below (s₁.setTop (mkF m 122 #[.val (.int (0 : Int32)), .val (.int p2), .val (.int p3), .val (.int p4), .val (.int p5), .val (.long (2147483639 : Int64)), .second, .val (.int (0 : Int32)), .val (.long (1 : Int64)), .second] [])) _
    refine XS.iloadN X0.here hx rfl (hb hby exp_122) rfl ?_
    show Steps p.tables e below (s₁.setTop (mkF m 123 #[.val (.int (0 : Int32)), .val (.int p2), .val (.int p3), .val (.int p4), .val (.int p5), .val (.long (2147483639 : Int64)), .second, .val (.int (0 : Int32)), .val (.long (1 : Int64)), .second] [(.int (0 : Int32))])) _
    refine XS.iconst X0.here hx rfl (hb hby exp_123) ?_
    show Steps p.tables e below (s₁.setTop (mkF m 124 #[.val (.int (0 : Int32)), .val (.int p2), .val (.int p3), .val (.int p4), .val (.int p5), .val (.long (2147483639 : Int64)), .second, .val (.int (0 : Int32)), .val (.long (1 : Int64)), .second] [(.int (4 : Int32)), (.int (0 : Int32))])) _
    refine XS.icmpYes X0.here hx rfl (pc0 := 124) (pc' := 145) rfl (hb hby exp_124) rfl (tlt (by decide : (0 : Int32) < (4 : Int32))).1 (by decide) (by decide) ?_
    show Steps p.tables e below (s₁.setTop (mkF m 145 #[.val (.int (0 : Int32)), .val (.int p2), .val (.int p3), .val (.int p4), .val (.int p5), .val (.long (2147483639 : Int64)), .second, .val (.int (0 : Int32)), .val (.long (1 : Int64)), .second] [])) _
    refine XS.iconst X0.here hx rfl (hb hby exp_145) ?_
    exact k)
  obtain ⟨fs, hr, hrun, hended, hW, hsame⟩ := X0.leave (v := some (.int (1 : Int32))) (fun h => by rw [Bd.returns] at h; cases h)
  refine ⟨_, _, go1 _ ?_, hrun, hended, _, _, rfl, ?_, ⟨_, rfl⟩, hW, hsame.mono (by decide) (by decide)⟩
  · exact retN X0 hx (t := .boolean) Bd.returns (by simp) (hb hby exp_146) hr
  · show QV (.int (own_exp0 p2 p3 p4 p5)) h0 n0 _ s₁.heap _
    rw [e0]
    exact ⟨congrArg some (congrArg Value.int (Eq.symm (show (own_exp0 p2 p3 p4 p5) = (1 : Int32) from by unfold own_exp0; rfl))), N0, rfl⟩
def own_fits1 (x0 : Int32) : Int32 := if (2147483639 : Int64) < (own_cap (1 : Int64) x0) then (0 : Int32) else (1 : Int32)
set_option maxRecDepth 65536 in
set_option maxHeartbeats 40000000 in
theorem rm_fits1 (l : Launch) (Z : State) (a0 : Array Value) (hw : ∀ d ∈ tables_1, d.before a0 Z = true) (ws : List Jvm.Cond) (a1 : Addr) (kA : ClassId) (x0 : Int32) (h0 : Heap) (n0 : Nat) (Z0 : n0 ≤ h0.size) (V1 : Arv Z h0 a1 kA .int (1 : Int32) [(.int x0)] (.int (0 : Int32))) :
    MetFree l (⟨"com/example/inlet/inlet/compiler/ArrayValue", "fits", "([I)Z"⟩ : MethodName) (head1 (Jvm.Cond.code (⟨"com/example/inlet/inlet/compiler/ArrayValue", "fits", "([I)Z"⟩ : MethodName) prog_34_method_3_code 7 (some .boolean) :: ws) ({ frames := 1, cells := 0, slots := 0, locals := 15 } : Room)) (fun a U => a = #[(.ref a1)] ∧ Z.Warmed39 U.vm ∧ U.heap = h0) (fun _ _ _ _ _ => True) (fun _ U o U' => ∃ v L, o = .returned v ∧ QV (.int (own_fits1 x0)) h0 n0 v U'.heap L ∧ FrameEnd U o U' L ({ frames := 1, cells := 0, slots := 0, locals := 15 } : Room).cells ({ frames := 1, cells := 0, slots := 0, locals := 15 } : Room).slots) := by
  refine MetFree.of_bodySF (plainFor_of_name pn_fits) hisR ?_
  intro p e s m args below meth c s₁ Bd hml0 hP hK
  obtain ⟨rfl, hZ, hh⟩ := hP
  have hx := Bd.exec
  have hby := Bd.bytes
  have hml : c.maxLocals = 7 := hml0
  have hown : s.vm.findClass "com/example/inlet/inlet/compiler/ArrayValue" = some m.cls := findClass_of_methodNamed Bd.named
  have hnm := (name_of_methodNamed Bd.named Bd.method).1
  have X0 : Stand p l e ({ frames := 1, cells := 0, slots := 0, locals := 15 } : Room) s m #[(.ref a1)] below meth c s₁ [] 0 0 := Stand.of_body Bd
  have e0 : s₁.heap = h0 := by rw [← hh, Bd.state]; rfl
  have N0 := Fr.nil n0
  have go0 : ∀ t, Steps p.tables e below (s₁.setTop (mkF m 0 #[.val (.ref a1), .unset, .unset, .unset, .unset, .unset, .unset] [])) t → Steps p.tables e below (s₁.setTop (entryFrame m #[(.ref a1)] 7)) t := fun t k => castTop (ef_fits m a1) k
  have go2 : ∀ t, Steps p.tables e below (s₁.setTop (mkF m 5 #[.val (.ref a1), .val (.long (1 : Int64)), .second, .val (.ref a1), .unset, .unset, .unset] [(.ref a1)])) t → Steps p.tables e below (s₁.setTop (entryFrame m #[(.ref a1)] 7)) t := fun t k => go0 t (by
    show Steps p.tables e below (s₁.setTop (mkF m 0 #[.val (.ref a1), .unset, .unset, .unset, .unset, .unset, .unset] [])) _
    refine XS.lconst X0.here hx rfl (hb hby fits_0) ?_
    show Steps p.tables e below (s₁.setTop (mkF m 1 #[.val (.ref a1), .unset, .unset, .unset, .unset, .unset, .unset] [(.long (1 : Int64))])) _
    refine XS.lstoreN X0.here hx rfl (hb hby fits_1) rfl (l' := #[.val (.ref a1), .val (.long (1 : Int64)), .second, .unset, .unset, .unset, .unset]) rfl ?_
    show Steps p.tables e below (s₁.setTop (mkF m 2 #[.val (.ref a1), .val (.long (1 : Int64)), .second, .unset, .unset, .unset, .unset] [])) _
    refine XS.aloadN X0.here hx rfl (hb hby fits_2) rfl rfl ?_
    show Steps p.tables e below (s₁.setTop (mkF m 3 #[.val (.ref a1), .val (.long (1 : Int64)), .second, .unset, .unset, .unset, .unset] [(.ref a1)])) _
    refine XS.astoreN X0.here hx rfl (hb hby fits_3) rfl rfl (l' := #[.val (.ref a1), .val (.long (1 : Int64)), .second, .val (.ref a1), .unset, .unset, .unset]) rfl ?_
    show Steps p.tables e below (s₁.setTop (mkF m 4 #[.val (.ref a1), .val (.long (1 : Int64)), .second, .val (.ref a1), .unset, .unset, .unset] [])) _
    refine XS.aloadN X0.here hx rfl (hb hby fits_4) rfl rfl ?_
    exact k)
  obtain ⟨cl1, Ar1, q1, S1, M1, H1, G1⟩ := id V1
  have go3 : ∀ t, Steps p.tables e below (s₁.setTop (mkF m 6 #[.val (.ref a1), .val (.long (1 : Int64)), .second, .val (.ref a1), .unset, .unset, .unset] [(.int (1 : Int32))])) t → Steps p.tables e below (s₁.setTop (entryFrame m #[(.ref a1)] 7)) t := fun t k => go2 t (by
    show Steps p.tables e below (s₁.setTop (mkF m 5 #[.val (.ref a1), .val (.long (1 : Int64)), .second, .val (.ref a1), .unset, .unset, .unset] [(.ref a1)])) _
    refine X0.arraylength hx (by rw [e0]; exact Ar1.1) (State.isArrayOf_alike hZ.alike Ar1.2.1) (g := (mkF m 5 #[.val (.ref a1), .val (.long (1 : Int64)), .second, .val (.ref a1), .unset, .unset, .unset] [(.ref a1)])) rfl rfl (hb hby fits_5) _ ?_
    rw [len_of S1 M1]
    exact k)
  have go5 : ∀ t, Steps p.tables e below (s₁.setTop (mkF m 21 #[.val (.ref a1), .val (.long (1 : Int64)), .second, .val (.ref a1), .val (.int (1 : Int32)), .val (.int (0 : Int32)), .unset] [(.int (0 : Int32)), (.ref a1)])) t → Steps p.tables e below (s₁.setTop (entryFrame m #[(.ref a1)] 7)) t := fun t k => go3 t (by
    show Steps p.tables e below (s₁.setTop (mkF m 6 #[.val (.ref a1), .val (.long (1 : Int64)), .second, .val (.ref a1), .unset, .unset, .unset] [(.int (1 : Int32))])) _
    refine XS.istore X0.here hx rfl (hb hby fits_6) rfl (l' := #[.val (.ref a1), .val (.long (1 : Int64)), .second, .val (.ref a1), .val (.int (1 : Int32)), .unset, .unset]) rfl ?_
    show Steps p.tables e below (s₁.setTop (mkF m 8 #[.val (.ref a1), .val (.long (1 : Int64)), .second, .val (.ref a1), .val (.int (1 : Int32)), .unset, .unset] [])) _
    refine XS.iconst X0.here hx rfl (hb hby fits_8) ?_
    show Steps p.tables e below (s₁.setTop (mkF m 9 #[.val (.ref a1), .val (.long (1 : Int64)), .second, .val (.ref a1), .val (.int (1 : Int32)), .unset, .unset] [(.int (0 : Int32))])) _
    refine XS.istore X0.here hx rfl (hb hby fits_9) rfl (l' := #[.val (.ref a1), .val (.long (1 : Int64)), .second, .val (.ref a1), .val (.int (1 : Int32)), .val (.int (0 : Int32)), .unset]) rfl ?_
    show Steps p.tables e below (s₁.setTop (mkF m 11 #[.val (.ref a1), .val (.long (1 : Int64)), .second, .val (.ref a1), .val (.int (1 : Int32)), .val (.int (0 : Int32)), .unset] [])) _
    refine XS.iload X0.here hx rfl (hb hby fits_11) rfl ?_
    show Steps p.tables e below (s₁.setTop (mkF m 13 #[.val (.ref a1), .val (.long (1 : Int64)), .second, .val (.ref a1), .val (.int (1 : Int32)), .val (.int (0 : Int32)), .unset] [(.int (0 : Int32))])) _
    refine XS.iload X0.here hx rfl (hb hby fits_13) rfl ?_
    show Steps p.tables e below (s₁.setTop (mkF m 15 #[.val (.ref a1), .val (.long (1 : Int64)), .second, .val (.ref a1), .val (.int (1 : Int32)), .val (.int (0 : Int32)), .unset] [(.int (1 : Int32)), (.int (0 : Int32))])) _
    refine XS.icmpNo X0.here hx rfl (hb hby fits_15) rfl (tlt (by decide : (0 : Int32) < (1 : Int32))).2.1 ?_
    show Steps p.tables e below (s₁.setTop (mkF m 18 #[.val (.ref a1), .val (.long (1 : Int64)), .second, .val (.ref a1), .val (.int (1 : Int32)), .val (.int (0 : Int32)), .unset] [])) _
    refine XS.aloadN X0.here hx rfl (hb hby fits_18) rfl rfl ?_
    show Steps p.tables e below (s₁.setTop (mkF m 19 #[.val (.ref a1), .val (.long (1 : Int64)), .second, .val (.ref a1), .val (.int (1 : Int32)), .val (.int (0 : Int32)), .unset] [(.ref a1)])) _
    refine XS.iload X0.here hx rfl (hb hby fits_19) rfl ?_
    exact k)
  obtain ⟨cl4, Ar4, q4, S4, M4, H4, G4⟩ := id V1
  have go6 : ∀ t, Steps p.tables e below (s₁.setTop (mkF m 22 #[.val (.ref a1), .val (.long (1 : Int64)), .second, .val (.ref a1), .val (.int (1 : Int32)), .val (.int (0 : Int32)), .unset] [(.int x0)])) t → Steps p.tables e below (s₁.setTop (entryFrame m #[(.ref a1)] 7)) t := fun t k => go5 t (by
    show Steps p.tables e below (s₁.setTop (mkF m 21 #[.val (.ref a1), .val (.long (1 : Int64)), .second, .val (.ref a1), .val (.int (1 : Int32)), .val (.int (0 : Int32)), .unset] [(.int (0 : Int32)), (.ref a1)])) _
    refine X0.iaload hx (j := (0 : Int32)) (v := (.int x0)) (by rw [e0]; exact Ar4.1) (State.isArrayOf_alike hZ.alike Ar4.2.1) Ar4.2.2 (inb_of S4 ⟨by decide, by decide⟩) (H4.at (inb_of S4 ⟨by decide, by decide⟩) rfl) (g := (mkF m 21 #[.val (.ref a1), .val (.long (1 : Int64)), .second, .val (.ref a1), .val (.int (1 : Int32)), .val (.int (0 : Int32)), .unset] [(.int (0 : Int32)), (.ref a1)])) rfl rfl (hb hby fits_21) _ ?_
    exact k)
  have go7 : ∀ t, Steps p.tables e below (s₁.setTop (mkF m 32 #[.val (.ref a1), .val (.long (1 : Int64)), .second, .val (.ref a1), .val (.int (1 : Int32)), .val (.int (0 : Int32)), .val (.int x0)] [(.long (2147483640 : Int64)), (.long ((1 : Int64) * (x0.toInt64)))])) t → Steps p.tables e below (s₁.setTop (entryFrame m #[(.ref a1)] 7)) t := fun t k => go6 t (by
    show Steps p.tables e below (s₁.setTop (mkF m 22 #[.val (.ref a1), .val (.long (1 : Int64)), .second, .val (.ref a1), .val (.int (1 : Int32)), .val (.int (0 : Int32)), .unset] [(.int x0)])) _
    refine XS.istore X0.here hx rfl (hb hby fits_22) rfl (l' := #[.val (.ref a1), .val (.long (1 : Int64)), .second, .val (.ref a1), .val (.int (1 : Int32)), .val (.int (0 : Int32)), .val (.int x0)]) rfl ?_
    show Steps p.tables e below (s₁.setTop (mkF m 24 #[.val (.ref a1), .val (.long (1 : Int64)), .second, .val (.ref a1), .val (.int (1 : Int32)), .val (.int (0 : Int32)), .val (.int x0)] [])) _
    refine XS.lloadN X0.here hx rfl (hb hby fits_24) rfl ?_
    show Steps p.tables e below (s₁.setTop (mkF m 25 #[.val (.ref a1), .val (.long (1 : Int64)), .second, .val (.ref a1), .val (.int (1 : Int32)), .val (.int (0 : Int32)), .val (.int x0)] [(.long (1 : Int64))])) _
    refine XS.iload X0.here hx rfl (hb hby fits_25) rfl ?_
    show Steps p.tables e below (s₁.setTop (mkF m 27 #[.val (.ref a1), .val (.long (1 : Int64)), .second, .val (.ref a1), .val (.int (1 : Int32)), .val (.int (0 : Int32)), .val (.int x0)] [(.int x0), (.long (1 : Int64))])) _
    refine XS.i2l X0.here hx rfl (hb hby fits_27) rfl ?_
    show Steps p.tables e below (s₁.setTop (mkF m 28 #[.val (.ref a1), .val (.long (1 : Int64)), .second, .val (.ref a1), .val (.int (1 : Int32)), .val (.int (0 : Int32)), .val (.int x0)] [(.long (x0.toInt64)), (.long (1 : Int64))])) _
    refine XS.lmul X0.here hx rfl (hb hby fits_28) rfl ?_
    show Steps p.tables e below (s₁.setTop (mkF m 29 #[.val (.ref a1), .val (.long (1 : Int64)), .second, .val (.ref a1), .val (.int (1 : Int32)), .val (.int (0 : Int32)), .val (.int x0)] [(.long ((1 : Int64) * (x0.toInt64)))])) _
    refine X0.ldc2J hx hown (mvT hZ (hw _ (List.mem_of_getElem? (i := 12) rfl))) rfl (hb hby fits_29) ?_
    exact k)
  obtain ⟨_, _, ⟨T8, L8, k8, n8⟩, -, X8, ⟨Lc8, hQ8, l8, y8, z8⟩, st8⟩ := Jvm.LawKit.callS X0 hx (y := (⟨"java/lang/Math", "min", "(JJ)J"⟩ : MethodName)) hown (mvT hZ (hw _ (List.mem_of_getElem? (i := 13) rfl))) (mvT hZ (hw _ (List.mem_of_getElem? (i := 14) rfl))) (mvT hZ (hw _ (List.mem_of_getElem? (i := 15) rfl))) (mvT hZ (hw _ (List.mem_of_getElem? (i := 16) rfl))) (by decide) (backOf (W := 0) (rm_mj l Z a0 hw [] ((1 : Int64) * (x0.toInt64)) (2147483640 : Int64) h0 n0 Z0 ) hZ (hw _ (List.mem_of_getElem? (i := 16) rfl)) (hw _ (List.mem_of_getElem? (i := 15) rfl)) (by decide) (by decide)) (g := (mkF m 32 #[.val (.ref a1), .val (.long (1 : Int64)), .second, .val (.ref a1), .val (.int (1 : Int32)), .val (.int (0 : Int32)), .val (.int x0)] [(.long (2147483640 : Int64)), (.long ((1 : Int64) * (x0.toInt64)))])) rfl (by rw [hml]; rfl) (argsL := [(.long ((1 : Int64) * (x0.toInt64))), (.long (2147483640 : Int64))]) (rest := []) (lenOf pd_0 rfl) rfl (by show 2 * 0 + _ ≤ _; exact Nat.le_of_eq rfl) (hb hby fits_32) (fun _ _ => ⟨rfl, e0, (by decide : 0 + 0 ≤ _), (by decide : 0 + 0 ≤ _)⟩)
  dsimp only [Pt.U, Pt.locs, Pt.cells, Pt.slots] at X8 l8 y8 z8 st8 hQ8
  subst l8 y8 z8
  obtain ⟨rfl, N8q, e8⟩ := hQ8
  have N8 := Fr.app N0 N8q
  have go9 : ∀ t, Steps p.tables e below (T8.setTop (mkF m 35 #[.val (.ref a1), .val (.long (1 : Int64)), .second, .val (.ref a1), .val (.int (1 : Int32)), .val (.int (0 : Int32)), .val (.int x0)] [(.long (own_cap (1 : Int64) x0))])) t → Steps p.tables e below (s₁.setTop (entryFrame m #[(.ref a1)] 7)) t := fun t k => go7 t (st8 t k)
  have go10 : ∀ t, Steps p.tables e below (T8.setTop (mkF m 47 #[.val (.ref a1), .val (.long (own_cap (1 : Int64) x0)), .second, .val (.ref a1), .val (.int (1 : Int32)), .val (.int (1 : Int32)), .val (.int x0)] [(.int (lcmpW (own_cap (1 : Int64) x0) (2147483639 : Int64)))])) t → Steps p.tables e below (s₁.setTop (entryFrame m #[(.ref a1)] 7)) t := fun t k => go9 t (by
    show Steps p.tables e below (T8.setTop (mkF m 35 #[.val (.ref a1), .val (.long (1 : Int64)), .second, .val (.ref a1), .val (.int (1 : Int32)), .val (.int (0 : Int32)), .val (.int x0)] [(.long (own_cap (1 : Int64) x0))])) _
    refine XS.lstoreN X8.here hx rfl (hb hby fits_35) rfl (l' := #[.val (.ref a1), .val (.long (own_cap (1 : Int64) x0)), .second, .val (.ref a1), .val (.int (1 : Int32)), .val (.int (0 : Int32)), .val (.int x0)]) rfl ?_
    show Steps p.tables e below (T8.setTop (mkF m 36 #[.val (.ref a1), .val (.long (own_cap (1 : Int64) x0)), .second, .val (.ref a1), .val (.int (1 : Int32)), .val (.int (0 : Int32)), .val (.int x0)] [])) _
    refine XS.iinc X8.here hx rfl (hb hby fits_36) rfl (l' := #[.val (.ref a1), .val (.long (own_cap (1 : Int64) x0)), .second, .val (.ref a1), .val (.int (1 : Int32)), .val (.int (1 : Int32)), .val (.int x0)]) rfl ?_
    show Steps p.tables e below (T8.setTop (mkF m 39 #[.val (.ref a1), .val (.long (own_cap (1 : Int64) x0)), .second, .val (.ref a1), .val (.int (1 : Int32)), .val (.int (1 : Int32)), .val (.int x0)] [])) _
    refine XS.goto X8.here hx rfl (pc0 := 39) (pc' := 11) rfl (hb hby fits_39) (by decide) (by decide) ?_
    show Steps p.tables e below (T8.setTop (mkF m 11 #[.val (.ref a1), .val (.long (own_cap (1 : Int64) x0)), .second, .val (.ref a1), .val (.int (1 : Int32)), .val (.int (1 : Int32)), .val (.int x0)] [])) _
    refine XS.iload X8.here hx rfl (hb hby fits_11) rfl ?_
    show Steps p.tables e below (T8.setTop (mkF m 13 #[.val (.ref a1), .val (.long (own_cap (1 : Int64) x0)), .second, .val (.ref a1), .val (.int (1 : Int32)), .val (.int (1 : Int32)), .val (.int x0)] [(.int (1 : Int32))])) _
    refine XS.iload X8.here hx rfl (hb hby fits_13) rfl ?_
    show Steps p.tables e below (T8.setTop (mkF m 15 #[.val (.ref a1), .val (.long (own_cap (1 : Int64) x0)), .second, .val (.ref a1), .val (.int (1 : Int32)), .val (.int (1 : Int32)), .val (.int x0)] [(.int (1 : Int32)), (.int (1 : Int32))])) _
    refine XS.icmpYes X8.here hx rfl (pc0 := 15) (pc' := 42) rfl (hb hby fits_15) rfl (flt (by decide : ¬ ((1 : Int32) < (1 : Int32)))).2.1 (by decide) (by decide) ?_
    show Steps p.tables e below (T8.setTop (mkF m 42 #[.val (.ref a1), .val (.long (own_cap (1 : Int64) x0)), .second, .val (.ref a1), .val (.int (1 : Int32)), .val (.int (1 : Int32)), .val (.int x0)] [])) _
    refine XS.lloadN X8.here hx rfl (hb hby fits_42) rfl ?_
    show Steps p.tables e below (T8.setTop (mkF m 43 #[.val (.ref a1), .val (.long (own_cap (1 : Int64) x0)), .second, .val (.ref a1), .val (.int (1 : Int32)), .val (.int (1 : Int32)), .val (.int x0)] [(.long (own_cap (1 : Int64) x0))])) _
    refine X8.ldc2J hx hown (mvT hZ (hw _ (List.mem_of_getElem? (i := 6) rfl))) rfl (hb hby fits_43) ?_
    show Steps p.tables e below (T8.setTop (mkF m 46 #[.val (.ref a1), .val (.long (own_cap (1 : Int64) x0)), .second, .val (.ref a1), .val (.int (1 : Int32)), .val (.int (1 : Int32)), .val (.int x0)] [(.long (2147483639 : Int64)), (.long (own_cap (1 : Int64) x0))])) _
    refine XS.lcmp X8.here hx rfl (hb hby fits_46) rfl ?_
    exact k)
  by_cases hc11 : (2147483639 : Int64) < (own_cap (1 : Int64) x0)
  · have go12 : ∀ t, Steps p.tables e below (T8.setTop (mkF m 55 #[.val (.ref a1), .val (.long (own_cap (1 : Int64) x0)), .second, .val (.ref a1), .val (.int (1 : Int32)), .val (.int (1 : Int32)), .val (.int x0)] [(.int (0 : Int32))])) t → Steps p.tables e below (s₁.setTop (entryFrame m #[(.ref a1)] 7)) t := fun t k => go10 t (by
      show Steps p.tables e below (T8.setTop (mkF m 47 #[.val (.ref a1), .val (.long (own_cap (1 : Int64) x0)), .second, .val (.ref a1), .val (.int (1 : Int32)), .val (.int (1 : Int32)), .val (.int x0)] [(.int (lcmpW (own_cap (1 : Int64) x0) (2147483639 : Int64)))])) _
      refine XS.ifYes X8.here hx rfl (pc0 := 47) (pc' := 54) rfl (hb hby fits_47) rfl ((if0 _ _).trans (tlt ((lw_gt _ _).mpr hc11)).2.2.1) (by decide) (by decide) ?_
      show Steps p.tables e below (T8.setTop (mkF m 54 #[.val (.ref a1), .val (.long (own_cap (1 : Int64) x0)), .second, .val (.ref a1), .val (.int (1 : Int32)), .val (.int (1 : Int32)), .val (.int x0)] [])) _
      refine XS.iconst X8.here hx rfl (hb hby fits_54) ?_
      exact k)
    obtain ⟨fs, hr, hrun, hended, hW, hsame⟩ := X8.leave (v := some (.int (0 : Int32))) (fun h => by rw [Bd.returns] at h; cases h)
    refine ⟨_, _, go12 _ ?_, hrun, hended, _, _, rfl, ?_, ⟨_, rfl⟩, hW, hsame.mono (by decide) (by decide)⟩
    · exact retN X8 hx (t := .boolean) Bd.returns (by simp) (hb hby fits_55) hr
    · show QV (.int (own_fits1 x0)) h0 n0 _ T8.heap _
      rw [e8]
      exact ⟨congrArg some (congrArg Value.int (Eq.symm (show (own_fits1 x0) = (0 : Int32) from by unfold own_fits1; rw [if_pos hc11]))), N8, rfl⟩
  · have go13 : ∀ t, Steps p.tables e below (T8.setTop (mkF m 55 #[.val (.ref a1), .val (.long (own_cap (1 : Int64) x0)), .second, .val (.ref a1), .val (.int (1 : Int32)), .val (.int (1 : Int32)), .val (.int x0)] [(.int (1 : Int32))])) t → Steps p.tables e below (s₁.setTop (entryFrame m #[(.ref a1)] 7)) t := fun t k => go10 t (by
      show Steps p.tables e below (T8.setTop (mkF m 47 #[.val (.ref a1), .val (.long (own_cap (1 : Int64) x0)), .second, .val (.ref a1), .val (.int (1 : Int32)), .val (.int (1 : Int32)), .val (.int x0)] [(.int (lcmpW (own_cap (1 : Int64) x0) (2147483639 : Int64)))])) _
      refine XS.ifNo X8.here hx rfl (hb hby fits_47) rfl ((if0 _ _).trans (flt (mt (lw_gt _ _).mp hc11)).2.2.1) ?_
      show Steps p.tables e below (T8.setTop (mkF m 50 #[.val (.ref a1), .val (.long (own_cap (1 : Int64) x0)), .second, .val (.ref a1), .val (.int (1 : Int32)), .val (.int (1 : Int32)), .val (.int x0)] [])) _
      refine XS.iconst X8.here hx rfl (hb hby fits_50) ?_
      show Steps p.tables e below (T8.setTop (mkF m 51 #[.val (.ref a1), .val (.long (own_cap (1 : Int64) x0)), .second, .val (.ref a1), .val (.int (1 : Int32)), .val (.int (1 : Int32)), .val (.int x0)] [(.int (1 : Int32))])) _
      refine XS.goto X8.here hx rfl (pc0 := 51) (pc' := 55) rfl (hb hby fits_51) (by decide) (by decide) ?_
      exact k)
    obtain ⟨fs, hr, hrun, hended, hW, hsame⟩ := X8.leave (v := some (.int (1 : Int32))) (fun h => by rw [Bd.returns] at h; cases h)
    refine ⟨_, _, go13 _ ?_, hrun, hended, _, _, rfl, ?_, ⟨_, rfl⟩, hW, hsame.mono (by decide) (by decide)⟩
    · exact retN X8 hx (t := .boolean) Bd.returns (by simp) (hb hby fits_55) hr
    · show QV (.int (own_fits1 x0)) h0 n0 _ T8.heap _
      rw [e8]
      exact ⟨congrArg some (congrArg Value.int (Eq.symm (show (own_fits1 x0) = (1 : Int32) from by unfold own_fits1; rw [if_neg hc11]))), N8, rfl⟩
def own_exp1 (p2 : Int32) (p3 : Int32) (p4 : Int32) (p5 : Int32) : Int32 := if p2 = (0 : Int32) then (1 : Int32) else (if (2147483639 : Int64) < (p2.toInt64) then (0 : Int32) else (1 : Int32))
set_option maxRecDepth 65536 in
set_option maxHeartbeats 40000000 in
theorem rm_exp1 (l : Launch) (Z : State) (a0 : Array Value) (hw : ∀ d ∈ tables_1, d.before a0 Z = true) (ws : List Jvm.Cond) (p2 : Int32) (p3 : Int32) (p4 : Int32) (p5 : Int32) (h0 : Heap) (n0 : Nat) (Z0 : n0 ≤ h0.size)  :
    MetFree l (⟨"com/example/inlet/inlet/compiler/ArrayValueFitsPinLaw", "expected", "(IIIII)Z"⟩ : MethodName) (head1 (Jvm.Cond.code (⟨"com/example/inlet/inlet/compiler/ArrayValueFitsPinLaw", "expected", "(IIIII)Z"⟩ : MethodName) method_3_code 10 (some .boolean) :: ws) ({ frames := 0, cells := 0, slots := 0, locals := 0 } : Room)) (fun a U => a = #[(.int (1 : Int32)), (.int p2), (.int p3), (.int p4), (.int p5)] ∧ Z.Warmed39 U.vm ∧ U.heap = h0) (fun _ _ _ _ _ => True) (fun _ U o U' => ∃ v L, o = .returned v ∧ QV (.int (own_exp1 p2 p3 p4 p5)) h0 n0 v U'.heap L ∧ FrameEnd U o U' L ({ frames := 0, cells := 0, slots := 0, locals := 0 } : Room).cells ({ frames := 0, cells := 0, slots := 0, locals := 0 } : Room).slots) := by
  refine MetFree.of_bodySF (plainFor_of_name pn_exp) hisR ?_
  intro p e s m args below meth c s₁ Bd hml0 hP hK
  obtain ⟨rfl, hZ, hh⟩ := hP
  have hx := Bd.exec
  have hby := Bd.bytes
  have hml : c.maxLocals = 10 := hml0
  have hown : s.vm.findClass "com/example/inlet/inlet/compiler/ArrayValueFitsPinLaw" = some m.cls := findClass_of_methodNamed Bd.named
  have hnm := (name_of_methodNamed Bd.named Bd.method).1
  have X0 : Stand p l e ({ frames := 0, cells := 0, slots := 0, locals := 0 } : Room) s m #[(.int (1 : Int32)), (.int p2), (.int p3), (.int p4), (.int p5)] below meth c s₁ [] 0 0 := Stand.of_body Bd
  have e0 : s₁.heap = h0 := by rw [← hh, Bd.state]; rfl
  have N0 := Fr.nil n0
  have go0 : ∀ t, Steps p.tables e below (s₁.setTop (mkF m 0 #[.val (.int (1 : Int32)), .val (.int p2), .val (.int p3), .val (.int p4), .val (.int p5), .unset, .unset, .unset, .unset, .unset] [])) t → Steps p.tables e below (s₁.setTop (entryFrame m #[(.int (1 : Int32)), (.int p2), (.int p3), (.int p4), (.int p5)] 10)) t := fun t k => castTop (ef_exp m (1 : Int32) p2 p3 p4 p5) k
  have go1 : ∀ t, Steps p.tables e below (s₁.setTop (mkF m 11 #[.val (.int (1 : Int32)), .val (.int p2), .val (.int p3), .val (.int p4), .val (.int p5), .val (.long (2147483639 : Int64)), .second, .unset, .unset, .unset] [(.int p2)])) t → Steps p.tables e below (s₁.setTop (entryFrame m #[(.int (1 : Int32)), (.int p2), (.int p3), (.int p4), (.int p5)] 10)) t := fun t k => go0 t (by
    show Steps p.tables e below (s₁.setTop (mkF m 0 #[.val (.int (1 : Int32)), .val (.int p2), .val (.int p3), .val (.int p4), .val (.int p5), .unset, .unset, .unset, .unset, .unset] [])) _
    refine X0.ldc2J hx hown (mvT hZ (hw _ (List.mem_of_getElem? (i := 11) rfl))) rfl (hb hby exp_0) ?_
    show Steps p.tables e below (s₁.setTop (mkF m 3 #[.val (.int (1 : Int32)), .val (.int p2), .val (.int p3), .val (.int p4), .val (.int p5), .unset, .unset, .unset, .unset, .unset] [(.long (2147483639 : Int64))])) _
    refine XS.lstore X0.here hx rfl (hb hby exp_3) rfl (l' := #[.val (.int (1 : Int32)), .val (.int p2), .val (.int p3), .val (.int p4), .val (.int p5), .val (.long (2147483639 : Int64)), .second, .unset, .unset, .unset]) rfl ?_
    show Steps p.tables e below (s₁.setTop (mkF m 5 #[.val (.int (1 : Int32)), .val (.int p2), .val (.int p3), .val (.int p4), .val (.int p5), .val (.long (2147483639 : Int64)), .second, .unset, .unset, .unset] [])) _
    refine XS.iloadN X0.here hx rfl (hb hby exp_5) rfl ?_
    show Steps p.tables e below (s₁.setTop (mkF m 6 #[.val (.int (1 : Int32)), .val (.int p2), .val (.int p3), .val (.int p4), .val (.int p5), .val (.long (2147483639 : Int64)), .second, .unset, .unset, .unset] [(.int (1 : Int32))])) _
    refine XS.iconst X0.here hx rfl (hb hby exp_6) ?_
    show Steps p.tables e below (s₁.setTop (mkF m 7 #[.val (.int (1 : Int32)), .val (.int p2), .val (.int p3), .val (.int p4), .val (.int p5), .val (.long (2147483639 : Int64)), .second, .unset, .unset, .unset] [(.int (1 : Int32)), (.int (1 : Int32))])) _
    refine XS.icmpNo X0.here hx rfl (hb hby exp_7) rfl (flt (by decide : ¬ ((1 : Int32) < (1 : Int32)))).1 ?_
    show Steps p.tables e below (s₁.setTop (mkF m 10 #[.val (.int (1 : Int32)), .val (.int p2), .val (.int p3), .val (.int p4), .val (.int p5), .val (.long (2147483639 : Int64)), .second, .unset, .unset, .unset] [])) _
    refine XS.iloadN X0.here hx rfl (hb hby exp_10) rfl ?_
    exact k)
  by_cases hc2 : p2 = (0 : Int32)
  · have go3 : ∀ t, Steps p.tables e below (s₁.setTop (mkF m 55 #[.val (.int (1 : Int32)), .val (.int p2), .val (.int p3), .val (.int p4), .val (.int p5), .val (.long (2147483639 : Int64)), .second, .val (.int (1 : Int32)), .unset, .unset] [(.int (1 : Int32))])) t → Steps p.tables e below (s₁.setTop (entryFrame m #[(.int (1 : Int32)), (.int p2), (.int p3), (.int p4), (.int p5)] 10)) t := fun t k => go1 t (by
      show Steps p.tables e below (s₁.setTop (mkF m 11 #[.val (.int (1 : Int32)), .val (.int p2), .val (.int p3), .val (.int p4), .val (.int p5), .val (.long (2147483639 : Int64)), .second, .unset, .unset, .unset] [(.int p2)])) _
      refine XS.ifYes X0.here hx rfl (pc0 := 11) (pc' := 42) rfl (hb hby exp_11) rfl ((if0 _ _).trans (teq hc2).1) (by decide) (by decide) ?_
      show Steps p.tables e below (s₁.setTop (mkF m 42 #[.val (.int (1 : Int32)), .val (.int p2), .val (.int p3), .val (.int p4), .val (.int p5), .val (.long (2147483639 : Int64)), .second, .unset, .unset, .unset] [])) _
      refine XS.iconst X0.here hx rfl (hb hby exp_42) ?_
      show Steps p.tables e below (s₁.setTop (mkF m 43 #[.val (.int (1 : Int32)), .val (.int p2), .val (.int p3), .val (.int p4), .val (.int p5), .val (.long (2147483639 : Int64)), .second, .unset, .unset, .unset] [(.int (1 : Int32))])) _
      refine XS.goto X0.here hx rfl (pc0 := 43) (pc' := 47) rfl (hb hby exp_43) (by decide) (by decide) ?_
      show Steps p.tables e below (s₁.setTop (mkF m 47 #[.val (.int (1 : Int32)), .val (.int p2), .val (.int p3), .val (.int p4), .val (.int p5), .val (.long (2147483639 : Int64)), .second, .unset, .unset, .unset] [(.int (1 : Int32))])) _
      refine XS.istore X0.here hx rfl (hb hby exp_47) rfl (l' := #[.val (.int (1 : Int32)), .val (.int p2), .val (.int p3), .val (.int p4), .val (.int p5), .val (.long (2147483639 : Int64)), .second, .val (.int (1 : Int32)), .unset, .unset]) rfl ?_
      show Steps p.tables e below (s₁.setTop (mkF m 49 #[.val (.int (1 : Int32)), .val (.int p2), .val (.int p3), .val (.int p4), .val (.int p5), .val (.long (2147483639 : Int64)), .second, .val (.int (1 : Int32)), .unset, .unset] [])) _
      refine XS.iload X0.here hx rfl (hb hby exp_49) rfl ?_
      show Steps p.tables e below (s₁.setTop (mkF m 51 #[.val (.int (1 : Int32)), .val (.int p2), .val (.int p3), .val (.int p4), .val (.int p5), .val (.long (2147483639 : Int64)), .second, .val (.int (1 : Int32)), .unset, .unset] [(.int (1 : Int32))])) _
      refine XS.ifNo X0.here hx rfl (hb hby exp_51) rfl ((if0 _ _).trans (feq (by decide : ¬ ((1 : Int32) = (0 : Int32)))).1) ?_
      show Steps p.tables e below (s₁.setTop (mkF m 54 #[.val (.int (1 : Int32)), .val (.int p2), .val (.int p3), .val (.int p4), .val (.int p5), .val (.long (2147483639 : Int64)), .second, .val (.int (1 : Int32)), .unset, .unset] [])) _
      refine XS.iconst X0.here hx rfl (hb hby exp_54) ?_
      exact k)
    obtain ⟨fs, hr, hrun, hended, hW, hsame⟩ := X0.leave (v := some (.int (1 : Int32))) (fun h => by rw [Bd.returns] at h; cases h)
    refine ⟨_, _, go3 _ ?_, hrun, hended, _, _, rfl, ?_, ⟨_, rfl⟩, hW, hsame.mono (by decide) (by decide)⟩
    · exact retN X0 hx (t := .boolean) Bd.returns (by simp) (hb hby exp_55) hr
    · show QV (.int (own_exp1 p2 p3 p4 p5)) h0 n0 _ s₁.heap _
      rw [e0]
      exact ⟨congrArg some (congrArg Value.int (Eq.symm (show (own_exp1 p2 p3 p4 p5) = (1 : Int32) from by unfold own_exp1; rw [if_pos hc2]))), N0, rfl⟩
  · have go4 : ∀ t, Steps p.tables e below (s₁.setTop (mkF m 73 #[.val (.int (1 : Int32)), .val (.int p2), .val (.int p3), .val (.int p4), .val (.int p5), .val (.long (2147483639 : Int64)), .second, .val (.int (0 : Int32)), .val (.long (p2.toInt64)), .second] [(.int (lcmpW (p2.toInt64) (2147483639 : Int64)))])) t → Steps p.tables e below (s₁.setTop (entryFrame m #[(.int (1 : Int32)), (.int p2), (.int p3), (.int p4), (.int p5)] 10)) t := fun t k => go1 t (by
      show Steps p.tables e below (s₁.setTop (mkF m 11 #[.val (.int (1 : Int32)), .val (.int p2), .val (.int p3), .val (.int p4), .val (.int p5), .val (.long (2147483639 : Int64)), .second, .unset, .unset, .unset] [(.int p2)])) _
      refine XS.ifNo X0.here hx rfl (hb hby exp_11) rfl ((if0 _ _).trans (feq hc2).1) ?_
      show Steps p.tables e below (s₁.setTop (mkF m 14 #[.val (.int (1 : Int32)), .val (.int p2), .val (.int p3), .val (.int p4), .val (.int p5), .val (.long (2147483639 : Int64)), .second, .unset, .unset, .unset] [])) _
      refine XS.iloadN X0.here hx rfl (hb hby exp_14) rfl ?_
      show Steps p.tables e below (s₁.setTop (mkF m 15 #[.val (.int (1 : Int32)), .val (.int p2), .val (.int p3), .val (.int p4), .val (.int p5), .val (.long (2147483639 : Int64)), .second, .unset, .unset, .unset] [(.int (1 : Int32))])) _
      refine XS.iconst X0.here hx rfl (hb hby exp_15) ?_
      show Steps p.tables e below (s₁.setTop (mkF m 16 #[.val (.int (1 : Int32)), .val (.int p2), .val (.int p3), .val (.int p4), .val (.int p5), .val (.long (2147483639 : Int64)), .second, .unset, .unset, .unset] [(.int (2 : Int32)), (.int (1 : Int32))])) _
      refine XS.icmpYes X0.here hx rfl (pc0 := 16) (pc' := 23) rfl (hb hby exp_16) rfl (tlt (by decide : (1 : Int32) < (2 : Int32))).1 (by decide) (by decide) ?_
      show Steps p.tables e below (s₁.setTop (mkF m 23 #[.val (.int (1 : Int32)), .val (.int p2), .val (.int p3), .val (.int p4), .val (.int p5), .val (.long (2147483639 : Int64)), .second, .unset, .unset, .unset] [])) _
      refine XS.iloadN X0.here hx rfl (hb hby exp_23) rfl ?_
      show Steps p.tables e below (s₁.setTop (mkF m 24 #[.val (.int (1 : Int32)), .val (.int p2), .val (.int p3), .val (.int p4), .val (.int p5), .val (.long (2147483639 : Int64)), .second, .unset, .unset, .unset] [(.int (1 : Int32))])) _
      refine XS.iconst X0.here hx rfl (hb hby exp_24) ?_
      show Steps p.tables e below (s₁.setTop (mkF m 25 #[.val (.int (1 : Int32)), .val (.int p2), .val (.int p3), .val (.int p4), .val (.int p5), .val (.long (2147483639 : Int64)), .second, .unset, .unset, .unset] [(.int (3 : Int32)), (.int (1 : Int32))])) _
      refine XS.icmpYes X0.here hx rfl (pc0 := 25) (pc' := 32) rfl (hb hby exp_25) rfl (tlt (by decide : (1 : Int32) < (3 : Int32))).1 (by decide) (by decide) ?_
      show Steps p.tables e below (s₁.setTop (mkF m 32 #[.val (.int (1 : Int32)), .val (.int p2), .val (.int p3), .val (.int p4), .val (.int p5), .val (.long (2147483639 : Int64)), .second, .unset, .unset, .unset] [])) _
      refine XS.iloadN X0.here hx rfl (hb hby exp_32) rfl ?_
      show Steps p.tables e below (s₁.setTop (mkF m 33 #[.val (.int (1 : Int32)), .val (.int p2), .val (.int p3), .val (.int p4), .val (.int p5), .val (.long (2147483639 : Int64)), .second, .unset, .unset, .unset] [(.int (1 : Int32))])) _
      refine XS.iconst X0.here hx rfl (hb hby exp_33) ?_
      show Steps p.tables e below (s₁.setTop (mkF m 34 #[.val (.int (1 : Int32)), .val (.int p2), .val (.int p3), .val (.int p4), .val (.int p5), .val (.long (2147483639 : Int64)), .second, .unset, .unset, .unset] [(.int (4 : Int32)), (.int (1 : Int32))])) _
      refine XS.icmpYes X0.here hx rfl (pc0 := 34) (pc' := 46) rfl (hb hby exp_34) rfl (tlt (by decide : (1 : Int32) < (4 : Int32))).1 (by decide) (by decide) ?_
      show Steps p.tables e below (s₁.setTop (mkF m 46 #[.val (.int (1 : Int32)), .val (.int p2), .val (.int p3), .val (.int p4), .val (.int p5), .val (.long (2147483639 : Int64)), .second, .unset, .unset, .unset] [])) _
      refine XS.iconst X0.here hx rfl (hb hby exp_46) ?_
      show Steps p.tables e below (s₁.setTop (mkF m 47 #[.val (.int (1 : Int32)), .val (.int p2), .val (.int p3), .val (.int p4), .val (.int p5), .val (.long (2147483639 : Int64)), .second, .unset, .unset, .unset] [(.int (0 : Int32))])) _
      refine XS.istore X0.here hx rfl (hb hby exp_47) rfl (l' := #[.val (.int (1 : Int32)), .val (.int p2), .val (.int p3), .val (.int p4), .val (.int p5), .val (.long (2147483639 : Int64)), .second, .val (.int (0 : Int32)), .unset, .unset]) rfl ?_
      show Steps p.tables e below (s₁.setTop (mkF m 49 #[.val (.int (1 : Int32)), .val (.int p2), .val (.int p3), .val (.int p4), .val (.int p5), .val (.long (2147483639 : Int64)), .second, .val (.int (0 : Int32)), .unset, .unset] [])) _
      refine XS.iload X0.here hx rfl (hb hby exp_49) rfl ?_
      show Steps p.tables e below (s₁.setTop (mkF m 51 #[.val (.int (1 : Int32)), .val (.int p2), .val (.int p3), .val (.int p4), .val (.int p5), .val (.long (2147483639 : Int64)), .second, .val (.int (0 : Int32)), .unset, .unset] [(.int (0 : Int32))])) _
      refine XS.ifYes X0.here hx rfl (pc0 := 51) (pc' := 56) rfl (hb hby exp_51) rfl ((if0 _ _).trans (teq (by decide : (0 : Int32) = (0 : Int32))).1) (by decide) (by decide) ?_
      show Steps p.tables e below (s₁.setTop (mkF m 56 #[.val (.int (1 : Int32)), .val (.int p2), .val (.int p3), .val (.int p4), .val (.int p5), .val (.long (2147483639 : Int64)), .second, .val (.int (0 : Int32)), .unset, .unset] [])) _
      refine XS.lconst X0.here hx rfl (hb hby exp_56) ?_
      show Steps p.tables e below (s₁.setTop (mkF m 57 #[.val (.int (1 : Int32)), .val (.int p2), .val (.int p3), .val (.int p4), .val (.int p5), .val (.long (2147483639 : Int64)), .second, .val (.int (0 : Int32)), .unset, .unset] [(.long (1 : Int64))])) _
      refine XS.lstore X0.here hx rfl (hb hby exp_57) rfl (l' := #[.val (.int (1 : Int32)), .val (.int p2), .val (.int p3), .val (.int p4), .val (.int p5), .val (.long (2147483639 : Int64)), .second, .val (.int (0 : Int32)), .val (.long (1 : Int64)), .second]) rfl ?_
      show Steps p.tables e below (s₁.setTop (mkF m 59 #[.val (.int (1 : Int32)), .val (.int p2), .val (.int p3), .val (.int p4), .val (.int p5), .val (.long (2147483639 : Int64)), .second, .val (.int (0 : Int32)), .val (.long (1 : Int64)), .second] [])) _
      refine XS.iloadN X0.here hx rfl (hb hby exp_59) rfl ?_
      show Steps p.tables e below (s₁.setTop (mkF m 60 #[.val (.int (1 : Int32)), .val (.int p2), .val (.int p3), .val (.int p4), .val (.int p5), .val (.long (2147483639 : Int64)), .second, .val (.int (0 : Int32)), .val (.long (1 : Int64)), .second] [(.int (1 : Int32))])) _
      refine XS.iconst X0.here hx rfl (hb hby exp_60) ?_
      show Steps p.tables e below (s₁.setTop (mkF m 61 #[.val (.int (1 : Int32)), .val (.int p2), .val (.int p3), .val (.int p4), .val (.int p5), .val (.long (2147483639 : Int64)), .second, .val (.int (0 : Int32)), .val (.long (1 : Int64)), .second] [(.int (1 : Int32)), (.int (1 : Int32))])) _
      refine XS.icmpNo X0.here hx rfl (hb hby exp_61) rfl (flt (by decide : ¬ ((1 : Int32) < (1 : Int32)))).1 ?_
      show Steps p.tables e below (s₁.setTop (mkF m 64 #[.val (.int (1 : Int32)), .val (.int p2), .val (.int p3), .val (.int p4), .val (.int p5), .val (.long (2147483639 : Int64)), .second, .val (.int (0 : Int32)), .val (.long (1 : Int64)), .second] [])) _
      refine XS.iloadN X0.here hx rfl (hb hby exp_64) rfl ?_
      show Steps p.tables e below (s₁.setTop (mkF m 65 #[.val (.int (1 : Int32)), .val (.int p2), .val (.int p3), .val (.int p4), .val (.int p5), .val (.long (2147483639 : Int64)), .second, .val (.int (0 : Int32)), .val (.long (1 : Int64)), .second] [(.int p2)])) _
      refine XS.i2l X0.here hx rfl (hb hby exp_65) rfl ?_
      show Steps p.tables e below (s₁.setTop (mkF m 66 #[.val (.int (1 : Int32)), .val (.int p2), .val (.int p3), .val (.int p4), .val (.int p5), .val (.long (2147483639 : Int64)), .second, .val (.int (0 : Int32)), .val (.long (1 : Int64)), .second] [(.long (p2.toInt64))])) _
      refine XS.lstore X0.here hx rfl (hb hby exp_66) rfl (l' := #[.val (.int (1 : Int32)), .val (.int p2), .val (.int p3), .val (.int p4), .val (.int p5), .val (.long (2147483639 : Int64)), .second, .val (.int (0 : Int32)), .val (.long (p2.toInt64)), .second]) rfl ?_
      show Steps p.tables e below (s₁.setTop (mkF m 68 #[.val (.int (1 : Int32)), .val (.int p2), .val (.int p3), .val (.int p4), .val (.int p5), .val (.long (2147483639 : Int64)), .second, .val (.int (0 : Int32)), .val (.long (p2.toInt64)), .second] [])) _
      refine XS.lload X0.here hx rfl (hb hby exp_68) rfl ?_
      show Steps p.tables e below (s₁.setTop (mkF m 70 #[.val (.int (1 : Int32)), .val (.int p2), .val (.int p3), .val (.int p4), .val (.int p5), .val (.long (2147483639 : Int64)), .second, .val (.int (0 : Int32)), .val (.long (p2.toInt64)), .second] [(.long (p2.toInt64))])) _
      refine XS.lload X0.here hx rfl (hb hby exp_70) rfl ?_
      show Steps p.tables e below (s₁.setTop (mkF m 72 #[.val (.int (1 : Int32)), .val (.int p2), .val (.int p3), .val (.int p4), .val (.int p5), .val (.long (2147483639 : Int64)), .second, .val (.int (0 : Int32)), .val (.long (p2.toInt64)), .second] [(.long (2147483639 : Int64)), (.long (p2.toInt64))])) _
      refine XS.lcmp X0.here hx rfl (hb hby exp_72) rfl ?_
      exact k)
    by_cases hc5 : (2147483639 : Int64) < (p2.toInt64)
    · have go6 : ∀ t, Steps p.tables e below (s₁.setTop (mkF m 77 #[.val (.int (1 : Int32)), .val (.int p2), .val (.int p3), .val (.int p4), .val (.int p5), .val (.long (2147483639 : Int64)), .second, .val (.int (0 : Int32)), .val (.long (p2.toInt64)), .second] [(.int (0 : Int32))])) t → Steps p.tables e below (s₁.setTop (entryFrame m #[(.int (1 : Int32)), (.int p2), (.int p3), (.int p4), (.int p5)] 10)) t := fun t k => go4 t (by
        show Steps p.tables e below (s₁.setTop (mkF m 73 #[.val (.int (1 : Int32)), .val (.int p2), .val (.int p3), .val (.int p4), .val (.int p5), .val (.long (2147483639 : Int64)), .second, .val (.int (0 : Int32)), .val (.long (p2.toInt64)), .second] [(.int (lcmpW (p2.toInt64) (2147483639 : Int64)))])) _
        refine XS.ifNo X0.here hx rfl (hb hby exp_73) rfl ((if0 _ _).trans (tlt ((lw_gt _ _).mpr hc5)).2.2.2) ?_
        show Steps p.tables e below (s₁.setTop (mkF m 76 #[.val (.int (1 : Int32)), .val (.int p2), .val (.int p3), .val (.int p4), .val (.int p5), .val (.long (2147483639 : Int64)), .second, .val (.int (0 : Int32)), .val (.long (p2.toInt64)), .second] [])) _
        refine XS.iconst X0.here hx rfl (hb hby exp_76) ?_
        exact k)
      obtain ⟨fs, hr, hrun, hended, hW, hsame⟩ := X0.leave (v := some (.int (0 : Int32))) (fun h => by rw [Bd.returns] at h; cases h)
      refine ⟨_, _, go6 _ ?_, hrun, hended, _, _, rfl, ?_, ⟨_, rfl⟩, hW, hsame.mono (by decide) (by decide)⟩
      · exact retN X0 hx (t := .boolean) Bd.returns (by simp) (hb hby exp_77) hr
      · show QV (.int (own_exp1 p2 p3 p4 p5)) h0 n0 _ s₁.heap _
        rw [e0]
        exact ⟨congrArg some (congrArg Value.int (Eq.symm (show (own_exp1 p2 p3 p4 p5) = (0 : Int32) from by unfold own_exp1; rw [if_neg hc2, if_pos hc5]))), N0, rfl⟩
    · have go7 : ∀ t, Steps p.tables e below (s₁.setTop (mkF m 146 #[.val (.int (1 : Int32)), .val (.int p2), .val (.int p3), .val (.int p4), .val (.int p5), .val (.long (2147483639 : Int64)), .second, .val (.int (0 : Int32)), .val (.long (p2.toInt64)), .second] [(.int (1 : Int32))])) t → Steps p.tables e below (s₁.setTop (entryFrame m #[(.int (1 : Int32)), (.int p2), (.int p3), (.int p4), (.int p5)] 10)) t := fun t k => go4 t (by
        show Steps p.tables e below (s₁.setTop (mkF m 73 #[.val (.int (1 : Int32)), .val (.int p2), .val (.int p3), .val (.int p4), .val (.int p5), .val (.long (2147483639 : Int64)), .second, .val (.int (0 : Int32)), .val (.long (p2.toInt64)), .second] [(.int (lcmpW (p2.toInt64) (2147483639 : Int64)))])) _
        refine XS.ifYes X0.here hx rfl (pc0 := 73) (pc' := 78) rfl (hb hby exp_73) rfl ((if0 _ _).trans (flt (mt (lw_gt _ _).mp hc5)).2.2.2) (by decide) (by decide) ?_
        show Steps p.tables e below (s₁.setTop (mkF m 78 #[.val (.int (1 : Int32)), .val (.int p2), .val (.int p3), .val (.int p4), .val (.int p5), .val (.long (2147483639 : Int64)), .second, .val (.int (0 : Int32)), .val (.long (p2.toInt64)), .second] [])) _
        refine XS.iloadN X0.here hx rfl (hb hby exp_78) rfl ?_
        show Steps p.tables e below (s₁.setTop (mkF m 79 #[.val (.int (1 : Int32)), .val (.int p2), .val (.int p3), .val (.int p4), .val (.int p5), .val (.long (2147483639 : Int64)), .second, .val (.int (0 : Int32)), .val (.long (p2.toInt64)), .second] [(.int (1 : Int32))])) _
        refine XS.iconst X0.here hx rfl (hb hby exp_79) ?_
        show Steps p.tables e below (s₁.setTop (mkF m 80 #[.val (.int (1 : Int32)), .val (.int p2), .val (.int p3), .val (.int p4), .val (.int p5), .val (.long (2147483639 : Int64)), .second, .val (.int (0 : Int32)), .val (.long (p2.toInt64)), .second] [(.int (2 : Int32)), (.int (1 : Int32))])) _
        refine XS.icmpYes X0.here hx rfl (pc0 := 80) (pc' := 100) rfl (hb hby exp_80) rfl (tlt (by decide : (1 : Int32) < (2 : Int32))).1 (by decide) (by decide) ?_
        show Steps p.tables e below (s₁.setTop (mkF m 100 #[.val (.int (1 : Int32)), .val (.int p2), .val (.int p3), .val (.int p4), .val (.int p5), .val (.long (2147483639 : Int64)), .second, .val (.int (0 : Int32)), .val (.long (p2.toInt64)), .second] [])) _
        refine XS.iloadN X0.here hx rfl (hb hby exp_100) rfl ?_
        show Steps p.tables e below (s₁.setTop (mkF m 101 #[.val (.int (1 : Int32)), .val (.int p2), .val (.int p3), .val (.int p4), .val (.int p5), .val (.long (2147483639 : Int64)), .second, .val (.int (0 : Int32)), .val (.long (p2.toInt64)), .second] [(.int (1 : Int32))])) _
        refine XS.iconst X0.here hx rfl (hb hby exp_101) ?_
        show Steps p.tables e below (s₁.setTop (mkF m 102 #[.val (.int (1 : Int32)), .val (.int p2), .val (.int p3), .val (.int p4), .val (.int p5), .val (.long (2147483639 : Int64)), .second, .val (.int (0 : Int32)), .val (.long (p2.toInt64)), .second] [(.int (3 : Int32)), (.int (1 : Int32))])) _
        refine XS.icmpYes X0.here hx rfl (pc0 := 102) (pc' := 122) rfl (hb hby exp_102) rfl (tlt (by decide : (1 : Int32) < (3 : Int32))).1 (by decide) (by decide) ?_
        show Steps p.tables e below (s₁.setTop (mkF m 122 #[.val (.int (1 : Int32)), .val (.int p2), .val (.int p3), .val (.int p4), .val (.int p5), .val (.long (2147483639 : Int64)), .second, .val (.int (0 : Int32)), .val (.long (p2.toInt64)), .second] [])) _
        refine XS.iloadN X0.here hx rfl (hb hby exp_122) rfl ?_
        show Steps p.tables e below (s₁.setTop (mkF m 123 #[.val (.int (1 : Int32)), .val (.int p2), .val (.int p3), .val (.int p4), .val (.int p5), .val (.long (2147483639 : Int64)), .second, .val (.int (0 : Int32)), .val (.long (p2.toInt64)), .second] [(.int (1 : Int32))])) _
        refine XS.iconst X0.here hx rfl (hb hby exp_123) ?_
        show Steps p.tables e below (s₁.setTop (mkF m 124 #[.val (.int (1 : Int32)), .val (.int p2), .val (.int p3), .val (.int p4), .val (.int p5), .val (.long (2147483639 : Int64)), .second, .val (.int (0 : Int32)), .val (.long (p2.toInt64)), .second] [(.int (4 : Int32)), (.int (1 : Int32))])) _
        refine XS.icmpYes X0.here hx rfl (pc0 := 124) (pc' := 145) rfl (hb hby exp_124) rfl (tlt (by decide : (1 : Int32) < (4 : Int32))).1 (by decide) (by decide) ?_
        show Steps p.tables e below (s₁.setTop (mkF m 145 #[.val (.int (1 : Int32)), .val (.int p2), .val (.int p3), .val (.int p4), .val (.int p5), .val (.long (2147483639 : Int64)), .second, .val (.int (0 : Int32)), .val (.long (p2.toInt64)), .second] [])) _
        refine XS.iconst X0.here hx rfl (hb hby exp_145) ?_
        exact k)
      obtain ⟨fs, hr, hrun, hended, hW, hsame⟩ := X0.leave (v := some (.int (1 : Int32))) (fun h => by rw [Bd.returns] at h; cases h)
      refine ⟨_, _, go7 _ ?_, hrun, hended, _, _, rfl, ?_, ⟨_, rfl⟩, hW, hsame.mono (by decide) (by decide)⟩
      · exact retN X0 hx (t := .boolean) Bd.returns (by simp) (hb hby exp_146) hr
      · show QV (.int (own_exp1 p2 p3 p4 p5)) h0 n0 _ s₁.heap _
        rw [e0]
        exact ⟨congrArg some (congrArg Value.int (Eq.symm (show (own_exp1 p2 p3 p4 p5) = (1 : Int32) from by unfold own_exp1; rw [if_neg hc2, if_neg hc5]))), N0, rfl⟩
def own_fits2 (x0 : Int32) (x1 : Int32) : Int32 := if (2147483639 : Int64) < (own_cap (own_cap (1 : Int64) x0) x1) then (0 : Int32) else (1 : Int32)
set_option maxRecDepth 65536 in
set_option maxHeartbeats 40000000 in
theorem rm_fits2 (l : Launch) (Z : State) (a0 : Array Value) (hw : ∀ d ∈ tables_1, d.before a0 Z = true) (ws : List Jvm.Cond) (a1 : Addr) (kA : ClassId) (x0 : Int32) (x1 : Int32) (h0 : Heap) (n0 : Nat) (Z0 : n0 ≤ h0.size) (V1 : Arv Z h0 a1 kA .int (2 : Int32) [(.int x0), (.int x1)] (.int (0 : Int32))) :
    MetFree l (⟨"com/example/inlet/inlet/compiler/ArrayValue", "fits", "([I)Z"⟩ : MethodName) (head1 (Jvm.Cond.code (⟨"com/example/inlet/inlet/compiler/ArrayValue", "fits", "([I)Z"⟩ : MethodName) prog_34_method_3_code 7 (some .boolean) :: ws) ({ frames := 1, cells := 0, slots := 0, locals := 15 } : Room)) (fun a U => a = #[(.ref a1)] ∧ Z.Warmed39 U.vm ∧ U.heap = h0) (fun _ _ _ _ _ => True) (fun _ U o U' => ∃ v L, o = .returned v ∧ QV (.int (own_fits2 x0 x1)) h0 n0 v U'.heap L ∧ FrameEnd U o U' L ({ frames := 1, cells := 0, slots := 0, locals := 15 } : Room).cells ({ frames := 1, cells := 0, slots := 0, locals := 15 } : Room).slots) := by
  refine MetFree.of_bodySF (plainFor_of_name pn_fits) hisR ?_
  intro p e s m args below meth c s₁ Bd hml0 hP hK
  obtain ⟨rfl, hZ, hh⟩ := hP
  have hx := Bd.exec
  have hby := Bd.bytes
  have hml : c.maxLocals = 7 := hml0
  have hown : s.vm.findClass "com/example/inlet/inlet/compiler/ArrayValue" = some m.cls := findClass_of_methodNamed Bd.named
  have hnm := (name_of_methodNamed Bd.named Bd.method).1
  have X0 : Stand p l e ({ frames := 1, cells := 0, slots := 0, locals := 15 } : Room) s m #[(.ref a1)] below meth c s₁ [] 0 0 := Stand.of_body Bd
  have e0 : s₁.heap = h0 := by rw [← hh, Bd.state]; rfl
  have N0 := Fr.nil n0
  have go0 : ∀ t, Steps p.tables e below (s₁.setTop (mkF m 0 #[.val (.ref a1), .unset, .unset, .unset, .unset, .unset, .unset] [])) t → Steps p.tables e below (s₁.setTop (entryFrame m #[(.ref a1)] 7)) t := fun t k => castTop (ef_fits m a1) k
  have go2 : ∀ t, Steps p.tables e below (s₁.setTop (mkF m 5 #[.val (.ref a1), .val (.long (1 : Int64)), .second, .val (.ref a1), .unset, .unset, .unset] [(.ref a1)])) t → Steps p.tables e below (s₁.setTop (entryFrame m #[(.ref a1)] 7)) t := fun t k => go0 t (by
    show Steps p.tables e below (s₁.setTop (mkF m 0 #[.val (.ref a1), .unset, .unset, .unset, .unset, .unset, .unset] [])) _
    refine XS.lconst X0.here hx rfl (hb hby fits_0) ?_
    show Steps p.tables e below (s₁.setTop (mkF m 1 #[.val (.ref a1), .unset, .unset, .unset, .unset, .unset, .unset] [(.long (1 : Int64))])) _
    refine XS.lstoreN X0.here hx rfl (hb hby fits_1) rfl (l' := #[.val (.ref a1), .val (.long (1 : Int64)), .second, .unset, .unset, .unset, .unset]) rfl ?_
    show Steps p.tables e below (s₁.setTop (mkF m 2 #[.val (.ref a1), .val (.long (1 : Int64)), .second, .unset, .unset, .unset, .unset] [])) _
    refine XS.aloadN X0.here hx rfl (hb hby fits_2) rfl rfl ?_
    show Steps p.tables e below (s₁.setTop (mkF m 3 #[.val (.ref a1), .val (.long (1 : Int64)), .second, .unset, .unset, .unset, .unset] [(.ref a1)])) _
    refine XS.astoreN X0.here hx rfl (hb hby fits_3) rfl rfl (l' := #[.val (.ref a1), .val (.long (1 : Int64)), .second, .val (.ref a1), .unset, .unset, .unset]) rfl ?_
    show Steps p.tables e below (s₁.setTop (mkF m 4 #[.val (.ref a1), .val (.long (1 : Int64)), .second, .val (.ref a1), .unset, .unset, .unset] [])) _
    refine XS.aloadN X0.here hx rfl (hb hby fits_4) rfl rfl ?_
    exact k)
  obtain ⟨cl1, Ar1, q1, S1, M1, H1, G1⟩ := id V1
  have go3 : ∀ t, Steps p.tables e below (s₁.setTop (mkF m 6 #[.val (.ref a1), .val (.long (1 : Int64)), .second, .val (.ref a1), .unset, .unset, .unset] [(.int (2 : Int32))])) t → Steps p.tables e below (s₁.setTop (entryFrame m #[(.ref a1)] 7)) t := fun t k => go2 t (by
    show Steps p.tables e below (s₁.setTop (mkF m 5 #[.val (.ref a1), .val (.long (1 : Int64)), .second, .val (.ref a1), .unset, .unset, .unset] [(.ref a1)])) _
    refine X0.arraylength hx (by rw [e0]; exact Ar1.1) (State.isArrayOf_alike hZ.alike Ar1.2.1) (g := (mkF m 5 #[.val (.ref a1), .val (.long (1 : Int64)), .second, .val (.ref a1), .unset, .unset, .unset] [(.ref a1)])) rfl rfl (hb hby fits_5) _ ?_
    rw [len_of S1 M1]
    exact k)
  have go5 : ∀ t, Steps p.tables e below (s₁.setTop (mkF m 21 #[.val (.ref a1), .val (.long (1 : Int64)), .second, .val (.ref a1), .val (.int (2 : Int32)), .val (.int (0 : Int32)), .unset] [(.int (0 : Int32)), (.ref a1)])) t → Steps p.tables e below (s₁.setTop (entryFrame m #[(.ref a1)] 7)) t := fun t k => go3 t (by
    show Steps p.tables e below (s₁.setTop (mkF m 6 #[.val (.ref a1), .val (.long (1 : Int64)), .second, .val (.ref a1), .unset, .unset, .unset] [(.int (2 : Int32))])) _
    refine XS.istore X0.here hx rfl (hb hby fits_6) rfl (l' := #[.val (.ref a1), .val (.long (1 : Int64)), .second, .val (.ref a1), .val (.int (2 : Int32)), .unset, .unset]) rfl ?_
    show Steps p.tables e below (s₁.setTop (mkF m 8 #[.val (.ref a1), .val (.long (1 : Int64)), .second, .val (.ref a1), .val (.int (2 : Int32)), .unset, .unset] [])) _
    refine XS.iconst X0.here hx rfl (hb hby fits_8) ?_
    show Steps p.tables e below (s₁.setTop (mkF m 9 #[.val (.ref a1), .val (.long (1 : Int64)), .second, .val (.ref a1), .val (.int (2 : Int32)), .unset, .unset] [(.int (0 : Int32))])) _
    refine XS.istore X0.here hx rfl (hb hby fits_9) rfl (l' := #[.val (.ref a1), .val (.long (1 : Int64)), .second, .val (.ref a1), .val (.int (2 : Int32)), .val (.int (0 : Int32)), .unset]) rfl ?_
    show Steps p.tables e below (s₁.setTop (mkF m 11 #[.val (.ref a1), .val (.long (1 : Int64)), .second, .val (.ref a1), .val (.int (2 : Int32)), .val (.int (0 : Int32)), .unset] [])) _
    refine XS.iload X0.here hx rfl (hb hby fits_11) rfl ?_
    show Steps p.tables e below (s₁.setTop (mkF m 13 #[.val (.ref a1), .val (.long (1 : Int64)), .second, .val (.ref a1), .val (.int (2 : Int32)), .val (.int (0 : Int32)), .unset] [(.int (0 : Int32))])) _
    refine XS.iload X0.here hx rfl (hb hby fits_13) rfl ?_
    show Steps p.tables e below (s₁.setTop (mkF m 15 #[.val (.ref a1), .val (.long (1 : Int64)), .second, .val (.ref a1), .val (.int (2 : Int32)), .val (.int (0 : Int32)), .unset] [(.int (2 : Int32)), (.int (0 : Int32))])) _
    refine XS.icmpNo X0.here hx rfl (hb hby fits_15) rfl (tlt (by decide : (0 : Int32) < (2 : Int32))).2.1 ?_
    show Steps p.tables e below (s₁.setTop (mkF m 18 #[.val (.ref a1), .val (.long (1 : Int64)), .second, .val (.ref a1), .val (.int (2 : Int32)), .val (.int (0 : Int32)), .unset] [])) _
    refine XS.aloadN X0.here hx rfl (hb hby fits_18) rfl rfl ?_
    show Steps p.tables e below (s₁.setTop (mkF m 19 #[.val (.ref a1), .val (.long (1 : Int64)), .second, .val (.ref a1), .val (.int (2 : Int32)), .val (.int (0 : Int32)), .unset] [(.ref a1)])) _
    refine XS.iload X0.here hx rfl (hb hby fits_19) rfl ?_
    exact k)
  obtain ⟨cl4, Ar4, q4, S4, M4, H4, G4⟩ := id V1
  have go6 : ∀ t, Steps p.tables e below (s₁.setTop (mkF m 22 #[.val (.ref a1), .val (.long (1 : Int64)), .second, .val (.ref a1), .val (.int (2 : Int32)), .val (.int (0 : Int32)), .unset] [(.int x0)])) t → Steps p.tables e below (s₁.setTop (entryFrame m #[(.ref a1)] 7)) t := fun t k => go5 t (by
    show Steps p.tables e below (s₁.setTop (mkF m 21 #[.val (.ref a1), .val (.long (1 : Int64)), .second, .val (.ref a1), .val (.int (2 : Int32)), .val (.int (0 : Int32)), .unset] [(.int (0 : Int32)), (.ref a1)])) _
    refine X0.iaload hx (j := (0 : Int32)) (v := (.int x0)) (by rw [e0]; exact Ar4.1) (State.isArrayOf_alike hZ.alike Ar4.2.1) Ar4.2.2 (inb_of S4 ⟨by decide, by decide⟩) (H4.at (inb_of S4 ⟨by decide, by decide⟩) rfl) (g := (mkF m 21 #[.val (.ref a1), .val (.long (1 : Int64)), .second, .val (.ref a1), .val (.int (2 : Int32)), .val (.int (0 : Int32)), .unset] [(.int (0 : Int32)), (.ref a1)])) rfl rfl (hb hby fits_21) _ ?_
    exact k)
  have go7 : ∀ t, Steps p.tables e below (s₁.setTop (mkF m 32 #[.val (.ref a1), .val (.long (1 : Int64)), .second, .val (.ref a1), .val (.int (2 : Int32)), .val (.int (0 : Int32)), .val (.int x0)] [(.long (2147483640 : Int64)), (.long ((1 : Int64) * (x0.toInt64)))])) t → Steps p.tables e below (s₁.setTop (entryFrame m #[(.ref a1)] 7)) t := fun t k => go6 t (by
    show Steps p.tables e below (s₁.setTop (mkF m 22 #[.val (.ref a1), .val (.long (1 : Int64)), .second, .val (.ref a1), .val (.int (2 : Int32)), .val (.int (0 : Int32)), .unset] [(.int x0)])) _
    refine XS.istore X0.here hx rfl (hb hby fits_22) rfl (l' := #[.val (.ref a1), .val (.long (1 : Int64)), .second, .val (.ref a1), .val (.int (2 : Int32)), .val (.int (0 : Int32)), .val (.int x0)]) rfl ?_
    show Steps p.tables e below (s₁.setTop (mkF m 24 #[.val (.ref a1), .val (.long (1 : Int64)), .second, .val (.ref a1), .val (.int (2 : Int32)), .val (.int (0 : Int32)), .val (.int x0)] [])) _
    refine XS.lloadN X0.here hx rfl (hb hby fits_24) rfl ?_
    show Steps p.tables e below (s₁.setTop (mkF m 25 #[.val (.ref a1), .val (.long (1 : Int64)), .second, .val (.ref a1), .val (.int (2 : Int32)), .val (.int (0 : Int32)), .val (.int x0)] [(.long (1 : Int64))])) _
    refine XS.iload X0.here hx rfl (hb hby fits_25) rfl ?_
    show Steps p.tables e below (s₁.setTop (mkF m 27 #[.val (.ref a1), .val (.long (1 : Int64)), .second, .val (.ref a1), .val (.int (2 : Int32)), .val (.int (0 : Int32)), .val (.int x0)] [(.int x0), (.long (1 : Int64))])) _
    refine XS.i2l X0.here hx rfl (hb hby fits_27) rfl ?_
    show Steps p.tables e below (s₁.setTop (mkF m 28 #[.val (.ref a1), .val (.long (1 : Int64)), .second, .val (.ref a1), .val (.int (2 : Int32)), .val (.int (0 : Int32)), .val (.int x0)] [(.long (x0.toInt64)), (.long (1 : Int64))])) _
    refine XS.lmul X0.here hx rfl (hb hby fits_28) rfl ?_
    show Steps p.tables e below (s₁.setTop (mkF m 29 #[.val (.ref a1), .val (.long (1 : Int64)), .second, .val (.ref a1), .val (.int (2 : Int32)), .val (.int (0 : Int32)), .val (.int x0)] [(.long ((1 : Int64) * (x0.toInt64)))])) _
    refine X0.ldc2J hx hown (mvT hZ (hw _ (List.mem_of_getElem? (i := 12) rfl))) rfl (hb hby fits_29) ?_
    exact k)
  obtain ⟨_, _, ⟨T8, L8, k8, n8⟩, -, X8, ⟨Lc8, hQ8, l8, y8, z8⟩, st8⟩ := Jvm.LawKit.callS X0 hx (y := (⟨"java/lang/Math", "min", "(JJ)J"⟩ : MethodName)) hown (mvT hZ (hw _ (List.mem_of_getElem? (i := 13) rfl))) (mvT hZ (hw _ (List.mem_of_getElem? (i := 14) rfl))) (mvT hZ (hw _ (List.mem_of_getElem? (i := 15) rfl))) (mvT hZ (hw _ (List.mem_of_getElem? (i := 16) rfl))) (by decide) (backOf (W := 0) (rm_mj l Z a0 hw [] ((1 : Int64) * (x0.toInt64)) (2147483640 : Int64) h0 n0 Z0 ) hZ (hw _ (List.mem_of_getElem? (i := 16) rfl)) (hw _ (List.mem_of_getElem? (i := 15) rfl)) (by decide) (by decide)) (g := (mkF m 32 #[.val (.ref a1), .val (.long (1 : Int64)), .second, .val (.ref a1), .val (.int (2 : Int32)), .val (.int (0 : Int32)), .val (.int x0)] [(.long (2147483640 : Int64)), (.long ((1 : Int64) * (x0.toInt64)))])) rfl (by rw [hml]; rfl) (argsL := [(.long ((1 : Int64) * (x0.toInt64))), (.long (2147483640 : Int64))]) (rest := []) (lenOf pd_0 rfl) rfl (by show 2 * 0 + _ ≤ _; exact Nat.le_of_eq rfl) (hb hby fits_32) (fun _ _ => ⟨rfl, e0, (by decide : 0 + 0 ≤ _), (by decide : 0 + 0 ≤ _)⟩)
  dsimp only [Pt.U, Pt.locs, Pt.cells, Pt.slots] at X8 l8 y8 z8 st8 hQ8
  subst l8 y8 z8
  obtain ⟨rfl, N8q, e8⟩ := hQ8
  have N8 := Fr.app N0 N8q
  have go9 : ∀ t, Steps p.tables e below (T8.setTop (mkF m 35 #[.val (.ref a1), .val (.long (1 : Int64)), .second, .val (.ref a1), .val (.int (2 : Int32)), .val (.int (0 : Int32)), .val (.int x0)] [(.long (own_cap (1 : Int64) x0))])) t → Steps p.tables e below (s₁.setTop (entryFrame m #[(.ref a1)] 7)) t := fun t k => go7 t (st8 t k)
  have go11 : ∀ t, Steps p.tables e below (T8.setTop (mkF m 21 #[.val (.ref a1), .val (.long (own_cap (1 : Int64) x0)), .second, .val (.ref a1), .val (.int (2 : Int32)), .val (.int (1 : Int32)), .val (.int x0)] [(.int (1 : Int32)), (.ref a1)])) t → Steps p.tables e below (s₁.setTop (entryFrame m #[(.ref a1)] 7)) t := fun t k => go9 t (by
    show Steps p.tables e below (T8.setTop (mkF m 35 #[.val (.ref a1), .val (.long (1 : Int64)), .second, .val (.ref a1), .val (.int (2 : Int32)), .val (.int (0 : Int32)), .val (.int x0)] [(.long (own_cap (1 : Int64) x0))])) _
    refine XS.lstoreN X8.here hx rfl (hb hby fits_35) rfl (l' := #[.val (.ref a1), .val (.long (own_cap (1 : Int64) x0)), .second, .val (.ref a1), .val (.int (2 : Int32)), .val (.int (0 : Int32)), .val (.int x0)]) rfl ?_
    show Steps p.tables e below (T8.setTop (mkF m 36 #[.val (.ref a1), .val (.long (own_cap (1 : Int64) x0)), .second, .val (.ref a1), .val (.int (2 : Int32)), .val (.int (0 : Int32)), .val (.int x0)] [])) _
    refine XS.iinc X8.here hx rfl (hb hby fits_36) rfl (l' := #[.val (.ref a1), .val (.long (own_cap (1 : Int64) x0)), .second, .val (.ref a1), .val (.int (2 : Int32)), .val (.int (1 : Int32)), .val (.int x0)]) rfl ?_
    show Steps p.tables e below (T8.setTop (mkF m 39 #[.val (.ref a1), .val (.long (own_cap (1 : Int64) x0)), .second, .val (.ref a1), .val (.int (2 : Int32)), .val (.int (1 : Int32)), .val (.int x0)] [])) _
    refine XS.goto X8.here hx rfl (pc0 := 39) (pc' := 11) rfl (hb hby fits_39) (by decide) (by decide) ?_
    show Steps p.tables e below (T8.setTop (mkF m 11 #[.val (.ref a1), .val (.long (own_cap (1 : Int64) x0)), .second, .val (.ref a1), .val (.int (2 : Int32)), .val (.int (1 : Int32)), .val (.int x0)] [])) _
    refine XS.iload X8.here hx rfl (hb hby fits_11) rfl ?_
    show Steps p.tables e below (T8.setTop (mkF m 13 #[.val (.ref a1), .val (.long (own_cap (1 : Int64) x0)), .second, .val (.ref a1), .val (.int (2 : Int32)), .val (.int (1 : Int32)), .val (.int x0)] [(.int (1 : Int32))])) _
    refine XS.iload X8.here hx rfl (hb hby fits_13) rfl ?_
    show Steps p.tables e below (T8.setTop (mkF m 15 #[.val (.ref a1), .val (.long (own_cap (1 : Int64) x0)), .second, .val (.ref a1), .val (.int (2 : Int32)), .val (.int (1 : Int32)), .val (.int x0)] [(.int (2 : Int32)), (.int (1 : Int32))])) _
    refine XS.icmpNo X8.here hx rfl (hb hby fits_15) rfl (tlt (by decide : (1 : Int32) < (2 : Int32))).2.1 ?_
    show Steps p.tables e below (T8.setTop (mkF m 18 #[.val (.ref a1), .val (.long (own_cap (1 : Int64) x0)), .second, .val (.ref a1), .val (.int (2 : Int32)), .val (.int (1 : Int32)), .val (.int x0)] [])) _
    refine XS.aloadN X8.here hx rfl (hb hby fits_18) rfl rfl ?_
    show Steps p.tables e below (T8.setTop (mkF m 19 #[.val (.ref a1), .val (.long (own_cap (1 : Int64) x0)), .second, .val (.ref a1), .val (.int (2 : Int32)), .val (.int (1 : Int32)), .val (.int x0)] [(.ref a1)])) _
    refine XS.iload X8.here hx rfl (hb hby fits_19) rfl ?_
    exact k)
  obtain ⟨cl10, Ar10, q10, S10, M10, H10, G10⟩ := id V1
  have go12 : ∀ t, Steps p.tables e below (T8.setTop (mkF m 22 #[.val (.ref a1), .val (.long (own_cap (1 : Int64) x0)), .second, .val (.ref a1), .val (.int (2 : Int32)), .val (.int (1 : Int32)), .val (.int x0)] [(.int x1)])) t → Steps p.tables e below (s₁.setTop (entryFrame m #[(.ref a1)] 7)) t := fun t k => go11 t (by
    show Steps p.tables e below (T8.setTop (mkF m 21 #[.val (.ref a1), .val (.long (own_cap (1 : Int64) x0)), .second, .val (.ref a1), .val (.int (2 : Int32)), .val (.int (1 : Int32)), .val (.int x0)] [(.int (1 : Int32)), (.ref a1)])) _
    refine X8.iaload hx (j := (1 : Int32)) (v := (.int x1)) (by rw [e8]; exact Ar10.1) (State.isArrayOf_alike hZ.alike Ar10.2.1) Ar10.2.2 (inb_of S10 ⟨by decide, by decide⟩) (H10.at (inb_of S10 ⟨by decide, by decide⟩) rfl) (g := (mkF m 21 #[.val (.ref a1), .val (.long (own_cap (1 : Int64) x0)), .second, .val (.ref a1), .val (.int (2 : Int32)), .val (.int (1 : Int32)), .val (.int x0)] [(.int (1 : Int32)), (.ref a1)])) rfl rfl (hb hby fits_21) _ ?_
    exact k)
  have go13 : ∀ t, Steps p.tables e below (T8.setTop (mkF m 32 #[.val (.ref a1), .val (.long (own_cap (1 : Int64) x0)), .second, .val (.ref a1), .val (.int (2 : Int32)), .val (.int (1 : Int32)), .val (.int x1)] [(.long (2147483640 : Int64)), (.long ((own_cap (1 : Int64) x0) * (x1.toInt64)))])) t → Steps p.tables e below (s₁.setTop (entryFrame m #[(.ref a1)] 7)) t := fun t k => go12 t (by
    show Steps p.tables e below (T8.setTop (mkF m 22 #[.val (.ref a1), .val (.long (own_cap (1 : Int64) x0)), .second, .val (.ref a1), .val (.int (2 : Int32)), .val (.int (1 : Int32)), .val (.int x0)] [(.int x1)])) _
    refine XS.istore X8.here hx rfl (hb hby fits_22) rfl (l' := #[.val (.ref a1), .val (.long (own_cap (1 : Int64) x0)), .second, .val (.ref a1), .val (.int (2 : Int32)), .val (.int (1 : Int32)), .val (.int x1)]) rfl ?_
    show Steps p.tables e below (T8.setTop (mkF m 24 #[.val (.ref a1), .val (.long (own_cap (1 : Int64) x0)), .second, .val (.ref a1), .val (.int (2 : Int32)), .val (.int (1 : Int32)), .val (.int x1)] [])) _
    refine XS.lloadN X8.here hx rfl (hb hby fits_24) rfl ?_
    show Steps p.tables e below (T8.setTop (mkF m 25 #[.val (.ref a1), .val (.long (own_cap (1 : Int64) x0)), .second, .val (.ref a1), .val (.int (2 : Int32)), .val (.int (1 : Int32)), .val (.int x1)] [(.long (own_cap (1 : Int64) x0))])) _
    refine XS.iload X8.here hx rfl (hb hby fits_25) rfl ?_
    show Steps p.tables e below (T8.setTop (mkF m 27 #[.val (.ref a1), .val (.long (own_cap (1 : Int64) x0)), .second, .val (.ref a1), .val (.int (2 : Int32)), .val (.int (1 : Int32)), .val (.int x1)] [(.int x1), (.long (own_cap (1 : Int64) x0))])) _
    refine XS.i2l X8.here hx rfl (hb hby fits_27) rfl ?_
    show Steps p.tables e below (T8.setTop (mkF m 28 #[.val (.ref a1), .val (.long (own_cap (1 : Int64) x0)), .second, .val (.ref a1), .val (.int (2 : Int32)), .val (.int (1 : Int32)), .val (.int x1)] [(.long (x1.toInt64)), (.long (own_cap (1 : Int64) x0))])) _
    refine XS.lmul X8.here hx rfl (hb hby fits_28) rfl ?_
    show Steps p.tables e below (T8.setTop (mkF m 29 #[.val (.ref a1), .val (.long (own_cap (1 : Int64) x0)), .second, .val (.ref a1), .val (.int (2 : Int32)), .val (.int (1 : Int32)), .val (.int x1)] [(.long ((own_cap (1 : Int64) x0) * (x1.toInt64)))])) _
    refine X8.ldc2J hx hown (mvT hZ (hw _ (List.mem_of_getElem? (i := 12) rfl))) rfl (hb hby fits_29) ?_
    exact k)
  obtain ⟨_, _, ⟨T14, L14, k14, n14⟩, -, X14, ⟨Lc14, hQ14, l14, y14, z14⟩, st14⟩ := Jvm.LawKit.callS X8 hx (y := (⟨"java/lang/Math", "min", "(JJ)J"⟩ : MethodName)) hown (mvT hZ (hw _ (List.mem_of_getElem? (i := 13) rfl))) (mvT hZ (hw _ (List.mem_of_getElem? (i := 14) rfl))) (mvT hZ (hw _ (List.mem_of_getElem? (i := 15) rfl))) (mvT hZ (hw _ (List.mem_of_getElem? (i := 16) rfl))) (by decide) (backOf (W := 0) (rm_mj l Z a0 hw [] ((own_cap (1 : Int64) x0) * (x1.toInt64)) (2147483640 : Int64) h0 n0 Z0 ) hZ (hw _ (List.mem_of_getElem? (i := 16) rfl)) (hw _ (List.mem_of_getElem? (i := 15) rfl)) (by decide) (by decide)) (g := (mkF m 32 #[.val (.ref a1), .val (.long (own_cap (1 : Int64) x0)), .second, .val (.ref a1), .val (.int (2 : Int32)), .val (.int (1 : Int32)), .val (.int x1)] [(.long (2147483640 : Int64)), (.long ((own_cap (1 : Int64) x0) * (x1.toInt64)))])) rfl (by rw [hml]; rfl) (argsL := [(.long ((own_cap (1 : Int64) x0) * (x1.toInt64))), (.long (2147483640 : Int64))]) (rest := []) (lenOf pd_0 rfl) rfl (by show 2 * 0 + _ ≤ _; exact Nat.le_of_eq rfl) (hb hby fits_32) (fun _ _ => ⟨rfl, e8, (by decide : 0 + 0 ≤ _), (by decide : 0 + 0 ≤ _)⟩)
  dsimp only [Pt.U, Pt.locs, Pt.cells, Pt.slots] at X14 l14 y14 z14 st14 hQ14
  subst l14 y14 z14
  obtain ⟨rfl, N14q, e14⟩ := hQ14
  have N14 := Fr.app N8 N14q
  have go15 : ∀ t, Steps p.tables e below (T14.setTop (mkF m 35 #[.val (.ref a1), .val (.long (own_cap (1 : Int64) x0)), .second, .val (.ref a1), .val (.int (2 : Int32)), .val (.int (1 : Int32)), .val (.int x1)] [(.long (own_cap (own_cap (1 : Int64) x0) x1))])) t → Steps p.tables e below (s₁.setTop (entryFrame m #[(.ref a1)] 7)) t := fun t k => go13 t (st14 t k)
  have go16 : ∀ t, Steps p.tables e below (T14.setTop (mkF m 47 #[.val (.ref a1), .val (.long (own_cap (own_cap (1 : Int64) x0) x1)), .second, .val (.ref a1), .val (.int (2 : Int32)), .val (.int (2 : Int32)), .val (.int x1)] [(.int (lcmpW (own_cap (own_cap (1 : Int64) x0) x1) (2147483639 : Int64)))])) t → Steps p.tables e below (s₁.setTop (entryFrame m #[(.ref a1)] 7)) t := fun t k => go15 t (by
    show Steps p.tables e below (T14.setTop (mkF m 35 #[.val (.ref a1), .val (.long (own_cap (1 : Int64) x0)), .second, .val (.ref a1), .val (.int (2 : Int32)), .val (.int (1 : Int32)), .val (.int x1)] [(.long (own_cap (own_cap (1 : Int64) x0) x1))])) _
    refine XS.lstoreN X14.here hx rfl (hb hby fits_35) rfl (l' := #[.val (.ref a1), .val (.long (own_cap (own_cap (1 : Int64) x0) x1)), .second, .val (.ref a1), .val (.int (2 : Int32)), .val (.int (1 : Int32)), .val (.int x1)]) rfl ?_
    show Steps p.tables e below (T14.setTop (mkF m 36 #[.val (.ref a1), .val (.long (own_cap (own_cap (1 : Int64) x0) x1)), .second, .val (.ref a1), .val (.int (2 : Int32)), .val (.int (1 : Int32)), .val (.int x1)] [])) _
    refine XS.iinc X14.here hx rfl (hb hby fits_36) rfl (l' := #[.val (.ref a1), .val (.long (own_cap (own_cap (1 : Int64) x0) x1)), .second, .val (.ref a1), .val (.int (2 : Int32)), .val (.int (2 : Int32)), .val (.int x1)]) rfl ?_
    show Steps p.tables e below (T14.setTop (mkF m 39 #[.val (.ref a1), .val (.long (own_cap (own_cap (1 : Int64) x0) x1)), .second, .val (.ref a1), .val (.int (2 : Int32)), .val (.int (2 : Int32)), .val (.int x1)] [])) _
    refine XS.goto X14.here hx rfl (pc0 := 39) (pc' := 11) rfl (hb hby fits_39) (by decide) (by decide) ?_
    show Steps p.tables e below (T14.setTop (mkF m 11 #[.val (.ref a1), .val (.long (own_cap (own_cap (1 : Int64) x0) x1)), .second, .val (.ref a1), .val (.int (2 : Int32)), .val (.int (2 : Int32)), .val (.int x1)] [])) _
    refine XS.iload X14.here hx rfl (hb hby fits_11) rfl ?_
    show Steps p.tables e below (T14.setTop (mkF m 13 #[.val (.ref a1), .val (.long (own_cap (own_cap (1 : Int64) x0) x1)), .second, .val (.ref a1), .val (.int (2 : Int32)), .val (.int (2 : Int32)), .val (.int x1)] [(.int (2 : Int32))])) _
    refine XS.iload X14.here hx rfl (hb hby fits_13) rfl ?_
    show Steps p.tables e below (T14.setTop (mkF m 15 #[.val (.ref a1), .val (.long (own_cap (own_cap (1 : Int64) x0) x1)), .second, .val (.ref a1), .val (.int (2 : Int32)), .val (.int (2 : Int32)), .val (.int x1)] [(.int (2 : Int32)), (.int (2 : Int32))])) _
    refine XS.icmpYes X14.here hx rfl (pc0 := 15) (pc' := 42) rfl (hb hby fits_15) rfl (flt (by decide : ¬ ((2 : Int32) < (2 : Int32)))).2.1 (by decide) (by decide) ?_
    show Steps p.tables e below (T14.setTop (mkF m 42 #[.val (.ref a1), .val (.long (own_cap (own_cap (1 : Int64) x0) x1)), .second, .val (.ref a1), .val (.int (2 : Int32)), .val (.int (2 : Int32)), .val (.int x1)] [])) _
    refine XS.lloadN X14.here hx rfl (hb hby fits_42) rfl ?_
    show Steps p.tables e below (T14.setTop (mkF m 43 #[.val (.ref a1), .val (.long (own_cap (own_cap (1 : Int64) x0) x1)), .second, .val (.ref a1), .val (.int (2 : Int32)), .val (.int (2 : Int32)), .val (.int x1)] [(.long (own_cap (own_cap (1 : Int64) x0) x1))])) _
    refine X14.ldc2J hx hown (mvT hZ (hw _ (List.mem_of_getElem? (i := 6) rfl))) rfl (hb hby fits_43) ?_
    show Steps p.tables e below (T14.setTop (mkF m 46 #[.val (.ref a1), .val (.long (own_cap (own_cap (1 : Int64) x0) x1)), .second, .val (.ref a1), .val (.int (2 : Int32)), .val (.int (2 : Int32)), .val (.int x1)] [(.long (2147483639 : Int64)), (.long (own_cap (own_cap (1 : Int64) x0) x1))])) _
    refine XS.lcmp X14.here hx rfl (hb hby fits_46) rfl ?_
    exact k)
  by_cases hc17 : (2147483639 : Int64) < (own_cap (own_cap (1 : Int64) x0) x1)
  · have go18 : ∀ t, Steps p.tables e below (T14.setTop (mkF m 55 #[.val (.ref a1), .val (.long (own_cap (own_cap (1 : Int64) x0) x1)), .second, .val (.ref a1), .val (.int (2 : Int32)), .val (.int (2 : Int32)), .val (.int x1)] [(.int (0 : Int32))])) t → Steps p.tables e below (s₁.setTop (entryFrame m #[(.ref a1)] 7)) t := fun t k => go16 t (by
      show Steps p.tables e below (T14.setTop (mkF m 47 #[.val (.ref a1), .val (.long (own_cap (own_cap (1 : Int64) x0) x1)), .second, .val (.ref a1), .val (.int (2 : Int32)), .val (.int (2 : Int32)), .val (.int x1)] [(.int (lcmpW (own_cap (own_cap (1 : Int64) x0) x1) (2147483639 : Int64)))])) _
      refine XS.ifYes X14.here hx rfl (pc0 := 47) (pc' := 54) rfl (hb hby fits_47) rfl ((if0 _ _).trans (tlt ((lw_gt _ _).mpr hc17)).2.2.1) (by decide) (by decide) ?_
      show Steps p.tables e below (T14.setTop (mkF m 54 #[.val (.ref a1), .val (.long (own_cap (own_cap (1 : Int64) x0) x1)), .second, .val (.ref a1), .val (.int (2 : Int32)), .val (.int (2 : Int32)), .val (.int x1)] [])) _
      refine XS.iconst X14.here hx rfl (hb hby fits_54) ?_
      exact k)
    obtain ⟨fs, hr, hrun, hended, hW, hsame⟩ := X14.leave (v := some (.int (0 : Int32))) (fun h => by rw [Bd.returns] at h; cases h)
    refine ⟨_, _, go18 _ ?_, hrun, hended, _, _, rfl, ?_, ⟨_, rfl⟩, hW, hsame.mono (by decide) (by decide)⟩
    · exact retN X14 hx (t := .boolean) Bd.returns (by simp) (hb hby fits_55) hr
    · show QV (.int (own_fits2 x0 x1)) h0 n0 _ T14.heap _
      rw [e14]
      exact ⟨congrArg some (congrArg Value.int (Eq.symm (show (own_fits2 x0 x1) = (0 : Int32) from by unfold own_fits2; rw [if_pos hc17]))), N14, rfl⟩
  · have go19 : ∀ t, Steps p.tables e below (T14.setTop (mkF m 55 #[.val (.ref a1), .val (.long (own_cap (own_cap (1 : Int64) x0) x1)), .second, .val (.ref a1), .val (.int (2 : Int32)), .val (.int (2 : Int32)), .val (.int x1)] [(.int (1 : Int32))])) t → Steps p.tables e below (s₁.setTop (entryFrame m #[(.ref a1)] 7)) t := fun t k => go16 t (by
      show Steps p.tables e below (T14.setTop (mkF m 47 #[.val (.ref a1), .val (.long (own_cap (own_cap (1 : Int64) x0) x1)), .second, .val (.ref a1), .val (.int (2 : Int32)), .val (.int (2 : Int32)), .val (.int x1)] [(.int (lcmpW (own_cap (own_cap (1 : Int64) x0) x1) (2147483639 : Int64)))])) _
      refine XS.ifNo X14.here hx rfl (hb hby fits_47) rfl ((if0 _ _).trans (flt (mt (lw_gt _ _).mp hc17)).2.2.1) ?_
      show Steps p.tables e below (T14.setTop (mkF m 50 #[.val (.ref a1), .val (.long (own_cap (own_cap (1 : Int64) x0) x1)), .second, .val (.ref a1), .val (.int (2 : Int32)), .val (.int (2 : Int32)), .val (.int x1)] [])) _
      refine XS.iconst X14.here hx rfl (hb hby fits_50) ?_
      show Steps p.tables e below (T14.setTop (mkF m 51 #[.val (.ref a1), .val (.long (own_cap (own_cap (1 : Int64) x0) x1)), .second, .val (.ref a1), .val (.int (2 : Int32)), .val (.int (2 : Int32)), .val (.int x1)] [(.int (1 : Int32))])) _
      refine XS.goto X14.here hx rfl (pc0 := 51) (pc' := 55) rfl (hb hby fits_51) (by decide) (by decide) ?_
      exact k)
    obtain ⟨fs, hr, hrun, hended, hW, hsame⟩ := X14.leave (v := some (.int (1 : Int32))) (fun h => by rw [Bd.returns] at h; cases h)
    refine ⟨_, _, go19 _ ?_, hrun, hended, _, _, rfl, ?_, ⟨_, rfl⟩, hW, hsame.mono (by decide) (by decide)⟩
    · exact retN X14 hx (t := .boolean) Bd.returns (by simp) (hb hby fits_55) hr
    · show QV (.int (own_fits2 x0 x1)) h0 n0 _ T14.heap _
      rw [e14]
      exact ⟨congrArg some (congrArg Value.int (Eq.symm (show (own_fits2 x0 x1) = (1 : Int32) from by unfold own_fits2; rw [if_neg hc17]))), N14, rfl⟩
def own_exp2 (p2 : Int32) (p3 : Int32) (p4 : Int32) (p5 : Int32) : Int32 := if p2 = (0 : Int32) then (1 : Int32) else (if p3 = (0 : Int32) then (1 : Int32) else (if (2147483639 : Int64) < (p2.toInt64) then (0 : Int32) else (if (2147483639 : Int64) < ((p2.toInt64) * (p3.toInt64)) then (0 : Int32) else (1 : Int32))))
set_option maxRecDepth 65536 in
set_option maxHeartbeats 40000000 in
theorem rm_exp2 (l : Launch) (Z : State) (a0 : Array Value) (hw : ∀ d ∈ tables_1, d.before a0 Z = true) (ws : List Jvm.Cond) (p2 : Int32) (p3 : Int32) (p4 : Int32) (p5 : Int32) (h0 : Heap) (n0 : Nat) (Z0 : n0 ≤ h0.size)  :
    MetFree l (⟨"com/example/inlet/inlet/compiler/ArrayValueFitsPinLaw", "expected", "(IIIII)Z"⟩ : MethodName) (head1 (Jvm.Cond.code (⟨"com/example/inlet/inlet/compiler/ArrayValueFitsPinLaw", "expected", "(IIIII)Z"⟩ : MethodName) method_3_code 10 (some .boolean) :: ws) ({ frames := 0, cells := 0, slots := 0, locals := 0 } : Room)) (fun a U => a = #[(.int (2 : Int32)), (.int p2), (.int p3), (.int p4), (.int p5)] ∧ Z.Warmed39 U.vm ∧ U.heap = h0) (fun _ _ _ _ _ => True) (fun _ U o U' => ∃ v L, o = .returned v ∧ QV (.int (own_exp2 p2 p3 p4 p5)) h0 n0 v U'.heap L ∧ FrameEnd U o U' L ({ frames := 0, cells := 0, slots := 0, locals := 0 } : Room).cells ({ frames := 0, cells := 0, slots := 0, locals := 0 } : Room).slots) := by
  refine MetFree.of_bodySF (plainFor_of_name pn_exp) hisR ?_
  intro p e s m args below meth c s₁ Bd hml0 hP hK
  obtain ⟨rfl, hZ, hh⟩ := hP
  have hx := Bd.exec
  have hby := Bd.bytes
  have hml : c.maxLocals = 10 := hml0
  have hown : s.vm.findClass "com/example/inlet/inlet/compiler/ArrayValueFitsPinLaw" = some m.cls := findClass_of_methodNamed Bd.named
  have hnm := (name_of_methodNamed Bd.named Bd.method).1
  have X0 : Stand p l e ({ frames := 0, cells := 0, slots := 0, locals := 0 } : Room) s m #[(.int (2 : Int32)), (.int p2), (.int p3), (.int p4), (.int p5)] below meth c s₁ [] 0 0 := Stand.of_body Bd
  have e0 : s₁.heap = h0 := by rw [← hh, Bd.state]; rfl
  have N0 := Fr.nil n0
  have go0 : ∀ t, Steps p.tables e below (s₁.setTop (mkF m 0 #[.val (.int (2 : Int32)), .val (.int p2), .val (.int p3), .val (.int p4), .val (.int p5), .unset, .unset, .unset, .unset, .unset] [])) t → Steps p.tables e below (s₁.setTop (entryFrame m #[(.int (2 : Int32)), (.int p2), (.int p3), (.int p4), (.int p5)] 10)) t := fun t k => castTop (ef_exp m (2 : Int32) p2 p3 p4 p5) k
  have go1 : ∀ t, Steps p.tables e below (s₁.setTop (mkF m 11 #[.val (.int (2 : Int32)), .val (.int p2), .val (.int p3), .val (.int p4), .val (.int p5), .val (.long (2147483639 : Int64)), .second, .unset, .unset, .unset] [(.int p2)])) t → Steps p.tables e below (s₁.setTop (entryFrame m #[(.int (2 : Int32)), (.int p2), (.int p3), (.int p4), (.int p5)] 10)) t := fun t k => go0 t (by
    show Steps p.tables e below (s₁.setTop (mkF m 0 #[.val (.int (2 : Int32)), .val (.int p2), .val (.int p3), .val (.int p4), .val (.int p5), .unset, .unset, .unset, .unset, .unset] [])) _
    refine X0.ldc2J hx hown (mvT hZ (hw _ (List.mem_of_getElem? (i := 11) rfl))) rfl (hb hby exp_0) ?_
    show Steps p.tables e below (s₁.setTop (mkF m 3 #[.val (.int (2 : Int32)), .val (.int p2), .val (.int p3), .val (.int p4), .val (.int p5), .unset, .unset, .unset, .unset, .unset] [(.long (2147483639 : Int64))])) _
    refine XS.lstore X0.here hx rfl (hb hby exp_3) rfl (l' := #[.val (.int (2 : Int32)), .val (.int p2), .val (.int p3), .val (.int p4), .val (.int p5), .val (.long (2147483639 : Int64)), .second, .unset, .unset, .unset]) rfl ?_
    show Steps p.tables e below (s₁.setTop (mkF m 5 #[.val (.int (2 : Int32)), .val (.int p2), .val (.int p3), .val (.int p4), .val (.int p5), .val (.long (2147483639 : Int64)), .second, .unset, .unset, .unset] [])) _
    refine XS.iloadN X0.here hx rfl (hb hby exp_5) rfl ?_
    show Steps p.tables e below (s₁.setTop (mkF m 6 #[.val (.int (2 : Int32)), .val (.int p2), .val (.int p3), .val (.int p4), .val (.int p5), .val (.long (2147483639 : Int64)), .second, .unset, .unset, .unset] [(.int (2 : Int32))])) _
    refine XS.iconst X0.here hx rfl (hb hby exp_6) ?_
    show Steps p.tables e below (s₁.setTop (mkF m 7 #[.val (.int (2 : Int32)), .val (.int p2), .val (.int p3), .val (.int p4), .val (.int p5), .val (.long (2147483639 : Int64)), .second, .unset, .unset, .unset] [(.int (1 : Int32)), (.int (2 : Int32))])) _
    refine XS.icmpNo X0.here hx rfl (hb hby exp_7) rfl (flt (by decide : ¬ ((2 : Int32) < (1 : Int32)))).1 ?_
    show Steps p.tables e below (s₁.setTop (mkF m 10 #[.val (.int (2 : Int32)), .val (.int p2), .val (.int p3), .val (.int p4), .val (.int p5), .val (.long (2147483639 : Int64)), .second, .unset, .unset, .unset] [])) _
    refine XS.iloadN X0.here hx rfl (hb hby exp_10) rfl ?_
    exact k)
  by_cases hc2 : p2 = (0 : Int32)
  · have go3 : ∀ t, Steps p.tables e below (s₁.setTop (mkF m 55 #[.val (.int (2 : Int32)), .val (.int p2), .val (.int p3), .val (.int p4), .val (.int p5), .val (.long (2147483639 : Int64)), .second, .val (.int (1 : Int32)), .unset, .unset] [(.int (1 : Int32))])) t → Steps p.tables e below (s₁.setTop (entryFrame m #[(.int (2 : Int32)), (.int p2), (.int p3), (.int p4), (.int p5)] 10)) t := fun t k => go1 t (by
      show Steps p.tables e below (s₁.setTop (mkF m 11 #[.val (.int (2 : Int32)), .val (.int p2), .val (.int p3), .val (.int p4), .val (.int p5), .val (.long (2147483639 : Int64)), .second, .unset, .unset, .unset] [(.int p2)])) _
      refine XS.ifYes X0.here hx rfl (pc0 := 11) (pc' := 42) rfl (hb hby exp_11) rfl ((if0 _ _).trans (teq hc2).1) (by decide) (by decide) ?_
      show Steps p.tables e below (s₁.setTop (mkF m 42 #[.val (.int (2 : Int32)), .val (.int p2), .val (.int p3), .val (.int p4), .val (.int p5), .val (.long (2147483639 : Int64)), .second, .unset, .unset, .unset] [])) _
      refine XS.iconst X0.here hx rfl (hb hby exp_42) ?_
      show Steps p.tables e below (s₁.setTop (mkF m 43 #[.val (.int (2 : Int32)), .val (.int p2), .val (.int p3), .val (.int p4), .val (.int p5), .val (.long (2147483639 : Int64)), .second, .unset, .unset, .unset] [(.int (1 : Int32))])) _
      refine XS.goto X0.here hx rfl (pc0 := 43) (pc' := 47) rfl (hb hby exp_43) (by decide) (by decide) ?_
      show Steps p.tables e below (s₁.setTop (mkF m 47 #[.val (.int (2 : Int32)), .val (.int p2), .val (.int p3), .val (.int p4), .val (.int p5), .val (.long (2147483639 : Int64)), .second, .unset, .unset, .unset] [(.int (1 : Int32))])) _
      refine XS.istore X0.here hx rfl (hb hby exp_47) rfl (l' := #[.val (.int (2 : Int32)), .val (.int p2), .val (.int p3), .val (.int p4), .val (.int p5), .val (.long (2147483639 : Int64)), .second, .val (.int (1 : Int32)), .unset, .unset]) rfl ?_
      show Steps p.tables e below (s₁.setTop (mkF m 49 #[.val (.int (2 : Int32)), .val (.int p2), .val (.int p3), .val (.int p4), .val (.int p5), .val (.long (2147483639 : Int64)), .second, .val (.int (1 : Int32)), .unset, .unset] [])) _
      refine XS.iload X0.here hx rfl (hb hby exp_49) rfl ?_
      show Steps p.tables e below (s₁.setTop (mkF m 51 #[.val (.int (2 : Int32)), .val (.int p2), .val (.int p3), .val (.int p4), .val (.int p5), .val (.long (2147483639 : Int64)), .second, .val (.int (1 : Int32)), .unset, .unset] [(.int (1 : Int32))])) _
      refine XS.ifNo X0.here hx rfl (hb hby exp_51) rfl ((if0 _ _).trans (feq (by decide : ¬ ((1 : Int32) = (0 : Int32)))).1) ?_
      show Steps p.tables e below (s₁.setTop (mkF m 54 #[.val (.int (2 : Int32)), .val (.int p2), .val (.int p3), .val (.int p4), .val (.int p5), .val (.long (2147483639 : Int64)), .second, .val (.int (1 : Int32)), .unset, .unset] [])) _
      refine XS.iconst X0.here hx rfl (hb hby exp_54) ?_
      exact k)
    obtain ⟨fs, hr, hrun, hended, hW, hsame⟩ := X0.leave (v := some (.int (1 : Int32))) (fun h => by rw [Bd.returns] at h; cases h)
    refine ⟨_, _, go3 _ ?_, hrun, hended, _, _, rfl, ?_, ⟨_, rfl⟩, hW, hsame.mono (by decide) (by decide)⟩
    · exact retN X0 hx (t := .boolean) Bd.returns (by simp) (hb hby exp_55) hr
    · show QV (.int (own_exp2 p2 p3 p4 p5)) h0 n0 _ s₁.heap _
      rw [e0]
      exact ⟨congrArg some (congrArg Value.int (Eq.symm (show (own_exp2 p2 p3 p4 p5) = (1 : Int32) from by unfold own_exp2; rw [if_pos hc2]))), N0, rfl⟩
  · have go4 : ∀ t, Steps p.tables e below (s₁.setTop (mkF m 20 #[.val (.int (2 : Int32)), .val (.int p2), .val (.int p3), .val (.int p4), .val (.int p5), .val (.long (2147483639 : Int64)), .second, .unset, .unset, .unset] [(.int p3)])) t → Steps p.tables e below (s₁.setTop (entryFrame m #[(.int (2 : Int32)), (.int p2), (.int p3), (.int p4), (.int p5)] 10)) t := fun t k => go1 t (by
      show Steps p.tables e below (s₁.setTop (mkF m 11 #[.val (.int (2 : Int32)), .val (.int p2), .val (.int p3), .val (.int p4), .val (.int p5), .val (.long (2147483639 : Int64)), .second, .unset, .unset, .unset] [(.int p2)])) _
      refine XS.ifNo X0.here hx rfl (hb hby exp_11) rfl ((if0 _ _).trans (feq hc2).1) ?_
      show Steps p.tables e below (s₁.setTop (mkF m 14 #[.val (.int (2 : Int32)), .val (.int p2), .val (.int p3), .val (.int p4), .val (.int p5), .val (.long (2147483639 : Int64)), .second, .unset, .unset, .unset] [])) _
      refine XS.iloadN X0.here hx rfl (hb hby exp_14) rfl ?_
      show Steps p.tables e below (s₁.setTop (mkF m 15 #[.val (.int (2 : Int32)), .val (.int p2), .val (.int p3), .val (.int p4), .val (.int p5), .val (.long (2147483639 : Int64)), .second, .unset, .unset, .unset] [(.int (2 : Int32))])) _
      refine XS.iconst X0.here hx rfl (hb hby exp_15) ?_
      show Steps p.tables e below (s₁.setTop (mkF m 16 #[.val (.int (2 : Int32)), .val (.int p2), .val (.int p3), .val (.int p4), .val (.int p5), .val (.long (2147483639 : Int64)), .second, .unset, .unset, .unset] [(.int (2 : Int32)), (.int (2 : Int32))])) _
      refine XS.icmpNo X0.here hx rfl (hb hby exp_16) rfl (flt (by decide : ¬ ((2 : Int32) < (2 : Int32)))).1 ?_
      show Steps p.tables e below (s₁.setTop (mkF m 19 #[.val (.int (2 : Int32)), .val (.int p2), .val (.int p3), .val (.int p4), .val (.int p5), .val (.long (2147483639 : Int64)), .second, .unset, .unset, .unset] [])) _
      refine XS.iloadN X0.here hx rfl (hb hby exp_19) rfl ?_
      exact k)
    by_cases hc5 : p3 = (0 : Int32)
    · have go6 : ∀ t, Steps p.tables e below (s₁.setTop (mkF m 55 #[.val (.int (2 : Int32)), .val (.int p2), .val (.int p3), .val (.int p4), .val (.int p5), .val (.long (2147483639 : Int64)), .second, .val (.int (1 : Int32)), .unset, .unset] [(.int (1 : Int32))])) t → Steps p.tables e below (s₁.setTop (entryFrame m #[(.int (2 : Int32)), (.int p2), (.int p3), (.int p4), (.int p5)] 10)) t := fun t k => go4 t (by
        show Steps p.tables e below (s₁.setTop (mkF m 20 #[.val (.int (2 : Int32)), .val (.int p2), .val (.int p3), .val (.int p4), .val (.int p5), .val (.long (2147483639 : Int64)), .second, .unset, .unset, .unset] [(.int p3)])) _
        refine XS.ifYes X0.here hx rfl (pc0 := 20) (pc' := 42) rfl (hb hby exp_20) rfl ((if0 _ _).trans (teq hc5).1) (by decide) (by decide) ?_
        show Steps p.tables e below (s₁.setTop (mkF m 42 #[.val (.int (2 : Int32)), .val (.int p2), .val (.int p3), .val (.int p4), .val (.int p5), .val (.long (2147483639 : Int64)), .second, .unset, .unset, .unset] [])) _
        refine XS.iconst X0.here hx rfl (hb hby exp_42) ?_
        show Steps p.tables e below (s₁.setTop (mkF m 43 #[.val (.int (2 : Int32)), .val (.int p2), .val (.int p3), .val (.int p4), .val (.int p5), .val (.long (2147483639 : Int64)), .second, .unset, .unset, .unset] [(.int (1 : Int32))])) _
        refine XS.goto X0.here hx rfl (pc0 := 43) (pc' := 47) rfl (hb hby exp_43) (by decide) (by decide) ?_
        show Steps p.tables e below (s₁.setTop (mkF m 47 #[.val (.int (2 : Int32)), .val (.int p2), .val (.int p3), .val (.int p4), .val (.int p5), .val (.long (2147483639 : Int64)), .second, .unset, .unset, .unset] [(.int (1 : Int32))])) _
        refine XS.istore X0.here hx rfl (hb hby exp_47) rfl (l' := #[.val (.int (2 : Int32)), .val (.int p2), .val (.int p3), .val (.int p4), .val (.int p5), .val (.long (2147483639 : Int64)), .second, .val (.int (1 : Int32)), .unset, .unset]) rfl ?_
        show Steps p.tables e below (s₁.setTop (mkF m 49 #[.val (.int (2 : Int32)), .val (.int p2), .val (.int p3), .val (.int p4), .val (.int p5), .val (.long (2147483639 : Int64)), .second, .val (.int (1 : Int32)), .unset, .unset] [])) _
        refine XS.iload X0.here hx rfl (hb hby exp_49) rfl ?_
        show Steps p.tables e below (s₁.setTop (mkF m 51 #[.val (.int (2 : Int32)), .val (.int p2), .val (.int p3), .val (.int p4), .val (.int p5), .val (.long (2147483639 : Int64)), .second, .val (.int (1 : Int32)), .unset, .unset] [(.int (1 : Int32))])) _
        refine XS.ifNo X0.here hx rfl (hb hby exp_51) rfl ((if0 _ _).trans (feq (by decide : ¬ ((1 : Int32) = (0 : Int32)))).1) ?_
        show Steps p.tables e below (s₁.setTop (mkF m 54 #[.val (.int (2 : Int32)), .val (.int p2), .val (.int p3), .val (.int p4), .val (.int p5), .val (.long (2147483639 : Int64)), .second, .val (.int (1 : Int32)), .unset, .unset] [])) _
        refine XS.iconst X0.here hx rfl (hb hby exp_54) ?_
        exact k)
      obtain ⟨fs, hr, hrun, hended, hW, hsame⟩ := X0.leave (v := some (.int (1 : Int32))) (fun h => by rw [Bd.returns] at h; cases h)
      refine ⟨_, _, go6 _ ?_, hrun, hended, _, _, rfl, ?_, ⟨_, rfl⟩, hW, hsame.mono (by decide) (by decide)⟩
      · exact retN X0 hx (t := .boolean) Bd.returns (by simp) (hb hby exp_55) hr
      · show QV (.int (own_exp2 p2 p3 p4 p5)) h0 n0 _ s₁.heap _
        rw [e0]
        exact ⟨congrArg some (congrArg Value.int (Eq.symm (show (own_exp2 p2 p3 p4 p5) = (1 : Int32) from by unfold own_exp2; rw [if_neg hc2, if_pos hc5]))), N0, rfl⟩
    · have go7 : ∀ t, Steps p.tables e below (s₁.setTop (mkF m 73 #[.val (.int (2 : Int32)), .val (.int p2), .val (.int p3), .val (.int p4), .val (.int p5), .val (.long (2147483639 : Int64)), .second, .val (.int (0 : Int32)), .val (.long (p2.toInt64)), .second] [(.int (lcmpW (p2.toInt64) (2147483639 : Int64)))])) t → Steps p.tables e below (s₁.setTop (entryFrame m #[(.int (2 : Int32)), (.int p2), (.int p3), (.int p4), (.int p5)] 10)) t := fun t k => go4 t (by
        show Steps p.tables e below (s₁.setTop (mkF m 20 #[.val (.int (2 : Int32)), .val (.int p2), .val (.int p3), .val (.int p4), .val (.int p5), .val (.long (2147483639 : Int64)), .second, .unset, .unset, .unset] [(.int p3)])) _
        refine XS.ifNo X0.here hx rfl (hb hby exp_20) rfl ((if0 _ _).trans (feq hc5).1) ?_
        show Steps p.tables e below (s₁.setTop (mkF m 23 #[.val (.int (2 : Int32)), .val (.int p2), .val (.int p3), .val (.int p4), .val (.int p5), .val (.long (2147483639 : Int64)), .second, .unset, .unset, .unset] [])) _
        refine XS.iloadN X0.here hx rfl (hb hby exp_23) rfl ?_
        show Steps p.tables e below (s₁.setTop (mkF m 24 #[.val (.int (2 : Int32)), .val (.int p2), .val (.int p3), .val (.int p4), .val (.int p5), .val (.long (2147483639 : Int64)), .second, .unset, .unset, .unset] [(.int (2 : Int32))])) _
        refine XS.iconst X0.here hx rfl (hb hby exp_24) ?_
        show Steps p.tables e below (s₁.setTop (mkF m 25 #[.val (.int (2 : Int32)), .val (.int p2), .val (.int p3), .val (.int p4), .val (.int p5), .val (.long (2147483639 : Int64)), .second, .unset, .unset, .unset] [(.int (3 : Int32)), (.int (2 : Int32))])) _
        refine XS.icmpYes X0.here hx rfl (pc0 := 25) (pc' := 32) rfl (hb hby exp_25) rfl (tlt (by decide : (2 : Int32) < (3 : Int32))).1 (by decide) (by decide) ?_
        show Steps p.tables e below (s₁.setTop (mkF m 32 #[.val (.int (2 : Int32)), .val (.int p2), .val (.int p3), .val (.int p4), .val (.int p5), .val (.long (2147483639 : Int64)), .second, .unset, .unset, .unset] [])) _
        refine XS.iloadN X0.here hx rfl (hb hby exp_32) rfl ?_
        show Steps p.tables e below (s₁.setTop (mkF m 33 #[.val (.int (2 : Int32)), .val (.int p2), .val (.int p3), .val (.int p4), .val (.int p5), .val (.long (2147483639 : Int64)), .second, .unset, .unset, .unset] [(.int (2 : Int32))])) _
        refine XS.iconst X0.here hx rfl (hb hby exp_33) ?_
        show Steps p.tables e below (s₁.setTop (mkF m 34 #[.val (.int (2 : Int32)), .val (.int p2), .val (.int p3), .val (.int p4), .val (.int p5), .val (.long (2147483639 : Int64)), .second, .unset, .unset, .unset] [(.int (4 : Int32)), (.int (2 : Int32))])) _
        refine XS.icmpYes X0.here hx rfl (pc0 := 34) (pc' := 46) rfl (hb hby exp_34) rfl (tlt (by decide : (2 : Int32) < (4 : Int32))).1 (by decide) (by decide) ?_
        show Steps p.tables e below (s₁.setTop (mkF m 46 #[.val (.int (2 : Int32)), .val (.int p2), .val (.int p3), .val (.int p4), .val (.int p5), .val (.long (2147483639 : Int64)), .second, .unset, .unset, .unset] [])) _
        refine XS.iconst X0.here hx rfl (hb hby exp_46) ?_
        show Steps p.tables e below (s₁.setTop (mkF m 47 #[.val (.int (2 : Int32)), .val (.int p2), .val (.int p3), .val (.int p4), .val (.int p5), .val (.long (2147483639 : Int64)), .second, .unset, .unset, .unset] [(.int (0 : Int32))])) _
        refine XS.istore X0.here hx rfl (hb hby exp_47) rfl (l' := #[.val (.int (2 : Int32)), .val (.int p2), .val (.int p3), .val (.int p4), .val (.int p5), .val (.long (2147483639 : Int64)), .second, .val (.int (0 : Int32)), .unset, .unset]) rfl ?_
        show Steps p.tables e below (s₁.setTop (mkF m 49 #[.val (.int (2 : Int32)), .val (.int p2), .val (.int p3), .val (.int p4), .val (.int p5), .val (.long (2147483639 : Int64)), .second, .val (.int (0 : Int32)), .unset, .unset] [])) _
        refine XS.iload X0.here hx rfl (hb hby exp_49) rfl ?_
        show Steps p.tables e below (s₁.setTop (mkF m 51 #[.val (.int (2 : Int32)), .val (.int p2), .val (.int p3), .val (.int p4), .val (.int p5), .val (.long (2147483639 : Int64)), .second, .val (.int (0 : Int32)), .unset, .unset] [(.int (0 : Int32))])) _
        refine XS.ifYes X0.here hx rfl (pc0 := 51) (pc' := 56) rfl (hb hby exp_51) rfl ((if0 _ _).trans (teq (by decide : (0 : Int32) = (0 : Int32))).1) (by decide) (by decide) ?_
        show Steps p.tables e below (s₁.setTop (mkF m 56 #[.val (.int (2 : Int32)), .val (.int p2), .val (.int p3), .val (.int p4), .val (.int p5), .val (.long (2147483639 : Int64)), .second, .val (.int (0 : Int32)), .unset, .unset] [])) _
        refine XS.lconst X0.here hx rfl (hb hby exp_56) ?_
        show Steps p.tables e below (s₁.setTop (mkF m 57 #[.val (.int (2 : Int32)), .val (.int p2), .val (.int p3), .val (.int p4), .val (.int p5), .val (.long (2147483639 : Int64)), .second, .val (.int (0 : Int32)), .unset, .unset] [(.long (1 : Int64))])) _
        refine XS.lstore X0.here hx rfl (hb hby exp_57) rfl (l' := #[.val (.int (2 : Int32)), .val (.int p2), .val (.int p3), .val (.int p4), .val (.int p5), .val (.long (2147483639 : Int64)), .second, .val (.int (0 : Int32)), .val (.long (1 : Int64)), .second]) rfl ?_
        show Steps p.tables e below (s₁.setTop (mkF m 59 #[.val (.int (2 : Int32)), .val (.int p2), .val (.int p3), .val (.int p4), .val (.int p5), .val (.long (2147483639 : Int64)), .second, .val (.int (0 : Int32)), .val (.long (1 : Int64)), .second] [])) _
        refine XS.iloadN X0.here hx rfl (hb hby exp_59) rfl ?_
        show Steps p.tables e below (s₁.setTop (mkF m 60 #[.val (.int (2 : Int32)), .val (.int p2), .val (.int p3), .val (.int p4), .val (.int p5), .val (.long (2147483639 : Int64)), .second, .val (.int (0 : Int32)), .val (.long (1 : Int64)), .second] [(.int (2 : Int32))])) _
        refine XS.iconst X0.here hx rfl (hb hby exp_60) ?_
        show Steps p.tables e below (s₁.setTop (mkF m 61 #[.val (.int (2 : Int32)), .val (.int p2), .val (.int p3), .val (.int p4), .val (.int p5), .val (.long (2147483639 : Int64)), .second, .val (.int (0 : Int32)), .val (.long (1 : Int64)), .second] [(.int (1 : Int32)), (.int (2 : Int32))])) _
        refine XS.icmpNo X0.here hx rfl (hb hby exp_61) rfl (flt (by decide : ¬ ((2 : Int32) < (1 : Int32)))).1 ?_
        show Steps p.tables e below (s₁.setTop (mkF m 64 #[.val (.int (2 : Int32)), .val (.int p2), .val (.int p3), .val (.int p4), .val (.int p5), .val (.long (2147483639 : Int64)), .second, .val (.int (0 : Int32)), .val (.long (1 : Int64)), .second] [])) _
        refine XS.iloadN X0.here hx rfl (hb hby exp_64) rfl ?_
        show Steps p.tables e below (s₁.setTop (mkF m 65 #[.val (.int (2 : Int32)), .val (.int p2), .val (.int p3), .val (.int p4), .val (.int p5), .val (.long (2147483639 : Int64)), .second, .val (.int (0 : Int32)), .val (.long (1 : Int64)), .second] [(.int p2)])) _
        refine XS.i2l X0.here hx rfl (hb hby exp_65) rfl ?_
        show Steps p.tables e below (s₁.setTop (mkF m 66 #[.val (.int (2 : Int32)), .val (.int p2), .val (.int p3), .val (.int p4), .val (.int p5), .val (.long (2147483639 : Int64)), .second, .val (.int (0 : Int32)), .val (.long (1 : Int64)), .second] [(.long (p2.toInt64))])) _
        refine XS.lstore X0.here hx rfl (hb hby exp_66) rfl (l' := #[.val (.int (2 : Int32)), .val (.int p2), .val (.int p3), .val (.int p4), .val (.int p5), .val (.long (2147483639 : Int64)), .second, .val (.int (0 : Int32)), .val (.long (p2.toInt64)), .second]) rfl ?_
        show Steps p.tables e below (s₁.setTop (mkF m 68 #[.val (.int (2 : Int32)), .val (.int p2), .val (.int p3), .val (.int p4), .val (.int p5), .val (.long (2147483639 : Int64)), .second, .val (.int (0 : Int32)), .val (.long (p2.toInt64)), .second] [])) _
        refine XS.lload X0.here hx rfl (hb hby exp_68) rfl ?_
        show Steps p.tables e below (s₁.setTop (mkF m 70 #[.val (.int (2 : Int32)), .val (.int p2), .val (.int p3), .val (.int p4), .val (.int p5), .val (.long (2147483639 : Int64)), .second, .val (.int (0 : Int32)), .val (.long (p2.toInt64)), .second] [(.long (p2.toInt64))])) _
        refine XS.lload X0.here hx rfl (hb hby exp_70) rfl ?_
        show Steps p.tables e below (s₁.setTop (mkF m 72 #[.val (.int (2 : Int32)), .val (.int p2), .val (.int p3), .val (.int p4), .val (.int p5), .val (.long (2147483639 : Int64)), .second, .val (.int (0 : Int32)), .val (.long (p2.toInt64)), .second] [(.long (2147483639 : Int64)), (.long (p2.toInt64))])) _
        refine XS.lcmp X0.here hx rfl (hb hby exp_72) rfl ?_
        exact k)
      by_cases hc8 : (2147483639 : Int64) < (p2.toInt64)
      · have go9 : ∀ t, Steps p.tables e below (s₁.setTop (mkF m 77 #[.val (.int (2 : Int32)), .val (.int p2), .val (.int p3), .val (.int p4), .val (.int p5), .val (.long (2147483639 : Int64)), .second, .val (.int (0 : Int32)), .val (.long (p2.toInt64)), .second] [(.int (0 : Int32))])) t → Steps p.tables e below (s₁.setTop (entryFrame m #[(.int (2 : Int32)), (.int p2), (.int p3), (.int p4), (.int p5)] 10)) t := fun t k => go7 t (by
          show Steps p.tables e below (s₁.setTop (mkF m 73 #[.val (.int (2 : Int32)), .val (.int p2), .val (.int p3), .val (.int p4), .val (.int p5), .val (.long (2147483639 : Int64)), .second, .val (.int (0 : Int32)), .val (.long (p2.toInt64)), .second] [(.int (lcmpW (p2.toInt64) (2147483639 : Int64)))])) _
          refine XS.ifNo X0.here hx rfl (hb hby exp_73) rfl ((if0 _ _).trans (tlt ((lw_gt _ _).mpr hc8)).2.2.2) ?_
          show Steps p.tables e below (s₁.setTop (mkF m 76 #[.val (.int (2 : Int32)), .val (.int p2), .val (.int p3), .val (.int p4), .val (.int p5), .val (.long (2147483639 : Int64)), .second, .val (.int (0 : Int32)), .val (.long (p2.toInt64)), .second] [])) _
          refine XS.iconst X0.here hx rfl (hb hby exp_76) ?_
          exact k)
        obtain ⟨fs, hr, hrun, hended, hW, hsame⟩ := X0.leave (v := some (.int (0 : Int32))) (fun h => by rw [Bd.returns] at h; cases h)
        refine ⟨_, _, go9 _ ?_, hrun, hended, _, _, rfl, ?_, ⟨_, rfl⟩, hW, hsame.mono (by decide) (by decide)⟩
        · exact retN X0 hx (t := .boolean) Bd.returns (by simp) (hb hby exp_77) hr
        · show QV (.int (own_exp2 p2 p3 p4 p5)) h0 n0 _ s₁.heap _
          rw [e0]
          exact ⟨congrArg some (congrArg Value.int (Eq.symm (show (own_exp2 p2 p3 p4 p5) = (0 : Int32) from by unfold own_exp2; rw [if_neg hc2, if_neg hc5, if_pos hc8]))), N0, rfl⟩
      · have go10 : ∀ t, Steps p.tables e below (s₁.setTop (mkF m 95 #[.val (.int (2 : Int32)), .val (.int p2), .val (.int p3), .val (.int p4), .val (.int p5), .val (.long (2147483639 : Int64)), .second, .val (.int (0 : Int32)), .val (.long ((p2.toInt64) * (p3.toInt64))), .second] [(.int (lcmpW ((p2.toInt64) * (p3.toInt64)) (2147483639 : Int64)))])) t → Steps p.tables e below (s₁.setTop (entryFrame m #[(.int (2 : Int32)), (.int p2), (.int p3), (.int p4), (.int p5)] 10)) t := fun t k => go7 t (by
          show Steps p.tables e below (s₁.setTop (mkF m 73 #[.val (.int (2 : Int32)), .val (.int p2), .val (.int p3), .val (.int p4), .val (.int p5), .val (.long (2147483639 : Int64)), .second, .val (.int (0 : Int32)), .val (.long (p2.toInt64)), .second] [(.int (lcmpW (p2.toInt64) (2147483639 : Int64)))])) _
          refine XS.ifYes X0.here hx rfl (pc0 := 73) (pc' := 78) rfl (hb hby exp_73) rfl ((if0 _ _).trans (flt (mt (lw_gt _ _).mp hc8)).2.2.2) (by decide) (by decide) ?_
          show Steps p.tables e below (s₁.setTop (mkF m 78 #[.val (.int (2 : Int32)), .val (.int p2), .val (.int p3), .val (.int p4), .val (.int p5), .val (.long (2147483639 : Int64)), .second, .val (.int (0 : Int32)), .val (.long (p2.toInt64)), .second] [])) _
          refine XS.iloadN X0.here hx rfl (hb hby exp_78) rfl ?_
          show Steps p.tables e below (s₁.setTop (mkF m 79 #[.val (.int (2 : Int32)), .val (.int p2), .val (.int p3), .val (.int p4), .val (.int p5), .val (.long (2147483639 : Int64)), .second, .val (.int (0 : Int32)), .val (.long (p2.toInt64)), .second] [(.int (2 : Int32))])) _
          refine XS.iconst X0.here hx rfl (hb hby exp_79) ?_
          show Steps p.tables e below (s₁.setTop (mkF m 80 #[.val (.int (2 : Int32)), .val (.int p2), .val (.int p3), .val (.int p4), .val (.int p5), .val (.long (2147483639 : Int64)), .second, .val (.int (0 : Int32)), .val (.long (p2.toInt64)), .second] [(.int (2 : Int32)), (.int (2 : Int32))])) _
          refine XS.icmpNo X0.here hx rfl (hb hby exp_80) rfl (flt (by decide : ¬ ((2 : Int32) < (2 : Int32)))).1 ?_
          show Steps p.tables e below (s₁.setTop (mkF m 83 #[.val (.int (2 : Int32)), .val (.int p2), .val (.int p3), .val (.int p4), .val (.int p5), .val (.long (2147483639 : Int64)), .second, .val (.int (0 : Int32)), .val (.long (p2.toInt64)), .second] [])) _
          refine XS.lload X0.here hx rfl (hb hby exp_83) rfl ?_
          show Steps p.tables e below (s₁.setTop (mkF m 85 #[.val (.int (2 : Int32)), .val (.int p2), .val (.int p3), .val (.int p4), .val (.int p5), .val (.long (2147483639 : Int64)), .second, .val (.int (0 : Int32)), .val (.long (p2.toInt64)), .second] [(.long (p2.toInt64))])) _
          refine XS.iloadN X0.here hx rfl (hb hby exp_85) rfl ?_
          show Steps p.tables e below (s₁.setTop (mkF m 86 #[.val (.int (2 : Int32)), .val (.int p2), .val (.int p3), .val (.int p4), .val (.int p5), .val (.long (2147483639 : Int64)), .second, .val (.int (0 : Int32)), .val (.long (p2.toInt64)), .second] [(.int p3), (.long (p2.toInt64))])) _
          refine XS.i2l X0.here hx rfl (hb hby exp_86) rfl ?_
          show Steps p.tables e below (s₁.setTop (mkF m 87 #[.val (.int (2 : Int32)), .val (.int p2), .val (.int p3), .val (.int p4), .val (.int p5), .val (.long (2147483639 : Int64)), .second, .val (.int (0 : Int32)), .val (.long (p2.toInt64)), .second] [(.long (p3.toInt64)), (.long (p2.toInt64))])) _
          refine XS.lmul X0.here hx rfl (hb hby exp_87) rfl ?_
          show Steps p.tables e below (s₁.setTop (mkF m 88 #[.val (.int (2 : Int32)), .val (.int p2), .val (.int p3), .val (.int p4), .val (.int p5), .val (.long (2147483639 : Int64)), .second, .val (.int (0 : Int32)), .val (.long (p2.toInt64)), .second] [(.long ((p2.toInt64) * (p3.toInt64)))])) _
          refine XS.lstore X0.here hx rfl (hb hby exp_88) rfl (l' := #[.val (.int (2 : Int32)), .val (.int p2), .val (.int p3), .val (.int p4), .val (.int p5), .val (.long (2147483639 : Int64)), .second, .val (.int (0 : Int32)), .val (.long ((p2.toInt64) * (p3.toInt64))), .second]) rfl ?_
          show Steps p.tables e below (s₁.setTop (mkF m 90 #[.val (.int (2 : Int32)), .val (.int p2), .val (.int p3), .val (.int p4), .val (.int p5), .val (.long (2147483639 : Int64)), .second, .val (.int (0 : Int32)), .val (.long ((p2.toInt64) * (p3.toInt64))), .second] [])) _
          refine XS.lload X0.here hx rfl (hb hby exp_90) rfl ?_
          show Steps p.tables e below (s₁.setTop (mkF m 92 #[.val (.int (2 : Int32)), .val (.int p2), .val (.int p3), .val (.int p4), .val (.int p5), .val (.long (2147483639 : Int64)), .second, .val (.int (0 : Int32)), .val (.long ((p2.toInt64) * (p3.toInt64))), .second] [(.long ((p2.toInt64) * (p3.toInt64)))])) _
          refine XS.lload X0.here hx rfl (hb hby exp_92) rfl ?_
          show Steps p.tables e below (s₁.setTop (mkF m 94 #[.val (.int (2 : Int32)), .val (.int p2), .val (.int p3), .val (.int p4), .val (.int p5), .val (.long (2147483639 : Int64)), .second, .val (.int (0 : Int32)), .val (.long ((p2.toInt64) * (p3.toInt64))), .second] [(.long (2147483639 : Int64)), (.long ((p2.toInt64) * (p3.toInt64)))])) _
          refine XS.lcmp X0.here hx rfl (hb hby exp_94) rfl ?_
          exact k)
        by_cases hc11 : (2147483639 : Int64) < ((p2.toInt64) * (p3.toInt64))
        · have go12 : ∀ t, Steps p.tables e below (s₁.setTop (mkF m 99 #[.val (.int (2 : Int32)), .val (.int p2), .val (.int p3), .val (.int p4), .val (.int p5), .val (.long (2147483639 : Int64)), .second, .val (.int (0 : Int32)), .val (.long ((p2.toInt64) * (p3.toInt64))), .second] [(.int (0 : Int32))])) t → Steps p.tables e below (s₁.setTop (entryFrame m #[(.int (2 : Int32)), (.int p2), (.int p3), (.int p4), (.int p5)] 10)) t := fun t k => go10 t (by
            show Steps p.tables e below (s₁.setTop (mkF m 95 #[.val (.int (2 : Int32)), .val (.int p2), .val (.int p3), .val (.int p4), .val (.int p5), .val (.long (2147483639 : Int64)), .second, .val (.int (0 : Int32)), .val (.long ((p2.toInt64) * (p3.toInt64))), .second] [(.int (lcmpW ((p2.toInt64) * (p3.toInt64)) (2147483639 : Int64)))])) _
            refine XS.ifNo X0.here hx rfl (hb hby exp_95) rfl ((if0 _ _).trans (tlt ((lw_gt _ _).mpr hc11)).2.2.2) ?_
            show Steps p.tables e below (s₁.setTop (mkF m 98 #[.val (.int (2 : Int32)), .val (.int p2), .val (.int p3), .val (.int p4), .val (.int p5), .val (.long (2147483639 : Int64)), .second, .val (.int (0 : Int32)), .val (.long ((p2.toInt64) * (p3.toInt64))), .second] [])) _
            refine XS.iconst X0.here hx rfl (hb hby exp_98) ?_
            exact k)
          obtain ⟨fs, hr, hrun, hended, hW, hsame⟩ := X0.leave (v := some (.int (0 : Int32))) (fun h => by rw [Bd.returns] at h; cases h)
          refine ⟨_, _, go12 _ ?_, hrun, hended, _, _, rfl, ?_, ⟨_, rfl⟩, hW, hsame.mono (by decide) (by decide)⟩
          · exact retN X0 hx (t := .boolean) Bd.returns (by simp) (hb hby exp_99) hr
          · show QV (.int (own_exp2 p2 p3 p4 p5)) h0 n0 _ s₁.heap _
            rw [e0]
            exact ⟨congrArg some (congrArg Value.int (Eq.symm (show (own_exp2 p2 p3 p4 p5) = (0 : Int32) from by unfold own_exp2; rw [if_neg hc2, if_neg hc5, if_neg hc8, if_pos hc11]))), N0, rfl⟩
        · have go13 : ∀ t, Steps p.tables e below (s₁.setTop (mkF m 146 #[.val (.int (2 : Int32)), .val (.int p2), .val (.int p3), .val (.int p4), .val (.int p5), .val (.long (2147483639 : Int64)), .second, .val (.int (0 : Int32)), .val (.long ((p2.toInt64) * (p3.toInt64))), .second] [(.int (1 : Int32))])) t → Steps p.tables e below (s₁.setTop (entryFrame m #[(.int (2 : Int32)), (.int p2), (.int p3), (.int p4), (.int p5)] 10)) t := fun t k => go10 t (by
            show Steps p.tables e below (s₁.setTop (mkF m 95 #[.val (.int (2 : Int32)), .val (.int p2), .val (.int p3), .val (.int p4), .val (.int p5), .val (.long (2147483639 : Int64)), .second, .val (.int (0 : Int32)), .val (.long ((p2.toInt64) * (p3.toInt64))), .second] [(.int (lcmpW ((p2.toInt64) * (p3.toInt64)) (2147483639 : Int64)))])) _
            refine XS.ifYes X0.here hx rfl (pc0 := 95) (pc' := 100) rfl (hb hby exp_95) rfl ((if0 _ _).trans (flt (mt (lw_gt _ _).mp hc11)).2.2.2) (by decide) (by decide) ?_
            show Steps p.tables e below (s₁.setTop (mkF m 100 #[.val (.int (2 : Int32)), .val (.int p2), .val (.int p3), .val (.int p4), .val (.int p5), .val (.long (2147483639 : Int64)), .second, .val (.int (0 : Int32)), .val (.long ((p2.toInt64) * (p3.toInt64))), .second] [])) _
            refine XS.iloadN X0.here hx rfl (hb hby exp_100) rfl ?_
            show Steps p.tables e below (s₁.setTop (mkF m 101 #[.val (.int (2 : Int32)), .val (.int p2), .val (.int p3), .val (.int p4), .val (.int p5), .val (.long (2147483639 : Int64)), .second, .val (.int (0 : Int32)), .val (.long ((p2.toInt64) * (p3.toInt64))), .second] [(.int (2 : Int32))])) _
            refine XS.iconst X0.here hx rfl (hb hby exp_101) ?_
            show Steps p.tables e below (s₁.setTop (mkF m 102 #[.val (.int (2 : Int32)), .val (.int p2), .val (.int p3), .val (.int p4), .val (.int p5), .val (.long (2147483639 : Int64)), .second, .val (.int (0 : Int32)), .val (.long ((p2.toInt64) * (p3.toInt64))), .second] [(.int (3 : Int32)), (.int (2 : Int32))])) _
            refine XS.icmpYes X0.here hx rfl (pc0 := 102) (pc' := 122) rfl (hb hby exp_102) rfl (tlt (by decide : (2 : Int32) < (3 : Int32))).1 (by decide) (by decide) ?_
            show Steps p.tables e below (s₁.setTop (mkF m 122 #[.val (.int (2 : Int32)), .val (.int p2), .val (.int p3), .val (.int p4), .val (.int p5), .val (.long (2147483639 : Int64)), .second, .val (.int (0 : Int32)), .val (.long ((p2.toInt64) * (p3.toInt64))), .second] [])) _
            refine XS.iloadN X0.here hx rfl (hb hby exp_122) rfl ?_
            show Steps p.tables e below (s₁.setTop (mkF m 123 #[.val (.int (2 : Int32)), .val (.int p2), .val (.int p3), .val (.int p4), .val (.int p5), .val (.long (2147483639 : Int64)), .second, .val (.int (0 : Int32)), .val (.long ((p2.toInt64) * (p3.toInt64))), .second] [(.int (2 : Int32))])) _
            refine XS.iconst X0.here hx rfl (hb hby exp_123) ?_
            show Steps p.tables e below (s₁.setTop (mkF m 124 #[.val (.int (2 : Int32)), .val (.int p2), .val (.int p3), .val (.int p4), .val (.int p5), .val (.long (2147483639 : Int64)), .second, .val (.int (0 : Int32)), .val (.long ((p2.toInt64) * (p3.toInt64))), .second] [(.int (4 : Int32)), (.int (2 : Int32))])) _
            refine XS.icmpYes X0.here hx rfl (pc0 := 124) (pc' := 145) rfl (hb hby exp_124) rfl (tlt (by decide : (2 : Int32) < (4 : Int32))).1 (by decide) (by decide) ?_
            show Steps p.tables e below (s₁.setTop (mkF m 145 #[.val (.int (2 : Int32)), .val (.int p2), .val (.int p3), .val (.int p4), .val (.int p5), .val (.long (2147483639 : Int64)), .second, .val (.int (0 : Int32)), .val (.long ((p2.toInt64) * (p3.toInt64))), .second] [])) _
            refine XS.iconst X0.here hx rfl (hb hby exp_145) ?_
            exact k)
          obtain ⟨fs, hr, hrun, hended, hW, hsame⟩ := X0.leave (v := some (.int (1 : Int32))) (fun h => by rw [Bd.returns] at h; cases h)
          refine ⟨_, _, go13 _ ?_, hrun, hended, _, _, rfl, ?_, ⟨_, rfl⟩, hW, hsame.mono (by decide) (by decide)⟩
          · exact retN X0 hx (t := .boolean) Bd.returns (by simp) (hb hby exp_146) hr
          · show QV (.int (own_exp2 p2 p3 p4 p5)) h0 n0 _ s₁.heap _
            rw [e0]
            exact ⟨congrArg some (congrArg Value.int (Eq.symm (show (own_exp2 p2 p3 p4 p5) = (1 : Int32) from by unfold own_exp2; rw [if_neg hc2, if_neg hc5, if_neg hc8, if_neg hc11]))), N0, rfl⟩
def own_fits3 (x0 : Int32) (x1 : Int32) (x2 : Int32) : Int32 := if (2147483639 : Int64) < (own_cap (own_cap (own_cap (1 : Int64) x0) x1) x2) then (0 : Int32) else (1 : Int32)
set_option maxRecDepth 65536 in
set_option maxHeartbeats 40000000 in
theorem rm_fits3 (l : Launch) (Z : State) (a0 : Array Value) (hw : ∀ d ∈ tables_1, d.before a0 Z = true) (ws : List Jvm.Cond) (a1 : Addr) (kA : ClassId) (x0 : Int32) (x1 : Int32) (x2 : Int32) (h0 : Heap) (n0 : Nat) (Z0 : n0 ≤ h0.size) (V1 : Arv Z h0 a1 kA .int (3 : Int32) [(.int x0), (.int x1), (.int x2)] (.int (0 : Int32))) :
    MetFree l (⟨"com/example/inlet/inlet/compiler/ArrayValue", "fits", "([I)Z"⟩ : MethodName) (head1 (Jvm.Cond.code (⟨"com/example/inlet/inlet/compiler/ArrayValue", "fits", "([I)Z"⟩ : MethodName) prog_34_method_3_code 7 (some .boolean) :: ws) ({ frames := 1, cells := 0, slots := 0, locals := 15 } : Room)) (fun a U => a = #[(.ref a1)] ∧ Z.Warmed39 U.vm ∧ U.heap = h0) (fun _ _ _ _ _ => True) (fun _ U o U' => ∃ v L, o = .returned v ∧ QV (.int (own_fits3 x0 x1 x2)) h0 n0 v U'.heap L ∧ FrameEnd U o U' L ({ frames := 1, cells := 0, slots := 0, locals := 15 } : Room).cells ({ frames := 1, cells := 0, slots := 0, locals := 15 } : Room).slots) := by
  refine MetFree.of_bodySF (plainFor_of_name pn_fits) hisR ?_
  intro p e s m args below meth c s₁ Bd hml0 hP hK
  obtain ⟨rfl, hZ, hh⟩ := hP
  have hx := Bd.exec
  have hby := Bd.bytes
  have hml : c.maxLocals = 7 := hml0
  have hown : s.vm.findClass "com/example/inlet/inlet/compiler/ArrayValue" = some m.cls := findClass_of_methodNamed Bd.named
  have hnm := (name_of_methodNamed Bd.named Bd.method).1
  have X0 : Stand p l e ({ frames := 1, cells := 0, slots := 0, locals := 15 } : Room) s m #[(.ref a1)] below meth c s₁ [] 0 0 := Stand.of_body Bd
  have e0 : s₁.heap = h0 := by rw [← hh, Bd.state]; rfl
  have N0 := Fr.nil n0
  have go0 : ∀ t, Steps p.tables e below (s₁.setTop (mkF m 0 #[.val (.ref a1), .unset, .unset, .unset, .unset, .unset, .unset] [])) t → Steps p.tables e below (s₁.setTop (entryFrame m #[(.ref a1)] 7)) t := fun t k => castTop (ef_fits m a1) k
  have go2 : ∀ t, Steps p.tables e below (s₁.setTop (mkF m 5 #[.val (.ref a1), .val (.long (1 : Int64)), .second, .val (.ref a1), .unset, .unset, .unset] [(.ref a1)])) t → Steps p.tables e below (s₁.setTop (entryFrame m #[(.ref a1)] 7)) t := fun t k => go0 t (by
    show Steps p.tables e below (s₁.setTop (mkF m 0 #[.val (.ref a1), .unset, .unset, .unset, .unset, .unset, .unset] [])) _
    refine XS.lconst X0.here hx rfl (hb hby fits_0) ?_
    show Steps p.tables e below (s₁.setTop (mkF m 1 #[.val (.ref a1), .unset, .unset, .unset, .unset, .unset, .unset] [(.long (1 : Int64))])) _
    refine XS.lstoreN X0.here hx rfl (hb hby fits_1) rfl (l' := #[.val (.ref a1), .val (.long (1 : Int64)), .second, .unset, .unset, .unset, .unset]) rfl ?_
    show Steps p.tables e below (s₁.setTop (mkF m 2 #[.val (.ref a1), .val (.long (1 : Int64)), .second, .unset, .unset, .unset, .unset] [])) _
    refine XS.aloadN X0.here hx rfl (hb hby fits_2) rfl rfl ?_
    show Steps p.tables e below (s₁.setTop (mkF m 3 #[.val (.ref a1), .val (.long (1 : Int64)), .second, .unset, .unset, .unset, .unset] [(.ref a1)])) _
    refine XS.astoreN X0.here hx rfl (hb hby fits_3) rfl rfl (l' := #[.val (.ref a1), .val (.long (1 : Int64)), .second, .val (.ref a1), .unset, .unset, .unset]) rfl ?_
    show Steps p.tables e below (s₁.setTop (mkF m 4 #[.val (.ref a1), .val (.long (1 : Int64)), .second, .val (.ref a1), .unset, .unset, .unset] [])) _
    refine XS.aloadN X0.here hx rfl (hb hby fits_4) rfl rfl ?_
    exact k)
  obtain ⟨cl1, Ar1, q1, S1, M1, H1, G1⟩ := id V1
  have go3 : ∀ t, Steps p.tables e below (s₁.setTop (mkF m 6 #[.val (.ref a1), .val (.long (1 : Int64)), .second, .val (.ref a1), .unset, .unset, .unset] [(.int (3 : Int32))])) t → Steps p.tables e below (s₁.setTop (entryFrame m #[(.ref a1)] 7)) t := fun t k => go2 t (by
    show Steps p.tables e below (s₁.setTop (mkF m 5 #[.val (.ref a1), .val (.long (1 : Int64)), .second, .val (.ref a1), .unset, .unset, .unset] [(.ref a1)])) _
    refine X0.arraylength hx (by rw [e0]; exact Ar1.1) (State.isArrayOf_alike hZ.alike Ar1.2.1) (g := (mkF m 5 #[.val (.ref a1), .val (.long (1 : Int64)), .second, .val (.ref a1), .unset, .unset, .unset] [(.ref a1)])) rfl rfl (hb hby fits_5) _ ?_
    rw [len_of S1 M1]
    exact k)
  have go5 : ∀ t, Steps p.tables e below (s₁.setTop (mkF m 21 #[.val (.ref a1), .val (.long (1 : Int64)), .second, .val (.ref a1), .val (.int (3 : Int32)), .val (.int (0 : Int32)), .unset] [(.int (0 : Int32)), (.ref a1)])) t → Steps p.tables e below (s₁.setTop (entryFrame m #[(.ref a1)] 7)) t := fun t k => go3 t (by
    show Steps p.tables e below (s₁.setTop (mkF m 6 #[.val (.ref a1), .val (.long (1 : Int64)), .second, .val (.ref a1), .unset, .unset, .unset] [(.int (3 : Int32))])) _
    refine XS.istore X0.here hx rfl (hb hby fits_6) rfl (l' := #[.val (.ref a1), .val (.long (1 : Int64)), .second, .val (.ref a1), .val (.int (3 : Int32)), .unset, .unset]) rfl ?_
    show Steps p.tables e below (s₁.setTop (mkF m 8 #[.val (.ref a1), .val (.long (1 : Int64)), .second, .val (.ref a1), .val (.int (3 : Int32)), .unset, .unset] [])) _
    refine XS.iconst X0.here hx rfl (hb hby fits_8) ?_
    show Steps p.tables e below (s₁.setTop (mkF m 9 #[.val (.ref a1), .val (.long (1 : Int64)), .second, .val (.ref a1), .val (.int (3 : Int32)), .unset, .unset] [(.int (0 : Int32))])) _
    refine XS.istore X0.here hx rfl (hb hby fits_9) rfl (l' := #[.val (.ref a1), .val (.long (1 : Int64)), .second, .val (.ref a1), .val (.int (3 : Int32)), .val (.int (0 : Int32)), .unset]) rfl ?_
    show Steps p.tables e below (s₁.setTop (mkF m 11 #[.val (.ref a1), .val (.long (1 : Int64)), .second, .val (.ref a1), .val (.int (3 : Int32)), .val (.int (0 : Int32)), .unset] [])) _
    refine XS.iload X0.here hx rfl (hb hby fits_11) rfl ?_
    show Steps p.tables e below (s₁.setTop (mkF m 13 #[.val (.ref a1), .val (.long (1 : Int64)), .second, .val (.ref a1), .val (.int (3 : Int32)), .val (.int (0 : Int32)), .unset] [(.int (0 : Int32))])) _
    refine XS.iload X0.here hx rfl (hb hby fits_13) rfl ?_
    show Steps p.tables e below (s₁.setTop (mkF m 15 #[.val (.ref a1), .val (.long (1 : Int64)), .second, .val (.ref a1), .val (.int (3 : Int32)), .val (.int (0 : Int32)), .unset] [(.int (3 : Int32)), (.int (0 : Int32))])) _
    refine XS.icmpNo X0.here hx rfl (hb hby fits_15) rfl (tlt (by decide : (0 : Int32) < (3 : Int32))).2.1 ?_
    show Steps p.tables e below (s₁.setTop (mkF m 18 #[.val (.ref a1), .val (.long (1 : Int64)), .second, .val (.ref a1), .val (.int (3 : Int32)), .val (.int (0 : Int32)), .unset] [])) _
    refine XS.aloadN X0.here hx rfl (hb hby fits_18) rfl rfl ?_
    show Steps p.tables e below (s₁.setTop (mkF m 19 #[.val (.ref a1), .val (.long (1 : Int64)), .second, .val (.ref a1), .val (.int (3 : Int32)), .val (.int (0 : Int32)), .unset] [(.ref a1)])) _
    refine XS.iload X0.here hx rfl (hb hby fits_19) rfl ?_
    exact k)
  obtain ⟨cl4, Ar4, q4, S4, M4, H4, G4⟩ := id V1
  have go6 : ∀ t, Steps p.tables e below (s₁.setTop (mkF m 22 #[.val (.ref a1), .val (.long (1 : Int64)), .second, .val (.ref a1), .val (.int (3 : Int32)), .val (.int (0 : Int32)), .unset] [(.int x0)])) t → Steps p.tables e below (s₁.setTop (entryFrame m #[(.ref a1)] 7)) t := fun t k => go5 t (by
    show Steps p.tables e below (s₁.setTop (mkF m 21 #[.val (.ref a1), .val (.long (1 : Int64)), .second, .val (.ref a1), .val (.int (3 : Int32)), .val (.int (0 : Int32)), .unset] [(.int (0 : Int32)), (.ref a1)])) _
    refine X0.iaload hx (j := (0 : Int32)) (v := (.int x0)) (by rw [e0]; exact Ar4.1) (State.isArrayOf_alike hZ.alike Ar4.2.1) Ar4.2.2 (inb_of S4 ⟨by decide, by decide⟩) (H4.at (inb_of S4 ⟨by decide, by decide⟩) rfl) (g := (mkF m 21 #[.val (.ref a1), .val (.long (1 : Int64)), .second, .val (.ref a1), .val (.int (3 : Int32)), .val (.int (0 : Int32)), .unset] [(.int (0 : Int32)), (.ref a1)])) rfl rfl (hb hby fits_21) _ ?_
    exact k)
  have go7 : ∀ t, Steps p.tables e below (s₁.setTop (mkF m 32 #[.val (.ref a1), .val (.long (1 : Int64)), .second, .val (.ref a1), .val (.int (3 : Int32)), .val (.int (0 : Int32)), .val (.int x0)] [(.long (2147483640 : Int64)), (.long ((1 : Int64) * (x0.toInt64)))])) t → Steps p.tables e below (s₁.setTop (entryFrame m #[(.ref a1)] 7)) t := fun t k => go6 t (by
    show Steps p.tables e below (s₁.setTop (mkF m 22 #[.val (.ref a1), .val (.long (1 : Int64)), .second, .val (.ref a1), .val (.int (3 : Int32)), .val (.int (0 : Int32)), .unset] [(.int x0)])) _
    refine XS.istore X0.here hx rfl (hb hby fits_22) rfl (l' := #[.val (.ref a1), .val (.long (1 : Int64)), .second, .val (.ref a1), .val (.int (3 : Int32)), .val (.int (0 : Int32)), .val (.int x0)]) rfl ?_
    show Steps p.tables e below (s₁.setTop (mkF m 24 #[.val (.ref a1), .val (.long (1 : Int64)), .second, .val (.ref a1), .val (.int (3 : Int32)), .val (.int (0 : Int32)), .val (.int x0)] [])) _
    refine XS.lloadN X0.here hx rfl (hb hby fits_24) rfl ?_
    show Steps p.tables e below (s₁.setTop (mkF m 25 #[.val (.ref a1), .val (.long (1 : Int64)), .second, .val (.ref a1), .val (.int (3 : Int32)), .val (.int (0 : Int32)), .val (.int x0)] [(.long (1 : Int64))])) _
    refine XS.iload X0.here hx rfl (hb hby fits_25) rfl ?_
    show Steps p.tables e below (s₁.setTop (mkF m 27 #[.val (.ref a1), .val (.long (1 : Int64)), .second, .val (.ref a1), .val (.int (3 : Int32)), .val (.int (0 : Int32)), .val (.int x0)] [(.int x0), (.long (1 : Int64))])) _
    refine XS.i2l X0.here hx rfl (hb hby fits_27) rfl ?_
    show Steps p.tables e below (s₁.setTop (mkF m 28 #[.val (.ref a1), .val (.long (1 : Int64)), .second, .val (.ref a1), .val (.int (3 : Int32)), .val (.int (0 : Int32)), .val (.int x0)] [(.long (x0.toInt64)), (.long (1 : Int64))])) _
    refine XS.lmul X0.here hx rfl (hb hby fits_28) rfl ?_
    show Steps p.tables e below (s₁.setTop (mkF m 29 #[.val (.ref a1), .val (.long (1 : Int64)), .second, .val (.ref a1), .val (.int (3 : Int32)), .val (.int (0 : Int32)), .val (.int x0)] [(.long ((1 : Int64) * (x0.toInt64)))])) _
    refine X0.ldc2J hx hown (mvT hZ (hw _ (List.mem_of_getElem? (i := 12) rfl))) rfl (hb hby fits_29) ?_
    exact k)
  obtain ⟨_, _, ⟨T8, L8, k8, n8⟩, -, X8, ⟨Lc8, hQ8, l8, y8, z8⟩, st8⟩ := Jvm.LawKit.callS X0 hx (y := (⟨"java/lang/Math", "min", "(JJ)J"⟩ : MethodName)) hown (mvT hZ (hw _ (List.mem_of_getElem? (i := 13) rfl))) (mvT hZ (hw _ (List.mem_of_getElem? (i := 14) rfl))) (mvT hZ (hw _ (List.mem_of_getElem? (i := 15) rfl))) (mvT hZ (hw _ (List.mem_of_getElem? (i := 16) rfl))) (by decide) (backOf (W := 0) (rm_mj l Z a0 hw [] ((1 : Int64) * (x0.toInt64)) (2147483640 : Int64) h0 n0 Z0 ) hZ (hw _ (List.mem_of_getElem? (i := 16) rfl)) (hw _ (List.mem_of_getElem? (i := 15) rfl)) (by decide) (by decide)) (g := (mkF m 32 #[.val (.ref a1), .val (.long (1 : Int64)), .second, .val (.ref a1), .val (.int (3 : Int32)), .val (.int (0 : Int32)), .val (.int x0)] [(.long (2147483640 : Int64)), (.long ((1 : Int64) * (x0.toInt64)))])) rfl (by rw [hml]; rfl) (argsL := [(.long ((1 : Int64) * (x0.toInt64))), (.long (2147483640 : Int64))]) (rest := []) (lenOf pd_0 rfl) rfl (by show 2 * 0 + _ ≤ _; exact Nat.le_of_eq rfl) (hb hby fits_32) (fun _ _ => ⟨rfl, e0, (by decide : 0 + 0 ≤ _), (by decide : 0 + 0 ≤ _)⟩)
  dsimp only [Pt.U, Pt.locs, Pt.cells, Pt.slots] at X8 l8 y8 z8 st8 hQ8
  subst l8 y8 z8
  obtain ⟨rfl, N8q, e8⟩ := hQ8
  have N8 := Fr.app N0 N8q
  have go9 : ∀ t, Steps p.tables e below (T8.setTop (mkF m 35 #[.val (.ref a1), .val (.long (1 : Int64)), .second, .val (.ref a1), .val (.int (3 : Int32)), .val (.int (0 : Int32)), .val (.int x0)] [(.long (own_cap (1 : Int64) x0))])) t → Steps p.tables e below (s₁.setTop (entryFrame m #[(.ref a1)] 7)) t := fun t k => go7 t (st8 t k)
  have go11 : ∀ t, Steps p.tables e below (T8.setTop (mkF m 21 #[.val (.ref a1), .val (.long (own_cap (1 : Int64) x0)), .second, .val (.ref a1), .val (.int (3 : Int32)), .val (.int (1 : Int32)), .val (.int x0)] [(.int (1 : Int32)), (.ref a1)])) t → Steps p.tables e below (s₁.setTop (entryFrame m #[(.ref a1)] 7)) t := fun t k => go9 t (by
    show Steps p.tables e below (T8.setTop (mkF m 35 #[.val (.ref a1), .val (.long (1 : Int64)), .second, .val (.ref a1), .val (.int (3 : Int32)), .val (.int (0 : Int32)), .val (.int x0)] [(.long (own_cap (1 : Int64) x0))])) _
    refine XS.lstoreN X8.here hx rfl (hb hby fits_35) rfl (l' := #[.val (.ref a1), .val (.long (own_cap (1 : Int64) x0)), .second, .val (.ref a1), .val (.int (3 : Int32)), .val (.int (0 : Int32)), .val (.int x0)]) rfl ?_
    show Steps p.tables e below (T8.setTop (mkF m 36 #[.val (.ref a1), .val (.long (own_cap (1 : Int64) x0)), .second, .val (.ref a1), .val (.int (3 : Int32)), .val (.int (0 : Int32)), .val (.int x0)] [])) _
    refine XS.iinc X8.here hx rfl (hb hby fits_36) rfl (l' := #[.val (.ref a1), .val (.long (own_cap (1 : Int64) x0)), .second, .val (.ref a1), .val (.int (3 : Int32)), .val (.int (1 : Int32)), .val (.int x0)]) rfl ?_
    show Steps p.tables e below (T8.setTop (mkF m 39 #[.val (.ref a1), .val (.long (own_cap (1 : Int64) x0)), .second, .val (.ref a1), .val (.int (3 : Int32)), .val (.int (1 : Int32)), .val (.int x0)] [])) _
    refine XS.goto X8.here hx rfl (pc0 := 39) (pc' := 11) rfl (hb hby fits_39) (by decide) (by decide) ?_
    show Steps p.tables e below (T8.setTop (mkF m 11 #[.val (.ref a1), .val (.long (own_cap (1 : Int64) x0)), .second, .val (.ref a1), .val (.int (3 : Int32)), .val (.int (1 : Int32)), .val (.int x0)] [])) _
    refine XS.iload X8.here hx rfl (hb hby fits_11) rfl ?_
    show Steps p.tables e below (T8.setTop (mkF m 13 #[.val (.ref a1), .val (.long (own_cap (1 : Int64) x0)), .second, .val (.ref a1), .val (.int (3 : Int32)), .val (.int (1 : Int32)), .val (.int x0)] [(.int (1 : Int32))])) _
    refine XS.iload X8.here hx rfl (hb hby fits_13) rfl ?_
    show Steps p.tables e below (T8.setTop (mkF m 15 #[.val (.ref a1), .val (.long (own_cap (1 : Int64) x0)), .second, .val (.ref a1), .val (.int (3 : Int32)), .val (.int (1 : Int32)), .val (.int x0)] [(.int (3 : Int32)), (.int (1 : Int32))])) _
    refine XS.icmpNo X8.here hx rfl (hb hby fits_15) rfl (tlt (by decide : (1 : Int32) < (3 : Int32))).2.1 ?_
    show Steps p.tables e below (T8.setTop (mkF m 18 #[.val (.ref a1), .val (.long (own_cap (1 : Int64) x0)), .second, .val (.ref a1), .val (.int (3 : Int32)), .val (.int (1 : Int32)), .val (.int x0)] [])) _
    refine XS.aloadN X8.here hx rfl (hb hby fits_18) rfl rfl ?_
    show Steps p.tables e below (T8.setTop (mkF m 19 #[.val (.ref a1), .val (.long (own_cap (1 : Int64) x0)), .second, .val (.ref a1), .val (.int (3 : Int32)), .val (.int (1 : Int32)), .val (.int x0)] [(.ref a1)])) _
    refine XS.iload X8.here hx rfl (hb hby fits_19) rfl ?_
    exact k)
  obtain ⟨cl10, Ar10, q10, S10, M10, H10, G10⟩ := id V1
  have go12 : ∀ t, Steps p.tables e below (T8.setTop (mkF m 22 #[.val (.ref a1), .val (.long (own_cap (1 : Int64) x0)), .second, .val (.ref a1), .val (.int (3 : Int32)), .val (.int (1 : Int32)), .val (.int x0)] [(.int x1)])) t → Steps p.tables e below (s₁.setTop (entryFrame m #[(.ref a1)] 7)) t := fun t k => go11 t (by
    show Steps p.tables e below (T8.setTop (mkF m 21 #[.val (.ref a1), .val (.long (own_cap (1 : Int64) x0)), .second, .val (.ref a1), .val (.int (3 : Int32)), .val (.int (1 : Int32)), .val (.int x0)] [(.int (1 : Int32)), (.ref a1)])) _
    refine X8.iaload hx (j := (1 : Int32)) (v := (.int x1)) (by rw [e8]; exact Ar10.1) (State.isArrayOf_alike hZ.alike Ar10.2.1) Ar10.2.2 (inb_of S10 ⟨by decide, by decide⟩) (H10.at (inb_of S10 ⟨by decide, by decide⟩) rfl) (g := (mkF m 21 #[.val (.ref a1), .val (.long (own_cap (1 : Int64) x0)), .second, .val (.ref a1), .val (.int (3 : Int32)), .val (.int (1 : Int32)), .val (.int x0)] [(.int (1 : Int32)), (.ref a1)])) rfl rfl (hb hby fits_21) _ ?_
    exact k)
  have go13 : ∀ t, Steps p.tables e below (T8.setTop (mkF m 32 #[.val (.ref a1), .val (.long (own_cap (1 : Int64) x0)), .second, .val (.ref a1), .val (.int (3 : Int32)), .val (.int (1 : Int32)), .val (.int x1)] [(.long (2147483640 : Int64)), (.long ((own_cap (1 : Int64) x0) * (x1.toInt64)))])) t → Steps p.tables e below (s₁.setTop (entryFrame m #[(.ref a1)] 7)) t := fun t k => go12 t (by
    show Steps p.tables e below (T8.setTop (mkF m 22 #[.val (.ref a1), .val (.long (own_cap (1 : Int64) x0)), .second, .val (.ref a1), .val (.int (3 : Int32)), .val (.int (1 : Int32)), .val (.int x0)] [(.int x1)])) _
    refine XS.istore X8.here hx rfl (hb hby fits_22) rfl (l' := #[.val (.ref a1), .val (.long (own_cap (1 : Int64) x0)), .second, .val (.ref a1), .val (.int (3 : Int32)), .val (.int (1 : Int32)), .val (.int x1)]) rfl ?_
    show Steps p.tables e below (T8.setTop (mkF m 24 #[.val (.ref a1), .val (.long (own_cap (1 : Int64) x0)), .second, .val (.ref a1), .val (.int (3 : Int32)), .val (.int (1 : Int32)), .val (.int x1)] [])) _
    refine XS.lloadN X8.here hx rfl (hb hby fits_24) rfl ?_
    show Steps p.tables e below (T8.setTop (mkF m 25 #[.val (.ref a1), .val (.long (own_cap (1 : Int64) x0)), .second, .val (.ref a1), .val (.int (3 : Int32)), .val (.int (1 : Int32)), .val (.int x1)] [(.long (own_cap (1 : Int64) x0))])) _
    refine XS.iload X8.here hx rfl (hb hby fits_25) rfl ?_
    show Steps p.tables e below (T8.setTop (mkF m 27 #[.val (.ref a1), .val (.long (own_cap (1 : Int64) x0)), .second, .val (.ref a1), .val (.int (3 : Int32)), .val (.int (1 : Int32)), .val (.int x1)] [(.int x1), (.long (own_cap (1 : Int64) x0))])) _
    refine XS.i2l X8.here hx rfl (hb hby fits_27) rfl ?_
    show Steps p.tables e below (T8.setTop (mkF m 28 #[.val (.ref a1), .val (.long (own_cap (1 : Int64) x0)), .second, .val (.ref a1), .val (.int (3 : Int32)), .val (.int (1 : Int32)), .val (.int x1)] [(.long (x1.toInt64)), (.long (own_cap (1 : Int64) x0))])) _
    refine XS.lmul X8.here hx rfl (hb hby fits_28) rfl ?_
    show Steps p.tables e below (T8.setTop (mkF m 29 #[.val (.ref a1), .val (.long (own_cap (1 : Int64) x0)), .second, .val (.ref a1), .val (.int (3 : Int32)), .val (.int (1 : Int32)), .val (.int x1)] [(.long ((own_cap (1 : Int64) x0) * (x1.toInt64)))])) _
    refine X8.ldc2J hx hown (mvT hZ (hw _ (List.mem_of_getElem? (i := 12) rfl))) rfl (hb hby fits_29) ?_
    exact k)
  obtain ⟨_, _, ⟨T14, L14, k14, n14⟩, -, X14, ⟨Lc14, hQ14, l14, y14, z14⟩, st14⟩ := Jvm.LawKit.callS X8 hx (y := (⟨"java/lang/Math", "min", "(JJ)J"⟩ : MethodName)) hown (mvT hZ (hw _ (List.mem_of_getElem? (i := 13) rfl))) (mvT hZ (hw _ (List.mem_of_getElem? (i := 14) rfl))) (mvT hZ (hw _ (List.mem_of_getElem? (i := 15) rfl))) (mvT hZ (hw _ (List.mem_of_getElem? (i := 16) rfl))) (by decide) (backOf (W := 0) (rm_mj l Z a0 hw [] ((own_cap (1 : Int64) x0) * (x1.toInt64)) (2147483640 : Int64) h0 n0 Z0 ) hZ (hw _ (List.mem_of_getElem? (i := 16) rfl)) (hw _ (List.mem_of_getElem? (i := 15) rfl)) (by decide) (by decide)) (g := (mkF m 32 #[.val (.ref a1), .val (.long (own_cap (1 : Int64) x0)), .second, .val (.ref a1), .val (.int (3 : Int32)), .val (.int (1 : Int32)), .val (.int x1)] [(.long (2147483640 : Int64)), (.long ((own_cap (1 : Int64) x0) * (x1.toInt64)))])) rfl (by rw [hml]; rfl) (argsL := [(.long ((own_cap (1 : Int64) x0) * (x1.toInt64))), (.long (2147483640 : Int64))]) (rest := []) (lenOf pd_0 rfl) rfl (by show 2 * 0 + _ ≤ _; exact Nat.le_of_eq rfl) (hb hby fits_32) (fun _ _ => ⟨rfl, e8, (by decide : 0 + 0 ≤ _), (by decide : 0 + 0 ≤ _)⟩)
  dsimp only [Pt.U, Pt.locs, Pt.cells, Pt.slots] at X14 l14 y14 z14 st14 hQ14
  subst l14 y14 z14
  obtain ⟨rfl, N14q, e14⟩ := hQ14
  have N14 := Fr.app N8 N14q
  have go15 : ∀ t, Steps p.tables e below (T14.setTop (mkF m 35 #[.val (.ref a1), .val (.long (own_cap (1 : Int64) x0)), .second, .val (.ref a1), .val (.int (3 : Int32)), .val (.int (1 : Int32)), .val (.int x1)] [(.long (own_cap (own_cap (1 : Int64) x0) x1))])) t → Steps p.tables e below (s₁.setTop (entryFrame m #[(.ref a1)] 7)) t := fun t k => go13 t (st14 t k)
  have go17 : ∀ t, Steps p.tables e below (T14.setTop (mkF m 21 #[.val (.ref a1), .val (.long (own_cap (own_cap (1 : Int64) x0) x1)), .second, .val (.ref a1), .val (.int (3 : Int32)), .val (.int (2 : Int32)), .val (.int x1)] [(.int (2 : Int32)), (.ref a1)])) t → Steps p.tables e below (s₁.setTop (entryFrame m #[(.ref a1)] 7)) t := fun t k => go15 t (by
    show Steps p.tables e below (T14.setTop (mkF m 35 #[.val (.ref a1), .val (.long (own_cap (1 : Int64) x0)), .second, .val (.ref a1), .val (.int (3 : Int32)), .val (.int (1 : Int32)), .val (.int x1)] [(.long (own_cap (own_cap (1 : Int64) x0) x1))])) _
    refine XS.lstoreN X14.here hx rfl (hb hby fits_35) rfl (l' := #[.val (.ref a1), .val (.long (own_cap (own_cap (1 : Int64) x0) x1)), .second, .val (.ref a1), .val (.int (3 : Int32)), .val (.int (1 : Int32)), .val (.int x1)]) rfl ?_
    show Steps p.tables e below (T14.setTop (mkF m 36 #[.val (.ref a1), .val (.long (own_cap (own_cap (1 : Int64) x0) x1)), .second, .val (.ref a1), .val (.int (3 : Int32)), .val (.int (1 : Int32)), .val (.int x1)] [])) _
    refine XS.iinc X14.here hx rfl (hb hby fits_36) rfl (l' := #[.val (.ref a1), .val (.long (own_cap (own_cap (1 : Int64) x0) x1)), .second, .val (.ref a1), .val (.int (3 : Int32)), .val (.int (2 : Int32)), .val (.int x1)]) rfl ?_
    show Steps p.tables e below (T14.setTop (mkF m 39 #[.val (.ref a1), .val (.long (own_cap (own_cap (1 : Int64) x0) x1)), .second, .val (.ref a1), .val (.int (3 : Int32)), .val (.int (2 : Int32)), .val (.int x1)] [])) _
    refine XS.goto X14.here hx rfl (pc0 := 39) (pc' := 11) rfl (hb hby fits_39) (by decide) (by decide) ?_
    show Steps p.tables e below (T14.setTop (mkF m 11 #[.val (.ref a1), .val (.long (own_cap (own_cap (1 : Int64) x0) x1)), .second, .val (.ref a1), .val (.int (3 : Int32)), .val (.int (2 : Int32)), .val (.int x1)] [])) _
    refine XS.iload X14.here hx rfl (hb hby fits_11) rfl ?_
    show Steps p.tables e below (T14.setTop (mkF m 13 #[.val (.ref a1), .val (.long (own_cap (own_cap (1 : Int64) x0) x1)), .second, .val (.ref a1), .val (.int (3 : Int32)), .val (.int (2 : Int32)), .val (.int x1)] [(.int (2 : Int32))])) _
    refine XS.iload X14.here hx rfl (hb hby fits_13) rfl ?_
    show Steps p.tables e below (T14.setTop (mkF m 15 #[.val (.ref a1), .val (.long (own_cap (own_cap (1 : Int64) x0) x1)), .second, .val (.ref a1), .val (.int (3 : Int32)), .val (.int (2 : Int32)), .val (.int x1)] [(.int (3 : Int32)), (.int (2 : Int32))])) _
    refine XS.icmpNo X14.here hx rfl (hb hby fits_15) rfl (tlt (by decide : (2 : Int32) < (3 : Int32))).2.1 ?_
    show Steps p.tables e below (T14.setTop (mkF m 18 #[.val (.ref a1), .val (.long (own_cap (own_cap (1 : Int64) x0) x1)), .second, .val (.ref a1), .val (.int (3 : Int32)), .val (.int (2 : Int32)), .val (.int x1)] [])) _
    refine XS.aloadN X14.here hx rfl (hb hby fits_18) rfl rfl ?_
    show Steps p.tables e below (T14.setTop (mkF m 19 #[.val (.ref a1), .val (.long (own_cap (own_cap (1 : Int64) x0) x1)), .second, .val (.ref a1), .val (.int (3 : Int32)), .val (.int (2 : Int32)), .val (.int x1)] [(.ref a1)])) _
    refine XS.iload X14.here hx rfl (hb hby fits_19) rfl ?_
    exact k)
  obtain ⟨cl16, Ar16, q16, S16, M16, H16, G16⟩ := id V1
  have go18 : ∀ t, Steps p.tables e below (T14.setTop (mkF m 22 #[.val (.ref a1), .val (.long (own_cap (own_cap (1 : Int64) x0) x1)), .second, .val (.ref a1), .val (.int (3 : Int32)), .val (.int (2 : Int32)), .val (.int x1)] [(.int x2)])) t → Steps p.tables e below (s₁.setTop (entryFrame m #[(.ref a1)] 7)) t := fun t k => go17 t (by
    show Steps p.tables e below (T14.setTop (mkF m 21 #[.val (.ref a1), .val (.long (own_cap (own_cap (1 : Int64) x0) x1)), .second, .val (.ref a1), .val (.int (3 : Int32)), .val (.int (2 : Int32)), .val (.int x1)] [(.int (2 : Int32)), (.ref a1)])) _
    refine X14.iaload hx (j := (2 : Int32)) (v := (.int x2)) (by rw [e14]; exact Ar16.1) (State.isArrayOf_alike hZ.alike Ar16.2.1) Ar16.2.2 (inb_of S16 ⟨by decide, by decide⟩) (H16.at (inb_of S16 ⟨by decide, by decide⟩) rfl) (g := (mkF m 21 #[.val (.ref a1), .val (.long (own_cap (own_cap (1 : Int64) x0) x1)), .second, .val (.ref a1), .val (.int (3 : Int32)), .val (.int (2 : Int32)), .val (.int x1)] [(.int (2 : Int32)), (.ref a1)])) rfl rfl (hb hby fits_21) _ ?_
    exact k)
  have go19 : ∀ t, Steps p.tables e below (T14.setTop (mkF m 32 #[.val (.ref a1), .val (.long (own_cap (own_cap (1 : Int64) x0) x1)), .second, .val (.ref a1), .val (.int (3 : Int32)), .val (.int (2 : Int32)), .val (.int x2)] [(.long (2147483640 : Int64)), (.long ((own_cap (own_cap (1 : Int64) x0) x1) * (x2.toInt64)))])) t → Steps p.tables e below (s₁.setTop (entryFrame m #[(.ref a1)] 7)) t := fun t k => go18 t (by
    show Steps p.tables e below (T14.setTop (mkF m 22 #[.val (.ref a1), .val (.long (own_cap (own_cap (1 : Int64) x0) x1)), .second, .val (.ref a1), .val (.int (3 : Int32)), .val (.int (2 : Int32)), .val (.int x1)] [(.int x2)])) _
    refine XS.istore X14.here hx rfl (hb hby fits_22) rfl (l' := #[.val (.ref a1), .val (.long (own_cap (own_cap (1 : Int64) x0) x1)), .second, .val (.ref a1), .val (.int (3 : Int32)), .val (.int (2 : Int32)), .val (.int x2)]) rfl ?_
    show Steps p.tables e below (T14.setTop (mkF m 24 #[.val (.ref a1), .val (.long (own_cap (own_cap (1 : Int64) x0) x1)), .second, .val (.ref a1), .val (.int (3 : Int32)), .val (.int (2 : Int32)), .val (.int x2)] [])) _
    refine XS.lloadN X14.here hx rfl (hb hby fits_24) rfl ?_
    show Steps p.tables e below (T14.setTop (mkF m 25 #[.val (.ref a1), .val (.long (own_cap (own_cap (1 : Int64) x0) x1)), .second, .val (.ref a1), .val (.int (3 : Int32)), .val (.int (2 : Int32)), .val (.int x2)] [(.long (own_cap (own_cap (1 : Int64) x0) x1))])) _
    refine XS.iload X14.here hx rfl (hb hby fits_25) rfl ?_
    show Steps p.tables e below (T14.setTop (mkF m 27 #[.val (.ref a1), .val (.long (own_cap (own_cap (1 : Int64) x0) x1)), .second, .val (.ref a1), .val (.int (3 : Int32)), .val (.int (2 : Int32)), .val (.int x2)] [(.int x2), (.long (own_cap (own_cap (1 : Int64) x0) x1))])) _
    refine XS.i2l X14.here hx rfl (hb hby fits_27) rfl ?_
    show Steps p.tables e below (T14.setTop (mkF m 28 #[.val (.ref a1), .val (.long (own_cap (own_cap (1 : Int64) x0) x1)), .second, .val (.ref a1), .val (.int (3 : Int32)), .val (.int (2 : Int32)), .val (.int x2)] [(.long (x2.toInt64)), (.long (own_cap (own_cap (1 : Int64) x0) x1))])) _
    refine XS.lmul X14.here hx rfl (hb hby fits_28) rfl ?_
    show Steps p.tables e below (T14.setTop (mkF m 29 #[.val (.ref a1), .val (.long (own_cap (own_cap (1 : Int64) x0) x1)), .second, .val (.ref a1), .val (.int (3 : Int32)), .val (.int (2 : Int32)), .val (.int x2)] [(.long ((own_cap (own_cap (1 : Int64) x0) x1) * (x2.toInt64)))])) _
    refine X14.ldc2J hx hown (mvT hZ (hw _ (List.mem_of_getElem? (i := 12) rfl))) rfl (hb hby fits_29) ?_
    exact k)
  obtain ⟨_, _, ⟨T20, L20, k20, n20⟩, -, X20, ⟨Lc20, hQ20, l20, y20, z20⟩, st20⟩ := Jvm.LawKit.callS X14 hx (y := (⟨"java/lang/Math", "min", "(JJ)J"⟩ : MethodName)) hown (mvT hZ (hw _ (List.mem_of_getElem? (i := 13) rfl))) (mvT hZ (hw _ (List.mem_of_getElem? (i := 14) rfl))) (mvT hZ (hw _ (List.mem_of_getElem? (i := 15) rfl))) (mvT hZ (hw _ (List.mem_of_getElem? (i := 16) rfl))) (by decide) (backOf (W := 0) (rm_mj l Z a0 hw [] ((own_cap (own_cap (1 : Int64) x0) x1) * (x2.toInt64)) (2147483640 : Int64) h0 n0 Z0 ) hZ (hw _ (List.mem_of_getElem? (i := 16) rfl)) (hw _ (List.mem_of_getElem? (i := 15) rfl)) (by decide) (by decide)) (g := (mkF m 32 #[.val (.ref a1), .val (.long (own_cap (own_cap (1 : Int64) x0) x1)), .second, .val (.ref a1), .val (.int (3 : Int32)), .val (.int (2 : Int32)), .val (.int x2)] [(.long (2147483640 : Int64)), (.long ((own_cap (own_cap (1 : Int64) x0) x1) * (x2.toInt64)))])) rfl (by rw [hml]; rfl) (argsL := [(.long ((own_cap (own_cap (1 : Int64) x0) x1) * (x2.toInt64))), (.long (2147483640 : Int64))]) (rest := []) (lenOf pd_0 rfl) rfl (by show 2 * 0 + _ ≤ _; exact Nat.le_of_eq rfl) (hb hby fits_32) (fun _ _ => ⟨rfl, e14, (by decide : 0 + 0 ≤ _), (by decide : 0 + 0 ≤ _)⟩)
  dsimp only [Pt.U, Pt.locs, Pt.cells, Pt.slots] at X20 l20 y20 z20 st20 hQ20
  subst l20 y20 z20
  obtain ⟨rfl, N20q, e20⟩ := hQ20
  have N20 := Fr.app N14 N20q
  have go21 : ∀ t, Steps p.tables e below (T20.setTop (mkF m 35 #[.val (.ref a1), .val (.long (own_cap (own_cap (1 : Int64) x0) x1)), .second, .val (.ref a1), .val (.int (3 : Int32)), .val (.int (2 : Int32)), .val (.int x2)] [(.long (own_cap (own_cap (own_cap (1 : Int64) x0) x1) x2))])) t → Steps p.tables e below (s₁.setTop (entryFrame m #[(.ref a1)] 7)) t := fun t k => go19 t (st20 t k)
  have go22 : ∀ t, Steps p.tables e below (T20.setTop (mkF m 47 #[.val (.ref a1), .val (.long (own_cap (own_cap (own_cap (1 : Int64) x0) x1) x2)), .second, .val (.ref a1), .val (.int (3 : Int32)), .val (.int (3 : Int32)), .val (.int x2)] [(.int (lcmpW (own_cap (own_cap (own_cap (1 : Int64) x0) x1) x2) (2147483639 : Int64)))])) t → Steps p.tables e below (s₁.setTop (entryFrame m #[(.ref a1)] 7)) t := fun t k => go21 t (by
    show Steps p.tables e below (T20.setTop (mkF m 35 #[.val (.ref a1), .val (.long (own_cap (own_cap (1 : Int64) x0) x1)), .second, .val (.ref a1), .val (.int (3 : Int32)), .val (.int (2 : Int32)), .val (.int x2)] [(.long (own_cap (own_cap (own_cap (1 : Int64) x0) x1) x2))])) _
    refine XS.lstoreN X20.here hx rfl (hb hby fits_35) rfl (l' := #[.val (.ref a1), .val (.long (own_cap (own_cap (own_cap (1 : Int64) x0) x1) x2)), .second, .val (.ref a1), .val (.int (3 : Int32)), .val (.int (2 : Int32)), .val (.int x2)]) rfl ?_
    show Steps p.tables e below (T20.setTop (mkF m 36 #[.val (.ref a1), .val (.long (own_cap (own_cap (own_cap (1 : Int64) x0) x1) x2)), .second, .val (.ref a1), .val (.int (3 : Int32)), .val (.int (2 : Int32)), .val (.int x2)] [])) _
    refine XS.iinc X20.here hx rfl (hb hby fits_36) rfl (l' := #[.val (.ref a1), .val (.long (own_cap (own_cap (own_cap (1 : Int64) x0) x1) x2)), .second, .val (.ref a1), .val (.int (3 : Int32)), .val (.int (3 : Int32)), .val (.int x2)]) rfl ?_
    show Steps p.tables e below (T20.setTop (mkF m 39 #[.val (.ref a1), .val (.long (own_cap (own_cap (own_cap (1 : Int64) x0) x1) x2)), .second, .val (.ref a1), .val (.int (3 : Int32)), .val (.int (3 : Int32)), .val (.int x2)] [])) _
    refine XS.goto X20.here hx rfl (pc0 := 39) (pc' := 11) rfl (hb hby fits_39) (by decide) (by decide) ?_
    show Steps p.tables e below (T20.setTop (mkF m 11 #[.val (.ref a1), .val (.long (own_cap (own_cap (own_cap (1 : Int64) x0) x1) x2)), .second, .val (.ref a1), .val (.int (3 : Int32)), .val (.int (3 : Int32)), .val (.int x2)] [])) _
    refine XS.iload X20.here hx rfl (hb hby fits_11) rfl ?_
    show Steps p.tables e below (T20.setTop (mkF m 13 #[.val (.ref a1), .val (.long (own_cap (own_cap (own_cap (1 : Int64) x0) x1) x2)), .second, .val (.ref a1), .val (.int (3 : Int32)), .val (.int (3 : Int32)), .val (.int x2)] [(.int (3 : Int32))])) _
    refine XS.iload X20.here hx rfl (hb hby fits_13) rfl ?_
    show Steps p.tables e below (T20.setTop (mkF m 15 #[.val (.ref a1), .val (.long (own_cap (own_cap (own_cap (1 : Int64) x0) x1) x2)), .second, .val (.ref a1), .val (.int (3 : Int32)), .val (.int (3 : Int32)), .val (.int x2)] [(.int (3 : Int32)), (.int (3 : Int32))])) _
    refine XS.icmpYes X20.here hx rfl (pc0 := 15) (pc' := 42) rfl (hb hby fits_15) rfl (flt (by decide : ¬ ((3 : Int32) < (3 : Int32)))).2.1 (by decide) (by decide) ?_
    show Steps p.tables e below (T20.setTop (mkF m 42 #[.val (.ref a1), .val (.long (own_cap (own_cap (own_cap (1 : Int64) x0) x1) x2)), .second, .val (.ref a1), .val (.int (3 : Int32)), .val (.int (3 : Int32)), .val (.int x2)] [])) _
    refine XS.lloadN X20.here hx rfl (hb hby fits_42) rfl ?_
    show Steps p.tables e below (T20.setTop (mkF m 43 #[.val (.ref a1), .val (.long (own_cap (own_cap (own_cap (1 : Int64) x0) x1) x2)), .second, .val (.ref a1), .val (.int (3 : Int32)), .val (.int (3 : Int32)), .val (.int x2)] [(.long (own_cap (own_cap (own_cap (1 : Int64) x0) x1) x2))])) _
    refine X20.ldc2J hx hown (mvT hZ (hw _ (List.mem_of_getElem? (i := 6) rfl))) rfl (hb hby fits_43) ?_
    show Steps p.tables e below (T20.setTop (mkF m 46 #[.val (.ref a1), .val (.long (own_cap (own_cap (own_cap (1 : Int64) x0) x1) x2)), .second, .val (.ref a1), .val (.int (3 : Int32)), .val (.int (3 : Int32)), .val (.int x2)] [(.long (2147483639 : Int64)), (.long (own_cap (own_cap (own_cap (1 : Int64) x0) x1) x2))])) _
    refine XS.lcmp X20.here hx rfl (hb hby fits_46) rfl ?_
    exact k)
  by_cases hc23 : (2147483639 : Int64) < (own_cap (own_cap (own_cap (1 : Int64) x0) x1) x2)
  · have go24 : ∀ t, Steps p.tables e below (T20.setTop (mkF m 55 #[.val (.ref a1), .val (.long (own_cap (own_cap (own_cap (1 : Int64) x0) x1) x2)), .second, .val (.ref a1), .val (.int (3 : Int32)), .val (.int (3 : Int32)), .val (.int x2)] [(.int (0 : Int32))])) t → Steps p.tables e below (s₁.setTop (entryFrame m #[(.ref a1)] 7)) t := fun t k => go22 t (by
      show Steps p.tables e below (T20.setTop (mkF m 47 #[.val (.ref a1), .val (.long (own_cap (own_cap (own_cap (1 : Int64) x0) x1) x2)), .second, .val (.ref a1), .val (.int (3 : Int32)), .val (.int (3 : Int32)), .val (.int x2)] [(.int (lcmpW (own_cap (own_cap (own_cap (1 : Int64) x0) x1) x2) (2147483639 : Int64)))])) _
      refine XS.ifYes X20.here hx rfl (pc0 := 47) (pc' := 54) rfl (hb hby fits_47) rfl ((if0 _ _).trans (tlt ((lw_gt _ _).mpr hc23)).2.2.1) (by decide) (by decide) ?_
      show Steps p.tables e below (T20.setTop (mkF m 54 #[.val (.ref a1), .val (.long (own_cap (own_cap (own_cap (1 : Int64) x0) x1) x2)), .second, .val (.ref a1), .val (.int (3 : Int32)), .val (.int (3 : Int32)), .val (.int x2)] [])) _
      refine XS.iconst X20.here hx rfl (hb hby fits_54) ?_
      exact k)
    obtain ⟨fs, hr, hrun, hended, hW, hsame⟩ := X20.leave (v := some (.int (0 : Int32))) (fun h => by rw [Bd.returns] at h; cases h)
    refine ⟨_, _, go24 _ ?_, hrun, hended, _, _, rfl, ?_, ⟨_, rfl⟩, hW, hsame.mono (by decide) (by decide)⟩
    · exact retN X20 hx (t := .boolean) Bd.returns (by simp) (hb hby fits_55) hr
    · show QV (.int (own_fits3 x0 x1 x2)) h0 n0 _ T20.heap _
      rw [e20]
      exact ⟨congrArg some (congrArg Value.int (Eq.symm (show (own_fits3 x0 x1 x2) = (0 : Int32) from by unfold own_fits3; rw [if_pos hc23]))), N20, rfl⟩
  · have go25 : ∀ t, Steps p.tables e below (T20.setTop (mkF m 55 #[.val (.ref a1), .val (.long (own_cap (own_cap (own_cap (1 : Int64) x0) x1) x2)), .second, .val (.ref a1), .val (.int (3 : Int32)), .val (.int (3 : Int32)), .val (.int x2)] [(.int (1 : Int32))])) t → Steps p.tables e below (s₁.setTop (entryFrame m #[(.ref a1)] 7)) t := fun t k => go22 t (by
      show Steps p.tables e below (T20.setTop (mkF m 47 #[.val (.ref a1), .val (.long (own_cap (own_cap (own_cap (1 : Int64) x0) x1) x2)), .second, .val (.ref a1), .val (.int (3 : Int32)), .val (.int (3 : Int32)), .val (.int x2)] [(.int (lcmpW (own_cap (own_cap (own_cap (1 : Int64) x0) x1) x2) (2147483639 : Int64)))])) _
      refine XS.ifNo X20.here hx rfl (hb hby fits_47) rfl ((if0 _ _).trans (flt (mt (lw_gt _ _).mp hc23)).2.2.1) ?_
      show Steps p.tables e below (T20.setTop (mkF m 50 #[.val (.ref a1), .val (.long (own_cap (own_cap (own_cap (1 : Int64) x0) x1) x2)), .second, .val (.ref a1), .val (.int (3 : Int32)), .val (.int (3 : Int32)), .val (.int x2)] [])) _
      refine XS.iconst X20.here hx rfl (hb hby fits_50) ?_
      show Steps p.tables e below (T20.setTop (mkF m 51 #[.val (.ref a1), .val (.long (own_cap (own_cap (own_cap (1 : Int64) x0) x1) x2)), .second, .val (.ref a1), .val (.int (3 : Int32)), .val (.int (3 : Int32)), .val (.int x2)] [(.int (1 : Int32))])) _
      refine XS.goto X20.here hx rfl (pc0 := 51) (pc' := 55) rfl (hb hby fits_51) (by decide) (by decide) ?_
      exact k)
    obtain ⟨fs, hr, hrun, hended, hW, hsame⟩ := X20.leave (v := some (.int (1 : Int32))) (fun h => by rw [Bd.returns] at h; cases h)
    refine ⟨_, _, go25 _ ?_, hrun, hended, _, _, rfl, ?_, ⟨_, rfl⟩, hW, hsame.mono (by decide) (by decide)⟩
    · exact retN X20 hx (t := .boolean) Bd.returns (by simp) (hb hby fits_55) hr
    · show QV (.int (own_fits3 x0 x1 x2)) h0 n0 _ T20.heap _
      rw [e20]
      exact ⟨congrArg some (congrArg Value.int (Eq.symm (show (own_fits3 x0 x1 x2) = (1 : Int32) from by unfold own_fits3; rw [if_neg hc23]))), N20, rfl⟩
def own_exp3 (p2 : Int32) (p3 : Int32) (p4 : Int32) (p5 : Int32) : Int32 := if p2 = (0 : Int32) then (1 : Int32) else (if p3 = (0 : Int32) then (1 : Int32) else (if p4 = (0 : Int32) then (1 : Int32) else (if (2147483639 : Int64) < (p2.toInt64) then (0 : Int32) else (if (2147483639 : Int64) < ((p2.toInt64) * (p3.toInt64)) then (0 : Int32) else (if (2147483639 : Int64) < (((p2.toInt64) * (p3.toInt64)) * (p4.toInt64)) then (0 : Int32) else (1 : Int32))))))
set_option maxRecDepth 65536 in
set_option maxHeartbeats 40000000 in
theorem rm_exp3 (l : Launch) (Z : State) (a0 : Array Value) (hw : ∀ d ∈ tables_1, d.before a0 Z = true) (ws : List Jvm.Cond) (p2 : Int32) (p3 : Int32) (p4 : Int32) (p5 : Int32) (h0 : Heap) (n0 : Nat) (Z0 : n0 ≤ h0.size)  :
    MetFree l (⟨"com/example/inlet/inlet/compiler/ArrayValueFitsPinLaw", "expected", "(IIIII)Z"⟩ : MethodName) (head1 (Jvm.Cond.code (⟨"com/example/inlet/inlet/compiler/ArrayValueFitsPinLaw", "expected", "(IIIII)Z"⟩ : MethodName) method_3_code 10 (some .boolean) :: ws) ({ frames := 0, cells := 0, slots := 0, locals := 0 } : Room)) (fun a U => a = #[(.int (3 : Int32)), (.int p2), (.int p3), (.int p4), (.int p5)] ∧ Z.Warmed39 U.vm ∧ U.heap = h0) (fun _ _ _ _ _ => True) (fun _ U o U' => ∃ v L, o = .returned v ∧ QV (.int (own_exp3 p2 p3 p4 p5)) h0 n0 v U'.heap L ∧ FrameEnd U o U' L ({ frames := 0, cells := 0, slots := 0, locals := 0 } : Room).cells ({ frames := 0, cells := 0, slots := 0, locals := 0 } : Room).slots) := by
  refine MetFree.of_bodySF (plainFor_of_name pn_exp) hisR ?_
  intro p e s m args below meth c s₁ Bd hml0 hP hK
  obtain ⟨rfl, hZ, hh⟩ := hP
  have hx := Bd.exec
  have hby := Bd.bytes
  have hml : c.maxLocals = 10 := hml0
  have hown : s.vm.findClass "com/example/inlet/inlet/compiler/ArrayValueFitsPinLaw" = some m.cls := findClass_of_methodNamed Bd.named
  have hnm := (name_of_methodNamed Bd.named Bd.method).1
  have X0 : Stand p l e ({ frames := 0, cells := 0, slots := 0, locals := 0 } : Room) s m #[(.int (3 : Int32)), (.int p2), (.int p3), (.int p4), (.int p5)] below meth c s₁ [] 0 0 := Stand.of_body Bd
  have e0 : s₁.heap = h0 := by rw [← hh, Bd.state]; rfl
  have N0 := Fr.nil n0
  have go0 : ∀ t, Steps p.tables e below (s₁.setTop (mkF m 0 #[.val (.int (3 : Int32)), .val (.int p2), .val (.int p3), .val (.int p4), .val (.int p5), .unset, .unset, .unset, .unset, .unset] [])) t → Steps p.tables e below (s₁.setTop (entryFrame m #[(.int (3 : Int32)), (.int p2), (.int p3), (.int p4), (.int p5)] 10)) t := fun t k => castTop (ef_exp m (3 : Int32) p2 p3 p4 p5) k
  have go1 : ∀ t, Steps p.tables e below (s₁.setTop (mkF m 11 #[.val (.int (3 : Int32)), .val (.int p2), .val (.int p3), .val (.int p4), .val (.int p5), .val (.long (2147483639 : Int64)), .second, .unset, .unset, .unset] [(.int p2)])) t → Steps p.tables e below (s₁.setTop (entryFrame m #[(.int (3 : Int32)), (.int p2), (.int p3), (.int p4), (.int p5)] 10)) t := fun t k => go0 t (by
    show Steps p.tables e below (s₁.setTop (mkF m 0 #[.val (.int (3 : Int32)), .val (.int p2), .val (.int p3), .val (.int p4), .val (.int p5), .unset, .unset, .unset, .unset, .unset] [])) _
    refine X0.ldc2J hx hown (mvT hZ (hw _ (List.mem_of_getElem? (i := 11) rfl))) rfl (hb hby exp_0) ?_
    show Steps p.tables e below (s₁.setTop (mkF m 3 #[.val (.int (3 : Int32)), .val (.int p2), .val (.int p3), .val (.int p4), .val (.int p5), .unset, .unset, .unset, .unset, .unset] [(.long (2147483639 : Int64))])) _
    refine XS.lstore X0.here hx rfl (hb hby exp_3) rfl (l' := #[.val (.int (3 : Int32)), .val (.int p2), .val (.int p3), .val (.int p4), .val (.int p5), .val (.long (2147483639 : Int64)), .second, .unset, .unset, .unset]) rfl ?_
    show Steps p.tables e below (s₁.setTop (mkF m 5 #[.val (.int (3 : Int32)), .val (.int p2), .val (.int p3), .val (.int p4), .val (.int p5), .val (.long (2147483639 : Int64)), .second, .unset, .unset, .unset] [])) _
    refine XS.iloadN X0.here hx rfl (hb hby exp_5) rfl ?_
    show Steps p.tables e below (s₁.setTop (mkF m 6 #[.val (.int (3 : Int32)), .val (.int p2), .val (.int p3), .val (.int p4), .val (.int p5), .val (.long (2147483639 : Int64)), .second, .unset, .unset, .unset] [(.int (3 : Int32))])) _
    refine XS.iconst X0.here hx rfl (hb hby exp_6) ?_
    show Steps p.tables e below (s₁.setTop (mkF m 7 #[.val (.int (3 : Int32)), .val (.int p2), .val (.int p3), .val (.int p4), .val (.int p5), .val (.long (2147483639 : Int64)), .second, .unset, .unset, .unset] [(.int (1 : Int32)), (.int (3 : Int32))])) _
    refine XS.icmpNo X0.here hx rfl (hb hby exp_7) rfl (flt (by decide : ¬ ((3 : Int32) < (1 : Int32)))).1 ?_
    show Steps p.tables e below (s₁.setTop (mkF m 10 #[.val (.int (3 : Int32)), .val (.int p2), .val (.int p3), .val (.int p4), .val (.int p5), .val (.long (2147483639 : Int64)), .second, .unset, .unset, .unset] [])) _
    refine XS.iloadN X0.here hx rfl (hb hby exp_10) rfl ?_
    exact k)
  by_cases hc2 : p2 = (0 : Int32)
  · have go3 : ∀ t, Steps p.tables e below (s₁.setTop (mkF m 55 #[.val (.int (3 : Int32)), .val (.int p2), .val (.int p3), .val (.int p4), .val (.int p5), .val (.long (2147483639 : Int64)), .second, .val (.int (1 : Int32)), .unset, .unset] [(.int (1 : Int32))])) t → Steps p.tables e below (s₁.setTop (entryFrame m #[(.int (3 : Int32)), (.int p2), (.int p3), (.int p4), (.int p5)] 10)) t := fun t k => go1 t (by
      show Steps p.tables e below (s₁.setTop (mkF m 11 #[.val (.int (3 : Int32)), .val (.int p2), .val (.int p3), .val (.int p4), .val (.int p5), .val (.long (2147483639 : Int64)), .second, .unset, .unset, .unset] [(.int p2)])) _
      refine XS.ifYes X0.here hx rfl (pc0 := 11) (pc' := 42) rfl (hb hby exp_11) rfl ((if0 _ _).trans (teq hc2).1) (by decide) (by decide) ?_
      show Steps p.tables e below (s₁.setTop (mkF m 42 #[.val (.int (3 : Int32)), .val (.int p2), .val (.int p3), .val (.int p4), .val (.int p5), .val (.long (2147483639 : Int64)), .second, .unset, .unset, .unset] [])) _
      refine XS.iconst X0.here hx rfl (hb hby exp_42) ?_
      show Steps p.tables e below (s₁.setTop (mkF m 43 #[.val (.int (3 : Int32)), .val (.int p2), .val (.int p3), .val (.int p4), .val (.int p5), .val (.long (2147483639 : Int64)), .second, .unset, .unset, .unset] [(.int (1 : Int32))])) _
      refine XS.goto X0.here hx rfl (pc0 := 43) (pc' := 47) rfl (hb hby exp_43) (by decide) (by decide) ?_
      show Steps p.tables e below (s₁.setTop (mkF m 47 #[.val (.int (3 : Int32)), .val (.int p2), .val (.int p3), .val (.int p4), .val (.int p5), .val (.long (2147483639 : Int64)), .second, .unset, .unset, .unset] [(.int (1 : Int32))])) _
      refine XS.istore X0.here hx rfl (hb hby exp_47) rfl (l' := #[.val (.int (3 : Int32)), .val (.int p2), .val (.int p3), .val (.int p4), .val (.int p5), .val (.long (2147483639 : Int64)), .second, .val (.int (1 : Int32)), .unset, .unset]) rfl ?_
      show Steps p.tables e below (s₁.setTop (mkF m 49 #[.val (.int (3 : Int32)), .val (.int p2), .val (.int p3), .val (.int p4), .val (.int p5), .val (.long (2147483639 : Int64)), .second, .val (.int (1 : Int32)), .unset, .unset] [])) _
      refine XS.iload X0.here hx rfl (hb hby exp_49) rfl ?_
      show Steps p.tables e below (s₁.setTop (mkF m 51 #[.val (.int (3 : Int32)), .val (.int p2), .val (.int p3), .val (.int p4), .val (.int p5), .val (.long (2147483639 : Int64)), .second, .val (.int (1 : Int32)), .unset, .unset] [(.int (1 : Int32))])) _
      refine XS.ifNo X0.here hx rfl (hb hby exp_51) rfl ((if0 _ _).trans (feq (by decide : ¬ ((1 : Int32) = (0 : Int32)))).1) ?_
      show Steps p.tables e below (s₁.setTop (mkF m 54 #[.val (.int (3 : Int32)), .val (.int p2), .val (.int p3), .val (.int p4), .val (.int p5), .val (.long (2147483639 : Int64)), .second, .val (.int (1 : Int32)), .unset, .unset] [])) _
      refine XS.iconst X0.here hx rfl (hb hby exp_54) ?_
      exact k)
    obtain ⟨fs, hr, hrun, hended, hW, hsame⟩ := X0.leave (v := some (.int (1 : Int32))) (fun h => by rw [Bd.returns] at h; cases h)
    refine ⟨_, _, go3 _ ?_, hrun, hended, _, _, rfl, ?_, ⟨_, rfl⟩, hW, hsame.mono (by decide) (by decide)⟩
    · exact retN X0 hx (t := .boolean) Bd.returns (by simp) (hb hby exp_55) hr
    · show QV (.int (own_exp3 p2 p3 p4 p5)) h0 n0 _ s₁.heap _
      rw [e0]
      exact ⟨congrArg some (congrArg Value.int (Eq.symm (show (own_exp3 p2 p3 p4 p5) = (1 : Int32) from by unfold own_exp3; rw [if_pos hc2]))), N0, rfl⟩
  · have go4 : ∀ t, Steps p.tables e below (s₁.setTop (mkF m 20 #[.val (.int (3 : Int32)), .val (.int p2), .val (.int p3), .val (.int p4), .val (.int p5), .val (.long (2147483639 : Int64)), .second, .unset, .unset, .unset] [(.int p3)])) t → Steps p.tables e below (s₁.setTop (entryFrame m #[(.int (3 : Int32)), (.int p2), (.int p3), (.int p4), (.int p5)] 10)) t := fun t k => go1 t (by
      show Steps p.tables e below (s₁.setTop (mkF m 11 #[.val (.int (3 : Int32)), .val (.int p2), .val (.int p3), .val (.int p4), .val (.int p5), .val (.long (2147483639 : Int64)), .second, .unset, .unset, .unset] [(.int p2)])) _
      refine XS.ifNo X0.here hx rfl (hb hby exp_11) rfl ((if0 _ _).trans (feq hc2).1) ?_
      show Steps p.tables e below (s₁.setTop (mkF m 14 #[.val (.int (3 : Int32)), .val (.int p2), .val (.int p3), .val (.int p4), .val (.int p5), .val (.long (2147483639 : Int64)), .second, .unset, .unset, .unset] [])) _
      refine XS.iloadN X0.here hx rfl (hb hby exp_14) rfl ?_
      show Steps p.tables e below (s₁.setTop (mkF m 15 #[.val (.int (3 : Int32)), .val (.int p2), .val (.int p3), .val (.int p4), .val (.int p5), .val (.long (2147483639 : Int64)), .second, .unset, .unset, .unset] [(.int (3 : Int32))])) _
      refine XS.iconst X0.here hx rfl (hb hby exp_15) ?_
      show Steps p.tables e below (s₁.setTop (mkF m 16 #[.val (.int (3 : Int32)), .val (.int p2), .val (.int p3), .val (.int p4), .val (.int p5), .val (.long (2147483639 : Int64)), .second, .unset, .unset, .unset] [(.int (2 : Int32)), (.int (3 : Int32))])) _
      refine XS.icmpNo X0.here hx rfl (hb hby exp_16) rfl (flt (by decide : ¬ ((3 : Int32) < (2 : Int32)))).1 ?_
      show Steps p.tables e below (s₁.setTop (mkF m 19 #[.val (.int (3 : Int32)), .val (.int p2), .val (.int p3), .val (.int p4), .val (.int p5), .val (.long (2147483639 : Int64)), .second, .unset, .unset, .unset] [])) _
      refine XS.iloadN X0.here hx rfl (hb hby exp_19) rfl ?_
      exact k)
    by_cases hc5 : p3 = (0 : Int32)
    · have go6 : ∀ t, Steps p.tables e below (s₁.setTop (mkF m 55 #[.val (.int (3 : Int32)), .val (.int p2), .val (.int p3), .val (.int p4), .val (.int p5), .val (.long (2147483639 : Int64)), .second, .val (.int (1 : Int32)), .unset, .unset] [(.int (1 : Int32))])) t → Steps p.tables e below (s₁.setTop (entryFrame m #[(.int (3 : Int32)), (.int p2), (.int p3), (.int p4), (.int p5)] 10)) t := fun t k => go4 t (by
        show Steps p.tables e below (s₁.setTop (mkF m 20 #[.val (.int (3 : Int32)), .val (.int p2), .val (.int p3), .val (.int p4), .val (.int p5), .val (.long (2147483639 : Int64)), .second, .unset, .unset, .unset] [(.int p3)])) _
        refine XS.ifYes X0.here hx rfl (pc0 := 20) (pc' := 42) rfl (hb hby exp_20) rfl ((if0 _ _).trans (teq hc5).1) (by decide) (by decide) ?_
        show Steps p.tables e below (s₁.setTop (mkF m 42 #[.val (.int (3 : Int32)), .val (.int p2), .val (.int p3), .val (.int p4), .val (.int p5), .val (.long (2147483639 : Int64)), .second, .unset, .unset, .unset] [])) _
        refine XS.iconst X0.here hx rfl (hb hby exp_42) ?_
        show Steps p.tables e below (s₁.setTop (mkF m 43 #[.val (.int (3 : Int32)), .val (.int p2), .val (.int p3), .val (.int p4), .val (.int p5), .val (.long (2147483639 : Int64)), .second, .unset, .unset, .unset] [(.int (1 : Int32))])) _
        refine XS.goto X0.here hx rfl (pc0 := 43) (pc' := 47) rfl (hb hby exp_43) (by decide) (by decide) ?_
        show Steps p.tables e below (s₁.setTop (mkF m 47 #[.val (.int (3 : Int32)), .val (.int p2), .val (.int p3), .val (.int p4), .val (.int p5), .val (.long (2147483639 : Int64)), .second, .unset, .unset, .unset] [(.int (1 : Int32))])) _
        refine XS.istore X0.here hx rfl (hb hby exp_47) rfl (l' := #[.val (.int (3 : Int32)), .val (.int p2), .val (.int p3), .val (.int p4), .val (.int p5), .val (.long (2147483639 : Int64)), .second, .val (.int (1 : Int32)), .unset, .unset]) rfl ?_
        show Steps p.tables e below (s₁.setTop (mkF m 49 #[.val (.int (3 : Int32)), .val (.int p2), .val (.int p3), .val (.int p4), .val (.int p5), .val (.long (2147483639 : Int64)), .second, .val (.int (1 : Int32)), .unset, .unset] [])) _
        refine XS.iload X0.here hx rfl (hb hby exp_49) rfl ?_
        show Steps p.tables e below (s₁.setTop (mkF m 51 #[.val (.int (3 : Int32)), .val (.int p2), .val (.int p3), .val (.int p4), .val (.int p5), .val (.long (2147483639 : Int64)), .second, .val (.int (1 : Int32)), .unset, .unset] [(.int (1 : Int32))])) _
        refine XS.ifNo X0.here hx rfl (hb hby exp_51) rfl ((if0 _ _).trans (feq (by decide : ¬ ((1 : Int32) = (0 : Int32)))).1) ?_
        show Steps p.tables e below (s₁.setTop (mkF m 54 #[.val (.int (3 : Int32)), .val (.int p2), .val (.int p3), .val (.int p4), .val (.int p5), .val (.long (2147483639 : Int64)), .second, .val (.int (1 : Int32)), .unset, .unset] [])) _
        refine XS.iconst X0.here hx rfl (hb hby exp_54) ?_
        exact k)
      obtain ⟨fs, hr, hrun, hended, hW, hsame⟩ := X0.leave (v := some (.int (1 : Int32))) (fun h => by rw [Bd.returns] at h; cases h)
      refine ⟨_, _, go6 _ ?_, hrun, hended, _, _, rfl, ?_, ⟨_, rfl⟩, hW, hsame.mono (by decide) (by decide)⟩
      · exact retN X0 hx (t := .boolean) Bd.returns (by simp) (hb hby exp_55) hr
      · show QV (.int (own_exp3 p2 p3 p4 p5)) h0 n0 _ s₁.heap _
        rw [e0]
        exact ⟨congrArg some (congrArg Value.int (Eq.symm (show (own_exp3 p2 p3 p4 p5) = (1 : Int32) from by unfold own_exp3; rw [if_neg hc2, if_pos hc5]))), N0, rfl⟩
    · have go7 : ∀ t, Steps p.tables e below (s₁.setTop (mkF m 29 #[.val (.int (3 : Int32)), .val (.int p2), .val (.int p3), .val (.int p4), .val (.int p5), .val (.long (2147483639 : Int64)), .second, .unset, .unset, .unset] [(.int p4)])) t → Steps p.tables e below (s₁.setTop (entryFrame m #[(.int (3 : Int32)), (.int p2), (.int p3), (.int p4), (.int p5)] 10)) t := fun t k => go4 t (by
        show Steps p.tables e below (s₁.setTop (mkF m 20 #[.val (.int (3 : Int32)), .val (.int p2), .val (.int p3), .val (.int p4), .val (.int p5), .val (.long (2147483639 : Int64)), .second, .unset, .unset, .unset] [(.int p3)])) _
        refine XS.ifNo X0.here hx rfl (hb hby exp_20) rfl ((if0 _ _).trans (feq hc5).1) ?_
        show Steps p.tables e below (s₁.setTop (mkF m 23 #[.val (.int (3 : Int32)), .val (.int p2), .val (.int p3), .val (.int p4), .val (.int p5), .val (.long (2147483639 : Int64)), .second, .unset, .unset, .unset] [])) _
        refine XS.iloadN X0.here hx rfl (hb hby exp_23) rfl ?_
        show Steps p.tables e below (s₁.setTop (mkF m 24 #[.val (.int (3 : Int32)), .val (.int p2), .val (.int p3), .val (.int p4), .val (.int p5), .val (.long (2147483639 : Int64)), .second, .unset, .unset, .unset] [(.int (3 : Int32))])) _
        refine XS.iconst X0.here hx rfl (hb hby exp_24) ?_
        show Steps p.tables e below (s₁.setTop (mkF m 25 #[.val (.int (3 : Int32)), .val (.int p2), .val (.int p3), .val (.int p4), .val (.int p5), .val (.long (2147483639 : Int64)), .second, .unset, .unset, .unset] [(.int (3 : Int32)), (.int (3 : Int32))])) _
        refine XS.icmpNo X0.here hx rfl (hb hby exp_25) rfl (flt (by decide : ¬ ((3 : Int32) < (3 : Int32)))).1 ?_
        show Steps p.tables e below (s₁.setTop (mkF m 28 #[.val (.int (3 : Int32)), .val (.int p2), .val (.int p3), .val (.int p4), .val (.int p5), .val (.long (2147483639 : Int64)), .second, .unset, .unset, .unset] [])) _
        refine XS.iloadN X0.here hx rfl (hb hby exp_28) rfl ?_
        exact k)
      by_cases hc8 : p4 = (0 : Int32)
      · have go9 : ∀ t, Steps p.tables e below (s₁.setTop (mkF m 55 #[.val (.int (3 : Int32)), .val (.int p2), .val (.int p3), .val (.int p4), .val (.int p5), .val (.long (2147483639 : Int64)), .second, .val (.int (1 : Int32)), .unset, .unset] [(.int (1 : Int32))])) t → Steps p.tables e below (s₁.setTop (entryFrame m #[(.int (3 : Int32)), (.int p2), (.int p3), (.int p4), (.int p5)] 10)) t := fun t k => go7 t (by
          show Steps p.tables e below (s₁.setTop (mkF m 29 #[.val (.int (3 : Int32)), .val (.int p2), .val (.int p3), .val (.int p4), .val (.int p5), .val (.long (2147483639 : Int64)), .second, .unset, .unset, .unset] [(.int p4)])) _
          refine XS.ifYes X0.here hx rfl (pc0 := 29) (pc' := 42) rfl (hb hby exp_29) rfl ((if0 _ _).trans (teq hc8).1) (by decide) (by decide) ?_
          show Steps p.tables e below (s₁.setTop (mkF m 42 #[.val (.int (3 : Int32)), .val (.int p2), .val (.int p3), .val (.int p4), .val (.int p5), .val (.long (2147483639 : Int64)), .second, .unset, .unset, .unset] [])) _
          refine XS.iconst X0.here hx rfl (hb hby exp_42) ?_
          show Steps p.tables e below (s₁.setTop (mkF m 43 #[.val (.int (3 : Int32)), .val (.int p2), .val (.int p3), .val (.int p4), .val (.int p5), .val (.long (2147483639 : Int64)), .second, .unset, .unset, .unset] [(.int (1 : Int32))])) _
          refine XS.goto X0.here hx rfl (pc0 := 43) (pc' := 47) rfl (hb hby exp_43) (by decide) (by decide) ?_
          show Steps p.tables e below (s₁.setTop (mkF m 47 #[.val (.int (3 : Int32)), .val (.int p2), .val (.int p3), .val (.int p4), .val (.int p5), .val (.long (2147483639 : Int64)), .second, .unset, .unset, .unset] [(.int (1 : Int32))])) _
          refine XS.istore X0.here hx rfl (hb hby exp_47) rfl (l' := #[.val (.int (3 : Int32)), .val (.int p2), .val (.int p3), .val (.int p4), .val (.int p5), .val (.long (2147483639 : Int64)), .second, .val (.int (1 : Int32)), .unset, .unset]) rfl ?_
          show Steps p.tables e below (s₁.setTop (mkF m 49 #[.val (.int (3 : Int32)), .val (.int p2), .val (.int p3), .val (.int p4), .val (.int p5), .val (.long (2147483639 : Int64)), .second, .val (.int (1 : Int32)), .unset, .unset] [])) _
          refine XS.iload X0.here hx rfl (hb hby exp_49) rfl ?_
          show Steps p.tables e below (s₁.setTop (mkF m 51 #[.val (.int (3 : Int32)), .val (.int p2), .val (.int p3), .val (.int p4), .val (.int p5), .val (.long (2147483639 : Int64)), .second, .val (.int (1 : Int32)), .unset, .unset] [(.int (1 : Int32))])) _
          refine XS.ifNo X0.here hx rfl (hb hby exp_51) rfl ((if0 _ _).trans (feq (by decide : ¬ ((1 : Int32) = (0 : Int32)))).1) ?_
          show Steps p.tables e below (s₁.setTop (mkF m 54 #[.val (.int (3 : Int32)), .val (.int p2), .val (.int p3), .val (.int p4), .val (.int p5), .val (.long (2147483639 : Int64)), .second, .val (.int (1 : Int32)), .unset, .unset] [])) _
          refine XS.iconst X0.here hx rfl (hb hby exp_54) ?_
          exact k)
        obtain ⟨fs, hr, hrun, hended, hW, hsame⟩ := X0.leave (v := some (.int (1 : Int32))) (fun h => by rw [Bd.returns] at h; cases h)
        refine ⟨_, _, go9 _ ?_, hrun, hended, _, _, rfl, ?_, ⟨_, rfl⟩, hW, hsame.mono (by decide) (by decide)⟩
        · exact retN X0 hx (t := .boolean) Bd.returns (by simp) (hb hby exp_55) hr
        · show QV (.int (own_exp3 p2 p3 p4 p5)) h0 n0 _ s₁.heap _
          rw [e0]
          exact ⟨congrArg some (congrArg Value.int (Eq.symm (show (own_exp3 p2 p3 p4 p5) = (1 : Int32) from by unfold own_exp3; rw [if_neg hc2, if_neg hc5, if_pos hc8]))), N0, rfl⟩
      · have go10 : ∀ t, Steps p.tables e below (s₁.setTop (mkF m 73 #[.val (.int (3 : Int32)), .val (.int p2), .val (.int p3), .val (.int p4), .val (.int p5), .val (.long (2147483639 : Int64)), .second, .val (.int (0 : Int32)), .val (.long (p2.toInt64)), .second] [(.int (lcmpW (p2.toInt64) (2147483639 : Int64)))])) t → Steps p.tables e below (s₁.setTop (entryFrame m #[(.int (3 : Int32)), (.int p2), (.int p3), (.int p4), (.int p5)] 10)) t := fun t k => go7 t (by
          show Steps p.tables e below (s₁.setTop (mkF m 29 #[.val (.int (3 : Int32)), .val (.int p2), .val (.int p3), .val (.int p4), .val (.int p5), .val (.long (2147483639 : Int64)), .second, .unset, .unset, .unset] [(.int p4)])) _
          refine XS.ifNo X0.here hx rfl (hb hby exp_29) rfl ((if0 _ _).trans (feq hc8).1) ?_
          show Steps p.tables e below (s₁.setTop (mkF m 32 #[.val (.int (3 : Int32)), .val (.int p2), .val (.int p3), .val (.int p4), .val (.int p5), .val (.long (2147483639 : Int64)), .second, .unset, .unset, .unset] [])) _
          refine XS.iloadN X0.here hx rfl (hb hby exp_32) rfl ?_
          show Steps p.tables e below (s₁.setTop (mkF m 33 #[.val (.int (3 : Int32)), .val (.int p2), .val (.int p3), .val (.int p4), .val (.int p5), .val (.long (2147483639 : Int64)), .second, .unset, .unset, .unset] [(.int (3 : Int32))])) _
          refine XS.iconst X0.here hx rfl (hb hby exp_33) ?_
          show Steps p.tables e below (s₁.setTop (mkF m 34 #[.val (.int (3 : Int32)), .val (.int p2), .val (.int p3), .val (.int p4), .val (.int p5), .val (.long (2147483639 : Int64)), .second, .unset, .unset, .unset] [(.int (4 : Int32)), (.int (3 : Int32))])) _
          refine XS.icmpYes X0.here hx rfl (pc0 := 34) (pc' := 46) rfl (hb hby exp_34) rfl (tlt (by decide : (3 : Int32) < (4 : Int32))).1 (by decide) (by decide) ?_
          show Steps p.tables e below (s₁.setTop (mkF m 46 #[.val (.int (3 : Int32)), .val (.int p2), .val (.int p3), .val (.int p4), .val (.int p5), .val (.long (2147483639 : Int64)), .second, .unset, .unset, .unset] [])) _
          refine XS.iconst X0.here hx rfl (hb hby exp_46) ?_
          show Steps p.tables e below (s₁.setTop (mkF m 47 #[.val (.int (3 : Int32)), .val (.int p2), .val (.int p3), .val (.int p4), .val (.int p5), .val (.long (2147483639 : Int64)), .second, .unset, .unset, .unset] [(.int (0 : Int32))])) _
          refine XS.istore X0.here hx rfl (hb hby exp_47) rfl (l' := #[.val (.int (3 : Int32)), .val (.int p2), .val (.int p3), .val (.int p4), .val (.int p5), .val (.long (2147483639 : Int64)), .second, .val (.int (0 : Int32)), .unset, .unset]) rfl ?_
          show Steps p.tables e below (s₁.setTop (mkF m 49 #[.val (.int (3 : Int32)), .val (.int p2), .val (.int p3), .val (.int p4), .val (.int p5), .val (.long (2147483639 : Int64)), .second, .val (.int (0 : Int32)), .unset, .unset] [])) _
          refine XS.iload X0.here hx rfl (hb hby exp_49) rfl ?_
          show Steps p.tables e below (s₁.setTop (mkF m 51 #[.val (.int (3 : Int32)), .val (.int p2), .val (.int p3), .val (.int p4), .val (.int p5), .val (.long (2147483639 : Int64)), .second, .val (.int (0 : Int32)), .unset, .unset] [(.int (0 : Int32))])) _
          refine XS.ifYes X0.here hx rfl (pc0 := 51) (pc' := 56) rfl (hb hby exp_51) rfl ((if0 _ _).trans (teq (by decide : (0 : Int32) = (0 : Int32))).1) (by decide) (by decide) ?_
          show Steps p.tables e below (s₁.setTop (mkF m 56 #[.val (.int (3 : Int32)), .val (.int p2), .val (.int p3), .val (.int p4), .val (.int p5), .val (.long (2147483639 : Int64)), .second, .val (.int (0 : Int32)), .unset, .unset] [])) _
          refine XS.lconst X0.here hx rfl (hb hby exp_56) ?_
          show Steps p.tables e below (s₁.setTop (mkF m 57 #[.val (.int (3 : Int32)), .val (.int p2), .val (.int p3), .val (.int p4), .val (.int p5), .val (.long (2147483639 : Int64)), .second, .val (.int (0 : Int32)), .unset, .unset] [(.long (1 : Int64))])) _
          refine XS.lstore X0.here hx rfl (hb hby exp_57) rfl (l' := #[.val (.int (3 : Int32)), .val (.int p2), .val (.int p3), .val (.int p4), .val (.int p5), .val (.long (2147483639 : Int64)), .second, .val (.int (0 : Int32)), .val (.long (1 : Int64)), .second]) rfl ?_
          show Steps p.tables e below (s₁.setTop (mkF m 59 #[.val (.int (3 : Int32)), .val (.int p2), .val (.int p3), .val (.int p4), .val (.int p5), .val (.long (2147483639 : Int64)), .second, .val (.int (0 : Int32)), .val (.long (1 : Int64)), .second] [])) _
          refine XS.iloadN X0.here hx rfl (hb hby exp_59) rfl ?_
          show Steps p.tables e below (s₁.setTop (mkF m 60 #[.val (.int (3 : Int32)), .val (.int p2), .val (.int p3), .val (.int p4), .val (.int p5), .val (.long (2147483639 : Int64)), .second, .val (.int (0 : Int32)), .val (.long (1 : Int64)), .second] [(.int (3 : Int32))])) _
          refine XS.iconst X0.here hx rfl (hb hby exp_60) ?_
          show Steps p.tables e below (s₁.setTop (mkF m 61 #[.val (.int (3 : Int32)), .val (.int p2), .val (.int p3), .val (.int p4), .val (.int p5), .val (.long (2147483639 : Int64)), .second, .val (.int (0 : Int32)), .val (.long (1 : Int64)), .second] [(.int (1 : Int32)), (.int (3 : Int32))])) _
          refine XS.icmpNo X0.here hx rfl (hb hby exp_61) rfl (flt (by decide : ¬ ((3 : Int32) < (1 : Int32)))).1 ?_
          show Steps p.tables e below (s₁.setTop (mkF m 64 #[.val (.int (3 : Int32)), .val (.int p2), .val (.int p3), .val (.int p4), .val (.int p5), .val (.long (2147483639 : Int64)), .second, .val (.int (0 : Int32)), .val (.long (1 : Int64)), .second] [])) _
          refine XS.iloadN X0.here hx rfl (hb hby exp_64) rfl ?_
          show Steps p.tables e below (s₁.setTop (mkF m 65 #[.val (.int (3 : Int32)), .val (.int p2), .val (.int p3), .val (.int p4), .val (.int p5), .val (.long (2147483639 : Int64)), .second, .val (.int (0 : Int32)), .val (.long (1 : Int64)), .second] [(.int p2)])) _
          refine XS.i2l X0.here hx rfl (hb hby exp_65) rfl ?_
          show Steps p.tables e below (s₁.setTop (mkF m 66 #[.val (.int (3 : Int32)), .val (.int p2), .val (.int p3), .val (.int p4), .val (.int p5), .val (.long (2147483639 : Int64)), .second, .val (.int (0 : Int32)), .val (.long (1 : Int64)), .second] [(.long (p2.toInt64))])) _
          refine XS.lstore X0.here hx rfl (hb hby exp_66) rfl (l' := #[.val (.int (3 : Int32)), .val (.int p2), .val (.int p3), .val (.int p4), .val (.int p5), .val (.long (2147483639 : Int64)), .second, .val (.int (0 : Int32)), .val (.long (p2.toInt64)), .second]) rfl ?_
          show Steps p.tables e below (s₁.setTop (mkF m 68 #[.val (.int (3 : Int32)), .val (.int p2), .val (.int p3), .val (.int p4), .val (.int p5), .val (.long (2147483639 : Int64)), .second, .val (.int (0 : Int32)), .val (.long (p2.toInt64)), .second] [])) _
          refine XS.lload X0.here hx rfl (hb hby exp_68) rfl ?_
          show Steps p.tables e below (s₁.setTop (mkF m 70 #[.val (.int (3 : Int32)), .val (.int p2), .val (.int p3), .val (.int p4), .val (.int p5), .val (.long (2147483639 : Int64)), .second, .val (.int (0 : Int32)), .val (.long (p2.toInt64)), .second] [(.long (p2.toInt64))])) _
          refine XS.lload X0.here hx rfl (hb hby exp_70) rfl ?_
          show Steps p.tables e below (s₁.setTop (mkF m 72 #[.val (.int (3 : Int32)), .val (.int p2), .val (.int p3), .val (.int p4), .val (.int p5), .val (.long (2147483639 : Int64)), .second, .val (.int (0 : Int32)), .val (.long (p2.toInt64)), .second] [(.long (2147483639 : Int64)), (.long (p2.toInt64))])) _
          refine XS.lcmp X0.here hx rfl (hb hby exp_72) rfl ?_
          exact k)
        by_cases hc11 : (2147483639 : Int64) < (p2.toInt64)
        · have go12 : ∀ t, Steps p.tables e below (s₁.setTop (mkF m 77 #[.val (.int (3 : Int32)), .val (.int p2), .val (.int p3), .val (.int p4), .val (.int p5), .val (.long (2147483639 : Int64)), .second, .val (.int (0 : Int32)), .val (.long (p2.toInt64)), .second] [(.int (0 : Int32))])) t → Steps p.tables e below (s₁.setTop (entryFrame m #[(.int (3 : Int32)), (.int p2), (.int p3), (.int p4), (.int p5)] 10)) t := fun t k => go10 t (by
            show Steps p.tables e below (s₁.setTop (mkF m 73 #[.val (.int (3 : Int32)), .val (.int p2), .val (.int p3), .val (.int p4), .val (.int p5), .val (.long (2147483639 : Int64)), .second, .val (.int (0 : Int32)), .val (.long (p2.toInt64)), .second] [(.int (lcmpW (p2.toInt64) (2147483639 : Int64)))])) _
            refine XS.ifNo X0.here hx rfl (hb hby exp_73) rfl ((if0 _ _).trans (tlt ((lw_gt _ _).mpr hc11)).2.2.2) ?_
            show Steps p.tables e below (s₁.setTop (mkF m 76 #[.val (.int (3 : Int32)), .val (.int p2), .val (.int p3), .val (.int p4), .val (.int p5), .val (.long (2147483639 : Int64)), .second, .val (.int (0 : Int32)), .val (.long (p2.toInt64)), .second] [])) _
            refine XS.iconst X0.here hx rfl (hb hby exp_76) ?_
            exact k)
          obtain ⟨fs, hr, hrun, hended, hW, hsame⟩ := X0.leave (v := some (.int (0 : Int32))) (fun h => by rw [Bd.returns] at h; cases h)
          refine ⟨_, _, go12 _ ?_, hrun, hended, _, _, rfl, ?_, ⟨_, rfl⟩, hW, hsame.mono (by decide) (by decide)⟩
          · exact retN X0 hx (t := .boolean) Bd.returns (by simp) (hb hby exp_77) hr
          · show QV (.int (own_exp3 p2 p3 p4 p5)) h0 n0 _ s₁.heap _
            rw [e0]
            exact ⟨congrArg some (congrArg Value.int (Eq.symm (show (own_exp3 p2 p3 p4 p5) = (0 : Int32) from by unfold own_exp3; rw [if_neg hc2, if_neg hc5, if_neg hc8, if_pos hc11]))), N0, rfl⟩
        · have go13 : ∀ t, Steps p.tables e below (s₁.setTop (mkF m 95 #[.val (.int (3 : Int32)), .val (.int p2), .val (.int p3), .val (.int p4), .val (.int p5), .val (.long (2147483639 : Int64)), .second, .val (.int (0 : Int32)), .val (.long ((p2.toInt64) * (p3.toInt64))), .second] [(.int (lcmpW ((p2.toInt64) * (p3.toInt64)) (2147483639 : Int64)))])) t → Steps p.tables e below (s₁.setTop (entryFrame m #[(.int (3 : Int32)), (.int p2), (.int p3), (.int p4), (.int p5)] 10)) t := fun t k => go10 t (by
            show Steps p.tables e below (s₁.setTop (mkF m 73 #[.val (.int (3 : Int32)), .val (.int p2), .val (.int p3), .val (.int p4), .val (.int p5), .val (.long (2147483639 : Int64)), .second, .val (.int (0 : Int32)), .val (.long (p2.toInt64)), .second] [(.int (lcmpW (p2.toInt64) (2147483639 : Int64)))])) _
            refine XS.ifYes X0.here hx rfl (pc0 := 73) (pc' := 78) rfl (hb hby exp_73) rfl ((if0 _ _).trans (flt (mt (lw_gt _ _).mp hc11)).2.2.2) (by decide) (by decide) ?_
            show Steps p.tables e below (s₁.setTop (mkF m 78 #[.val (.int (3 : Int32)), .val (.int p2), .val (.int p3), .val (.int p4), .val (.int p5), .val (.long (2147483639 : Int64)), .second, .val (.int (0 : Int32)), .val (.long (p2.toInt64)), .second] [])) _
            refine XS.iloadN X0.here hx rfl (hb hby exp_78) rfl ?_
            show Steps p.tables e below (s₁.setTop (mkF m 79 #[.val (.int (3 : Int32)), .val (.int p2), .val (.int p3), .val (.int p4), .val (.int p5), .val (.long (2147483639 : Int64)), .second, .val (.int (0 : Int32)), .val (.long (p2.toInt64)), .second] [(.int (3 : Int32))])) _
            refine XS.iconst X0.here hx rfl (hb hby exp_79) ?_
            show Steps p.tables e below (s₁.setTop (mkF m 80 #[.val (.int (3 : Int32)), .val (.int p2), .val (.int p3), .val (.int p4), .val (.int p5), .val (.long (2147483639 : Int64)), .second, .val (.int (0 : Int32)), .val (.long (p2.toInt64)), .second] [(.int (2 : Int32)), (.int (3 : Int32))])) _
            refine XS.icmpNo X0.here hx rfl (hb hby exp_80) rfl (flt (by decide : ¬ ((3 : Int32) < (2 : Int32)))).1 ?_
            show Steps p.tables e below (s₁.setTop (mkF m 83 #[.val (.int (3 : Int32)), .val (.int p2), .val (.int p3), .val (.int p4), .val (.int p5), .val (.long (2147483639 : Int64)), .second, .val (.int (0 : Int32)), .val (.long (p2.toInt64)), .second] [])) _
            refine XS.lload X0.here hx rfl (hb hby exp_83) rfl ?_
            show Steps p.tables e below (s₁.setTop (mkF m 85 #[.val (.int (3 : Int32)), .val (.int p2), .val (.int p3), .val (.int p4), .val (.int p5), .val (.long (2147483639 : Int64)), .second, .val (.int (0 : Int32)), .val (.long (p2.toInt64)), .second] [(.long (p2.toInt64))])) _
            refine XS.iloadN X0.here hx rfl (hb hby exp_85) rfl ?_
            show Steps p.tables e below (s₁.setTop (mkF m 86 #[.val (.int (3 : Int32)), .val (.int p2), .val (.int p3), .val (.int p4), .val (.int p5), .val (.long (2147483639 : Int64)), .second, .val (.int (0 : Int32)), .val (.long (p2.toInt64)), .second] [(.int p3), (.long (p2.toInt64))])) _
            refine XS.i2l X0.here hx rfl (hb hby exp_86) rfl ?_
            show Steps p.tables e below (s₁.setTop (mkF m 87 #[.val (.int (3 : Int32)), .val (.int p2), .val (.int p3), .val (.int p4), .val (.int p5), .val (.long (2147483639 : Int64)), .second, .val (.int (0 : Int32)), .val (.long (p2.toInt64)), .second] [(.long (p3.toInt64)), (.long (p2.toInt64))])) _
            refine XS.lmul X0.here hx rfl (hb hby exp_87) rfl ?_
            show Steps p.tables e below (s₁.setTop (mkF m 88 #[.val (.int (3 : Int32)), .val (.int p2), .val (.int p3), .val (.int p4), .val (.int p5), .val (.long (2147483639 : Int64)), .second, .val (.int (0 : Int32)), .val (.long (p2.toInt64)), .second] [(.long ((p2.toInt64) * (p3.toInt64)))])) _
            refine XS.lstore X0.here hx rfl (hb hby exp_88) rfl (l' := #[.val (.int (3 : Int32)), .val (.int p2), .val (.int p3), .val (.int p4), .val (.int p5), .val (.long (2147483639 : Int64)), .second, .val (.int (0 : Int32)), .val (.long ((p2.toInt64) * (p3.toInt64))), .second]) rfl ?_
            show Steps p.tables e below (s₁.setTop (mkF m 90 #[.val (.int (3 : Int32)), .val (.int p2), .val (.int p3), .val (.int p4), .val (.int p5), .val (.long (2147483639 : Int64)), .second, .val (.int (0 : Int32)), .val (.long ((p2.toInt64) * (p3.toInt64))), .second] [])) _
            refine XS.lload X0.here hx rfl (hb hby exp_90) rfl ?_
            show Steps p.tables e below (s₁.setTop (mkF m 92 #[.val (.int (3 : Int32)), .val (.int p2), .val (.int p3), .val (.int p4), .val (.int p5), .val (.long (2147483639 : Int64)), .second, .val (.int (0 : Int32)), .val (.long ((p2.toInt64) * (p3.toInt64))), .second] [(.long ((p2.toInt64) * (p3.toInt64)))])) _
            refine XS.lload X0.here hx rfl (hb hby exp_92) rfl ?_
            show Steps p.tables e below (s₁.setTop (mkF m 94 #[.val (.int (3 : Int32)), .val (.int p2), .val (.int p3), .val (.int p4), .val (.int p5), .val (.long (2147483639 : Int64)), .second, .val (.int (0 : Int32)), .val (.long ((p2.toInt64) * (p3.toInt64))), .second] [(.long (2147483639 : Int64)), (.long ((p2.toInt64) * (p3.toInt64)))])) _
            refine XS.lcmp X0.here hx rfl (hb hby exp_94) rfl ?_
            exact k)
          by_cases hc14 : (2147483639 : Int64) < ((p2.toInt64) * (p3.toInt64))
          · have go15 : ∀ t, Steps p.tables e below (s₁.setTop (mkF m 99 #[.val (.int (3 : Int32)), .val (.int p2), .val (.int p3), .val (.int p4), .val (.int p5), .val (.long (2147483639 : Int64)), .second, .val (.int (0 : Int32)), .val (.long ((p2.toInt64) * (p3.toInt64))), .second] [(.int (0 : Int32))])) t → Steps p.tables e below (s₁.setTop (entryFrame m #[(.int (3 : Int32)), (.int p2), (.int p3), (.int p4), (.int p5)] 10)) t := fun t k => go13 t (by
              show Steps p.tables e below (s₁.setTop (mkF m 95 #[.val (.int (3 : Int32)), .val (.int p2), .val (.int p3), .val (.int p4), .val (.int p5), .val (.long (2147483639 : Int64)), .second, .val (.int (0 : Int32)), .val (.long ((p2.toInt64) * (p3.toInt64))), .second] [(.int (lcmpW ((p2.toInt64) * (p3.toInt64)) (2147483639 : Int64)))])) _
              refine XS.ifNo X0.here hx rfl (hb hby exp_95) rfl ((if0 _ _).trans (tlt ((lw_gt _ _).mpr hc14)).2.2.2) ?_
              show Steps p.tables e below (s₁.setTop (mkF m 98 #[.val (.int (3 : Int32)), .val (.int p2), .val (.int p3), .val (.int p4), .val (.int p5), .val (.long (2147483639 : Int64)), .second, .val (.int (0 : Int32)), .val (.long ((p2.toInt64) * (p3.toInt64))), .second] [])) _
              refine XS.iconst X0.here hx rfl (hb hby exp_98) ?_
              exact k)
            obtain ⟨fs, hr, hrun, hended, hW, hsame⟩ := X0.leave (v := some (.int (0 : Int32))) (fun h => by rw [Bd.returns] at h; cases h)
            refine ⟨_, _, go15 _ ?_, hrun, hended, _, _, rfl, ?_, ⟨_, rfl⟩, hW, hsame.mono (by decide) (by decide)⟩
            · exact retN X0 hx (t := .boolean) Bd.returns (by simp) (hb hby exp_99) hr
            · show QV (.int (own_exp3 p2 p3 p4 p5)) h0 n0 _ s₁.heap _
              rw [e0]
              exact ⟨congrArg some (congrArg Value.int (Eq.symm (show (own_exp3 p2 p3 p4 p5) = (0 : Int32) from by unfold own_exp3; rw [if_neg hc2, if_neg hc5, if_neg hc8, if_neg hc11, if_pos hc14]))), N0, rfl⟩
          · have go16 : ∀ t, Steps p.tables e below (s₁.setTop (mkF m 117 #[.val (.int (3 : Int32)), .val (.int p2), .val (.int p3), .val (.int p4), .val (.int p5), .val (.long (2147483639 : Int64)), .second, .val (.int (0 : Int32)), .val (.long (((p2.toInt64) * (p3.toInt64)) * (p4.toInt64))), .second] [(.int (lcmpW (((p2.toInt64) * (p3.toInt64)) * (p4.toInt64)) (2147483639 : Int64)))])) t → Steps p.tables e below (s₁.setTop (entryFrame m #[(.int (3 : Int32)), (.int p2), (.int p3), (.int p4), (.int p5)] 10)) t := fun t k => go13 t (by
              show Steps p.tables e below (s₁.setTop (mkF m 95 #[.val (.int (3 : Int32)), .val (.int p2), .val (.int p3), .val (.int p4), .val (.int p5), .val (.long (2147483639 : Int64)), .second, .val (.int (0 : Int32)), .val (.long ((p2.toInt64) * (p3.toInt64))), .second] [(.int (lcmpW ((p2.toInt64) * (p3.toInt64)) (2147483639 : Int64)))])) _
              refine XS.ifYes X0.here hx rfl (pc0 := 95) (pc' := 100) rfl (hb hby exp_95) rfl ((if0 _ _).trans (flt (mt (lw_gt _ _).mp hc14)).2.2.2) (by decide) (by decide) ?_
              show Steps p.tables e below (s₁.setTop (mkF m 100 #[.val (.int (3 : Int32)), .val (.int p2), .val (.int p3), .val (.int p4), .val (.int p5), .val (.long (2147483639 : Int64)), .second, .val (.int (0 : Int32)), .val (.long ((p2.toInt64) * (p3.toInt64))), .second] [])) _
              refine XS.iloadN X0.here hx rfl (hb hby exp_100) rfl ?_
              show Steps p.tables e below (s₁.setTop (mkF m 101 #[.val (.int (3 : Int32)), .val (.int p2), .val (.int p3), .val (.int p4), .val (.int p5), .val (.long (2147483639 : Int64)), .second, .val (.int (0 : Int32)), .val (.long ((p2.toInt64) * (p3.toInt64))), .second] [(.int (3 : Int32))])) _
              refine XS.iconst X0.here hx rfl (hb hby exp_101) ?_
              show Steps p.tables e below (s₁.setTop (mkF m 102 #[.val (.int (3 : Int32)), .val (.int p2), .val (.int p3), .val (.int p4), .val (.int p5), .val (.long (2147483639 : Int64)), .second, .val (.int (0 : Int32)), .val (.long ((p2.toInt64) * (p3.toInt64))), .second] [(.int (3 : Int32)), (.int (3 : Int32))])) _
              refine XS.icmpNo X0.here hx rfl (hb hby exp_102) rfl (flt (by decide : ¬ ((3 : Int32) < (3 : Int32)))).1 ?_
              show Steps p.tables e below (s₁.setTop (mkF m 105 #[.val (.int (3 : Int32)), .val (.int p2), .val (.int p3), .val (.int p4), .val (.int p5), .val (.long (2147483639 : Int64)), .second, .val (.int (0 : Int32)), .val (.long ((p2.toInt64) * (p3.toInt64))), .second] [])) _
              refine XS.lload X0.here hx rfl (hb hby exp_105) rfl ?_
              show Steps p.tables e below (s₁.setTop (mkF m 107 #[.val (.int (3 : Int32)), .val (.int p2), .val (.int p3), .val (.int p4), .val (.int p5), .val (.long (2147483639 : Int64)), .second, .val (.int (0 : Int32)), .val (.long ((p2.toInt64) * (p3.toInt64))), .second] [(.long ((p2.toInt64) * (p3.toInt64)))])) _
              refine XS.iloadN X0.here hx rfl (hb hby exp_107) rfl ?_
              show Steps p.tables e below (s₁.setTop (mkF m 108 #[.val (.int (3 : Int32)), .val (.int p2), .val (.int p3), .val (.int p4), .val (.int p5), .val (.long (2147483639 : Int64)), .second, .val (.int (0 : Int32)), .val (.long ((p2.toInt64) * (p3.toInt64))), .second] [(.int p4), (.long ((p2.toInt64) * (p3.toInt64)))])) _
              refine XS.i2l X0.here hx rfl (hb hby exp_108) rfl ?_
              show Steps p.tables e below (s₁.setTop (mkF m 109 #[.val (.int (3 : Int32)), .val (.int p2), .val (.int p3), .val (.int p4), .val (.int p5), .val (.long (2147483639 : Int64)), .second, .val (.int (0 : Int32)), .val (.long ((p2.toInt64) * (p3.toInt64))), .second] [(.long (p4.toInt64)), (.long ((p2.toInt64) * (p3.toInt64)))])) _
              refine XS.lmul X0.here hx rfl (hb hby exp_109) rfl ?_
              show Steps p.tables e below (s₁.setTop (mkF m 110 #[.val (.int (3 : Int32)), .val (.int p2), .val (.int p3), .val (.int p4), .val (.int p5), .val (.long (2147483639 : Int64)), .second, .val (.int (0 : Int32)), .val (.long ((p2.toInt64) * (p3.toInt64))), .second] [(.long (((p2.toInt64) * (p3.toInt64)) * (p4.toInt64)))])) _
              refine XS.lstore X0.here hx rfl (hb hby exp_110) rfl (l' := #[.val (.int (3 : Int32)), .val (.int p2), .val (.int p3), .val (.int p4), .val (.int p5), .val (.long (2147483639 : Int64)), .second, .val (.int (0 : Int32)), .val (.long (((p2.toInt64) * (p3.toInt64)) * (p4.toInt64))), .second]) rfl ?_
              show Steps p.tables e below (s₁.setTop (mkF m 112 #[.val (.int (3 : Int32)), .val (.int p2), .val (.int p3), .val (.int p4), .val (.int p5), .val (.long (2147483639 : Int64)), .second, .val (.int (0 : Int32)), .val (.long (((p2.toInt64) * (p3.toInt64)) * (p4.toInt64))), .second] [])) _
              refine XS.lload X0.here hx rfl (hb hby exp_112) rfl ?_
              show Steps p.tables e below (s₁.setTop (mkF m 114 #[.val (.int (3 : Int32)), .val (.int p2), .val (.int p3), .val (.int p4), .val (.int p5), .val (.long (2147483639 : Int64)), .second, .val (.int (0 : Int32)), .val (.long (((p2.toInt64) * (p3.toInt64)) * (p4.toInt64))), .second] [(.long (((p2.toInt64) * (p3.toInt64)) * (p4.toInt64)))])) _
              refine XS.lload X0.here hx rfl (hb hby exp_114) rfl ?_
              show Steps p.tables e below (s₁.setTop (mkF m 116 #[.val (.int (3 : Int32)), .val (.int p2), .val (.int p3), .val (.int p4), .val (.int p5), .val (.long (2147483639 : Int64)), .second, .val (.int (0 : Int32)), .val (.long (((p2.toInt64) * (p3.toInt64)) * (p4.toInt64))), .second] [(.long (2147483639 : Int64)), (.long (((p2.toInt64) * (p3.toInt64)) * (p4.toInt64)))])) _
              refine XS.lcmp X0.here hx rfl (hb hby exp_116) rfl ?_
              exact k)
            by_cases hc17 : (2147483639 : Int64) < (((p2.toInt64) * (p3.toInt64)) * (p4.toInt64))
            · have go18 : ∀ t, Steps p.tables e below (s₁.setTop (mkF m 121 #[.val (.int (3 : Int32)), .val (.int p2), .val (.int p3), .val (.int p4), .val (.int p5), .val (.long (2147483639 : Int64)), .second, .val (.int (0 : Int32)), .val (.long (((p2.toInt64) * (p3.toInt64)) * (p4.toInt64))), .second] [(.int (0 : Int32))])) t → Steps p.tables e below (s₁.setTop (entryFrame m #[(.int (3 : Int32)), (.int p2), (.int p3), (.int p4), (.int p5)] 10)) t := fun t k => go16 t (by
                show Steps p.tables e below (s₁.setTop (mkF m 117 #[.val (.int (3 : Int32)), .val (.int p2), .val (.int p3), .val (.int p4), .val (.int p5), .val (.long (2147483639 : Int64)), .second, .val (.int (0 : Int32)), .val (.long (((p2.toInt64) * (p3.toInt64)) * (p4.toInt64))), .second] [(.int (lcmpW (((p2.toInt64) * (p3.toInt64)) * (p4.toInt64)) (2147483639 : Int64)))])) _
                refine XS.ifNo X0.here hx rfl (hb hby exp_117) rfl ((if0 _ _).trans (tlt ((lw_gt _ _).mpr hc17)).2.2.2) ?_
                show Steps p.tables e below (s₁.setTop (mkF m 120 #[.val (.int (3 : Int32)), .val (.int p2), .val (.int p3), .val (.int p4), .val (.int p5), .val (.long (2147483639 : Int64)), .second, .val (.int (0 : Int32)), .val (.long (((p2.toInt64) * (p3.toInt64)) * (p4.toInt64))), .second] [])) _
                refine XS.iconst X0.here hx rfl (hb hby exp_120) ?_
                exact k)
              obtain ⟨fs, hr, hrun, hended, hW, hsame⟩ := X0.leave (v := some (.int (0 : Int32))) (fun h => by rw [Bd.returns] at h; cases h)
              refine ⟨_, _, go18 _ ?_, hrun, hended, _, _, rfl, ?_, ⟨_, rfl⟩, hW, hsame.mono (by decide) (by decide)⟩
              · exact retN X0 hx (t := .boolean) Bd.returns (by simp) (hb hby exp_121) hr
              · show QV (.int (own_exp3 p2 p3 p4 p5)) h0 n0 _ s₁.heap _
                rw [e0]
                exact ⟨congrArg some (congrArg Value.int (Eq.symm (show (own_exp3 p2 p3 p4 p5) = (0 : Int32) from by unfold own_exp3; rw [if_neg hc2, if_neg hc5, if_neg hc8, if_neg hc11, if_neg hc14, if_pos hc17]))), N0, rfl⟩
            · have go19 : ∀ t, Steps p.tables e below (s₁.setTop (mkF m 146 #[.val (.int (3 : Int32)), .val (.int p2), .val (.int p3), .val (.int p4), .val (.int p5), .val (.long (2147483639 : Int64)), .second, .val (.int (0 : Int32)), .val (.long (((p2.toInt64) * (p3.toInt64)) * (p4.toInt64))), .second] [(.int (1 : Int32))])) t → Steps p.tables e below (s₁.setTop (entryFrame m #[(.int (3 : Int32)), (.int p2), (.int p3), (.int p4), (.int p5)] 10)) t := fun t k => go16 t (by
                show Steps p.tables e below (s₁.setTop (mkF m 117 #[.val (.int (3 : Int32)), .val (.int p2), .val (.int p3), .val (.int p4), .val (.int p5), .val (.long (2147483639 : Int64)), .second, .val (.int (0 : Int32)), .val (.long (((p2.toInt64) * (p3.toInt64)) * (p4.toInt64))), .second] [(.int (lcmpW (((p2.toInt64) * (p3.toInt64)) * (p4.toInt64)) (2147483639 : Int64)))])) _
                refine XS.ifYes X0.here hx rfl (pc0 := 117) (pc' := 122) rfl (hb hby exp_117) rfl ((if0 _ _).trans (flt (mt (lw_gt _ _).mp hc17)).2.2.2) (by decide) (by decide) ?_
                show Steps p.tables e below (s₁.setTop (mkF m 122 #[.val (.int (3 : Int32)), .val (.int p2), .val (.int p3), .val (.int p4), .val (.int p5), .val (.long (2147483639 : Int64)), .second, .val (.int (0 : Int32)), .val (.long (((p2.toInt64) * (p3.toInt64)) * (p4.toInt64))), .second] [])) _
                refine XS.iloadN X0.here hx rfl (hb hby exp_122) rfl ?_
                show Steps p.tables e below (s₁.setTop (mkF m 123 #[.val (.int (3 : Int32)), .val (.int p2), .val (.int p3), .val (.int p4), .val (.int p5), .val (.long (2147483639 : Int64)), .second, .val (.int (0 : Int32)), .val (.long (((p2.toInt64) * (p3.toInt64)) * (p4.toInt64))), .second] [(.int (3 : Int32))])) _
                refine XS.iconst X0.here hx rfl (hb hby exp_123) ?_
                show Steps p.tables e below (s₁.setTop (mkF m 124 #[.val (.int (3 : Int32)), .val (.int p2), .val (.int p3), .val (.int p4), .val (.int p5), .val (.long (2147483639 : Int64)), .second, .val (.int (0 : Int32)), .val (.long (((p2.toInt64) * (p3.toInt64)) * (p4.toInt64))), .second] [(.int (4 : Int32)), (.int (3 : Int32))])) _
                refine XS.icmpYes X0.here hx rfl (pc0 := 124) (pc' := 145) rfl (hb hby exp_124) rfl (tlt (by decide : (3 : Int32) < (4 : Int32))).1 (by decide) (by decide) ?_
                show Steps p.tables e below (s₁.setTop (mkF m 145 #[.val (.int (3 : Int32)), .val (.int p2), .val (.int p3), .val (.int p4), .val (.int p5), .val (.long (2147483639 : Int64)), .second, .val (.int (0 : Int32)), .val (.long (((p2.toInt64) * (p3.toInt64)) * (p4.toInt64))), .second] [])) _
                refine XS.iconst X0.here hx rfl (hb hby exp_145) ?_
                exact k)
              obtain ⟨fs, hr, hrun, hended, hW, hsame⟩ := X0.leave (v := some (.int (1 : Int32))) (fun h => by rw [Bd.returns] at h; cases h)
              refine ⟨_, _, go19 _ ?_, hrun, hended, _, _, rfl, ?_, ⟨_, rfl⟩, hW, hsame.mono (by decide) (by decide)⟩
              · exact retN X0 hx (t := .boolean) Bd.returns (by simp) (hb hby exp_146) hr
              · show QV (.int (own_exp3 p2 p3 p4 p5)) h0 n0 _ s₁.heap _
                rw [e0]
                exact ⟨congrArg some (congrArg Value.int (Eq.symm (show (own_exp3 p2 p3 p4 p5) = (1 : Int32) from by unfold own_exp3; rw [if_neg hc2, if_neg hc5, if_neg hc8, if_neg hc11, if_neg hc14, if_neg hc17]))), N0, rfl⟩
def own_fits4 (x0 : Int32) (x1 : Int32) (x2 : Int32) (x3 : Int32) : Int32 := if (2147483639 : Int64) < (own_cap (own_cap (own_cap (own_cap (1 : Int64) x0) x1) x2) x3) then (0 : Int32) else (1 : Int32)
set_option maxRecDepth 65536 in
set_option maxHeartbeats 40000000 in
theorem rm_fits4 (l : Launch) (Z : State) (a0 : Array Value) (hw : ∀ d ∈ tables_1, d.before a0 Z = true) (ws : List Jvm.Cond) (a1 : Addr) (kA : ClassId) (x0 : Int32) (x1 : Int32) (x2 : Int32) (x3 : Int32) (h0 : Heap) (n0 : Nat) (Z0 : n0 ≤ h0.size) (V1 : Arv Z h0 a1 kA .int (4 : Int32) [(.int x0), (.int x1), (.int x2), (.int x3)] (.int (0 : Int32))) :
    MetFree l (⟨"com/example/inlet/inlet/compiler/ArrayValue", "fits", "([I)Z"⟩ : MethodName) (head1 (Jvm.Cond.code (⟨"com/example/inlet/inlet/compiler/ArrayValue", "fits", "([I)Z"⟩ : MethodName) prog_34_method_3_code 7 (some .boolean) :: ws) ({ frames := 1, cells := 0, slots := 0, locals := 15 } : Room)) (fun a U => a = #[(.ref a1)] ∧ Z.Warmed39 U.vm ∧ U.heap = h0) (fun _ _ _ _ _ => True) (fun _ U o U' => ∃ v L, o = .returned v ∧ QV (.int (own_fits4 x0 x1 x2 x3)) h0 n0 v U'.heap L ∧ FrameEnd U o U' L ({ frames := 1, cells := 0, slots := 0, locals := 15 } : Room).cells ({ frames := 1, cells := 0, slots := 0, locals := 15 } : Room).slots) := by
  refine MetFree.of_bodySF (plainFor_of_name pn_fits) hisR ?_
  intro p e s m args below meth c s₁ Bd hml0 hP hK
  obtain ⟨rfl, hZ, hh⟩ := hP
  have hx := Bd.exec
  have hby := Bd.bytes
  have hml : c.maxLocals = 7 := hml0
  have hown : s.vm.findClass "com/example/inlet/inlet/compiler/ArrayValue" = some m.cls := findClass_of_methodNamed Bd.named
  have hnm := (name_of_methodNamed Bd.named Bd.method).1
  have X0 : Stand p l e ({ frames := 1, cells := 0, slots := 0, locals := 15 } : Room) s m #[(.ref a1)] below meth c s₁ [] 0 0 := Stand.of_body Bd
  have e0 : s₁.heap = h0 := by rw [← hh, Bd.state]; rfl
  have N0 := Fr.nil n0
  have go0 : ∀ t, Steps p.tables e below (s₁.setTop (mkF m 0 #[.val (.ref a1), .unset, .unset, .unset, .unset, .unset, .unset] [])) t → Steps p.tables e below (s₁.setTop (entryFrame m #[(.ref a1)] 7)) t := fun t k => castTop (ef_fits m a1) k
  have go2 : ∀ t, Steps p.tables e below (s₁.setTop (mkF m 5 #[.val (.ref a1), .val (.long (1 : Int64)), .second, .val (.ref a1), .unset, .unset, .unset] [(.ref a1)])) t → Steps p.tables e below (s₁.setTop (entryFrame m #[(.ref a1)] 7)) t := fun t k => go0 t (by
    show Steps p.tables e below (s₁.setTop (mkF m 0 #[.val (.ref a1), .unset, .unset, .unset, .unset, .unset, .unset] [])) _
    refine XS.lconst X0.here hx rfl (hb hby fits_0) ?_
    show Steps p.tables e below (s₁.setTop (mkF m 1 #[.val (.ref a1), .unset, .unset, .unset, .unset, .unset, .unset] [(.long (1 : Int64))])) _
    refine XS.lstoreN X0.here hx rfl (hb hby fits_1) rfl (l' := #[.val (.ref a1), .val (.long (1 : Int64)), .second, .unset, .unset, .unset, .unset]) rfl ?_
    show Steps p.tables e below (s₁.setTop (mkF m 2 #[.val (.ref a1), .val (.long (1 : Int64)), .second, .unset, .unset, .unset, .unset] [])) _
    refine XS.aloadN X0.here hx rfl (hb hby fits_2) rfl rfl ?_
    show Steps p.tables e below (s₁.setTop (mkF m 3 #[.val (.ref a1), .val (.long (1 : Int64)), .second, .unset, .unset, .unset, .unset] [(.ref a1)])) _
    refine XS.astoreN X0.here hx rfl (hb hby fits_3) rfl rfl (l' := #[.val (.ref a1), .val (.long (1 : Int64)), .second, .val (.ref a1), .unset, .unset, .unset]) rfl ?_
    show Steps p.tables e below (s₁.setTop (mkF m 4 #[.val (.ref a1), .val (.long (1 : Int64)), .second, .val (.ref a1), .unset, .unset, .unset] [])) _
    refine XS.aloadN X0.here hx rfl (hb hby fits_4) rfl rfl ?_
    exact k)
  obtain ⟨cl1, Ar1, q1, S1, M1, H1, G1⟩ := id V1
  have go3 : ∀ t, Steps p.tables e below (s₁.setTop (mkF m 6 #[.val (.ref a1), .val (.long (1 : Int64)), .second, .val (.ref a1), .unset, .unset, .unset] [(.int (4 : Int32))])) t → Steps p.tables e below (s₁.setTop (entryFrame m #[(.ref a1)] 7)) t := fun t k => go2 t (by
    show Steps p.tables e below (s₁.setTop (mkF m 5 #[.val (.ref a1), .val (.long (1 : Int64)), .second, .val (.ref a1), .unset, .unset, .unset] [(.ref a1)])) _
    refine X0.arraylength hx (by rw [e0]; exact Ar1.1) (State.isArrayOf_alike hZ.alike Ar1.2.1) (g := (mkF m 5 #[.val (.ref a1), .val (.long (1 : Int64)), .second, .val (.ref a1), .unset, .unset, .unset] [(.ref a1)])) rfl rfl (hb hby fits_5) _ ?_
    rw [len_of S1 M1]
    exact k)
  have go5 : ∀ t, Steps p.tables e below (s₁.setTop (mkF m 21 #[.val (.ref a1), .val (.long (1 : Int64)), .second, .val (.ref a1), .val (.int (4 : Int32)), .val (.int (0 : Int32)), .unset] [(.int (0 : Int32)), (.ref a1)])) t → Steps p.tables e below (s₁.setTop (entryFrame m #[(.ref a1)] 7)) t := fun t k => go3 t (by
    show Steps p.tables e below (s₁.setTop (mkF m 6 #[.val (.ref a1), .val (.long (1 : Int64)), .second, .val (.ref a1), .unset, .unset, .unset] [(.int (4 : Int32))])) _
    refine XS.istore X0.here hx rfl (hb hby fits_6) rfl (l' := #[.val (.ref a1), .val (.long (1 : Int64)), .second, .val (.ref a1), .val (.int (4 : Int32)), .unset, .unset]) rfl ?_
    show Steps p.tables e below (s₁.setTop (mkF m 8 #[.val (.ref a1), .val (.long (1 : Int64)), .second, .val (.ref a1), .val (.int (4 : Int32)), .unset, .unset] [])) _
    refine XS.iconst X0.here hx rfl (hb hby fits_8) ?_
    show Steps p.tables e below (s₁.setTop (mkF m 9 #[.val (.ref a1), .val (.long (1 : Int64)), .second, .val (.ref a1), .val (.int (4 : Int32)), .unset, .unset] [(.int (0 : Int32))])) _
    refine XS.istore X0.here hx rfl (hb hby fits_9) rfl (l' := #[.val (.ref a1), .val (.long (1 : Int64)), .second, .val (.ref a1), .val (.int (4 : Int32)), .val (.int (0 : Int32)), .unset]) rfl ?_
    show Steps p.tables e below (s₁.setTop (mkF m 11 #[.val (.ref a1), .val (.long (1 : Int64)), .second, .val (.ref a1), .val (.int (4 : Int32)), .val (.int (0 : Int32)), .unset] [])) _
    refine XS.iload X0.here hx rfl (hb hby fits_11) rfl ?_
    show Steps p.tables e below (s₁.setTop (mkF m 13 #[.val (.ref a1), .val (.long (1 : Int64)), .second, .val (.ref a1), .val (.int (4 : Int32)), .val (.int (0 : Int32)), .unset] [(.int (0 : Int32))])) _
    refine XS.iload X0.here hx rfl (hb hby fits_13) rfl ?_
    show Steps p.tables e below (s₁.setTop (mkF m 15 #[.val (.ref a1), .val (.long (1 : Int64)), .second, .val (.ref a1), .val (.int (4 : Int32)), .val (.int (0 : Int32)), .unset] [(.int (4 : Int32)), (.int (0 : Int32))])) _
    refine XS.icmpNo X0.here hx rfl (hb hby fits_15) rfl (tlt (by decide : (0 : Int32) < (4 : Int32))).2.1 ?_
    show Steps p.tables e below (s₁.setTop (mkF m 18 #[.val (.ref a1), .val (.long (1 : Int64)), .second, .val (.ref a1), .val (.int (4 : Int32)), .val (.int (0 : Int32)), .unset] [])) _
    refine XS.aloadN X0.here hx rfl (hb hby fits_18) rfl rfl ?_
    show Steps p.tables e below (s₁.setTop (mkF m 19 #[.val (.ref a1), .val (.long (1 : Int64)), .second, .val (.ref a1), .val (.int (4 : Int32)), .val (.int (0 : Int32)), .unset] [(.ref a1)])) _
    refine XS.iload X0.here hx rfl (hb hby fits_19) rfl ?_
    exact k)
  obtain ⟨cl4, Ar4, q4, S4, M4, H4, G4⟩ := id V1
  have go6 : ∀ t, Steps p.tables e below (s₁.setTop (mkF m 22 #[.val (.ref a1), .val (.long (1 : Int64)), .second, .val (.ref a1), .val (.int (4 : Int32)), .val (.int (0 : Int32)), .unset] [(.int x0)])) t → Steps p.tables e below (s₁.setTop (entryFrame m #[(.ref a1)] 7)) t := fun t k => go5 t (by
    show Steps p.tables e below (s₁.setTop (mkF m 21 #[.val (.ref a1), .val (.long (1 : Int64)), .second, .val (.ref a1), .val (.int (4 : Int32)), .val (.int (0 : Int32)), .unset] [(.int (0 : Int32)), (.ref a1)])) _
    refine X0.iaload hx (j := (0 : Int32)) (v := (.int x0)) (by rw [e0]; exact Ar4.1) (State.isArrayOf_alike hZ.alike Ar4.2.1) Ar4.2.2 (inb_of S4 ⟨by decide, by decide⟩) (H4.at (inb_of S4 ⟨by decide, by decide⟩) rfl) (g := (mkF m 21 #[.val (.ref a1), .val (.long (1 : Int64)), .second, .val (.ref a1), .val (.int (4 : Int32)), .val (.int (0 : Int32)), .unset] [(.int (0 : Int32)), (.ref a1)])) rfl rfl (hb hby fits_21) _ ?_
    exact k)
  have go7 : ∀ t, Steps p.tables e below (s₁.setTop (mkF m 32 #[.val (.ref a1), .val (.long (1 : Int64)), .second, .val (.ref a1), .val (.int (4 : Int32)), .val (.int (0 : Int32)), .val (.int x0)] [(.long (2147483640 : Int64)), (.long ((1 : Int64) * (x0.toInt64)))])) t → Steps p.tables e below (s₁.setTop (entryFrame m #[(.ref a1)] 7)) t := fun t k => go6 t (by
    show Steps p.tables e below (s₁.setTop (mkF m 22 #[.val (.ref a1), .val (.long (1 : Int64)), .second, .val (.ref a1), .val (.int (4 : Int32)), .val (.int (0 : Int32)), .unset] [(.int x0)])) _
    refine XS.istore X0.here hx rfl (hb hby fits_22) rfl (l' := #[.val (.ref a1), .val (.long (1 : Int64)), .second, .val (.ref a1), .val (.int (4 : Int32)), .val (.int (0 : Int32)), .val (.int x0)]) rfl ?_
    show Steps p.tables e below (s₁.setTop (mkF m 24 #[.val (.ref a1), .val (.long (1 : Int64)), .second, .val (.ref a1), .val (.int (4 : Int32)), .val (.int (0 : Int32)), .val (.int x0)] [])) _
    refine XS.lloadN X0.here hx rfl (hb hby fits_24) rfl ?_
    show Steps p.tables e below (s₁.setTop (mkF m 25 #[.val (.ref a1), .val (.long (1 : Int64)), .second, .val (.ref a1), .val (.int (4 : Int32)), .val (.int (0 : Int32)), .val (.int x0)] [(.long (1 : Int64))])) _
    refine XS.iload X0.here hx rfl (hb hby fits_25) rfl ?_
    show Steps p.tables e below (s₁.setTop (mkF m 27 #[.val (.ref a1), .val (.long (1 : Int64)), .second, .val (.ref a1), .val (.int (4 : Int32)), .val (.int (0 : Int32)), .val (.int x0)] [(.int x0), (.long (1 : Int64))])) _
    refine XS.i2l X0.here hx rfl (hb hby fits_27) rfl ?_
    show Steps p.tables e below (s₁.setTop (mkF m 28 #[.val (.ref a1), .val (.long (1 : Int64)), .second, .val (.ref a1), .val (.int (4 : Int32)), .val (.int (0 : Int32)), .val (.int x0)] [(.long (x0.toInt64)), (.long (1 : Int64))])) _
    refine XS.lmul X0.here hx rfl (hb hby fits_28) rfl ?_
    show Steps p.tables e below (s₁.setTop (mkF m 29 #[.val (.ref a1), .val (.long (1 : Int64)), .second, .val (.ref a1), .val (.int (4 : Int32)), .val (.int (0 : Int32)), .val (.int x0)] [(.long ((1 : Int64) * (x0.toInt64)))])) _
    refine X0.ldc2J hx hown (mvT hZ (hw _ (List.mem_of_getElem? (i := 12) rfl))) rfl (hb hby fits_29) ?_
    exact k)
  obtain ⟨_, _, ⟨T8, L8, k8, n8⟩, -, X8, ⟨Lc8, hQ8, l8, y8, z8⟩, st8⟩ := Jvm.LawKit.callS X0 hx (y := (⟨"java/lang/Math", "min", "(JJ)J"⟩ : MethodName)) hown (mvT hZ (hw _ (List.mem_of_getElem? (i := 13) rfl))) (mvT hZ (hw _ (List.mem_of_getElem? (i := 14) rfl))) (mvT hZ (hw _ (List.mem_of_getElem? (i := 15) rfl))) (mvT hZ (hw _ (List.mem_of_getElem? (i := 16) rfl))) (by decide) (backOf (W := 0) (rm_mj l Z a0 hw [] ((1 : Int64) * (x0.toInt64)) (2147483640 : Int64) h0 n0 Z0 ) hZ (hw _ (List.mem_of_getElem? (i := 16) rfl)) (hw _ (List.mem_of_getElem? (i := 15) rfl)) (by decide) (by decide)) (g := (mkF m 32 #[.val (.ref a1), .val (.long (1 : Int64)), .second, .val (.ref a1), .val (.int (4 : Int32)), .val (.int (0 : Int32)), .val (.int x0)] [(.long (2147483640 : Int64)), (.long ((1 : Int64) * (x0.toInt64)))])) rfl (by rw [hml]; rfl) (argsL := [(.long ((1 : Int64) * (x0.toInt64))), (.long (2147483640 : Int64))]) (rest := []) (lenOf pd_0 rfl) rfl (by show 2 * 0 + _ ≤ _; exact Nat.le_of_eq rfl) (hb hby fits_32) (fun _ _ => ⟨rfl, e0, (by decide : 0 + 0 ≤ _), (by decide : 0 + 0 ≤ _)⟩)
  dsimp only [Pt.U, Pt.locs, Pt.cells, Pt.slots] at X8 l8 y8 z8 st8 hQ8
  subst l8 y8 z8
  obtain ⟨rfl, N8q, e8⟩ := hQ8
  have N8 := Fr.app N0 N8q
  have go9 : ∀ t, Steps p.tables e below (T8.setTop (mkF m 35 #[.val (.ref a1), .val (.long (1 : Int64)), .second, .val (.ref a1), .val (.int (4 : Int32)), .val (.int (0 : Int32)), .val (.int x0)] [(.long (own_cap (1 : Int64) x0))])) t → Steps p.tables e below (s₁.setTop (entryFrame m #[(.ref a1)] 7)) t := fun t k => go7 t (st8 t k)
  have go11 : ∀ t, Steps p.tables e below (T8.setTop (mkF m 21 #[.val (.ref a1), .val (.long (own_cap (1 : Int64) x0)), .second, .val (.ref a1), .val (.int (4 : Int32)), .val (.int (1 : Int32)), .val (.int x0)] [(.int (1 : Int32)), (.ref a1)])) t → Steps p.tables e below (s₁.setTop (entryFrame m #[(.ref a1)] 7)) t := fun t k => go9 t (by
    show Steps p.tables e below (T8.setTop (mkF m 35 #[.val (.ref a1), .val (.long (1 : Int64)), .second, .val (.ref a1), .val (.int (4 : Int32)), .val (.int (0 : Int32)), .val (.int x0)] [(.long (own_cap (1 : Int64) x0))])) _
    refine XS.lstoreN X8.here hx rfl (hb hby fits_35) rfl (l' := #[.val (.ref a1), .val (.long (own_cap (1 : Int64) x0)), .second, .val (.ref a1), .val (.int (4 : Int32)), .val (.int (0 : Int32)), .val (.int x0)]) rfl ?_
    show Steps p.tables e below (T8.setTop (mkF m 36 #[.val (.ref a1), .val (.long (own_cap (1 : Int64) x0)), .second, .val (.ref a1), .val (.int (4 : Int32)), .val (.int (0 : Int32)), .val (.int x0)] [])) _
    refine XS.iinc X8.here hx rfl (hb hby fits_36) rfl (l' := #[.val (.ref a1), .val (.long (own_cap (1 : Int64) x0)), .second, .val (.ref a1), .val (.int (4 : Int32)), .val (.int (1 : Int32)), .val (.int x0)]) rfl ?_
    show Steps p.tables e below (T8.setTop (mkF m 39 #[.val (.ref a1), .val (.long (own_cap (1 : Int64) x0)), .second, .val (.ref a1), .val (.int (4 : Int32)), .val (.int (1 : Int32)), .val (.int x0)] [])) _
    refine XS.goto X8.here hx rfl (pc0 := 39) (pc' := 11) rfl (hb hby fits_39) (by decide) (by decide) ?_
    show Steps p.tables e below (T8.setTop (mkF m 11 #[.val (.ref a1), .val (.long (own_cap (1 : Int64) x0)), .second, .val (.ref a1), .val (.int (4 : Int32)), .val (.int (1 : Int32)), .val (.int x0)] [])) _
    refine XS.iload X8.here hx rfl (hb hby fits_11) rfl ?_
    show Steps p.tables e below (T8.setTop (mkF m 13 #[.val (.ref a1), .val (.long (own_cap (1 : Int64) x0)), .second, .val (.ref a1), .val (.int (4 : Int32)), .val (.int (1 : Int32)), .val (.int x0)] [(.int (1 : Int32))])) _
    refine XS.iload X8.here hx rfl (hb hby fits_13) rfl ?_
    show Steps p.tables e below (T8.setTop (mkF m 15 #[.val (.ref a1), .val (.long (own_cap (1 : Int64) x0)), .second, .val (.ref a1), .val (.int (4 : Int32)), .val (.int (1 : Int32)), .val (.int x0)] [(.int (4 : Int32)), (.int (1 : Int32))])) _
    refine XS.icmpNo X8.here hx rfl (hb hby fits_15) rfl (tlt (by decide : (1 : Int32) < (4 : Int32))).2.1 ?_
    show Steps p.tables e below (T8.setTop (mkF m 18 #[.val (.ref a1), .val (.long (own_cap (1 : Int64) x0)), .second, .val (.ref a1), .val (.int (4 : Int32)), .val (.int (1 : Int32)), .val (.int x0)] [])) _
    refine XS.aloadN X8.here hx rfl (hb hby fits_18) rfl rfl ?_
    show Steps p.tables e below (T8.setTop (mkF m 19 #[.val (.ref a1), .val (.long (own_cap (1 : Int64) x0)), .second, .val (.ref a1), .val (.int (4 : Int32)), .val (.int (1 : Int32)), .val (.int x0)] [(.ref a1)])) _
    refine XS.iload X8.here hx rfl (hb hby fits_19) rfl ?_
    exact k)
  obtain ⟨cl10, Ar10, q10, S10, M10, H10, G10⟩ := id V1
  have go12 : ∀ t, Steps p.tables e below (T8.setTop (mkF m 22 #[.val (.ref a1), .val (.long (own_cap (1 : Int64) x0)), .second, .val (.ref a1), .val (.int (4 : Int32)), .val (.int (1 : Int32)), .val (.int x0)] [(.int x1)])) t → Steps p.tables e below (s₁.setTop (entryFrame m #[(.ref a1)] 7)) t := fun t k => go11 t (by
    show Steps p.tables e below (T8.setTop (mkF m 21 #[.val (.ref a1), .val (.long (own_cap (1 : Int64) x0)), .second, .val (.ref a1), .val (.int (4 : Int32)), .val (.int (1 : Int32)), .val (.int x0)] [(.int (1 : Int32)), (.ref a1)])) _
    refine X8.iaload hx (j := (1 : Int32)) (v := (.int x1)) (by rw [e8]; exact Ar10.1) (State.isArrayOf_alike hZ.alike Ar10.2.1) Ar10.2.2 (inb_of S10 ⟨by decide, by decide⟩) (H10.at (inb_of S10 ⟨by decide, by decide⟩) rfl) (g := (mkF m 21 #[.val (.ref a1), .val (.long (own_cap (1 : Int64) x0)), .second, .val (.ref a1), .val (.int (4 : Int32)), .val (.int (1 : Int32)), .val (.int x0)] [(.int (1 : Int32)), (.ref a1)])) rfl rfl (hb hby fits_21) _ ?_
    exact k)
  have go13 : ∀ t, Steps p.tables e below (T8.setTop (mkF m 32 #[.val (.ref a1), .val (.long (own_cap (1 : Int64) x0)), .second, .val (.ref a1), .val (.int (4 : Int32)), .val (.int (1 : Int32)), .val (.int x1)] [(.long (2147483640 : Int64)), (.long ((own_cap (1 : Int64) x0) * (x1.toInt64)))])) t → Steps p.tables e below (s₁.setTop (entryFrame m #[(.ref a1)] 7)) t := fun t k => go12 t (by
    show Steps p.tables e below (T8.setTop (mkF m 22 #[.val (.ref a1), .val (.long (own_cap (1 : Int64) x0)), .second, .val (.ref a1), .val (.int (4 : Int32)), .val (.int (1 : Int32)), .val (.int x0)] [(.int x1)])) _
    refine XS.istore X8.here hx rfl (hb hby fits_22) rfl (l' := #[.val (.ref a1), .val (.long (own_cap (1 : Int64) x0)), .second, .val (.ref a1), .val (.int (4 : Int32)), .val (.int (1 : Int32)), .val (.int x1)]) rfl ?_
    show Steps p.tables e below (T8.setTop (mkF m 24 #[.val (.ref a1), .val (.long (own_cap (1 : Int64) x0)), .second, .val (.ref a1), .val (.int (4 : Int32)), .val (.int (1 : Int32)), .val (.int x1)] [])) _
    refine XS.lloadN X8.here hx rfl (hb hby fits_24) rfl ?_
    show Steps p.tables e below (T8.setTop (mkF m 25 #[.val (.ref a1), .val (.long (own_cap (1 : Int64) x0)), .second, .val (.ref a1), .val (.int (4 : Int32)), .val (.int (1 : Int32)), .val (.int x1)] [(.long (own_cap (1 : Int64) x0))])) _
    refine XS.iload X8.here hx rfl (hb hby fits_25) rfl ?_
    show Steps p.tables e below (T8.setTop (mkF m 27 #[.val (.ref a1), .val (.long (own_cap (1 : Int64) x0)), .second, .val (.ref a1), .val (.int (4 : Int32)), .val (.int (1 : Int32)), .val (.int x1)] [(.int x1), (.long (own_cap (1 : Int64) x0))])) _
    refine XS.i2l X8.here hx rfl (hb hby fits_27) rfl ?_
    show Steps p.tables e below (T8.setTop (mkF m 28 #[.val (.ref a1), .val (.long (own_cap (1 : Int64) x0)), .second, .val (.ref a1), .val (.int (4 : Int32)), .val (.int (1 : Int32)), .val (.int x1)] [(.long (x1.toInt64)), (.long (own_cap (1 : Int64) x0))])) _
    refine XS.lmul X8.here hx rfl (hb hby fits_28) rfl ?_
    show Steps p.tables e below (T8.setTop (mkF m 29 #[.val (.ref a1), .val (.long (own_cap (1 : Int64) x0)), .second, .val (.ref a1), .val (.int (4 : Int32)), .val (.int (1 : Int32)), .val (.int x1)] [(.long ((own_cap (1 : Int64) x0) * (x1.toInt64)))])) _
    refine X8.ldc2J hx hown (mvT hZ (hw _ (List.mem_of_getElem? (i := 12) rfl))) rfl (hb hby fits_29) ?_
    exact k)
  obtain ⟨_, _, ⟨T14, L14, k14, n14⟩, -, X14, ⟨Lc14, hQ14, l14, y14, z14⟩, st14⟩ := Jvm.LawKit.callS X8 hx (y := (⟨"java/lang/Math", "min", "(JJ)J"⟩ : MethodName)) hown (mvT hZ (hw _ (List.mem_of_getElem? (i := 13) rfl))) (mvT hZ (hw _ (List.mem_of_getElem? (i := 14) rfl))) (mvT hZ (hw _ (List.mem_of_getElem? (i := 15) rfl))) (mvT hZ (hw _ (List.mem_of_getElem? (i := 16) rfl))) (by decide) (backOf (W := 0) (rm_mj l Z a0 hw [] ((own_cap (1 : Int64) x0) * (x1.toInt64)) (2147483640 : Int64) h0 n0 Z0 ) hZ (hw _ (List.mem_of_getElem? (i := 16) rfl)) (hw _ (List.mem_of_getElem? (i := 15) rfl)) (by decide) (by decide)) (g := (mkF m 32 #[.val (.ref a1), .val (.long (own_cap (1 : Int64) x0)), .second, .val (.ref a1), .val (.int (4 : Int32)), .val (.int (1 : Int32)), .val (.int x1)] [(.long (2147483640 : Int64)), (.long ((own_cap (1 : Int64) x0) * (x1.toInt64)))])) rfl (by rw [hml]; rfl) (argsL := [(.long ((own_cap (1 : Int64) x0) * (x1.toInt64))), (.long (2147483640 : Int64))]) (rest := []) (lenOf pd_0 rfl) rfl (by show 2 * 0 + _ ≤ _; exact Nat.le_of_eq rfl) (hb hby fits_32) (fun _ _ => ⟨rfl, e8, (by decide : 0 + 0 ≤ _), (by decide : 0 + 0 ≤ _)⟩)
  dsimp only [Pt.U, Pt.locs, Pt.cells, Pt.slots] at X14 l14 y14 z14 st14 hQ14
  subst l14 y14 z14
  obtain ⟨rfl, N14q, e14⟩ := hQ14
  have N14 := Fr.app N8 N14q
  have go15 : ∀ t, Steps p.tables e below (T14.setTop (mkF m 35 #[.val (.ref a1), .val (.long (own_cap (1 : Int64) x0)), .second, .val (.ref a1), .val (.int (4 : Int32)), .val (.int (1 : Int32)), .val (.int x1)] [(.long (own_cap (own_cap (1 : Int64) x0) x1))])) t → Steps p.tables e below (s₁.setTop (entryFrame m #[(.ref a1)] 7)) t := fun t k => go13 t (st14 t k)
  have go17 : ∀ t, Steps p.tables e below (T14.setTop (mkF m 21 #[.val (.ref a1), .val (.long (own_cap (own_cap (1 : Int64) x0) x1)), .second, .val (.ref a1), .val (.int (4 : Int32)), .val (.int (2 : Int32)), .val (.int x1)] [(.int (2 : Int32)), (.ref a1)])) t → Steps p.tables e below (s₁.setTop (entryFrame m #[(.ref a1)] 7)) t := fun t k => go15 t (by
    show Steps p.tables e below (T14.setTop (mkF m 35 #[.val (.ref a1), .val (.long (own_cap (1 : Int64) x0)), .second, .val (.ref a1), .val (.int (4 : Int32)), .val (.int (1 : Int32)), .val (.int x1)] [(.long (own_cap (own_cap (1 : Int64) x0) x1))])) _
    refine XS.lstoreN X14.here hx rfl (hb hby fits_35) rfl (l' := #[.val (.ref a1), .val (.long (own_cap (own_cap (1 : Int64) x0) x1)), .second, .val (.ref a1), .val (.int (4 : Int32)), .val (.int (1 : Int32)), .val (.int x1)]) rfl ?_
    show Steps p.tables e below (T14.setTop (mkF m 36 #[.val (.ref a1), .val (.long (own_cap (own_cap (1 : Int64) x0) x1)), .second, .val (.ref a1), .val (.int (4 : Int32)), .val (.int (1 : Int32)), .val (.int x1)] [])) _
    refine XS.iinc X14.here hx rfl (hb hby fits_36) rfl (l' := #[.val (.ref a1), .val (.long (own_cap (own_cap (1 : Int64) x0) x1)), .second, .val (.ref a1), .val (.int (4 : Int32)), .val (.int (2 : Int32)), .val (.int x1)]) rfl ?_
    show Steps p.tables e below (T14.setTop (mkF m 39 #[.val (.ref a1), .val (.long (own_cap (own_cap (1 : Int64) x0) x1)), .second, .val (.ref a1), .val (.int (4 : Int32)), .val (.int (2 : Int32)), .val (.int x1)] [])) _
    refine XS.goto X14.here hx rfl (pc0 := 39) (pc' := 11) rfl (hb hby fits_39) (by decide) (by decide) ?_
    show Steps p.tables e below (T14.setTop (mkF m 11 #[.val (.ref a1), .val (.long (own_cap (own_cap (1 : Int64) x0) x1)), .second, .val (.ref a1), .val (.int (4 : Int32)), .val (.int (2 : Int32)), .val (.int x1)] [])) _
    refine XS.iload X14.here hx rfl (hb hby fits_11) rfl ?_
    show Steps p.tables e below (T14.setTop (mkF m 13 #[.val (.ref a1), .val (.long (own_cap (own_cap (1 : Int64) x0) x1)), .second, .val (.ref a1), .val (.int (4 : Int32)), .val (.int (2 : Int32)), .val (.int x1)] [(.int (2 : Int32))])) _
    refine XS.iload X14.here hx rfl (hb hby fits_13) rfl ?_
    show Steps p.tables e below (T14.setTop (mkF m 15 #[.val (.ref a1), .val (.long (own_cap (own_cap (1 : Int64) x0) x1)), .second, .val (.ref a1), .val (.int (4 : Int32)), .val (.int (2 : Int32)), .val (.int x1)] [(.int (4 : Int32)), (.int (2 : Int32))])) _
    refine XS.icmpNo X14.here hx rfl (hb hby fits_15) rfl (tlt (by decide : (2 : Int32) < (4 : Int32))).2.1 ?_
    show Steps p.tables e below (T14.setTop (mkF m 18 #[.val (.ref a1), .val (.long (own_cap (own_cap (1 : Int64) x0) x1)), .second, .val (.ref a1), .val (.int (4 : Int32)), .val (.int (2 : Int32)), .val (.int x1)] [])) _
    refine XS.aloadN X14.here hx rfl (hb hby fits_18) rfl rfl ?_
    show Steps p.tables e below (T14.setTop (mkF m 19 #[.val (.ref a1), .val (.long (own_cap (own_cap (1 : Int64) x0) x1)), .second, .val (.ref a1), .val (.int (4 : Int32)), .val (.int (2 : Int32)), .val (.int x1)] [(.ref a1)])) _
    refine XS.iload X14.here hx rfl (hb hby fits_19) rfl ?_
    exact k)
  obtain ⟨cl16, Ar16, q16, S16, M16, H16, G16⟩ := id V1
  have go18 : ∀ t, Steps p.tables e below (T14.setTop (mkF m 22 #[.val (.ref a1), .val (.long (own_cap (own_cap (1 : Int64) x0) x1)), .second, .val (.ref a1), .val (.int (4 : Int32)), .val (.int (2 : Int32)), .val (.int x1)] [(.int x2)])) t → Steps p.tables e below (s₁.setTop (entryFrame m #[(.ref a1)] 7)) t := fun t k => go17 t (by
    show Steps p.tables e below (T14.setTop (mkF m 21 #[.val (.ref a1), .val (.long (own_cap (own_cap (1 : Int64) x0) x1)), .second, .val (.ref a1), .val (.int (4 : Int32)), .val (.int (2 : Int32)), .val (.int x1)] [(.int (2 : Int32)), (.ref a1)])) _
    refine X14.iaload hx (j := (2 : Int32)) (v := (.int x2)) (by rw [e14]; exact Ar16.1) (State.isArrayOf_alike hZ.alike Ar16.2.1) Ar16.2.2 (inb_of S16 ⟨by decide, by decide⟩) (H16.at (inb_of S16 ⟨by decide, by decide⟩) rfl) (g := (mkF m 21 #[.val (.ref a1), .val (.long (own_cap (own_cap (1 : Int64) x0) x1)), .second, .val (.ref a1), .val (.int (4 : Int32)), .val (.int (2 : Int32)), .val (.int x1)] [(.int (2 : Int32)), (.ref a1)])) rfl rfl (hb hby fits_21) _ ?_
    exact k)
  have go19 : ∀ t, Steps p.tables e below (T14.setTop (mkF m 32 #[.val (.ref a1), .val (.long (own_cap (own_cap (1 : Int64) x0) x1)), .second, .val (.ref a1), .val (.int (4 : Int32)), .val (.int (2 : Int32)), .val (.int x2)] [(.long (2147483640 : Int64)), (.long ((own_cap (own_cap (1 : Int64) x0) x1) * (x2.toInt64)))])) t → Steps p.tables e below (s₁.setTop (entryFrame m #[(.ref a1)] 7)) t := fun t k => go18 t (by
    show Steps p.tables e below (T14.setTop (mkF m 22 #[.val (.ref a1), .val (.long (own_cap (own_cap (1 : Int64) x0) x1)), .second, .val (.ref a1), .val (.int (4 : Int32)), .val (.int (2 : Int32)), .val (.int x1)] [(.int x2)])) _
    refine XS.istore X14.here hx rfl (hb hby fits_22) rfl (l' := #[.val (.ref a1), .val (.long (own_cap (own_cap (1 : Int64) x0) x1)), .second, .val (.ref a1), .val (.int (4 : Int32)), .val (.int (2 : Int32)), .val (.int x2)]) rfl ?_
    show Steps p.tables e below (T14.setTop (mkF m 24 #[.val (.ref a1), .val (.long (own_cap (own_cap (1 : Int64) x0) x1)), .second, .val (.ref a1), .val (.int (4 : Int32)), .val (.int (2 : Int32)), .val (.int x2)] [])) _
    refine XS.lloadN X14.here hx rfl (hb hby fits_24) rfl ?_
    show Steps p.tables e below (T14.setTop (mkF m 25 #[.val (.ref a1), .val (.long (own_cap (own_cap (1 : Int64) x0) x1)), .second, .val (.ref a1), .val (.int (4 : Int32)), .val (.int (2 : Int32)), .val (.int x2)] [(.long (own_cap (own_cap (1 : Int64) x0) x1))])) _
    refine XS.iload X14.here hx rfl (hb hby fits_25) rfl ?_
    show Steps p.tables e below (T14.setTop (mkF m 27 #[.val (.ref a1), .val (.long (own_cap (own_cap (1 : Int64) x0) x1)), .second, .val (.ref a1), .val (.int (4 : Int32)), .val (.int (2 : Int32)), .val (.int x2)] [(.int x2), (.long (own_cap (own_cap (1 : Int64) x0) x1))])) _
    refine XS.i2l X14.here hx rfl (hb hby fits_27) rfl ?_
    show Steps p.tables e below (T14.setTop (mkF m 28 #[.val (.ref a1), .val (.long (own_cap (own_cap (1 : Int64) x0) x1)), .second, .val (.ref a1), .val (.int (4 : Int32)), .val (.int (2 : Int32)), .val (.int x2)] [(.long (x2.toInt64)), (.long (own_cap (own_cap (1 : Int64) x0) x1))])) _
    refine XS.lmul X14.here hx rfl (hb hby fits_28) rfl ?_
    show Steps p.tables e below (T14.setTop (mkF m 29 #[.val (.ref a1), .val (.long (own_cap (own_cap (1 : Int64) x0) x1)), .second, .val (.ref a1), .val (.int (4 : Int32)), .val (.int (2 : Int32)), .val (.int x2)] [(.long ((own_cap (own_cap (1 : Int64) x0) x1) * (x2.toInt64)))])) _
    refine X14.ldc2J hx hown (mvT hZ (hw _ (List.mem_of_getElem? (i := 12) rfl))) rfl (hb hby fits_29) ?_
    exact k)
  obtain ⟨_, _, ⟨T20, L20, k20, n20⟩, -, X20, ⟨Lc20, hQ20, l20, y20, z20⟩, st20⟩ := Jvm.LawKit.callS X14 hx (y := (⟨"java/lang/Math", "min", "(JJ)J"⟩ : MethodName)) hown (mvT hZ (hw _ (List.mem_of_getElem? (i := 13) rfl))) (mvT hZ (hw _ (List.mem_of_getElem? (i := 14) rfl))) (mvT hZ (hw _ (List.mem_of_getElem? (i := 15) rfl))) (mvT hZ (hw _ (List.mem_of_getElem? (i := 16) rfl))) (by decide) (backOf (W := 0) (rm_mj l Z a0 hw [] ((own_cap (own_cap (1 : Int64) x0) x1) * (x2.toInt64)) (2147483640 : Int64) h0 n0 Z0 ) hZ (hw _ (List.mem_of_getElem? (i := 16) rfl)) (hw _ (List.mem_of_getElem? (i := 15) rfl)) (by decide) (by decide)) (g := (mkF m 32 #[.val (.ref a1), .val (.long (own_cap (own_cap (1 : Int64) x0) x1)), .second, .val (.ref a1), .val (.int (4 : Int32)), .val (.int (2 : Int32)), .val (.int x2)] [(.long (2147483640 : Int64)), (.long ((own_cap (own_cap (1 : Int64) x0) x1) * (x2.toInt64)))])) rfl (by rw [hml]; rfl) (argsL := [(.long ((own_cap (own_cap (1 : Int64) x0) x1) * (x2.toInt64))), (.long (2147483640 : Int64))]) (rest := []) (lenOf pd_0 rfl) rfl (by show 2 * 0 + _ ≤ _; exact Nat.le_of_eq rfl) (hb hby fits_32) (fun _ _ => ⟨rfl, e14, (by decide : 0 + 0 ≤ _), (by decide : 0 + 0 ≤ _)⟩)
  dsimp only [Pt.U, Pt.locs, Pt.cells, Pt.slots] at X20 l20 y20 z20 st20 hQ20
  subst l20 y20 z20
  obtain ⟨rfl, N20q, e20⟩ := hQ20
  have N20 := Fr.app N14 N20q
  have go21 : ∀ t, Steps p.tables e below (T20.setTop (mkF m 35 #[.val (.ref a1), .val (.long (own_cap (own_cap (1 : Int64) x0) x1)), .second, .val (.ref a1), .val (.int (4 : Int32)), .val (.int (2 : Int32)), .val (.int x2)] [(.long (own_cap (own_cap (own_cap (1 : Int64) x0) x1) x2))])) t → Steps p.tables e below (s₁.setTop (entryFrame m #[(.ref a1)] 7)) t := fun t k => go19 t (st20 t k)
  have go23 : ∀ t, Steps p.tables e below (T20.setTop (mkF m 21 #[.val (.ref a1), .val (.long (own_cap (own_cap (own_cap (1 : Int64) x0) x1) x2)), .second, .val (.ref a1), .val (.int (4 : Int32)), .val (.int (3 : Int32)), .val (.int x2)] [(.int (3 : Int32)), (.ref a1)])) t → Steps p.tables e below (s₁.setTop (entryFrame m #[(.ref a1)] 7)) t := fun t k => go21 t (by
    show Steps p.tables e below (T20.setTop (mkF m 35 #[.val (.ref a1), .val (.long (own_cap (own_cap (1 : Int64) x0) x1)), .second, .val (.ref a1), .val (.int (4 : Int32)), .val (.int (2 : Int32)), .val (.int x2)] [(.long (own_cap (own_cap (own_cap (1 : Int64) x0) x1) x2))])) _
    refine XS.lstoreN X20.here hx rfl (hb hby fits_35) rfl (l' := #[.val (.ref a1), .val (.long (own_cap (own_cap (own_cap (1 : Int64) x0) x1) x2)), .second, .val (.ref a1), .val (.int (4 : Int32)), .val (.int (2 : Int32)), .val (.int x2)]) rfl ?_
    show Steps p.tables e below (T20.setTop (mkF m 36 #[.val (.ref a1), .val (.long (own_cap (own_cap (own_cap (1 : Int64) x0) x1) x2)), .second, .val (.ref a1), .val (.int (4 : Int32)), .val (.int (2 : Int32)), .val (.int x2)] [])) _
    refine XS.iinc X20.here hx rfl (hb hby fits_36) rfl (l' := #[.val (.ref a1), .val (.long (own_cap (own_cap (own_cap (1 : Int64) x0) x1) x2)), .second, .val (.ref a1), .val (.int (4 : Int32)), .val (.int (3 : Int32)), .val (.int x2)]) rfl ?_
    show Steps p.tables e below (T20.setTop (mkF m 39 #[.val (.ref a1), .val (.long (own_cap (own_cap (own_cap (1 : Int64) x0) x1) x2)), .second, .val (.ref a1), .val (.int (4 : Int32)), .val (.int (3 : Int32)), .val (.int x2)] [])) _
    refine XS.goto X20.here hx rfl (pc0 := 39) (pc' := 11) rfl (hb hby fits_39) (by decide) (by decide) ?_
    show Steps p.tables e below (T20.setTop (mkF m 11 #[.val (.ref a1), .val (.long (own_cap (own_cap (own_cap (1 : Int64) x0) x1) x2)), .second, .val (.ref a1), .val (.int (4 : Int32)), .val (.int (3 : Int32)), .val (.int x2)] [])) _
    refine XS.iload X20.here hx rfl (hb hby fits_11) rfl ?_
    show Steps p.tables e below (T20.setTop (mkF m 13 #[.val (.ref a1), .val (.long (own_cap (own_cap (own_cap (1 : Int64) x0) x1) x2)), .second, .val (.ref a1), .val (.int (4 : Int32)), .val (.int (3 : Int32)), .val (.int x2)] [(.int (3 : Int32))])) _
    refine XS.iload X20.here hx rfl (hb hby fits_13) rfl ?_
    show Steps p.tables e below (T20.setTop (mkF m 15 #[.val (.ref a1), .val (.long (own_cap (own_cap (own_cap (1 : Int64) x0) x1) x2)), .second, .val (.ref a1), .val (.int (4 : Int32)), .val (.int (3 : Int32)), .val (.int x2)] [(.int (4 : Int32)), (.int (3 : Int32))])) _
    refine XS.icmpNo X20.here hx rfl (hb hby fits_15) rfl (tlt (by decide : (3 : Int32) < (4 : Int32))).2.1 ?_
    show Steps p.tables e below (T20.setTop (mkF m 18 #[.val (.ref a1), .val (.long (own_cap (own_cap (own_cap (1 : Int64) x0) x1) x2)), .second, .val (.ref a1), .val (.int (4 : Int32)), .val (.int (3 : Int32)), .val (.int x2)] [])) _
    refine XS.aloadN X20.here hx rfl (hb hby fits_18) rfl rfl ?_
    show Steps p.tables e below (T20.setTop (mkF m 19 #[.val (.ref a1), .val (.long (own_cap (own_cap (own_cap (1 : Int64) x0) x1) x2)), .second, .val (.ref a1), .val (.int (4 : Int32)), .val (.int (3 : Int32)), .val (.int x2)] [(.ref a1)])) _
    refine XS.iload X20.here hx rfl (hb hby fits_19) rfl ?_
    exact k)
  obtain ⟨cl22, Ar22, q22, S22, M22, H22, G22⟩ := id V1
  have go24 : ∀ t, Steps p.tables e below (T20.setTop (mkF m 22 #[.val (.ref a1), .val (.long (own_cap (own_cap (own_cap (1 : Int64) x0) x1) x2)), .second, .val (.ref a1), .val (.int (4 : Int32)), .val (.int (3 : Int32)), .val (.int x2)] [(.int x3)])) t → Steps p.tables e below (s₁.setTop (entryFrame m #[(.ref a1)] 7)) t := fun t k => go23 t (by
    show Steps p.tables e below (T20.setTop (mkF m 21 #[.val (.ref a1), .val (.long (own_cap (own_cap (own_cap (1 : Int64) x0) x1) x2)), .second, .val (.ref a1), .val (.int (4 : Int32)), .val (.int (3 : Int32)), .val (.int x2)] [(.int (3 : Int32)), (.ref a1)])) _
    refine X20.iaload hx (j := (3 : Int32)) (v := (.int x3)) (by rw [e20]; exact Ar22.1) (State.isArrayOf_alike hZ.alike Ar22.2.1) Ar22.2.2 (inb_of S22 ⟨by decide, by decide⟩) (H22.at (inb_of S22 ⟨by decide, by decide⟩) rfl) (g := (mkF m 21 #[.val (.ref a1), .val (.long (own_cap (own_cap (own_cap (1 : Int64) x0) x1) x2)), .second, .val (.ref a1), .val (.int (4 : Int32)), .val (.int (3 : Int32)), .val (.int x2)] [(.int (3 : Int32)), (.ref a1)])) rfl rfl (hb hby fits_21) _ ?_
    exact k)
  have go25 : ∀ t, Steps p.tables e below (T20.setTop (mkF m 32 #[.val (.ref a1), .val (.long (own_cap (own_cap (own_cap (1 : Int64) x0) x1) x2)), .second, .val (.ref a1), .val (.int (4 : Int32)), .val (.int (3 : Int32)), .val (.int x3)] [(.long (2147483640 : Int64)), (.long ((own_cap (own_cap (own_cap (1 : Int64) x0) x1) x2) * (x3.toInt64)))])) t → Steps p.tables e below (s₁.setTop (entryFrame m #[(.ref a1)] 7)) t := fun t k => go24 t (by
    show Steps p.tables e below (T20.setTop (mkF m 22 #[.val (.ref a1), .val (.long (own_cap (own_cap (own_cap (1 : Int64) x0) x1) x2)), .second, .val (.ref a1), .val (.int (4 : Int32)), .val (.int (3 : Int32)), .val (.int x2)] [(.int x3)])) _
    refine XS.istore X20.here hx rfl (hb hby fits_22) rfl (l' := #[.val (.ref a1), .val (.long (own_cap (own_cap (own_cap (1 : Int64) x0) x1) x2)), .second, .val (.ref a1), .val (.int (4 : Int32)), .val (.int (3 : Int32)), .val (.int x3)]) rfl ?_
    show Steps p.tables e below (T20.setTop (mkF m 24 #[.val (.ref a1), .val (.long (own_cap (own_cap (own_cap (1 : Int64) x0) x1) x2)), .second, .val (.ref a1), .val (.int (4 : Int32)), .val (.int (3 : Int32)), .val (.int x3)] [])) _
    refine XS.lloadN X20.here hx rfl (hb hby fits_24) rfl ?_
    show Steps p.tables e below (T20.setTop (mkF m 25 #[.val (.ref a1), .val (.long (own_cap (own_cap (own_cap (1 : Int64) x0) x1) x2)), .second, .val (.ref a1), .val (.int (4 : Int32)), .val (.int (3 : Int32)), .val (.int x3)] [(.long (own_cap (own_cap (own_cap (1 : Int64) x0) x1) x2))])) _
    refine XS.iload X20.here hx rfl (hb hby fits_25) rfl ?_
    show Steps p.tables e below (T20.setTop (mkF m 27 #[.val (.ref a1), .val (.long (own_cap (own_cap (own_cap (1 : Int64) x0) x1) x2)), .second, .val (.ref a1), .val (.int (4 : Int32)), .val (.int (3 : Int32)), .val (.int x3)] [(.int x3), (.long (own_cap (own_cap (own_cap (1 : Int64) x0) x1) x2))])) _
    refine XS.i2l X20.here hx rfl (hb hby fits_27) rfl ?_
    show Steps p.tables e below (T20.setTop (mkF m 28 #[.val (.ref a1), .val (.long (own_cap (own_cap (own_cap (1 : Int64) x0) x1) x2)), .second, .val (.ref a1), .val (.int (4 : Int32)), .val (.int (3 : Int32)), .val (.int x3)] [(.long (x3.toInt64)), (.long (own_cap (own_cap (own_cap (1 : Int64) x0) x1) x2))])) _
    refine XS.lmul X20.here hx rfl (hb hby fits_28) rfl ?_
    show Steps p.tables e below (T20.setTop (mkF m 29 #[.val (.ref a1), .val (.long (own_cap (own_cap (own_cap (1 : Int64) x0) x1) x2)), .second, .val (.ref a1), .val (.int (4 : Int32)), .val (.int (3 : Int32)), .val (.int x3)] [(.long ((own_cap (own_cap (own_cap (1 : Int64) x0) x1) x2) * (x3.toInt64)))])) _
    refine X20.ldc2J hx hown (mvT hZ (hw _ (List.mem_of_getElem? (i := 12) rfl))) rfl (hb hby fits_29) ?_
    exact k)
  obtain ⟨_, _, ⟨T26, L26, k26, n26⟩, -, X26, ⟨Lc26, hQ26, l26, y26, z26⟩, st26⟩ := Jvm.LawKit.callS X20 hx (y := (⟨"java/lang/Math", "min", "(JJ)J"⟩ : MethodName)) hown (mvT hZ (hw _ (List.mem_of_getElem? (i := 13) rfl))) (mvT hZ (hw _ (List.mem_of_getElem? (i := 14) rfl))) (mvT hZ (hw _ (List.mem_of_getElem? (i := 15) rfl))) (mvT hZ (hw _ (List.mem_of_getElem? (i := 16) rfl))) (by decide) (backOf (W := 0) (rm_mj l Z a0 hw [] ((own_cap (own_cap (own_cap (1 : Int64) x0) x1) x2) * (x3.toInt64)) (2147483640 : Int64) h0 n0 Z0 ) hZ (hw _ (List.mem_of_getElem? (i := 16) rfl)) (hw _ (List.mem_of_getElem? (i := 15) rfl)) (by decide) (by decide)) (g := (mkF m 32 #[.val (.ref a1), .val (.long (own_cap (own_cap (own_cap (1 : Int64) x0) x1) x2)), .second, .val (.ref a1), .val (.int (4 : Int32)), .val (.int (3 : Int32)), .val (.int x3)] [(.long (2147483640 : Int64)), (.long ((own_cap (own_cap (own_cap (1 : Int64) x0) x1) x2) * (x3.toInt64)))])) rfl (by rw [hml]; rfl) (argsL := [(.long ((own_cap (own_cap (own_cap (1 : Int64) x0) x1) x2) * (x3.toInt64))), (.long (2147483640 : Int64))]) (rest := []) (lenOf pd_0 rfl) rfl (by show 2 * 0 + _ ≤ _; exact Nat.le_of_eq rfl) (hb hby fits_32) (fun _ _ => ⟨rfl, e20, (by decide : 0 + 0 ≤ _), (by decide : 0 + 0 ≤ _)⟩)
  dsimp only [Pt.U, Pt.locs, Pt.cells, Pt.slots] at X26 l26 y26 z26 st26 hQ26
  subst l26 y26 z26
  obtain ⟨rfl, N26q, e26⟩ := hQ26
  have N26 := Fr.app N20 N26q
  have go27 : ∀ t, Steps p.tables e below (T26.setTop (mkF m 35 #[.val (.ref a1), .val (.long (own_cap (own_cap (own_cap (1 : Int64) x0) x1) x2)), .second, .val (.ref a1), .val (.int (4 : Int32)), .val (.int (3 : Int32)), .val (.int x3)] [(.long (own_cap (own_cap (own_cap (own_cap (1 : Int64) x0) x1) x2) x3))])) t → Steps p.tables e below (s₁.setTop (entryFrame m #[(.ref a1)] 7)) t := fun t k => go25 t (st26 t k)
  have go28 : ∀ t, Steps p.tables e below (T26.setTop (mkF m 47 #[.val (.ref a1), .val (.long (own_cap (own_cap (own_cap (own_cap (1 : Int64) x0) x1) x2) x3)), .second, .val (.ref a1), .val (.int (4 : Int32)), .val (.int (4 : Int32)), .val (.int x3)] [(.int (lcmpW (own_cap (own_cap (own_cap (own_cap (1 : Int64) x0) x1) x2) x3) (2147483639 : Int64)))])) t → Steps p.tables e below (s₁.setTop (entryFrame m #[(.ref a1)] 7)) t := fun t k => go27 t (by
    show Steps p.tables e below (T26.setTop (mkF m 35 #[.val (.ref a1), .val (.long (own_cap (own_cap (own_cap (1 : Int64) x0) x1) x2)), .second, .val (.ref a1), .val (.int (4 : Int32)), .val (.int (3 : Int32)), .val (.int x3)] [(.long (own_cap (own_cap (own_cap (own_cap (1 : Int64) x0) x1) x2) x3))])) _
    refine XS.lstoreN X26.here hx rfl (hb hby fits_35) rfl (l' := #[.val (.ref a1), .val (.long (own_cap (own_cap (own_cap (own_cap (1 : Int64) x0) x1) x2) x3)), .second, .val (.ref a1), .val (.int (4 : Int32)), .val (.int (3 : Int32)), .val (.int x3)]) rfl ?_
    show Steps p.tables e below (T26.setTop (mkF m 36 #[.val (.ref a1), .val (.long (own_cap (own_cap (own_cap (own_cap (1 : Int64) x0) x1) x2) x3)), .second, .val (.ref a1), .val (.int (4 : Int32)), .val (.int (3 : Int32)), .val (.int x3)] [])) _
    refine XS.iinc X26.here hx rfl (hb hby fits_36) rfl (l' := #[.val (.ref a1), .val (.long (own_cap (own_cap (own_cap (own_cap (1 : Int64) x0) x1) x2) x3)), .second, .val (.ref a1), .val (.int (4 : Int32)), .val (.int (4 : Int32)), .val (.int x3)]) rfl ?_
    show Steps p.tables e below (T26.setTop (mkF m 39 #[.val (.ref a1), .val (.long (own_cap (own_cap (own_cap (own_cap (1 : Int64) x0) x1) x2) x3)), .second, .val (.ref a1), .val (.int (4 : Int32)), .val (.int (4 : Int32)), .val (.int x3)] [])) _
    refine XS.goto X26.here hx rfl (pc0 := 39) (pc' := 11) rfl (hb hby fits_39) (by decide) (by decide) ?_
    show Steps p.tables e below (T26.setTop (mkF m 11 #[.val (.ref a1), .val (.long (own_cap (own_cap (own_cap (own_cap (1 : Int64) x0) x1) x2) x3)), .second, .val (.ref a1), .val (.int (4 : Int32)), .val (.int (4 : Int32)), .val (.int x3)] [])) _
    refine XS.iload X26.here hx rfl (hb hby fits_11) rfl ?_
    show Steps p.tables e below (T26.setTop (mkF m 13 #[.val (.ref a1), .val (.long (own_cap (own_cap (own_cap (own_cap (1 : Int64) x0) x1) x2) x3)), .second, .val (.ref a1), .val (.int (4 : Int32)), .val (.int (4 : Int32)), .val (.int x3)] [(.int (4 : Int32))])) _
    refine XS.iload X26.here hx rfl (hb hby fits_13) rfl ?_
    show Steps p.tables e below (T26.setTop (mkF m 15 #[.val (.ref a1), .val (.long (own_cap (own_cap (own_cap (own_cap (1 : Int64) x0) x1) x2) x3)), .second, .val (.ref a1), .val (.int (4 : Int32)), .val (.int (4 : Int32)), .val (.int x3)] [(.int (4 : Int32)), (.int (4 : Int32))])) _
    refine XS.icmpYes X26.here hx rfl (pc0 := 15) (pc' := 42) rfl (hb hby fits_15) rfl (flt (by decide : ¬ ((4 : Int32) < (4 : Int32)))).2.1 (by decide) (by decide) ?_
    show Steps p.tables e below (T26.setTop (mkF m 42 #[.val (.ref a1), .val (.long (own_cap (own_cap (own_cap (own_cap (1 : Int64) x0) x1) x2) x3)), .second, .val (.ref a1), .val (.int (4 : Int32)), .val (.int (4 : Int32)), .val (.int x3)] [])) _
    refine XS.lloadN X26.here hx rfl (hb hby fits_42) rfl ?_
    show Steps p.tables e below (T26.setTop (mkF m 43 #[.val (.ref a1), .val (.long (own_cap (own_cap (own_cap (own_cap (1 : Int64) x0) x1) x2) x3)), .second, .val (.ref a1), .val (.int (4 : Int32)), .val (.int (4 : Int32)), .val (.int x3)] [(.long (own_cap (own_cap (own_cap (own_cap (1 : Int64) x0) x1) x2) x3))])) _
    refine X26.ldc2J hx hown (mvT hZ (hw _ (List.mem_of_getElem? (i := 6) rfl))) rfl (hb hby fits_43) ?_
    show Steps p.tables e below (T26.setTop (mkF m 46 #[.val (.ref a1), .val (.long (own_cap (own_cap (own_cap (own_cap (1 : Int64) x0) x1) x2) x3)), .second, .val (.ref a1), .val (.int (4 : Int32)), .val (.int (4 : Int32)), .val (.int x3)] [(.long (2147483639 : Int64)), (.long (own_cap (own_cap (own_cap (own_cap (1 : Int64) x0) x1) x2) x3))])) _
    refine XS.lcmp X26.here hx rfl (hb hby fits_46) rfl ?_
    exact k)
  by_cases hc29 : (2147483639 : Int64) < (own_cap (own_cap (own_cap (own_cap (1 : Int64) x0) x1) x2) x3)
  · have go30 : ∀ t, Steps p.tables e below (T26.setTop (mkF m 55 #[.val (.ref a1), .val (.long (own_cap (own_cap (own_cap (own_cap (1 : Int64) x0) x1) x2) x3)), .second, .val (.ref a1), .val (.int (4 : Int32)), .val (.int (4 : Int32)), .val (.int x3)] [(.int (0 : Int32))])) t → Steps p.tables e below (s₁.setTop (entryFrame m #[(.ref a1)] 7)) t := fun t k => go28 t (by
      show Steps p.tables e below (T26.setTop (mkF m 47 #[.val (.ref a1), .val (.long (own_cap (own_cap (own_cap (own_cap (1 : Int64) x0) x1) x2) x3)), .second, .val (.ref a1), .val (.int (4 : Int32)), .val (.int (4 : Int32)), .val (.int x3)] [(.int (lcmpW (own_cap (own_cap (own_cap (own_cap (1 : Int64) x0) x1) x2) x3) (2147483639 : Int64)))])) _
      refine XS.ifYes X26.here hx rfl (pc0 := 47) (pc' := 54) rfl (hb hby fits_47) rfl ((if0 _ _).trans (tlt ((lw_gt _ _).mpr hc29)).2.2.1) (by decide) (by decide) ?_
      show Steps p.tables e below (T26.setTop (mkF m 54 #[.val (.ref a1), .val (.long (own_cap (own_cap (own_cap (own_cap (1 : Int64) x0) x1) x2) x3)), .second, .val (.ref a1), .val (.int (4 : Int32)), .val (.int (4 : Int32)), .val (.int x3)] [])) _
      refine XS.iconst X26.here hx rfl (hb hby fits_54) ?_
      exact k)
    obtain ⟨fs, hr, hrun, hended, hW, hsame⟩ := X26.leave (v := some (.int (0 : Int32))) (fun h => by rw [Bd.returns] at h; cases h)
    refine ⟨_, _, go30 _ ?_, hrun, hended, _, _, rfl, ?_, ⟨_, rfl⟩, hW, hsame.mono (by decide) (by decide)⟩
    · exact retN X26 hx (t := .boolean) Bd.returns (by simp) (hb hby fits_55) hr
    · show QV (.int (own_fits4 x0 x1 x2 x3)) h0 n0 _ T26.heap _
      rw [e26]
      exact ⟨congrArg some (congrArg Value.int (Eq.symm (show (own_fits4 x0 x1 x2 x3) = (0 : Int32) from by unfold own_fits4; rw [if_pos hc29]))), N26, rfl⟩
  · have go31 : ∀ t, Steps p.tables e below (T26.setTop (mkF m 55 #[.val (.ref a1), .val (.long (own_cap (own_cap (own_cap (own_cap (1 : Int64) x0) x1) x2) x3)), .second, .val (.ref a1), .val (.int (4 : Int32)), .val (.int (4 : Int32)), .val (.int x3)] [(.int (1 : Int32))])) t → Steps p.tables e below (s₁.setTop (entryFrame m #[(.ref a1)] 7)) t := fun t k => go28 t (by
      show Steps p.tables e below (T26.setTop (mkF m 47 #[.val (.ref a1), .val (.long (own_cap (own_cap (own_cap (own_cap (1 : Int64) x0) x1) x2) x3)), .second, .val (.ref a1), .val (.int (4 : Int32)), .val (.int (4 : Int32)), .val (.int x3)] [(.int (lcmpW (own_cap (own_cap (own_cap (own_cap (1 : Int64) x0) x1) x2) x3) (2147483639 : Int64)))])) _
      refine XS.ifNo X26.here hx rfl (hb hby fits_47) rfl ((if0 _ _).trans (flt (mt (lw_gt _ _).mp hc29)).2.2.1) ?_
      show Steps p.tables e below (T26.setTop (mkF m 50 #[.val (.ref a1), .val (.long (own_cap (own_cap (own_cap (own_cap (1 : Int64) x0) x1) x2) x3)), .second, .val (.ref a1), .val (.int (4 : Int32)), .val (.int (4 : Int32)), .val (.int x3)] [])) _
      refine XS.iconst X26.here hx rfl (hb hby fits_50) ?_
      show Steps p.tables e below (T26.setTop (mkF m 51 #[.val (.ref a1), .val (.long (own_cap (own_cap (own_cap (own_cap (1 : Int64) x0) x1) x2) x3)), .second, .val (.ref a1), .val (.int (4 : Int32)), .val (.int (4 : Int32)), .val (.int x3)] [(.int (1 : Int32))])) _
      refine XS.goto X26.here hx rfl (pc0 := 51) (pc' := 55) rfl (hb hby fits_51) (by decide) (by decide) ?_
      exact k)
    obtain ⟨fs, hr, hrun, hended, hW, hsame⟩ := X26.leave (v := some (.int (1 : Int32))) (fun h => by rw [Bd.returns] at h; cases h)
    refine ⟨_, _, go31 _ ?_, hrun, hended, _, _, rfl, ?_, ⟨_, rfl⟩, hW, hsame.mono (by decide) (by decide)⟩
    · exact retN X26 hx (t := .boolean) Bd.returns (by simp) (hb hby fits_55) hr
    · show QV (.int (own_fits4 x0 x1 x2 x3)) h0 n0 _ T26.heap _
      rw [e26]
      exact ⟨congrArg some (congrArg Value.int (Eq.symm (show (own_fits4 x0 x1 x2 x3) = (1 : Int32) from by unfold own_fits4; rw [if_neg hc29]))), N26, rfl⟩
def own_exp4 (p2 : Int32) (p3 : Int32) (p4 : Int32) (p5 : Int32) : Int32 := if p2 = (0 : Int32) then (1 : Int32) else (if p3 = (0 : Int32) then (1 : Int32) else (if p4 = (0 : Int32) then (1 : Int32) else (if p5 = (0 : Int32) then (1 : Int32) else (if (2147483639 : Int64) < (p2.toInt64) then (0 : Int32) else (if (2147483639 : Int64) < ((p2.toInt64) * (p3.toInt64)) then (0 : Int32) else (if (2147483639 : Int64) < (((p2.toInt64) * (p3.toInt64)) * (p4.toInt64)) then (0 : Int32) else (if (2147483639 : Int64) < ((((p2.toInt64) * (p3.toInt64)) * (p4.toInt64)) * (p5.toInt64)) then (0 : Int32) else (1 : Int32))))))))
set_option maxRecDepth 65536 in
set_option maxHeartbeats 40000000 in
theorem rm_exp4 (l : Launch) (Z : State) (a0 : Array Value) (hw : ∀ d ∈ tables_1, d.before a0 Z = true) (ws : List Jvm.Cond) (p2 : Int32) (p3 : Int32) (p4 : Int32) (p5 : Int32) (h0 : Heap) (n0 : Nat) (Z0 : n0 ≤ h0.size)  :
    MetFree l (⟨"com/example/inlet/inlet/compiler/ArrayValueFitsPinLaw", "expected", "(IIIII)Z"⟩ : MethodName) (head1 (Jvm.Cond.code (⟨"com/example/inlet/inlet/compiler/ArrayValueFitsPinLaw", "expected", "(IIIII)Z"⟩ : MethodName) method_3_code 10 (some .boolean) :: ws) ({ frames := 0, cells := 0, slots := 0, locals := 0 } : Room)) (fun a U => a = #[(.int (4 : Int32)), (.int p2), (.int p3), (.int p4), (.int p5)] ∧ Z.Warmed39 U.vm ∧ U.heap = h0) (fun _ _ _ _ _ => True) (fun _ U o U' => ∃ v L, o = .returned v ∧ QV (.int (own_exp4 p2 p3 p4 p5)) h0 n0 v U'.heap L ∧ FrameEnd U o U' L ({ frames := 0, cells := 0, slots := 0, locals := 0 } : Room).cells ({ frames := 0, cells := 0, slots := 0, locals := 0 } : Room).slots) := by
  refine MetFree.of_bodySF (plainFor_of_name pn_exp) hisR ?_
  intro p e s m args below meth c s₁ Bd hml0 hP hK
  obtain ⟨rfl, hZ, hh⟩ := hP
  have hx := Bd.exec
  have hby := Bd.bytes
  have hml : c.maxLocals = 10 := hml0
  have hown : s.vm.findClass "com/example/inlet/inlet/compiler/ArrayValueFitsPinLaw" = some m.cls := findClass_of_methodNamed Bd.named
  have hnm := (name_of_methodNamed Bd.named Bd.method).1
  have X0 : Stand p l e ({ frames := 0, cells := 0, slots := 0, locals := 0 } : Room) s m #[(.int (4 : Int32)), (.int p2), (.int p3), (.int p4), (.int p5)] below meth c s₁ [] 0 0 := Stand.of_body Bd
  have e0 : s₁.heap = h0 := by rw [← hh, Bd.state]; rfl
  have N0 := Fr.nil n0
  have go0 : ∀ t, Steps p.tables e below (s₁.setTop (mkF m 0 #[.val (.int (4 : Int32)), .val (.int p2), .val (.int p3), .val (.int p4), .val (.int p5), .unset, .unset, .unset, .unset, .unset] [])) t → Steps p.tables e below (s₁.setTop (entryFrame m #[(.int (4 : Int32)), (.int p2), (.int p3), (.int p4), (.int p5)] 10)) t := fun t k => castTop (ef_exp m (4 : Int32) p2 p3 p4 p5) k
  have go1 : ∀ t, Steps p.tables e below (s₁.setTop (mkF m 11 #[.val (.int (4 : Int32)), .val (.int p2), .val (.int p3), .val (.int p4), .val (.int p5), .val (.long (2147483639 : Int64)), .second, .unset, .unset, .unset] [(.int p2)])) t → Steps p.tables e below (s₁.setTop (entryFrame m #[(.int (4 : Int32)), (.int p2), (.int p3), (.int p4), (.int p5)] 10)) t := fun t k => go0 t (by
    show Steps p.tables e below (s₁.setTop (mkF m 0 #[.val (.int (4 : Int32)), .val (.int p2), .val (.int p3), .val (.int p4), .val (.int p5), .unset, .unset, .unset, .unset, .unset] [])) _
    refine X0.ldc2J hx hown (mvT hZ (hw _ (List.mem_of_getElem? (i := 11) rfl))) rfl (hb hby exp_0) ?_
    show Steps p.tables e below (s₁.setTop (mkF m 3 #[.val (.int (4 : Int32)), .val (.int p2), .val (.int p3), .val (.int p4), .val (.int p5), .unset, .unset, .unset, .unset, .unset] [(.long (2147483639 : Int64))])) _
    refine XS.lstore X0.here hx rfl (hb hby exp_3) rfl (l' := #[.val (.int (4 : Int32)), .val (.int p2), .val (.int p3), .val (.int p4), .val (.int p5), .val (.long (2147483639 : Int64)), .second, .unset, .unset, .unset]) rfl ?_
    show Steps p.tables e below (s₁.setTop (mkF m 5 #[.val (.int (4 : Int32)), .val (.int p2), .val (.int p3), .val (.int p4), .val (.int p5), .val (.long (2147483639 : Int64)), .second, .unset, .unset, .unset] [])) _
    refine XS.iloadN X0.here hx rfl (hb hby exp_5) rfl ?_
    show Steps p.tables e below (s₁.setTop (mkF m 6 #[.val (.int (4 : Int32)), .val (.int p2), .val (.int p3), .val (.int p4), .val (.int p5), .val (.long (2147483639 : Int64)), .second, .unset, .unset, .unset] [(.int (4 : Int32))])) _
    refine XS.iconst X0.here hx rfl (hb hby exp_6) ?_
    show Steps p.tables e below (s₁.setTop (mkF m 7 #[.val (.int (4 : Int32)), .val (.int p2), .val (.int p3), .val (.int p4), .val (.int p5), .val (.long (2147483639 : Int64)), .second, .unset, .unset, .unset] [(.int (1 : Int32)), (.int (4 : Int32))])) _
    refine XS.icmpNo X0.here hx rfl (hb hby exp_7) rfl (flt (by decide : ¬ ((4 : Int32) < (1 : Int32)))).1 ?_
    show Steps p.tables e below (s₁.setTop (mkF m 10 #[.val (.int (4 : Int32)), .val (.int p2), .val (.int p3), .val (.int p4), .val (.int p5), .val (.long (2147483639 : Int64)), .second, .unset, .unset, .unset] [])) _
    refine XS.iloadN X0.here hx rfl (hb hby exp_10) rfl ?_
    exact k)
  by_cases hc2 : p2 = (0 : Int32)
  · have go3 : ∀ t, Steps p.tables e below (s₁.setTop (mkF m 55 #[.val (.int (4 : Int32)), .val (.int p2), .val (.int p3), .val (.int p4), .val (.int p5), .val (.long (2147483639 : Int64)), .second, .val (.int (1 : Int32)), .unset, .unset] [(.int (1 : Int32))])) t → Steps p.tables e below (s₁.setTop (entryFrame m #[(.int (4 : Int32)), (.int p2), (.int p3), (.int p4), (.int p5)] 10)) t := fun t k => go1 t (by
      show Steps p.tables e below (s₁.setTop (mkF m 11 #[.val (.int (4 : Int32)), .val (.int p2), .val (.int p3), .val (.int p4), .val (.int p5), .val (.long (2147483639 : Int64)), .second, .unset, .unset, .unset] [(.int p2)])) _
      refine XS.ifYes X0.here hx rfl (pc0 := 11) (pc' := 42) rfl (hb hby exp_11) rfl ((if0 _ _).trans (teq hc2).1) (by decide) (by decide) ?_
      show Steps p.tables e below (s₁.setTop (mkF m 42 #[.val (.int (4 : Int32)), .val (.int p2), .val (.int p3), .val (.int p4), .val (.int p5), .val (.long (2147483639 : Int64)), .second, .unset, .unset, .unset] [])) _
      refine XS.iconst X0.here hx rfl (hb hby exp_42) ?_
      show Steps p.tables e below (s₁.setTop (mkF m 43 #[.val (.int (4 : Int32)), .val (.int p2), .val (.int p3), .val (.int p4), .val (.int p5), .val (.long (2147483639 : Int64)), .second, .unset, .unset, .unset] [(.int (1 : Int32))])) _
      refine XS.goto X0.here hx rfl (pc0 := 43) (pc' := 47) rfl (hb hby exp_43) (by decide) (by decide) ?_
      show Steps p.tables e below (s₁.setTop (mkF m 47 #[.val (.int (4 : Int32)), .val (.int p2), .val (.int p3), .val (.int p4), .val (.int p5), .val (.long (2147483639 : Int64)), .second, .unset, .unset, .unset] [(.int (1 : Int32))])) _
      refine XS.istore X0.here hx rfl (hb hby exp_47) rfl (l' := #[.val (.int (4 : Int32)), .val (.int p2), .val (.int p3), .val (.int p4), .val (.int p5), .val (.long (2147483639 : Int64)), .second, .val (.int (1 : Int32)), .unset, .unset]) rfl ?_
      show Steps p.tables e below (s₁.setTop (mkF m 49 #[.val (.int (4 : Int32)), .val (.int p2), .val (.int p3), .val (.int p4), .val (.int p5), .val (.long (2147483639 : Int64)), .second, .val (.int (1 : Int32)), .unset, .unset] [])) _
      refine XS.iload X0.here hx rfl (hb hby exp_49) rfl ?_
      show Steps p.tables e below (s₁.setTop (mkF m 51 #[.val (.int (4 : Int32)), .val (.int p2), .val (.int p3), .val (.int p4), .val (.int p5), .val (.long (2147483639 : Int64)), .second, .val (.int (1 : Int32)), .unset, .unset] [(.int (1 : Int32))])) _
      refine XS.ifNo X0.here hx rfl (hb hby exp_51) rfl ((if0 _ _).trans (feq (by decide : ¬ ((1 : Int32) = (0 : Int32)))).1) ?_
      show Steps p.tables e below (s₁.setTop (mkF m 54 #[.val (.int (4 : Int32)), .val (.int p2), .val (.int p3), .val (.int p4), .val (.int p5), .val (.long (2147483639 : Int64)), .second, .val (.int (1 : Int32)), .unset, .unset] [])) _
      refine XS.iconst X0.here hx rfl (hb hby exp_54) ?_
      exact k)
    obtain ⟨fs, hr, hrun, hended, hW, hsame⟩ := X0.leave (v := some (.int (1 : Int32))) (fun h => by rw [Bd.returns] at h; cases h)
    refine ⟨_, _, go3 _ ?_, hrun, hended, _, _, rfl, ?_, ⟨_, rfl⟩, hW, hsame.mono (by decide) (by decide)⟩
    · exact retN X0 hx (t := .boolean) Bd.returns (by simp) (hb hby exp_55) hr
    · show QV (.int (own_exp4 p2 p3 p4 p5)) h0 n0 _ s₁.heap _
      rw [e0]
      exact ⟨congrArg some (congrArg Value.int (Eq.symm (show (own_exp4 p2 p3 p4 p5) = (1 : Int32) from by unfold own_exp4; rw [if_pos hc2]))), N0, rfl⟩
  · have go4 : ∀ t, Steps p.tables e below (s₁.setTop (mkF m 20 #[.val (.int (4 : Int32)), .val (.int p2), .val (.int p3), .val (.int p4), .val (.int p5), .val (.long (2147483639 : Int64)), .second, .unset, .unset, .unset] [(.int p3)])) t → Steps p.tables e below (s₁.setTop (entryFrame m #[(.int (4 : Int32)), (.int p2), (.int p3), (.int p4), (.int p5)] 10)) t := fun t k => go1 t (by
      show Steps p.tables e below (s₁.setTop (mkF m 11 #[.val (.int (4 : Int32)), .val (.int p2), .val (.int p3), .val (.int p4), .val (.int p5), .val (.long (2147483639 : Int64)), .second, .unset, .unset, .unset] [(.int p2)])) _
      refine XS.ifNo X0.here hx rfl (hb hby exp_11) rfl ((if0 _ _).trans (feq hc2).1) ?_
      show Steps p.tables e below (s₁.setTop (mkF m 14 #[.val (.int (4 : Int32)), .val (.int p2), .val (.int p3), .val (.int p4), .val (.int p5), .val (.long (2147483639 : Int64)), .second, .unset, .unset, .unset] [])) _
      refine XS.iloadN X0.here hx rfl (hb hby exp_14) rfl ?_
      show Steps p.tables e below (s₁.setTop (mkF m 15 #[.val (.int (4 : Int32)), .val (.int p2), .val (.int p3), .val (.int p4), .val (.int p5), .val (.long (2147483639 : Int64)), .second, .unset, .unset, .unset] [(.int (4 : Int32))])) _
      refine XS.iconst X0.here hx rfl (hb hby exp_15) ?_
      show Steps p.tables e below (s₁.setTop (mkF m 16 #[.val (.int (4 : Int32)), .val (.int p2), .val (.int p3), .val (.int p4), .val (.int p5), .val (.long (2147483639 : Int64)), .second, .unset, .unset, .unset] [(.int (2 : Int32)), (.int (4 : Int32))])) _
      refine XS.icmpNo X0.here hx rfl (hb hby exp_16) rfl (flt (by decide : ¬ ((4 : Int32) < (2 : Int32)))).1 ?_
      show Steps p.tables e below (s₁.setTop (mkF m 19 #[.val (.int (4 : Int32)), .val (.int p2), .val (.int p3), .val (.int p4), .val (.int p5), .val (.long (2147483639 : Int64)), .second, .unset, .unset, .unset] [])) _
      refine XS.iloadN X0.here hx rfl (hb hby exp_19) rfl ?_
      exact k)
    by_cases hc5 : p3 = (0 : Int32)
    · have go6 : ∀ t, Steps p.tables e below (s₁.setTop (mkF m 55 #[.val (.int (4 : Int32)), .val (.int p2), .val (.int p3), .val (.int p4), .val (.int p5), .val (.long (2147483639 : Int64)), .second, .val (.int (1 : Int32)), .unset, .unset] [(.int (1 : Int32))])) t → Steps p.tables e below (s₁.setTop (entryFrame m #[(.int (4 : Int32)), (.int p2), (.int p3), (.int p4), (.int p5)] 10)) t := fun t k => go4 t (by
        show Steps p.tables e below (s₁.setTop (mkF m 20 #[.val (.int (4 : Int32)), .val (.int p2), .val (.int p3), .val (.int p4), .val (.int p5), .val (.long (2147483639 : Int64)), .second, .unset, .unset, .unset] [(.int p3)])) _
        refine XS.ifYes X0.here hx rfl (pc0 := 20) (pc' := 42) rfl (hb hby exp_20) rfl ((if0 _ _).trans (teq hc5).1) (by decide) (by decide) ?_
        show Steps p.tables e below (s₁.setTop (mkF m 42 #[.val (.int (4 : Int32)), .val (.int p2), .val (.int p3), .val (.int p4), .val (.int p5), .val (.long (2147483639 : Int64)), .second, .unset, .unset, .unset] [])) _
        refine XS.iconst X0.here hx rfl (hb hby exp_42) ?_
        show Steps p.tables e below (s₁.setTop (mkF m 43 #[.val (.int (4 : Int32)), .val (.int p2), .val (.int p3), .val (.int p4), .val (.int p5), .val (.long (2147483639 : Int64)), .second, .unset, .unset, .unset] [(.int (1 : Int32))])) _
        refine XS.goto X0.here hx rfl (pc0 := 43) (pc' := 47) rfl (hb hby exp_43) (by decide) (by decide) ?_
        show Steps p.tables e below (s₁.setTop (mkF m 47 #[.val (.int (4 : Int32)), .val (.int p2), .val (.int p3), .val (.int p4), .val (.int p5), .val (.long (2147483639 : Int64)), .second, .unset, .unset, .unset] [(.int (1 : Int32))])) _
        refine XS.istore X0.here hx rfl (hb hby exp_47) rfl (l' := #[.val (.int (4 : Int32)), .val (.int p2), .val (.int p3), .val (.int p4), .val (.int p5), .val (.long (2147483639 : Int64)), .second, .val (.int (1 : Int32)), .unset, .unset]) rfl ?_
        show Steps p.tables e below (s₁.setTop (mkF m 49 #[.val (.int (4 : Int32)), .val (.int p2), .val (.int p3), .val (.int p4), .val (.int p5), .val (.long (2147483639 : Int64)), .second, .val (.int (1 : Int32)), .unset, .unset] [])) _
        refine XS.iload X0.here hx rfl (hb hby exp_49) rfl ?_
        show Steps p.tables e below (s₁.setTop (mkF m 51 #[.val (.int (4 : Int32)), .val (.int p2), .val (.int p3), .val (.int p4), .val (.int p5), .val (.long (2147483639 : Int64)), .second, .val (.int (1 : Int32)), .unset, .unset] [(.int (1 : Int32))])) _
        refine XS.ifNo X0.here hx rfl (hb hby exp_51) rfl ((if0 _ _).trans (feq (by decide : ¬ ((1 : Int32) = (0 : Int32)))).1) ?_
        show Steps p.tables e below (s₁.setTop (mkF m 54 #[.val (.int (4 : Int32)), .val (.int p2), .val (.int p3), .val (.int p4), .val (.int p5), .val (.long (2147483639 : Int64)), .second, .val (.int (1 : Int32)), .unset, .unset] [])) _
        refine XS.iconst X0.here hx rfl (hb hby exp_54) ?_
        exact k)
      obtain ⟨fs, hr, hrun, hended, hW, hsame⟩ := X0.leave (v := some (.int (1 : Int32))) (fun h => by rw [Bd.returns] at h; cases h)
      refine ⟨_, _, go6 _ ?_, hrun, hended, _, _, rfl, ?_, ⟨_, rfl⟩, hW, hsame.mono (by decide) (by decide)⟩
      · exact retN X0 hx (t := .boolean) Bd.returns (by simp) (hb hby exp_55) hr
      · show QV (.int (own_exp4 p2 p3 p4 p5)) h0 n0 _ s₁.heap _
        rw [e0]
        exact ⟨congrArg some (congrArg Value.int (Eq.symm (show (own_exp4 p2 p3 p4 p5) = (1 : Int32) from by unfold own_exp4; rw [if_neg hc2, if_pos hc5]))), N0, rfl⟩
    · have go7 : ∀ t, Steps p.tables e below (s₁.setTop (mkF m 29 #[.val (.int (4 : Int32)), .val (.int p2), .val (.int p3), .val (.int p4), .val (.int p5), .val (.long (2147483639 : Int64)), .second, .unset, .unset, .unset] [(.int p4)])) t → Steps p.tables e below (s₁.setTop (entryFrame m #[(.int (4 : Int32)), (.int p2), (.int p3), (.int p4), (.int p5)] 10)) t := fun t k => go4 t (by
        show Steps p.tables e below (s₁.setTop (mkF m 20 #[.val (.int (4 : Int32)), .val (.int p2), .val (.int p3), .val (.int p4), .val (.int p5), .val (.long (2147483639 : Int64)), .second, .unset, .unset, .unset] [(.int p3)])) _
        refine XS.ifNo X0.here hx rfl (hb hby exp_20) rfl ((if0 _ _).trans (feq hc5).1) ?_
        show Steps p.tables e below (s₁.setTop (mkF m 23 #[.val (.int (4 : Int32)), .val (.int p2), .val (.int p3), .val (.int p4), .val (.int p5), .val (.long (2147483639 : Int64)), .second, .unset, .unset, .unset] [])) _
        refine XS.iloadN X0.here hx rfl (hb hby exp_23) rfl ?_
        show Steps p.tables e below (s₁.setTop (mkF m 24 #[.val (.int (4 : Int32)), .val (.int p2), .val (.int p3), .val (.int p4), .val (.int p5), .val (.long (2147483639 : Int64)), .second, .unset, .unset, .unset] [(.int (4 : Int32))])) _
        refine XS.iconst X0.here hx rfl (hb hby exp_24) ?_
        show Steps p.tables e below (s₁.setTop (mkF m 25 #[.val (.int (4 : Int32)), .val (.int p2), .val (.int p3), .val (.int p4), .val (.int p5), .val (.long (2147483639 : Int64)), .second, .unset, .unset, .unset] [(.int (3 : Int32)), (.int (4 : Int32))])) _
        refine XS.icmpNo X0.here hx rfl (hb hby exp_25) rfl (flt (by decide : ¬ ((4 : Int32) < (3 : Int32)))).1 ?_
        show Steps p.tables e below (s₁.setTop (mkF m 28 #[.val (.int (4 : Int32)), .val (.int p2), .val (.int p3), .val (.int p4), .val (.int p5), .val (.long (2147483639 : Int64)), .second, .unset, .unset, .unset] [])) _
        refine XS.iloadN X0.here hx rfl (hb hby exp_28) rfl ?_
        exact k)
      by_cases hc8 : p4 = (0 : Int32)
      · have go9 : ∀ t, Steps p.tables e below (s₁.setTop (mkF m 55 #[.val (.int (4 : Int32)), .val (.int p2), .val (.int p3), .val (.int p4), .val (.int p5), .val (.long (2147483639 : Int64)), .second, .val (.int (1 : Int32)), .unset, .unset] [(.int (1 : Int32))])) t → Steps p.tables e below (s₁.setTop (entryFrame m #[(.int (4 : Int32)), (.int p2), (.int p3), (.int p4), (.int p5)] 10)) t := fun t k => go7 t (by
          show Steps p.tables e below (s₁.setTop (mkF m 29 #[.val (.int (4 : Int32)), .val (.int p2), .val (.int p3), .val (.int p4), .val (.int p5), .val (.long (2147483639 : Int64)), .second, .unset, .unset, .unset] [(.int p4)])) _
          refine XS.ifYes X0.here hx rfl (pc0 := 29) (pc' := 42) rfl (hb hby exp_29) rfl ((if0 _ _).trans (teq hc8).1) (by decide) (by decide) ?_
          show Steps p.tables e below (s₁.setTop (mkF m 42 #[.val (.int (4 : Int32)), .val (.int p2), .val (.int p3), .val (.int p4), .val (.int p5), .val (.long (2147483639 : Int64)), .second, .unset, .unset, .unset] [])) _
          refine XS.iconst X0.here hx rfl (hb hby exp_42) ?_
          show Steps p.tables e below (s₁.setTop (mkF m 43 #[.val (.int (4 : Int32)), .val (.int p2), .val (.int p3), .val (.int p4), .val (.int p5), .val (.long (2147483639 : Int64)), .second, .unset, .unset, .unset] [(.int (1 : Int32))])) _
          refine XS.goto X0.here hx rfl (pc0 := 43) (pc' := 47) rfl (hb hby exp_43) (by decide) (by decide) ?_
          show Steps p.tables e below (s₁.setTop (mkF m 47 #[.val (.int (4 : Int32)), .val (.int p2), .val (.int p3), .val (.int p4), .val (.int p5), .val (.long (2147483639 : Int64)), .second, .unset, .unset, .unset] [(.int (1 : Int32))])) _
          refine XS.istore X0.here hx rfl (hb hby exp_47) rfl (l' := #[.val (.int (4 : Int32)), .val (.int p2), .val (.int p3), .val (.int p4), .val (.int p5), .val (.long (2147483639 : Int64)), .second, .val (.int (1 : Int32)), .unset, .unset]) rfl ?_
          show Steps p.tables e below (s₁.setTop (mkF m 49 #[.val (.int (4 : Int32)), .val (.int p2), .val (.int p3), .val (.int p4), .val (.int p5), .val (.long (2147483639 : Int64)), .second, .val (.int (1 : Int32)), .unset, .unset] [])) _
          refine XS.iload X0.here hx rfl (hb hby exp_49) rfl ?_
          show Steps p.tables e below (s₁.setTop (mkF m 51 #[.val (.int (4 : Int32)), .val (.int p2), .val (.int p3), .val (.int p4), .val (.int p5), .val (.long (2147483639 : Int64)), .second, .val (.int (1 : Int32)), .unset, .unset] [(.int (1 : Int32))])) _
          refine XS.ifNo X0.here hx rfl (hb hby exp_51) rfl ((if0 _ _).trans (feq (by decide : ¬ ((1 : Int32) = (0 : Int32)))).1) ?_
          show Steps p.tables e below (s₁.setTop (mkF m 54 #[.val (.int (4 : Int32)), .val (.int p2), .val (.int p3), .val (.int p4), .val (.int p5), .val (.long (2147483639 : Int64)), .second, .val (.int (1 : Int32)), .unset, .unset] [])) _
          refine XS.iconst X0.here hx rfl (hb hby exp_54) ?_
          exact k)
        obtain ⟨fs, hr, hrun, hended, hW, hsame⟩ := X0.leave (v := some (.int (1 : Int32))) (fun h => by rw [Bd.returns] at h; cases h)
        refine ⟨_, _, go9 _ ?_, hrun, hended, _, _, rfl, ?_, ⟨_, rfl⟩, hW, hsame.mono (by decide) (by decide)⟩
        · exact retN X0 hx (t := .boolean) Bd.returns (by simp) (hb hby exp_55) hr
        · show QV (.int (own_exp4 p2 p3 p4 p5)) h0 n0 _ s₁.heap _
          rw [e0]
          exact ⟨congrArg some (congrArg Value.int (Eq.symm (show (own_exp4 p2 p3 p4 p5) = (1 : Int32) from by unfold own_exp4; rw [if_neg hc2, if_neg hc5, if_pos hc8]))), N0, rfl⟩
      · have go10 : ∀ t, Steps p.tables e below (s₁.setTop (mkF m 39 #[.val (.int (4 : Int32)), .val (.int p2), .val (.int p3), .val (.int p4), .val (.int p5), .val (.long (2147483639 : Int64)), .second, .unset, .unset, .unset] [(.int p5)])) t → Steps p.tables e below (s₁.setTop (entryFrame m #[(.int (4 : Int32)), (.int p2), (.int p3), (.int p4), (.int p5)] 10)) t := fun t k => go7 t (by
          show Steps p.tables e below (s₁.setTop (mkF m 29 #[.val (.int (4 : Int32)), .val (.int p2), .val (.int p3), .val (.int p4), .val (.int p5), .val (.long (2147483639 : Int64)), .second, .unset, .unset, .unset] [(.int p4)])) _
          refine XS.ifNo X0.here hx rfl (hb hby exp_29) rfl ((if0 _ _).trans (feq hc8).1) ?_
          show Steps p.tables e below (s₁.setTop (mkF m 32 #[.val (.int (4 : Int32)), .val (.int p2), .val (.int p3), .val (.int p4), .val (.int p5), .val (.long (2147483639 : Int64)), .second, .unset, .unset, .unset] [])) _
          refine XS.iloadN X0.here hx rfl (hb hby exp_32) rfl ?_
          show Steps p.tables e below (s₁.setTop (mkF m 33 #[.val (.int (4 : Int32)), .val (.int p2), .val (.int p3), .val (.int p4), .val (.int p5), .val (.long (2147483639 : Int64)), .second, .unset, .unset, .unset] [(.int (4 : Int32))])) _
          refine XS.iconst X0.here hx rfl (hb hby exp_33) ?_
          show Steps p.tables e below (s₁.setTop (mkF m 34 #[.val (.int (4 : Int32)), .val (.int p2), .val (.int p3), .val (.int p4), .val (.int p5), .val (.long (2147483639 : Int64)), .second, .unset, .unset, .unset] [(.int (4 : Int32)), (.int (4 : Int32))])) _
          refine XS.icmpNo X0.here hx rfl (hb hby exp_34) rfl (flt (by decide : ¬ ((4 : Int32) < (4 : Int32)))).1 ?_
          show Steps p.tables e below (s₁.setTop (mkF m 37 #[.val (.int (4 : Int32)), .val (.int p2), .val (.int p3), .val (.int p4), .val (.int p5), .val (.long (2147483639 : Int64)), .second, .unset, .unset, .unset] [])) _
          refine XS.iload X0.here hx rfl (hb hby exp_37) rfl ?_
          exact k)
        by_cases hc11 : p5 = (0 : Int32)
        · have go12 : ∀ t, Steps p.tables e below (s₁.setTop (mkF m 55 #[.val (.int (4 : Int32)), .val (.int p2), .val (.int p3), .val (.int p4), .val (.int p5), .val (.long (2147483639 : Int64)), .second, .val (.int (1 : Int32)), .unset, .unset] [(.int (1 : Int32))])) t → Steps p.tables e below (s₁.setTop (entryFrame m #[(.int (4 : Int32)), (.int p2), (.int p3), (.int p4), (.int p5)] 10)) t := fun t k => go10 t (by
            show Steps p.tables e below (s₁.setTop (mkF m 39 #[.val (.int (4 : Int32)), .val (.int p2), .val (.int p3), .val (.int p4), .val (.int p5), .val (.long (2147483639 : Int64)), .second, .unset, .unset, .unset] [(.int p5)])) _
            refine XS.ifNo X0.here hx rfl (hb hby exp_39) rfl ((if0 _ _).trans (teq hc11).2) ?_
            show Steps p.tables e below (s₁.setTop (mkF m 42 #[.val (.int (4 : Int32)), .val (.int p2), .val (.int p3), .val (.int p4), .val (.int p5), .val (.long (2147483639 : Int64)), .second, .unset, .unset, .unset] [])) _
            refine XS.iconst X0.here hx rfl (hb hby exp_42) ?_
            show Steps p.tables e below (s₁.setTop (mkF m 43 #[.val (.int (4 : Int32)), .val (.int p2), .val (.int p3), .val (.int p4), .val (.int p5), .val (.long (2147483639 : Int64)), .second, .unset, .unset, .unset] [(.int (1 : Int32))])) _
            refine XS.goto X0.here hx rfl (pc0 := 43) (pc' := 47) rfl (hb hby exp_43) (by decide) (by decide) ?_
            show Steps p.tables e below (s₁.setTop (mkF m 47 #[.val (.int (4 : Int32)), .val (.int p2), .val (.int p3), .val (.int p4), .val (.int p5), .val (.long (2147483639 : Int64)), .second, .unset, .unset, .unset] [(.int (1 : Int32))])) _
            refine XS.istore X0.here hx rfl (hb hby exp_47) rfl (l' := #[.val (.int (4 : Int32)), .val (.int p2), .val (.int p3), .val (.int p4), .val (.int p5), .val (.long (2147483639 : Int64)), .second, .val (.int (1 : Int32)), .unset, .unset]) rfl ?_
            show Steps p.tables e below (s₁.setTop (mkF m 49 #[.val (.int (4 : Int32)), .val (.int p2), .val (.int p3), .val (.int p4), .val (.int p5), .val (.long (2147483639 : Int64)), .second, .val (.int (1 : Int32)), .unset, .unset] [])) _
            refine XS.iload X0.here hx rfl (hb hby exp_49) rfl ?_
            show Steps p.tables e below (s₁.setTop (mkF m 51 #[.val (.int (4 : Int32)), .val (.int p2), .val (.int p3), .val (.int p4), .val (.int p5), .val (.long (2147483639 : Int64)), .second, .val (.int (1 : Int32)), .unset, .unset] [(.int (1 : Int32))])) _
            refine XS.ifNo X0.here hx rfl (hb hby exp_51) rfl ((if0 _ _).trans (feq (by decide : ¬ ((1 : Int32) = (0 : Int32)))).1) ?_
            show Steps p.tables e below (s₁.setTop (mkF m 54 #[.val (.int (4 : Int32)), .val (.int p2), .val (.int p3), .val (.int p4), .val (.int p5), .val (.long (2147483639 : Int64)), .second, .val (.int (1 : Int32)), .unset, .unset] [])) _
            refine XS.iconst X0.here hx rfl (hb hby exp_54) ?_
            exact k)
          obtain ⟨fs, hr, hrun, hended, hW, hsame⟩ := X0.leave (v := some (.int (1 : Int32))) (fun h => by rw [Bd.returns] at h; cases h)
          refine ⟨_, _, go12 _ ?_, hrun, hended, _, _, rfl, ?_, ⟨_, rfl⟩, hW, hsame.mono (by decide) (by decide)⟩
          · exact retN X0 hx (t := .boolean) Bd.returns (by simp) (hb hby exp_55) hr
          · show QV (.int (own_exp4 p2 p3 p4 p5)) h0 n0 _ s₁.heap _
            rw [e0]
            exact ⟨congrArg some (congrArg Value.int (Eq.symm (show (own_exp4 p2 p3 p4 p5) = (1 : Int32) from by unfold own_exp4; rw [if_neg hc2, if_neg hc5, if_neg hc8, if_pos hc11]))), N0, rfl⟩
        · have go13 : ∀ t, Steps p.tables e below (s₁.setTop (mkF m 73 #[.val (.int (4 : Int32)), .val (.int p2), .val (.int p3), .val (.int p4), .val (.int p5), .val (.long (2147483639 : Int64)), .second, .val (.int (0 : Int32)), .val (.long (p2.toInt64)), .second] [(.int (lcmpW (p2.toInt64) (2147483639 : Int64)))])) t → Steps p.tables e below (s₁.setTop (entryFrame m #[(.int (4 : Int32)), (.int p2), (.int p3), (.int p4), (.int p5)] 10)) t := fun t k => go10 t (by
            show Steps p.tables e below (s₁.setTop (mkF m 39 #[.val (.int (4 : Int32)), .val (.int p2), .val (.int p3), .val (.int p4), .val (.int p5), .val (.long (2147483639 : Int64)), .second, .unset, .unset, .unset] [(.int p5)])) _
            refine XS.ifYes X0.here hx rfl (pc0 := 39) (pc' := 46) rfl (hb hby exp_39) rfl ((if0 _ _).trans (feq hc11).2) (by decide) (by decide) ?_
            show Steps p.tables e below (s₁.setTop (mkF m 46 #[.val (.int (4 : Int32)), .val (.int p2), .val (.int p3), .val (.int p4), .val (.int p5), .val (.long (2147483639 : Int64)), .second, .unset, .unset, .unset] [])) _
            refine XS.iconst X0.here hx rfl (hb hby exp_46) ?_
            show Steps p.tables e below (s₁.setTop (mkF m 47 #[.val (.int (4 : Int32)), .val (.int p2), .val (.int p3), .val (.int p4), .val (.int p5), .val (.long (2147483639 : Int64)), .second, .unset, .unset, .unset] [(.int (0 : Int32))])) _
            refine XS.istore X0.here hx rfl (hb hby exp_47) rfl (l' := #[.val (.int (4 : Int32)), .val (.int p2), .val (.int p3), .val (.int p4), .val (.int p5), .val (.long (2147483639 : Int64)), .second, .val (.int (0 : Int32)), .unset, .unset]) rfl ?_
            show Steps p.tables e below (s₁.setTop (mkF m 49 #[.val (.int (4 : Int32)), .val (.int p2), .val (.int p3), .val (.int p4), .val (.int p5), .val (.long (2147483639 : Int64)), .second, .val (.int (0 : Int32)), .unset, .unset] [])) _
            refine XS.iload X0.here hx rfl (hb hby exp_49) rfl ?_
            show Steps p.tables e below (s₁.setTop (mkF m 51 #[.val (.int (4 : Int32)), .val (.int p2), .val (.int p3), .val (.int p4), .val (.int p5), .val (.long (2147483639 : Int64)), .second, .val (.int (0 : Int32)), .unset, .unset] [(.int (0 : Int32))])) _
            refine XS.ifYes X0.here hx rfl (pc0 := 51) (pc' := 56) rfl (hb hby exp_51) rfl ((if0 _ _).trans (teq (by decide : (0 : Int32) = (0 : Int32))).1) (by decide) (by decide) ?_
            show Steps p.tables e below (s₁.setTop (mkF m 56 #[.val (.int (4 : Int32)), .val (.int p2), .val (.int p3), .val (.int p4), .val (.int p5), .val (.long (2147483639 : Int64)), .second, .val (.int (0 : Int32)), .unset, .unset] [])) _
            refine XS.lconst X0.here hx rfl (hb hby exp_56) ?_
            show Steps p.tables e below (s₁.setTop (mkF m 57 #[.val (.int (4 : Int32)), .val (.int p2), .val (.int p3), .val (.int p4), .val (.int p5), .val (.long (2147483639 : Int64)), .second, .val (.int (0 : Int32)), .unset, .unset] [(.long (1 : Int64))])) _
            refine XS.lstore X0.here hx rfl (hb hby exp_57) rfl (l' := #[.val (.int (4 : Int32)), .val (.int p2), .val (.int p3), .val (.int p4), .val (.int p5), .val (.long (2147483639 : Int64)), .second, .val (.int (0 : Int32)), .val (.long (1 : Int64)), .second]) rfl ?_
            show Steps p.tables e below (s₁.setTop (mkF m 59 #[.val (.int (4 : Int32)), .val (.int p2), .val (.int p3), .val (.int p4), .val (.int p5), .val (.long (2147483639 : Int64)), .second, .val (.int (0 : Int32)), .val (.long (1 : Int64)), .second] [])) _
            refine XS.iloadN X0.here hx rfl (hb hby exp_59) rfl ?_
            show Steps p.tables e below (s₁.setTop (mkF m 60 #[.val (.int (4 : Int32)), .val (.int p2), .val (.int p3), .val (.int p4), .val (.int p5), .val (.long (2147483639 : Int64)), .second, .val (.int (0 : Int32)), .val (.long (1 : Int64)), .second] [(.int (4 : Int32))])) _
            refine XS.iconst X0.here hx rfl (hb hby exp_60) ?_
            show Steps p.tables e below (s₁.setTop (mkF m 61 #[.val (.int (4 : Int32)), .val (.int p2), .val (.int p3), .val (.int p4), .val (.int p5), .val (.long (2147483639 : Int64)), .second, .val (.int (0 : Int32)), .val (.long (1 : Int64)), .second] [(.int (1 : Int32)), (.int (4 : Int32))])) _
            refine XS.icmpNo X0.here hx rfl (hb hby exp_61) rfl (flt (by decide : ¬ ((4 : Int32) < (1 : Int32)))).1 ?_
            show Steps p.tables e below (s₁.setTop (mkF m 64 #[.val (.int (4 : Int32)), .val (.int p2), .val (.int p3), .val (.int p4), .val (.int p5), .val (.long (2147483639 : Int64)), .second, .val (.int (0 : Int32)), .val (.long (1 : Int64)), .second] [])) _
            refine XS.iloadN X0.here hx rfl (hb hby exp_64) rfl ?_
            show Steps p.tables e below (s₁.setTop (mkF m 65 #[.val (.int (4 : Int32)), .val (.int p2), .val (.int p3), .val (.int p4), .val (.int p5), .val (.long (2147483639 : Int64)), .second, .val (.int (0 : Int32)), .val (.long (1 : Int64)), .second] [(.int p2)])) _
            refine XS.i2l X0.here hx rfl (hb hby exp_65) rfl ?_
            show Steps p.tables e below (s₁.setTop (mkF m 66 #[.val (.int (4 : Int32)), .val (.int p2), .val (.int p3), .val (.int p4), .val (.int p5), .val (.long (2147483639 : Int64)), .second, .val (.int (0 : Int32)), .val (.long (1 : Int64)), .second] [(.long (p2.toInt64))])) _
            refine XS.lstore X0.here hx rfl (hb hby exp_66) rfl (l' := #[.val (.int (4 : Int32)), .val (.int p2), .val (.int p3), .val (.int p4), .val (.int p5), .val (.long (2147483639 : Int64)), .second, .val (.int (0 : Int32)), .val (.long (p2.toInt64)), .second]) rfl ?_
            show Steps p.tables e below (s₁.setTop (mkF m 68 #[.val (.int (4 : Int32)), .val (.int p2), .val (.int p3), .val (.int p4), .val (.int p5), .val (.long (2147483639 : Int64)), .second, .val (.int (0 : Int32)), .val (.long (p2.toInt64)), .second] [])) _
            refine XS.lload X0.here hx rfl (hb hby exp_68) rfl ?_
            show Steps p.tables e below (s₁.setTop (mkF m 70 #[.val (.int (4 : Int32)), .val (.int p2), .val (.int p3), .val (.int p4), .val (.int p5), .val (.long (2147483639 : Int64)), .second, .val (.int (0 : Int32)), .val (.long (p2.toInt64)), .second] [(.long (p2.toInt64))])) _
            refine XS.lload X0.here hx rfl (hb hby exp_70) rfl ?_
            show Steps p.tables e below (s₁.setTop (mkF m 72 #[.val (.int (4 : Int32)), .val (.int p2), .val (.int p3), .val (.int p4), .val (.int p5), .val (.long (2147483639 : Int64)), .second, .val (.int (0 : Int32)), .val (.long (p2.toInt64)), .second] [(.long (2147483639 : Int64)), (.long (p2.toInt64))])) _
            refine XS.lcmp X0.here hx rfl (hb hby exp_72) rfl ?_
            exact k)
          by_cases hc14 : (2147483639 : Int64) < (p2.toInt64)
          · have go15 : ∀ t, Steps p.tables e below (s₁.setTop (mkF m 77 #[.val (.int (4 : Int32)), .val (.int p2), .val (.int p3), .val (.int p4), .val (.int p5), .val (.long (2147483639 : Int64)), .second, .val (.int (0 : Int32)), .val (.long (p2.toInt64)), .second] [(.int (0 : Int32))])) t → Steps p.tables e below (s₁.setTop (entryFrame m #[(.int (4 : Int32)), (.int p2), (.int p3), (.int p4), (.int p5)] 10)) t := fun t k => go13 t (by
              show Steps p.tables e below (s₁.setTop (mkF m 73 #[.val (.int (4 : Int32)), .val (.int p2), .val (.int p3), .val (.int p4), .val (.int p5), .val (.long (2147483639 : Int64)), .second, .val (.int (0 : Int32)), .val (.long (p2.toInt64)), .second] [(.int (lcmpW (p2.toInt64) (2147483639 : Int64)))])) _
              refine XS.ifNo X0.here hx rfl (hb hby exp_73) rfl ((if0 _ _).trans (tlt ((lw_gt _ _).mpr hc14)).2.2.2) ?_
              show Steps p.tables e below (s₁.setTop (mkF m 76 #[.val (.int (4 : Int32)), .val (.int p2), .val (.int p3), .val (.int p4), .val (.int p5), .val (.long (2147483639 : Int64)), .second, .val (.int (0 : Int32)), .val (.long (p2.toInt64)), .second] [])) _
              refine XS.iconst X0.here hx rfl (hb hby exp_76) ?_
              exact k)
            obtain ⟨fs, hr, hrun, hended, hW, hsame⟩ := X0.leave (v := some (.int (0 : Int32))) (fun h => by rw [Bd.returns] at h; cases h)
            refine ⟨_, _, go15 _ ?_, hrun, hended, _, _, rfl, ?_, ⟨_, rfl⟩, hW, hsame.mono (by decide) (by decide)⟩
            · exact retN X0 hx (t := .boolean) Bd.returns (by simp) (hb hby exp_77) hr
            · show QV (.int (own_exp4 p2 p3 p4 p5)) h0 n0 _ s₁.heap _
              rw [e0]
              exact ⟨congrArg some (congrArg Value.int (Eq.symm (show (own_exp4 p2 p3 p4 p5) = (0 : Int32) from by unfold own_exp4; rw [if_neg hc2, if_neg hc5, if_neg hc8, if_neg hc11, if_pos hc14]))), N0, rfl⟩
          · have go16 : ∀ t, Steps p.tables e below (s₁.setTop (mkF m 95 #[.val (.int (4 : Int32)), .val (.int p2), .val (.int p3), .val (.int p4), .val (.int p5), .val (.long (2147483639 : Int64)), .second, .val (.int (0 : Int32)), .val (.long ((p2.toInt64) * (p3.toInt64))), .second] [(.int (lcmpW ((p2.toInt64) * (p3.toInt64)) (2147483639 : Int64)))])) t → Steps p.tables e below (s₁.setTop (entryFrame m #[(.int (4 : Int32)), (.int p2), (.int p3), (.int p4), (.int p5)] 10)) t := fun t k => go13 t (by
              show Steps p.tables e below (s₁.setTop (mkF m 73 #[.val (.int (4 : Int32)), .val (.int p2), .val (.int p3), .val (.int p4), .val (.int p5), .val (.long (2147483639 : Int64)), .second, .val (.int (0 : Int32)), .val (.long (p2.toInt64)), .second] [(.int (lcmpW (p2.toInt64) (2147483639 : Int64)))])) _
              refine XS.ifYes X0.here hx rfl (pc0 := 73) (pc' := 78) rfl (hb hby exp_73) rfl ((if0 _ _).trans (flt (mt (lw_gt _ _).mp hc14)).2.2.2) (by decide) (by decide) ?_
              show Steps p.tables e below (s₁.setTop (mkF m 78 #[.val (.int (4 : Int32)), .val (.int p2), .val (.int p3), .val (.int p4), .val (.int p5), .val (.long (2147483639 : Int64)), .second, .val (.int (0 : Int32)), .val (.long (p2.toInt64)), .second] [])) _
              refine XS.iloadN X0.here hx rfl (hb hby exp_78) rfl ?_
              show Steps p.tables e below (s₁.setTop (mkF m 79 #[.val (.int (4 : Int32)), .val (.int p2), .val (.int p3), .val (.int p4), .val (.int p5), .val (.long (2147483639 : Int64)), .second, .val (.int (0 : Int32)), .val (.long (p2.toInt64)), .second] [(.int (4 : Int32))])) _
              refine XS.iconst X0.here hx rfl (hb hby exp_79) ?_
              show Steps p.tables e below (s₁.setTop (mkF m 80 #[.val (.int (4 : Int32)), .val (.int p2), .val (.int p3), .val (.int p4), .val (.int p5), .val (.long (2147483639 : Int64)), .second, .val (.int (0 : Int32)), .val (.long (p2.toInt64)), .second] [(.int (2 : Int32)), (.int (4 : Int32))])) _
              refine XS.icmpNo X0.here hx rfl (hb hby exp_80) rfl (flt (by decide : ¬ ((4 : Int32) < (2 : Int32)))).1 ?_
              show Steps p.tables e below (s₁.setTop (mkF m 83 #[.val (.int (4 : Int32)), .val (.int p2), .val (.int p3), .val (.int p4), .val (.int p5), .val (.long (2147483639 : Int64)), .second, .val (.int (0 : Int32)), .val (.long (p2.toInt64)), .second] [])) _
              refine XS.lload X0.here hx rfl (hb hby exp_83) rfl ?_
              show Steps p.tables e below (s₁.setTop (mkF m 85 #[.val (.int (4 : Int32)), .val (.int p2), .val (.int p3), .val (.int p4), .val (.int p5), .val (.long (2147483639 : Int64)), .second, .val (.int (0 : Int32)), .val (.long (p2.toInt64)), .second] [(.long (p2.toInt64))])) _
              refine XS.iloadN X0.here hx rfl (hb hby exp_85) rfl ?_
              show Steps p.tables e below (s₁.setTop (mkF m 86 #[.val (.int (4 : Int32)), .val (.int p2), .val (.int p3), .val (.int p4), .val (.int p5), .val (.long (2147483639 : Int64)), .second, .val (.int (0 : Int32)), .val (.long (p2.toInt64)), .second] [(.int p3), (.long (p2.toInt64))])) _
              refine XS.i2l X0.here hx rfl (hb hby exp_86) rfl ?_
              show Steps p.tables e below (s₁.setTop (mkF m 87 #[.val (.int (4 : Int32)), .val (.int p2), .val (.int p3), .val (.int p4), .val (.int p5), .val (.long (2147483639 : Int64)), .second, .val (.int (0 : Int32)), .val (.long (p2.toInt64)), .second] [(.long (p3.toInt64)), (.long (p2.toInt64))])) _
              refine XS.lmul X0.here hx rfl (hb hby exp_87) rfl ?_
              show Steps p.tables e below (s₁.setTop (mkF m 88 #[.val (.int (4 : Int32)), .val (.int p2), .val (.int p3), .val (.int p4), .val (.int p5), .val (.long (2147483639 : Int64)), .second, .val (.int (0 : Int32)), .val (.long (p2.toInt64)), .second] [(.long ((p2.toInt64) * (p3.toInt64)))])) _
              refine XS.lstore X0.here hx rfl (hb hby exp_88) rfl (l' := #[.val (.int (4 : Int32)), .val (.int p2), .val (.int p3), .val (.int p4), .val (.int p5), .val (.long (2147483639 : Int64)), .second, .val (.int (0 : Int32)), .val (.long ((p2.toInt64) * (p3.toInt64))), .second]) rfl ?_
              show Steps p.tables e below (s₁.setTop (mkF m 90 #[.val (.int (4 : Int32)), .val (.int p2), .val (.int p3), .val (.int p4), .val (.int p5), .val (.long (2147483639 : Int64)), .second, .val (.int (0 : Int32)), .val (.long ((p2.toInt64) * (p3.toInt64))), .second] [])) _
              refine XS.lload X0.here hx rfl (hb hby exp_90) rfl ?_
              show Steps p.tables e below (s₁.setTop (mkF m 92 #[.val (.int (4 : Int32)), .val (.int p2), .val (.int p3), .val (.int p4), .val (.int p5), .val (.long (2147483639 : Int64)), .second, .val (.int (0 : Int32)), .val (.long ((p2.toInt64) * (p3.toInt64))), .second] [(.long ((p2.toInt64) * (p3.toInt64)))])) _
              refine XS.lload X0.here hx rfl (hb hby exp_92) rfl ?_
              show Steps p.tables e below (s₁.setTop (mkF m 94 #[.val (.int (4 : Int32)), .val (.int p2), .val (.int p3), .val (.int p4), .val (.int p5), .val (.long (2147483639 : Int64)), .second, .val (.int (0 : Int32)), .val (.long ((p2.toInt64) * (p3.toInt64))), .second] [(.long (2147483639 : Int64)), (.long ((p2.toInt64) * (p3.toInt64)))])) _
              refine XS.lcmp X0.here hx rfl (hb hby exp_94) rfl ?_
              exact k)
            by_cases hc17 : (2147483639 : Int64) < ((p2.toInt64) * (p3.toInt64))
            · have go18 : ∀ t, Steps p.tables e below (s₁.setTop (mkF m 99 #[.val (.int (4 : Int32)), .val (.int p2), .val (.int p3), .val (.int p4), .val (.int p5), .val (.long (2147483639 : Int64)), .second, .val (.int (0 : Int32)), .val (.long ((p2.toInt64) * (p3.toInt64))), .second] [(.int (0 : Int32))])) t → Steps p.tables e below (s₁.setTop (entryFrame m #[(.int (4 : Int32)), (.int p2), (.int p3), (.int p4), (.int p5)] 10)) t := fun t k => go16 t (by
                show Steps p.tables e below (s₁.setTop (mkF m 95 #[.val (.int (4 : Int32)), .val (.int p2), .val (.int p3), .val (.int p4), .val (.int p5), .val (.long (2147483639 : Int64)), .second, .val (.int (0 : Int32)), .val (.long ((p2.toInt64) * (p3.toInt64))), .second] [(.int (lcmpW ((p2.toInt64) * (p3.toInt64)) (2147483639 : Int64)))])) _
                refine XS.ifNo X0.here hx rfl (hb hby exp_95) rfl ((if0 _ _).trans (tlt ((lw_gt _ _).mpr hc17)).2.2.2) ?_
                show Steps p.tables e below (s₁.setTop (mkF m 98 #[.val (.int (4 : Int32)), .val (.int p2), .val (.int p3), .val (.int p4), .val (.int p5), .val (.long (2147483639 : Int64)), .second, .val (.int (0 : Int32)), .val (.long ((p2.toInt64) * (p3.toInt64))), .second] [])) _
                refine XS.iconst X0.here hx rfl (hb hby exp_98) ?_
                exact k)
              obtain ⟨fs, hr, hrun, hended, hW, hsame⟩ := X0.leave (v := some (.int (0 : Int32))) (fun h => by rw [Bd.returns] at h; cases h)
              refine ⟨_, _, go18 _ ?_, hrun, hended, _, _, rfl, ?_, ⟨_, rfl⟩, hW, hsame.mono (by decide) (by decide)⟩
              · exact retN X0 hx (t := .boolean) Bd.returns (by simp) (hb hby exp_99) hr
              · show QV (.int (own_exp4 p2 p3 p4 p5)) h0 n0 _ s₁.heap _
                rw [e0]
                exact ⟨congrArg some (congrArg Value.int (Eq.symm (show (own_exp4 p2 p3 p4 p5) = (0 : Int32) from by unfold own_exp4; rw [if_neg hc2, if_neg hc5, if_neg hc8, if_neg hc11, if_neg hc14, if_pos hc17]))), N0, rfl⟩
            · have go19 : ∀ t, Steps p.tables e below (s₁.setTop (mkF m 117 #[.val (.int (4 : Int32)), .val (.int p2), .val (.int p3), .val (.int p4), .val (.int p5), .val (.long (2147483639 : Int64)), .second, .val (.int (0 : Int32)), .val (.long (((p2.toInt64) * (p3.toInt64)) * (p4.toInt64))), .second] [(.int (lcmpW (((p2.toInt64) * (p3.toInt64)) * (p4.toInt64)) (2147483639 : Int64)))])) t → Steps p.tables e below (s₁.setTop (entryFrame m #[(.int (4 : Int32)), (.int p2), (.int p3), (.int p4), (.int p5)] 10)) t := fun t k => go16 t (by
                show Steps p.tables e below (s₁.setTop (mkF m 95 #[.val (.int (4 : Int32)), .val (.int p2), .val (.int p3), .val (.int p4), .val (.int p5), .val (.long (2147483639 : Int64)), .second, .val (.int (0 : Int32)), .val (.long ((p2.toInt64) * (p3.toInt64))), .second] [(.int (lcmpW ((p2.toInt64) * (p3.toInt64)) (2147483639 : Int64)))])) _
                refine XS.ifYes X0.here hx rfl (pc0 := 95) (pc' := 100) rfl (hb hby exp_95) rfl ((if0 _ _).trans (flt (mt (lw_gt _ _).mp hc17)).2.2.2) (by decide) (by decide) ?_
                show Steps p.tables e below (s₁.setTop (mkF m 100 #[.val (.int (4 : Int32)), .val (.int p2), .val (.int p3), .val (.int p4), .val (.int p5), .val (.long (2147483639 : Int64)), .second, .val (.int (0 : Int32)), .val (.long ((p2.toInt64) * (p3.toInt64))), .second] [])) _
                refine XS.iloadN X0.here hx rfl (hb hby exp_100) rfl ?_
                show Steps p.tables e below (s₁.setTop (mkF m 101 #[.val (.int (4 : Int32)), .val (.int p2), .val (.int p3), .val (.int p4), .val (.int p5), .val (.long (2147483639 : Int64)), .second, .val (.int (0 : Int32)), .val (.long ((p2.toInt64) * (p3.toInt64))), .second] [(.int (4 : Int32))])) _
                refine XS.iconst X0.here hx rfl (hb hby exp_101) ?_
                show Steps p.tables e below (s₁.setTop (mkF m 102 #[.val (.int (4 : Int32)), .val (.int p2), .val (.int p3), .val (.int p4), .val (.int p5), .val (.long (2147483639 : Int64)), .second, .val (.int (0 : Int32)), .val (.long ((p2.toInt64) * (p3.toInt64))), .second] [(.int (3 : Int32)), (.int (4 : Int32))])) _
                refine XS.icmpNo X0.here hx rfl (hb hby exp_102) rfl (flt (by decide : ¬ ((4 : Int32) < (3 : Int32)))).1 ?_
                show Steps p.tables e below (s₁.setTop (mkF m 105 #[.val (.int (4 : Int32)), .val (.int p2), .val (.int p3), .val (.int p4), .val (.int p5), .val (.long (2147483639 : Int64)), .second, .val (.int (0 : Int32)), .val (.long ((p2.toInt64) * (p3.toInt64))), .second] [])) _
                refine XS.lload X0.here hx rfl (hb hby exp_105) rfl ?_
                show Steps p.tables e below (s₁.setTop (mkF m 107 #[.val (.int (4 : Int32)), .val (.int p2), .val (.int p3), .val (.int p4), .val (.int p5), .val (.long (2147483639 : Int64)), .second, .val (.int (0 : Int32)), .val (.long ((p2.toInt64) * (p3.toInt64))), .second] [(.long ((p2.toInt64) * (p3.toInt64)))])) _
                refine XS.iloadN X0.here hx rfl (hb hby exp_107) rfl ?_
                show Steps p.tables e below (s₁.setTop (mkF m 108 #[.val (.int (4 : Int32)), .val (.int p2), .val (.int p3), .val (.int p4), .val (.int p5), .val (.long (2147483639 : Int64)), .second, .val (.int (0 : Int32)), .val (.long ((p2.toInt64) * (p3.toInt64))), .second] [(.int p4), (.long ((p2.toInt64) * (p3.toInt64)))])) _
                refine XS.i2l X0.here hx rfl (hb hby exp_108) rfl ?_
                show Steps p.tables e below (s₁.setTop (mkF m 109 #[.val (.int (4 : Int32)), .val (.int p2), .val (.int p3), .val (.int p4), .val (.int p5), .val (.long (2147483639 : Int64)), .second, .val (.int (0 : Int32)), .val (.long ((p2.toInt64) * (p3.toInt64))), .second] [(.long (p4.toInt64)), (.long ((p2.toInt64) * (p3.toInt64)))])) _
                refine XS.lmul X0.here hx rfl (hb hby exp_109) rfl ?_
                show Steps p.tables e below (s₁.setTop (mkF m 110 #[.val (.int (4 : Int32)), .val (.int p2), .val (.int p3), .val (.int p4), .val (.int p5), .val (.long (2147483639 : Int64)), .second, .val (.int (0 : Int32)), .val (.long ((p2.toInt64) * (p3.toInt64))), .second] [(.long (((p2.toInt64) * (p3.toInt64)) * (p4.toInt64)))])) _
                refine XS.lstore X0.here hx rfl (hb hby exp_110) rfl (l' := #[.val (.int (4 : Int32)), .val (.int p2), .val (.int p3), .val (.int p4), .val (.int p5), .val (.long (2147483639 : Int64)), .second, .val (.int (0 : Int32)), .val (.long (((p2.toInt64) * (p3.toInt64)) * (p4.toInt64))), .second]) rfl ?_
                show Steps p.tables e below (s₁.setTop (mkF m 112 #[.val (.int (4 : Int32)), .val (.int p2), .val (.int p3), .val (.int p4), .val (.int p5), .val (.long (2147483639 : Int64)), .second, .val (.int (0 : Int32)), .val (.long (((p2.toInt64) * (p3.toInt64)) * (p4.toInt64))), .second] [])) _
                refine XS.lload X0.here hx rfl (hb hby exp_112) rfl ?_
                show Steps p.tables e below (s₁.setTop (mkF m 114 #[.val (.int (4 : Int32)), .val (.int p2), .val (.int p3), .val (.int p4), .val (.int p5), .val (.long (2147483639 : Int64)), .second, .val (.int (0 : Int32)), .val (.long (((p2.toInt64) * (p3.toInt64)) * (p4.toInt64))), .second] [(.long (((p2.toInt64) * (p3.toInt64)) * (p4.toInt64)))])) _
                refine XS.lload X0.here hx rfl (hb hby exp_114) rfl ?_
                show Steps p.tables e below (s₁.setTop (mkF m 116 #[.val (.int (4 : Int32)), .val (.int p2), .val (.int p3), .val (.int p4), .val (.int p5), .val (.long (2147483639 : Int64)), .second, .val (.int (0 : Int32)), .val (.long (((p2.toInt64) * (p3.toInt64)) * (p4.toInt64))), .second] [(.long (2147483639 : Int64)), (.long (((p2.toInt64) * (p3.toInt64)) * (p4.toInt64)))])) _
                refine XS.lcmp X0.here hx rfl (hb hby exp_116) rfl ?_
                exact k)
              by_cases hc20 : (2147483639 : Int64) < (((p2.toInt64) * (p3.toInt64)) * (p4.toInt64))
              · have go21 : ∀ t, Steps p.tables e below (s₁.setTop (mkF m 121 #[.val (.int (4 : Int32)), .val (.int p2), .val (.int p3), .val (.int p4), .val (.int p5), .val (.long (2147483639 : Int64)), .second, .val (.int (0 : Int32)), .val (.long (((p2.toInt64) * (p3.toInt64)) * (p4.toInt64))), .second] [(.int (0 : Int32))])) t → Steps p.tables e below (s₁.setTop (entryFrame m #[(.int (4 : Int32)), (.int p2), (.int p3), (.int p4), (.int p5)] 10)) t := fun t k => go19 t (by
                  show Steps p.tables e below (s₁.setTop (mkF m 117 #[.val (.int (4 : Int32)), .val (.int p2), .val (.int p3), .val (.int p4), .val (.int p5), .val (.long (2147483639 : Int64)), .second, .val (.int (0 : Int32)), .val (.long (((p2.toInt64) * (p3.toInt64)) * (p4.toInt64))), .second] [(.int (lcmpW (((p2.toInt64) * (p3.toInt64)) * (p4.toInt64)) (2147483639 : Int64)))])) _
                  refine XS.ifNo X0.here hx rfl (hb hby exp_117) rfl ((if0 _ _).trans (tlt ((lw_gt _ _).mpr hc20)).2.2.2) ?_
                  show Steps p.tables e below (s₁.setTop (mkF m 120 #[.val (.int (4 : Int32)), .val (.int p2), .val (.int p3), .val (.int p4), .val (.int p5), .val (.long (2147483639 : Int64)), .second, .val (.int (0 : Int32)), .val (.long (((p2.toInt64) * (p3.toInt64)) * (p4.toInt64))), .second] [])) _
                  refine XS.iconst X0.here hx rfl (hb hby exp_120) ?_
                  exact k)
                obtain ⟨fs, hr, hrun, hended, hW, hsame⟩ := X0.leave (v := some (.int (0 : Int32))) (fun h => by rw [Bd.returns] at h; cases h)
                refine ⟨_, _, go21 _ ?_, hrun, hended, _, _, rfl, ?_, ⟨_, rfl⟩, hW, hsame.mono (by decide) (by decide)⟩
                · exact retN X0 hx (t := .boolean) Bd.returns (by simp) (hb hby exp_121) hr
                · show QV (.int (own_exp4 p2 p3 p4 p5)) h0 n0 _ s₁.heap _
                  rw [e0]
                  exact ⟨congrArg some (congrArg Value.int (Eq.symm (show (own_exp4 p2 p3 p4 p5) = (0 : Int32) from by unfold own_exp4; rw [if_neg hc2, if_neg hc5, if_neg hc8, if_neg hc11, if_neg hc14, if_neg hc17, if_pos hc20]))), N0, rfl⟩
              · have go22 : ∀ t, Steps p.tables e below (s₁.setTop (mkF m 140 #[.val (.int (4 : Int32)), .val (.int p2), .val (.int p3), .val (.int p4), .val (.int p5), .val (.long (2147483639 : Int64)), .second, .val (.int (0 : Int32)), .val (.long ((((p2.toInt64) * (p3.toInt64)) * (p4.toInt64)) * (p5.toInt64))), .second] [(.int (lcmpW ((((p2.toInt64) * (p3.toInt64)) * (p4.toInt64)) * (p5.toInt64)) (2147483639 : Int64)))])) t → Steps p.tables e below (s₁.setTop (entryFrame m #[(.int (4 : Int32)), (.int p2), (.int p3), (.int p4), (.int p5)] 10)) t := fun t k => go19 t (by
                  show Steps p.tables e below (s₁.setTop (mkF m 117 #[.val (.int (4 : Int32)), .val (.int p2), .val (.int p3), .val (.int p4), .val (.int p5), .val (.long (2147483639 : Int64)), .second, .val (.int (0 : Int32)), .val (.long (((p2.toInt64) * (p3.toInt64)) * (p4.toInt64))), .second] [(.int (lcmpW (((p2.toInt64) * (p3.toInt64)) * (p4.toInt64)) (2147483639 : Int64)))])) _
                  refine XS.ifYes X0.here hx rfl (pc0 := 117) (pc' := 122) rfl (hb hby exp_117) rfl ((if0 _ _).trans (flt (mt (lw_gt _ _).mp hc20)).2.2.2) (by decide) (by decide) ?_
                  show Steps p.tables e below (s₁.setTop (mkF m 122 #[.val (.int (4 : Int32)), .val (.int p2), .val (.int p3), .val (.int p4), .val (.int p5), .val (.long (2147483639 : Int64)), .second, .val (.int (0 : Int32)), .val (.long (((p2.toInt64) * (p3.toInt64)) * (p4.toInt64))), .second] [])) _
                  refine XS.iloadN X0.here hx rfl (hb hby exp_122) rfl ?_
                  show Steps p.tables e below (s₁.setTop (mkF m 123 #[.val (.int (4 : Int32)), .val (.int p2), .val (.int p3), .val (.int p4), .val (.int p5), .val (.long (2147483639 : Int64)), .second, .val (.int (0 : Int32)), .val (.long (((p2.toInt64) * (p3.toInt64)) * (p4.toInt64))), .second] [(.int (4 : Int32))])) _
                  refine XS.iconst X0.here hx rfl (hb hby exp_123) ?_
                  show Steps p.tables e below (s₁.setTop (mkF m 124 #[.val (.int (4 : Int32)), .val (.int p2), .val (.int p3), .val (.int p4), .val (.int p5), .val (.long (2147483639 : Int64)), .second, .val (.int (0 : Int32)), .val (.long (((p2.toInt64) * (p3.toInt64)) * (p4.toInt64))), .second] [(.int (4 : Int32)), (.int (4 : Int32))])) _
                  refine XS.icmpNo X0.here hx rfl (hb hby exp_124) rfl (flt (by decide : ¬ ((4 : Int32) < (4 : Int32)))).1 ?_
                  show Steps p.tables e below (s₁.setTop (mkF m 127 #[.val (.int (4 : Int32)), .val (.int p2), .val (.int p3), .val (.int p4), .val (.int p5), .val (.long (2147483639 : Int64)), .second, .val (.int (0 : Int32)), .val (.long (((p2.toInt64) * (p3.toInt64)) * (p4.toInt64))), .second] [])) _
                  refine XS.lload X0.here hx rfl (hb hby exp_127) rfl ?_
                  show Steps p.tables e below (s₁.setTop (mkF m 129 #[.val (.int (4 : Int32)), .val (.int p2), .val (.int p3), .val (.int p4), .val (.int p5), .val (.long (2147483639 : Int64)), .second, .val (.int (0 : Int32)), .val (.long (((p2.toInt64) * (p3.toInt64)) * (p4.toInt64))), .second] [(.long (((p2.toInt64) * (p3.toInt64)) * (p4.toInt64)))])) _
                  refine XS.iload X0.here hx rfl (hb hby exp_129) rfl ?_
                  show Steps p.tables e below (s₁.setTop (mkF m 131 #[.val (.int (4 : Int32)), .val (.int p2), .val (.int p3), .val (.int p4), .val (.int p5), .val (.long (2147483639 : Int64)), .second, .val (.int (0 : Int32)), .val (.long (((p2.toInt64) * (p3.toInt64)) * (p4.toInt64))), .second] [(.int p5), (.long (((p2.toInt64) * (p3.toInt64)) * (p4.toInt64)))])) _
                  refine XS.i2l X0.here hx rfl (hb hby exp_131) rfl ?_
                  show Steps p.tables e below (s₁.setTop (mkF m 132 #[.val (.int (4 : Int32)), .val (.int p2), .val (.int p3), .val (.int p4), .val (.int p5), .val (.long (2147483639 : Int64)), .second, .val (.int (0 : Int32)), .val (.long (((p2.toInt64) * (p3.toInt64)) * (p4.toInt64))), .second] [(.long (p5.toInt64)), (.long (((p2.toInt64) * (p3.toInt64)) * (p4.toInt64)))])) _
                  refine XS.lmul X0.here hx rfl (hb hby exp_132) rfl ?_
                  show Steps p.tables e below (s₁.setTop (mkF m 133 #[.val (.int (4 : Int32)), .val (.int p2), .val (.int p3), .val (.int p4), .val (.int p5), .val (.long (2147483639 : Int64)), .second, .val (.int (0 : Int32)), .val (.long (((p2.toInt64) * (p3.toInt64)) * (p4.toInt64))), .second] [(.long ((((p2.toInt64) * (p3.toInt64)) * (p4.toInt64)) * (p5.toInt64)))])) _
                  refine XS.lstore X0.here hx rfl (hb hby exp_133) rfl (l' := #[.val (.int (4 : Int32)), .val (.int p2), .val (.int p3), .val (.int p4), .val (.int p5), .val (.long (2147483639 : Int64)), .second, .val (.int (0 : Int32)), .val (.long ((((p2.toInt64) * (p3.toInt64)) * (p4.toInt64)) * (p5.toInt64))), .second]) rfl ?_
                  show Steps p.tables e below (s₁.setTop (mkF m 135 #[.val (.int (4 : Int32)), .val (.int p2), .val (.int p3), .val (.int p4), .val (.int p5), .val (.long (2147483639 : Int64)), .second, .val (.int (0 : Int32)), .val (.long ((((p2.toInt64) * (p3.toInt64)) * (p4.toInt64)) * (p5.toInt64))), .second] [])) _
                  refine XS.lload X0.here hx rfl (hb hby exp_135) rfl ?_
                  show Steps p.tables e below (s₁.setTop (mkF m 137 #[.val (.int (4 : Int32)), .val (.int p2), .val (.int p3), .val (.int p4), .val (.int p5), .val (.long (2147483639 : Int64)), .second, .val (.int (0 : Int32)), .val (.long ((((p2.toInt64) * (p3.toInt64)) * (p4.toInt64)) * (p5.toInt64))), .second] [(.long ((((p2.toInt64) * (p3.toInt64)) * (p4.toInt64)) * (p5.toInt64)))])) _
                  refine XS.lload X0.here hx rfl (hb hby exp_137) rfl ?_
                  show Steps p.tables e below (s₁.setTop (mkF m 139 #[.val (.int (4 : Int32)), .val (.int p2), .val (.int p3), .val (.int p4), .val (.int p5), .val (.long (2147483639 : Int64)), .second, .val (.int (0 : Int32)), .val (.long ((((p2.toInt64) * (p3.toInt64)) * (p4.toInt64)) * (p5.toInt64))), .second] [(.long (2147483639 : Int64)), (.long ((((p2.toInt64) * (p3.toInt64)) * (p4.toInt64)) * (p5.toInt64)))])) _
                  refine XS.lcmp X0.here hx rfl (hb hby exp_139) rfl ?_
                  exact k)
                by_cases hc23 : (2147483639 : Int64) < ((((p2.toInt64) * (p3.toInt64)) * (p4.toInt64)) * (p5.toInt64))
                · have go24 : ∀ t, Steps p.tables e below (s₁.setTop (mkF m 144 #[.val (.int (4 : Int32)), .val (.int p2), .val (.int p3), .val (.int p4), .val (.int p5), .val (.long (2147483639 : Int64)), .second, .val (.int (0 : Int32)), .val (.long ((((p2.toInt64) * (p3.toInt64)) * (p4.toInt64)) * (p5.toInt64))), .second] [(.int (0 : Int32))])) t → Steps p.tables e below (s₁.setTop (entryFrame m #[(.int (4 : Int32)), (.int p2), (.int p3), (.int p4), (.int p5)] 10)) t := fun t k => go22 t (by
                    show Steps p.tables e below (s₁.setTop (mkF m 140 #[.val (.int (4 : Int32)), .val (.int p2), .val (.int p3), .val (.int p4), .val (.int p5), .val (.long (2147483639 : Int64)), .second, .val (.int (0 : Int32)), .val (.long ((((p2.toInt64) * (p3.toInt64)) * (p4.toInt64)) * (p5.toInt64))), .second] [(.int (lcmpW ((((p2.toInt64) * (p3.toInt64)) * (p4.toInt64)) * (p5.toInt64)) (2147483639 : Int64)))])) _
                    refine XS.ifNo X0.here hx rfl (hb hby exp_140) rfl ((if0 _ _).trans (tlt ((lw_gt _ _).mpr hc23)).2.2.2) ?_
                    show Steps p.tables e below (s₁.setTop (mkF m 143 #[.val (.int (4 : Int32)), .val (.int p2), .val (.int p3), .val (.int p4), .val (.int p5), .val (.long (2147483639 : Int64)), .second, .val (.int (0 : Int32)), .val (.long ((((p2.toInt64) * (p3.toInt64)) * (p4.toInt64)) * (p5.toInt64))), .second] [])) _
                    refine XS.iconst X0.here hx rfl (hb hby exp_143) ?_
                    exact k)
                  obtain ⟨fs, hr, hrun, hended, hW, hsame⟩ := X0.leave (v := some (.int (0 : Int32))) (fun h => by rw [Bd.returns] at h; cases h)
                  refine ⟨_, _, go24 _ ?_, hrun, hended, _, _, rfl, ?_, ⟨_, rfl⟩, hW, hsame.mono (by decide) (by decide)⟩
                  · exact retN X0 hx (t := .boolean) Bd.returns (by simp) (hb hby exp_144) hr
                  · show QV (.int (own_exp4 p2 p3 p4 p5)) h0 n0 _ s₁.heap _
                    rw [e0]
                    exact ⟨congrArg some (congrArg Value.int (Eq.symm (show (own_exp4 p2 p3 p4 p5) = (0 : Int32) from by unfold own_exp4; rw [if_neg hc2, if_neg hc5, if_neg hc8, if_neg hc11, if_neg hc14, if_neg hc17, if_neg hc20, if_pos hc23]))), N0, rfl⟩
                · have go25 : ∀ t, Steps p.tables e below (s₁.setTop (mkF m 146 #[.val (.int (4 : Int32)), .val (.int p2), .val (.int p3), .val (.int p4), .val (.int p5), .val (.long (2147483639 : Int64)), .second, .val (.int (0 : Int32)), .val (.long ((((p2.toInt64) * (p3.toInt64)) * (p4.toInt64)) * (p5.toInt64))), .second] [(.int (1 : Int32))])) t → Steps p.tables e below (s₁.setTop (entryFrame m #[(.int (4 : Int32)), (.int p2), (.int p3), (.int p4), (.int p5)] 10)) t := fun t k => go22 t (by
                    show Steps p.tables e below (s₁.setTop (mkF m 140 #[.val (.int (4 : Int32)), .val (.int p2), .val (.int p3), .val (.int p4), .val (.int p5), .val (.long (2147483639 : Int64)), .second, .val (.int (0 : Int32)), .val (.long ((((p2.toInt64) * (p3.toInt64)) * (p4.toInt64)) * (p5.toInt64))), .second] [(.int (lcmpW ((((p2.toInt64) * (p3.toInt64)) * (p4.toInt64)) * (p5.toInt64)) (2147483639 : Int64)))])) _
                    refine XS.ifYes X0.here hx rfl (pc0 := 140) (pc' := 145) rfl (hb hby exp_140) rfl ((if0 _ _).trans (flt (mt (lw_gt _ _).mp hc23)).2.2.2) (by decide) (by decide) ?_
                    show Steps p.tables e below (s₁.setTop (mkF m 145 #[.val (.int (4 : Int32)), .val (.int p2), .val (.int p3), .val (.int p4), .val (.int p5), .val (.long (2147483639 : Int64)), .second, .val (.int (0 : Int32)), .val (.long ((((p2.toInt64) * (p3.toInt64)) * (p4.toInt64)) * (p5.toInt64))), .second] [])) _
                    refine XS.iconst X0.here hx rfl (hb hby exp_145) ?_
                    exact k)
                  obtain ⟨fs, hr, hrun, hended, hW, hsame⟩ := X0.leave (v := some (.int (1 : Int32))) (fun h => by rw [Bd.returns] at h; cases h)
                  refine ⟨_, _, go25 _ ?_, hrun, hended, _, _, rfl, ?_, ⟨_, rfl⟩, hW, hsame.mono (by decide) (by decide)⟩
                  · exact retN X0 hx (t := .boolean) Bd.returns (by simp) (hb hby exp_146) hr
                  · show QV (.int (own_exp4 p2 p3 p4 p5)) h0 n0 _ s₁.heap _
                    rw [e0]
                    exact ⟨congrArg some (congrArg Value.int (Eq.symm (show (own_exp4 p2 p3 p4 p5) = (1 : Int32) from by unfold own_exp4; rw [if_neg hc2, if_neg hc5, if_neg hc8, if_neg hc11, if_neg hc14, if_neg hc17, if_neg hc20, if_neg hc23]))), N0, rfl⟩
/-! the plain law: both ways of reckoning agree -/
theorem own_ltL {a b : Int64} (h : a.toInt < b.toInt) : a < b := Int64.lt_iff_toInt_lt.mpr h
theorem own_nltL {a b : Int64} (h : ¬ a.toInt < b.toInt) : ¬ a < b := fun q => h (Int64.lt_iff_toInt_lt.mp q)
theorem own_low {s : Int64} {x : Int32} (h : ¬ ((2147483639 : Int64) < s * (x.toInt64))) : own_cap s x = s * (x.toInt64) := by
  unfold own_cap own_mj
  rw [Int64.lt_iff_toInt_lt] at h
  rw [if_neg]
  refine own_nltL ?_
  simp only [Int64.reduceToInt] at h ⊢
  omega
theorem own_high {s : Int64} {x : Int32} (h : (2147483639 : Int64) < s * (x.toInt64)) : own_cap s x = (2147483640 : Int64) := by
  unfold own_cap own_mj
  by_cases q : (2147483640 : Int64) < s * (x.toInt64)
  · rw [if_pos q]
  · rw [if_neg q]
    rw [Int64.lt_iff_toInt_lt] at h q
    apply Int64.toInt_inj.mp
    simp only [Int64.reduceToInt] at h q ⊢
    omega
theorem own_low0 {x : Int32} (h : ¬ ((2147483639 : Int64) < (x.toInt64))) : own_cap (1 : Int64) x = (x.toInt64) := by
  have e : (1 : Int64) * (x.toInt64) = x.toInt64 := Int64.one_mul _
  rw [own_low (by rw [e]; exact h), e]
theorem own_high0 {x : Int32} (h : (2147483639 : Int64) < (x.toInt64)) : own_cap (1 : Int64) x = (2147483640 : Int64) := by
  have e : (1 : Int64) * (x.toInt64) = x.toInt64 := Int64.one_mul _
  exact own_high (by rw [e]; exact h)
theorem own_top {x : Int32} (g : 0 ≤ x.toInt) (h : ¬ x = (0 : Int32)) : own_cap (2147483640 : Int64) x = (2147483640 : Int64) := by
  refine own_high (own_ltL ?_)
  have m := c_lmul (2147483640 : Int64) (x.toInt64)
  have b := Int64.le_toInt ((2147483640 : Int64) * (x.toInt64))
  have b' := Int64.toInt_lt ((2147483640 : Int64) * (x.toInt64))
  have bx := Int32.toInt_lt x
  rw [c_i2l] at m
  rw [← Int32.toInt_inj] at h
  simp only [Int64.reduceToInt, Int32.reduceToInt] at m h ⊢
  obtain ⟨c, hc⟩ := Int.dvd_of_emod_eq_zero m
  rcases Int.lt_trichotomy c 0 with q | q | q <;> omega
theorem own_zr {s : Int64} {x : Int32} (h : x = (0 : Int32)) : own_cap s x = (0 : Int64) := by
  subst h
  unfold own_cap
  rw [show (0 : Int32).toInt64 = (0 : Int64) from by decide, Int64.mul_zero]
  decide
theorem own_zl (x : Int32) : own_cap (0 : Int64) x = (0 : Int64) := by
  unfold own_cap
  rw [Int64.zero_mul]
  decide
theorem own_agree0 (p2 p3 p4 p5 : Int32)  : own_fits0  = own_exp0 p2 p3 p4 p5 := by
  unfold own_fits0
  have R : own_exp0 p2 p3 p4 p5 = (1 : Int32) := by unfold own_exp0; rfl
  refine Eq.trans ?_ R.symm
  rw [if_neg (show ¬ ((2147483639 : Int64) < (1 : Int64)) from by decide)]
theorem own_agree1 (p2 p3 p4 p5 : Int32) (g2 : 0 ≤ p2.toInt) : own_fits1 p2 = own_exp1 p2 p3 p4 p5 := by
  unfold own_fits1
  by_cases hc2 : p2 = (0 : Int32)
  · have R : own_exp1 p2 p3 p4 p5 = (1 : Int32) := by unfold own_exp1; rw [if_pos hc2]
    refine Eq.trans ?_ R.symm
    rw [own_zr hc2, if_neg (show ¬ ((2147483639 : Int64) < (0 : Int64)) from by decide)]
  · by_cases hc5 : (2147483639 : Int64) < (p2.toInt64)
    · have R : own_exp1 p2 p3 p4 p5 = (0 : Int32) := by unfold own_exp1; rw [if_neg hc2, if_pos hc5]
      refine Eq.trans ?_ R.symm
      rw [own_high0 hc5, if_pos (show (2147483639 : Int64) < (2147483640 : Int64) from by decide)]
    · have R : own_exp1 p2 p3 p4 p5 = (1 : Int32) := by unfold own_exp1; rw [if_neg hc2, if_neg hc5]
      refine Eq.trans ?_ R.symm
      rw [own_low0 hc5, if_neg hc5]
theorem own_agree2 (p2 p3 p4 p5 : Int32) (g2 : 0 ≤ p2.toInt) (g3 : 0 ≤ p3.toInt) : own_fits2 p2 p3 = own_exp2 p2 p3 p4 p5 := by
  unfold own_fits2
  by_cases hc2 : p2 = (0 : Int32)
  · have R : own_exp2 p2 p3 p4 p5 = (1 : Int32) := by unfold own_exp2; rw [if_pos hc2]
    refine Eq.trans ?_ R.symm
    rw [own_zr hc2, own_zl p3, if_neg (show ¬ ((2147483639 : Int64) < (0 : Int64)) from by decide)]
  · by_cases hc5 : p3 = (0 : Int32)
    · have R : own_exp2 p2 p3 p4 p5 = (1 : Int32) := by unfold own_exp2; rw [if_neg hc2, if_pos hc5]
      refine Eq.trans ?_ R.symm
      rw [own_zr hc5, if_neg (show ¬ ((2147483639 : Int64) < (0 : Int64)) from by decide)]
    · by_cases hc8 : (2147483639 : Int64) < (p2.toInt64)
      · have R : own_exp2 p2 p3 p4 p5 = (0 : Int32) := by unfold own_exp2; rw [if_neg hc2, if_neg hc5, if_pos hc8]
        refine Eq.trans ?_ R.symm
        rw [own_high0 hc8, own_top g3 hc5, if_pos (show (2147483639 : Int64) < (2147483640 : Int64) from by decide)]
      · by_cases hc11 : (2147483639 : Int64) < ((p2.toInt64) * (p3.toInt64))
        · have R : own_exp2 p2 p3 p4 p5 = (0 : Int32) := by unfold own_exp2; rw [if_neg hc2, if_neg hc5, if_neg hc8, if_pos hc11]
          refine Eq.trans ?_ R.symm
          rw [own_low0 hc8, own_high hc11, if_pos (show (2147483639 : Int64) < (2147483640 : Int64) from by decide)]
        · have R : own_exp2 p2 p3 p4 p5 = (1 : Int32) := by unfold own_exp2; rw [if_neg hc2, if_neg hc5, if_neg hc8, if_neg hc11]
          refine Eq.trans ?_ R.symm
          rw [own_low0 hc8, own_low hc11, if_neg hc11]
theorem own_agree3 (p2 p3 p4 p5 : Int32) (g2 : 0 ≤ p2.toInt) (g3 : 0 ≤ p3.toInt) (g4 : 0 ≤ p4.toInt) : own_fits3 p2 p3 p4 = own_exp3 p2 p3 p4 p5 := by
  unfold own_fits3
  by_cases hc2 : p2 = (0 : Int32)
  · have R : own_exp3 p2 p3 p4 p5 = (1 : Int32) := by unfold own_exp3; rw [if_pos hc2]
    refine Eq.trans ?_ R.symm
    rw [own_zr hc2, own_zl p3, own_zl p4, if_neg (show ¬ ((2147483639 : Int64) < (0 : Int64)) from by decide)]
  · by_cases hc5 : p3 = (0 : Int32)
    · have R : own_exp3 p2 p3 p4 p5 = (1 : Int32) := by unfold own_exp3; rw [if_neg hc2, if_pos hc5]
      refine Eq.trans ?_ R.symm
      rw [own_zr hc5, own_zl p4, if_neg (show ¬ ((2147483639 : Int64) < (0 : Int64)) from by decide)]
    · by_cases hc8 : p4 = (0 : Int32)
      · have R : own_exp3 p2 p3 p4 p5 = (1 : Int32) := by unfold own_exp3; rw [if_neg hc2, if_neg hc5, if_pos hc8]
        refine Eq.trans ?_ R.symm
        rw [own_zr hc8, if_neg (show ¬ ((2147483639 : Int64) < (0 : Int64)) from by decide)]
      · by_cases hc11 : (2147483639 : Int64) < (p2.toInt64)
        · have R : own_exp3 p2 p3 p4 p5 = (0 : Int32) := by unfold own_exp3; rw [if_neg hc2, if_neg hc5, if_neg hc8, if_pos hc11]
          refine Eq.trans ?_ R.symm
          rw [own_high0 hc11, own_top g3 hc5, own_top g4 hc8, if_pos (show (2147483639 : Int64) < (2147483640 : Int64) from by decide)]
        · by_cases hc14 : (2147483639 : Int64) < ((p2.toInt64) * (p3.toInt64))
          · have R : own_exp3 p2 p3 p4 p5 = (0 : Int32) := by unfold own_exp3; rw [if_neg hc2, if_neg hc5, if_neg hc8, if_neg hc11, if_pos hc14]
            refine Eq.trans ?_ R.symm
            rw [own_low0 hc11, own_high hc14, own_top g4 hc8, if_pos (show (2147483639 : Int64) < (2147483640 : Int64) from by decide)]
          · by_cases hc17 : (2147483639 : Int64) < (((p2.toInt64) * (p3.toInt64)) * (p4.toInt64))
            · have R : own_exp3 p2 p3 p4 p5 = (0 : Int32) := by unfold own_exp3; rw [if_neg hc2, if_neg hc5, if_neg hc8, if_neg hc11, if_neg hc14, if_pos hc17]
              refine Eq.trans ?_ R.symm
              rw [own_low0 hc11, own_low hc14, own_high hc17, if_pos (show (2147483639 : Int64) < (2147483640 : Int64) from by decide)]
            · have R : own_exp3 p2 p3 p4 p5 = (1 : Int32) := by unfold own_exp3; rw [if_neg hc2, if_neg hc5, if_neg hc8, if_neg hc11, if_neg hc14, if_neg hc17]
              refine Eq.trans ?_ R.symm
              rw [own_low0 hc11, own_low hc14, own_low hc17, if_neg hc17]
theorem own_agree4 (p2 p3 p4 p5 : Int32) (g2 : 0 ≤ p2.toInt) (g3 : 0 ≤ p3.toInt) (g4 : 0 ≤ p4.toInt) (g5 : 0 ≤ p5.toInt) : own_fits4 p2 p3 p4 p5 = own_exp4 p2 p3 p4 p5 := by
  unfold own_fits4
  by_cases hc2 : p2 = (0 : Int32)
  · have R : own_exp4 p2 p3 p4 p5 = (1 : Int32) := by unfold own_exp4; rw [if_pos hc2]
    refine Eq.trans ?_ R.symm
    rw [own_zr hc2, own_zl p3, own_zl p4, own_zl p5, if_neg (show ¬ ((2147483639 : Int64) < (0 : Int64)) from by decide)]
  · by_cases hc5 : p3 = (0 : Int32)
    · have R : own_exp4 p2 p3 p4 p5 = (1 : Int32) := by unfold own_exp4; rw [if_neg hc2, if_pos hc5]
      refine Eq.trans ?_ R.symm
      rw [own_zr hc5, own_zl p4, own_zl p5, if_neg (show ¬ ((2147483639 : Int64) < (0 : Int64)) from by decide)]
    · by_cases hc8 : p4 = (0 : Int32)
      · have R : own_exp4 p2 p3 p4 p5 = (1 : Int32) := by unfold own_exp4; rw [if_neg hc2, if_neg hc5, if_pos hc8]
        refine Eq.trans ?_ R.symm
        rw [own_zr hc8, own_zl p5, if_neg (show ¬ ((2147483639 : Int64) < (0 : Int64)) from by decide)]
      · by_cases hc11 : p5 = (0 : Int32)
        · have R : own_exp4 p2 p3 p4 p5 = (1 : Int32) := by unfold own_exp4; rw [if_neg hc2, if_neg hc5, if_neg hc8, if_pos hc11]
          refine Eq.trans ?_ R.symm
          rw [own_zr hc11, if_neg (show ¬ ((2147483639 : Int64) < (0 : Int64)) from by decide)]
        · by_cases hc14 : (2147483639 : Int64) < (p2.toInt64)
          · have R : own_exp4 p2 p3 p4 p5 = (0 : Int32) := by unfold own_exp4; rw [if_neg hc2, if_neg hc5, if_neg hc8, if_neg hc11, if_pos hc14]
            refine Eq.trans ?_ R.symm
            rw [own_high0 hc14, own_top g3 hc5, own_top g4 hc8, own_top g5 hc11, if_pos (show (2147483639 : Int64) < (2147483640 : Int64) from by decide)]
          · by_cases hc17 : (2147483639 : Int64) < ((p2.toInt64) * (p3.toInt64))
            · have R : own_exp4 p2 p3 p4 p5 = (0 : Int32) := by unfold own_exp4; rw [if_neg hc2, if_neg hc5, if_neg hc8, if_neg hc11, if_neg hc14, if_pos hc17]
              refine Eq.trans ?_ R.symm
              rw [own_low0 hc14, own_high hc17, own_top g4 hc8, own_top g5 hc11, if_pos (show (2147483639 : Int64) < (2147483640 : Int64) from by decide)]
            · by_cases hc20 : (2147483639 : Int64) < (((p2.toInt64) * (p3.toInt64)) * (p4.toInt64))
              · have R : own_exp4 p2 p3 p4 p5 = (0 : Int32) := by unfold own_exp4; rw [if_neg hc2, if_neg hc5, if_neg hc8, if_neg hc11, if_neg hc14, if_neg hc17, if_pos hc20]
                refine Eq.trans ?_ R.symm
                rw [own_low0 hc14, own_low hc17, own_high hc20, own_top g5 hc11, if_pos (show (2147483639 : Int64) < (2147483640 : Int64) from by decide)]
              · by_cases hc23 : (2147483639 : Int64) < ((((p2.toInt64) * (p3.toInt64)) * (p4.toInt64)) * (p5.toInt64))
                · have R : own_exp4 p2 p3 p4 p5 = (0 : Int32) := by unfold own_exp4; rw [if_neg hc2, if_neg hc5, if_neg hc8, if_neg hc11, if_neg hc14, if_neg hc17, if_neg hc20, if_pos hc23]
                  refine Eq.trans ?_ R.symm
                  rw [own_low0 hc14, own_low hc17, own_low hc20, own_high hc23, if_pos (show (2147483639 : Int64) < (2147483640 : Int64) from by decide)]
                · have R : own_exp4 p2 p3 p4 p5 = (1 : Int32) := by unfold own_exp4; rw [if_neg hc2, if_neg hc5, if_neg hc8, if_neg hc11, if_neg hc14, if_neg hc17, if_neg hc20, if_neg hc23]
                  refine Eq.trans ?_ R.symm
                  rw [own_low0 hc14, own_low hc17, own_low hc20, own_low hc23, if_neg hc23]
theorem own_five (x : Int32) : ((x &&& (2147483647 : Int32)) % (5 : Int32)) = (0 : Int32) ∨ ((x &&& (2147483647 : Int32)) % (5 : Int32)) = (1 : Int32) ∨ ((x &&& (2147483647 : Int32)) % (5 : Int32)) = (2 : Int32) ∨ ((x &&& (2147483647 : Int32)) % (5 : Int32)) = (3 : Int32) ∨ ((x &&& (2147483647 : Int32)) % (5 : Int32)) = (4 : Int32) := by
  have m := (c_andS x (2147483647 : Int32)).2.2 (by decide)
  have r := (c_irem (x &&& (2147483647 : Int32)) (5 : Int32) 5 (by decide)).1 m
  simp only [← Int32.toInt_inj, Int32.reduceToInt]
  omega
theorem own_pos (x : Int32) : 0 ≤ (x &&& (2147483647 : Int32)).toInt := (c_andS x (2147483647 : Int32)).2.2 (by decide)
theorem pn_law : plainName "com/example/inlet/inlet/compiler/ArrayValueFitsPinLaw" = true := by first | (simp [plainName, overriddenIn]; done) | decide +kernel
theorem ef_law (m : MethodId) (p1 : Int32) (p2 : Int32) (p3 : Int32) (p4 : Int32) (p5 : Int32) : entryFrame m #[(.int p1), (.int p2), (.int p3), (.int p4), (.int p5)] maxLocals = mkF m 0 #[.val (.int p1), .val (.int p2), .val (.int p3), .val (.int p4), .val (.int p5), .unset, .unset, .unset, .unset, .unset, .unset, .unset] [] := by first | (simp [entryFrame, mkF, argsToLocals, Value.category, maxLocals]; done) | rfl
def QL (n0 : Nat) (v : Option Value) (h : Heap) (L : List Loc) : Prop := v = some (.int 1) ∧ Fr n0 L
set_option maxRecDepth 65536 in
set_option maxHeartbeats 40000000 in
theorem rm_law (l : Launch) (Z : State) (a0 : Array Value) (hw : ∀ d ∈ tables_1, d.before a0 Z = true) (ws : List Jvm.Cond) (p1 : Int32) (p2 : Int32) (p3 : Int32) (p4 : Int32) (p5 : Int32) (h0 : Heap) (n0 : Nat) (Z0 : n0 ≤ h0.size) :
    MetFree l x (head1 (Jvm.Cond.code x code maxLocals ret :: ws) room_1) (fun a U => a = #[(.int p1), (.int p2), (.int p3), (.int p4), (.int p5)] ∧ Z.Warmed39 U.vm ∧ U.heap = h0) (fun _ _ _ _ _ => True) (fun _ U o U' => ∃ v L, o = .returned v ∧ QL n0 v U'.heap L ∧ FrameEnd U o U' L room_1.cells room_1.slots) := by
  refine MetFree.of_bodySF (plainFor_of_name pn_law) hisR ?_
  intro p e s m args below meth c s₁ Bd hml0 hP hK
  obtain ⟨rfl, hZ, hh⟩ := hP
  have hx := Bd.exec
  have hby := Bd.bytes
  have hml : c.maxLocals = 12 := hml0
  have hown : s.vm.findClass "com/example/inlet/inlet/compiler/ArrayValueFitsPinLaw" = some m.cls := findClass_of_methodNamed Bd.named
  have hnm := (name_of_methodNamed Bd.named Bd.method).1
  have X0 : Stand p l e room_1 s m #[(.int p1), (.int p2), (.int p3), (.int p4), (.int p5)] below meth c s₁ [] 0 0 := Stand.of_body Bd
  have e0 : s₁.heap = h0 := by rw [← hh, Bd.state]; rfl
  have N0 := Fr.nil n0
  have go0 : ∀ t, Steps p.tables e below (s₁.setTop (mkF m 0 #[.val (.int p1), .val (.int p2), .val (.int p3), .val (.int p4), .val (.int p5), .unset, .unset, .unset, .unset, .unset, .unset, .unset] [])) t → Steps p.tables e below (s₁.setTop (entryFrame m #[(.int p1), (.int p2), (.int p3), (.int p4), (.int p5)] maxLocals)) t := fun t k => castTop (ef_law m p1 p2 p3 p4 p5) k
  have go1 : ∀ t, Steps p.tables e below (s₁.setTop (mkF m 14 #[.val (.int p1), .val (.int p2), .val (.int p3), .val (.int p4), .val (.int p5), .val (.int ((p1 &&& (2147483647 : Int32)) % (5 : Int32))), .val (.int (p2 &&& (2147483647 : Int32))), .unset, .unset, .unset, .unset, .unset] [])) t → Steps p.tables e below (s₁.setTop (entryFrame m #[(.int p1), (.int p2), (.int p3), (.int p4), (.int p5)] maxLocals)) t := fun t k => go0 t (by
    show Steps p.tables e below (s₁.setTop (mkF m 0 #[.val (.int p1), .val (.int p2), .val (.int p3), .val (.int p4), .val (.int p5), .unset, .unset, .unset, .unset, .unset, .unset, .unset] [])) _
    refine XS.iloadN X0.here hx rfl (hb hby at_0) rfl ?_
    show Steps p.tables e below (s₁.setTop (mkF m 1 #[.val (.int p1), .val (.int p2), .val (.int p3), .val (.int p4), .val (.int p5), .unset, .unset, .unset, .unset, .unset, .unset, .unset] [(.int p1)])) _
    refine X0.ldcI hx hown (mvT hZ (hw _ (List.mem_of_getElem? (i := 0) rfl))) rfl (hb hby at_1) ?_
    show Steps p.tables e below (s₁.setTop (mkF m 3 #[.val (.int p1), .val (.int p2), .val (.int p3), .val (.int p4), .val (.int p5), .unset, .unset, .unset, .unset, .unset, .unset, .unset] [(.int (2147483647 : Int32)), (.int p1)])) _
    refine XS.iand X0.here hx rfl (hb hby at_3) rfl ?_
    show Steps p.tables e below (s₁.setTop (mkF m 4 #[.val (.int p1), .val (.int p2), .val (.int p3), .val (.int p4), .val (.int p5), .unset, .unset, .unset, .unset, .unset, .unset, .unset] [(.int (p1 &&& (2147483647 : Int32)))])) _
    refine XS.iconst X0.here hx rfl (hb hby at_4) ?_
    show Steps p.tables e below (s₁.setTop (mkF m 5 #[.val (.int p1), .val (.int p2), .val (.int p3), .val (.int p4), .val (.int p5), .unset, .unset, .unset, .unset, .unset, .unset, .unset] [(.int (5 : Int32)), (.int (p1 &&& (2147483647 : Int32)))])) _
    refine iremM X0 hx rfl (hb hby at_5) rfl (by decide) ?_
    show Steps p.tables e below (s₁.setTop (mkF m 6 #[.val (.int p1), .val (.int p2), .val (.int p3), .val (.int p4), .val (.int p5), .unset, .unset, .unset, .unset, .unset, .unset, .unset] [(.int ((p1 &&& (2147483647 : Int32)) % (5 : Int32)))])) _
    refine XS.istore X0.here hx rfl (hb hby at_6) rfl (l' := #[.val (.int p1), .val (.int p2), .val (.int p3), .val (.int p4), .val (.int p5), .val (.int ((p1 &&& (2147483647 : Int32)) % (5 : Int32))), .unset, .unset, .unset, .unset, .unset, .unset]) rfl ?_
    show Steps p.tables e below (s₁.setTop (mkF m 8 #[.val (.int p1), .val (.int p2), .val (.int p3), .val (.int p4), .val (.int p5), .val (.int ((p1 &&& (2147483647 : Int32)) % (5 : Int32))), .unset, .unset, .unset, .unset, .unset, .unset] [])) _
    refine XS.iloadN X0.here hx rfl (hb hby at_8) rfl ?_
    show Steps p.tables e below (s₁.setTop (mkF m 9 #[.val (.int p1), .val (.int p2), .val (.int p3), .val (.int p4), .val (.int p5), .val (.int ((p1 &&& (2147483647 : Int32)) % (5 : Int32))), .unset, .unset, .unset, .unset, .unset, .unset] [(.int p2)])) _
    refine X0.ldcI hx hown (mvT hZ (hw _ (List.mem_of_getElem? (i := 0) rfl))) rfl (hb hby at_9) ?_
    show Steps p.tables e below (s₁.setTop (mkF m 11 #[.val (.int p1), .val (.int p2), .val (.int p3), .val (.int p4), .val (.int p5), .val (.int ((p1 &&& (2147483647 : Int32)) % (5 : Int32))), .unset, .unset, .unset, .unset, .unset, .unset] [(.int (2147483647 : Int32)), (.int p2)])) _
    refine XS.iand X0.here hx rfl (hb hby at_11) rfl ?_
    show Steps p.tables e below (s₁.setTop (mkF m 12 #[.val (.int p1), .val (.int p2), .val (.int p3), .val (.int p4), .val (.int p5), .val (.int ((p1 &&& (2147483647 : Int32)) % (5 : Int32))), .unset, .unset, .unset, .unset, .unset, .unset] [(.int (p2 &&& (2147483647 : Int32)))])) _
    refine XS.istore X0.here hx rfl (hb hby at_12) rfl (l' := #[.val (.int p1), .val (.int p2), .val (.int p3), .val (.int p4), .val (.int p5), .val (.int ((p1 &&& (2147483647 : Int32)) % (5 : Int32))), .val (.int (p2 &&& (2147483647 : Int32))), .unset, .unset, .unset, .unset, .unset]) rfl ?_
    exact k)
  obtain ⟨xa, hxa⟩ : ∃ z, z = (p2 &&& (2147483647 : Int32)) := ⟨_, rfl⟩
  rw [← hxa] at go1
  have gxa : 0 ≤ xa.toInt := by rw [hxa]; exact own_pos _
  have go2 : ∀ t, Steps p.tables e below (s₁.setTop (mkF m 20 #[.val (.int p1), .val (.int p2), .val (.int p3), .val (.int p4), .val (.int p5), .val (.int ((p1 &&& (2147483647 : Int32)) % (5 : Int32))), .val (.int xa), .val (.int (p3 &&& (2147483647 : Int32))), .unset, .unset, .unset, .unset] [])) t → Steps p.tables e below (s₁.setTop (entryFrame m #[(.int p1), (.int p2), (.int p3), (.int p4), (.int p5)] maxLocals)) t := fun t k => go1 t (by
    show Steps p.tables e below (s₁.setTop (mkF m 14 #[.val (.int p1), .val (.int p2), .val (.int p3), .val (.int p4), .val (.int p5), .val (.int ((p1 &&& (2147483647 : Int32)) % (5 : Int32))), .val (.int xa), .unset, .unset, .unset, .unset, .unset] [])) _
    refine XS.iloadN X0.here hx rfl (hb hby at_14) rfl ?_
    show Steps p.tables e below (s₁.setTop (mkF m 15 #[.val (.int p1), .val (.int p2), .val (.int p3), .val (.int p4), .val (.int p5), .val (.int ((p1 &&& (2147483647 : Int32)) % (5 : Int32))), .val (.int xa), .unset, .unset, .unset, .unset, .unset] [(.int p3)])) _
    refine X0.ldcI hx hown (mvT hZ (hw _ (List.mem_of_getElem? (i := 0) rfl))) rfl (hb hby at_15) ?_
    show Steps p.tables e below (s₁.setTop (mkF m 17 #[.val (.int p1), .val (.int p2), .val (.int p3), .val (.int p4), .val (.int p5), .val (.int ((p1 &&& (2147483647 : Int32)) % (5 : Int32))), .val (.int xa), .unset, .unset, .unset, .unset, .unset] [(.int (2147483647 : Int32)), (.int p3)])) _
    refine XS.iand X0.here hx rfl (hb hby at_17) rfl ?_
    show Steps p.tables e below (s₁.setTop (mkF m 18 #[.val (.int p1), .val (.int p2), .val (.int p3), .val (.int p4), .val (.int p5), .val (.int ((p1 &&& (2147483647 : Int32)) % (5 : Int32))), .val (.int xa), .unset, .unset, .unset, .unset, .unset] [(.int (p3 &&& (2147483647 : Int32)))])) _
    refine XS.istore X0.here hx rfl (hb hby at_18) rfl (l' := #[.val (.int p1), .val (.int p2), .val (.int p3), .val (.int p4), .val (.int p5), .val (.int ((p1 &&& (2147483647 : Int32)) % (5 : Int32))), .val (.int xa), .val (.int (p3 &&& (2147483647 : Int32))), .unset, .unset, .unset, .unset]) rfl ?_
    exact k)
  obtain ⟨xb, hxb⟩ : ∃ z, z = (p3 &&& (2147483647 : Int32)) := ⟨_, rfl⟩
  rw [← hxb] at go2
  have gxb : 0 ≤ xb.toInt := by rw [hxb]; exact own_pos _
  have go3 : ∀ t, Steps p.tables e below (s₁.setTop (mkF m 26 #[.val (.int p1), .val (.int p2), .val (.int p3), .val (.int p4), .val (.int p5), .val (.int ((p1 &&& (2147483647 : Int32)) % (5 : Int32))), .val (.int xa), .val (.int xb), .val (.int (p4 &&& (2147483647 : Int32))), .unset, .unset, .unset] [])) t → Steps p.tables e below (s₁.setTop (entryFrame m #[(.int p1), (.int p2), (.int p3), (.int p4), (.int p5)] maxLocals)) t := fun t k => go2 t (by
    show Steps p.tables e below (s₁.setTop (mkF m 20 #[.val (.int p1), .val (.int p2), .val (.int p3), .val (.int p4), .val (.int p5), .val (.int ((p1 &&& (2147483647 : Int32)) % (5 : Int32))), .val (.int xa), .val (.int xb), .unset, .unset, .unset, .unset] [])) _
    refine XS.iloadN X0.here hx rfl (hb hby at_20) rfl ?_
    show Steps p.tables e below (s₁.setTop (mkF m 21 #[.val (.int p1), .val (.int p2), .val (.int p3), .val (.int p4), .val (.int p5), .val (.int ((p1 &&& (2147483647 : Int32)) % (5 : Int32))), .val (.int xa), .val (.int xb), .unset, .unset, .unset, .unset] [(.int p4)])) _
    refine X0.ldcI hx hown (mvT hZ (hw _ (List.mem_of_getElem? (i := 0) rfl))) rfl (hb hby at_21) ?_
    show Steps p.tables e below (s₁.setTop (mkF m 23 #[.val (.int p1), .val (.int p2), .val (.int p3), .val (.int p4), .val (.int p5), .val (.int ((p1 &&& (2147483647 : Int32)) % (5 : Int32))), .val (.int xa), .val (.int xb), .unset, .unset, .unset, .unset] [(.int (2147483647 : Int32)), (.int p4)])) _
    refine XS.iand X0.here hx rfl (hb hby at_23) rfl ?_
    show Steps p.tables e below (s₁.setTop (mkF m 24 #[.val (.int p1), .val (.int p2), .val (.int p3), .val (.int p4), .val (.int p5), .val (.int ((p1 &&& (2147483647 : Int32)) % (5 : Int32))), .val (.int xa), .val (.int xb), .unset, .unset, .unset, .unset] [(.int (p4 &&& (2147483647 : Int32)))])) _
    refine XS.istore X0.here hx rfl (hb hby at_24) rfl (l' := #[.val (.int p1), .val (.int p2), .val (.int p3), .val (.int p4), .val (.int p5), .val (.int ((p1 &&& (2147483647 : Int32)) % (5 : Int32))), .val (.int xa), .val (.int xb), .val (.int (p4 &&& (2147483647 : Int32))), .unset, .unset, .unset]) rfl ?_
    exact k)
  obtain ⟨xc, hxc⟩ : ∃ z, z = (p4 &&& (2147483647 : Int32)) := ⟨_, rfl⟩
  rw [← hxc] at go3
  have gxc : 0 ≤ xc.toInt := by rw [hxc]; exact own_pos _
  have go4 : ∀ t, Steps p.tables e below (s₁.setTop (mkF m 33 #[.val (.int p1), .val (.int p2), .val (.int p3), .val (.int p4), .val (.int p5), .val (.int ((p1 &&& (2147483647 : Int32)) % (5 : Int32))), .val (.int xa), .val (.int xb), .val (.int xc), .val (.int (p5 &&& (2147483647 : Int32))), .unset, .unset] [])) t → Steps p.tables e below (s₁.setTop (entryFrame m #[(.int p1), (.int p2), (.int p3), (.int p4), (.int p5)] maxLocals)) t := fun t k => go3 t (by
    show Steps p.tables e below (s₁.setTop (mkF m 26 #[.val (.int p1), .val (.int p2), .val (.int p3), .val (.int p4), .val (.int p5), .val (.int ((p1 &&& (2147483647 : Int32)) % (5 : Int32))), .val (.int xa), .val (.int xb), .val (.int xc), .unset, .unset, .unset] [])) _
    refine XS.iload X0.here hx rfl (hb hby at_26) rfl ?_
    show Steps p.tables e below (s₁.setTop (mkF m 28 #[.val (.int p1), .val (.int p2), .val (.int p3), .val (.int p4), .val (.int p5), .val (.int ((p1 &&& (2147483647 : Int32)) % (5 : Int32))), .val (.int xa), .val (.int xb), .val (.int xc), .unset, .unset, .unset] [(.int p5)])) _
    refine X0.ldcI hx hown (mvT hZ (hw _ (List.mem_of_getElem? (i := 0) rfl))) rfl (hb hby at_28) ?_
    show Steps p.tables e below (s₁.setTop (mkF m 30 #[.val (.int p1), .val (.int p2), .val (.int p3), .val (.int p4), .val (.int p5), .val (.int ((p1 &&& (2147483647 : Int32)) % (5 : Int32))), .val (.int xa), .val (.int xb), .val (.int xc), .unset, .unset, .unset] [(.int (2147483647 : Int32)), (.int p5)])) _
    refine XS.iand X0.here hx rfl (hb hby at_30) rfl ?_
    show Steps p.tables e below (s₁.setTop (mkF m 31 #[.val (.int p1), .val (.int p2), .val (.int p3), .val (.int p4), .val (.int p5), .val (.int ((p1 &&& (2147483647 : Int32)) % (5 : Int32))), .val (.int xa), .val (.int xb), .val (.int xc), .unset, .unset, .unset] [(.int (p5 &&& (2147483647 : Int32)))])) _
    refine XS.istore X0.here hx rfl (hb hby at_31) rfl (l' := #[.val (.int p1), .val (.int p2), .val (.int p3), .val (.int p4), .val (.int p5), .val (.int ((p1 &&& (2147483647 : Int32)) % (5 : Int32))), .val (.int xa), .val (.int xb), .val (.int xc), .val (.int (p5 &&& (2147483647 : Int32))), .unset, .unset]) rfl ?_
    exact k)
  obtain ⟨xd, hxd⟩ : ∃ z, z = (p5 &&& (2147483647 : Int32)) := ⟨_, rfl⟩
  rw [← hxd] at go4
  have gxd : 0 ≤ xd.toInt := by rw [hxd]; exact own_pos _
  rcases own_five p1 with hn | hn | hn | hn | hn
  · rw [hn] at go4
    have go5 : ∀ t, Steps p.tables e below (s₁.setTop (mkF m 35 #[.val (.int p1), .val (.int p2), .val (.int p3), .val (.int p4), .val (.int p5), .val (.int (0 : Int32)), .val (.int xa), .val (.int xb), .val (.int xc), .val (.int xd), .unset, .unset] [(.int (0 : Int32))])) t → Steps p.tables e below (s₁.setTop (entryFrame m #[(.int p1), (.int p2), (.int p3), (.int p4), (.int p5)] maxLocals)) t := fun t k => go4 t (by
      show Steps p.tables e below (s₁.setTop (mkF m 33 #[.val (.int p1), .val (.int p2), .val (.int p3), .val (.int p4), .val (.int p5), .val (.int (0 : Int32)), .val (.int xa), .val (.int xb), .val (.int xc), .val (.int xd), .unset, .unset] [])) _
      refine XS.iload X0.here hx rfl (hb hby at_33) rfl ?_
      exact k)
    obtain ⟨T6, h6, k6, X6, e6, E6, A6, st6⟩ := newP X0 hx hZ (hw _ (List.mem_of_getElem? (i := 1) rfl)) e0 (g := (mkF m 35 #[.val (.int p1), .val (.int p2), .val (.int p3), .val (.int p4), .val (.int p5), .val (.int (0 : Int32)), .val (.int xa), .val (.int xb), .val (.int xc), .val (.int xd), .unset, .unset] [(.int (0 : Int32))])) rfl (hb hby at_35) rfl (by decide) (cap := 0) (by decide) (by decide) (by decide) (by decide)
    obtain ⟨b6, g6⟩ : ∃ z, z = h0.size := ⟨_, rfl⟩
    rw [← g6] at A6 st6
    have g_b6 : n0 ≤ b6 := Nat.le_trans Z0 (Nat.le_of_eq g6.symm)
    have V6 : Arv Z h6 b6 k6 .int (0 : Int32) [] (.int (0 : Int32)) := Arv.new A6 (by decide)
    have go7 : ∀ t, Steps p.tables e below (T6.setTop (mkF m 37 #[.val (.int p1), .val (.int p2), .val (.int p3), .val (.int p4), .val (.int p5), .val (.int (0 : Int32)), .val (.int xa), .val (.int xb), .val (.int xc), .val (.int xd), .unset, .unset] [(.ref b6)])) t → Steps p.tables e below (s₁.setTop (entryFrame m #[(.int p1), (.int p2), (.int p3), (.int p4), (.int p5)] maxLocals)) t := fun t k => go5 t (st6 t k)
    have go8 : ∀ t, Steps p.tables e below (T6.setTop (mkF m 89 #[.val (.int p1), .val (.int p2), .val (.int p3), .val (.int p4), .val (.int p5), .val (.int (0 : Int32)), .val (.int xa), .val (.int xb), .val (.int xc), .val (.int xd), .val (.ref b6), .unset] [(.ref b6)])) t → Steps p.tables e below (s₁.setTop (entryFrame m #[(.int p1), (.int p2), (.int p3), (.int p4), (.int p5)] maxLocals)) t := fun t k => go7 t (by
      show Steps p.tables e below (T6.setTop (mkF m 37 #[.val (.int p1), .val (.int p2), .val (.int p3), .val (.int p4), .val (.int p5), .val (.int (0 : Int32)), .val (.int xa), .val (.int xb), .val (.int xc), .val (.int xd), .unset, .unset] [(.ref b6)])) _
      refine XS.astore X6.here hx rfl (hb hby at_37) rfl rfl (l' := #[.val (.int p1), .val (.int p2), .val (.int p3), .val (.int p4), .val (.int p5), .val (.int (0 : Int32)), .val (.int xa), .val (.int xb), .val (.int xc), .val (.int xd), .val (.ref b6), .unset]) rfl ?_
      show Steps p.tables e below (T6.setTop (mkF m 39 #[.val (.int p1), .val (.int p2), .val (.int p3), .val (.int p4), .val (.int p5), .val (.int (0 : Int32)), .val (.int xa), .val (.int xb), .val (.int xc), .val (.int xd), .val (.ref b6), .unset] [])) _
      refine XS.iload X6.here hx rfl (hb hby at_39) rfl ?_
      show Steps p.tables e below (T6.setTop (mkF m 41 #[.val (.int p1), .val (.int p2), .val (.int p3), .val (.int p4), .val (.int p5), .val (.int (0 : Int32)), .val (.int xa), .val (.int xb), .val (.int xc), .val (.int xd), .val (.ref b6), .unset] [(.int (0 : Int32))])) _
      refine XS.iconst X6.here hx rfl (hb hby at_41) ?_
      show Steps p.tables e below (T6.setTop (mkF m 42 #[.val (.int p1), .val (.int p2), .val (.int p3), .val (.int p4), .val (.int p5), .val (.int (0 : Int32)), .val (.int xa), .val (.int xb), .val (.int xc), .val (.int xd), .val (.ref b6), .unset] [(.int (1 : Int32)), (.int (0 : Int32))])) _
      refine XS.icmpYes X6.here hx rfl (pc0 := 42) (pc' := 51) rfl (hb hby at_42) rfl (tlt (by decide : (0 : Int32) < (1 : Int32))).1 (by decide) (by decide) ?_
      show Steps p.tables e below (T6.setTop (mkF m 51 #[.val (.int p1), .val (.int p2), .val (.int p3), .val (.int p4), .val (.int p5), .val (.int (0 : Int32)), .val (.int xa), .val (.int xb), .val (.int xc), .val (.int xd), .val (.ref b6), .unset] [])) _
      refine XS.iload X6.here hx rfl (hb hby at_51) rfl ?_
      show Steps p.tables e below (T6.setTop (mkF m 53 #[.val (.int p1), .val (.int p2), .val (.int p3), .val (.int p4), .val (.int p5), .val (.int (0 : Int32)), .val (.int xa), .val (.int xb), .val (.int xc), .val (.int xd), .val (.ref b6), .unset] [(.int (0 : Int32))])) _
      refine XS.iconst X6.here hx rfl (hb hby at_53) ?_
      show Steps p.tables e below (T6.setTop (mkF m 54 #[.val (.int p1), .val (.int p2), .val (.int p3), .val (.int p4), .val (.int p5), .val (.int (0 : Int32)), .val (.int xa), .val (.int xb), .val (.int xc), .val (.int xd), .val (.ref b6), .unset] [(.int (2 : Int32)), (.int (0 : Int32))])) _
      refine XS.icmpYes X6.here hx rfl (pc0 := 54) (pc' := 63) rfl (hb hby at_54) rfl (tlt (by decide : (0 : Int32) < (2 : Int32))).1 (by decide) (by decide) ?_
      show Steps p.tables e below (T6.setTop (mkF m 63 #[.val (.int p1), .val (.int p2), .val (.int p3), .val (.int p4), .val (.int p5), .val (.int (0 : Int32)), .val (.int xa), .val (.int xb), .val (.int xc), .val (.int xd), .val (.ref b6), .unset] [])) _
      refine XS.iload X6.here hx rfl (hb hby at_63) rfl ?_
      show Steps p.tables e below (T6.setTop (mkF m 65 #[.val (.int p1), .val (.int p2), .val (.int p3), .val (.int p4), .val (.int p5), .val (.int (0 : Int32)), .val (.int xa), .val (.int xb), .val (.int xc), .val (.int xd), .val (.ref b6), .unset] [(.int (0 : Int32))])) _
      refine XS.iconst X6.here hx rfl (hb hby at_65) ?_
      show Steps p.tables e below (T6.setTop (mkF m 66 #[.val (.int p1), .val (.int p2), .val (.int p3), .val (.int p4), .val (.int p5), .val (.int (0 : Int32)), .val (.int xa), .val (.int xb), .val (.int xc), .val (.int xd), .val (.ref b6), .unset] [(.int (3 : Int32)), (.int (0 : Int32))])) _
      refine XS.icmpYes X6.here hx rfl (pc0 := 66) (pc' := 75) rfl (hb hby at_66) rfl (tlt (by decide : (0 : Int32) < (3 : Int32))).1 (by decide) (by decide) ?_
      show Steps p.tables e below (T6.setTop (mkF m 75 #[.val (.int p1), .val (.int p2), .val (.int p3), .val (.int p4), .val (.int p5), .val (.int (0 : Int32)), .val (.int xa), .val (.int xb), .val (.int xc), .val (.int xd), .val (.ref b6), .unset] [])) _
      refine XS.iload X6.here hx rfl (hb hby at_75) rfl ?_
      show Steps p.tables e below (T6.setTop (mkF m 77 #[.val (.int p1), .val (.int p2), .val (.int p3), .val (.int p4), .val (.int p5), .val (.int (0 : Int32)), .val (.int xa), .val (.int xb), .val (.int xc), .val (.int xd), .val (.ref b6), .unset] [(.int (0 : Int32))])) _
      refine XS.iconst X6.here hx rfl (hb hby at_77) ?_
      show Steps p.tables e below (T6.setTop (mkF m 78 #[.val (.int p1), .val (.int p2), .val (.int p3), .val (.int p4), .val (.int p5), .val (.int (0 : Int32)), .val (.int xa), .val (.int xb), .val (.int xc), .val (.int xd), .val (.ref b6), .unset] [(.int (4 : Int32)), (.int (0 : Int32))])) _
      refine XS.icmpYes X6.here hx rfl (pc0 := 78) (pc' := 87) rfl (hb hby at_78) rfl (tlt (by decide : (0 : Int32) < (4 : Int32))).1 (by decide) (by decide) ?_
      show Steps p.tables e below (T6.setTop (mkF m 87 #[.val (.int p1), .val (.int p2), .val (.int p3), .val (.int p4), .val (.int p5), .val (.int (0 : Int32)), .val (.int xa), .val (.int xb), .val (.int xc), .val (.int xd), .val (.ref b6), .unset] [])) _
      refine XS.aload X6.here hx rfl (hb hby at_87) rfl rfl ?_
      exact k)
    obtain ⟨_, _, ⟨T9, L9, k9, n9⟩, -, X9, ⟨Lc9, hQ9, l9, y9, z9⟩, st9⟩ := Jvm.LawKit.callS X6 hx (y := (⟨"com/example/inlet/inlet/compiler/ArrayValue", "fits", "([I)Z"⟩ : MethodName)) hown (mvT hZ (hw _ (List.mem_of_getElem? (i := 2) rfl))) (mvT hZ (hw _ (List.mem_of_getElem? (i := 3) rfl))) (mvT hZ (hw _ (List.mem_of_getElem? (i := 4) rfl))) (mvT hZ (hw _ (List.mem_of_getElem? (i := 5) rfl))) (by decide) (backOf (W := 0) (rm_fits0 l Z a0 hw [] b6 k6  h6 n0 (Nat.le_trans Z0 E6.1) V6) hZ (hw _ (List.mem_of_getElem? (i := 5) rfl)) (hw _ (List.mem_of_getElem? (i := 4) rfl)) (by decide) (by decide)) (g := (mkF m 89 #[.val (.int p1), .val (.int p2), .val (.int p3), .val (.int p4), .val (.int p5), .val (.int (0 : Int32)), .val (.int xa), .val (.int xb), .val (.int xc), .val (.int xd), .val (.ref b6), .unset] [(.ref b6)])) rfl (by rw [hml]; rfl) (argsL := [(.ref b6)]) (rest := []) (lenOf pd_1 rfl) rfl (by show 2 * 0 + _ ≤ _; exact Nat.le_of_eq rfl) (hb hby at_89) (fun _ _ => ⟨rfl, e6, (by decide : 1 + 0 ≤ _), (by decide : 0 + 0 ≤ _)⟩)
    dsimp only [Pt.U, Pt.locs, Pt.cells, Pt.slots] at X9 l9 y9 z9 st9 hQ9
    subst l9 y9 z9
    obtain ⟨rfl, N9q, e9⟩ := hQ9
    have N9 := Fr.app N0 N9q
    have go10 : ∀ t, Steps p.tables e below (T9.setTop (mkF m 92 #[.val (.int p1), .val (.int p2), .val (.int p3), .val (.int p4), .val (.int p5), .val (.int (0 : Int32)), .val (.int xa), .val (.int xb), .val (.int xc), .val (.int xd), .val (.ref b6), .unset] [(.int own_fits0)])) t → Steps p.tables e below (s₁.setTop (entryFrame m #[(.int p1), (.int p2), (.int p3), (.int p4), (.int p5)] maxLocals)) t := fun t k => go8 t (st9 t k)
    have go11 : ∀ t, Steps p.tables e below (T9.setTop (mkF m 106 #[.val (.int p1), .val (.int p2), .val (.int p3), .val (.int p4), .val (.int p5), .val (.int (0 : Int32)), .val (.int xa), .val (.int xb), .val (.int xc), .val (.int xd), .val (.ref b6), .val (.int own_fits0)] [(.int xd), (.int xc), (.int xb), (.int xa), (.int (0 : Int32)), (.int own_fits0)])) t → Steps p.tables e below (s₁.setTop (entryFrame m #[(.int p1), (.int p2), (.int p3), (.int p4), (.int p5)] maxLocals)) t := fun t k => go10 t (by
      show Steps p.tables e below (T9.setTop (mkF m 92 #[.val (.int p1), .val (.int p2), .val (.int p3), .val (.int p4), .val (.int p5), .val (.int (0 : Int32)), .val (.int xa), .val (.int xb), .val (.int xc), .val (.int xd), .val (.ref b6), .unset] [(.int own_fits0)])) _
      refine XS.istore X9.here hx rfl (hb hby at_92) rfl (l' := #[.val (.int p1), .val (.int p2), .val (.int p3), .val (.int p4), .val (.int p5), .val (.int (0 : Int32)), .val (.int xa), .val (.int xb), .val (.int xc), .val (.int xd), .val (.ref b6), .val (.int own_fits0)]) rfl ?_
      show Steps p.tables e below (T9.setTop (mkF m 94 #[.val (.int p1), .val (.int p2), .val (.int p3), .val (.int p4), .val (.int p5), .val (.int (0 : Int32)), .val (.int xa), .val (.int xb), .val (.int xc), .val (.int xd), .val (.ref b6), .val (.int own_fits0)] [])) _
      refine XS.iload X9.here hx rfl (hb hby at_94) rfl ?_
      show Steps p.tables e below (T9.setTop (mkF m 96 #[.val (.int p1), .val (.int p2), .val (.int p3), .val (.int p4), .val (.int p5), .val (.int (0 : Int32)), .val (.int xa), .val (.int xb), .val (.int xc), .val (.int xd), .val (.ref b6), .val (.int own_fits0)] [(.int own_fits0)])) _
      refine XS.iload X9.here hx rfl (hb hby at_96) rfl ?_
      show Steps p.tables e below (T9.setTop (mkF m 98 #[.val (.int p1), .val (.int p2), .val (.int p3), .val (.int p4), .val (.int p5), .val (.int (0 : Int32)), .val (.int xa), .val (.int xb), .val (.int xc), .val (.int xd), .val (.ref b6), .val (.int own_fits0)] [(.int (0 : Int32)), (.int own_fits0)])) _
      refine XS.iload X9.here hx rfl (hb hby at_98) rfl ?_
      show Steps p.tables e below (T9.setTop (mkF m 100 #[.val (.int p1), .val (.int p2), .val (.int p3), .val (.int p4), .val (.int p5), .val (.int (0 : Int32)), .val (.int xa), .val (.int xb), .val (.int xc), .val (.int xd), .val (.ref b6), .val (.int own_fits0)] [(.int xa), (.int (0 : Int32)), (.int own_fits0)])) _
      refine XS.iload X9.here hx rfl (hb hby at_100) rfl ?_
      show Steps p.tables e below (T9.setTop (mkF m 102 #[.val (.int p1), .val (.int p2), .val (.int p3), .val (.int p4), .val (.int p5), .val (.int (0 : Int32)), .val (.int xa), .val (.int xb), .val (.int xc), .val (.int xd), .val (.ref b6), .val (.int own_fits0)] [(.int xb), (.int xa), (.int (0 : Int32)), (.int own_fits0)])) _
      refine XS.iload X9.here hx rfl (hb hby at_102) rfl ?_
      show Steps p.tables e below (T9.setTop (mkF m 104 #[.val (.int p1), .val (.int p2), .val (.int p3), .val (.int p4), .val (.int p5), .val (.int (0 : Int32)), .val (.int xa), .val (.int xb), .val (.int xc), .val (.int xd), .val (.ref b6), .val (.int own_fits0)] [(.int xc), (.int xb), (.int xa), (.int (0 : Int32)), (.int own_fits0)])) _
      refine XS.iload X9.here hx rfl (hb hby at_104) rfl ?_
      exact k)
    obtain ⟨_, _, ⟨T12, L12, k12, n12⟩, -, X12, ⟨Lc12, hQ12, l12, y12, z12⟩, st12⟩ := Jvm.LawKit.callS X9 hx (y := (⟨"com/example/inlet/inlet/compiler/ArrayValueFitsPinLaw", "expected", "(IIIII)Z"⟩ : MethodName)) hown (mvT hZ (hw _ (List.mem_of_getElem? (i := 7) rfl))) (mvT hZ (hw _ (List.mem_of_getElem? (i := 8) rfl))) (mvT hZ (hw _ (List.mem_of_getElem? (i := 9) rfl))) (mvT hZ (hw _ (List.mem_of_getElem? (i := 10) rfl))) (by decide) (backOf (W := 1) (rm_exp0 l Z a0 hw [] xa xb xc xd h6 n0 (Nat.le_trans Z0 E6.1) ) hZ (hw _ (List.mem_of_getElem? (i := 10) rfl)) (hw _ (List.mem_of_getElem? (i := 9) rfl)) (by decide) (by decide)) (g := (mkF m 106 #[.val (.int p1), .val (.int p2), .val (.int p3), .val (.int p4), .val (.int p5), .val (.int (0 : Int32)), .val (.int xa), .val (.int xb), .val (.int xc), .val (.int xd), .val (.ref b6), .val (.int own_fits0)] [(.int xd), (.int xc), (.int xb), (.int xa), (.int (0 : Int32)), (.int own_fits0)])) rfl (by rw [hml]; rfl) (argsL := [(.int (0 : Int32)), (.int xa), (.int xb), (.int xc), (.int xd)]) (rest := [(.int own_fits0)]) (lenOf pd_2 rfl) rfl (by show 2 * 0 + _ ≤ _; exact Nat.le_of_eq rfl) (hb hby at_106) (fun _ _ => ⟨rfl, e9, (by decide : 1 + 0 ≤ _), (by decide : 0 + 0 ≤ _)⟩)
    dsimp only [Pt.U, Pt.locs, Pt.cells, Pt.slots] at X12 l12 y12 z12 st12 hQ12
    subst l12 y12 z12
    obtain ⟨rfl, N12q, e12⟩ := hQ12
    have N12 := Fr.app N9 N12q
    have go13 : ∀ t, Steps p.tables e below (T12.setTop (mkF m 109 #[.val (.int p1), .val (.int p2), .val (.int p3), .val (.int p4), .val (.int p5), .val (.int (0 : Int32)), .val (.int xa), .val (.int xb), .val (.int xc), .val (.int xd), .val (.ref b6), .val (.int own_fits0)] [(.int (own_exp0 xa xb xc xd)), (.int own_fits0)])) t → Steps p.tables e below (s₁.setTop (entryFrame m #[(.int p1), (.int p2), (.int p3), (.int p4), (.int p5)] maxLocals)) t := fun t k => go11 t (st12 t k)
    have go14 : ∀ t, Steps p.tables e below (T12.setTop (mkF m 117 #[.val (.int p1), .val (.int p2), .val (.int p3), .val (.int p4), .val (.int p5), .val (.int (0 : Int32)), .val (.int xa), .val (.int xb), .val (.int xc), .val (.int xd), .val (.ref b6), .val (.int own_fits0)] [(.int (1 : Int32))])) t → Steps p.tables e below (s₁.setTop (entryFrame m #[(.int p1), (.int p2), (.int p3), (.int p4), (.int p5)] maxLocals)) t := fun t k => go13 t (by
      show Steps p.tables e below (T12.setTop (mkF m 109 #[.val (.int p1), .val (.int p2), .val (.int p3), .val (.int p4), .val (.int p5), .val (.int (0 : Int32)), .val (.int xa), .val (.int xb), .val (.int xc), .val (.int xd), .val (.ref b6), .val (.int own_fits0)] [(.int (own_exp0 xa xb xc xd)), (.int own_fits0)])) _
      refine XS.icmpNo X12.here hx rfl (hb hby at_109) rfl (teq (own_agree0 xa xb xc xd )).2 ?_
      show Steps p.tables e below (T12.setTop (mkF m 112 #[.val (.int p1), .val (.int p2), .val (.int p3), .val (.int p4), .val (.int p5), .val (.int (0 : Int32)), .val (.int xa), .val (.int xb), .val (.int xc), .val (.int xd), .val (.ref b6), .val (.int own_fits0)] [])) _
      refine XS.iconst X12.here hx rfl (hb hby at_112) ?_
      show Steps p.tables e below (T12.setTop (mkF m 113 #[.val (.int p1), .val (.int p2), .val (.int p3), .val (.int p4), .val (.int p5), .val (.int (0 : Int32)), .val (.int xa), .val (.int xb), .val (.int xc), .val (.int xd), .val (.ref b6), .val (.int own_fits0)] [(.int (1 : Int32))])) _
      refine XS.goto X12.here hx rfl (pc0 := 113) (pc' := 117) rfl (hb hby at_113) (by decide) (by decide) ?_
      exact k)
    obtain ⟨fs, hr, hrun, hended, hW, hsame⟩ := X12.leave (v := some (.int (1 : Int32))) (fun h => by rw [Bd.returns] at h; cases h)
    refine ⟨_, _, go14 _ ?_, hrun, hended, _, _, rfl, ?_, ⟨_, rfl⟩, hW, hsame.mono (by decide) (by decide)⟩
    · exact retN X12 hx (t := .boolean) Bd.returns (by simp) (hb hby at_117) hr
    · show QL n0 _ T12.heap _
      rw [e12]
      exact ⟨rfl, N12⟩
  · rw [hn] at go4
    have go15 : ∀ t, Steps p.tables e below (s₁.setTop (mkF m 35 #[.val (.int p1), .val (.int p2), .val (.int p3), .val (.int p4), .val (.int p5), .val (.int (1 : Int32)), .val (.int xa), .val (.int xb), .val (.int xc), .val (.int xd), .unset, .unset] [(.int (1 : Int32))])) t → Steps p.tables e below (s₁.setTop (entryFrame m #[(.int p1), (.int p2), (.int p3), (.int p4), (.int p5)] maxLocals)) t := fun t k => go4 t (by
      show Steps p.tables e below (s₁.setTop (mkF m 33 #[.val (.int p1), .val (.int p2), .val (.int p3), .val (.int p4), .val (.int p5), .val (.int (1 : Int32)), .val (.int xa), .val (.int xb), .val (.int xc), .val (.int xd), .unset, .unset] [])) _
      refine XS.iload X0.here hx rfl (hb hby at_33) rfl ?_
      exact k)
    obtain ⟨T16, h16, k16, X16, e16, E16, A16, st16⟩ := newP X0 hx hZ (hw _ (List.mem_of_getElem? (i := 1) rfl)) e0 (g := (mkF m 35 #[.val (.int p1), .val (.int p2), .val (.int p3), .val (.int p4), .val (.int p5), .val (.int (1 : Int32)), .val (.int xa), .val (.int xb), .val (.int xc), .val (.int xd), .unset, .unset] [(.int (1 : Int32))])) rfl (hb hby at_35) rfl (by decide) (cap := 1) (by decide) (by decide) (by decide) (by decide)
    obtain ⟨b16, g16⟩ : ∃ z, z = h0.size := ⟨_, rfl⟩
    rw [← g16] at A16 st16
    have g_b16 : n0 ≤ b16 := Nat.le_trans Z0 (Nat.le_of_eq g16.symm)
    have V16 : Arv Z h16 b16 k16 .int (1 : Int32) [(.int (0 : Int32))] (.int (0 : Int32)) := (Arv.new A16 (by decide)).pad (pad_rep [] (.int (0 : Int32)) 1)
    have go17 : ∀ t, Steps p.tables e below (T16.setTop (mkF m 37 #[.val (.int p1), .val (.int p2), .val (.int p3), .val (.int p4), .val (.int p5), .val (.int (1 : Int32)), .val (.int xa), .val (.int xb), .val (.int xc), .val (.int xd), .unset, .unset] [(.ref b16)])) t → Steps p.tables e below (s₁.setTop (entryFrame m #[(.int p1), (.int p2), (.int p3), (.int p4), (.int p5)] maxLocals)) t := fun t k => go15 t (st16 t k)
    have go18 : ∀ t, Steps p.tables e below (T16.setTop (mkF m 50 #[.val (.int p1), .val (.int p2), .val (.int p3), .val (.int p4), .val (.int p5), .val (.int (1 : Int32)), .val (.int xa), .val (.int xb), .val (.int xc), .val (.int xd), .val (.ref b16), .unset] [(.int xa), (.int (0 : Int32)), (.ref b16)])) t → Steps p.tables e below (s₁.setTop (entryFrame m #[(.int p1), (.int p2), (.int p3), (.int p4), (.int p5)] maxLocals)) t := fun t k => go17 t (by
      show Steps p.tables e below (T16.setTop (mkF m 37 #[.val (.int p1), .val (.int p2), .val (.int p3), .val (.int p4), .val (.int p5), .val (.int (1 : Int32)), .val (.int xa), .val (.int xb), .val (.int xc), .val (.int xd), .unset, .unset] [(.ref b16)])) _
      refine XS.astore X16.here hx rfl (hb hby at_37) rfl rfl (l' := #[.val (.int p1), .val (.int p2), .val (.int p3), .val (.int p4), .val (.int p5), .val (.int (1 : Int32)), .val (.int xa), .val (.int xb), .val (.int xc), .val (.int xd), .val (.ref b16), .unset]) rfl ?_
      show Steps p.tables e below (T16.setTop (mkF m 39 #[.val (.int p1), .val (.int p2), .val (.int p3), .val (.int p4), .val (.int p5), .val (.int (1 : Int32)), .val (.int xa), .val (.int xb), .val (.int xc), .val (.int xd), .val (.ref b16), .unset] [])) _
      refine XS.iload X16.here hx rfl (hb hby at_39) rfl ?_
      show Steps p.tables e below (T16.setTop (mkF m 41 #[.val (.int p1), .val (.int p2), .val (.int p3), .val (.int p4), .val (.int p5), .val (.int (1 : Int32)), .val (.int xa), .val (.int xb), .val (.int xc), .val (.int xd), .val (.ref b16), .unset] [(.int (1 : Int32))])) _
      refine XS.iconst X16.here hx rfl (hb hby at_41) ?_
      show Steps p.tables e below (T16.setTop (mkF m 42 #[.val (.int p1), .val (.int p2), .val (.int p3), .val (.int p4), .val (.int p5), .val (.int (1 : Int32)), .val (.int xa), .val (.int xb), .val (.int xc), .val (.int xd), .val (.ref b16), .unset] [(.int (1 : Int32)), (.int (1 : Int32))])) _
      refine XS.icmpNo X16.here hx rfl (hb hby at_42) rfl (flt (by decide : ¬ ((1 : Int32) < (1 : Int32)))).1 ?_
      show Steps p.tables e below (T16.setTop (mkF m 45 #[.val (.int p1), .val (.int p2), .val (.int p3), .val (.int p4), .val (.int p5), .val (.int (1 : Int32)), .val (.int xa), .val (.int xb), .val (.int xc), .val (.int xd), .val (.ref b16), .unset] [])) _
      refine XS.aload X16.here hx rfl (hb hby at_45) rfl rfl ?_
      show Steps p.tables e below (T16.setTop (mkF m 47 #[.val (.int p1), .val (.int p2), .val (.int p3), .val (.int p4), .val (.int p5), .val (.int (1 : Int32)), .val (.int xa), .val (.int xb), .val (.int xc), .val (.int xd), .val (.ref b16), .unset] [(.ref b16)])) _
      refine XS.iconst X16.here hx rfl (hb hby at_47) ?_
      show Steps p.tables e below (T16.setTop (mkF m 48 #[.val (.int p1), .val (.int p2), .val (.int p3), .val (.int p4), .val (.int p5), .val (.int (1 : Int32)), .val (.int xa), .val (.int xb), .val (.int xc), .val (.int xd), .val (.ref b16), .unset] [(.int (0 : Int32)), (.ref b16)])) _
      refine XS.iload X16.here hx rfl (hb hby at_48) rfl ?_
      exact k)
    obtain ⟨cl19, Ar19, q19, S19, M19, H19, G19⟩ := id V16
    obtain ⟨T19, h19, X19, e19, W19, st19⟩ := stI X16 hx hZ e16 Ar19 (j := (0 : Int32)) (inb_of S19 ⟨by decide, by decide⟩) (g := (mkF m 50 #[.val (.int p1), .val (.int p2), .val (.int p3), .val (.int p4), .val (.int p5), .val (.int (1 : Int32)), .val (.int xa), .val (.int xb), .val (.int xc), .val (.int xd), .val (.ref b16), .unset] [(.int xa), (.int (0 : Int32)), (.ref b16)])) rfl rfl (hb hby at_50)
    have V19 : Arv Z h19 b16 k16 .int (1 : Int32) [(.int xa)] (.int (0 : Int32)) := Arv.set Ar19 q19 S19 M19 H19 G19 rfl W19 0 rfl (Nat.le_of_ble_eq_true rfl)
    have N19 := Fr.snoc X19 N0 g_b16
    have go20 : ∀ t, Steps p.tables e below (T19.setTop (mkF m 51 #[.val (.int p1), .val (.int p2), .val (.int p3), .val (.int p4), .val (.int p5), .val (.int (1 : Int32)), .val (.int xa), .val (.int xb), .val (.int xc), .val (.int xd), .val (.ref b16), .unset] [])) t → Steps p.tables e below (s₁.setTop (entryFrame m #[(.int p1), (.int p2), (.int p3), (.int p4), (.int p5)] maxLocals)) t := fun t k => go18 t (st19 t k)
    have go21 : ∀ t, Steps p.tables e below (T19.setTop (mkF m 89 #[.val (.int p1), .val (.int p2), .val (.int p3), .val (.int p4), .val (.int p5), .val (.int (1 : Int32)), .val (.int xa), .val (.int xb), .val (.int xc), .val (.int xd), .val (.ref b16), .unset] [(.ref b16)])) t → Steps p.tables e below (s₁.setTop (entryFrame m #[(.int p1), (.int p2), (.int p3), (.int p4), (.int p5)] maxLocals)) t := fun t k => go20 t (by
      show Steps p.tables e below (T19.setTop (mkF m 51 #[.val (.int p1), .val (.int p2), .val (.int p3), .val (.int p4), .val (.int p5), .val (.int (1 : Int32)), .val (.int xa), .val (.int xb), .val (.int xc), .val (.int xd), .val (.ref b16), .unset] [])) _
      refine XS.iload X19.here hx rfl (hb hby at_51) rfl ?_
      show Steps p.tables e below (T19.setTop (mkF m 53 #[.val (.int p1), .val (.int p2), .val (.int p3), .val (.int p4), .val (.int p5), .val (.int (1 : Int32)), .val (.int xa), .val (.int xb), .val (.int xc), .val (.int xd), .val (.ref b16), .unset] [(.int (1 : Int32))])) _
      refine XS.iconst X19.here hx rfl (hb hby at_53) ?_
      show Steps p.tables e below (T19.setTop (mkF m 54 #[.val (.int p1), .val (.int p2), .val (.int p3), .val (.int p4), .val (.int p5), .val (.int (1 : Int32)), .val (.int xa), .val (.int xb), .val (.int xc), .val (.int xd), .val (.ref b16), .unset] [(.int (2 : Int32)), (.int (1 : Int32))])) _
      refine XS.icmpYes X19.here hx rfl (pc0 := 54) (pc' := 63) rfl (hb hby at_54) rfl (tlt (by decide : (1 : Int32) < (2 : Int32))).1 (by decide) (by decide) ?_
      show Steps p.tables e below (T19.setTop (mkF m 63 #[.val (.int p1), .val (.int p2), .val (.int p3), .val (.int p4), .val (.int p5), .val (.int (1 : Int32)), .val (.int xa), .val (.int xb), .val (.int xc), .val (.int xd), .val (.ref b16), .unset] [])) _
      refine XS.iload X19.here hx rfl (hb hby at_63) rfl ?_
      show Steps p.tables e below (T19.setTop (mkF m 65 #[.val (.int p1), .val (.int p2), .val (.int p3), .val (.int p4), .val (.int p5), .val (.int (1 : Int32)), .val (.int xa), .val (.int xb), .val (.int xc), .val (.int xd), .val (.ref b16), .unset] [(.int (1 : Int32))])) _
      refine XS.iconst X19.here hx rfl (hb hby at_65) ?_
      show Steps p.tables e below (T19.setTop (mkF m 66 #[.val (.int p1), .val (.int p2), .val (.int p3), .val (.int p4), .val (.int p5), .val (.int (1 : Int32)), .val (.int xa), .val (.int xb), .val (.int xc), .val (.int xd), .val (.ref b16), .unset] [(.int (3 : Int32)), (.int (1 : Int32))])) _
      refine XS.icmpYes X19.here hx rfl (pc0 := 66) (pc' := 75) rfl (hb hby at_66) rfl (tlt (by decide : (1 : Int32) < (3 : Int32))).1 (by decide) (by decide) ?_
      show Steps p.tables e below (T19.setTop (mkF m 75 #[.val (.int p1), .val (.int p2), .val (.int p3), .val (.int p4), .val (.int p5), .val (.int (1 : Int32)), .val (.int xa), .val (.int xb), .val (.int xc), .val (.int xd), .val (.ref b16), .unset] [])) _
      refine XS.iload X19.here hx rfl (hb hby at_75) rfl ?_
      show Steps p.tables e below (T19.setTop (mkF m 77 #[.val (.int p1), .val (.int p2), .val (.int p3), .val (.int p4), .val (.int p5), .val (.int (1 : Int32)), .val (.int xa), .val (.int xb), .val (.int xc), .val (.int xd), .val (.ref b16), .unset] [(.int (1 : Int32))])) _
      refine XS.iconst X19.here hx rfl (hb hby at_77) ?_
      show Steps p.tables e below (T19.setTop (mkF m 78 #[.val (.int p1), .val (.int p2), .val (.int p3), .val (.int p4), .val (.int p5), .val (.int (1 : Int32)), .val (.int xa), .val (.int xb), .val (.int xc), .val (.int xd), .val (.ref b16), .unset] [(.int (4 : Int32)), (.int (1 : Int32))])) _
      refine XS.icmpYes X19.here hx rfl (pc0 := 78) (pc' := 87) rfl (hb hby at_78) rfl (tlt (by decide : (1 : Int32) < (4 : Int32))).1 (by decide) (by decide) ?_
      show Steps p.tables e below (T19.setTop (mkF m 87 #[.val (.int p1), .val (.int p2), .val (.int p3), .val (.int p4), .val (.int p5), .val (.int (1 : Int32)), .val (.int xa), .val (.int xb), .val (.int xc), .val (.int xd), .val (.ref b16), .unset] [])) _
      refine XS.aload X19.here hx rfl (hb hby at_87) rfl rfl ?_
      exact k)
    obtain ⟨_, _, ⟨T22, L22, k22, n22⟩, -, X22, ⟨Lc22, hQ22, l22, y22, z22⟩, st22⟩ := Jvm.LawKit.callS X19 hx (y := (⟨"com/example/inlet/inlet/compiler/ArrayValue", "fits", "([I)Z"⟩ : MethodName)) hown (mvT hZ (hw _ (List.mem_of_getElem? (i := 2) rfl))) (mvT hZ (hw _ (List.mem_of_getElem? (i := 3) rfl))) (mvT hZ (hw _ (List.mem_of_getElem? (i := 4) rfl))) (mvT hZ (hw _ (List.mem_of_getElem? (i := 5) rfl))) (by decide) (backOf (W := 0) (rm_fits1 l Z a0 hw [] b16 k16 xa h19 n0 (Nat.le_trans (Nat.le_trans Z0 E16.1) (Keep.of_wr W19).1) V19) hZ (hw _ (List.mem_of_getElem? (i := 5) rfl)) (hw _ (List.mem_of_getElem? (i := 4) rfl)) (by decide) (by decide)) (g := (mkF m 89 #[.val (.int p1), .val (.int p2), .val (.int p3), .val (.int p4), .val (.int p5), .val (.int (1 : Int32)), .val (.int xa), .val (.int xb), .val (.int xc), .val (.int xd), .val (.ref b16), .unset] [(.ref b16)])) rfl (by rw [hml]; rfl) (argsL := [(.ref b16)]) (rest := []) (lenOf pd_1 rfl) rfl (by show 2 * 0 + _ ≤ _; exact Nat.le_of_eq rfl) (hb hby at_89) (fun _ _ => ⟨rfl, e19, (by decide : 1 + 0 ≤ _), (by decide : 1 + 0 ≤ _)⟩)
    dsimp only [Pt.U, Pt.locs, Pt.cells, Pt.slots] at X22 l22 y22 z22 st22 hQ22
    subst l22 y22 z22
    obtain ⟨rfl, N22q, e22⟩ := hQ22
    have N22 := Fr.app N19 N22q
    have go23 : ∀ t, Steps p.tables e below (T22.setTop (mkF m 92 #[.val (.int p1), .val (.int p2), .val (.int p3), .val (.int p4), .val (.int p5), .val (.int (1 : Int32)), .val (.int xa), .val (.int xb), .val (.int xc), .val (.int xd), .val (.ref b16), .unset] [(.int (own_fits1 xa))])) t → Steps p.tables e below (s₁.setTop (entryFrame m #[(.int p1), (.int p2), (.int p3), (.int p4), (.int p5)] maxLocals)) t := fun t k => go21 t (st22 t k)
    have go24 : ∀ t, Steps p.tables e below (T22.setTop (mkF m 106 #[.val (.int p1), .val (.int p2), .val (.int p3), .val (.int p4), .val (.int p5), .val (.int (1 : Int32)), .val (.int xa), .val (.int xb), .val (.int xc), .val (.int xd), .val (.ref b16), .val (.int (own_fits1 xa))] [(.int xd), (.int xc), (.int xb), (.int xa), (.int (1 : Int32)), (.int (own_fits1 xa))])) t → Steps p.tables e below (s₁.setTop (entryFrame m #[(.int p1), (.int p2), (.int p3), (.int p4), (.int p5)] maxLocals)) t := fun t k => go23 t (by
      show Steps p.tables e below (T22.setTop (mkF m 92 #[.val (.int p1), .val (.int p2), .val (.int p3), .val (.int p4), .val (.int p5), .val (.int (1 : Int32)), .val (.int xa), .val (.int xb), .val (.int xc), .val (.int xd), .val (.ref b16), .unset] [(.int (own_fits1 xa))])) _
      refine XS.istore X22.here hx rfl (hb hby at_92) rfl (l' := #[.val (.int p1), .val (.int p2), .val (.int p3), .val (.int p4), .val (.int p5), .val (.int (1 : Int32)), .val (.int xa), .val (.int xb), .val (.int xc), .val (.int xd), .val (.ref b16), .val (.int (own_fits1 xa))]) rfl ?_
      show Steps p.tables e below (T22.setTop (mkF m 94 #[.val (.int p1), .val (.int p2), .val (.int p3), .val (.int p4), .val (.int p5), .val (.int (1 : Int32)), .val (.int xa), .val (.int xb), .val (.int xc), .val (.int xd), .val (.ref b16), .val (.int (own_fits1 xa))] [])) _
      refine XS.iload X22.here hx rfl (hb hby at_94) rfl ?_
      show Steps p.tables e below (T22.setTop (mkF m 96 #[.val (.int p1), .val (.int p2), .val (.int p3), .val (.int p4), .val (.int p5), .val (.int (1 : Int32)), .val (.int xa), .val (.int xb), .val (.int xc), .val (.int xd), .val (.ref b16), .val (.int (own_fits1 xa))] [(.int (own_fits1 xa))])) _
      refine XS.iload X22.here hx rfl (hb hby at_96) rfl ?_
      show Steps p.tables e below (T22.setTop (mkF m 98 #[.val (.int p1), .val (.int p2), .val (.int p3), .val (.int p4), .val (.int p5), .val (.int (1 : Int32)), .val (.int xa), .val (.int xb), .val (.int xc), .val (.int xd), .val (.ref b16), .val (.int (own_fits1 xa))] [(.int (1 : Int32)), (.int (own_fits1 xa))])) _
      refine XS.iload X22.here hx rfl (hb hby at_98) rfl ?_
      show Steps p.tables e below (T22.setTop (mkF m 100 #[.val (.int p1), .val (.int p2), .val (.int p3), .val (.int p4), .val (.int p5), .val (.int (1 : Int32)), .val (.int xa), .val (.int xb), .val (.int xc), .val (.int xd), .val (.ref b16), .val (.int (own_fits1 xa))] [(.int xa), (.int (1 : Int32)), (.int (own_fits1 xa))])) _
      refine XS.iload X22.here hx rfl (hb hby at_100) rfl ?_
      show Steps p.tables e below (T22.setTop (mkF m 102 #[.val (.int p1), .val (.int p2), .val (.int p3), .val (.int p4), .val (.int p5), .val (.int (1 : Int32)), .val (.int xa), .val (.int xb), .val (.int xc), .val (.int xd), .val (.ref b16), .val (.int (own_fits1 xa))] [(.int xb), (.int xa), (.int (1 : Int32)), (.int (own_fits1 xa))])) _
      refine XS.iload X22.here hx rfl (hb hby at_102) rfl ?_
      show Steps p.tables e below (T22.setTop (mkF m 104 #[.val (.int p1), .val (.int p2), .val (.int p3), .val (.int p4), .val (.int p5), .val (.int (1 : Int32)), .val (.int xa), .val (.int xb), .val (.int xc), .val (.int xd), .val (.ref b16), .val (.int (own_fits1 xa))] [(.int xc), (.int xb), (.int xa), (.int (1 : Int32)), (.int (own_fits1 xa))])) _
      refine XS.iload X22.here hx rfl (hb hby at_104) rfl ?_
      exact k)
    obtain ⟨_, _, ⟨T25, L25, k25, n25⟩, -, X25, ⟨Lc25, hQ25, l25, y25, z25⟩, st25⟩ := Jvm.LawKit.callS X22 hx (y := (⟨"com/example/inlet/inlet/compiler/ArrayValueFitsPinLaw", "expected", "(IIIII)Z"⟩ : MethodName)) hown (mvT hZ (hw _ (List.mem_of_getElem? (i := 7) rfl))) (mvT hZ (hw _ (List.mem_of_getElem? (i := 8) rfl))) (mvT hZ (hw _ (List.mem_of_getElem? (i := 9) rfl))) (mvT hZ (hw _ (List.mem_of_getElem? (i := 10) rfl))) (by decide) (backOf (W := 1) (rm_exp1 l Z a0 hw [] xa xb xc xd h19 n0 (Nat.le_trans (Nat.le_trans Z0 E16.1) (Keep.of_wr W19).1) ) hZ (hw _ (List.mem_of_getElem? (i := 10) rfl)) (hw _ (List.mem_of_getElem? (i := 9) rfl)) (by decide) (by decide)) (g := (mkF m 106 #[.val (.int p1), .val (.int p2), .val (.int p3), .val (.int p4), .val (.int p5), .val (.int (1 : Int32)), .val (.int xa), .val (.int xb), .val (.int xc), .val (.int xd), .val (.ref b16), .val (.int (own_fits1 xa))] [(.int xd), (.int xc), (.int xb), (.int xa), (.int (1 : Int32)), (.int (own_fits1 xa))])) rfl (by rw [hml]; rfl) (argsL := [(.int (1 : Int32)), (.int xa), (.int xb), (.int xc), (.int xd)]) (rest := [(.int (own_fits1 xa))]) (lenOf pd_2 rfl) rfl (by show 2 * 0 + _ ≤ _; exact Nat.le_of_eq rfl) (hb hby at_106) (fun _ _ => ⟨rfl, e22, (by decide : 1 + 0 ≤ _), (by decide : 1 + 0 ≤ _)⟩)
    dsimp only [Pt.U, Pt.locs, Pt.cells, Pt.slots] at X25 l25 y25 z25 st25 hQ25
    subst l25 y25 z25
    obtain ⟨rfl, N25q, e25⟩ := hQ25
    have N25 := Fr.app N22 N25q
    have go26 : ∀ t, Steps p.tables e below (T25.setTop (mkF m 109 #[.val (.int p1), .val (.int p2), .val (.int p3), .val (.int p4), .val (.int p5), .val (.int (1 : Int32)), .val (.int xa), .val (.int xb), .val (.int xc), .val (.int xd), .val (.ref b16), .val (.int (own_fits1 xa))] [(.int (own_exp1 xa xb xc xd)), (.int (own_fits1 xa))])) t → Steps p.tables e below (s₁.setTop (entryFrame m #[(.int p1), (.int p2), (.int p3), (.int p4), (.int p5)] maxLocals)) t := fun t k => go24 t (st25 t k)
    have go27 : ∀ t, Steps p.tables e below (T25.setTop (mkF m 117 #[.val (.int p1), .val (.int p2), .val (.int p3), .val (.int p4), .val (.int p5), .val (.int (1 : Int32)), .val (.int xa), .val (.int xb), .val (.int xc), .val (.int xd), .val (.ref b16), .val (.int (own_fits1 xa))] [(.int (1 : Int32))])) t → Steps p.tables e below (s₁.setTop (entryFrame m #[(.int p1), (.int p2), (.int p3), (.int p4), (.int p5)] maxLocals)) t := fun t k => go26 t (by
      show Steps p.tables e below (T25.setTop (mkF m 109 #[.val (.int p1), .val (.int p2), .val (.int p3), .val (.int p4), .val (.int p5), .val (.int (1 : Int32)), .val (.int xa), .val (.int xb), .val (.int xc), .val (.int xd), .val (.ref b16), .val (.int (own_fits1 xa))] [(.int (own_exp1 xa xb xc xd)), (.int (own_fits1 xa))])) _
      refine XS.icmpNo X25.here hx rfl (hb hby at_109) rfl (teq (own_agree1 xa xb xc xd gxa)).2 ?_
      show Steps p.tables e below (T25.setTop (mkF m 112 #[.val (.int p1), .val (.int p2), .val (.int p3), .val (.int p4), .val (.int p5), .val (.int (1 : Int32)), .val (.int xa), .val (.int xb), .val (.int xc), .val (.int xd), .val (.ref b16), .val (.int (own_fits1 xa))] [])) _
      refine XS.iconst X25.here hx rfl (hb hby at_112) ?_
      show Steps p.tables e below (T25.setTop (mkF m 113 #[.val (.int p1), .val (.int p2), .val (.int p3), .val (.int p4), .val (.int p5), .val (.int (1 : Int32)), .val (.int xa), .val (.int xb), .val (.int xc), .val (.int xd), .val (.ref b16), .val (.int (own_fits1 xa))] [(.int (1 : Int32))])) _
      refine XS.goto X25.here hx rfl (pc0 := 113) (pc' := 117) rfl (hb hby at_113) (by decide) (by decide) ?_
      exact k)
    obtain ⟨fs, hr, hrun, hended, hW, hsame⟩ := X25.leave (v := some (.int (1 : Int32))) (fun h => by rw [Bd.returns] at h; cases h)
    refine ⟨_, _, go27 _ ?_, hrun, hended, _, _, rfl, ?_, ⟨_, rfl⟩, hW, hsame.mono (by decide) (by decide)⟩
    · exact retN X25 hx (t := .boolean) Bd.returns (by simp) (hb hby at_117) hr
    · show QL n0 _ T25.heap _
      rw [e25]
      exact ⟨rfl, N25⟩
  · rw [hn] at go4
    have go28 : ∀ t, Steps p.tables e below (s₁.setTop (mkF m 35 #[.val (.int p1), .val (.int p2), .val (.int p3), .val (.int p4), .val (.int p5), .val (.int (2 : Int32)), .val (.int xa), .val (.int xb), .val (.int xc), .val (.int xd), .unset, .unset] [(.int (2 : Int32))])) t → Steps p.tables e below (s₁.setTop (entryFrame m #[(.int p1), (.int p2), (.int p3), (.int p4), (.int p5)] maxLocals)) t := fun t k => go4 t (by
      show Steps p.tables e below (s₁.setTop (mkF m 33 #[.val (.int p1), .val (.int p2), .val (.int p3), .val (.int p4), .val (.int p5), .val (.int (2 : Int32)), .val (.int xa), .val (.int xb), .val (.int xc), .val (.int xd), .unset, .unset] [])) _
      refine XS.iload X0.here hx rfl (hb hby at_33) rfl ?_
      exact k)
    obtain ⟨T29, h29, k29, X29, e29, E29, A29, st29⟩ := newP X0 hx hZ (hw _ (List.mem_of_getElem? (i := 1) rfl)) e0 (g := (mkF m 35 #[.val (.int p1), .val (.int p2), .val (.int p3), .val (.int p4), .val (.int p5), .val (.int (2 : Int32)), .val (.int xa), .val (.int xb), .val (.int xc), .val (.int xd), .unset, .unset] [(.int (2 : Int32))])) rfl (hb hby at_35) rfl (by decide) (cap := 2) (by decide) (by decide) (by decide) (by decide)
    obtain ⟨b29, g29⟩ : ∃ z, z = h0.size := ⟨_, rfl⟩
    rw [← g29] at A29 st29
    have g_b29 : n0 ≤ b29 := Nat.le_trans Z0 (Nat.le_of_eq g29.symm)
    have V29 : Arv Z h29 b29 k29 .int (2 : Int32) [(.int (0 : Int32)), (.int (0 : Int32))] (.int (0 : Int32)) := (Arv.new A29 (by decide)).pad (pad_rep [] (.int (0 : Int32)) 2)
    have go30 : ∀ t, Steps p.tables e below (T29.setTop (mkF m 37 #[.val (.int p1), .val (.int p2), .val (.int p3), .val (.int p4), .val (.int p5), .val (.int (2 : Int32)), .val (.int xa), .val (.int xb), .val (.int xc), .val (.int xd), .unset, .unset] [(.ref b29)])) t → Steps p.tables e below (s₁.setTop (entryFrame m #[(.int p1), (.int p2), (.int p3), (.int p4), (.int p5)] maxLocals)) t := fun t k => go28 t (st29 t k)
    have go31 : ∀ t, Steps p.tables e below (T29.setTop (mkF m 50 #[.val (.int p1), .val (.int p2), .val (.int p3), .val (.int p4), .val (.int p5), .val (.int (2 : Int32)), .val (.int xa), .val (.int xb), .val (.int xc), .val (.int xd), .val (.ref b29), .unset] [(.int xa), (.int (0 : Int32)), (.ref b29)])) t → Steps p.tables e below (s₁.setTop (entryFrame m #[(.int p1), (.int p2), (.int p3), (.int p4), (.int p5)] maxLocals)) t := fun t k => go30 t (by
      show Steps p.tables e below (T29.setTop (mkF m 37 #[.val (.int p1), .val (.int p2), .val (.int p3), .val (.int p4), .val (.int p5), .val (.int (2 : Int32)), .val (.int xa), .val (.int xb), .val (.int xc), .val (.int xd), .unset, .unset] [(.ref b29)])) _
      refine XS.astore X29.here hx rfl (hb hby at_37) rfl rfl (l' := #[.val (.int p1), .val (.int p2), .val (.int p3), .val (.int p4), .val (.int p5), .val (.int (2 : Int32)), .val (.int xa), .val (.int xb), .val (.int xc), .val (.int xd), .val (.ref b29), .unset]) rfl ?_
      show Steps p.tables e below (T29.setTop (mkF m 39 #[.val (.int p1), .val (.int p2), .val (.int p3), .val (.int p4), .val (.int p5), .val (.int (2 : Int32)), .val (.int xa), .val (.int xb), .val (.int xc), .val (.int xd), .val (.ref b29), .unset] [])) _
      refine XS.iload X29.here hx rfl (hb hby at_39) rfl ?_
      show Steps p.tables e below (T29.setTop (mkF m 41 #[.val (.int p1), .val (.int p2), .val (.int p3), .val (.int p4), .val (.int p5), .val (.int (2 : Int32)), .val (.int xa), .val (.int xb), .val (.int xc), .val (.int xd), .val (.ref b29), .unset] [(.int (2 : Int32))])) _
      refine XS.iconst X29.here hx rfl (hb hby at_41) ?_
      show Steps p.tables e below (T29.setTop (mkF m 42 #[.val (.int p1), .val (.int p2), .val (.int p3), .val (.int p4), .val (.int p5), .val (.int (2 : Int32)), .val (.int xa), .val (.int xb), .val (.int xc), .val (.int xd), .val (.ref b29), .unset] [(.int (1 : Int32)), (.int (2 : Int32))])) _
      refine XS.icmpNo X29.here hx rfl (hb hby at_42) rfl (flt (by decide : ¬ ((2 : Int32) < (1 : Int32)))).1 ?_
      show Steps p.tables e below (T29.setTop (mkF m 45 #[.val (.int p1), .val (.int p2), .val (.int p3), .val (.int p4), .val (.int p5), .val (.int (2 : Int32)), .val (.int xa), .val (.int xb), .val (.int xc), .val (.int xd), .val (.ref b29), .unset] [])) _
      refine XS.aload X29.here hx rfl (hb hby at_45) rfl rfl ?_
      show Steps p.tables e below (T29.setTop (mkF m 47 #[.val (.int p1), .val (.int p2), .val (.int p3), .val (.int p4), .val (.int p5), .val (.int (2 : Int32)), .val (.int xa), .val (.int xb), .val (.int xc), .val (.int xd), .val (.ref b29), .unset] [(.ref b29)])) _
      refine XS.iconst X29.here hx rfl (hb hby at_47) ?_
      show Steps p.tables e below (T29.setTop (mkF m 48 #[.val (.int p1), .val (.int p2), .val (.int p3), .val (.int p4), .val (.int p5), .val (.int (2 : Int32)), .val (.int xa), .val (.int xb), .val (.int xc), .val (.int xd), .val (.ref b29), .unset] [(.int (0 : Int32)), (.ref b29)])) _
      refine XS.iload X29.here hx rfl (hb hby at_48) rfl ?_
      exact k)
    obtain ⟨cl32, Ar32, q32, S32, M32, H32, G32⟩ := id V29
    obtain ⟨T32, h32, X32, e32, W32, st32⟩ := stI X29 hx hZ e29 Ar32 (j := (0 : Int32)) (inb_of S32 ⟨by decide, by decide⟩) (g := (mkF m 50 #[.val (.int p1), .val (.int p2), .val (.int p3), .val (.int p4), .val (.int p5), .val (.int (2 : Int32)), .val (.int xa), .val (.int xb), .val (.int xc), .val (.int xd), .val (.ref b29), .unset] [(.int xa), (.int (0 : Int32)), (.ref b29)])) rfl rfl (hb hby at_50)
    have V32 : Arv Z h32 b29 k29 .int (2 : Int32) [(.int xa), (.int (0 : Int32))] (.int (0 : Int32)) := Arv.set Ar32 q32 S32 M32 H32 G32 rfl W32 0 rfl (Nat.le_of_ble_eq_true rfl)
    have N32 := Fr.snoc X32 N0 g_b29
    have go33 : ∀ t, Steps p.tables e below (T32.setTop (mkF m 51 #[.val (.int p1), .val (.int p2), .val (.int p3), .val (.int p4), .val (.int p5), .val (.int (2 : Int32)), .val (.int xa), .val (.int xb), .val (.int xc), .val (.int xd), .val (.ref b29), .unset] [])) t → Steps p.tables e below (s₁.setTop (entryFrame m #[(.int p1), (.int p2), (.int p3), (.int p4), (.int p5)] maxLocals)) t := fun t k => go31 t (st32 t k)
    have go34 : ∀ t, Steps p.tables e below (T32.setTop (mkF m 62 #[.val (.int p1), .val (.int p2), .val (.int p3), .val (.int p4), .val (.int p5), .val (.int (2 : Int32)), .val (.int xa), .val (.int xb), .val (.int xc), .val (.int xd), .val (.ref b29), .unset] [(.int xb), (.int (1 : Int32)), (.ref b29)])) t → Steps p.tables e below (s₁.setTop (entryFrame m #[(.int p1), (.int p2), (.int p3), (.int p4), (.int p5)] maxLocals)) t := fun t k => go33 t (by
      show Steps p.tables e below (T32.setTop (mkF m 51 #[.val (.int p1), .val (.int p2), .val (.int p3), .val (.int p4), .val (.int p5), .val (.int (2 : Int32)), .val (.int xa), .val (.int xb), .val (.int xc), .val (.int xd), .val (.ref b29), .unset] [])) _
      refine XS.iload X32.here hx rfl (hb hby at_51) rfl ?_
      show Steps p.tables e below (T32.setTop (mkF m 53 #[.val (.int p1), .val (.int p2), .val (.int p3), .val (.int p4), .val (.int p5), .val (.int (2 : Int32)), .val (.int xa), .val (.int xb), .val (.int xc), .val (.int xd), .val (.ref b29), .unset] [(.int (2 : Int32))])) _
      refine XS.iconst X32.here hx rfl (hb hby at_53) ?_
      show Steps p.tables e below (T32.setTop (mkF m 54 #[.val (.int p1), .val (.int p2), .val (.int p3), .val (.int p4), .val (.int p5), .val (.int (2 : Int32)), .val (.int xa), .val (.int xb), .val (.int xc), .val (.int xd), .val (.ref b29), .unset] [(.int (2 : Int32)), (.int (2 : Int32))])) _
      refine XS.icmpNo X32.here hx rfl (hb hby at_54) rfl (flt (by decide : ¬ ((2 : Int32) < (2 : Int32)))).1 ?_
      show Steps p.tables e below (T32.setTop (mkF m 57 #[.val (.int p1), .val (.int p2), .val (.int p3), .val (.int p4), .val (.int p5), .val (.int (2 : Int32)), .val (.int xa), .val (.int xb), .val (.int xc), .val (.int xd), .val (.ref b29), .unset] [])) _
      refine XS.aload X32.here hx rfl (hb hby at_57) rfl rfl ?_
      show Steps p.tables e below (T32.setTop (mkF m 59 #[.val (.int p1), .val (.int p2), .val (.int p3), .val (.int p4), .val (.int p5), .val (.int (2 : Int32)), .val (.int xa), .val (.int xb), .val (.int xc), .val (.int xd), .val (.ref b29), .unset] [(.ref b29)])) _
      refine XS.iconst X32.here hx rfl (hb hby at_59) ?_
      show Steps p.tables e below (T32.setTop (mkF m 60 #[.val (.int p1), .val (.int p2), .val (.int p3), .val (.int p4), .val (.int p5), .val (.int (2 : Int32)), .val (.int xa), .val (.int xb), .val (.int xc), .val (.int xd), .val (.ref b29), .unset] [(.int (1 : Int32)), (.ref b29)])) _
      refine XS.iload X32.here hx rfl (hb hby at_60) rfl ?_
      exact k)
    obtain ⟨cl35, Ar35, q35, S35, M35, H35, G35⟩ := id V32
    obtain ⟨T35, h35, X35, e35, W35, st35⟩ := stI X32 hx hZ e32 Ar35 (j := (1 : Int32)) (inb_of S35 ⟨by decide, by decide⟩) (g := (mkF m 62 #[.val (.int p1), .val (.int p2), .val (.int p3), .val (.int p4), .val (.int p5), .val (.int (2 : Int32)), .val (.int xa), .val (.int xb), .val (.int xc), .val (.int xd), .val (.ref b29), .unset] [(.int xb), (.int (1 : Int32)), (.ref b29)])) rfl rfl (hb hby at_62)
    have V35 : Arv Z h35 b29 k29 .int (2 : Int32) [(.int xa), (.int xb)] (.int (0 : Int32)) := Arv.set Ar35 q35 S35 M35 H35 G35 rfl W35 1 rfl (Nat.le_of_ble_eq_true rfl)
    have N35 := Fr.snoc X35 N32 g_b29
    have go36 : ∀ t, Steps p.tables e below (T35.setTop (mkF m 63 #[.val (.int p1), .val (.int p2), .val (.int p3), .val (.int p4), .val (.int p5), .val (.int (2 : Int32)), .val (.int xa), .val (.int xb), .val (.int xc), .val (.int xd), .val (.ref b29), .unset] [])) t → Steps p.tables e below (s₁.setTop (entryFrame m #[(.int p1), (.int p2), (.int p3), (.int p4), (.int p5)] maxLocals)) t := fun t k => go34 t (st35 t k)
    have go37 : ∀ t, Steps p.tables e below (T35.setTop (mkF m 89 #[.val (.int p1), .val (.int p2), .val (.int p3), .val (.int p4), .val (.int p5), .val (.int (2 : Int32)), .val (.int xa), .val (.int xb), .val (.int xc), .val (.int xd), .val (.ref b29), .unset] [(.ref b29)])) t → Steps p.tables e below (s₁.setTop (entryFrame m #[(.int p1), (.int p2), (.int p3), (.int p4), (.int p5)] maxLocals)) t := fun t k => go36 t (by
      show Steps p.tables e below (T35.setTop (mkF m 63 #[.val (.int p1), .val (.int p2), .val (.int p3), .val (.int p4), .val (.int p5), .val (.int (2 : Int32)), .val (.int xa), .val (.int xb), .val (.int xc), .val (.int xd), .val (.ref b29), .unset] [])) _
      refine XS.iload X35.here hx rfl (hb hby at_63) rfl ?_
      show Steps p.tables e below (T35.setTop (mkF m 65 #[.val (.int p1), .val (.int p2), .val (.int p3), .val (.int p4), .val (.int p5), .val (.int (2 : Int32)), .val (.int xa), .val (.int xb), .val (.int xc), .val (.int xd), .val (.ref b29), .unset] [(.int (2 : Int32))])) _
      refine XS.iconst X35.here hx rfl (hb hby at_65) ?_
      show Steps p.tables e below (T35.setTop (mkF m 66 #[.val (.int p1), .val (.int p2), .val (.int p3), .val (.int p4), .val (.int p5), .val (.int (2 : Int32)), .val (.int xa), .val (.int xb), .val (.int xc), .val (.int xd), .val (.ref b29), .unset] [(.int (3 : Int32)), (.int (2 : Int32))])) _
      refine XS.icmpYes X35.here hx rfl (pc0 := 66) (pc' := 75) rfl (hb hby at_66) rfl (tlt (by decide : (2 : Int32) < (3 : Int32))).1 (by decide) (by decide) ?_
      show Steps p.tables e below (T35.setTop (mkF m 75 #[.val (.int p1), .val (.int p2), .val (.int p3), .val (.int p4), .val (.int p5), .val (.int (2 : Int32)), .val (.int xa), .val (.int xb), .val (.int xc), .val (.int xd), .val (.ref b29), .unset] [])) _
      refine XS.iload X35.here hx rfl (hb hby at_75) rfl ?_
      show Steps p.tables e below (T35.setTop (mkF m 77 #[.val (.int p1), .val (.int p2), .val (.int p3), .val (.int p4), .val (.int p5), .val (.int (2 : Int32)), .val (.int xa), .val (.int xb), .val (.int xc), .val (.int xd), .val (.ref b29), .unset] [(.int (2 : Int32))])) _
      refine XS.iconst X35.here hx rfl (hb hby at_77) ?_
      show Steps p.tables e below (T35.setTop (mkF m 78 #[.val (.int p1), .val (.int p2), .val (.int p3), .val (.int p4), .val (.int p5), .val (.int (2 : Int32)), .val (.int xa), .val (.int xb), .val (.int xc), .val (.int xd), .val (.ref b29), .unset] [(.int (4 : Int32)), (.int (2 : Int32))])) _
      refine XS.icmpYes X35.here hx rfl (pc0 := 78) (pc' := 87) rfl (hb hby at_78) rfl (tlt (by decide : (2 : Int32) < (4 : Int32))).1 (by decide) (by decide) ?_
      show Steps p.tables e below (T35.setTop (mkF m 87 #[.val (.int p1), .val (.int p2), .val (.int p3), .val (.int p4), .val (.int p5), .val (.int (2 : Int32)), .val (.int xa), .val (.int xb), .val (.int xc), .val (.int xd), .val (.ref b29), .unset] [])) _
      refine XS.aload X35.here hx rfl (hb hby at_87) rfl rfl ?_
      exact k)
    obtain ⟨_, _, ⟨T38, L38, k38, n38⟩, -, X38, ⟨Lc38, hQ38, l38, y38, z38⟩, st38⟩ := Jvm.LawKit.callS X35 hx (y := (⟨"com/example/inlet/inlet/compiler/ArrayValue", "fits", "([I)Z"⟩ : MethodName)) hown (mvT hZ (hw _ (List.mem_of_getElem? (i := 2) rfl))) (mvT hZ (hw _ (List.mem_of_getElem? (i := 3) rfl))) (mvT hZ (hw _ (List.mem_of_getElem? (i := 4) rfl))) (mvT hZ (hw _ (List.mem_of_getElem? (i := 5) rfl))) (by decide) (backOf (W := 0) (rm_fits2 l Z a0 hw [] b29 k29 xa xb h35 n0 (Nat.le_trans (Nat.le_trans (Nat.le_trans Z0 E29.1) (Keep.of_wr W32).1) (Keep.of_wr W35).1) V35) hZ (hw _ (List.mem_of_getElem? (i := 5) rfl)) (hw _ (List.mem_of_getElem? (i := 4) rfl)) (by decide) (by decide)) (g := (mkF m 89 #[.val (.int p1), .val (.int p2), .val (.int p3), .val (.int p4), .val (.int p5), .val (.int (2 : Int32)), .val (.int xa), .val (.int xb), .val (.int xc), .val (.int xd), .val (.ref b29), .unset] [(.ref b29)])) rfl (by rw [hml]; rfl) (argsL := [(.ref b29)]) (rest := []) (lenOf pd_1 rfl) rfl (by show 2 * 0 + _ ≤ _; exact Nat.le_of_eq rfl) (hb hby at_89) (fun _ _ => ⟨rfl, e35, (by decide : 1 + 0 ≤ _), (by decide : 2 + 0 ≤ _)⟩)
    dsimp only [Pt.U, Pt.locs, Pt.cells, Pt.slots] at X38 l38 y38 z38 st38 hQ38
    subst l38 y38 z38
    obtain ⟨rfl, N38q, e38⟩ := hQ38
    have N38 := Fr.app N35 N38q
    have go39 : ∀ t, Steps p.tables e below (T38.setTop (mkF m 92 #[.val (.int p1), .val (.int p2), .val (.int p3), .val (.int p4), .val (.int p5), .val (.int (2 : Int32)), .val (.int xa), .val (.int xb), .val (.int xc), .val (.int xd), .val (.ref b29), .unset] [(.int (own_fits2 xa xb))])) t → Steps p.tables e below (s₁.setTop (entryFrame m #[(.int p1), (.int p2), (.int p3), (.int p4), (.int p5)] maxLocals)) t := fun t k => go37 t (st38 t k)
    have go40 : ∀ t, Steps p.tables e below (T38.setTop (mkF m 106 #[.val (.int p1), .val (.int p2), .val (.int p3), .val (.int p4), .val (.int p5), .val (.int (2 : Int32)), .val (.int xa), .val (.int xb), .val (.int xc), .val (.int xd), .val (.ref b29), .val (.int (own_fits2 xa xb))] [(.int xd), (.int xc), (.int xb), (.int xa), (.int (2 : Int32)), (.int (own_fits2 xa xb))])) t → Steps p.tables e below (s₁.setTop (entryFrame m #[(.int p1), (.int p2), (.int p3), (.int p4), (.int p5)] maxLocals)) t := fun t k => go39 t (by
      show Steps p.tables e below (T38.setTop (mkF m 92 #[.val (.int p1), .val (.int p2), .val (.int p3), .val (.int p4), .val (.int p5), .val (.int (2 : Int32)), .val (.int xa), .val (.int xb), .val (.int xc), .val (.int xd), .val (.ref b29), .unset] [(.int (own_fits2 xa xb))])) _
      refine XS.istore X38.here hx rfl (hb hby at_92) rfl (l' := #[.val (.int p1), .val (.int p2), .val (.int p3), .val (.int p4), .val (.int p5), .val (.int (2 : Int32)), .val (.int xa), .val (.int xb), .val (.int xc), .val (.int xd), .val (.ref b29), .val (.int (own_fits2 xa xb))]) rfl ?_
      show Steps p.tables e below (T38.setTop (mkF m 94 #[.val (.int p1), .val (.int p2), .val (.int p3), .val (.int p4), .val (.int p5), .val (.int (2 : Int32)), .val (.int xa), .val (.int xb), .val (.int xc), .val (.int xd), .val (.ref b29), .val (.int (own_fits2 xa xb))] [])) _
      refine XS.iload X38.here hx rfl (hb hby at_94) rfl ?_
      show Steps p.tables e below (T38.setTop (mkF m 96 #[.val (.int p1), .val (.int p2), .val (.int p3), .val (.int p4), .val (.int p5), .val (.int (2 : Int32)), .val (.int xa), .val (.int xb), .val (.int xc), .val (.int xd), .val (.ref b29), .val (.int (own_fits2 xa xb))] [(.int (own_fits2 xa xb))])) _
      refine XS.iload X38.here hx rfl (hb hby at_96) rfl ?_
      show Steps p.tables e below (T38.setTop (mkF m 98 #[.val (.int p1), .val (.int p2), .val (.int p3), .val (.int p4), .val (.int p5), .val (.int (2 : Int32)), .val (.int xa), .val (.int xb), .val (.int xc), .val (.int xd), .val (.ref b29), .val (.int (own_fits2 xa xb))] [(.int (2 : Int32)), (.int (own_fits2 xa xb))])) _
      refine XS.iload X38.here hx rfl (hb hby at_98) rfl ?_
      show Steps p.tables e below (T38.setTop (mkF m 100 #[.val (.int p1), .val (.int p2), .val (.int p3), .val (.int p4), .val (.int p5), .val (.int (2 : Int32)), .val (.int xa), .val (.int xb), .val (.int xc), .val (.int xd), .val (.ref b29), .val (.int (own_fits2 xa xb))] [(.int xa), (.int (2 : Int32)), (.int (own_fits2 xa xb))])) _
      refine XS.iload X38.here hx rfl (hb hby at_100) rfl ?_
      show Steps p.tables e below (T38.setTop (mkF m 102 #[.val (.int p1), .val (.int p2), .val (.int p3), .val (.int p4), .val (.int p5), .val (.int (2 : Int32)), .val (.int xa), .val (.int xb), .val (.int xc), .val (.int xd), .val (.ref b29), .val (.int (own_fits2 xa xb))] [(.int xb), (.int xa), (.int (2 : Int32)), (.int (own_fits2 xa xb))])) _
      refine XS.iload X38.here hx rfl (hb hby at_102) rfl ?_
      show Steps p.tables e below (T38.setTop (mkF m 104 #[.val (.int p1), .val (.int p2), .val (.int p3), .val (.int p4), .val (.int p5), .val (.int (2 : Int32)), .val (.int xa), .val (.int xb), .val (.int xc), .val (.int xd), .val (.ref b29), .val (.int (own_fits2 xa xb))] [(.int xc), (.int xb), (.int xa), (.int (2 : Int32)), (.int (own_fits2 xa xb))])) _
      refine XS.iload X38.here hx rfl (hb hby at_104) rfl ?_
      exact k)
    obtain ⟨_, _, ⟨T41, L41, k41, n41⟩, -, X41, ⟨Lc41, hQ41, l41, y41, z41⟩, st41⟩ := Jvm.LawKit.callS X38 hx (y := (⟨"com/example/inlet/inlet/compiler/ArrayValueFitsPinLaw", "expected", "(IIIII)Z"⟩ : MethodName)) hown (mvT hZ (hw _ (List.mem_of_getElem? (i := 7) rfl))) (mvT hZ (hw _ (List.mem_of_getElem? (i := 8) rfl))) (mvT hZ (hw _ (List.mem_of_getElem? (i := 9) rfl))) (mvT hZ (hw _ (List.mem_of_getElem? (i := 10) rfl))) (by decide) (backOf (W := 1) (rm_exp2 l Z a0 hw [] xa xb xc xd h35 n0 (Nat.le_trans (Nat.le_trans (Nat.le_trans Z0 E29.1) (Keep.of_wr W32).1) (Keep.of_wr W35).1) ) hZ (hw _ (List.mem_of_getElem? (i := 10) rfl)) (hw _ (List.mem_of_getElem? (i := 9) rfl)) (by decide) (by decide)) (g := (mkF m 106 #[.val (.int p1), .val (.int p2), .val (.int p3), .val (.int p4), .val (.int p5), .val (.int (2 : Int32)), .val (.int xa), .val (.int xb), .val (.int xc), .val (.int xd), .val (.ref b29), .val (.int (own_fits2 xa xb))] [(.int xd), (.int xc), (.int xb), (.int xa), (.int (2 : Int32)), (.int (own_fits2 xa xb))])) rfl (by rw [hml]; rfl) (argsL := [(.int (2 : Int32)), (.int xa), (.int xb), (.int xc), (.int xd)]) (rest := [(.int (own_fits2 xa xb))]) (lenOf pd_2 rfl) rfl (by show 2 * 0 + _ ≤ _; exact Nat.le_of_eq rfl) (hb hby at_106) (fun _ _ => ⟨rfl, e38, (by decide : 1 + 0 ≤ _), (by decide : 2 + 0 ≤ _)⟩)
    dsimp only [Pt.U, Pt.locs, Pt.cells, Pt.slots] at X41 l41 y41 z41 st41 hQ41
    subst l41 y41 z41
    obtain ⟨rfl, N41q, e41⟩ := hQ41
    have N41 := Fr.app N38 N41q
    have go42 : ∀ t, Steps p.tables e below (T41.setTop (mkF m 109 #[.val (.int p1), .val (.int p2), .val (.int p3), .val (.int p4), .val (.int p5), .val (.int (2 : Int32)), .val (.int xa), .val (.int xb), .val (.int xc), .val (.int xd), .val (.ref b29), .val (.int (own_fits2 xa xb))] [(.int (own_exp2 xa xb xc xd)), (.int (own_fits2 xa xb))])) t → Steps p.tables e below (s₁.setTop (entryFrame m #[(.int p1), (.int p2), (.int p3), (.int p4), (.int p5)] maxLocals)) t := fun t k => go40 t (st41 t k)
    have go43 : ∀ t, Steps p.tables e below (T41.setTop (mkF m 117 #[.val (.int p1), .val (.int p2), .val (.int p3), .val (.int p4), .val (.int p5), .val (.int (2 : Int32)), .val (.int xa), .val (.int xb), .val (.int xc), .val (.int xd), .val (.ref b29), .val (.int (own_fits2 xa xb))] [(.int (1 : Int32))])) t → Steps p.tables e below (s₁.setTop (entryFrame m #[(.int p1), (.int p2), (.int p3), (.int p4), (.int p5)] maxLocals)) t := fun t k => go42 t (by
      show Steps p.tables e below (T41.setTop (mkF m 109 #[.val (.int p1), .val (.int p2), .val (.int p3), .val (.int p4), .val (.int p5), .val (.int (2 : Int32)), .val (.int xa), .val (.int xb), .val (.int xc), .val (.int xd), .val (.ref b29), .val (.int (own_fits2 xa xb))] [(.int (own_exp2 xa xb xc xd)), (.int (own_fits2 xa xb))])) _
      refine XS.icmpNo X41.here hx rfl (hb hby at_109) rfl (teq (own_agree2 xa xb xc xd gxa gxb)).2 ?_
      show Steps p.tables e below (T41.setTop (mkF m 112 #[.val (.int p1), .val (.int p2), .val (.int p3), .val (.int p4), .val (.int p5), .val (.int (2 : Int32)), .val (.int xa), .val (.int xb), .val (.int xc), .val (.int xd), .val (.ref b29), .val (.int (own_fits2 xa xb))] [])) _
      refine XS.iconst X41.here hx rfl (hb hby at_112) ?_
      show Steps p.tables e below (T41.setTop (mkF m 113 #[.val (.int p1), .val (.int p2), .val (.int p3), .val (.int p4), .val (.int p5), .val (.int (2 : Int32)), .val (.int xa), .val (.int xb), .val (.int xc), .val (.int xd), .val (.ref b29), .val (.int (own_fits2 xa xb))] [(.int (1 : Int32))])) _
      refine XS.goto X41.here hx rfl (pc0 := 113) (pc' := 117) rfl (hb hby at_113) (by decide) (by decide) ?_
      exact k)
    obtain ⟨fs, hr, hrun, hended, hW, hsame⟩ := X41.leave (v := some (.int (1 : Int32))) (fun h => by rw [Bd.returns] at h; cases h)
    refine ⟨_, _, go43 _ ?_, hrun, hended, _, _, rfl, ?_, ⟨_, rfl⟩, hW, hsame.mono (by decide) (by decide)⟩
    · exact retN X41 hx (t := .boolean) Bd.returns (by simp) (hb hby at_117) hr
    · show QL n0 _ T41.heap _
      rw [e41]
      exact ⟨rfl, N41⟩
  · rw [hn] at go4
    have go44 : ∀ t, Steps p.tables e below (s₁.setTop (mkF m 35 #[.val (.int p1), .val (.int p2), .val (.int p3), .val (.int p4), .val (.int p5), .val (.int (3 : Int32)), .val (.int xa), .val (.int xb), .val (.int xc), .val (.int xd), .unset, .unset] [(.int (3 : Int32))])) t → Steps p.tables e below (s₁.setTop (entryFrame m #[(.int p1), (.int p2), (.int p3), (.int p4), (.int p5)] maxLocals)) t := fun t k => go4 t (by
      show Steps p.tables e below (s₁.setTop (mkF m 33 #[.val (.int p1), .val (.int p2), .val (.int p3), .val (.int p4), .val (.int p5), .val (.int (3 : Int32)), .val (.int xa), .val (.int xb), .val (.int xc), .val (.int xd), .unset, .unset] [])) _
      refine XS.iload X0.here hx rfl (hb hby at_33) rfl ?_
      exact k)
    obtain ⟨T45, h45, k45, X45, e45, E45, A45, st45⟩ := newP X0 hx hZ (hw _ (List.mem_of_getElem? (i := 1) rfl)) e0 (g := (mkF m 35 #[.val (.int p1), .val (.int p2), .val (.int p3), .val (.int p4), .val (.int p5), .val (.int (3 : Int32)), .val (.int xa), .val (.int xb), .val (.int xc), .val (.int xd), .unset, .unset] [(.int (3 : Int32))])) rfl (hb hby at_35) rfl (by decide) (cap := 3) (by decide) (by decide) (by decide) (by decide)
    obtain ⟨b45, g45⟩ : ∃ z, z = h0.size := ⟨_, rfl⟩
    rw [← g45] at A45 st45
    have g_b45 : n0 ≤ b45 := Nat.le_trans Z0 (Nat.le_of_eq g45.symm)
    have V45 : Arv Z h45 b45 k45 .int (3 : Int32) [(.int (0 : Int32)), (.int (0 : Int32)), (.int (0 : Int32))] (.int (0 : Int32)) := (Arv.new A45 (by decide)).pad (pad_rep [] (.int (0 : Int32)) 3)
    have go46 : ∀ t, Steps p.tables e below (T45.setTop (mkF m 37 #[.val (.int p1), .val (.int p2), .val (.int p3), .val (.int p4), .val (.int p5), .val (.int (3 : Int32)), .val (.int xa), .val (.int xb), .val (.int xc), .val (.int xd), .unset, .unset] [(.ref b45)])) t → Steps p.tables e below (s₁.setTop (entryFrame m #[(.int p1), (.int p2), (.int p3), (.int p4), (.int p5)] maxLocals)) t := fun t k => go44 t (st45 t k)
    have go47 : ∀ t, Steps p.tables e below (T45.setTop (mkF m 50 #[.val (.int p1), .val (.int p2), .val (.int p3), .val (.int p4), .val (.int p5), .val (.int (3 : Int32)), .val (.int xa), .val (.int xb), .val (.int xc), .val (.int xd), .val (.ref b45), .unset] [(.int xa), (.int (0 : Int32)), (.ref b45)])) t → Steps p.tables e below (s₁.setTop (entryFrame m #[(.int p1), (.int p2), (.int p3), (.int p4), (.int p5)] maxLocals)) t := fun t k => go46 t (by
      show Steps p.tables e below (T45.setTop (mkF m 37 #[.val (.int p1), .val (.int p2), .val (.int p3), .val (.int p4), .val (.int p5), .val (.int (3 : Int32)), .val (.int xa), .val (.int xb), .val (.int xc), .val (.int xd), .unset, .unset] [(.ref b45)])) _
      refine XS.astore X45.here hx rfl (hb hby at_37) rfl rfl (l' := #[.val (.int p1), .val (.int p2), .val (.int p3), .val (.int p4), .val (.int p5), .val (.int (3 : Int32)), .val (.int xa), .val (.int xb), .val (.int xc), .val (.int xd), .val (.ref b45), .unset]) rfl ?_
      show Steps p.tables e below (T45.setTop (mkF m 39 #[.val (.int p1), .val (.int p2), .val (.int p3), .val (.int p4), .val (.int p5), .val (.int (3 : Int32)), .val (.int xa), .val (.int xb), .val (.int xc), .val (.int xd), .val (.ref b45), .unset] [])) _
      refine XS.iload X45.here hx rfl (hb hby at_39) rfl ?_
      show Steps p.tables e below (T45.setTop (mkF m 41 #[.val (.int p1), .val (.int p2), .val (.int p3), .val (.int p4), .val (.int p5), .val (.int (3 : Int32)), .val (.int xa), .val (.int xb), .val (.int xc), .val (.int xd), .val (.ref b45), .unset] [(.int (3 : Int32))])) _
      refine XS.iconst X45.here hx rfl (hb hby at_41) ?_
      show Steps p.tables e below (T45.setTop (mkF m 42 #[.val (.int p1), .val (.int p2), .val (.int p3), .val (.int p4), .val (.int p5), .val (.int (3 : Int32)), .val (.int xa), .val (.int xb), .val (.int xc), .val (.int xd), .val (.ref b45), .unset] [(.int (1 : Int32)), (.int (3 : Int32))])) _
      refine XS.icmpNo X45.here hx rfl (hb hby at_42) rfl (flt (by decide : ¬ ((3 : Int32) < (1 : Int32)))).1 ?_
      show Steps p.tables e below (T45.setTop (mkF m 45 #[.val (.int p1), .val (.int p2), .val (.int p3), .val (.int p4), .val (.int p5), .val (.int (3 : Int32)), .val (.int xa), .val (.int xb), .val (.int xc), .val (.int xd), .val (.ref b45), .unset] [])) _
      refine XS.aload X45.here hx rfl (hb hby at_45) rfl rfl ?_
      show Steps p.tables e below (T45.setTop (mkF m 47 #[.val (.int p1), .val (.int p2), .val (.int p3), .val (.int p4), .val (.int p5), .val (.int (3 : Int32)), .val (.int xa), .val (.int xb), .val (.int xc), .val (.int xd), .val (.ref b45), .unset] [(.ref b45)])) _
      refine XS.iconst X45.here hx rfl (hb hby at_47) ?_
      show Steps p.tables e below (T45.setTop (mkF m 48 #[.val (.int p1), .val (.int p2), .val (.int p3), .val (.int p4), .val (.int p5), .val (.int (3 : Int32)), .val (.int xa), .val (.int xb), .val (.int xc), .val (.int xd), .val (.ref b45), .unset] [(.int (0 : Int32)), (.ref b45)])) _
      refine XS.iload X45.here hx rfl (hb hby at_48) rfl ?_
      exact k)
    obtain ⟨cl48, Ar48, q48, S48, M48, H48, G48⟩ := id V45
    obtain ⟨T48, h48, X48, e48, W48, st48⟩ := stI X45 hx hZ e45 Ar48 (j := (0 : Int32)) (inb_of S48 ⟨by decide, by decide⟩) (g := (mkF m 50 #[.val (.int p1), .val (.int p2), .val (.int p3), .val (.int p4), .val (.int p5), .val (.int (3 : Int32)), .val (.int xa), .val (.int xb), .val (.int xc), .val (.int xd), .val (.ref b45), .unset] [(.int xa), (.int (0 : Int32)), (.ref b45)])) rfl rfl (hb hby at_50)
    have V48 : Arv Z h48 b45 k45 .int (3 : Int32) [(.int xa), (.int (0 : Int32)), (.int (0 : Int32))] (.int (0 : Int32)) := Arv.set Ar48 q48 S48 M48 H48 G48 rfl W48 0 rfl (Nat.le_of_ble_eq_true rfl)
    have N48 := Fr.snoc X48 N0 g_b45
    have go49 : ∀ t, Steps p.tables e below (T48.setTop (mkF m 51 #[.val (.int p1), .val (.int p2), .val (.int p3), .val (.int p4), .val (.int p5), .val (.int (3 : Int32)), .val (.int xa), .val (.int xb), .val (.int xc), .val (.int xd), .val (.ref b45), .unset] [])) t → Steps p.tables e below (s₁.setTop (entryFrame m #[(.int p1), (.int p2), (.int p3), (.int p4), (.int p5)] maxLocals)) t := fun t k => go47 t (st48 t k)
    have go50 : ∀ t, Steps p.tables e below (T48.setTop (mkF m 62 #[.val (.int p1), .val (.int p2), .val (.int p3), .val (.int p4), .val (.int p5), .val (.int (3 : Int32)), .val (.int xa), .val (.int xb), .val (.int xc), .val (.int xd), .val (.ref b45), .unset] [(.int xb), (.int (1 : Int32)), (.ref b45)])) t → Steps p.tables e below (s₁.setTop (entryFrame m #[(.int p1), (.int p2), (.int p3), (.int p4), (.int p5)] maxLocals)) t := fun t k => go49 t (by
      show Steps p.tables e below (T48.setTop (mkF m 51 #[.val (.int p1), .val (.int p2), .val (.int p3), .val (.int p4), .val (.int p5), .val (.int (3 : Int32)), .val (.int xa), .val (.int xb), .val (.int xc), .val (.int xd), .val (.ref b45), .unset] [])) _
      refine XS.iload X48.here hx rfl (hb hby at_51) rfl ?_
      show Steps p.tables e below (T48.setTop (mkF m 53 #[.val (.int p1), .val (.int p2), .val (.int p3), .val (.int p4), .val (.int p5), .val (.int (3 : Int32)), .val (.int xa), .val (.int xb), .val (.int xc), .val (.int xd), .val (.ref b45), .unset] [(.int (3 : Int32))])) _
      refine XS.iconst X48.here hx rfl (hb hby at_53) ?_
      show Steps p.tables e below (T48.setTop (mkF m 54 #[.val (.int p1), .val (.int p2), .val (.int p3), .val (.int p4), .val (.int p5), .val (.int (3 : Int32)), .val (.int xa), .val (.int xb), .val (.int xc), .val (.int xd), .val (.ref b45), .unset] [(.int (2 : Int32)), (.int (3 : Int32))])) _
      refine XS.icmpNo X48.here hx rfl (hb hby at_54) rfl (flt (by decide : ¬ ((3 : Int32) < (2 : Int32)))).1 ?_
      show Steps p.tables e below (T48.setTop (mkF m 57 #[.val (.int p1), .val (.int p2), .val (.int p3), .val (.int p4), .val (.int p5), .val (.int (3 : Int32)), .val (.int xa), .val (.int xb), .val (.int xc), .val (.int xd), .val (.ref b45), .unset] [])) _
      refine XS.aload X48.here hx rfl (hb hby at_57) rfl rfl ?_
      show Steps p.tables e below (T48.setTop (mkF m 59 #[.val (.int p1), .val (.int p2), .val (.int p3), .val (.int p4), .val (.int p5), .val (.int (3 : Int32)), .val (.int xa), .val (.int xb), .val (.int xc), .val (.int xd), .val (.ref b45), .unset] [(.ref b45)])) _
      refine XS.iconst X48.here hx rfl (hb hby at_59) ?_
      show Steps p.tables e below (T48.setTop (mkF m 60 #[.val (.int p1), .val (.int p2), .val (.int p3), .val (.int p4), .val (.int p5), .val (.int (3 : Int32)), .val (.int xa), .val (.int xb), .val (.int xc), .val (.int xd), .val (.ref b45), .unset] [(.int (1 : Int32)), (.ref b45)])) _
      refine XS.iload X48.here hx rfl (hb hby at_60) rfl ?_
      exact k)
    obtain ⟨cl51, Ar51, q51, S51, M51, H51, G51⟩ := id V48
    obtain ⟨T51, h51, X51, e51, W51, st51⟩ := stI X48 hx hZ e48 Ar51 (j := (1 : Int32)) (inb_of S51 ⟨by decide, by decide⟩) (g := (mkF m 62 #[.val (.int p1), .val (.int p2), .val (.int p3), .val (.int p4), .val (.int p5), .val (.int (3 : Int32)), .val (.int xa), .val (.int xb), .val (.int xc), .val (.int xd), .val (.ref b45), .unset] [(.int xb), (.int (1 : Int32)), (.ref b45)])) rfl rfl (hb hby at_62)
    have V51 : Arv Z h51 b45 k45 .int (3 : Int32) [(.int xa), (.int xb), (.int (0 : Int32))] (.int (0 : Int32)) := Arv.set Ar51 q51 S51 M51 H51 G51 rfl W51 1 rfl (Nat.le_of_ble_eq_true rfl)
    have N51 := Fr.snoc X51 N48 g_b45
    have go52 : ∀ t, Steps p.tables e below (T51.setTop (mkF m 63 #[.val (.int p1), .val (.int p2), .val (.int p3), .val (.int p4), .val (.int p5), .val (.int (3 : Int32)), .val (.int xa), .val (.int xb), .val (.int xc), .val (.int xd), .val (.ref b45), .unset] [])) t → Steps p.tables e below (s₁.setTop (entryFrame m #[(.int p1), (.int p2), (.int p3), (.int p4), (.int p5)] maxLocals)) t := fun t k => go50 t (st51 t k)
    have go53 : ∀ t, Steps p.tables e below (T51.setTop (mkF m 74 #[.val (.int p1), .val (.int p2), .val (.int p3), .val (.int p4), .val (.int p5), .val (.int (3 : Int32)), .val (.int xa), .val (.int xb), .val (.int xc), .val (.int xd), .val (.ref b45), .unset] [(.int xc), (.int (2 : Int32)), (.ref b45)])) t → Steps p.tables e below (s₁.setTop (entryFrame m #[(.int p1), (.int p2), (.int p3), (.int p4), (.int p5)] maxLocals)) t := fun t k => go52 t (by
      show Steps p.tables e below (T51.setTop (mkF m 63 #[.val (.int p1), .val (.int p2), .val (.int p3), .val (.int p4), .val (.int p5), .val (.int (3 : Int32)), .val (.int xa), .val (.int xb), .val (.int xc), .val (.int xd), .val (.ref b45), .unset] [])) _
      refine XS.iload X51.here hx rfl (hb hby at_63) rfl ?_
      show Steps p.tables e below (T51.setTop (mkF m 65 #[.val (.int p1), .val (.int p2), .val (.int p3), .val (.int p4), .val (.int p5), .val (.int (3 : Int32)), .val (.int xa), .val (.int xb), .val (.int xc), .val (.int xd), .val (.ref b45), .unset] [(.int (3 : Int32))])) _
      refine XS.iconst X51.here hx rfl (hb hby at_65) ?_
      show Steps p.tables e below (T51.setTop (mkF m 66 #[.val (.int p1), .val (.int p2), .val (.int p3), .val (.int p4), .val (.int p5), .val (.int (3 : Int32)), .val (.int xa), .val (.int xb), .val (.int xc), .val (.int xd), .val (.ref b45), .unset] [(.int (3 : Int32)), (.int (3 : Int32))])) _
      refine XS.icmpNo X51.here hx rfl (hb hby at_66) rfl (flt (by decide : ¬ ((3 : Int32) < (3 : Int32)))).1 ?_
      show Steps p.tables e below (T51.setTop (mkF m 69 #[.val (.int p1), .val (.int p2), .val (.int p3), .val (.int p4), .val (.int p5), .val (.int (3 : Int32)), .val (.int xa), .val (.int xb), .val (.int xc), .val (.int xd), .val (.ref b45), .unset] [])) _
      refine XS.aload X51.here hx rfl (hb hby at_69) rfl rfl ?_
      show Steps p.tables e below (T51.setTop (mkF m 71 #[.val (.int p1), .val (.int p2), .val (.int p3), .val (.int p4), .val (.int p5), .val (.int (3 : Int32)), .val (.int xa), .val (.int xb), .val (.int xc), .val (.int xd), .val (.ref b45), .unset] [(.ref b45)])) _
      refine XS.iconst X51.here hx rfl (hb hby at_71) ?_
      show Steps p.tables e below (T51.setTop (mkF m 72 #[.val (.int p1), .val (.int p2), .val (.int p3), .val (.int p4), .val (.int p5), .val (.int (3 : Int32)), .val (.int xa), .val (.int xb), .val (.int xc), .val (.int xd), .val (.ref b45), .unset] [(.int (2 : Int32)), (.ref b45)])) _
      refine XS.iload X51.here hx rfl (hb hby at_72) rfl ?_
      exact k)
    obtain ⟨cl54, Ar54, q54, S54, M54, H54, G54⟩ := id V51
    obtain ⟨T54, h54, X54, e54, W54, st54⟩ := stI X51 hx hZ e51 Ar54 (j := (2 : Int32)) (inb_of S54 ⟨by decide, by decide⟩) (g := (mkF m 74 #[.val (.int p1), .val (.int p2), .val (.int p3), .val (.int p4), .val (.int p5), .val (.int (3 : Int32)), .val (.int xa), .val (.int xb), .val (.int xc), .val (.int xd), .val (.ref b45), .unset] [(.int xc), (.int (2 : Int32)), (.ref b45)])) rfl rfl (hb hby at_74)
    have V54 : Arv Z h54 b45 k45 .int (3 : Int32) [(.int xa), (.int xb), (.int xc)] (.int (0 : Int32)) := Arv.set Ar54 q54 S54 M54 H54 G54 rfl W54 2 rfl (Nat.le_of_ble_eq_true rfl)
    have N54 := Fr.snoc X54 N51 g_b45
    have go55 : ∀ t, Steps p.tables e below (T54.setTop (mkF m 75 #[.val (.int p1), .val (.int p2), .val (.int p3), .val (.int p4), .val (.int p5), .val (.int (3 : Int32)), .val (.int xa), .val (.int xb), .val (.int xc), .val (.int xd), .val (.ref b45), .unset] [])) t → Steps p.tables e below (s₁.setTop (entryFrame m #[(.int p1), (.int p2), (.int p3), (.int p4), (.int p5)] maxLocals)) t := fun t k => go53 t (st54 t k)
    have go56 : ∀ t, Steps p.tables e below (T54.setTop (mkF m 89 #[.val (.int p1), .val (.int p2), .val (.int p3), .val (.int p4), .val (.int p5), .val (.int (3 : Int32)), .val (.int xa), .val (.int xb), .val (.int xc), .val (.int xd), .val (.ref b45), .unset] [(.ref b45)])) t → Steps p.tables e below (s₁.setTop (entryFrame m #[(.int p1), (.int p2), (.int p3), (.int p4), (.int p5)] maxLocals)) t := fun t k => go55 t (by
      show Steps p.tables e below (T54.setTop (mkF m 75 #[.val (.int p1), .val (.int p2), .val (.int p3), .val (.int p4), .val (.int p5), .val (.int (3 : Int32)), .val (.int xa), .val (.int xb), .val (.int xc), .val (.int xd), .val (.ref b45), .unset] [])) _
      refine XS.iload X54.here hx rfl (hb hby at_75) rfl ?_
      show Steps p.tables e below (T54.setTop (mkF m 77 #[.val (.int p1), .val (.int p2), .val (.int p3), .val (.int p4), .val (.int p5), .val (.int (3 : Int32)), .val (.int xa), .val (.int xb), .val (.int xc), .val (.int xd), .val (.ref b45), .unset] [(.int (3 : Int32))])) _
      refine XS.iconst X54.here hx rfl (hb hby at_77) ?_
      show Steps p.tables e below (T54.setTop (mkF m 78 #[.val (.int p1), .val (.int p2), .val (.int p3), .val (.int p4), .val (.int p5), .val (.int (3 : Int32)), .val (.int xa), .val (.int xb), .val (.int xc), .val (.int xd), .val (.ref b45), .unset] [(.int (4 : Int32)), (.int (3 : Int32))])) _
      refine XS.icmpYes X54.here hx rfl (pc0 := 78) (pc' := 87) rfl (hb hby at_78) rfl (tlt (by decide : (3 : Int32) < (4 : Int32))).1 (by decide) (by decide) ?_
      show Steps p.tables e below (T54.setTop (mkF m 87 #[.val (.int p1), .val (.int p2), .val (.int p3), .val (.int p4), .val (.int p5), .val (.int (3 : Int32)), .val (.int xa), .val (.int xb), .val (.int xc), .val (.int xd), .val (.ref b45), .unset] [])) _
      refine XS.aload X54.here hx rfl (hb hby at_87) rfl rfl ?_
      exact k)
    obtain ⟨_, _, ⟨T57, L57, k57, n57⟩, -, X57, ⟨Lc57, hQ57, l57, y57, z57⟩, st57⟩ := Jvm.LawKit.callS X54 hx (y := (⟨"com/example/inlet/inlet/compiler/ArrayValue", "fits", "([I)Z"⟩ : MethodName)) hown (mvT hZ (hw _ (List.mem_of_getElem? (i := 2) rfl))) (mvT hZ (hw _ (List.mem_of_getElem? (i := 3) rfl))) (mvT hZ (hw _ (List.mem_of_getElem? (i := 4) rfl))) (mvT hZ (hw _ (List.mem_of_getElem? (i := 5) rfl))) (by decide) (backOf (W := 0) (rm_fits3 l Z a0 hw [] b45 k45 xa xb xc h54 n0 (Nat.le_trans (Nat.le_trans (Nat.le_trans (Nat.le_trans Z0 E45.1) (Keep.of_wr W48).1) (Keep.of_wr W51).1) (Keep.of_wr W54).1) V54) hZ (hw _ (List.mem_of_getElem? (i := 5) rfl)) (hw _ (List.mem_of_getElem? (i := 4) rfl)) (by decide) (by decide)) (g := (mkF m 89 #[.val (.int p1), .val (.int p2), .val (.int p3), .val (.int p4), .val (.int p5), .val (.int (3 : Int32)), .val (.int xa), .val (.int xb), .val (.int xc), .val (.int xd), .val (.ref b45), .unset] [(.ref b45)])) rfl (by rw [hml]; rfl) (argsL := [(.ref b45)]) (rest := []) (lenOf pd_1 rfl) rfl (by show 2 * 0 + _ ≤ _; exact Nat.le_of_eq rfl) (hb hby at_89) (fun _ _ => ⟨rfl, e54, (by decide : 1 + 0 ≤ _), (by decide : 3 + 0 ≤ _)⟩)
    dsimp only [Pt.U, Pt.locs, Pt.cells, Pt.slots] at X57 l57 y57 z57 st57 hQ57
    subst l57 y57 z57
    obtain ⟨rfl, N57q, e57⟩ := hQ57
    have N57 := Fr.app N54 N57q
    have go58 : ∀ t, Steps p.tables e below (T57.setTop (mkF m 92 #[.val (.int p1), .val (.int p2), .val (.int p3), .val (.int p4), .val (.int p5), .val (.int (3 : Int32)), .val (.int xa), .val (.int xb), .val (.int xc), .val (.int xd), .val (.ref b45), .unset] [(.int (own_fits3 xa xb xc))])) t → Steps p.tables e below (s₁.setTop (entryFrame m #[(.int p1), (.int p2), (.int p3), (.int p4), (.int p5)] maxLocals)) t := fun t k => go56 t (st57 t k)
    have go59 : ∀ t, Steps p.tables e below (T57.setTop (mkF m 106 #[.val (.int p1), .val (.int p2), .val (.int p3), .val (.int p4), .val (.int p5), .val (.int (3 : Int32)), .val (.int xa), .val (.int xb), .val (.int xc), .val (.int xd), .val (.ref b45), .val (.int (own_fits3 xa xb xc))] [(.int xd), (.int xc), (.int xb), (.int xa), (.int (3 : Int32)), (.int (own_fits3 xa xb xc))])) t → Steps p.tables e below (s₁.setTop (entryFrame m #[(.int p1), (.int p2), (.int p3), (.int p4), (.int p5)] maxLocals)) t := fun t k => go58 t (by
      show Steps p.tables e below (T57.setTop (mkF m 92 #[.val (.int p1), .val (.int p2), .val (.int p3), .val (.int p4), .val (.int p5), .val (.int (3 : Int32)), .val (.int xa), .val (.int xb), .val (.int xc), .val (.int xd), .val (.ref b45), .unset] [(.int (own_fits3 xa xb xc))])) _
      refine XS.istore X57.here hx rfl (hb hby at_92) rfl (l' := #[.val (.int p1), .val (.int p2), .val (.int p3), .val (.int p4), .val (.int p5), .val (.int (3 : Int32)), .val (.int xa), .val (.int xb), .val (.int xc), .val (.int xd), .val (.ref b45), .val (.int (own_fits3 xa xb xc))]) rfl ?_
      show Steps p.tables e below (T57.setTop (mkF m 94 #[.val (.int p1), .val (.int p2), .val (.int p3), .val (.int p4), .val (.int p5), .val (.int (3 : Int32)), .val (.int xa), .val (.int xb), .val (.int xc), .val (.int xd), .val (.ref b45), .val (.int (own_fits3 xa xb xc))] [])) _
      refine XS.iload X57.here hx rfl (hb hby at_94) rfl ?_
      show Steps p.tables e below (T57.setTop (mkF m 96 #[.val (.int p1), .val (.int p2), .val (.int p3), .val (.int p4), .val (.int p5), .val (.int (3 : Int32)), .val (.int xa), .val (.int xb), .val (.int xc), .val (.int xd), .val (.ref b45), .val (.int (own_fits3 xa xb xc))] [(.int (own_fits3 xa xb xc))])) _
      refine XS.iload X57.here hx rfl (hb hby at_96) rfl ?_
      show Steps p.tables e below (T57.setTop (mkF m 98 #[.val (.int p1), .val (.int p2), .val (.int p3), .val (.int p4), .val (.int p5), .val (.int (3 : Int32)), .val (.int xa), .val (.int xb), .val (.int xc), .val (.int xd), .val (.ref b45), .val (.int (own_fits3 xa xb xc))] [(.int (3 : Int32)), (.int (own_fits3 xa xb xc))])) _
      refine XS.iload X57.here hx rfl (hb hby at_98) rfl ?_
      show Steps p.tables e below (T57.setTop (mkF m 100 #[.val (.int p1), .val (.int p2), .val (.int p3), .val (.int p4), .val (.int p5), .val (.int (3 : Int32)), .val (.int xa), .val (.int xb), .val (.int xc), .val (.int xd), .val (.ref b45), .val (.int (own_fits3 xa xb xc))] [(.int xa), (.int (3 : Int32)), (.int (own_fits3 xa xb xc))])) _
      refine XS.iload X57.here hx rfl (hb hby at_100) rfl ?_
      show Steps p.tables e below (T57.setTop (mkF m 102 #[.val (.int p1), .val (.int p2), .val (.int p3), .val (.int p4), .val (.int p5), .val (.int (3 : Int32)), .val (.int xa), .val (.int xb), .val (.int xc), .val (.int xd), .val (.ref b45), .val (.int (own_fits3 xa xb xc))] [(.int xb), (.int xa), (.int (3 : Int32)), (.int (own_fits3 xa xb xc))])) _
      refine XS.iload X57.here hx rfl (hb hby at_102) rfl ?_
      show Steps p.tables e below (T57.setTop (mkF m 104 #[.val (.int p1), .val (.int p2), .val (.int p3), .val (.int p4), .val (.int p5), .val (.int (3 : Int32)), .val (.int xa), .val (.int xb), .val (.int xc), .val (.int xd), .val (.ref b45), .val (.int (own_fits3 xa xb xc))] [(.int xc), (.int xb), (.int xa), (.int (3 : Int32)), (.int (own_fits3 xa xb xc))])) _
      refine XS.iload X57.here hx rfl (hb hby at_104) rfl ?_
      exact k)
    obtain ⟨_, _, ⟨T60, L60, k60, n60⟩, -, X60, ⟨Lc60, hQ60, l60, y60, z60⟩, st60⟩ := Jvm.LawKit.callS X57 hx (y := (⟨"com/example/inlet/inlet/compiler/ArrayValueFitsPinLaw", "expected", "(IIIII)Z"⟩ : MethodName)) hown (mvT hZ (hw _ (List.mem_of_getElem? (i := 7) rfl))) (mvT hZ (hw _ (List.mem_of_getElem? (i := 8) rfl))) (mvT hZ (hw _ (List.mem_of_getElem? (i := 9) rfl))) (mvT hZ (hw _ (List.mem_of_getElem? (i := 10) rfl))) (by decide) (backOf (W := 1) (rm_exp3 l Z a0 hw [] xa xb xc xd h54 n0 (Nat.le_trans (Nat.le_trans (Nat.le_trans (Nat.le_trans Z0 E45.1) (Keep.of_wr W48).1) (Keep.of_wr W51).1) (Keep.of_wr W54).1) ) hZ (hw _ (List.mem_of_getElem? (i := 10) rfl)) (hw _ (List.mem_of_getElem? (i := 9) rfl)) (by decide) (by decide)) (g := (mkF m 106 #[.val (.int p1), .val (.int p2), .val (.int p3), .val (.int p4), .val (.int p5), .val (.int (3 : Int32)), .val (.int xa), .val (.int xb), .val (.int xc), .val (.int xd), .val (.ref b45), .val (.int (own_fits3 xa xb xc))] [(.int xd), (.int xc), (.int xb), (.int xa), (.int (3 : Int32)), (.int (own_fits3 xa xb xc))])) rfl (by rw [hml]; rfl) (argsL := [(.int (3 : Int32)), (.int xa), (.int xb), (.int xc), (.int xd)]) (rest := [(.int (own_fits3 xa xb xc))]) (lenOf pd_2 rfl) rfl (by show 2 * 0 + _ ≤ _; exact Nat.le_of_eq rfl) (hb hby at_106) (fun _ _ => ⟨rfl, e57, (by decide : 1 + 0 ≤ _), (by decide : 3 + 0 ≤ _)⟩)
    dsimp only [Pt.U, Pt.locs, Pt.cells, Pt.slots] at X60 l60 y60 z60 st60 hQ60
    subst l60 y60 z60
    obtain ⟨rfl, N60q, e60⟩ := hQ60
    have N60 := Fr.app N57 N60q
    have go61 : ∀ t, Steps p.tables e below (T60.setTop (mkF m 109 #[.val (.int p1), .val (.int p2), .val (.int p3), .val (.int p4), .val (.int p5), .val (.int (3 : Int32)), .val (.int xa), .val (.int xb), .val (.int xc), .val (.int xd), .val (.ref b45), .val (.int (own_fits3 xa xb xc))] [(.int (own_exp3 xa xb xc xd)), (.int (own_fits3 xa xb xc))])) t → Steps p.tables e below (s₁.setTop (entryFrame m #[(.int p1), (.int p2), (.int p3), (.int p4), (.int p5)] maxLocals)) t := fun t k => go59 t (st60 t k)
    have go62 : ∀ t, Steps p.tables e below (T60.setTop (mkF m 117 #[.val (.int p1), .val (.int p2), .val (.int p3), .val (.int p4), .val (.int p5), .val (.int (3 : Int32)), .val (.int xa), .val (.int xb), .val (.int xc), .val (.int xd), .val (.ref b45), .val (.int (own_fits3 xa xb xc))] [(.int (1 : Int32))])) t → Steps p.tables e below (s₁.setTop (entryFrame m #[(.int p1), (.int p2), (.int p3), (.int p4), (.int p5)] maxLocals)) t := fun t k => go61 t (by
      show Steps p.tables e below (T60.setTop (mkF m 109 #[.val (.int p1), .val (.int p2), .val (.int p3), .val (.int p4), .val (.int p5), .val (.int (3 : Int32)), .val (.int xa), .val (.int xb), .val (.int xc), .val (.int xd), .val (.ref b45), .val (.int (own_fits3 xa xb xc))] [(.int (own_exp3 xa xb xc xd)), (.int (own_fits3 xa xb xc))])) _
      refine XS.icmpNo X60.here hx rfl (hb hby at_109) rfl (teq (own_agree3 xa xb xc xd gxa gxb gxc)).2 ?_
      show Steps p.tables e below (T60.setTop (mkF m 112 #[.val (.int p1), .val (.int p2), .val (.int p3), .val (.int p4), .val (.int p5), .val (.int (3 : Int32)), .val (.int xa), .val (.int xb), .val (.int xc), .val (.int xd), .val (.ref b45), .val (.int (own_fits3 xa xb xc))] [])) _
      refine XS.iconst X60.here hx rfl (hb hby at_112) ?_
      show Steps p.tables e below (T60.setTop (mkF m 113 #[.val (.int p1), .val (.int p2), .val (.int p3), .val (.int p4), .val (.int p5), .val (.int (3 : Int32)), .val (.int xa), .val (.int xb), .val (.int xc), .val (.int xd), .val (.ref b45), .val (.int (own_fits3 xa xb xc))] [(.int (1 : Int32))])) _
      refine XS.goto X60.here hx rfl (pc0 := 113) (pc' := 117) rfl (hb hby at_113) (by decide) (by decide) ?_
      exact k)
    obtain ⟨fs, hr, hrun, hended, hW, hsame⟩ := X60.leave (v := some (.int (1 : Int32))) (fun h => by rw [Bd.returns] at h; cases h)
    refine ⟨_, _, go62 _ ?_, hrun, hended, _, _, rfl, ?_, ⟨_, rfl⟩, hW, hsame.mono (by decide) (by decide)⟩
    · exact retN X60 hx (t := .boolean) Bd.returns (by simp) (hb hby at_117) hr
    · show QL n0 _ T60.heap _
      rw [e60]
      exact ⟨rfl, N60⟩
  · rw [hn] at go4
    have go63 : ∀ t, Steps p.tables e below (s₁.setTop (mkF m 35 #[.val (.int p1), .val (.int p2), .val (.int p3), .val (.int p4), .val (.int p5), .val (.int (4 : Int32)), .val (.int xa), .val (.int xb), .val (.int xc), .val (.int xd), .unset, .unset] [(.int (4 : Int32))])) t → Steps p.tables e below (s₁.setTop (entryFrame m #[(.int p1), (.int p2), (.int p3), (.int p4), (.int p5)] maxLocals)) t := fun t k => go4 t (by
      show Steps p.tables e below (s₁.setTop (mkF m 33 #[.val (.int p1), .val (.int p2), .val (.int p3), .val (.int p4), .val (.int p5), .val (.int (4 : Int32)), .val (.int xa), .val (.int xb), .val (.int xc), .val (.int xd), .unset, .unset] [])) _
      refine XS.iload X0.here hx rfl (hb hby at_33) rfl ?_
      exact k)
    obtain ⟨T64, h64, k64, X64, e64, E64, A64, st64⟩ := newP X0 hx hZ (hw _ (List.mem_of_getElem? (i := 1) rfl)) e0 (g := (mkF m 35 #[.val (.int p1), .val (.int p2), .val (.int p3), .val (.int p4), .val (.int p5), .val (.int (4 : Int32)), .val (.int xa), .val (.int xb), .val (.int xc), .val (.int xd), .unset, .unset] [(.int (4 : Int32))])) rfl (hb hby at_35) rfl (by decide) (cap := 4) (by decide) (by decide) (by decide) (by decide)
    obtain ⟨b64, g64⟩ : ∃ z, z = h0.size := ⟨_, rfl⟩
    rw [← g64] at A64 st64
    have g_b64 : n0 ≤ b64 := Nat.le_trans Z0 (Nat.le_of_eq g64.symm)
    have V64 : Arv Z h64 b64 k64 .int (4 : Int32) [(.int (0 : Int32)), (.int (0 : Int32)), (.int (0 : Int32)), (.int (0 : Int32))] (.int (0 : Int32)) := (Arv.new A64 (by decide)).pad (pad_rep [] (.int (0 : Int32)) 4)
    have go65 : ∀ t, Steps p.tables e below (T64.setTop (mkF m 37 #[.val (.int p1), .val (.int p2), .val (.int p3), .val (.int p4), .val (.int p5), .val (.int (4 : Int32)), .val (.int xa), .val (.int xb), .val (.int xc), .val (.int xd), .unset, .unset] [(.ref b64)])) t → Steps p.tables e below (s₁.setTop (entryFrame m #[(.int p1), (.int p2), (.int p3), (.int p4), (.int p5)] maxLocals)) t := fun t k => go63 t (st64 t k)
    have go66 : ∀ t, Steps p.tables e below (T64.setTop (mkF m 50 #[.val (.int p1), .val (.int p2), .val (.int p3), .val (.int p4), .val (.int p5), .val (.int (4 : Int32)), .val (.int xa), .val (.int xb), .val (.int xc), .val (.int xd), .val (.ref b64), .unset] [(.int xa), (.int (0 : Int32)), (.ref b64)])) t → Steps p.tables e below (s₁.setTop (entryFrame m #[(.int p1), (.int p2), (.int p3), (.int p4), (.int p5)] maxLocals)) t := fun t k => go65 t (by
      show Steps p.tables e below (T64.setTop (mkF m 37 #[.val (.int p1), .val (.int p2), .val (.int p3), .val (.int p4), .val (.int p5), .val (.int (4 : Int32)), .val (.int xa), .val (.int xb), .val (.int xc), .val (.int xd), .unset, .unset] [(.ref b64)])) _
      refine XS.astore X64.here hx rfl (hb hby at_37) rfl rfl (l' := #[.val (.int p1), .val (.int p2), .val (.int p3), .val (.int p4), .val (.int p5), .val (.int (4 : Int32)), .val (.int xa), .val (.int xb), .val (.int xc), .val (.int xd), .val (.ref b64), .unset]) rfl ?_
      show Steps p.tables e below (T64.setTop (mkF m 39 #[.val (.int p1), .val (.int p2), .val (.int p3), .val (.int p4), .val (.int p5), .val (.int (4 : Int32)), .val (.int xa), .val (.int xb), .val (.int xc), .val (.int xd), .val (.ref b64), .unset] [])) _
      refine XS.iload X64.here hx rfl (hb hby at_39) rfl ?_
      show Steps p.tables e below (T64.setTop (mkF m 41 #[.val (.int p1), .val (.int p2), .val (.int p3), .val (.int p4), .val (.int p5), .val (.int (4 : Int32)), .val (.int xa), .val (.int xb), .val (.int xc), .val (.int xd), .val (.ref b64), .unset] [(.int (4 : Int32))])) _
      refine XS.iconst X64.here hx rfl (hb hby at_41) ?_
      show Steps p.tables e below (T64.setTop (mkF m 42 #[.val (.int p1), .val (.int p2), .val (.int p3), .val (.int p4), .val (.int p5), .val (.int (4 : Int32)), .val (.int xa), .val (.int xb), .val (.int xc), .val (.int xd), .val (.ref b64), .unset] [(.int (1 : Int32)), (.int (4 : Int32))])) _
      refine XS.icmpNo X64.here hx rfl (hb hby at_42) rfl (flt (by decide : ¬ ((4 : Int32) < (1 : Int32)))).1 ?_
      show Steps p.tables e below (T64.setTop (mkF m 45 #[.val (.int p1), .val (.int p2), .val (.int p3), .val (.int p4), .val (.int p5), .val (.int (4 : Int32)), .val (.int xa), .val (.int xb), .val (.int xc), .val (.int xd), .val (.ref b64), .unset] [])) _
      refine XS.aload X64.here hx rfl (hb hby at_45) rfl rfl ?_
      show Steps p.tables e below (T64.setTop (mkF m 47 #[.val (.int p1), .val (.int p2), .val (.int p3), .val (.int p4), .val (.int p5), .val (.int (4 : Int32)), .val (.int xa), .val (.int xb), .val (.int xc), .val (.int xd), .val (.ref b64), .unset] [(.ref b64)])) _
      refine XS.iconst X64.here hx rfl (hb hby at_47) ?_
      show Steps p.tables e below (T64.setTop (mkF m 48 #[.val (.int p1), .val (.int p2), .val (.int p3), .val (.int p4), .val (.int p5), .val (.int (4 : Int32)), .val (.int xa), .val (.int xb), .val (.int xc), .val (.int xd), .val (.ref b64), .unset] [(.int (0 : Int32)), (.ref b64)])) _
      refine XS.iload X64.here hx rfl (hb hby at_48) rfl ?_
      exact k)
    obtain ⟨cl67, Ar67, q67, S67, M67, H67, G67⟩ := id V64
    obtain ⟨T67, h67, X67, e67, W67, st67⟩ := stI X64 hx hZ e64 Ar67 (j := (0 : Int32)) (inb_of S67 ⟨by decide, by decide⟩) (g := (mkF m 50 #[.val (.int p1), .val (.int p2), .val (.int p3), .val (.int p4), .val (.int p5), .val (.int (4 : Int32)), .val (.int xa), .val (.int xb), .val (.int xc), .val (.int xd), .val (.ref b64), .unset] [(.int xa), (.int (0 : Int32)), (.ref b64)])) rfl rfl (hb hby at_50)
    have V67 : Arv Z h67 b64 k64 .int (4 : Int32) [(.int xa), (.int (0 : Int32)), (.int (0 : Int32)), (.int (0 : Int32))] (.int (0 : Int32)) := Arv.set Ar67 q67 S67 M67 H67 G67 rfl W67 0 rfl (Nat.le_of_ble_eq_true rfl)
    have N67 := Fr.snoc X67 N0 g_b64
    have go68 : ∀ t, Steps p.tables e below (T67.setTop (mkF m 51 #[.val (.int p1), .val (.int p2), .val (.int p3), .val (.int p4), .val (.int p5), .val (.int (4 : Int32)), .val (.int xa), .val (.int xb), .val (.int xc), .val (.int xd), .val (.ref b64), .unset] [])) t → Steps p.tables e below (s₁.setTop (entryFrame m #[(.int p1), (.int p2), (.int p3), (.int p4), (.int p5)] maxLocals)) t := fun t k => go66 t (st67 t k)
    have go69 : ∀ t, Steps p.tables e below (T67.setTop (mkF m 62 #[.val (.int p1), .val (.int p2), .val (.int p3), .val (.int p4), .val (.int p5), .val (.int (4 : Int32)), .val (.int xa), .val (.int xb), .val (.int xc), .val (.int xd), .val (.ref b64), .unset] [(.int xb), (.int (1 : Int32)), (.ref b64)])) t → Steps p.tables e below (s₁.setTop (entryFrame m #[(.int p1), (.int p2), (.int p3), (.int p4), (.int p5)] maxLocals)) t := fun t k => go68 t (by
      show Steps p.tables e below (T67.setTop (mkF m 51 #[.val (.int p1), .val (.int p2), .val (.int p3), .val (.int p4), .val (.int p5), .val (.int (4 : Int32)), .val (.int xa), .val (.int xb), .val (.int xc), .val (.int xd), .val (.ref b64), .unset] [])) _
      refine XS.iload X67.here hx rfl (hb hby at_51) rfl ?_
      show Steps p.tables e below (T67.setTop (mkF m 53 #[.val (.int p1), .val (.int p2), .val (.int p3), .val (.int p4), .val (.int p5), .val (.int (4 : Int32)), .val (.int xa), .val (.int xb), .val (.int xc), .val (.int xd), .val (.ref b64), .unset] [(.int (4 : Int32))])) _
      refine XS.iconst X67.here hx rfl (hb hby at_53) ?_
      show Steps p.tables e below (T67.setTop (mkF m 54 #[.val (.int p1), .val (.int p2), .val (.int p3), .val (.int p4), .val (.int p5), .val (.int (4 : Int32)), .val (.int xa), .val (.int xb), .val (.int xc), .val (.int xd), .val (.ref b64), .unset] [(.int (2 : Int32)), (.int (4 : Int32))])) _
      refine XS.icmpNo X67.here hx rfl (hb hby at_54) rfl (flt (by decide : ¬ ((4 : Int32) < (2 : Int32)))).1 ?_
      show Steps p.tables e below (T67.setTop (mkF m 57 #[.val (.int p1), .val (.int p2), .val (.int p3), .val (.int p4), .val (.int p5), .val (.int (4 : Int32)), .val (.int xa), .val (.int xb), .val (.int xc), .val (.int xd), .val (.ref b64), .unset] [])) _
      refine XS.aload X67.here hx rfl (hb hby at_57) rfl rfl ?_
      show Steps p.tables e below (T67.setTop (mkF m 59 #[.val (.int p1), .val (.int p2), .val (.int p3), .val (.int p4), .val (.int p5), .val (.int (4 : Int32)), .val (.int xa), .val (.int xb), .val (.int xc), .val (.int xd), .val (.ref b64), .unset] [(.ref b64)])) _
      refine XS.iconst X67.here hx rfl (hb hby at_59) ?_
      show Steps p.tables e below (T67.setTop (mkF m 60 #[.val (.int p1), .val (.int p2), .val (.int p3), .val (.int p4), .val (.int p5), .val (.int (4 : Int32)), .val (.int xa), .val (.int xb), .val (.int xc), .val (.int xd), .val (.ref b64), .unset] [(.int (1 : Int32)), (.ref b64)])) _
      refine XS.iload X67.here hx rfl (hb hby at_60) rfl ?_
      exact k)
    obtain ⟨cl70, Ar70, q70, S70, M70, H70, G70⟩ := id V67
    obtain ⟨T70, h70, X70, e70, W70, st70⟩ := stI X67 hx hZ e67 Ar70 (j := (1 : Int32)) (inb_of S70 ⟨by decide, by decide⟩) (g := (mkF m 62 #[.val (.int p1), .val (.int p2), .val (.int p3), .val (.int p4), .val (.int p5), .val (.int (4 : Int32)), .val (.int xa), .val (.int xb), .val (.int xc), .val (.int xd), .val (.ref b64), .unset] [(.int xb), (.int (1 : Int32)), (.ref b64)])) rfl rfl (hb hby at_62)
    have V70 : Arv Z h70 b64 k64 .int (4 : Int32) [(.int xa), (.int xb), (.int (0 : Int32)), (.int (0 : Int32))] (.int (0 : Int32)) := Arv.set Ar70 q70 S70 M70 H70 G70 rfl W70 1 rfl (Nat.le_of_ble_eq_true rfl)
    have N70 := Fr.snoc X70 N67 g_b64
    have go71 : ∀ t, Steps p.tables e below (T70.setTop (mkF m 63 #[.val (.int p1), .val (.int p2), .val (.int p3), .val (.int p4), .val (.int p5), .val (.int (4 : Int32)), .val (.int xa), .val (.int xb), .val (.int xc), .val (.int xd), .val (.ref b64), .unset] [])) t → Steps p.tables e below (s₁.setTop (entryFrame m #[(.int p1), (.int p2), (.int p3), (.int p4), (.int p5)] maxLocals)) t := fun t k => go69 t (st70 t k)
    have go72 : ∀ t, Steps p.tables e below (T70.setTop (mkF m 74 #[.val (.int p1), .val (.int p2), .val (.int p3), .val (.int p4), .val (.int p5), .val (.int (4 : Int32)), .val (.int xa), .val (.int xb), .val (.int xc), .val (.int xd), .val (.ref b64), .unset] [(.int xc), (.int (2 : Int32)), (.ref b64)])) t → Steps p.tables e below (s₁.setTop (entryFrame m #[(.int p1), (.int p2), (.int p3), (.int p4), (.int p5)] maxLocals)) t := fun t k => go71 t (by
      show Steps p.tables e below (T70.setTop (mkF m 63 #[.val (.int p1), .val (.int p2), .val (.int p3), .val (.int p4), .val (.int p5), .val (.int (4 : Int32)), .val (.int xa), .val (.int xb), .val (.int xc), .val (.int xd), .val (.ref b64), .unset] [])) _
      refine XS.iload X70.here hx rfl (hb hby at_63) rfl ?_
      show Steps p.tables e below (T70.setTop (mkF m 65 #[.val (.int p1), .val (.int p2), .val (.int p3), .val (.int p4), .val (.int p5), .val (.int (4 : Int32)), .val (.int xa), .val (.int xb), .val (.int xc), .val (.int xd), .val (.ref b64), .unset] [(.int (4 : Int32))])) _
      refine XS.iconst X70.here hx rfl (hb hby at_65) ?_
      show Steps p.tables e below (T70.setTop (mkF m 66 #[.val (.int p1), .val (.int p2), .val (.int p3), .val (.int p4), .val (.int p5), .val (.int (4 : Int32)), .val (.int xa), .val (.int xb), .val (.int xc), .val (.int xd), .val (.ref b64), .unset] [(.int (3 : Int32)), (.int (4 : Int32))])) _
      refine XS.icmpNo X70.here hx rfl (hb hby at_66) rfl (flt (by decide : ¬ ((4 : Int32) < (3 : Int32)))).1 ?_
      show Steps p.tables e below (T70.setTop (mkF m 69 #[.val (.int p1), .val (.int p2), .val (.int p3), .val (.int p4), .val (.int p5), .val (.int (4 : Int32)), .val (.int xa), .val (.int xb), .val (.int xc), .val (.int xd), .val (.ref b64), .unset] [])) _
      refine XS.aload X70.here hx rfl (hb hby at_69) rfl rfl ?_
      show Steps p.tables e below (T70.setTop (mkF m 71 #[.val (.int p1), .val (.int p2), .val (.int p3), .val (.int p4), .val (.int p5), .val (.int (4 : Int32)), .val (.int xa), .val (.int xb), .val (.int xc), .val (.int xd), .val (.ref b64), .unset] [(.ref b64)])) _
      refine XS.iconst X70.here hx rfl (hb hby at_71) ?_
      show Steps p.tables e below (T70.setTop (mkF m 72 #[.val (.int p1), .val (.int p2), .val (.int p3), .val (.int p4), .val (.int p5), .val (.int (4 : Int32)), .val (.int xa), .val (.int xb), .val (.int xc), .val (.int xd), .val (.ref b64), .unset] [(.int (2 : Int32)), (.ref b64)])) _
      refine XS.iload X70.here hx rfl (hb hby at_72) rfl ?_
      exact k)
    obtain ⟨cl73, Ar73, q73, S73, M73, H73, G73⟩ := id V70
    obtain ⟨T73, h73, X73, e73, W73, st73⟩ := stI X70 hx hZ e70 Ar73 (j := (2 : Int32)) (inb_of S73 ⟨by decide, by decide⟩) (g := (mkF m 74 #[.val (.int p1), .val (.int p2), .val (.int p3), .val (.int p4), .val (.int p5), .val (.int (4 : Int32)), .val (.int xa), .val (.int xb), .val (.int xc), .val (.int xd), .val (.ref b64), .unset] [(.int xc), (.int (2 : Int32)), (.ref b64)])) rfl rfl (hb hby at_74)
    have V73 : Arv Z h73 b64 k64 .int (4 : Int32) [(.int xa), (.int xb), (.int xc), (.int (0 : Int32))] (.int (0 : Int32)) := Arv.set Ar73 q73 S73 M73 H73 G73 rfl W73 2 rfl (Nat.le_of_ble_eq_true rfl)
    have N73 := Fr.snoc X73 N70 g_b64
    have go74 : ∀ t, Steps p.tables e below (T73.setTop (mkF m 75 #[.val (.int p1), .val (.int p2), .val (.int p3), .val (.int p4), .val (.int p5), .val (.int (4 : Int32)), .val (.int xa), .val (.int xb), .val (.int xc), .val (.int xd), .val (.ref b64), .unset] [])) t → Steps p.tables e below (s₁.setTop (entryFrame m #[(.int p1), (.int p2), (.int p3), (.int p4), (.int p5)] maxLocals)) t := fun t k => go72 t (st73 t k)
    have go75 : ∀ t, Steps p.tables e below (T73.setTop (mkF m 86 #[.val (.int p1), .val (.int p2), .val (.int p3), .val (.int p4), .val (.int p5), .val (.int (4 : Int32)), .val (.int xa), .val (.int xb), .val (.int xc), .val (.int xd), .val (.ref b64), .unset] [(.int xd), (.int (3 : Int32)), (.ref b64)])) t → Steps p.tables e below (s₁.setTop (entryFrame m #[(.int p1), (.int p2), (.int p3), (.int p4), (.int p5)] maxLocals)) t := fun t k => go74 t (by
      show Steps p.tables e below (T73.setTop (mkF m 75 #[.val (.int p1), .val (.int p2), .val (.int p3), .val (.int p4), .val (.int p5), .val (.int (4 : Int32)), .val (.int xa), .val (.int xb), .val (.int xc), .val (.int xd), .val (.ref b64), .unset] [])) _
      refine XS.iload X73.here hx rfl (hb hby at_75) rfl ?_
      show Steps p.tables e below (T73.setTop (mkF m 77 #[.val (.int p1), .val (.int p2), .val (.int p3), .val (.int p4), .val (.int p5), .val (.int (4 : Int32)), .val (.int xa), .val (.int xb), .val (.int xc), .val (.int xd), .val (.ref b64), .unset] [(.int (4 : Int32))])) _
      refine XS.iconst X73.here hx rfl (hb hby at_77) ?_
      show Steps p.tables e below (T73.setTop (mkF m 78 #[.val (.int p1), .val (.int p2), .val (.int p3), .val (.int p4), .val (.int p5), .val (.int (4 : Int32)), .val (.int xa), .val (.int xb), .val (.int xc), .val (.int xd), .val (.ref b64), .unset] [(.int (4 : Int32)), (.int (4 : Int32))])) _
      refine XS.icmpNo X73.here hx rfl (hb hby at_78) rfl (flt (by decide : ¬ ((4 : Int32) < (4 : Int32)))).1 ?_
      show Steps p.tables e below (T73.setTop (mkF m 81 #[.val (.int p1), .val (.int p2), .val (.int p3), .val (.int p4), .val (.int p5), .val (.int (4 : Int32)), .val (.int xa), .val (.int xb), .val (.int xc), .val (.int xd), .val (.ref b64), .unset] [])) _
      refine XS.aload X73.here hx rfl (hb hby at_81) rfl rfl ?_
      show Steps p.tables e below (T73.setTop (mkF m 83 #[.val (.int p1), .val (.int p2), .val (.int p3), .val (.int p4), .val (.int p5), .val (.int (4 : Int32)), .val (.int xa), .val (.int xb), .val (.int xc), .val (.int xd), .val (.ref b64), .unset] [(.ref b64)])) _
      refine XS.iconst X73.here hx rfl (hb hby at_83) ?_
      show Steps p.tables e below (T73.setTop (mkF m 84 #[.val (.int p1), .val (.int p2), .val (.int p3), .val (.int p4), .val (.int p5), .val (.int (4 : Int32)), .val (.int xa), .val (.int xb), .val (.int xc), .val (.int xd), .val (.ref b64), .unset] [(.int (3 : Int32)), (.ref b64)])) _
      refine XS.iload X73.here hx rfl (hb hby at_84) rfl ?_
      exact k)
    obtain ⟨cl76, Ar76, q76, S76, M76, H76, G76⟩ := id V73
    obtain ⟨T76, h76, X76, e76, W76, st76⟩ := stI X73 hx hZ e73 Ar76 (j := (3 : Int32)) (inb_of S76 ⟨by decide, by decide⟩) (g := (mkF m 86 #[.val (.int p1), .val (.int p2), .val (.int p3), .val (.int p4), .val (.int p5), .val (.int (4 : Int32)), .val (.int xa), .val (.int xb), .val (.int xc), .val (.int xd), .val (.ref b64), .unset] [(.int xd), (.int (3 : Int32)), (.ref b64)])) rfl rfl (hb hby at_86)
    have V76 : Arv Z h76 b64 k64 .int (4 : Int32) [(.int xa), (.int xb), (.int xc), (.int xd)] (.int (0 : Int32)) := Arv.set Ar76 q76 S76 M76 H76 G76 rfl W76 3 rfl (Nat.le_of_ble_eq_true rfl)
    have N76 := Fr.snoc X76 N73 g_b64
    have go77 : ∀ t, Steps p.tables e below (T76.setTop (mkF m 87 #[.val (.int p1), .val (.int p2), .val (.int p3), .val (.int p4), .val (.int p5), .val (.int (4 : Int32)), .val (.int xa), .val (.int xb), .val (.int xc), .val (.int xd), .val (.ref b64), .unset] [])) t → Steps p.tables e below (s₁.setTop (entryFrame m #[(.int p1), (.int p2), (.int p3), (.int p4), (.int p5)] maxLocals)) t := fun t k => go75 t (st76 t k)
    have go78 : ∀ t, Steps p.tables e below (T76.setTop (mkF m 89 #[.val (.int p1), .val (.int p2), .val (.int p3), .val (.int p4), .val (.int p5), .val (.int (4 : Int32)), .val (.int xa), .val (.int xb), .val (.int xc), .val (.int xd), .val (.ref b64), .unset] [(.ref b64)])) t → Steps p.tables e below (s₁.setTop (entryFrame m #[(.int p1), (.int p2), (.int p3), (.int p4), (.int p5)] maxLocals)) t := fun t k => go77 t (by
      show Steps p.tables e below (T76.setTop (mkF m 87 #[.val (.int p1), .val (.int p2), .val (.int p3), .val (.int p4), .val (.int p5), .val (.int (4 : Int32)), .val (.int xa), .val (.int xb), .val (.int xc), .val (.int xd), .val (.ref b64), .unset] [])) _
      refine XS.aload X76.here hx rfl (hb hby at_87) rfl rfl ?_
      exact k)
    obtain ⟨_, _, ⟨T79, L79, k79, n79⟩, -, X79, ⟨Lc79, hQ79, l79, y79, z79⟩, st79⟩ := Jvm.LawKit.callS X76 hx (y := (⟨"com/example/inlet/inlet/compiler/ArrayValue", "fits", "([I)Z"⟩ : MethodName)) hown (mvT hZ (hw _ (List.mem_of_getElem? (i := 2) rfl))) (mvT hZ (hw _ (List.mem_of_getElem? (i := 3) rfl))) (mvT hZ (hw _ (List.mem_of_getElem? (i := 4) rfl))) (mvT hZ (hw _ (List.mem_of_getElem? (i := 5) rfl))) (by decide) (backOf (W := 0) (rm_fits4 l Z a0 hw [] b64 k64 xa xb xc xd h76 n0 (Nat.le_trans (Nat.le_trans (Nat.le_trans (Nat.le_trans (Nat.le_trans Z0 E64.1) (Keep.of_wr W67).1) (Keep.of_wr W70).1) (Keep.of_wr W73).1) (Keep.of_wr W76).1) V76) hZ (hw _ (List.mem_of_getElem? (i := 5) rfl)) (hw _ (List.mem_of_getElem? (i := 4) rfl)) (by decide) (by decide)) (g := (mkF m 89 #[.val (.int p1), .val (.int p2), .val (.int p3), .val (.int p4), .val (.int p5), .val (.int (4 : Int32)), .val (.int xa), .val (.int xb), .val (.int xc), .val (.int xd), .val (.ref b64), .unset] [(.ref b64)])) rfl (by rw [hml]; rfl) (argsL := [(.ref b64)]) (rest := []) (lenOf pd_1 rfl) rfl (by show 2 * 0 + _ ≤ _; exact Nat.le_of_eq rfl) (hb hby at_89) (fun _ _ => ⟨rfl, e76, (by decide : 1 + 0 ≤ _), (by decide : 4 + 0 ≤ _)⟩)
    dsimp only [Pt.U, Pt.locs, Pt.cells, Pt.slots] at X79 l79 y79 z79 st79 hQ79
    subst l79 y79 z79
    obtain ⟨rfl, N79q, e79⟩ := hQ79
    have N79 := Fr.app N76 N79q
    have go80 : ∀ t, Steps p.tables e below (T79.setTop (mkF m 92 #[.val (.int p1), .val (.int p2), .val (.int p3), .val (.int p4), .val (.int p5), .val (.int (4 : Int32)), .val (.int xa), .val (.int xb), .val (.int xc), .val (.int xd), .val (.ref b64), .unset] [(.int (own_fits4 xa xb xc xd))])) t → Steps p.tables e below (s₁.setTop (entryFrame m #[(.int p1), (.int p2), (.int p3), (.int p4), (.int p5)] maxLocals)) t := fun t k => go78 t (st79 t k)
    have go81 : ∀ t, Steps p.tables e below (T79.setTop (mkF m 106 #[.val (.int p1), .val (.int p2), .val (.int p3), .val (.int p4), .val (.int p5), .val (.int (4 : Int32)), .val (.int xa), .val (.int xb), .val (.int xc), .val (.int xd), .val (.ref b64), .val (.int (own_fits4 xa xb xc xd))] [(.int xd), (.int xc), (.int xb), (.int xa), (.int (4 : Int32)), (.int (own_fits4 xa xb xc xd))])) t → Steps p.tables e below (s₁.setTop (entryFrame m #[(.int p1), (.int p2), (.int p3), (.int p4), (.int p5)] maxLocals)) t := fun t k => go80 t (by
      show Steps p.tables e below (T79.setTop (mkF m 92 #[.val (.int p1), .val (.int p2), .val (.int p3), .val (.int p4), .val (.int p5), .val (.int (4 : Int32)), .val (.int xa), .val (.int xb), .val (.int xc), .val (.int xd), .val (.ref b64), .unset] [(.int (own_fits4 xa xb xc xd))])) _
      refine XS.istore X79.here hx rfl (hb hby at_92) rfl (l' := #[.val (.int p1), .val (.int p2), .val (.int p3), .val (.int p4), .val (.int p5), .val (.int (4 : Int32)), .val (.int xa), .val (.int xb), .val (.int xc), .val (.int xd), .val (.ref b64), .val (.int (own_fits4 xa xb xc xd))]) rfl ?_
      show Steps p.tables e below (T79.setTop (mkF m 94 #[.val (.int p1), .val (.int p2), .val (.int p3), .val (.int p4), .val (.int p5), .val (.int (4 : Int32)), .val (.int xa), .val (.int xb), .val (.int xc), .val (.int xd), .val (.ref b64), .val (.int (own_fits4 xa xb xc xd))] [])) _
      refine XS.iload X79.here hx rfl (hb hby at_94) rfl ?_
      show Steps p.tables e below (T79.setTop (mkF m 96 #[.val (.int p1), .val (.int p2), .val (.int p3), .val (.int p4), .val (.int p5), .val (.int (4 : Int32)), .val (.int xa), .val (.int xb), .val (.int xc), .val (.int xd), .val (.ref b64), .val (.int (own_fits4 xa xb xc xd))] [(.int (own_fits4 xa xb xc xd))])) _
      refine XS.iload X79.here hx rfl (hb hby at_96) rfl ?_
      show Steps p.tables e below (T79.setTop (mkF m 98 #[.val (.int p1), .val (.int p2), .val (.int p3), .val (.int p4), .val (.int p5), .val (.int (4 : Int32)), .val (.int xa), .val (.int xb), .val (.int xc), .val (.int xd), .val (.ref b64), .val (.int (own_fits4 xa xb xc xd))] [(.int (4 : Int32)), (.int (own_fits4 xa xb xc xd))])) _
      refine XS.iload X79.here hx rfl (hb hby at_98) rfl ?_
      show Steps p.tables e below (T79.setTop (mkF m 100 #[.val (.int p1), .val (.int p2), .val (.int p3), .val (.int p4), .val (.int p5), .val (.int (4 : Int32)), .val (.int xa), .val (.int xb), .val (.int xc), .val (.int xd), .val (.ref b64), .val (.int (own_fits4 xa xb xc xd))] [(.int xa), (.int (4 : Int32)), (.int (own_fits4 xa xb xc xd))])) _
      refine XS.iload X79.here hx rfl (hb hby at_100) rfl ?_
      show Steps p.tables e below (T79.setTop (mkF m 102 #[.val (.int p1), .val (.int p2), .val (.int p3), .val (.int p4), .val (.int p5), .val (.int (4 : Int32)), .val (.int xa), .val (.int xb), .val (.int xc), .val (.int xd), .val (.ref b64), .val (.int (own_fits4 xa xb xc xd))] [(.int xb), (.int xa), (.int (4 : Int32)), (.int (own_fits4 xa xb xc xd))])) _
      refine XS.iload X79.here hx rfl (hb hby at_102) rfl ?_
      show Steps p.tables e below (T79.setTop (mkF m 104 #[.val (.int p1), .val (.int p2), .val (.int p3), .val (.int p4), .val (.int p5), .val (.int (4 : Int32)), .val (.int xa), .val (.int xb), .val (.int xc), .val (.int xd), .val (.ref b64), .val (.int (own_fits4 xa xb xc xd))] [(.int xc), (.int xb), (.int xa), (.int (4 : Int32)), (.int (own_fits4 xa xb xc xd))])) _
      refine XS.iload X79.here hx rfl (hb hby at_104) rfl ?_
      exact k)
    obtain ⟨_, _, ⟨T82, L82, k82, n82⟩, -, X82, ⟨Lc82, hQ82, l82, y82, z82⟩, st82⟩ := Jvm.LawKit.callS X79 hx (y := (⟨"com/example/inlet/inlet/compiler/ArrayValueFitsPinLaw", "expected", "(IIIII)Z"⟩ : MethodName)) hown (mvT hZ (hw _ (List.mem_of_getElem? (i := 7) rfl))) (mvT hZ (hw _ (List.mem_of_getElem? (i := 8) rfl))) (mvT hZ (hw _ (List.mem_of_getElem? (i := 9) rfl))) (mvT hZ (hw _ (List.mem_of_getElem? (i := 10) rfl))) (by decide) (backOf (W := 1) (rm_exp4 l Z a0 hw [] xa xb xc xd h76 n0 (Nat.le_trans (Nat.le_trans (Nat.le_trans (Nat.le_trans (Nat.le_trans Z0 E64.1) (Keep.of_wr W67).1) (Keep.of_wr W70).1) (Keep.of_wr W73).1) (Keep.of_wr W76).1) ) hZ (hw _ (List.mem_of_getElem? (i := 10) rfl)) (hw _ (List.mem_of_getElem? (i := 9) rfl)) (by decide) (by decide)) (g := (mkF m 106 #[.val (.int p1), .val (.int p2), .val (.int p3), .val (.int p4), .val (.int p5), .val (.int (4 : Int32)), .val (.int xa), .val (.int xb), .val (.int xc), .val (.int xd), .val (.ref b64), .val (.int (own_fits4 xa xb xc xd))] [(.int xd), (.int xc), (.int xb), (.int xa), (.int (4 : Int32)), (.int (own_fits4 xa xb xc xd))])) rfl (by rw [hml]; rfl) (argsL := [(.int (4 : Int32)), (.int xa), (.int xb), (.int xc), (.int xd)]) (rest := [(.int (own_fits4 xa xb xc xd))]) (lenOf pd_2 rfl) rfl (by show 2 * 0 + _ ≤ _; exact Nat.le_of_eq rfl) (hb hby at_106) (fun _ _ => ⟨rfl, e79, (by decide : 1 + 0 ≤ _), (by decide : 4 + 0 ≤ _)⟩)
    dsimp only [Pt.U, Pt.locs, Pt.cells, Pt.slots] at X82 l82 y82 z82 st82 hQ82
    subst l82 y82 z82
    obtain ⟨rfl, N82q, e82⟩ := hQ82
    have N82 := Fr.app N79 N82q
    have go83 : ∀ t, Steps p.tables e below (T82.setTop (mkF m 109 #[.val (.int p1), .val (.int p2), .val (.int p3), .val (.int p4), .val (.int p5), .val (.int (4 : Int32)), .val (.int xa), .val (.int xb), .val (.int xc), .val (.int xd), .val (.ref b64), .val (.int (own_fits4 xa xb xc xd))] [(.int (own_exp4 xa xb xc xd)), (.int (own_fits4 xa xb xc xd))])) t → Steps p.tables e below (s₁.setTop (entryFrame m #[(.int p1), (.int p2), (.int p3), (.int p4), (.int p5)] maxLocals)) t := fun t k => go81 t (st82 t k)
    have go84 : ∀ t, Steps p.tables e below (T82.setTop (mkF m 117 #[.val (.int p1), .val (.int p2), .val (.int p3), .val (.int p4), .val (.int p5), .val (.int (4 : Int32)), .val (.int xa), .val (.int xb), .val (.int xc), .val (.int xd), .val (.ref b64), .val (.int (own_fits4 xa xb xc xd))] [(.int (1 : Int32))])) t → Steps p.tables e below (s₁.setTop (entryFrame m #[(.int p1), (.int p2), (.int p3), (.int p4), (.int p5)] maxLocals)) t := fun t k => go83 t (by
      show Steps p.tables e below (T82.setTop (mkF m 109 #[.val (.int p1), .val (.int p2), .val (.int p3), .val (.int p4), .val (.int p5), .val (.int (4 : Int32)), .val (.int xa), .val (.int xb), .val (.int xc), .val (.int xd), .val (.ref b64), .val (.int (own_fits4 xa xb xc xd))] [(.int (own_exp4 xa xb xc xd)), (.int (own_fits4 xa xb xc xd))])) _
      refine XS.icmpNo X82.here hx rfl (hb hby at_109) rfl (teq (own_agree4 xa xb xc xd gxa gxb gxc gxd)).2 ?_
      show Steps p.tables e below (T82.setTop (mkF m 112 #[.val (.int p1), .val (.int p2), .val (.int p3), .val (.int p4), .val (.int p5), .val (.int (4 : Int32)), .val (.int xa), .val (.int xb), .val (.int xc), .val (.int xd), .val (.ref b64), .val (.int (own_fits4 xa xb xc xd))] [])) _
      refine XS.iconst X82.here hx rfl (hb hby at_112) ?_
      show Steps p.tables e below (T82.setTop (mkF m 113 #[.val (.int p1), .val (.int p2), .val (.int p3), .val (.int p4), .val (.int p5), .val (.int (4 : Int32)), .val (.int xa), .val (.int xb), .val (.int xc), .val (.int xd), .val (.ref b64), .val (.int (own_fits4 xa xb xc xd))] [(.int (1 : Int32))])) _
      refine XS.goto X82.here hx rfl (pc0 := 113) (pc' := 117) rfl (hb hby at_113) (by decide) (by decide) ?_
      exact k)
    obtain ⟨fs, hr, hrun, hended, hW, hsame⟩ := X82.leave (v := some (.int (1 : Int32))) (fun h => by rw [Bd.returns] at h; cases h)
    refine ⟨_, _, go84 _ ?_, hrun, hended, _, _, rfl, ?_, ⟨_, rfl⟩, hW, hsame.mono (by decide) (by decide)⟩
    · exact retN X82 hx (t := .boolean) Bd.returns (by simp) (hb hby at_117) hr
    · show QL n0 _ T82.heap _
      rw [e82]
      exact ⟨rfl, N82⟩
set_option maxRecDepth 65536 in
set_option maxHeartbeats 40000000 in
theorem comes_1 {Post : Tables → Env → Array Value → State → Outcome → State → Prop} (hpost : ∀ tb e args s v u, (limb_1_1.after args s (.returned v) u = true ∧ limb_1_2.after args s (.returned v) u = true ∧ True) → FrameEnd s (.returned v) u (Jvm.fieldLocs frame_1_writes args s ++ Jvm.arrayLocs frame_1_arrays args s ++ Jvm.staticLocs frame_1_statics s) 16 128 → Post tb e args s (.returned v) u) :
    ArmFor flags0 classFile x code maxLocals ret World_1 tables_1 room_1 Calls_1 rest_1 Pre_1 Post := by
  intro l hfl _ _ p e ha hc hk s m args below hf hA hF happ hP
  obtain ⟨hcalls, hrest, hpre⟩ := hP
  obtain ⟨-, -, -, hnamed, -, -, -, hat⟩ := (Spec.applies_iff hf).mp happ
  obtain ⟨hg, hn⟩ := and_e (Cond.before_iff.mp (show (Jvm.Cond.and given_1 narrow_1).before args s = true from hpre))
  obtain ⟨g1, g2⟩ := and_e hg
  obtain ⟨g3, g4⟩ := and_e g2
  obtain ⟨g5, g6⟩ := and_e g4
  obtain ⟨g7, g8⟩ := and_e g6
  obtain ⟨g9, g10⟩ := and_e g8
  obtain ⟨w0, w1, w2, w3, w4, rfl⟩ : ∃ w0 w1 w2 w3 w4 : Value, args = #[w0, w1, w2, w3, w4] := by
    have hs : args.size = 5 := by simpa [Cond.value, given_1] using g1
    obtain ⟨L⟩ := args
    match L, hs with
    | [w0, w1, w2, w3, w4], _ => exact ⟨w0, w1, w2, w3, w4, rfl⟩
  have hw := fun d (hd : d ∈ tables_1) => atoms_spec (ws := Jvm.Cond.code x code maxLocals ret :: tables_1) hat d (List.mem_cons_of_mem _ hd)
  obtain ⟨i0, ei0⟩ := is_v g3
  obtain rfl : w0 = (.int i0) := Option.some.inj ei0
  obtain ⟨i1, ei1⟩ := is_v g5
  obtain rfl : w1 = (.int i1) := Option.some.inj ei1
  obtain ⟨i2, ei2⟩ := is_v g7
  obtain rfl : w2 = (.int i2) := Option.some.inj ei2
  obtain ⟨i3, ei3⟩ := is_v g9
  obtain rfl : w3 = (.int i3) := Option.some.inj ei3
  obtain ⟨i4, ei4⟩ := is_v g10
  obtain rfl : w4 = (.int i4) := Option.some.inj ei4
  obtain ⟨n, o, h1, h2, h3, _, L, rfl, ⟨rfl, N⟩, hq⟩ := rm_law l s _ hw tables_1 i0 i1 i2 i3 i4 s.heap s.heap.size (Nat.le_refl _)  p e ha hc hk s m _ below hf ((Spec.applies_iff_loose hf).mp happ).1 ⟨rfl, State.Warmed39.refl s, rfl⟩ trivial
  refine ⟨n, _, h1, h2, h3, hpost _ _ _ _ _ _ ⟨Cond.after_iff.mpr rfl, Cond.after_iff.mpr (eq_i res_at (Term.int_eval (1)) rfl), trivial⟩ ⟨hq.1, hq.2.1, (hq.2.2.sift fun y hy => Or.inr (N y hy)).mono (by decide) (by decide)⟩⟩
theorem main_1_1 : Claimed_1_1 := comes_1 fun _ _ _ _ _ _ h hF => ⟨h.1, hF⟩
theorem main_1_2 : Claimed_1_2 := comes_1 fun _ _ _ _ _ _ h hF => ⟨h.2.1, hF⟩
end Jvm.Pilot.@@N@@
namespace Jvm.Pilot.@@N@@
open Jvm Jvm.ClassFile Sem Op Lib Jvm.Free Jvm.Stand Jvm.Pilot.@@N@@.Jvm.D
/-! MADE BY PROGRAM (witnessworld.py) out of the Statement's table words and the real class files: 10 classes; the members and pool entries that the words name. The judged class is class 1, her method 1. -/
namespace start1
open Jvm.ClassFile
def u (s : String) : CpInfo := .utf8 (stringToUtf16 s)
/-- a pool by its gaps: so many unusable entries, then the entry; so many at the end -/
def gap : Nat → List CpInfo → List CpInfo
  | 0, r => r
  | n + 1, r => .unusable :: gap n r
def poolList (es : List (Nat × CpInfo)) (last : Nat) : List CpInfo := es.foldr (fun e r => gap e.1 (e.2 :: r)) (gap last [])
def pool (es : List (Nat × CpInfo)) (last : Nat) : Array CpInfo := ⟨poolList es last⟩
def fileOf (pool : Array CpInfo) (this : Nat) (attrs : Array Attribute := #[]) (ms : Array MethodInfo := #[]) (fl : Nat := 33) (sup : Nat := 0) (ifs : Array Nat := #[]) (fds : Array FieldInfo := #[]) : ClassFile where
  minorVersion := 0
  majorVersion := 65
  constantPool := pool
  accessFlags := fl
  thisClass := this
  superClass := sup
  interfaces := ifs
  fields := fds
  methods := ms
  attributes := attrs
def plain (name : String) (sup : Option ClassId) : Class where
  name := name
  kind := .ordinary
  loader := none
  accessFlags := 33
  super := sup
  interfaces := #[]
  cf := none
  fields := #[]
  methods := #[]
  instanceTypes := #[]
  staticTypes := #[]
  resolved := #[]
  callSites := []
  init := .initialized
  statics := none
  mirror := none

def pool0 : Array CpInfo := pool [(5, u "<init>"), (0, u "()V"), (1, .class_ 10), (1, u "java/lang/Object")] 113

def k0m0 : Method := { name := "<init>", desc := "()V", sig := { parameters := [], returnType := none }, accessFlags := 1, code := none }
/-- java/lang/Object -/
def k0 : Class := { plain "java/lang/Object" none with
  accessFlags := 33
  interfaces := #[]
  cf := some (fileOf pool0 8 #[] #[{ accessFlags := 1, nameIndex := 5, descriptorIndex := 6, attributes := #[] }] 33 0 #[] #[])
  fields := #[]
  methods := #[k0m0]
  instanceTypes := #[]
  staticTypes := #[]
  resolved := Array.replicate 124 none
  statics := none }

def pool1 : Array CpInfo := pool [(2, .class_ 4), (1, u "java/lang/Object"), (0, u "<init>"), (0, u "()V"), (0, .integer 2147483647), (0, .methodref 9 10), (0, .class_ 11), (0, .nameAndType 12 13), (0, u "com/example/inlet/inlet/compiler/ArrayValue"), (0, u "fits"), (0, u "([I)Z"), (0, .methodref 15 16), (0, .class_ 17), (0, .nameAndType 18 19), (0, u "com/example/inlet/inlet/compiler/ArrayValueFitsPinLaw"), (0, u "expected"), (0, u "(IIIII)Z"), (0, .long 2147483639), (3, u "law")] 5

def k1m0 : Method := { name := "<init>", desc := "()V", sig := { parameters := [], returnType := none }, accessFlags := 1, code := none }
def k1c1 : Code := { maxStack := 6, maxLocals := 12, code := code, exceptionTable := #[], attributes := #[] }
def k1m1 : Method := { name := "law", desc := "(IIIII)Z", sig := { parameters := [.int, .int, .int, .int, .int], returnType := some .boolean }, accessFlags := 9, code := some k1c1 }
def k1c2 : Code := { maxStack := 4, maxLocals := 10, code := method_3_code, exceptionTable := #[], attributes := #[] }
def k1m2 : Method := { name := "expected", desc := "(IIIII)Z", sig := { parameters := [.int, .int, .int, .int, .int], returnType := some .boolean }, accessFlags := 10, code := some k1c2 }
/-- com/example/inlet/inlet/compiler/ArrayValueFitsPinLaw -/
def k1 : Class := { plain "com/example/inlet/inlet/compiler/ArrayValueFitsPinLaw" (some 0) with
  accessFlags := 49
  interfaces := #[]
  cf := some (fileOf pool1 15 #[] #[{ accessFlags := 1, nameIndex := 5, descriptorIndex := 6, attributes := #[] }, { accessFlags := 9, nameIndex := 24, descriptorIndex := 19, attributes := #[] }, { accessFlags := 10, nameIndex := 18, descriptorIndex := 19, attributes := #[] }] 49 2 #[] #[])
  fields := #[]
  methods := #[k1m0, k1m1, k1m2]
  instanceTypes := #[]
  staticTypes := #[]
  resolved := Array.replicate 30 none
  statics := none }

def pool2 : Array CpInfo := pool [(4, .class_ 6), (1, u "java/lang/Object"), (3, .class_ 12), (1, u "com/example/inlet/inlet/compiler/ArrayValue"), (0, u "type"), (0, u "Lcom/example/inlet/inlet/compiler/Type;"), (2, u "lengths"), (0, u "[I"), (2, u "elements"), (0, u "Ljava/lang/Object;"), (4, .long 2147483640), (1, .methodref 30 31), (0, .class_ 32), (0, .nameAndType 33 34), (0, u "java/lang/Math"), (0, u "min"), (0, u "(JJ)J"), (0, .long 2147483639), (133, u "MAX_SIZE"), (0, u "I"), (5, u "fits"), (0, u "([I)Z")] 33

def k2c0 : Code := { maxStack := 4, maxLocals := 7, code := prog_34_method_3_code, exceptionTable := #[], attributes := #[] }
def k2m0 : Method := { name := "fits", desc := "([I)Z", sig := { parameters := [(.array .int)], returnType := some .boolean }, accessFlags := 9, code := some k2c0 }
/-- com/example/inlet/inlet/compiler/ArrayValue -/
def k2 : Class := { plain "com/example/inlet/inlet/compiler/ArrayValue" (some 0) with
  accessFlags := 49
  interfaces := #[]
  cf := some (fileOf pool2 10 #[] #[{ accessFlags := 9, nameIndex := 176, descriptorIndex := 177, attributes := #[] }] 49 4 #[] #[{ accessFlags := 25, nameIndex := 169, descriptorIndex := 170, attributes := #[] }, { accessFlags := 18, nameIndex := 13, descriptorIndex := 14, attributes := #[] }, { accessFlags := 2, nameIndex := 17, descriptorIndex := 18, attributes := #[] }, { accessFlags := 2, nameIndex := 21, descriptorIndex := 22, attributes := #[] }])
  fields := #[{ name := "MAX_SIZE", type := .int, accessFlags := 25, slot := 0, constantValue := 0 }, { name := "type", type := (.object "com/example/inlet/inlet/compiler/Type"), accessFlags := 18, slot := 0, constantValue := 0 }, { name := "lengths", type := (.array .int), accessFlags := 2, slot := 1, constantValue := 0 }, { name := "elements", type := (.object "java/lang/Object"), accessFlags := 2, slot := 2, constantValue := 0 }]
  methods := #[k2m0]
  instanceTypes := #[(.object "com/example/inlet/inlet/compiler/Type"), (.array .int), (.object "java/lang/Object")]
  staticTypes := #[.int]
  resolved := Array.replicate 211 none
  statics := none }

def pool3 : Array CpInfo := pool [(1, .class_ 2), (0, u "java/lang/Math"), (1, .class_ 6), (1, u "java/lang/Object"), (0, u "<init>"), (0, u "()V"), (89, .class_ 100), (1, u "java/lang/Math$RandomNumberGeneratorHolder"), (20, u "(JJ)J"), (50, u "negativeZeroFloatBits"), (0, u "J"), (2, u "negativeZeroDoubleBits"), (24, u "min"), (43, u "$assertionsDisabled"), (0, u "Z"), (91, u "twoToTheDoubleScaleDown"), (0, u "D"), (4, u "twoToTheDoubleScaleUp"), (9, u "E"), (3, u "PI"), (2, u "TAU"), (2, u "DEGREES_TO_RADIANS"), (0, u "RADIANS_TO_DEGREES")] 94

def k3m0 : Method := { name := "<init>", desc := "()V", sig := { parameters := [], returnType := none }, accessFlags := 2, code := none }
def k3c1 : Code := { maxStack := 4, maxLocals := 4, code := jdk_29_method_70_code, exceptionTable := #[], attributes := #[] }
def k3m1 : Method := { name := "min", desc := "(JJ)J", sig := { parameters := [.long, .long], returnType := some .long }, accessFlags := 9, code := some k3c1 }
/-- java/lang/Math -/
def k3 : Class := { plain "java/lang/Math" (some 0) with
  accessFlags := 49
  interfaces := #[]
  cf := some (fileOf pool3 1 #[.nestMembers #[98]] #[{ accessFlags := 2, nameIndex := 7, descriptorIndex := 8, attributes := #[] }, { accessFlags := 9, nameIndex := 201, descriptorIndex := 121, attributes := #[] }] 49 4 #[] #[{ accessFlags := 25, nameIndex := 354, descriptorIndex := 339, attributes := #[] }, { accessFlags := 25, nameIndex := 358, descriptorIndex := 339, attributes := #[] }, { accessFlags := 25, nameIndex := 361, descriptorIndex := 339, attributes := #[] }, { accessFlags := 26, nameIndex := 364, descriptorIndex := 339, attributes := #[] }, { accessFlags := 26, nameIndex := 365, descriptorIndex := 339, attributes := #[] }, { accessFlags := 26, nameIndex := 172, descriptorIndex := 173, attributes := #[] }, { accessFlags := 26, nameIndex := 176, descriptorIndex := 173, attributes := #[] }, { accessFlags := 8, nameIndex := 344, descriptorIndex := 339, attributes := #[] }, { accessFlags := 8, nameIndex := 338, descriptorIndex := 339, attributes := #[] }, { accessFlags := 4120, nameIndex := 245, descriptorIndex := 246, attributes := #[] }])
  fields := #[{ name := "E", type := .double, accessFlags := 25, slot := 0, constantValue := 0 }, { name := "PI", type := .double, accessFlags := 25, slot := 1, constantValue := 0 }, { name := "TAU", type := .double, accessFlags := 25, slot := 2, constantValue := 0 }, { name := "DEGREES_TO_RADIANS", type := .double, accessFlags := 26, slot := 3, constantValue := 0 }, { name := "RADIANS_TO_DEGREES", type := .double, accessFlags := 26, slot := 4, constantValue := 0 }, { name := "negativeZeroFloatBits", type := .long, accessFlags := 26, slot := 5, constantValue := 0 }, { name := "negativeZeroDoubleBits", type := .long, accessFlags := 26, slot := 6, constantValue := 0 }, { name := "twoToTheDoubleScaleUp", type := .double, accessFlags := 8, slot := 7, constantValue := 0 }, { name := "twoToTheDoubleScaleDown", type := .double, accessFlags := 8, slot := 8, constantValue := 0 }, { name := "$assertionsDisabled", type := .boolean, accessFlags := 4120, slot := 9, constantValue := 0 }]
  methods := #[k3m0, k3m1]
  instanceTypes := #[]
  staticTypes := #[.double, .double, .double, .double, .double, .long, .long, .double, .double, .boolean]
  resolved := Array.replicate 460 none
  statics := none }

def pool4 : Array CpInfo := pool [(1, u "java/lang/Cloneable"), (0, .class_ 1), (0, u "java/lang/Object"), (0, .class_ 3)] 3

/-- java/lang/Cloneable -/
def k4 : Class := { plain "java/lang/Cloneable" (some 0) with
  accessFlags := 1537
  interfaces := #[]
  cf := some (fileOf pool4 2 #[] #[] 1537 4 #[] #[])
  fields := #[]
  methods := #[]
  instanceTypes := #[]
  staticTypes := #[]
  resolved := Array.replicate 8 none
  statics := none }

def pool5 : Array CpInfo := pool [(1, u "java/io/Serializable"), (0, .class_ 1), (0, u "java/lang/Object"), (0, .class_ 3)] 3

/-- java/io/Serializable -/
def k5 : Class := { plain "java/io/Serializable" (some 0) with
  accessFlags := 1537
  interfaces := #[]
  cf := some (fileOf pool5 2 #[] #[] 1537 4 #[] #[])
  fields := #[]
  methods := #[]
  instanceTypes := #[]
  staticTypes := #[]
  resolved := Array.replicate 8 none
  statics := none }

/-- the primitive byte -/
def k6 : Class := { plain "byte" none with kind := .primitive 'B', accessFlags := 0x411 }
/-- [B -/
def k7 : Class := { plain "[B" (some 0) with kind := .array 6 .byte, interfaces := #[4, 5], accessFlags := 1041 }

/-- the primitive int -/
def k8 : Class := { plain "int" none with kind := .primitive 'I', accessFlags := 0x411 }
/-- [I -/
def k9 : Class := { plain "[I" (some 0) with kind := .array 8 .int, interfaces := #[4, 5], accessFlags := 1041 }

def heap : Heap := #[]
def classes : Array Class := #[k0, k1, k2, k3, k4, k5, k6, k7, k8, k9]
def interned : List (Array UInt16 × Addr) := []
def slotsUsed : Nat := 0
def theMethod : MethodId := ⟨1, 1⟩
def args0 : Array Value := #[.int 2, .int 3, .int 4, .int 5, .int 6]
def aboutOver (below : List Frame) : State where
  vm := { classes := classes, interned := interned.toArray }
  heap := heap
  slotsUsed := slotsUsed
  threads := #[{ frames := .invoking theMethod args0 :: below }]
def below0 : List Frame := [.native { method := ⟨0, 0⟩, args := #[] }]
def about1 : State := aboutOver below0
def p0 : Program := .bare "" "" ""
def e0 : Env := launch0.env 0 0 0
theorem w_frames : about1.frames = Frame.invoking theMethod args0 :: below0 := rfl
set_option maxRecDepth 65536 in
theorem w_args : argsFit about1.vm theMethod args0 = true := by decide +kernel
set_option maxRecDepth 65536 in
theorem w_heap : heapFits about1 = true := by decide +kernel
set_option maxRecDepth 65536 in
theorem w_runnable : about1.curStatus? = some .runnable := by decide +kernel
set_option maxRecDepth 65536 in
theorem w_alone : about1.alone = true := by decide +kernel
set_option maxRecDepth 65536 in
theorem w_named : about1.methodNamed? x = some theMethod := by decide +kernel
set_option maxRecDepth 65536 in
theorem w_hears : about1.hears theMethod below0 = true := by decide +kernel
set_option maxRecDepth 65536 in
theorem w_ripe : about1.ripe theMethod args0 below0 = true := by decide +kernel
theorem w_running : about1.status = .running := rfl
set_option maxRecDepth 65536 in
theorem w_room : about1.hasRoom e0.platform room_1 = true :=
  launch0.hasRoom_least _ room_1 (by decide +kernel) (by decide +kernel) (by decide +kernel) (by decide +kernel) (by decide +kernel) (by decide +kernel)
theorem allAtoms_all (ts : List Jvm.Cond) (a : Array Jvm.Value) (st : Jvm.State) : (allAtoms ts).before a st = ts.all (fun c => c.before a st) := by
  induction ts with
  | nil => rfl
  | cons c t ih =>
    show (Jvm.Cond.and c (allAtoms t)).before a st = _
    rw [Jvm.Cond.before_and, ih, List.all_cons]
def words1 : List Jvm.Cond := Jvm.Cond.code x code maxLocals ret :: tables_1
/-- a 'code' word, met by the world's own term for the bytes: nothing is compared byte by byte -/
theorem code_word {y : MethodName} {bytes : ByteArray} {mx : Nat} {rt : Option FieldType} {a : Array Value} {s : State} {m : MethodId} {meth : Method} {c : Code} (h1 : s.methodNamed? y = some m) (h2 : s.vm.method? m = some meth) (h3 : meth.code = some c) (h4 : c.code = bytes)
    (h5 : (c.maxLocals == mx && c.exceptionTable.isEmpty && decide (c.maxStack ≤ mostOperands) && decide (meth.sig.returnType = rt) && !meth.locks && decide (parseMethodDescriptor y.desc = some meth.sig)) = true) : (Jvm.Cond.code y bytes mx rt).before a s = true := by
  simp only [Bool.and_eq_true, beq_iff_eq, Bool.not_eq_true', decide_eq_true_eq] at h5
  obtain ⟨⟨⟨⟨⟨g1, g2⟩, g3⟩, g4⟩, g5⟩, g6⟩ := h5
  simp [Cond.before, Cond.holds, Cond.value, h1, h2, h3, h4, g1, g2, g3, g4, g5, g6]
def isCode : Jvm.Cond → Bool
  | .code _ _ _ _ => true
  | _ => false
theorem all_split {L : List Jvm.Cond} {P : Jvm.Cond → Bool} (h1 : L.all (fun c => isCode c || P c) = true) (h2 : ∀ c ∈ L.filter isCode, P c = true) : L.all P = true := by
  refine List.all_eq_true.mpr fun c hc => ?_
  have h := List.all_eq_true.mp h1 c hc
  rcases Bool.eq_false_or_eq_true (isCode c) with hi | hi
  · exact h2 c (List.mem_filter.mpr ⟨hc, hi⟩)
  · simpa [hi] using h
set_option maxRecDepth 65536 in
theorem w_c0 : (Jvm.Cond.code x code maxLocals ret).before args0 about1 = true := code_word (m := ⟨1, 1⟩) (meth := k1m1) (c := k1c1) (by decide +kernel) rfl rfl rfl (by decide +kernel)
set_option maxRecDepth 65536 in
theorem w_c1 : (Jvm.Cond.code ({ cls := "com/example/inlet/inlet/compiler/ArrayValue", name := "fits", desc := "([I)Z" } : Jvm.MethodName) prog_34_method_3_code (7 : Nat) (Option.some Jvm.ClassFile.FieldType.boolean)).before args0 about1 = true := code_word (m := ⟨2, 0⟩) (meth := k2m0) (c := k2c0) (by decide +kernel) rfl rfl rfl (by decide +kernel)
set_option maxRecDepth 65536 in
theorem w_c2 : (Jvm.Cond.code ({ cls := "com/example/inlet/inlet/compiler/ArrayValueFitsPinLaw", name := "expected", desc := "(IIIII)Z" } : Jvm.MethodName) method_3_code (10 : Nat) (Option.some Jvm.ClassFile.FieldType.boolean)).before args0 about1 = true := code_word (m := ⟨1, 2⟩) (meth := k1m2) (c := k1c2) (by decide +kernel) rfl rfl rfl (by decide +kernel)
set_option maxRecDepth 65536 in
theorem w_c3 : (Jvm.Cond.code ({ cls := "java/lang/Math", name := "min", desc := "(JJ)J" } : Jvm.MethodName) jdk_29_method_70_code (4 : Nat) (Option.some Jvm.ClassFile.FieldType.long)).before args0 about1 = true := code_word (m := ⟨3, 1⟩) (meth := k3m1) (c := k3c1) (by decide +kernel) rfl rfl rfl (by decide +kernel)
def codes1 : List Jvm.Cond := [Jvm.Cond.code x code maxLocals ret, Jvm.Cond.code ({ cls := "com/example/inlet/inlet/compiler/ArrayValue", name := "fits", desc := "([I)Z" } : Jvm.MethodName) prog_34_method_3_code (7 : Nat) (Option.some Jvm.ClassFile.FieldType.boolean), Jvm.Cond.code ({ cls := "com/example/inlet/inlet/compiler/ArrayValueFitsPinLaw", name := "expected", desc := "(IIIII)Z" } : Jvm.MethodName) method_3_code (10 : Nat) (Option.some Jvm.ClassFile.FieldType.boolean), Jvm.Cond.code ({ cls := "java/lang/Math", name := "min", desc := "(JJ)J" } : Jvm.MethodName) jdk_29_method_70_code (4 : Nat) (Option.some Jvm.ClassFile.FieldType.long)]
set_option maxRecDepth 65536 in
theorem codes_eq : words1.filter isCode = codes1 := rfl
theorem w_codes : ∀ c ∈ words1.filter isCode, c.before args0 about1 = true := by
  rw [codes_eq]
  intro c hc
  simp only [codes1, List.mem_cons, List.not_mem_nil, or_false] at hc
  rcases hc with rfl | rfl | rfl | rfl
  · exact w_c0
  · exact w_c1
  · exact w_c2
  · exact w_c3
set_option maxRecDepth 65536 in
theorem w_t1 : words1.all (fun c => isCode c || c.before args0 about1) = true := by decide +kernel
theorem w_tables : (allAtoms (Jvm.Cond.code x code maxLocals ret :: tables_1)).before args0 about1 = true := by
  rw [allAtoms_all]
  show words1.all (fun c => c.before args0 about1) = true
  refine all_split ?_ w_codes
  rw [w_t1]
set_option maxRecDepth 65536 in
theorem w_case : (Jvm.Cond.and given_1 narrow_1).before args0 about1 = true := by decide +kernel
theorem w_applies : (headSpec (Jvm.Cond.code x code maxLocals ret :: tables_1) room_1).applies x e0.platform about1 = true :=
  (Spec.applies_iff w_frames).mpr ⟨w_running, w_runnable, w_alone, w_named, w_hears, w_ripe, w_room, w_tables⟩
theorem atStart : AtStart classFile x code maxLocals ret World_1 tables_1 room_1 Calls_1 rest_1 Pre_1 launch0 p0 e0 about1 theMethod args0 below0 :=
  ⟨lists_1, trivial, launch0.admits_env _ _ _, launch0.least_env, fairChoices_fair.cas, fairChoices_fair.clock, w_frames, w_args, w_heap, w_applies, trivial, trivial, w_case⟩
end start1
theorem witness_1 : WitnessClaimed_1 := ⟨start1.p0, start1.e0, start1.about1, start1.theMethod, start1.args0, start1.below0, start1.atStart⟩
end Jvm.Pilot.@@N@@
