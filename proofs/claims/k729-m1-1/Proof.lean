import JvmDerived
import JvmDerived.Pilot.@@N@@Statement
import JvmDerived.Pilot.@@N@@Code
set_option linter.unusedVariables false
set_option linter.unusedSimpArgs false
namespace Jvm.RoadKit
open Sem ClassFile Op Lib Jvm.Stand Jvm.Free Jvm.LawKit
section New
variable {p : Program} {l : Launch} {e : Env} {R : Room} {s : State} {m : MethodId} {args : Array Value} {below : List Frame} {meth : Method} {c : Code} {T : State} {locs : List Loc} {cells slots : Nat}
theorem retI (X : Stand p l e R s m args below meth c T locs cells slots) (hx : p.tables.exec = Jvm.exec) {pc : Nat} {Ls : Array Slot} {z : Int32} {rest : List Value} (hret : meth.sig.returnType = some .int) (hd : decode c.code pc = .ok (.ireturn, 1)) {fs : List Frame}
    (hl : ∀ (f : JFrame) (acts : List Action), f.method = m → f.locked = none → f.entered = [] → (doReturn e (T.setTop f) acts (some (.int z))).1 = T.setFrames fs) : Steps p.tables e below (T.setTop (mkF m pc Ls (.int z :: rest))) (T.setFrames fs) := by
  have hm' : T.vm.method? m = some meth := X.method'
  have hn : narrow .int (.int z) = .int z := rfl
  show Steps p.tables e below (T.setTop { method := m, pc := pc, locals := Ls, stack := _ :: rest, locked := none }) _
  jvm_step X.here [X.here.top, hx, hd, hm', hret, hn]
  first | (intro acts; rw [hl _ acts rfl rfl rfl]) | rw [hl _ _ rfl rfl rfl]
  exact Steps.refl _
end New
end Jvm.RoadKit
namespace Jvm.Pilot.@@N@@
open Jvm Jvm.ClassFile Sem Op Lib Jvm.Free Jvm.Stand Jvm.LawKit Jvm.RoadKit Bundle Jvm.Pilot.@@N@@.Jvm.D
/-- a body that writes nothing and returns r -/
def QV (r : Value) (h0 : Heap) (n0 : Nat) (v : Option Value) (h : Heap) (L : List Loc) : Prop := v = some r ∧ Fr n0 L ∧ h = h0
/-- a body that writes nothing and returns nothing -/
def QN (h0 : Heap) (n0 : Nat) (v : Option Value) (h : Heap) (L : List Loc) : Prop := v = none ∧ Fr n0 L ∧ h = h0
theorem pd_0 : parseMethodDescriptor "(I)I" = some ⟨[.int], some .int⟩ := by decide +kernel
def own_ushr (x k : Int32) : Int32 := (x.toUInt32 >>> (k &&& 31).toUInt32).toInt32
theorem nlz_0 : decode jdk_33_method_47_code 0 = .ok (.iload_n 0, 1) := by decide +kernel
theorem nlz_1 : decode jdk_33_method_47_code 1 = .ok (.ifCond .gt 14, 3) := by decide +kernel
theorem nlz_4 : decode jdk_33_method_47_code 4 = .ok (.iload_n 0, 1) := by decide +kernel
theorem nlz_5 : decode jdk_33_method_47_code 5 = .ok (.ifCond .ne 8, 3) := by decide +kernel
theorem nlz_8 : decode jdk_33_method_47_code 8 = .ok (.bipush 32, 2) := by decide +kernel
theorem nlz_10 : decode jdk_33_method_47_code 10 = .ok (.goto 4, 3) := by decide +kernel
theorem nlz_13 : decode jdk_33_method_47_code 13 = .ok (.iconst 0, 1) := by decide +kernel
theorem nlz_14 : decode jdk_33_method_47_code 14 = .ok (.ireturn, 1) := by decide +kernel
theorem nlz_15 : decode jdk_33_method_47_code 15 = .ok (.bipush 31, 2) := by decide +kernel
theorem nlz_17 : decode jdk_33_method_47_code 17 = .ok (.istore_n 1, 1) := by decide +kernel
theorem nlz_18 : decode jdk_33_method_47_code 18 = .ok (.iload_n 0, 1) := by decide +kernel
theorem nlz_19 : decode jdk_33_method_47_code 19 = .ok (.ldc_w 264, 3) := by decide +kernel
theorem nlz_22 : decode jdk_33_method_47_code 22 = .ok (.if_icmp .lt 11, 3) := by decide +kernel
theorem nlz_25 : decode jdk_33_method_47_code 25 = .ok (.iinc 1 (-16), 3) := by decide +kernel
theorem nlz_28 : decode jdk_33_method_47_code 28 = .ok (.iload_n 0, 1) := by decide +kernel
theorem nlz_29 : decode jdk_33_method_47_code 29 = .ok (.bipush 16, 2) := by decide +kernel
theorem nlz_31 : decode jdk_33_method_47_code 31 = .ok (.iushr, 1) := by decide +kernel
theorem nlz_32 : decode jdk_33_method_47_code 32 = .ok (.istore_n 0, 1) := by decide +kernel
theorem nlz_33 : decode jdk_33_method_47_code 33 = .ok (.iload_n 0, 1) := by decide +kernel
theorem nlz_34 : decode jdk_33_method_47_code 34 = .ok (.sipush 256, 3) := by decide +kernel
theorem nlz_37 : decode jdk_33_method_47_code 37 = .ok (.if_icmp .lt 11, 3) := by decide +kernel
theorem nlz_40 : decode jdk_33_method_47_code 40 = .ok (.iinc 1 (-8), 3) := by decide +kernel
theorem nlz_43 : decode jdk_33_method_47_code 43 = .ok (.iload_n 0, 1) := by decide +kernel
theorem nlz_44 : decode jdk_33_method_47_code 44 = .ok (.bipush 8, 2) := by decide +kernel
theorem nlz_46 : decode jdk_33_method_47_code 46 = .ok (.iushr, 1) := by decide +kernel
theorem nlz_47 : decode jdk_33_method_47_code 47 = .ok (.istore_n 0, 1) := by decide +kernel
theorem nlz_48 : decode jdk_33_method_47_code 48 = .ok (.iload_n 0, 1) := by decide +kernel
theorem nlz_49 : decode jdk_33_method_47_code 49 = .ok (.bipush 16, 2) := by decide +kernel
theorem nlz_51 : decode jdk_33_method_47_code 51 = .ok (.if_icmp .lt 10, 3) := by decide +kernel
theorem nlz_54 : decode jdk_33_method_47_code 54 = .ok (.iinc 1 (-4), 3) := by decide +kernel
theorem nlz_57 : decode jdk_33_method_47_code 57 = .ok (.iload_n 0, 1) := by decide +kernel
theorem nlz_58 : decode jdk_33_method_47_code 58 = .ok (.iconst 4, 1) := by decide +kernel
theorem nlz_59 : decode jdk_33_method_47_code 59 = .ok (.iushr, 1) := by decide +kernel
theorem nlz_60 : decode jdk_33_method_47_code 60 = .ok (.istore_n 0, 1) := by decide +kernel
theorem nlz_61 : decode jdk_33_method_47_code 61 = .ok (.iload_n 0, 1) := by decide +kernel
theorem nlz_62 : decode jdk_33_method_47_code 62 = .ok (.iconst 4, 1) := by decide +kernel
theorem nlz_63 : decode jdk_33_method_47_code 63 = .ok (.if_icmp .lt 10, 3) := by decide +kernel
theorem nlz_66 : decode jdk_33_method_47_code 66 = .ok (.iinc 1 (-2), 3) := by decide +kernel
theorem nlz_69 : decode jdk_33_method_47_code 69 = .ok (.iload_n 0, 1) := by decide +kernel
theorem nlz_70 : decode jdk_33_method_47_code 70 = .ok (.iconst 2, 1) := by decide +kernel
theorem nlz_71 : decode jdk_33_method_47_code 71 = .ok (.iushr, 1) := by decide +kernel
theorem nlz_72 : decode jdk_33_method_47_code 72 = .ok (.istore_n 0, 1) := by decide +kernel
theorem nlz_73 : decode jdk_33_method_47_code 73 = .ok (.iload_n 1, 1) := by decide +kernel
theorem nlz_74 : decode jdk_33_method_47_code 74 = .ok (.iload_n 0, 1) := by decide +kernel
theorem nlz_75 : decode jdk_33_method_47_code 75 = .ok (.iconst 1, 1) := by decide +kernel
theorem nlz_76 : decode jdk_33_method_47_code 76 = .ok (.iushr, 1) := by decide +kernel
theorem nlz_77 : decode jdk_33_method_47_code 77 = .ok (.isub, 1) := by decide +kernel
theorem nlz_78 : decode jdk_33_method_47_code 78 = .ok (.ireturn, 1) := by decide +kernel
theorem pn_nlz : plainName "java/lang/Integer" = true := by first | (simp [plainName, overriddenIn]; done) | decide +kernel
theorem ef_nlz (m : MethodId) (p1 : Int32) : entryFrame m #[(.int p1)] 2 = mkF m 0 #[.val (.int p1), .unset] [] := by first | (simp [entryFrame, mkF, argsToLocals, Value.category]; done) | rfl
def own_nlz (p1 : Int32) : Int32 := if (0 : Int32) < p1 then (if p1 < (65536 : Int32) then (if p1 < (256 : Int32) then (if p1 < (16 : Int32) then (if p1 < (4 : Int32) then ((31 : Int32) - (own_ushr p1 (1 : Int32))) else ((29 : Int32) - (own_ushr (own_ushr p1 (2 : Int32)) (1 : Int32)))) else (if (own_ushr p1 (4 : Int32)) < (4 : Int32) then ((27 : Int32) - (own_ushr (own_ushr p1 (4 : Int32)) (1 : Int32))) else ((25 : Int32) - (own_ushr (own_ushr (own_ushr p1 (4 : Int32)) (2 : Int32)) (1 : Int32))))) else (if (own_ushr p1 (8 : Int32)) < (16 : Int32) then (if (own_ushr p1 (8 : Int32)) < (4 : Int32) then ((23 : Int32) - (own_ushr (own_ushr p1 (8 : Int32)) (1 : Int32))) else ((21 : Int32) - (own_ushr (own_ushr (own_ushr p1 (8 : Int32)) (2 : Int32)) (1 : Int32)))) else (if (own_ushr (own_ushr p1 (8 : Int32)) (4 : Int32)) < (4 : Int32) then ((19 : Int32) - (own_ushr (own_ushr (own_ushr p1 (8 : Int32)) (4 : Int32)) (1 : Int32))) else ((17 : Int32) - (own_ushr (own_ushr (own_ushr (own_ushr p1 (8 : Int32)) (4 : Int32)) (2 : Int32)) (1 : Int32)))))) else (if (own_ushr p1 (16 : Int32)) < (256 : Int32) then (if (own_ushr p1 (16 : Int32)) < (16 : Int32) then (if (own_ushr p1 (16 : Int32)) < (4 : Int32) then ((15 : Int32) - (own_ushr (own_ushr p1 (16 : Int32)) (1 : Int32))) else ((13 : Int32) - (own_ushr (own_ushr (own_ushr p1 (16 : Int32)) (2 : Int32)) (1 : Int32)))) else (if (own_ushr (own_ushr p1 (16 : Int32)) (4 : Int32)) < (4 : Int32) then ((11 : Int32) - (own_ushr (own_ushr (own_ushr p1 (16 : Int32)) (4 : Int32)) (1 : Int32))) else ((9 : Int32) - (own_ushr (own_ushr (own_ushr (own_ushr p1 (16 : Int32)) (4 : Int32)) (2 : Int32)) (1 : Int32))))) else (if (own_ushr (own_ushr p1 (16 : Int32)) (8 : Int32)) < (16 : Int32) then (if (own_ushr (own_ushr p1 (16 : Int32)) (8 : Int32)) < (4 : Int32) then ((7 : Int32) - (own_ushr (own_ushr (own_ushr p1 (16 : Int32)) (8 : Int32)) (1 : Int32))) else ((5 : Int32) - (own_ushr (own_ushr (own_ushr (own_ushr p1 (16 : Int32)) (8 : Int32)) (2 : Int32)) (1 : Int32)))) else (if (own_ushr (own_ushr (own_ushr p1 (16 : Int32)) (8 : Int32)) (4 : Int32)) < (4 : Int32) then ((3 : Int32) - (own_ushr (own_ushr (own_ushr (own_ushr p1 (16 : Int32)) (8 : Int32)) (4 : Int32)) (1 : Int32))) else ((1 : Int32) - (own_ushr (own_ushr (own_ushr (own_ushr (own_ushr p1 (16 : Int32)) (8 : Int32)) (4 : Int32)) (2 : Int32)) (1 : Int32))))))) else (if p1 = (0 : Int32) then (32 : Int32) else (0 : Int32))
set_option maxRecDepth 65536 in
set_option maxHeartbeats 40000000 in
theorem rm_nlz (l : Launch) (Z : State) (a0 : Array Value) (hw : ∀ d ∈ tables_1, d.before a0 Z = true) (ws : List Jvm.Cond) (p1 : Int32) (h0 : Heap) (n0 : Nat) (Z0 : n0 ≤ h0.size)  :
    MetFree l (⟨"java/lang/Integer", "numberOfLeadingZeros", "(I)I"⟩ : MethodName) (head1 (Jvm.Cond.code (⟨"java/lang/Integer", "numberOfLeadingZeros", "(I)I"⟩ : MethodName) jdk_33_method_47_code 2 (some .int) :: ws) ({ frames := 0, cells := 0, slots := 0, locals := 0 } : Room)) (fun a U => a = #[(.int p1)] ∧ Z.Warmed39 U.vm ∧ U.heap = h0) (fun _ _ _ _ _ => True) (fun _ U o U' => ∃ v L, o = .returned v ∧ QV (.int (own_nlz p1)) h0 n0 v U'.heap L ∧ FrameEnd U o U' L ({ frames := 0, cells := 0, slots := 0, locals := 0 } : Room).cells ({ frames := 0, cells := 0, slots := 0, locals := 0 } : Room).slots) := by
  refine MetFree.of_bodySF (plainFor_of_name pn_nlz) hisR ?_
  intro p e s m args below meth c s₁ Bd hml0 hP hK
  obtain ⟨rfl, hZ, hh⟩ := hP
  have hx := Bd.exec
  have hby := Bd.bytes
  have hml : c.maxLocals = 2 := hml0
  have hown : s.vm.findClass "java/lang/Integer" = some m.cls := findClass_of_methodNamed Bd.named
  have hnm := (name_of_methodNamed Bd.named Bd.method).1
  have X0 : Stand p l e ({ frames := 0, cells := 0, slots := 0, locals := 0 } : Room) s m #[(.int p1)] below meth c s₁ [] 0 0 := Stand.of_body Bd
  have e0 : s₁.heap = h0 := by rw [← hh, Bd.state]; rfl
  have N0 := Fr.nil n0
  have go0 : ∀ t, Steps p.tables e below (s₁.setTop (mkF m 0 #[.val (.int p1), .unset] [])) t → Steps p.tables e below (s₁.setTop (entryFrame m #[(.int p1)] 2)) t := fun t k => castTop (ef_nlz m p1) k
  have go1 : ∀ t, Steps p.tables e below (s₁.setTop (mkF m 1 #[.val (.int p1), .unset] [(.int p1)])) t → Steps p.tables e below (s₁.setTop (entryFrame m #[(.int p1)] 2)) t := fun t k => go0 t (by
    show Steps p.tables e below (s₁.setTop (mkF m 0 #[.val (.int p1), .unset] [])) _
    refine XS.iloadN X0.here hx rfl (hb hby nlz_0) rfl ?_
    exact k)
  by_cases hc2 : (0 : Int32) < p1
  · have go3 : ∀ t, Steps p.tables e below (s₁.setTop (mkF m 22 #[.val (.int p1), .val (.int (31 : Int32))] [(.int (65536 : Int32)), (.int p1)])) t → Steps p.tables e below (s₁.setTop (entryFrame m #[(.int p1)] 2)) t := fun t k => go1 t (by
      show Steps p.tables e below (s₁.setTop (mkF m 1 #[.val (.int p1), .unset] [(.int p1)])) _
      refine XS.ifYes X0.here hx rfl (pc0 := 1) (pc' := 15) rfl (hb hby nlz_1) rfl ((if0 _ _).trans (tlt hc2).2.2.1) (by decide) (by decide) ?_
      show Steps p.tables e below (s₁.setTop (mkF m 15 #[.val (.int p1), .unset] [])) _
      refine XS.bipush X0.here hx rfl (hb hby nlz_15) ?_
      show Steps p.tables e below (s₁.setTop (mkF m 17 #[.val (.int p1), .unset] [(.int (31 : Int32))])) _
      refine XS.istoreN X0.here hx rfl (hb hby nlz_17) rfl (l' := #[.val (.int p1), .val (.int (31 : Int32))]) rfl ?_
      show Steps p.tables e below (s₁.setTop (mkF m 18 #[.val (.int p1), .val (.int (31 : Int32))] [])) _
      refine XS.iloadN X0.here hx rfl (hb hby nlz_18) rfl ?_
      show Steps p.tables e below (s₁.setTop (mkF m 19 #[.val (.int p1), .val (.int (31 : Int32))] [(.int p1)])) _
      refine X0.ldcWI hx hown (mvT hZ (hw _ (List.mem_of_getElem? (i := 13) rfl))) rfl (hb hby nlz_19) ?_
      exact k)
    by_cases hc4 : p1 < (65536 : Int32)
    · have go5 : ∀ t, Steps p.tables e below (s₁.setTop (mkF m 37 #[.val (.int p1), .val (.int (31 : Int32))] [(.int (256 : Int32)), (.int p1)])) t → Steps p.tables e below (s₁.setTop (entryFrame m #[(.int p1)] 2)) t := fun t k => go3 t (by
        show Steps p.tables e below (s₁.setTop (mkF m 22 #[.val (.int p1), .val (.int (31 : Int32))] [(.int (65536 : Int32)), (.int p1)])) _
        refine XS.icmpYes X0.here hx rfl (pc0 := 22) (pc' := 33) rfl (hb hby nlz_22) rfl (tlt hc4).1 (by decide) (by decide) ?_
        show Steps p.tables e below (s₁.setTop (mkF m 33 #[.val (.int p1), .val (.int (31 : Int32))] [])) _
        refine XS.iloadN X0.here hx rfl (hb hby nlz_33) rfl ?_
        show Steps p.tables e below (s₁.setTop (mkF m 34 #[.val (.int p1), .val (.int (31 : Int32))] [(.int p1)])) _
        refine XS.sipush X0.here hx rfl (hb hby nlz_34) ?_
        exact k)
      by_cases hc6 : p1 < (256 : Int32)
      · have go7 : ∀ t, Steps p.tables e below (s₁.setTop (mkF m 51 #[.val (.int p1), .val (.int (31 : Int32))] [(.int (16 : Int32)), (.int p1)])) t → Steps p.tables e below (s₁.setTop (entryFrame m #[(.int p1)] 2)) t := fun t k => go5 t (by
          show Steps p.tables e below (s₁.setTop (mkF m 37 #[.val (.int p1), .val (.int (31 : Int32))] [(.int (256 : Int32)), (.int p1)])) _
          refine XS.icmpYes X0.here hx rfl (pc0 := 37) (pc' := 48) rfl (hb hby nlz_37) rfl (tlt hc6).1 (by decide) (by decide) ?_
          show Steps p.tables e below (s₁.setTop (mkF m 48 #[.val (.int p1), .val (.int (31 : Int32))] [])) _
          refine XS.iloadN X0.here hx rfl (hb hby nlz_48) rfl ?_
          show Steps p.tables e below (s₁.setTop (mkF m 49 #[.val (.int p1), .val (.int (31 : Int32))] [(.int p1)])) _
          refine XS.bipush X0.here hx rfl (hb hby nlz_49) ?_
          exact k)
        by_cases hc8 : p1 < (16 : Int32)
        · have go9 : ∀ t, Steps p.tables e below (s₁.setTop (mkF m 63 #[.val (.int p1), .val (.int (31 : Int32))] [(.int (4 : Int32)), (.int p1)])) t → Steps p.tables e below (s₁.setTop (entryFrame m #[(.int p1)] 2)) t := fun t k => go7 t (by
            show Steps p.tables e below (s₁.setTop (mkF m 51 #[.val (.int p1), .val (.int (31 : Int32))] [(.int (16 : Int32)), (.int p1)])) _
            refine XS.icmpYes X0.here hx rfl (pc0 := 51) (pc' := 61) rfl (hb hby nlz_51) rfl (tlt hc8).1 (by decide) (by decide) ?_
            show Steps p.tables e below (s₁.setTop (mkF m 61 #[.val (.int p1), .val (.int (31 : Int32))] [])) _
            refine XS.iloadN X0.here hx rfl (hb hby nlz_61) rfl ?_
            show Steps p.tables e below (s₁.setTop (mkF m 62 #[.val (.int p1), .val (.int (31 : Int32))] [(.int p1)])) _
            refine XS.iconst X0.here hx rfl (hb hby nlz_62) ?_
            exact k)
          by_cases hc10 : p1 < (4 : Int32)
          · have go11 : ∀ t, Steps p.tables e below (s₁.setTop (mkF m 78 #[.val (.int p1), .val (.int (31 : Int32))] [(.int ((31 : Int32) - (own_ushr p1 (1 : Int32))))])) t → Steps p.tables e below (s₁.setTop (entryFrame m #[(.int p1)] 2)) t := fun t k => go9 t (by
              show Steps p.tables e below (s₁.setTop (mkF m 63 #[.val (.int p1), .val (.int (31 : Int32))] [(.int (4 : Int32)), (.int p1)])) _
              refine XS.icmpYes X0.here hx rfl (pc0 := 63) (pc' := 73) rfl (hb hby nlz_63) rfl (tlt hc10).1 (by decide) (by decide) ?_
              show Steps p.tables e below (s₁.setTop (mkF m 73 #[.val (.int p1), .val (.int (31 : Int32))] [])) _
              refine XS.iloadN X0.here hx rfl (hb hby nlz_73) rfl ?_
              show Steps p.tables e below (s₁.setTop (mkF m 74 #[.val (.int p1), .val (.int (31 : Int32))] [(.int (31 : Int32))])) _
              refine XS.iloadN X0.here hx rfl (hb hby nlz_74) rfl ?_
              show Steps p.tables e below (s₁.setTop (mkF m 75 #[.val (.int p1), .val (.int (31 : Int32))] [(.int p1), (.int (31 : Int32))])) _
              refine XS.iconst X0.here hx rfl (hb hby nlz_75) ?_
              show Steps p.tables e below (s₁.setTop (mkF m 76 #[.val (.int p1), .val (.int (31 : Int32))] [(.int (1 : Int32)), (.int p1), (.int (31 : Int32))])) _
              refine XS.iushr X0.here hx rfl (hb hby nlz_76) rfl ?_
              show Steps p.tables e below (s₁.setTop (mkF m 77 #[.val (.int p1), .val (.int (31 : Int32))] [(.int (own_ushr p1 (1 : Int32))), (.int (31 : Int32))])) _
              refine XS.isub X0.here hx rfl (hb hby nlz_77) rfl ?_
              exact k)
            obtain ⟨fs, hr, hrun, hended, hW, hsame⟩ := X0.leave (v := some (.int ((31 : Int32) - (own_ushr p1 (1 : Int32))))) (fun h => by rw [Bd.returns] at h; cases h)
            refine ⟨_, _, go11 _ ?_, hrun, hended, _, _, rfl, ?_, ⟨_, rfl⟩, hW, hsame.mono (by decide) (by decide)⟩
            · exact retI X0 hx Bd.returns (hb hby nlz_78) hr
            · show QV (.int (own_nlz p1)) h0 n0 _ s₁.heap _
              rw [e0]
              exact ⟨congrArg some (congrArg Value.int (Eq.symm (show (own_nlz p1) = ((31 : Int32) - (own_ushr p1 (1 : Int32))) from by unfold own_nlz; rw [if_pos hc2, if_pos hc4, if_pos hc6, if_pos hc8, if_pos hc10]))), N0, rfl⟩
          · have go12 : ∀ t, Steps p.tables e below (s₁.setTop (mkF m 78 #[.val (.int (own_ushr p1 (2 : Int32))), .val (.int (29 : Int32))] [(.int ((29 : Int32) - (own_ushr (own_ushr p1 (2 : Int32)) (1 : Int32))))])) t → Steps p.tables e below (s₁.setTop (entryFrame m #[(.int p1)] 2)) t := fun t k => go9 t (by
              show Steps p.tables e below (s₁.setTop (mkF m 63 #[.val (.int p1), .val (.int (31 : Int32))] [(.int (4 : Int32)), (.int p1)])) _
              refine XS.icmpNo X0.here hx rfl (hb hby nlz_63) rfl (flt hc10).1 ?_
              show Steps p.tables e below (s₁.setTop (mkF m 66 #[.val (.int p1), .val (.int (31 : Int32))] [])) _
              refine XS.iinc X0.here hx rfl (hb hby nlz_66) rfl (l' := #[.val (.int p1), .val (.int (29 : Int32))]) rfl ?_
              show Steps p.tables e below (s₁.setTop (mkF m 69 #[.val (.int p1), .val (.int (29 : Int32))] [])) _
              refine XS.iloadN X0.here hx rfl (hb hby nlz_69) rfl ?_
              show Steps p.tables e below (s₁.setTop (mkF m 70 #[.val (.int p1), .val (.int (29 : Int32))] [(.int p1)])) _
              refine XS.iconst X0.here hx rfl (hb hby nlz_70) ?_
              show Steps p.tables e below (s₁.setTop (mkF m 71 #[.val (.int p1), .val (.int (29 : Int32))] [(.int (2 : Int32)), (.int p1)])) _
              refine XS.iushr X0.here hx rfl (hb hby nlz_71) rfl ?_
              show Steps p.tables e below (s₁.setTop (mkF m 72 #[.val (.int p1), .val (.int (29 : Int32))] [(.int (own_ushr p1 (2 : Int32)))])) _
              refine XS.istoreN X0.here hx rfl (hb hby nlz_72) rfl (l' := #[.val (.int (own_ushr p1 (2 : Int32))), .val (.int (29 : Int32))]) rfl ?_
              show Steps p.tables e below (s₁.setTop (mkF m 73 #[.val (.int (own_ushr p1 (2 : Int32))), .val (.int (29 : Int32))] [])) _
              refine XS.iloadN X0.here hx rfl (hb hby nlz_73) rfl ?_
              show Steps p.tables e below (s₁.setTop (mkF m 74 #[.val (.int (own_ushr p1 (2 : Int32))), .val (.int (29 : Int32))] [(.int (29 : Int32))])) _
              refine XS.iloadN X0.here hx rfl (hb hby nlz_74) rfl ?_
              show Steps p.tables e below (s₁.setTop (mkF m 75 #[.val (.int (own_ushr p1 (2 : Int32))), .val (.int (29 : Int32))] [(.int (own_ushr p1 (2 : Int32))), (.int (29 : Int32))])) _
              refine XS.iconst X0.here hx rfl (hb hby nlz_75) ?_
              show Steps p.tables e below (s₁.setTop (mkF m 76 #[.val (.int (own_ushr p1 (2 : Int32))), .val (.int (29 : Int32))] [(.int (1 : Int32)), (.int (own_ushr p1 (2 : Int32))), (.int (29 : Int32))])) _
              refine XS.iushr X0.here hx rfl (hb hby nlz_76) rfl ?_
              show Steps p.tables e below (s₁.setTop (mkF m 77 #[.val (.int (own_ushr p1 (2 : Int32))), .val (.int (29 : Int32))] [(.int (own_ushr (own_ushr p1 (2 : Int32)) (1 : Int32))), (.int (29 : Int32))])) _
              refine XS.isub X0.here hx rfl (hb hby nlz_77) rfl ?_
              exact k)
            obtain ⟨fs, hr, hrun, hended, hW, hsame⟩ := X0.leave (v := some (.int ((29 : Int32) - (own_ushr (own_ushr p1 (2 : Int32)) (1 : Int32))))) (fun h => by rw [Bd.returns] at h; cases h)
            refine ⟨_, _, go12 _ ?_, hrun, hended, _, _, rfl, ?_, ⟨_, rfl⟩, hW, hsame.mono (by decide) (by decide)⟩
            · exact retI X0 hx Bd.returns (hb hby nlz_78) hr
            · show QV (.int (own_nlz p1)) h0 n0 _ s₁.heap _
              rw [e0]
              exact ⟨congrArg some (congrArg Value.int (Eq.symm (show (own_nlz p1) = ((29 : Int32) - (own_ushr (own_ushr p1 (2 : Int32)) (1 : Int32))) from by unfold own_nlz; rw [if_pos hc2, if_pos hc4, if_pos hc6, if_pos hc8, if_neg hc10]))), N0, rfl⟩
        · have go13 : ∀ t, Steps p.tables e below (s₁.setTop (mkF m 63 #[.val (.int (own_ushr p1 (4 : Int32))), .val (.int (27 : Int32))] [(.int (4 : Int32)), (.int (own_ushr p1 (4 : Int32)))])) t → Steps p.tables e below (s₁.setTop (entryFrame m #[(.int p1)] 2)) t := fun t k => go7 t (by
            show Steps p.tables e below (s₁.setTop (mkF m 51 #[.val (.int p1), .val (.int (31 : Int32))] [(.int (16 : Int32)), (.int p1)])) _
            refine XS.icmpNo X0.here hx rfl (hb hby nlz_51) rfl (flt hc8).1 ?_
            show Steps p.tables e below (s₁.setTop (mkF m 54 #[.val (.int p1), .val (.int (31 : Int32))] [])) _
            refine XS.iinc X0.here hx rfl (hb hby nlz_54) rfl (l' := #[.val (.int p1), .val (.int (27 : Int32))]) rfl ?_
            show Steps p.tables e below (s₁.setTop (mkF m 57 #[.val (.int p1), .val (.int (27 : Int32))] [])) _
            refine XS.iloadN X0.here hx rfl (hb hby nlz_57) rfl ?_
            show Steps p.tables e below (s₁.setTop (mkF m 58 #[.val (.int p1), .val (.int (27 : Int32))] [(.int p1)])) _
            refine XS.iconst X0.here hx rfl (hb hby nlz_58) ?_
            show Steps p.tables e below (s₁.setTop (mkF m 59 #[.val (.int p1), .val (.int (27 : Int32))] [(.int (4 : Int32)), (.int p1)])) _
            refine XS.iushr X0.here hx rfl (hb hby nlz_59) rfl ?_
            show Steps p.tables e below (s₁.setTop (mkF m 60 #[.val (.int p1), .val (.int (27 : Int32))] [(.int (own_ushr p1 (4 : Int32)))])) _
            refine XS.istoreN X0.here hx rfl (hb hby nlz_60) rfl (l' := #[.val (.int (own_ushr p1 (4 : Int32))), .val (.int (27 : Int32))]) rfl ?_
            show Steps p.tables e below (s₁.setTop (mkF m 61 #[.val (.int (own_ushr p1 (4 : Int32))), .val (.int (27 : Int32))] [])) _
            refine XS.iloadN X0.here hx rfl (hb hby nlz_61) rfl ?_
            show Steps p.tables e below (s₁.setTop (mkF m 62 #[.val (.int (own_ushr p1 (4 : Int32))), .val (.int (27 : Int32))] [(.int (own_ushr p1 (4 : Int32)))])) _
            refine XS.iconst X0.here hx rfl (hb hby nlz_62) ?_
            exact k)
          by_cases hc14 : (own_ushr p1 (4 : Int32)) < (4 : Int32)
          · have go15 : ∀ t, Steps p.tables e below (s₁.setTop (mkF m 78 #[.val (.int (own_ushr p1 (4 : Int32))), .val (.int (27 : Int32))] [(.int ((27 : Int32) - (own_ushr (own_ushr p1 (4 : Int32)) (1 : Int32))))])) t → Steps p.tables e below (s₁.setTop (entryFrame m #[(.int p1)] 2)) t := fun t k => go13 t (by
              show Steps p.tables e below (s₁.setTop (mkF m 63 #[.val (.int (own_ushr p1 (4 : Int32))), .val (.int (27 : Int32))] [(.int (4 : Int32)), (.int (own_ushr p1 (4 : Int32)))])) _
              refine XS.icmpYes X0.here hx rfl (pc0 := 63) (pc' := 73) rfl (hb hby nlz_63) rfl (tlt hc14).1 (by decide) (by decide) ?_
              show Steps p.tables e below (s₁.setTop (mkF m 73 #[.val (.int (own_ushr p1 (4 : Int32))), .val (.int (27 : Int32))] [])) _
              refine XS.iloadN X0.here hx rfl (hb hby nlz_73) rfl ?_
              show Steps p.tables e below (s₁.setTop (mkF m 74 #[.val (.int (own_ushr p1 (4 : Int32))), .val (.int (27 : Int32))] [(.int (27 : Int32))])) _
              refine XS.iloadN X0.here hx rfl (hb hby nlz_74) rfl ?_
              show Steps p.tables e below (s₁.setTop (mkF m 75 #[.val (.int (own_ushr p1 (4 : Int32))), .val (.int (27 : Int32))] [(.int (own_ushr p1 (4 : Int32))), (.int (27 : Int32))])) _
              refine XS.iconst X0.here hx rfl (hb hby nlz_75) ?_
              show Steps p.tables e below (s₁.setTop (mkF m 76 #[.val (.int (own_ushr p1 (4 : Int32))), .val (.int (27 : Int32))] [(.int (1 : Int32)), (.int (own_ushr p1 (4 : Int32))), (.int (27 : Int32))])) _
              refine XS.iushr X0.here hx rfl (hb hby nlz_76) rfl ?_
              show Steps p.tables e below (s₁.setTop (mkF m 77 #[.val (.int (own_ushr p1 (4 : Int32))), .val (.int (27 : Int32))] [(.int (own_ushr (own_ushr p1 (4 : Int32)) (1 : Int32))), (.int (27 : Int32))])) _
              refine XS.isub X0.here hx rfl (hb hby nlz_77) rfl ?_
              exact k)
            obtain ⟨fs, hr, hrun, hended, hW, hsame⟩ := X0.leave (v := some (.int ((27 : Int32) - (own_ushr (own_ushr p1 (4 : Int32)) (1 : Int32))))) (fun h => by rw [Bd.returns] at h; cases h)
            refine ⟨_, _, go15 _ ?_, hrun, hended, _, _, rfl, ?_, ⟨_, rfl⟩, hW, hsame.mono (by decide) (by decide)⟩
            · exact retI X0 hx Bd.returns (hb hby nlz_78) hr
            · show QV (.int (own_nlz p1)) h0 n0 _ s₁.heap _
              rw [e0]
              exact ⟨congrArg some (congrArg Value.int (Eq.symm (show (own_nlz p1) = ((27 : Int32) - (own_ushr (own_ushr p1 (4 : Int32)) (1 : Int32))) from by unfold own_nlz; rw [if_pos hc2, if_pos hc4, if_pos hc6, if_neg hc8, if_pos hc14]))), N0, rfl⟩
          · have go16 : ∀ t, Steps p.tables e below (s₁.setTop (mkF m 78 #[.val (.int (own_ushr (own_ushr p1 (4 : Int32)) (2 : Int32))), .val (.int (25 : Int32))] [(.int ((25 : Int32) - (own_ushr (own_ushr (own_ushr p1 (4 : Int32)) (2 : Int32)) (1 : Int32))))])) t → Steps p.tables e below (s₁.setTop (entryFrame m #[(.int p1)] 2)) t := fun t k => go13 t (by
              show Steps p.tables e below (s₁.setTop (mkF m 63 #[.val (.int (own_ushr p1 (4 : Int32))), .val (.int (27 : Int32))] [(.int (4 : Int32)), (.int (own_ushr p1 (4 : Int32)))])) _
              refine XS.icmpNo X0.here hx rfl (hb hby nlz_63) rfl (flt hc14).1 ?_
              show Steps p.tables e below (s₁.setTop (mkF m 66 #[.val (.int (own_ushr p1 (4 : Int32))), .val (.int (27 : Int32))] [])) _
              refine XS.iinc X0.here hx rfl (hb hby nlz_66) rfl (l' := #[.val (.int (own_ushr p1 (4 : Int32))), .val (.int (25 : Int32))]) rfl ?_
              show Steps p.tables e below (s₁.setTop (mkF m 69 #[.val (.int (own_ushr p1 (4 : Int32))), .val (.int (25 : Int32))] [])) _
              refine XS.iloadN X0.here hx rfl (hb hby nlz_69) rfl ?_
              show Steps p.tables e below (s₁.setTop (mkF m 70 #[.val (.int (own_ushr p1 (4 : Int32))), .val (.int (25 : Int32))] [(.int (own_ushr p1 (4 : Int32)))])) _
              refine XS.iconst X0.here hx rfl (hb hby nlz_70) ?_
              show Steps p.tables e below (s₁.setTop (mkF m 71 #[.val (.int (own_ushr p1 (4 : Int32))), .val (.int (25 : Int32))] [(.int (2 : Int32)), (.int (own_ushr p1 (4 : Int32)))])) _
              refine XS.iushr X0.here hx rfl (hb hby nlz_71) rfl ?_
              show Steps p.tables e below (s₁.setTop (mkF m 72 #[.val (.int (own_ushr p1 (4 : Int32))), .val (.int (25 : Int32))] [(.int (own_ushr (own_ushr p1 (4 : Int32)) (2 : Int32)))])) _
              refine XS.istoreN X0.here hx rfl (hb hby nlz_72) rfl (l' := #[.val (.int (own_ushr (own_ushr p1 (4 : Int32)) (2 : Int32))), .val (.int (25 : Int32))]) rfl ?_
              show Steps p.tables e below (s₁.setTop (mkF m 73 #[.val (.int (own_ushr (own_ushr p1 (4 : Int32)) (2 : Int32))), .val (.int (25 : Int32))] [])) _
              refine XS.iloadN X0.here hx rfl (hb hby nlz_73) rfl ?_
              show Steps p.tables e below (s₁.setTop (mkF m 74 #[.val (.int (own_ushr (own_ushr p1 (4 : Int32)) (2 : Int32))), .val (.int (25 : Int32))] [(.int (25 : Int32))])) _
              refine XS.iloadN X0.here hx rfl (hb hby nlz_74) rfl ?_
              show Steps p.tables e below (s₁.setTop (mkF m 75 #[.val (.int (own_ushr (own_ushr p1 (4 : Int32)) (2 : Int32))), .val (.int (25 : Int32))] [(.int (own_ushr (own_ushr p1 (4 : Int32)) (2 : Int32))), (.int (25 : Int32))])) _
              refine XS.iconst X0.here hx rfl (hb hby nlz_75) ?_
              show Steps p.tables e below (s₁.setTop (mkF m 76 #[.val (.int (own_ushr (own_ushr p1 (4 : Int32)) (2 : Int32))), .val (.int (25 : Int32))] [(.int (1 : Int32)), (.int (own_ushr (own_ushr p1 (4 : Int32)) (2 : Int32))), (.int (25 : Int32))])) _
              refine XS.iushr X0.here hx rfl (hb hby nlz_76) rfl ?_
              show Steps p.tables e below (s₁.setTop (mkF m 77 #[.val (.int (own_ushr (own_ushr p1 (4 : Int32)) (2 : Int32))), .val (.int (25 : Int32))] [(.int (own_ushr (own_ushr (own_ushr p1 (4 : Int32)) (2 : Int32)) (1 : Int32))), (.int (25 : Int32))])) _
              refine XS.isub X0.here hx rfl (hb hby nlz_77) rfl ?_
              exact k)
            obtain ⟨fs, hr, hrun, hended, hW, hsame⟩ := X0.leave (v := some (.int ((25 : Int32) - (own_ushr (own_ushr (own_ushr p1 (4 : Int32)) (2 : Int32)) (1 : Int32))))) (fun h => by rw [Bd.returns] at h; cases h)
            refine ⟨_, _, go16 _ ?_, hrun, hended, _, _, rfl, ?_, ⟨_, rfl⟩, hW, hsame.mono (by decide) (by decide)⟩
            · exact retI X0 hx Bd.returns (hb hby nlz_78) hr
            · show QV (.int (own_nlz p1)) h0 n0 _ s₁.heap _
              rw [e0]
              exact ⟨congrArg some (congrArg Value.int (Eq.symm (show (own_nlz p1) = ((25 : Int32) - (own_ushr (own_ushr (own_ushr p1 (4 : Int32)) (2 : Int32)) (1 : Int32))) from by unfold own_nlz; rw [if_pos hc2, if_pos hc4, if_pos hc6, if_neg hc8, if_neg hc14]))), N0, rfl⟩
      · have go17 : ∀ t, Steps p.tables e below (s₁.setTop (mkF m 51 #[.val (.int (own_ushr p1 (8 : Int32))), .val (.int (23 : Int32))] [(.int (16 : Int32)), (.int (own_ushr p1 (8 : Int32)))])) t → Steps p.tables e below (s₁.setTop (entryFrame m #[(.int p1)] 2)) t := fun t k => go5 t (by
          show Steps p.tables e below (s₁.setTop (mkF m 37 #[.val (.int p1), .val (.int (31 : Int32))] [(.int (256 : Int32)), (.int p1)])) _
          refine XS.icmpNo X0.here hx rfl (hb hby nlz_37) rfl (flt hc6).1 ?_
          show Steps p.tables e below (s₁.setTop (mkF m 40 #[.val (.int p1), .val (.int (31 : Int32))] [])) _
          refine XS.iinc X0.here hx rfl (hb hby nlz_40) rfl (l' := #[.val (.int p1), .val (.int (23 : Int32))]) rfl ?_
          show Steps p.tables e below (s₁.setTop (mkF m 43 #[.val (.int p1), .val (.int (23 : Int32))] [])) _
          refine XS.iloadN X0.here hx rfl (hb hby nlz_43) rfl ?_
          show Steps p.tables e below (s₁.setTop (mkF m 44 #[.val (.int p1), .val (.int (23 : Int32))] [(.int p1)])) _
          refine XS.bipush X0.here hx rfl (hb hby nlz_44) ?_
          show Steps p.tables e below (s₁.setTop (mkF m 46 #[.val (.int p1), .val (.int (23 : Int32))] [(.int (8 : Int32)), (.int p1)])) _
          refine XS.iushr X0.here hx rfl (hb hby nlz_46) rfl ?_
          show Steps p.tables e below (s₁.setTop (mkF m 47 #[.val (.int p1), .val (.int (23 : Int32))] [(.int (own_ushr p1 (8 : Int32)))])) _
          refine XS.istoreN X0.here hx rfl (hb hby nlz_47) rfl (l' := #[.val (.int (own_ushr p1 (8 : Int32))), .val (.int (23 : Int32))]) rfl ?_
          show Steps p.tables e below (s₁.setTop (mkF m 48 #[.val (.int (own_ushr p1 (8 : Int32))), .val (.int (23 : Int32))] [])) _
          refine XS.iloadN X0.here hx rfl (hb hby nlz_48) rfl ?_
          show Steps p.tables e below (s₁.setTop (mkF m 49 #[.val (.int (own_ushr p1 (8 : Int32))), .val (.int (23 : Int32))] [(.int (own_ushr p1 (8 : Int32)))])) _
          refine XS.bipush X0.here hx rfl (hb hby nlz_49) ?_
          exact k)
        by_cases hc18 : (own_ushr p1 (8 : Int32)) < (16 : Int32)
        · have go19 : ∀ t, Steps p.tables e below (s₁.setTop (mkF m 63 #[.val (.int (own_ushr p1 (8 : Int32))), .val (.int (23 : Int32))] [(.int (4 : Int32)), (.int (own_ushr p1 (8 : Int32)))])) t → Steps p.tables e below (s₁.setTop (entryFrame m #[(.int p1)] 2)) t := fun t k => go17 t (by
            show Steps p.tables e below (s₁.setTop (mkF m 51 #[.val (.int (own_ushr p1 (8 : Int32))), .val (.int (23 : Int32))] [(.int (16 : Int32)), (.int (own_ushr p1 (8 : Int32)))])) _
            refine XS.icmpYes X0.here hx rfl (pc0 := 51) (pc' := 61) rfl (hb hby nlz_51) rfl (tlt hc18).1 (by decide) (by decide) ?_
            show Steps p.tables e below (s₁.setTop (mkF m 61 #[.val (.int (own_ushr p1 (8 : Int32))), .val (.int (23 : Int32))] [])) _
            refine XS.iloadN X0.here hx rfl (hb hby nlz_61) rfl ?_
            show Steps p.tables e below (s₁.setTop (mkF m 62 #[.val (.int (own_ushr p1 (8 : Int32))), .val (.int (23 : Int32))] [(.int (own_ushr p1 (8 : Int32)))])) _
            refine XS.iconst X0.here hx rfl (hb hby nlz_62) ?_
            exact k)
          by_cases hc20 : (own_ushr p1 (8 : Int32)) < (4 : Int32)
          · have go21 : ∀ t, Steps p.tables e below (s₁.setTop (mkF m 78 #[.val (.int (own_ushr p1 (8 : Int32))), .val (.int (23 : Int32))] [(.int ((23 : Int32) - (own_ushr (own_ushr p1 (8 : Int32)) (1 : Int32))))])) t → Steps p.tables e below (s₁.setTop (entryFrame m #[(.int p1)] 2)) t := fun t k => go19 t (by
              show Steps p.tables e below (s₁.setTop (mkF m 63 #[.val (.int (own_ushr p1 (8 : Int32))), .val (.int (23 : Int32))] [(.int (4 : Int32)), (.int (own_ushr p1 (8 : Int32)))])) _
              refine XS.icmpYes X0.here hx rfl (pc0 := 63) (pc' := 73) rfl (hb hby nlz_63) rfl (tlt hc20).1 (by decide) (by decide) ?_
              show Steps p.tables e below (s₁.setTop (mkF m 73 #[.val (.int (own_ushr p1 (8 : Int32))), .val (.int (23 : Int32))] [])) _
              refine XS.iloadN X0.here hx rfl (hb hby nlz_73) rfl ?_
              show Steps p.tables e below (s₁.setTop (mkF m 74 #[.val (.int (own_ushr p1 (8 : Int32))), .val (.int (23 : Int32))] [(.int (23 : Int32))])) _
              refine XS.iloadN X0.here hx rfl (hb hby nlz_74) rfl ?_
              show Steps p.tables e below (s₁.setTop (mkF m 75 #[.val (.int (own_ushr p1 (8 : Int32))), .val (.int (23 : Int32))] [(.int (own_ushr p1 (8 : Int32))), (.int (23 : Int32))])) _
              refine XS.iconst X0.here hx rfl (hb hby nlz_75) ?_
              show Steps p.tables e below (s₁.setTop (mkF m 76 #[.val (.int (own_ushr p1 (8 : Int32))), .val (.int (23 : Int32))] [(.int (1 : Int32)), (.int (own_ushr p1 (8 : Int32))), (.int (23 : Int32))])) _
              refine XS.iushr X0.here hx rfl (hb hby nlz_76) rfl ?_
              show Steps p.tables e below (s₁.setTop (mkF m 77 #[.val (.int (own_ushr p1 (8 : Int32))), .val (.int (23 : Int32))] [(.int (own_ushr (own_ushr p1 (8 : Int32)) (1 : Int32))), (.int (23 : Int32))])) _
              refine XS.isub X0.here hx rfl (hb hby nlz_77) rfl ?_
              exact k)
            obtain ⟨fs, hr, hrun, hended, hW, hsame⟩ := X0.leave (v := some (.int ((23 : Int32) - (own_ushr (own_ushr p1 (8 : Int32)) (1 : Int32))))) (fun h => by rw [Bd.returns] at h; cases h)
            refine ⟨_, _, go21 _ ?_, hrun, hended, _, _, rfl, ?_, ⟨_, rfl⟩, hW, hsame.mono (by decide) (by decide)⟩
            · exact retI X0 hx Bd.returns (hb hby nlz_78) hr
            · show QV (.int (own_nlz p1)) h0 n0 _ s₁.heap _
              rw [e0]
              exact ⟨congrArg some (congrArg Value.int (Eq.symm (show (own_nlz p1) = ((23 : Int32) - (own_ushr (own_ushr p1 (8 : Int32)) (1 : Int32))) from by unfold own_nlz; rw [if_pos hc2, if_pos hc4, if_neg hc6, if_pos hc18, if_pos hc20]))), N0, rfl⟩
          · have go22 : ∀ t, Steps p.tables e below (s₁.setTop (mkF m 78 #[.val (.int (own_ushr (own_ushr p1 (8 : Int32)) (2 : Int32))), .val (.int (21 : Int32))] [(.int ((21 : Int32) - (own_ushr (own_ushr (own_ushr p1 (8 : Int32)) (2 : Int32)) (1 : Int32))))])) t → Steps p.tables e below (s₁.setTop (entryFrame m #[(.int p1)] 2)) t := fun t k => go19 t (by
              show Steps p.tables e below (s₁.setTop (mkF m 63 #[.val (.int (own_ushr p1 (8 : Int32))), .val (.int (23 : Int32))] [(.int (4 : Int32)), (.int (own_ushr p1 (8 : Int32)))])) _
              refine XS.icmpNo X0.here hx rfl (hb hby nlz_63) rfl (flt hc20).1 ?_
              show Steps p.tables e below (s₁.setTop (mkF m 66 #[.val (.int (own_ushr p1 (8 : Int32))), .val (.int (23 : Int32))] [])) _
              refine XS.iinc X0.here hx rfl (hb hby nlz_66) rfl (l' := #[.val (.int (own_ushr p1 (8 : Int32))), .val (.int (21 : Int32))]) rfl ?_
              show Steps p.tables e below (s₁.setTop (mkF m 69 #[.val (.int (own_ushr p1 (8 : Int32))), .val (.int (21 : Int32))] [])) _
              refine XS.iloadN X0.here hx rfl (hb hby nlz_69) rfl ?_
              show Steps p.tables e below (s₁.setTop (mkF m 70 #[.val (.int (own_ushr p1 (8 : Int32))), .val (.int (21 : Int32))] [(.int (own_ushr p1 (8 : Int32)))])) _
              refine XS.iconst X0.here hx rfl (hb hby nlz_70) ?_
              show Steps p.tables e below (s₁.setTop (mkF m 71 #[.val (.int (own_ushr p1 (8 : Int32))), .val (.int (21 : Int32))] [(.int (2 : Int32)), (.int (own_ushr p1 (8 : Int32)))])) _
              refine XS.iushr X0.here hx rfl (hb hby nlz_71) rfl ?_
              show Steps p.tables e below (s₁.setTop (mkF m 72 #[.val (.int (own_ushr p1 (8 : Int32))), .val (.int (21 : Int32))] [(.int (own_ushr (own_ushr p1 (8 : Int32)) (2 : Int32)))])) _
              refine XS.istoreN X0.here hx rfl (hb hby nlz_72) rfl (l' := #[.val (.int (own_ushr (own_ushr p1 (8 : Int32)) (2 : Int32))), .val (.int (21 : Int32))]) rfl ?_
              show Steps p.tables e below (s₁.setTop (mkF m 73 #[.val (.int (own_ushr (own_ushr p1 (8 : Int32)) (2 : Int32))), .val (.int (21 : Int32))] [])) _
              refine XS.iloadN X0.here hx rfl (hb hby nlz_73) rfl ?_
              show Steps p.tables e below (s₁.setTop (mkF m 74 #[.val (.int (own_ushr (own_ushr p1 (8 : Int32)) (2 : Int32))), .val (.int (21 : Int32))] [(.int (21 : Int32))])) _
              refine XS.iloadN X0.here hx rfl (hb hby nlz_74) rfl ?_
              show Steps p.tables e below (s₁.setTop (mkF m 75 #[.val (.int (own_ushr (own_ushr p1 (8 : Int32)) (2 : Int32))), .val (.int (21 : Int32))] [(.int (own_ushr (own_ushr p1 (8 : Int32)) (2 : Int32))), (.int (21 : Int32))])) _
              refine XS.iconst X0.here hx rfl (hb hby nlz_75) ?_
              show Steps p.tables e below (s₁.setTop (mkF m 76 #[.val (.int (own_ushr (own_ushr p1 (8 : Int32)) (2 : Int32))), .val (.int (21 : Int32))] [(.int (1 : Int32)), (.int (own_ushr (own_ushr p1 (8 : Int32)) (2 : Int32))), (.int (21 : Int32))])) _
              refine XS.iushr X0.here hx rfl (hb hby nlz_76) rfl ?_
              show Steps p.tables e below (s₁.setTop (mkF m 77 #[.val (.int (own_ushr (own_ushr p1 (8 : Int32)) (2 : Int32))), .val (.int (21 : Int32))] [(.int (own_ushr (own_ushr (own_ushr p1 (8 : Int32)) (2 : Int32)) (1 : Int32))), (.int (21 : Int32))])) _
              refine XS.isub X0.here hx rfl (hb hby nlz_77) rfl ?_
              exact k)
            obtain ⟨fs, hr, hrun, hended, hW, hsame⟩ := X0.leave (v := some (.int ((21 : Int32) - (own_ushr (own_ushr (own_ushr p1 (8 : Int32)) (2 : Int32)) (1 : Int32))))) (fun h => by rw [Bd.returns] at h; cases h)
            refine ⟨_, _, go22 _ ?_, hrun, hended, _, _, rfl, ?_, ⟨_, rfl⟩, hW, hsame.mono (by decide) (by decide)⟩
            · exact retI X0 hx Bd.returns (hb hby nlz_78) hr
            · show QV (.int (own_nlz p1)) h0 n0 _ s₁.heap _
              rw [e0]
              exact ⟨congrArg some (congrArg Value.int (Eq.symm (show (own_nlz p1) = ((21 : Int32) - (own_ushr (own_ushr (own_ushr p1 (8 : Int32)) (2 : Int32)) (1 : Int32))) from by unfold own_nlz; rw [if_pos hc2, if_pos hc4, if_neg hc6, if_pos hc18, if_neg hc20]))), N0, rfl⟩
        · have go23 : ∀ t, Steps p.tables e below (s₁.setTop (mkF m 63 #[.val (.int (own_ushr (own_ushr p1 (8 : Int32)) (4 : Int32))), .val (.int (19 : Int32))] [(.int (4 : Int32)), (.int (own_ushr (own_ushr p1 (8 : Int32)) (4 : Int32)))])) t → Steps p.tables e below (s₁.setTop (entryFrame m #[(.int p1)] 2)) t := fun t k => go17 t (by
            show Steps p.tables e below (s₁.setTop (mkF m 51 #[.val (.int (own_ushr p1 (8 : Int32))), .val (.int (23 : Int32))] [(.int (16 : Int32)), (.int (own_ushr p1 (8 : Int32)))])) _
            refine XS.icmpNo X0.here hx rfl (hb hby nlz_51) rfl (flt hc18).1 ?_
            show Steps p.tables e below (s₁.setTop (mkF m 54 #[.val (.int (own_ushr p1 (8 : Int32))), .val (.int (23 : Int32))] [])) _
            refine XS.iinc X0.here hx rfl (hb hby nlz_54) rfl (l' := #[.val (.int (own_ushr p1 (8 : Int32))), .val (.int (19 : Int32))]) rfl ?_
            show Steps p.tables e below (s₁.setTop (mkF m 57 #[.val (.int (own_ushr p1 (8 : Int32))), .val (.int (19 : Int32))] [])) _
            refine XS.iloadN X0.here hx rfl (hb hby nlz_57) rfl ?_
            show Steps p.tables e below (s₁.setTop (mkF m 58 #[.val (.int (own_ushr p1 (8 : Int32))), .val (.int (19 : Int32))] [(.int (own_ushr p1 (8 : Int32)))])) _
            refine XS.iconst X0.here hx rfl (hb hby nlz_58) ?_
            show Steps p.tables e below (s₁.setTop (mkF m 59 #[.val (.int (own_ushr p1 (8 : Int32))), .val (.int (19 : Int32))] [(.int (4 : Int32)), (.int (own_ushr p1 (8 : Int32)))])) _
            refine XS.iushr X0.here hx rfl (hb hby nlz_59) rfl ?_
            show Steps p.tables e below (s₁.setTop (mkF m 60 #[.val (.int (own_ushr p1 (8 : Int32))), .val (.int (19 : Int32))] [(.int (own_ushr (own_ushr p1 (8 : Int32)) (4 : Int32)))])) _
            refine XS.istoreN X0.here hx rfl (hb hby nlz_60) rfl (l' := #[.val (.int (own_ushr (own_ushr p1 (8 : Int32)) (4 : Int32))), .val (.int (19 : Int32))]) rfl ?_
            show Steps p.tables e below (s₁.setTop (mkF m 61 #[.val (.int (own_ushr (own_ushr p1 (8 : Int32)) (4 : Int32))), .val (.int (19 : Int32))] [])) _
            refine XS.iloadN X0.here hx rfl (hb hby nlz_61) rfl ?_
            show Steps p.tables e below (s₁.setTop (mkF m 62 #[.val (.int (own_ushr (own_ushr p1 (8 : Int32)) (4 : Int32))), .val (.int (19 : Int32))] [(.int (own_ushr (own_ushr p1 (8 : Int32)) (4 : Int32)))])) _
            refine XS.iconst X0.here hx rfl (hb hby nlz_62) ?_
            exact k)
          by_cases hc24 : (own_ushr (own_ushr p1 (8 : Int32)) (4 : Int32)) < (4 : Int32)
          · have go25 : ∀ t, Steps p.tables e below (s₁.setTop (mkF m 78 #[.val (.int (own_ushr (own_ushr p1 (8 : Int32)) (4 : Int32))), .val (.int (19 : Int32))] [(.int ((19 : Int32) - (own_ushr (own_ushr (own_ushr p1 (8 : Int32)) (4 : Int32)) (1 : Int32))))])) t → Steps p.tables e below (s₁.setTop (entryFrame m #[(.int p1)] 2)) t := fun t k => go23 t (by
              show Steps p.tables e below (s₁.setTop (mkF m 63 #[.val (.int (own_ushr (own_ushr p1 (8 : Int32)) (4 : Int32))), .val (.int (19 : Int32))] [(.int (4 : Int32)), (.int (own_ushr (own_ushr p1 (8 : Int32)) (4 : Int32)))])) _
              refine XS.icmpYes X0.here hx rfl (pc0 := 63) (pc' := 73) rfl (hb hby nlz_63) rfl (tlt hc24).1 (by decide) (by decide) ?_
              show Steps p.tables e below (s₁.setTop (mkF m 73 #[.val (.int (own_ushr (own_ushr p1 (8 : Int32)) (4 : Int32))), .val (.int (19 : Int32))] [])) _
              refine XS.iloadN X0.here hx rfl (hb hby nlz_73) rfl ?_
              show Steps p.tables e below (s₁.setTop (mkF m 74 #[.val (.int (own_ushr (own_ushr p1 (8 : Int32)) (4 : Int32))), .val (.int (19 : Int32))] [(.int (19 : Int32))])) _
              refine XS.iloadN X0.here hx rfl (hb hby nlz_74) rfl ?_
              show Steps p.tables e below (s₁.setTop (mkF m 75 #[.val (.int (own_ushr (own_ushr p1 (8 : Int32)) (4 : Int32))), .val (.int (19 : Int32))] [(.int (own_ushr (own_ushr p1 (8 : Int32)) (4 : Int32))), (.int (19 : Int32))])) _
              refine XS.iconst X0.here hx rfl (hb hby nlz_75) ?_
              show Steps p.tables e below (s₁.setTop (mkF m 76 #[.val (.int (own_ushr (own_ushr p1 (8 : Int32)) (4 : Int32))), .val (.int (19 : Int32))] [(.int (1 : Int32)), (.int (own_ushr (own_ushr p1 (8 : Int32)) (4 : Int32))), (.int (19 : Int32))])) _
              refine XS.iushr X0.here hx rfl (hb hby nlz_76) rfl ?_
              show Steps p.tables e below (s₁.setTop (mkF m 77 #[.val (.int (own_ushr (own_ushr p1 (8 : Int32)) (4 : Int32))), .val (.int (19 : Int32))] [(.int (own_ushr (own_ushr (own_ushr p1 (8 : Int32)) (4 : Int32)) (1 : Int32))), (.int (19 : Int32))])) _
              refine XS.isub X0.here hx rfl (hb hby nlz_77) rfl ?_
              exact k)
            obtain ⟨fs, hr, hrun, hended, hW, hsame⟩ := X0.leave (v := some (.int ((19 : Int32) - (own_ushr (own_ushr (own_ushr p1 (8 : Int32)) (4 : Int32)) (1 : Int32))))) (fun h => by rw [Bd.returns] at h; cases h)
            refine ⟨_, _, go25 _ ?_, hrun, hended, _, _, rfl, ?_, ⟨_, rfl⟩, hW, hsame.mono (by decide) (by decide)⟩
            · exact retI X0 hx Bd.returns (hb hby nlz_78) hr
            · show QV (.int (own_nlz p1)) h0 n0 _ s₁.heap _
              rw [e0]
              exact ⟨congrArg some (congrArg Value.int (Eq.symm (show (own_nlz p1) = ((19 : Int32) - (own_ushr (own_ushr (own_ushr p1 (8 : Int32)) (4 : Int32)) (1 : Int32))) from by unfold own_nlz; rw [if_pos hc2, if_pos hc4, if_neg hc6, if_neg hc18, if_pos hc24]))), N0, rfl⟩
          · have go26 : ∀ t, Steps p.tables e below (s₁.setTop (mkF m 78 #[.val (.int (own_ushr (own_ushr (own_ushr p1 (8 : Int32)) (4 : Int32)) (2 : Int32))), .val (.int (17 : Int32))] [(.int ((17 : Int32) - (own_ushr (own_ushr (own_ushr (own_ushr p1 (8 : Int32)) (4 : Int32)) (2 : Int32)) (1 : Int32))))])) t → Steps p.tables e below (s₁.setTop (entryFrame m #[(.int p1)] 2)) t := fun t k => go23 t (by
              show Steps p.tables e below (s₁.setTop (mkF m 63 #[.val (.int (own_ushr (own_ushr p1 (8 : Int32)) (4 : Int32))), .val (.int (19 : Int32))] [(.int (4 : Int32)), (.int (own_ushr (own_ushr p1 (8 : Int32)) (4 : Int32)))])) _
              refine XS.icmpNo X0.here hx rfl (hb hby nlz_63) rfl (flt hc24).1 ?_
              show Steps p.tables e below (s₁.setTop (mkF m 66 #[.val (.int (own_ushr (own_ushr p1 (8 : Int32)) (4 : Int32))), .val (.int (19 : Int32))] [])) _
              refine XS.iinc X0.here hx rfl (hb hby nlz_66) rfl (l' := #[.val (.int (own_ushr (own_ushr p1 (8 : Int32)) (4 : Int32))), .val (.int (17 : Int32))]) rfl ?_
              show Steps p.tables e below (s₁.setTop (mkF m 69 #[.val (.int (own_ushr (own_ushr p1 (8 : Int32)) (4 : Int32))), .val (.int (17 : Int32))] [])) _
              refine XS.iloadN X0.here hx rfl (hb hby nlz_69) rfl ?_
              show Steps p.tables e below (s₁.setTop (mkF m 70 #[.val (.int (own_ushr (own_ushr p1 (8 : Int32)) (4 : Int32))), .val (.int (17 : Int32))] [(.int (own_ushr (own_ushr p1 (8 : Int32)) (4 : Int32)))])) _
              refine XS.iconst X0.here hx rfl (hb hby nlz_70) ?_
              show Steps p.tables e below (s₁.setTop (mkF m 71 #[.val (.int (own_ushr (own_ushr p1 (8 : Int32)) (4 : Int32))), .val (.int (17 : Int32))] [(.int (2 : Int32)), (.int (own_ushr (own_ushr p1 (8 : Int32)) (4 : Int32)))])) _
              refine XS.iushr X0.here hx rfl (hb hby nlz_71) rfl ?_
              show Steps p.tables e below (s₁.setTop (mkF m 72 #[.val (.int (own_ushr (own_ushr p1 (8 : Int32)) (4 : Int32))), .val (.int (17 : Int32))] [(.int (own_ushr (own_ushr (own_ushr p1 (8 : Int32)) (4 : Int32)) (2 : Int32)))])) _
              refine XS.istoreN X0.here hx rfl (hb hby nlz_72) rfl (l' := #[.val (.int (own_ushr (own_ushr (own_ushr p1 (8 : Int32)) (4 : Int32)) (2 : Int32))), .val (.int (17 : Int32))]) rfl ?_
              show Steps p.tables e below (s₁.setTop (mkF m 73 #[.val (.int (own_ushr (own_ushr (own_ushr p1 (8 : Int32)) (4 : Int32)) (2 : Int32))), .val (.int (17 : Int32))] [])) _
              refine XS.iloadN X0.here hx rfl (hb hby nlz_73) rfl ?_
              show Steps p.tables e below (s₁.setTop (mkF m 74 #[.val (.int (own_ushr (own_ushr (own_ushr p1 (8 : Int32)) (4 : Int32)) (2 : Int32))), .val (.int (17 : Int32))] [(.int (17 : Int32))])) _
              refine XS.iloadN X0.here hx rfl (hb hby nlz_74) rfl ?_
              show Steps p.tables e below (s₁.setTop (mkF m 75 #[.val (.int (own_ushr (own_ushr (own_ushr p1 (8 : Int32)) (4 : Int32)) (2 : Int32))), .val (.int (17 : Int32))] [(.int (own_ushr (own_ushr (own_ushr p1 (8 : Int32)) (4 : Int32)) (2 : Int32))), (.int (17 : Int32))])) _
              refine XS.iconst X0.here hx rfl (hb hby nlz_75) ?_
              show Steps p.tables e below (s₁.setTop (mkF m 76 #[.val (.int (own_ushr (own_ushr (own_ushr p1 (8 : Int32)) (4 : Int32)) (2 : Int32))), .val (.int (17 : Int32))] [(.int (1 : Int32)), (.int (own_ushr (own_ushr (own_ushr p1 (8 : Int32)) (4 : Int32)) (2 : Int32))), (.int (17 : Int32))])) _
              refine XS.iushr X0.here hx rfl (hb hby nlz_76) rfl ?_
              show Steps p.tables e below (s₁.setTop (mkF m 77 #[.val (.int (own_ushr (own_ushr (own_ushr p1 (8 : Int32)) (4 : Int32)) (2 : Int32))), .val (.int (17 : Int32))] [(.int (own_ushr (own_ushr (own_ushr (own_ushr p1 (8 : Int32)) (4 : Int32)) (2 : Int32)) (1 : Int32))), (.int (17 : Int32))])) _
              refine XS.isub X0.here hx rfl (hb hby nlz_77) rfl ?_
              exact k)
            obtain ⟨fs, hr, hrun, hended, hW, hsame⟩ := X0.leave (v := some (.int ((17 : Int32) - (own_ushr (own_ushr (own_ushr (own_ushr p1 (8 : Int32)) (4 : Int32)) (2 : Int32)) (1 : Int32))))) (fun h => by rw [Bd.returns] at h; cases h)
            refine ⟨_, _, go26 _ ?_, hrun, hended, _, _, rfl, ?_, ⟨_, rfl⟩, hW, hsame.mono (by decide) (by decide)⟩
            · exact retI X0 hx Bd.returns (hb hby nlz_78) hr
            · show QV (.int (own_nlz p1)) h0 n0 _ s₁.heap _
              rw [e0]
              exact ⟨congrArg some (congrArg Value.int (Eq.symm (show (own_nlz p1) = ((17 : Int32) - (own_ushr (own_ushr (own_ushr (own_ushr p1 (8 : Int32)) (4 : Int32)) (2 : Int32)) (1 : Int32))) from by unfold own_nlz; rw [if_pos hc2, if_pos hc4, if_neg hc6, if_neg hc18, if_neg hc24]))), N0, rfl⟩
    · have go27 : ∀ t, Steps p.tables e below (s₁.setTop (mkF m 37 #[.val (.int (own_ushr p1 (16 : Int32))), .val (.int (15 : Int32))] [(.int (256 : Int32)), (.int (own_ushr p1 (16 : Int32)))])) t → Steps p.tables e below (s₁.setTop (entryFrame m #[(.int p1)] 2)) t := fun t k => go3 t (by
        show Steps p.tables e below (s₁.setTop (mkF m 22 #[.val (.int p1), .val (.int (31 : Int32))] [(.int (65536 : Int32)), (.int p1)])) _
        refine XS.icmpNo X0.here hx rfl (hb hby nlz_22) rfl (flt hc4).1 ?_
        show Steps p.tables e below (s₁.setTop (mkF m 25 #[.val (.int p1), .val (.int (31 : Int32))] [])) _
        refine XS.iinc X0.here hx rfl (hb hby nlz_25) rfl (l' := #[.val (.int p1), .val (.int (15 : Int32))]) rfl ?_
        show Steps p.tables e below (s₁.setTop (mkF m 28 #[.val (.int p1), .val (.int (15 : Int32))] [])) _
        refine XS.iloadN X0.here hx rfl (hb hby nlz_28) rfl ?_
        show Steps p.tables e below (s₁.setTop (mkF m 29 #[.val (.int p1), .val (.int (15 : Int32))] [(.int p1)])) _
        refine XS.bipush X0.here hx rfl (hb hby nlz_29) ?_
        show Steps p.tables e below (s₁.setTop (mkF m 31 #[.val (.int p1), .val (.int (15 : Int32))] [(.int (16 : Int32)), (.int p1)])) _
        refine XS.iushr X0.here hx rfl (hb hby nlz_31) rfl ?_
        show Steps p.tables e below (s₁.setTop (mkF m 32 #[.val (.int p1), .val (.int (15 : Int32))] [(.int (own_ushr p1 (16 : Int32)))])) _
        refine XS.istoreN X0.here hx rfl (hb hby nlz_32) rfl (l' := #[.val (.int (own_ushr p1 (16 : Int32))), .val (.int (15 : Int32))]) rfl ?_
        show Steps p.tables e below (s₁.setTop (mkF m 33 #[.val (.int (own_ushr p1 (16 : Int32))), .val (.int (15 : Int32))] [])) _
        refine XS.iloadN X0.here hx rfl (hb hby nlz_33) rfl ?_
        show Steps p.tables e below (s₁.setTop (mkF m 34 #[.val (.int (own_ushr p1 (16 : Int32))), .val (.int (15 : Int32))] [(.int (own_ushr p1 (16 : Int32)))])) _
        refine XS.sipush X0.here hx rfl (hb hby nlz_34) ?_
        exact k)
      by_cases hc28 : (own_ushr p1 (16 : Int32)) < (256 : Int32)
      · have go29 : ∀ t, Steps p.tables e below (s₁.setTop (mkF m 51 #[.val (.int (own_ushr p1 (16 : Int32))), .val (.int (15 : Int32))] [(.int (16 : Int32)), (.int (own_ushr p1 (16 : Int32)))])) t → Steps p.tables e below (s₁.setTop (entryFrame m #[(.int p1)] 2)) t := fun t k => go27 t (by
          show Steps p.tables e below (s₁.setTop (mkF m 37 #[.val (.int (own_ushr p1 (16 : Int32))), .val (.int (15 : Int32))] [(.int (256 : Int32)), (.int (own_ushr p1 (16 : Int32)))])) _
          refine XS.icmpYes X0.here hx rfl (pc0 := 37) (pc' := 48) rfl (hb hby nlz_37) rfl (tlt hc28).1 (by decide) (by decide) ?_
          show Steps p.tables e below (s₁.setTop (mkF m 48 #[.val (.int (own_ushr p1 (16 : Int32))), .val (.int (15 : Int32))] [])) _
          refine XS.iloadN X0.here hx rfl (hb hby nlz_48) rfl ?_
          show Steps p.tables e below (s₁.setTop (mkF m 49 #[.val (.int (own_ushr p1 (16 : Int32))), .val (.int (15 : Int32))] [(.int (own_ushr p1 (16 : Int32)))])) _
          refine XS.bipush X0.here hx rfl (hb hby nlz_49) ?_
          exact k)
        by_cases hc30 : (own_ushr p1 (16 : Int32)) < (16 : Int32)
        · have go31 : ∀ t, Steps p.tables e below (s₁.setTop (mkF m 63 #[.val (.int (own_ushr p1 (16 : Int32))), .val (.int (15 : Int32))] [(.int (4 : Int32)), (.int (own_ushr p1 (16 : Int32)))])) t → Steps p.tables e below (s₁.setTop (entryFrame m #[(.int p1)] 2)) t := fun t k => go29 t (by
            show Steps p.tables e below (s₁.setTop (mkF m 51 #[.val (.int (own_ushr p1 (16 : Int32))), .val (.int (15 : Int32))] [(.int (16 : Int32)), (.int (own_ushr p1 (16 : Int32)))])) _
            refine XS.icmpYes X0.here hx rfl (pc0 := 51) (pc' := 61) rfl (hb hby nlz_51) rfl (tlt hc30).1 (by decide) (by decide) ?_
            show Steps p.tables e below (s₁.setTop (mkF m 61 #[.val (.int (own_ushr p1 (16 : Int32))), .val (.int (15 : Int32))] [])) _
            refine XS.iloadN X0.here hx rfl (hb hby nlz_61) rfl ?_
            show Steps p.tables e below (s₁.setTop (mkF m 62 #[.val (.int (own_ushr p1 (16 : Int32))), .val (.int (15 : Int32))] [(.int (own_ushr p1 (16 : Int32)))])) _
            refine XS.iconst X0.here hx rfl (hb hby nlz_62) ?_
            exact k)
          by_cases hc32 : (own_ushr p1 (16 : Int32)) < (4 : Int32)
          · have go33 : ∀ t, Steps p.tables e below (s₁.setTop (mkF m 78 #[.val (.int (own_ushr p1 (16 : Int32))), .val (.int (15 : Int32))] [(.int ((15 : Int32) - (own_ushr (own_ushr p1 (16 : Int32)) (1 : Int32))))])) t → Steps p.tables e below (s₁.setTop (entryFrame m #[(.int p1)] 2)) t := fun t k => go31 t (by
              show Steps p.tables e below (s₁.setTop (mkF m 63 #[.val (.int (own_ushr p1 (16 : Int32))), .val (.int (15 : Int32))] [(.int (4 : Int32)), (.int (own_ushr p1 (16 : Int32)))])) _
              refine XS.icmpYes X0.here hx rfl (pc0 := 63) (pc' := 73) rfl (hb hby nlz_63) rfl (tlt hc32).1 (by decide) (by decide) ?_
              show Steps p.tables e below (s₁.setTop (mkF m 73 #[.val (.int (own_ushr p1 (16 : Int32))), .val (.int (15 : Int32))] [])) _
              refine XS.iloadN X0.here hx rfl (hb hby nlz_73) rfl ?_
              show Steps p.tables e below (s₁.setTop (mkF m 74 #[.val (.int (own_ushr p1 (16 : Int32))), .val (.int (15 : Int32))] [(.int (15 : Int32))])) _
              refine XS.iloadN X0.here hx rfl (hb hby nlz_74) rfl ?_
              show Steps p.tables e below (s₁.setTop (mkF m 75 #[.val (.int (own_ushr p1 (16 : Int32))), .val (.int (15 : Int32))] [(.int (own_ushr p1 (16 : Int32))), (.int (15 : Int32))])) _
              refine XS.iconst X0.here hx rfl (hb hby nlz_75) ?_
              show Steps p.tables e below (s₁.setTop (mkF m 76 #[.val (.int (own_ushr p1 (16 : Int32))), .val (.int (15 : Int32))] [(.int (1 : Int32)), (.int (own_ushr p1 (16 : Int32))), (.int (15 : Int32))])) _
              refine XS.iushr X0.here hx rfl (hb hby nlz_76) rfl ?_
              show Steps p.tables e below (s₁.setTop (mkF m 77 #[.val (.int (own_ushr p1 (16 : Int32))), .val (.int (15 : Int32))] [(.int (own_ushr (own_ushr p1 (16 : Int32)) (1 : Int32))), (.int (15 : Int32))])) _
              refine XS.isub X0.here hx rfl (hb hby nlz_77) rfl ?_
              exact k)
            obtain ⟨fs, hr, hrun, hended, hW, hsame⟩ := X0.leave (v := some (.int ((15 : Int32) - (own_ushr (own_ushr p1 (16 : Int32)) (1 : Int32))))) (fun h => by rw [Bd.returns] at h; cases h)
            refine ⟨_, _, go33 _ ?_, hrun, hended, _, _, rfl, ?_, ⟨_, rfl⟩, hW, hsame.mono (by decide) (by decide)⟩
            · exact retI X0 hx Bd.returns (hb hby nlz_78) hr
            · show QV (.int (own_nlz p1)) h0 n0 _ s₁.heap _
              rw [e0]
              exact ⟨congrArg some (congrArg Value.int (Eq.symm (show (own_nlz p1) = ((15 : Int32) - (own_ushr (own_ushr p1 (16 : Int32)) (1 : Int32))) from by unfold own_nlz; rw [if_pos hc2, if_neg hc4, if_pos hc28, if_pos hc30, if_pos hc32]))), N0, rfl⟩
          · have go34 : ∀ t, Steps p.tables e below (s₁.setTop (mkF m 78 #[.val (.int (own_ushr (own_ushr p1 (16 : Int32)) (2 : Int32))), .val (.int (13 : Int32))] [(.int ((13 : Int32) - (own_ushr (own_ushr (own_ushr p1 (16 : Int32)) (2 : Int32)) (1 : Int32))))])) t → Steps p.tables e below (s₁.setTop (entryFrame m #[(.int p1)] 2)) t := fun t k => go31 t (by
              show Steps p.tables e below (s₁.setTop (mkF m 63 #[.val (.int (own_ushr p1 (16 : Int32))), .val (.int (15 : Int32))] [(.int (4 : Int32)), (.int (own_ushr p1 (16 : Int32)))])) _
              refine XS.icmpNo X0.here hx rfl (hb hby nlz_63) rfl (flt hc32).1 ?_
              show Steps p.tables e below (s₁.setTop (mkF m 66 #[.val (.int (own_ushr p1 (16 : Int32))), .val (.int (15 : Int32))] [])) _
              refine XS.iinc X0.here hx rfl (hb hby nlz_66) rfl (l' := #[.val (.int (own_ushr p1 (16 : Int32))), .val (.int (13 : Int32))]) rfl ?_
              show Steps p.tables e below (s₁.setTop (mkF m 69 #[.val (.int (own_ushr p1 (16 : Int32))), .val (.int (13 : Int32))] [])) _
              refine XS.iloadN X0.here hx rfl (hb hby nlz_69) rfl ?_
              show Steps p.tables e below (s₁.setTop (mkF m 70 #[.val (.int (own_ushr p1 (16 : Int32))), .val (.int (13 : Int32))] [(.int (own_ushr p1 (16 : Int32)))])) _
              refine XS.iconst X0.here hx rfl (hb hby nlz_70) ?_
              show Steps p.tables e below (s₁.setTop (mkF m 71 #[.val (.int (own_ushr p1 (16 : Int32))), .val (.int (13 : Int32))] [(.int (2 : Int32)), (.int (own_ushr p1 (16 : Int32)))])) _
              refine XS.iushr X0.here hx rfl (hb hby nlz_71) rfl ?_
              show Steps p.tables e below (s₁.setTop (mkF m 72 #[.val (.int (own_ushr p1 (16 : Int32))), .val (.int (13 : Int32))] [(.int (own_ushr (own_ushr p1 (16 : Int32)) (2 : Int32)))])) _
              refine XS.istoreN X0.here hx rfl (hb hby nlz_72) rfl (l' := #[.val (.int (own_ushr (own_ushr p1 (16 : Int32)) (2 : Int32))), .val (.int (13 : Int32))]) rfl ?_
              show Steps p.tables e below (s₁.setTop (mkF m 73 #[.val (.int (own_ushr (own_ushr p1 (16 : Int32)) (2 : Int32))), .val (.int (13 : Int32))] [])) _
              refine XS.iloadN X0.here hx rfl (hb hby nlz_73) rfl ?_
              show Steps p.tables e below (s₁.setTop (mkF m 74 #[.val (.int (own_ushr (own_ushr p1 (16 : Int32)) (2 : Int32))), .val (.int (13 : Int32))] [(.int (13 : Int32))])) _
              refine XS.iloadN X0.here hx rfl (hb hby nlz_74) rfl ?_
              show Steps p.tables e below (s₁.setTop (mkF m 75 #[.val (.int (own_ushr (own_ushr p1 (16 : Int32)) (2 : Int32))), .val (.int (13 : Int32))] [(.int (own_ushr (own_ushr p1 (16 : Int32)) (2 : Int32))), (.int (13 : Int32))])) _
              refine XS.iconst X0.here hx rfl (hb hby nlz_75) ?_
              show Steps p.tables e below (s₁.setTop (mkF m 76 #[.val (.int (own_ushr (own_ushr p1 (16 : Int32)) (2 : Int32))), .val (.int (13 : Int32))] [(.int (1 : Int32)), (.int (own_ushr (own_ushr p1 (16 : Int32)) (2 : Int32))), (.int (13 : Int32))])) _
              refine XS.iushr X0.here hx rfl (hb hby nlz_76) rfl ?_
              show Steps p.tables e below (s₁.setTop (mkF m 77 #[.val (.int (own_ushr (own_ushr p1 (16 : Int32)) (2 : Int32))), .val (.int (13 : Int32))] [(.int (own_ushr (own_ushr (own_ushr p1 (16 : Int32)) (2 : Int32)) (1 : Int32))), (.int (13 : Int32))])) _
              refine XS.isub X0.here hx rfl (hb hby nlz_77) rfl ?_
              exact k)
            obtain ⟨fs, hr, hrun, hended, hW, hsame⟩ := X0.leave (v := some (.int ((13 : Int32) - (own_ushr (own_ushr (own_ushr p1 (16 : Int32)) (2 : Int32)) (1 : Int32))))) (fun h => by rw [Bd.returns] at h; cases h)
            refine ⟨_, _, go34 _ ?_, hrun, hended, _, _, rfl, ?_, ⟨_, rfl⟩, hW, hsame.mono (by decide) (by decide)⟩
            · exact retI X0 hx Bd.returns (hb hby nlz_78) hr
            · show QV (.int (own_nlz p1)) h0 n0 _ s₁.heap _
              rw [e0]
              exact ⟨congrArg some (congrArg Value.int (Eq.symm (show (own_nlz p1) = ((13 : Int32) - (own_ushr (own_ushr (own_ushr p1 (16 : Int32)) (2 : Int32)) (1 : Int32))) from by unfold own_nlz; rw [if_pos hc2, if_neg hc4, if_pos hc28, if_pos hc30, if_neg hc32]))), N0, rfl⟩
        · have go35 : ∀ t, Steps p.tables e below (s₁.setTop (mkF m 63 #[.val (.int (own_ushr (own_ushr p1 (16 : Int32)) (4 : Int32))), .val (.int (11 : Int32))] [(.int (4 : Int32)), (.int (own_ushr (own_ushr p1 (16 : Int32)) (4 : Int32)))])) t → Steps p.tables e below (s₁.setTop (entryFrame m #[(.int p1)] 2)) t := fun t k => go29 t (by
            show Steps p.tables e below (s₁.setTop (mkF m 51 #[.val (.int (own_ushr p1 (16 : Int32))), .val (.int (15 : Int32))] [(.int (16 : Int32)), (.int (own_ushr p1 (16 : Int32)))])) _
            refine XS.icmpNo X0.here hx rfl (hb hby nlz_51) rfl (flt hc30).1 ?_
            show Steps p.tables e below (s₁.setTop (mkF m 54 #[.val (.int (own_ushr p1 (16 : Int32))), .val (.int (15 : Int32))] [])) _
            refine XS.iinc X0.here hx rfl (hb hby nlz_54) rfl (l' := #[.val (.int (own_ushr p1 (16 : Int32))), .val (.int (11 : Int32))]) rfl ?_
            show Steps p.tables e below (s₁.setTop (mkF m 57 #[.val (.int (own_ushr p1 (16 : Int32))), .val (.int (11 : Int32))] [])) _
            refine XS.iloadN X0.here hx rfl (hb hby nlz_57) rfl ?_
            show Steps p.tables e below (s₁.setTop (mkF m 58 #[.val (.int (own_ushr p1 (16 : Int32))), .val (.int (11 : Int32))] [(.int (own_ushr p1 (16 : Int32)))])) _
            refine XS.iconst X0.here hx rfl (hb hby nlz_58) ?_
            show Steps p.tables e below (s₁.setTop (mkF m 59 #[.val (.int (own_ushr p1 (16 : Int32))), .val (.int (11 : Int32))] [(.int (4 : Int32)), (.int (own_ushr p1 (16 : Int32)))])) _
            refine XS.iushr X0.here hx rfl (hb hby nlz_59) rfl ?_
            show Steps p.tables e below (s₁.setTop (mkF m 60 #[.val (.int (own_ushr p1 (16 : Int32))), .val (.int (11 : Int32))] [(.int (own_ushr (own_ushr p1 (16 : Int32)) (4 : Int32)))])) _
            refine XS.istoreN X0.here hx rfl (hb hby nlz_60) rfl (l' := #[.val (.int (own_ushr (own_ushr p1 (16 : Int32)) (4 : Int32))), .val (.int (11 : Int32))]) rfl ?_
            show Steps p.tables e below (s₁.setTop (mkF m 61 #[.val (.int (own_ushr (own_ushr p1 (16 : Int32)) (4 : Int32))), .val (.int (11 : Int32))] [])) _
            refine XS.iloadN X0.here hx rfl (hb hby nlz_61) rfl ?_
            show Steps p.tables e below (s₁.setTop (mkF m 62 #[.val (.int (own_ushr (own_ushr p1 (16 : Int32)) (4 : Int32))), .val (.int (11 : Int32))] [(.int (own_ushr (own_ushr p1 (16 : Int32)) (4 : Int32)))])) _
            refine XS.iconst X0.here hx rfl (hb hby nlz_62) ?_
            exact k)
          by_cases hc36 : (own_ushr (own_ushr p1 (16 : Int32)) (4 : Int32)) < (4 : Int32)
          · have go37 : ∀ t, Steps p.tables e below (s₁.setTop (mkF m 78 #[.val (.int (own_ushr (own_ushr p1 (16 : Int32)) (4 : Int32))), .val (.int (11 : Int32))] [(.int ((11 : Int32) - (own_ushr (own_ushr (own_ushr p1 (16 : Int32)) (4 : Int32)) (1 : Int32))))])) t → Steps p.tables e below (s₁.setTop (entryFrame m #[(.int p1)] 2)) t := fun t k => go35 t (by
              show Steps p.tables e below (s₁.setTop (mkF m 63 #[.val (.int (own_ushr (own_ushr p1 (16 : Int32)) (4 : Int32))), .val (.int (11 : Int32))] [(.int (4 : Int32)), (.int (own_ushr (own_ushr p1 (16 : Int32)) (4 : Int32)))])) _
              refine XS.icmpYes X0.here hx rfl (pc0 := 63) (pc' := 73) rfl (hb hby nlz_63) rfl (tlt hc36).1 (by decide) (by decide) ?_
              show Steps p.tables e below (s₁.setTop (mkF m 73 #[.val (.int (own_ushr (own_ushr p1 (16 : Int32)) (4 : Int32))), .val (.int (11 : Int32))] [])) _
              refine XS.iloadN X0.here hx rfl (hb hby nlz_73) rfl ?_
              show Steps p.tables e below (s₁.setTop (mkF m 74 #[.val (.int (own_ushr (own_ushr p1 (16 : Int32)) (4 : Int32))), .val (.int (11 : Int32))] [(.int (11 : Int32))])) _
              refine XS.iloadN X0.here hx rfl (hb hby nlz_74) rfl ?_
              show Steps p.tables e below (s₁.setTop (mkF m 75 #[.val (.int (own_ushr (own_ushr p1 (16 : Int32)) (4 : Int32))), .val (.int (11 : Int32))] [(.int (own_ushr (own_ushr p1 (16 : Int32)) (4 : Int32))), (.int (11 : Int32))])) _
              refine XS.iconst X0.here hx rfl (hb hby nlz_75) ?_
              show Steps p.tables e below (s₁.setTop (mkF m 76 #[.val (.int (own_ushr (own_ushr p1 (16 : Int32)) (4 : Int32))), .val (.int (11 : Int32))] [(.int (1 : Int32)), (.int (own_ushr (own_ushr p1 (16 : Int32)) (4 : Int32))), (.int (11 : Int32))])) _
              refine XS.iushr X0.here hx rfl (hb hby nlz_76) rfl ?_
              show Steps p.tables e below (s₁.setTop (mkF m 77 #[.val (.int (own_ushr (own_ushr p1 (16 : Int32)) (4 : Int32))), .val (.int (11 : Int32))] [(.int (own_ushr (own_ushr (own_ushr p1 (16 : Int32)) (4 : Int32)) (1 : Int32))), (.int (11 : Int32))])) _
              refine XS.isub X0.here hx rfl (hb hby nlz_77) rfl ?_
              exact k)
            obtain ⟨fs, hr, hrun, hended, hW, hsame⟩ := X0.leave (v := some (.int ((11 : Int32) - (own_ushr (own_ushr (own_ushr p1 (16 : Int32)) (4 : Int32)) (1 : Int32))))) (fun h => by rw [Bd.returns] at h; cases h)
            refine ⟨_, _, go37 _ ?_, hrun, hended, _, _, rfl, ?_, ⟨_, rfl⟩, hW, hsame.mono (by decide) (by decide)⟩
            · exact retI X0 hx Bd.returns (hb hby nlz_78) hr
            · show QV (.int (own_nlz p1)) h0 n0 _ s₁.heap _
              rw [e0]
              exact ⟨congrArg some (congrArg Value.int (Eq.symm (show (own_nlz p1) = ((11 : Int32) - (own_ushr (own_ushr (own_ushr p1 (16 : Int32)) (4 : Int32)) (1 : Int32))) from by unfold own_nlz; rw [if_pos hc2, if_neg hc4, if_pos hc28, if_neg hc30, if_pos hc36]))), N0, rfl⟩
          · have go38 : ∀ t, Steps p.tables e below (s₁.setTop (mkF m 78 #[.val (.int (own_ushr (own_ushr (own_ushr p1 (16 : Int32)) (4 : Int32)) (2 : Int32))), .val (.int (9 : Int32))] [(.int ((9 : Int32) - (own_ushr (own_ushr (own_ushr (own_ushr p1 (16 : Int32)) (4 : Int32)) (2 : Int32)) (1 : Int32))))])) t → Steps p.tables e below (s₁.setTop (entryFrame m #[(.int p1)] 2)) t := fun t k => go35 t (by
              show Steps p.tables e below (s₁.setTop (mkF m 63 #[.val (.int (own_ushr (own_ushr p1 (16 : Int32)) (4 : Int32))), .val (.int (11 : Int32))] [(.int (4 : Int32)), (.int (own_ushr (own_ushr p1 (16 : Int32)) (4 : Int32)))])) _
              refine XS.icmpNo X0.here hx rfl (hb hby nlz_63) rfl (flt hc36).1 ?_
              show Steps p.tables e below (s₁.setTop (mkF m 66 #[.val (.int (own_ushr (own_ushr p1 (16 : Int32)) (4 : Int32))), .val (.int (11 : Int32))] [])) _
              refine XS.iinc X0.here hx rfl (hb hby nlz_66) rfl (l' := #[.val (.int (own_ushr (own_ushr p1 (16 : Int32)) (4 : Int32))), .val (.int (9 : Int32))]) rfl ?_
              show Steps p.tables e below (s₁.setTop (mkF m 69 #[.val (.int (own_ushr (own_ushr p1 (16 : Int32)) (4 : Int32))), .val (.int (9 : Int32))] [])) _
              refine XS.iloadN X0.here hx rfl (hb hby nlz_69) rfl ?_
              show Steps p.tables e below (s₁.setTop (mkF m 70 #[.val (.int (own_ushr (own_ushr p1 (16 : Int32)) (4 : Int32))), .val (.int (9 : Int32))] [(.int (own_ushr (own_ushr p1 (16 : Int32)) (4 : Int32)))])) _
              refine XS.iconst X0.here hx rfl (hb hby nlz_70) ?_
              show Steps p.tables e below (s₁.setTop (mkF m 71 #[.val (.int (own_ushr (own_ushr p1 (16 : Int32)) (4 : Int32))), .val (.int (9 : Int32))] [(.int (2 : Int32)), (.int (own_ushr (own_ushr p1 (16 : Int32)) (4 : Int32)))])) _
              refine XS.iushr X0.here hx rfl (hb hby nlz_71) rfl ?_
              show Steps p.tables e below (s₁.setTop (mkF m 72 #[.val (.int (own_ushr (own_ushr p1 (16 : Int32)) (4 : Int32))), .val (.int (9 : Int32))] [(.int (own_ushr (own_ushr (own_ushr p1 (16 : Int32)) (4 : Int32)) (2 : Int32)))])) _
              refine XS.istoreN X0.here hx rfl (hb hby nlz_72) rfl (l' := #[.val (.int (own_ushr (own_ushr (own_ushr p1 (16 : Int32)) (4 : Int32)) (2 : Int32))), .val (.int (9 : Int32))]) rfl ?_
              show Steps p.tables e below (s₁.setTop (mkF m 73 #[.val (.int (own_ushr (own_ushr (own_ushr p1 (16 : Int32)) (4 : Int32)) (2 : Int32))), .val (.int (9 : Int32))] [])) _
              refine XS.iloadN X0.here hx rfl (hb hby nlz_73) rfl ?_
              show Steps p.tables e below (s₁.setTop (mkF m 74 #[.val (.int (own_ushr (own_ushr (own_ushr p1 (16 : Int32)) (4 : Int32)) (2 : Int32))), .val (.int (9 : Int32))] [(.int (9 : Int32))])) _
              refine XS.iloadN X0.here hx rfl (hb hby nlz_74) rfl ?_
              show Steps p.tables e below (s₁.setTop (mkF m 75 #[.val (.int (own_ushr (own_ushr (own_ushr p1 (16 : Int32)) (4 : Int32)) (2 : Int32))), .val (.int (9 : Int32))] [(.int (own_ushr (own_ushr (own_ushr p1 (16 : Int32)) (4 : Int32)) (2 : Int32))), (.int (9 : Int32))])) _
              refine XS.iconst X0.here hx rfl (hb hby nlz_75) ?_
              show Steps p.tables e below (s₁.setTop (mkF m 76 #[.val (.int (own_ushr (own_ushr (own_ushr p1 (16 : Int32)) (4 : Int32)) (2 : Int32))), .val (.int (9 : Int32))] [(.int (1 : Int32)), (.int (own_ushr (own_ushr (own_ushr p1 (16 : Int32)) (4 : Int32)) (2 : Int32))), (.int (9 : Int32))])) _
              refine XS.iushr X0.here hx rfl (hb hby nlz_76) rfl ?_
              show Steps p.tables e below (s₁.setTop (mkF m 77 #[.val (.int (own_ushr (own_ushr (own_ushr p1 (16 : Int32)) (4 : Int32)) (2 : Int32))), .val (.int (9 : Int32))] [(.int (own_ushr (own_ushr (own_ushr (own_ushr p1 (16 : Int32)) (4 : Int32)) (2 : Int32)) (1 : Int32))), (.int (9 : Int32))])) _
              refine XS.isub X0.here hx rfl (hb hby nlz_77) rfl ?_
              exact k)
            obtain ⟨fs, hr, hrun, hended, hW, hsame⟩ := X0.leave (v := some (.int ((9 : Int32) - (own_ushr (own_ushr (own_ushr (own_ushr p1 (16 : Int32)) (4 : Int32)) (2 : Int32)) (1 : Int32))))) (fun h => by rw [Bd.returns] at h; cases h)
            refine ⟨_, _, go38 _ ?_, hrun, hended, _, _, rfl, ?_, ⟨_, rfl⟩, hW, hsame.mono (by decide) (by decide)⟩
            · exact retI X0 hx Bd.returns (hb hby nlz_78) hr
            · show QV (.int (own_nlz p1)) h0 n0 _ s₁.heap _
              rw [e0]
              exact ⟨congrArg some (congrArg Value.int (Eq.symm (show (own_nlz p1) = ((9 : Int32) - (own_ushr (own_ushr (own_ushr (own_ushr p1 (16 : Int32)) (4 : Int32)) (2 : Int32)) (1 : Int32))) from by unfold own_nlz; rw [if_pos hc2, if_neg hc4, if_pos hc28, if_neg hc30, if_neg hc36]))), N0, rfl⟩
      · have go39 : ∀ t, Steps p.tables e below (s₁.setTop (mkF m 51 #[.val (.int (own_ushr (own_ushr p1 (16 : Int32)) (8 : Int32))), .val (.int (7 : Int32))] [(.int (16 : Int32)), (.int (own_ushr (own_ushr p1 (16 : Int32)) (8 : Int32)))])) t → Steps p.tables e below (s₁.setTop (entryFrame m #[(.int p1)] 2)) t := fun t k => go27 t (by
          show Steps p.tables e below (s₁.setTop (mkF m 37 #[.val (.int (own_ushr p1 (16 : Int32))), .val (.int (15 : Int32))] [(.int (256 : Int32)), (.int (own_ushr p1 (16 : Int32)))])) _
          refine XS.icmpNo X0.here hx rfl (hb hby nlz_37) rfl (flt hc28).1 ?_
          show Steps p.tables e below (s₁.setTop (mkF m 40 #[.val (.int (own_ushr p1 (16 : Int32))), .val (.int (15 : Int32))] [])) _
          refine XS.iinc X0.here hx rfl (hb hby nlz_40) rfl (l' := #[.val (.int (own_ushr p1 (16 : Int32))), .val (.int (7 : Int32))]) rfl ?_
          show Steps p.tables e below (s₁.setTop (mkF m 43 #[.val (.int (own_ushr p1 (16 : Int32))), .val (.int (7 : Int32))] [])) _
          refine XS.iloadN X0.here hx rfl (hb hby nlz_43) rfl ?_
          show Steps p.tables e below (s₁.setTop (mkF m 44 #[.val (.int (own_ushr p1 (16 : Int32))), .val (.int (7 : Int32))] [(.int (own_ushr p1 (16 : Int32)))])) _
          refine XS.bipush X0.here hx rfl (hb hby nlz_44) ?_
          show Steps p.tables e below (s₁.setTop (mkF m 46 #[.val (.int (own_ushr p1 (16 : Int32))), .val (.int (7 : Int32))] [(.int (8 : Int32)), (.int (own_ushr p1 (16 : Int32)))])) _
          refine XS.iushr X0.here hx rfl (hb hby nlz_46) rfl ?_
          show Steps p.tables e below (s₁.setTop (mkF m 47 #[.val (.int (own_ushr p1 (16 : Int32))), .val (.int (7 : Int32))] [(.int (own_ushr (own_ushr p1 (16 : Int32)) (8 : Int32)))])) _
          refine XS.istoreN X0.here hx rfl (hb hby nlz_47) rfl (l' := #[.val (.int (own_ushr (own_ushr p1 (16 : Int32)) (8 : Int32))), .val (.int (7 : Int32))]) rfl ?_
          show Steps p.tables e below (s₁.setTop (mkF m 48 #[.val (.int (own_ushr (own_ushr p1 (16 : Int32)) (8 : Int32))), .val (.int (7 : Int32))] [])) _
          refine XS.iloadN X0.here hx rfl (hb hby nlz_48) rfl ?_
          show Steps p.tables e below (s₁.setTop (mkF m 49 #[.val (.int (own_ushr (own_ushr p1 (16 : Int32)) (8 : Int32))), .val (.int (7 : Int32))] [(.int (own_ushr (own_ushr p1 (16 : Int32)) (8 : Int32)))])) _
          refine XS.bipush X0.here hx rfl (hb hby nlz_49) ?_
          exact k)
        by_cases hc40 : (own_ushr (own_ushr p1 (16 : Int32)) (8 : Int32)) < (16 : Int32)
        · have go41 : ∀ t, Steps p.tables e below (s₁.setTop (mkF m 63 #[.val (.int (own_ushr (own_ushr p1 (16 : Int32)) (8 : Int32))), .val (.int (7 : Int32))] [(.int (4 : Int32)), (.int (own_ushr (own_ushr p1 (16 : Int32)) (8 : Int32)))])) t → Steps p.tables e below (s₁.setTop (entryFrame m #[(.int p1)] 2)) t := fun t k => go39 t (by
            show Steps p.tables e below (s₁.setTop (mkF m 51 #[.val (.int (own_ushr (own_ushr p1 (16 : Int32)) (8 : Int32))), .val (.int (7 : Int32))] [(.int (16 : Int32)), (.int (own_ushr (own_ushr p1 (16 : Int32)) (8 : Int32)))])) _
            refine XS.icmpYes X0.here hx rfl (pc0 := 51) (pc' := 61) rfl (hb hby nlz_51) rfl (tlt hc40).1 (by decide) (by decide) ?_
            show Steps p.tables e below (s₁.setTop (mkF m 61 #[.val (.int (own_ushr (own_ushr p1 (16 : Int32)) (8 : Int32))), .val (.int (7 : Int32))] [])) _
            refine XS.iloadN X0.here hx rfl (hb hby nlz_61) rfl ?_
            show Steps p.tables e below (s₁.setTop (mkF m 62 #[.val (.int (own_ushr (own_ushr p1 (16 : Int32)) (8 : Int32))), .val (.int (7 : Int32))] [(.int (own_ushr (own_ushr p1 (16 : Int32)) (8 : Int32)))])) _
            refine XS.iconst X0.here hx rfl (hb hby nlz_62) ?_
            exact k)
          by_cases hc42 : (own_ushr (own_ushr p1 (16 : Int32)) (8 : Int32)) < (4 : Int32)
          · have go43 : ∀ t, Steps p.tables e below (s₁.setTop (mkF m 78 #[.val (.int (own_ushr (own_ushr p1 (16 : Int32)) (8 : Int32))), .val (.int (7 : Int32))] [(.int ((7 : Int32) - (own_ushr (own_ushr (own_ushr p1 (16 : Int32)) (8 : Int32)) (1 : Int32))))])) t → Steps p.tables e below (s₁.setTop (entryFrame m #[(.int p1)] 2)) t := fun t k => go41 t (by
              show Steps p.tables e below (s₁.setTop (mkF m 63 #[.val (.int (own_ushr (own_ushr p1 (16 : Int32)) (8 : Int32))), .val (.int (7 : Int32))] [(.int (4 : Int32)), (.int (own_ushr (own_ushr p1 (16 : Int32)) (8 : Int32)))])) _
              refine XS.icmpYes X0.here hx rfl (pc0 := 63) (pc' := 73) rfl (hb hby nlz_63) rfl (tlt hc42).1 (by decide) (by decide) ?_
              show Steps p.tables e below (s₁.setTop (mkF m 73 #[.val (.int (own_ushr (own_ushr p1 (16 : Int32)) (8 : Int32))), .val (.int (7 : Int32))] [])) _
              refine XS.iloadN X0.here hx rfl (hb hby nlz_73) rfl ?_
              show Steps p.tables e below (s₁.setTop (mkF m 74 #[.val (.int (own_ushr (own_ushr p1 (16 : Int32)) (8 : Int32))), .val (.int (7 : Int32))] [(.int (7 : Int32))])) _
              refine XS.iloadN X0.here hx rfl (hb hby nlz_74) rfl ?_
              show Steps p.tables e below (s₁.setTop (mkF m 75 #[.val (.int (own_ushr (own_ushr p1 (16 : Int32)) (8 : Int32))), .val (.int (7 : Int32))] [(.int (own_ushr (own_ushr p1 (16 : Int32)) (8 : Int32))), (.int (7 : Int32))])) _
              refine XS.iconst X0.here hx rfl (hb hby nlz_75) ?_
              show Steps p.tables e below (s₁.setTop (mkF m 76 #[.val (.int (own_ushr (own_ushr p1 (16 : Int32)) (8 : Int32))), .val (.int (7 : Int32))] [(.int (1 : Int32)), (.int (own_ushr (own_ushr p1 (16 : Int32)) (8 : Int32))), (.int (7 : Int32))])) _
              refine XS.iushr X0.here hx rfl (hb hby nlz_76) rfl ?_
              show Steps p.tables e below (s₁.setTop (mkF m 77 #[.val (.int (own_ushr (own_ushr p1 (16 : Int32)) (8 : Int32))), .val (.int (7 : Int32))] [(.int (own_ushr (own_ushr (own_ushr p1 (16 : Int32)) (8 : Int32)) (1 : Int32))), (.int (7 : Int32))])) _
              refine XS.isub X0.here hx rfl (hb hby nlz_77) rfl ?_
              exact k)
            obtain ⟨fs, hr, hrun, hended, hW, hsame⟩ := X0.leave (v := some (.int ((7 : Int32) - (own_ushr (own_ushr (own_ushr p1 (16 : Int32)) (8 : Int32)) (1 : Int32))))) (fun h => by rw [Bd.returns] at h; cases h)
            refine ⟨_, _, go43 _ ?_, hrun, hended, _, _, rfl, ?_, ⟨_, rfl⟩, hW, hsame.mono (by decide) (by decide)⟩
            · exact retI X0 hx Bd.returns (hb hby nlz_78) hr
            · show QV (.int (own_nlz p1)) h0 n0 _ s₁.heap _
              rw [e0]
              exact ⟨congrArg some (congrArg Value.int (Eq.symm (show (own_nlz p1) = ((7 : Int32) - (own_ushr (own_ushr (own_ushr p1 (16 : Int32)) (8 : Int32)) (1 : Int32))) from by unfold own_nlz; rw [if_pos hc2, if_neg hc4, if_neg hc28, if_pos hc40, if_pos hc42]))), N0, rfl⟩
          · have go44 : ∀ t, Steps p.tables e below (s₁.setTop (mkF m 78 #[.val (.int (own_ushr (own_ushr (own_ushr p1 (16 : Int32)) (8 : Int32)) (2 : Int32))), .val (.int (5 : Int32))] [(.int ((5 : Int32) - (own_ushr (own_ushr (own_ushr (own_ushr p1 (16 : Int32)) (8 : Int32)) (2 : Int32)) (1 : Int32))))])) t → Steps p.tables e below (s₁.setTop (entryFrame m #[(.int p1)] 2)) t := fun t k => go41 t (by
              show Steps p.tables e below (s₁.setTop (mkF m 63 #[.val (.int (own_ushr (own_ushr p1 (16 : Int32)) (8 : Int32))), .val (.int (7 : Int32))] [(.int (4 : Int32)), (.int (own_ushr (own_ushr p1 (16 : Int32)) (8 : Int32)))])) _
              refine XS.icmpNo X0.here hx rfl (hb hby nlz_63) rfl (flt hc42).1 ?_
              show Steps p.tables e below (s₁.setTop (mkF m 66 #[.val (.int (own_ushr (own_ushr p1 (16 : Int32)) (8 : Int32))), .val (.int (7 : Int32))] [])) _
              refine XS.iinc X0.here hx rfl (hb hby nlz_66) rfl (l' := #[.val (.int (own_ushr (own_ushr p1 (16 : Int32)) (8 : Int32))), .val (.int (5 : Int32))]) rfl ?_
              show Steps p.tables e below (s₁.setTop (mkF m 69 #[.val (.int (own_ushr (own_ushr p1 (16 : Int32)) (8 : Int32))), .val (.int (5 : Int32))] [])) _
              refine XS.iloadN X0.here hx rfl (hb hby nlz_69) rfl ?_
              show Steps p.tables e below (s₁.setTop (mkF m 70 #[.val (.int (own_ushr (own_ushr p1 (16 : Int32)) (8 : Int32))), .val (.int (5 : Int32))] [(.int (own_ushr (own_ushr p1 (16 : Int32)) (8 : Int32)))])) _
              refine XS.iconst X0.here hx rfl (hb hby nlz_70) ?_
              show Steps p.tables e below (s₁.setTop (mkF m 71 #[.val (.int (own_ushr (own_ushr p1 (16 : Int32)) (8 : Int32))), .val (.int (5 : Int32))] [(.int (2 : Int32)), (.int (own_ushr (own_ushr p1 (16 : Int32)) (8 : Int32)))])) _
              refine XS.iushr X0.here hx rfl (hb hby nlz_71) rfl ?_
              show Steps p.tables e below (s₁.setTop (mkF m 72 #[.val (.int (own_ushr (own_ushr p1 (16 : Int32)) (8 : Int32))), .val (.int (5 : Int32))] [(.int (own_ushr (own_ushr (own_ushr p1 (16 : Int32)) (8 : Int32)) (2 : Int32)))])) _
              refine XS.istoreN X0.here hx rfl (hb hby nlz_72) rfl (l' := #[.val (.int (own_ushr (own_ushr (own_ushr p1 (16 : Int32)) (8 : Int32)) (2 : Int32))), .val (.int (5 : Int32))]) rfl ?_
              show Steps p.tables e below (s₁.setTop (mkF m 73 #[.val (.int (own_ushr (own_ushr (own_ushr p1 (16 : Int32)) (8 : Int32)) (2 : Int32))), .val (.int (5 : Int32))] [])) _
              refine XS.iloadN X0.here hx rfl (hb hby nlz_73) rfl ?_
              show Steps p.tables e below (s₁.setTop (mkF m 74 #[.val (.int (own_ushr (own_ushr (own_ushr p1 (16 : Int32)) (8 : Int32)) (2 : Int32))), .val (.int (5 : Int32))] [(.int (5 : Int32))])) _
              refine XS.iloadN X0.here hx rfl (hb hby nlz_74) rfl ?_
              show Steps p.tables e below (s₁.setTop (mkF m 75 #[.val (.int (own_ushr (own_ushr (own_ushr p1 (16 : Int32)) (8 : Int32)) (2 : Int32))), .val (.int (5 : Int32))] [(.int (own_ushr (own_ushr (own_ushr p1 (16 : Int32)) (8 : Int32)) (2 : Int32))), (.int (5 : Int32))])) _
              refine XS.iconst X0.here hx rfl (hb hby nlz_75) ?_
              show Steps p.tables e below (s₁.setTop (mkF m 76 #[.val (.int (own_ushr (own_ushr (own_ushr p1 (16 : Int32)) (8 : Int32)) (2 : Int32))), .val (.int (5 : Int32))] [(.int (1 : Int32)), (.int (own_ushr (own_ushr (own_ushr p1 (16 : Int32)) (8 : Int32)) (2 : Int32))), (.int (5 : Int32))])) _
              refine XS.iushr X0.here hx rfl (hb hby nlz_76) rfl ?_
              show Steps p.tables e below (s₁.setTop (mkF m 77 #[.val (.int (own_ushr (own_ushr (own_ushr p1 (16 : Int32)) (8 : Int32)) (2 : Int32))), .val (.int (5 : Int32))] [(.int (own_ushr (own_ushr (own_ushr (own_ushr p1 (16 : Int32)) (8 : Int32)) (2 : Int32)) (1 : Int32))), (.int (5 : Int32))])) _
              refine XS.isub X0.here hx rfl (hb hby nlz_77) rfl ?_
              exact k)
            obtain ⟨fs, hr, hrun, hended, hW, hsame⟩ := X0.leave (v := some (.int ((5 : Int32) - (own_ushr (own_ushr (own_ushr (own_ushr p1 (16 : Int32)) (8 : Int32)) (2 : Int32)) (1 : Int32))))) (fun h => by rw [Bd.returns] at h; cases h)
            refine ⟨_, _, go44 _ ?_, hrun, hended, _, _, rfl, ?_, ⟨_, rfl⟩, hW, hsame.mono (by decide) (by decide)⟩
            · exact retI X0 hx Bd.returns (hb hby nlz_78) hr
            · show QV (.int (own_nlz p1)) h0 n0 _ s₁.heap _
              rw [e0]
              exact ⟨congrArg some (congrArg Value.int (Eq.symm (show (own_nlz p1) = ((5 : Int32) - (own_ushr (own_ushr (own_ushr (own_ushr p1 (16 : Int32)) (8 : Int32)) (2 : Int32)) (1 : Int32))) from by unfold own_nlz; rw [if_pos hc2, if_neg hc4, if_neg hc28, if_pos hc40, if_neg hc42]))), N0, rfl⟩
        · have go45 : ∀ t, Steps p.tables e below (s₁.setTop (mkF m 63 #[.val (.int (own_ushr (own_ushr (own_ushr p1 (16 : Int32)) (8 : Int32)) (4 : Int32))), .val (.int (3 : Int32))] [(.int (4 : Int32)), (.int (own_ushr (own_ushr (own_ushr p1 (16 : Int32)) (8 : Int32)) (4 : Int32)))])) t → Steps p.tables e below (s₁.setTop (entryFrame m #[(.int p1)] 2)) t := fun t k => go39 t (by
            show Steps p.tables e below (s₁.setTop (mkF m 51 #[.val (.int (own_ushr (own_ushr p1 (16 : Int32)) (8 : Int32))), .val (.int (7 : Int32))] [(.int (16 : Int32)), (.int (own_ushr (own_ushr p1 (16 : Int32)) (8 : Int32)))])) _
            refine XS.icmpNo X0.here hx rfl (hb hby nlz_51) rfl (flt hc40).1 ?_
            show Steps p.tables e below (s₁.setTop (mkF m 54 #[.val (.int (own_ushr (own_ushr p1 (16 : Int32)) (8 : Int32))), .val (.int (7 : Int32))] [])) _
            refine XS.iinc X0.here hx rfl (hb hby nlz_54) rfl (l' := #[.val (.int (own_ushr (own_ushr p1 (16 : Int32)) (8 : Int32))), .val (.int (3 : Int32))]) rfl ?_
            show Steps p.tables e below (s₁.setTop (mkF m 57 #[.val (.int (own_ushr (own_ushr p1 (16 : Int32)) (8 : Int32))), .val (.int (3 : Int32))] [])) _
            refine XS.iloadN X0.here hx rfl (hb hby nlz_57) rfl ?_
            show Steps p.tables e below (s₁.setTop (mkF m 58 #[.val (.int (own_ushr (own_ushr p1 (16 : Int32)) (8 : Int32))), .val (.int (3 : Int32))] [(.int (own_ushr (own_ushr p1 (16 : Int32)) (8 : Int32)))])) _
            refine XS.iconst X0.here hx rfl (hb hby nlz_58) ?_
            show Steps p.tables e below (s₁.setTop (mkF m 59 #[.val (.int (own_ushr (own_ushr p1 (16 : Int32)) (8 : Int32))), .val (.int (3 : Int32))] [(.int (4 : Int32)), (.int (own_ushr (own_ushr p1 (16 : Int32)) (8 : Int32)))])) _
            refine XS.iushr X0.here hx rfl (hb hby nlz_59) rfl ?_
            show Steps p.tables e below (s₁.setTop (mkF m 60 #[.val (.int (own_ushr (own_ushr p1 (16 : Int32)) (8 : Int32))), .val (.int (3 : Int32))] [(.int (own_ushr (own_ushr (own_ushr p1 (16 : Int32)) (8 : Int32)) (4 : Int32)))])) _
            refine XS.istoreN X0.here hx rfl (hb hby nlz_60) rfl (l' := #[.val (.int (own_ushr (own_ushr (own_ushr p1 (16 : Int32)) (8 : Int32)) (4 : Int32))), .val (.int (3 : Int32))]) rfl ?_
            show Steps p.tables e below (s₁.setTop (mkF m 61 #[.val (.int (own_ushr (own_ushr (own_ushr p1 (16 : Int32)) (8 : Int32)) (4 : Int32))), .val (.int (3 : Int32))] [])) _
            refine XS.iloadN X0.here hx rfl (hb hby nlz_61) rfl ?_
            show Steps p.tables e below (s₁.setTop (mkF m 62 #[.val (.int (own_ushr (own_ushr (own_ushr p1 (16 : Int32)) (8 : Int32)) (4 : Int32))), .val (.int (3 : Int32))] [(.int (own_ushr (own_ushr (own_ushr p1 (16 : Int32)) (8 : Int32)) (4 : Int32)))])) _
            refine XS.iconst X0.here hx rfl (hb hby nlz_62) ?_
            exact k)
          by_cases hc46 : (own_ushr (own_ushr (own_ushr p1 (16 : Int32)) (8 : Int32)) (4 : Int32)) < (4 : Int32)
          · have go47 : ∀ t, Steps p.tables e below (s₁.setTop (mkF m 78 #[.val (.int (own_ushr (own_ushr (own_ushr p1 (16 : Int32)) (8 : Int32)) (4 : Int32))), .val (.int (3 : Int32))] [(.int ((3 : Int32) - (own_ushr (own_ushr (own_ushr (own_ushr p1 (16 : Int32)) (8 : Int32)) (4 : Int32)) (1 : Int32))))])) t → Steps p.tables e below (s₁.setTop (entryFrame m #[(.int p1)] 2)) t := fun t k => go45 t (by
              show Steps p.tables e below (s₁.setTop (mkF m 63 #[.val (.int (own_ushr (own_ushr (own_ushr p1 (16 : Int32)) (8 : Int32)) (4 : Int32))), .val (.int (3 : Int32))] [(.int (4 : Int32)), (.int (own_ushr (own_ushr (own_ushr p1 (16 : Int32)) (8 : Int32)) (4 : Int32)))])) _
              refine XS.icmpYes X0.here hx rfl (pc0 := 63) (pc' := 73) rfl (hb hby nlz_63) rfl (tlt hc46).1 (by decide) (by decide) ?_
              show Steps p.tables e below (s₁.setTop (mkF m 73 #[.val (.int (own_ushr (own_ushr (own_ushr p1 (16 : Int32)) (8 : Int32)) (4 : Int32))), .val (.int (3 : Int32))] [])) _
              refine XS.iloadN X0.here hx rfl (hb hby nlz_73) rfl ?_
              show Steps p.tables e below (s₁.setTop (mkF m 74 #[.val (.int (own_ushr (own_ushr (own_ushr p1 (16 : Int32)) (8 : Int32)) (4 : Int32))), .val (.int (3 : Int32))] [(.int (3 : Int32))])) _
              refine XS.iloadN X0.here hx rfl (hb hby nlz_74) rfl ?_
              show Steps p.tables e below (s₁.setTop (mkF m 75 #[.val (.int (own_ushr (own_ushr (own_ushr p1 (16 : Int32)) (8 : Int32)) (4 : Int32))), .val (.int (3 : Int32))] [(.int (own_ushr (own_ushr (own_ushr p1 (16 : Int32)) (8 : Int32)) (4 : Int32))), (.int (3 : Int32))])) _
              refine XS.iconst X0.here hx rfl (hb hby nlz_75) ?_
              show Steps p.tables e below (s₁.setTop (mkF m 76 #[.val (.int (own_ushr (own_ushr (own_ushr p1 (16 : Int32)) (8 : Int32)) (4 : Int32))), .val (.int (3 : Int32))] [(.int (1 : Int32)), (.int (own_ushr (own_ushr (own_ushr p1 (16 : Int32)) (8 : Int32)) (4 : Int32))), (.int (3 : Int32))])) _
              refine XS.iushr X0.here hx rfl (hb hby nlz_76) rfl ?_
              show Steps p.tables e below (s₁.setTop (mkF m 77 #[.val (.int (own_ushr (own_ushr (own_ushr p1 (16 : Int32)) (8 : Int32)) (4 : Int32))), .val (.int (3 : Int32))] [(.int (own_ushr (own_ushr (own_ushr (own_ushr p1 (16 : Int32)) (8 : Int32)) (4 : Int32)) (1 : Int32))), (.int (3 : Int32))])) _
              refine XS.isub X0.here hx rfl (hb hby nlz_77) rfl ?_
              exact k)
            obtain ⟨fs, hr, hrun, hended, hW, hsame⟩ := X0.leave (v := some (.int ((3 : Int32) - (own_ushr (own_ushr (own_ushr (own_ushr p1 (16 : Int32)) (8 : Int32)) (4 : Int32)) (1 : Int32))))) (fun h => by rw [Bd.returns] at h; cases h)
            refine ⟨_, _, go47 _ ?_, hrun, hended, _, _, rfl, ?_, ⟨_, rfl⟩, hW, hsame.mono (by decide) (by decide)⟩
            · exact retI X0 hx Bd.returns (hb hby nlz_78) hr
            · show QV (.int (own_nlz p1)) h0 n0 _ s₁.heap _
              rw [e0]
              exact ⟨congrArg some (congrArg Value.int (Eq.symm (show (own_nlz p1) = ((3 : Int32) - (own_ushr (own_ushr (own_ushr (own_ushr p1 (16 : Int32)) (8 : Int32)) (4 : Int32)) (1 : Int32))) from by unfold own_nlz; rw [if_pos hc2, if_neg hc4, if_neg hc28, if_neg hc40, if_pos hc46]))), N0, rfl⟩
          · have go48 : ∀ t, Steps p.tables e below (s₁.setTop (mkF m 78 #[.val (.int (own_ushr (own_ushr (own_ushr (own_ushr p1 (16 : Int32)) (8 : Int32)) (4 : Int32)) (2 : Int32))), .val (.int (1 : Int32))] [(.int ((1 : Int32) - (own_ushr (own_ushr (own_ushr (own_ushr (own_ushr p1 (16 : Int32)) (8 : Int32)) (4 : Int32)) (2 : Int32)) (1 : Int32))))])) t → Steps p.tables e below (s₁.setTop (entryFrame m #[(.int p1)] 2)) t := fun t k => go45 t (by
              show Steps p.tables e below (s₁.setTop (mkF m 63 #[.val (.int (own_ushr (own_ushr (own_ushr p1 (16 : Int32)) (8 : Int32)) (4 : Int32))), .val (.int (3 : Int32))] [(.int (4 : Int32)), (.int (own_ushr (own_ushr (own_ushr p1 (16 : Int32)) (8 : Int32)) (4 : Int32)))])) _
              refine XS.icmpNo X0.here hx rfl (hb hby nlz_63) rfl (flt hc46).1 ?_
              show Steps p.tables e below (s₁.setTop (mkF m 66 #[.val (.int (own_ushr (own_ushr (own_ushr p1 (16 : Int32)) (8 : Int32)) (4 : Int32))), .val (.int (3 : Int32))] [])) _
              refine XS.iinc X0.here hx rfl (hb hby nlz_66) rfl (l' := #[.val (.int (own_ushr (own_ushr (own_ushr p1 (16 : Int32)) (8 : Int32)) (4 : Int32))), .val (.int (1 : Int32))]) rfl ?_
              show Steps p.tables e below (s₁.setTop (mkF m 69 #[.val (.int (own_ushr (own_ushr (own_ushr p1 (16 : Int32)) (8 : Int32)) (4 : Int32))), .val (.int (1 : Int32))] [])) _
              refine XS.iloadN X0.here hx rfl (hb hby nlz_69) rfl ?_
              show Steps p.tables e below (s₁.setTop (mkF m 70 #[.val (.int (own_ushr (own_ushr (own_ushr p1 (16 : Int32)) (8 : Int32)) (4 : Int32))), .val (.int (1 : Int32))] [(.int (own_ushr (own_ushr (own_ushr p1 (16 : Int32)) (8 : Int32)) (4 : Int32)))])) _
              refine XS.iconst X0.here hx rfl (hb hby nlz_70) ?_
              show Steps p.tables e below (s₁.setTop (mkF m 71 #[.val (.int (own_ushr (own_ushr (own_ushr p1 (16 : Int32)) (8 : Int32)) (4 : Int32))), .val (.int (1 : Int32))] [(.int (2 : Int32)), (.int (own_ushr (own_ushr (own_ushr p1 (16 : Int32)) (8 : Int32)) (4 : Int32)))])) _
              refine XS.iushr X0.here hx rfl (hb hby nlz_71) rfl ?_
              show Steps p.tables e below (s₁.setTop (mkF m 72 #[.val (.int (own_ushr (own_ushr (own_ushr p1 (16 : Int32)) (8 : Int32)) (4 : Int32))), .val (.int (1 : Int32))] [(.int (own_ushr (own_ushr (own_ushr (own_ushr p1 (16 : Int32)) (8 : Int32)) (4 : Int32)) (2 : Int32)))])) _
              refine XS.istoreN X0.here hx rfl (hb hby nlz_72) rfl (l' := #[.val (.int (own_ushr (own_ushr (own_ushr (own_ushr p1 (16 : Int32)) (8 : Int32)) (4 : Int32)) (2 : Int32))), .val (.int (1 : Int32))]) rfl ?_
              show Steps p.tables e below (s₁.setTop (mkF m 73 #[.val (.int (own_ushr (own_ushr (own_ushr (own_ushr p1 (16 : Int32)) (8 : Int32)) (4 : Int32)) (2 : Int32))), .val (.int (1 : Int32))] [])) _
              refine XS.iloadN X0.here hx rfl (hb hby nlz_73) rfl ?_
              show Steps p.tables e below (s₁.setTop (mkF m 74 #[.val (.int (own_ushr (own_ushr (own_ushr (own_ushr p1 (16 : Int32)) (8 : Int32)) (4 : Int32)) (2 : Int32))), .val (.int (1 : Int32))] [(.int (1 : Int32))])) _
              refine XS.iloadN X0.here hx rfl (hb hby nlz_74) rfl ?_
              show Steps p.tables e below (s₁.setTop (mkF m 75 #[.val (.int (own_ushr (own_ushr (own_ushr (own_ushr p1 (16 : Int32)) (8 : Int32)) (4 : Int32)) (2 : Int32))), .val (.int (1 : Int32))] [(.int (own_ushr (own_ushr (own_ushr (own_ushr p1 (16 : Int32)) (8 : Int32)) (4 : Int32)) (2 : Int32))), (.int (1 : Int32))])) _
              refine XS.iconst X0.here hx rfl (hb hby nlz_75) ?_
              show Steps p.tables e below (s₁.setTop (mkF m 76 #[.val (.int (own_ushr (own_ushr (own_ushr (own_ushr p1 (16 : Int32)) (8 : Int32)) (4 : Int32)) (2 : Int32))), .val (.int (1 : Int32))] [(.int (1 : Int32)), (.int (own_ushr (own_ushr (own_ushr (own_ushr p1 (16 : Int32)) (8 : Int32)) (4 : Int32)) (2 : Int32))), (.int (1 : Int32))])) _
              refine XS.iushr X0.here hx rfl (hb hby nlz_76) rfl ?_
              show Steps p.tables e below (s₁.setTop (mkF m 77 #[.val (.int (own_ushr (own_ushr (own_ushr (own_ushr p1 (16 : Int32)) (8 : Int32)) (4 : Int32)) (2 : Int32))), .val (.int (1 : Int32))] [(.int (own_ushr (own_ushr (own_ushr (own_ushr (own_ushr p1 (16 : Int32)) (8 : Int32)) (4 : Int32)) (2 : Int32)) (1 : Int32))), (.int (1 : Int32))])) _
              refine XS.isub X0.here hx rfl (hb hby nlz_77) rfl ?_
              exact k)
            obtain ⟨fs, hr, hrun, hended, hW, hsame⟩ := X0.leave (v := some (.int ((1 : Int32) - (own_ushr (own_ushr (own_ushr (own_ushr (own_ushr p1 (16 : Int32)) (8 : Int32)) (4 : Int32)) (2 : Int32)) (1 : Int32))))) (fun h => by rw [Bd.returns] at h; cases h)
            refine ⟨_, _, go48 _ ?_, hrun, hended, _, _, rfl, ?_, ⟨_, rfl⟩, hW, hsame.mono (by decide) (by decide)⟩
            · exact retI X0 hx Bd.returns (hb hby nlz_78) hr
            · show QV (.int (own_nlz p1)) h0 n0 _ s₁.heap _
              rw [e0]
              exact ⟨congrArg some (congrArg Value.int (Eq.symm (show (own_nlz p1) = ((1 : Int32) - (own_ushr (own_ushr (own_ushr (own_ushr (own_ushr p1 (16 : Int32)) (8 : Int32)) (4 : Int32)) (2 : Int32)) (1 : Int32))) from by unfold own_nlz; rw [if_pos hc2, if_neg hc4, if_neg hc28, if_neg hc40, if_neg hc46]))), N0, rfl⟩
  · have go49 : ∀ t, Steps p.tables e below (s₁.setTop (mkF m 5 #[.val (.int p1), .unset] [(.int p1)])) t → Steps p.tables e below (s₁.setTop (entryFrame m #[(.int p1)] 2)) t := fun t k => go1 t (by
      show Steps p.tables e below (s₁.setTop (mkF m 1 #[.val (.int p1), .unset] [(.int p1)])) _
      refine XS.ifNo X0.here hx rfl (hb hby nlz_1) rfl ((if0 _ _).trans (flt hc2).2.2.1) ?_
      show Steps p.tables e below (s₁.setTop (mkF m 4 #[.val (.int p1), .unset] [])) _
      refine XS.iloadN X0.here hx rfl (hb hby nlz_4) rfl ?_
      exact k)
    by_cases hc50 : p1 = (0 : Int32)
    · have go51 : ∀ t, Steps p.tables e below (s₁.setTop (mkF m 14 #[.val (.int p1), .unset] [(.int (32 : Int32))])) t → Steps p.tables e below (s₁.setTop (entryFrame m #[(.int p1)] 2)) t := fun t k => go49 t (by
        show Steps p.tables e below (s₁.setTop (mkF m 5 #[.val (.int p1), .unset] [(.int p1)])) _
        refine XS.ifNo X0.here hx rfl (hb hby nlz_5) rfl ((if0 _ _).trans (teq hc50).2) ?_
        show Steps p.tables e below (s₁.setTop (mkF m 8 #[.val (.int p1), .unset] [])) _
        refine XS.bipush X0.here hx rfl (hb hby nlz_8) ?_
        show Steps p.tables e below (s₁.setTop (mkF m 10 #[.val (.int p1), .unset] [(.int (32 : Int32))])) _
        refine XS.goto X0.here hx rfl (pc0 := 10) (pc' := 14) rfl (hb hby nlz_10) (by decide) (by decide) ?_
        exact k)
      obtain ⟨fs, hr, hrun, hended, hW, hsame⟩ := X0.leave (v := some (.int (32 : Int32))) (fun h => by rw [Bd.returns] at h; cases h)
      refine ⟨_, _, go51 _ ?_, hrun, hended, _, _, rfl, ?_, ⟨_, rfl⟩, hW, hsame.mono (by decide) (by decide)⟩
      · exact retI X0 hx Bd.returns (hb hby nlz_14) hr
      · show QV (.int (own_nlz p1)) h0 n0 _ s₁.heap _
        rw [e0]
        exact ⟨congrArg some (congrArg Value.int (Eq.symm (show (own_nlz p1) = (32 : Int32) from by unfold own_nlz; rw [if_neg hc2, if_pos hc50]))), N0, rfl⟩
    · have go52 : ∀ t, Steps p.tables e below (s₁.setTop (mkF m 14 #[.val (.int p1), .unset] [(.int (0 : Int32))])) t → Steps p.tables e below (s₁.setTop (entryFrame m #[(.int p1)] 2)) t := fun t k => go49 t (by
        show Steps p.tables e below (s₁.setTop (mkF m 5 #[.val (.int p1), .unset] [(.int p1)])) _
        refine XS.ifYes X0.here hx rfl (pc0 := 5) (pc' := 13) rfl (hb hby nlz_5) rfl ((if0 _ _).trans (feq hc50).2) (by decide) (by decide) ?_
        show Steps p.tables e below (s₁.setTop (mkF m 13 #[.val (.int p1), .unset] [])) _
        refine XS.iconst X0.here hx rfl (hb hby nlz_13) ?_
        exact k)
      obtain ⟨fs, hr, hrun, hended, hW, hsame⟩ := X0.leave (v := some (.int (0 : Int32))) (fun h => by rw [Bd.returns] at h; cases h)
      refine ⟨_, _, go52 _ ?_, hrun, hended, _, _, rfl, ?_, ⟨_, rfl⟩, hW, hsame.mono (by decide) (by decide)⟩
      · exact retI X0 hx Bd.returns (hb hby nlz_14) hr
      · show QV (.int (own_nlz p1)) h0 n0 _ s₁.heap _
        rw [e0]
        exact ⟨congrArg some (congrArg Value.int (Eq.symm (show (own_nlz p1) = (0 : Int32) from by unfold own_nlz; rw [if_neg hc2, if_neg hc50]))), N0, rfl⟩
theorem hob_0 : decode jdk_33_method_45_code 0 = .ok (.iload_n 0, 1) := by decide +kernel
theorem hob_1 : decode jdk_33_method_45_code 1 = .ok (.ldc 127, 2) := by decide +kernel
theorem hob_3 : decode jdk_33_method_45_code 3 = .ok (.iload_n 0, 1) := by decide +kernel
theorem hob_4 : decode jdk_33_method_45_code 4 = .ok (.invokestatic 51, 3) := by decide +kernel
theorem hob_7 : decode jdk_33_method_45_code 7 = .ok (.iushr, 1) := by decide +kernel
theorem hob_8 : decode jdk_33_method_45_code 8 = .ok (.iand, 1) := by decide +kernel
theorem hob_9 : decode jdk_33_method_45_code 9 = .ok (.ireturn, 1) := by decide +kernel
theorem pn_hob : plainName "java/lang/Integer" = true := by first | (simp [plainName, overriddenIn]; done) | decide +kernel
theorem ef_hob (m : MethodId) (p1 : Int32) : entryFrame m #[(.int p1)] 1 = mkF m 0 #[.val (.int p1)] [] := by first | (simp [entryFrame, mkF, argsToLocals, Value.category]; done) | rfl
def own_hob (p1 : Int32) : Int32 := (p1 &&& (own_ushr (-2147483648 : Int32) (own_nlz p1)))
set_option maxRecDepth 65536 in
set_option maxHeartbeats 40000000 in
theorem rm_hob (l : Launch) (Z : State) (a0 : Array Value) (hw : ∀ d ∈ tables_1, d.before a0 Z = true) (ws : List Jvm.Cond) (p1 : Int32) (h0 : Heap) (n0 : Nat) (Z0 : n0 ≤ h0.size)  :
    MetFree l (⟨"java/lang/Integer", "highestOneBit", "(I)I"⟩ : MethodName) (head1 (Jvm.Cond.code (⟨"java/lang/Integer", "highestOneBit", "(I)I"⟩ : MethodName) jdk_33_method_45_code 1 (some .int) :: ws) ({ frames := 1, cells := 0, slots := 0, locals := 15 } : Room)) (fun a U => a = #[(.int p1)] ∧ Z.Warmed39 U.vm ∧ U.heap = h0) (fun _ _ _ _ _ => True) (fun _ U o U' => ∃ v L, o = .returned v ∧ QV (.int (own_hob p1)) h0 n0 v U'.heap L ∧ FrameEnd U o U' L ({ frames := 1, cells := 0, slots := 0, locals := 15 } : Room).cells ({ frames := 1, cells := 0, slots := 0, locals := 15 } : Room).slots) := by
  refine MetFree.of_bodySF (plainFor_of_name pn_hob) hisR ?_
  intro p e s m args below meth c s₁ Bd hml0 hP hK
  obtain ⟨rfl, hZ, hh⟩ := hP
  have hx := Bd.exec
  have hby := Bd.bytes
  have hml : c.maxLocals = 1 := hml0
  have hown : s.vm.findClass "java/lang/Integer" = some m.cls := findClass_of_methodNamed Bd.named
  have hnm := (name_of_methodNamed Bd.named Bd.method).1
  have X0 : Stand p l e ({ frames := 1, cells := 0, slots := 0, locals := 15 } : Room) s m #[(.int p1)] below meth c s₁ [] 0 0 := Stand.of_body Bd
  have e0 : s₁.heap = h0 := by rw [← hh, Bd.state]; rfl
  have N0 := Fr.nil n0
  have go0 : ∀ t, Steps p.tables e below (s₁.setTop (mkF m 0 #[.val (.int p1)] [])) t → Steps p.tables e below (s₁.setTop (entryFrame m #[(.int p1)] 1)) t := fun t k => castTop (ef_hob m p1) k
  have go1 : ∀ t, Steps p.tables e below (s₁.setTop (mkF m 4 #[.val (.int p1)] [(.int p1), (.int (-2147483648 : Int32)), (.int p1)])) t → Steps p.tables e below (s₁.setTop (entryFrame m #[(.int p1)] 1)) t := fun t k => go0 t (by
    show Steps p.tables e below (s₁.setTop (mkF m 0 #[.val (.int p1)] [])) _
    refine XS.iloadN X0.here hx rfl (hb hby hob_0) rfl ?_
    show Steps p.tables e below (s₁.setTop (mkF m 1 #[.val (.int p1)] [(.int p1)])) _
    refine X0.ldcI hx hown (mvT hZ (hw _ (List.mem_of_getElem? (i := 9) rfl))) rfl (hb hby hob_1) ?_
    show Steps p.tables e below (s₁.setTop (mkF m 3 #[.val (.int p1)] [(.int (-2147483648 : Int32)), (.int p1)])) _
    refine XS.iloadN X0.here hx rfl (hb hby hob_3) rfl ?_
    exact k)
  obtain ⟨_, _, ⟨T2, L2, k2, n2⟩, -, X2, ⟨Lc2, hQ2, l2, y2, z2⟩, st2⟩ := Jvm.LawKit.callS X0 hx (y := (⟨"java/lang/Integer", "numberOfLeadingZeros", "(I)I"⟩ : MethodName)) hown (mvT hZ (hw _ (List.mem_of_getElem? (i := 10) rfl))) (mvT hZ (hw _ (List.mem_of_getElem? (i := 11) rfl))) (mvT hZ (hw _ (List.mem_of_getElem? (i := 7) rfl))) (mvT hZ (hw _ (List.mem_of_getElem? (i := 12) rfl))) (by decide) (backOf (W := 2) (rm_nlz l Z a0 hw [] p1 h0 n0 Z0 ) hZ (hw _ (List.mem_of_getElem? (i := 12) rfl)) (hw _ (List.mem_of_getElem? (i := 7) rfl)) (by decide) (by decide)) (g := (mkF m 4 #[.val (.int p1)] [(.int p1), (.int (-2147483648 : Int32)), (.int p1)])) rfl (by rw [hml]; rfl) (argsL := [(.int p1)]) (rest := [(.int (-2147483648 : Int32)), (.int p1)]) (lenOf pd_0 rfl) rfl (by show 2 * 0 + _ ≤ _; exact Nat.le_of_eq rfl) (hb hby hob_4) (fun _ _ => ⟨rfl, e0, (by decide : 0 + 0 ≤ _), (by decide : 0 + 0 ≤ _)⟩)
  dsimp only [Pt.U, Pt.locs, Pt.cells, Pt.slots] at X2 l2 y2 z2 st2 hQ2
  subst l2 y2 z2
  obtain ⟨rfl, N2q, e2⟩ := hQ2
  have N2 := Fr.app N0 N2q
  have go3 : ∀ t, Steps p.tables e below (T2.setTop (mkF m 7 #[.val (.int p1)] [(.int (own_nlz p1)), (.int (-2147483648 : Int32)), (.int p1)])) t → Steps p.tables e below (s₁.setTop (entryFrame m #[(.int p1)] 1)) t := fun t k => go1 t (st2 t k)
  have go4 : ∀ t, Steps p.tables e below (T2.setTop (mkF m 9 #[.val (.int p1)] [(.int (p1 &&& (own_ushr (-2147483648 : Int32) (own_nlz p1))))])) t → Steps p.tables e below (s₁.setTop (entryFrame m #[(.int p1)] 1)) t := fun t k => go3 t (by
    show Steps p.tables e below (T2.setTop (mkF m 7 #[.val (.int p1)] [(.int (own_nlz p1)), (.int (-2147483648 : Int32)), (.int p1)])) _
    refine XS.iushr X2.here hx rfl (hb hby hob_7) rfl ?_
    show Steps p.tables e below (T2.setTop (mkF m 8 #[.val (.int p1)] [(.int (own_ushr (-2147483648 : Int32) (own_nlz p1))), (.int p1)])) _
    refine XS.iand X2.here hx rfl (hb hby hob_8) rfl ?_
    exact k)
  obtain ⟨fs, hr, hrun, hended, hW, hsame⟩ := X2.leave (v := some (.int (p1 &&& (own_ushr (-2147483648 : Int32) (own_nlz p1))))) (fun h => by rw [Bd.returns] at h; cases h)
  refine ⟨_, _, go4 _ ?_, hrun, hended, _, _, rfl, ?_, ⟨_, rfl⟩, hW, hsame.mono (by decide) (by decide)⟩
  · exact retI X2 hx Bd.returns (hb hby hob_9) hr
  · show QV (.int (own_hob p1)) h0 n0 _ T2.heap _
    rw [e2]
    exact ⟨congrArg some (congrArg Value.int (Eq.symm (show (own_hob p1) = (p1 &&& (own_ushr (-2147483648 : Int32) (own_nlz p1))) from by unfold own_hob; rfl))), N2, rfl⟩
def own_pw (t : Int32) : Int32 := (own_hob (t - (1 : Int32))) <<< ((1 : Int32) &&& 31)
def own_tq (t : Int32) : Int32 := (3 : Int32) * ((own_pw t) / (4 : Int32))
theorem tl_0 : decode prog_13_method_4_code 0 = .ok (.iload_n 0, 1) := by decide +kernel
theorem tl_1 : decode prog_13_method_4_code 1 = .ok (.iconst 1, 1) := by decide +kernel
theorem tl_2 : decode prog_13_method_4_code 2 = .ok (.if_icmp .gt 7, 3) := by decide +kernel
theorem tl_5 : decode prog_13_method_4_code 5 = .ok (.iconst 1, 1) := by decide +kernel
theorem tl_6 : decode prog_13_method_4_code 6 = .ok (.goto 11, 3) := by decide +kernel
theorem tl_9 : decode prog_13_method_4_code 9 = .ok (.iload_n 0, 1) := by decide +kernel
theorem tl_10 : decode prog_13_method_4_code 10 = .ok (.iconst 1, 1) := by decide +kernel
theorem tl_11 : decode prog_13_method_4_code 11 = .ok (.isub, 1) := by decide +kernel
theorem tl_12 : decode prog_13_method_4_code 12 = .ok (.invokestatic 68, 3) := by decide +kernel
theorem tl_15 : decode prog_13_method_4_code 15 = .ok (.iconst 1, 1) := by decide +kernel
theorem tl_16 : decode prog_13_method_4_code 16 = .ok (.ishl, 1) := by decide +kernel
theorem tl_17 : decode prog_13_method_4_code 17 = .ok (.istore_n 1, 1) := by decide +kernel
theorem tl_18 : decode prog_13_method_4_code 18 = .ok (.iconst 3, 1) := by decide +kernel
theorem tl_19 : decode prog_13_method_4_code 19 = .ok (.iload_n 1, 1) := by decide +kernel
theorem tl_20 : decode prog_13_method_4_code 20 = .ok (.iconst 4, 1) := by decide +kernel
theorem tl_21 : decode prog_13_method_4_code 21 = .ok (.idiv, 1) := by decide +kernel
theorem tl_22 : decode prog_13_method_4_code 22 = .ok (.imul, 1) := by decide +kernel
theorem tl_23 : decode prog_13_method_4_code 23 = .ok (.istore_n 2, 1) := by decide +kernel
theorem tl_24 : decode prog_13_method_4_code 24 = .ok (.iload_n 1, 1) := by decide +kernel
theorem tl_25 : decode prog_13_method_4_code 25 = .ok (.iconst 4, 1) := by decide +kernel
theorem tl_26 : decode prog_13_method_4_code 26 = .ok (.if_icmp .lt 12, 3) := by decide +kernel
theorem tl_29 : decode prog_13_method_4_code 29 = .ok (.iload_n 2, 1) := by decide +kernel
theorem tl_30 : decode prog_13_method_4_code 30 = .ok (.iload_n 0, 1) := by decide +kernel
theorem tl_31 : decode prog_13_method_4_code 31 = .ok (.if_icmp .lt 7, 3) := by decide +kernel
theorem tl_34 : decode prog_13_method_4_code 34 = .ok (.iload_n 2, 1) := by decide +kernel
theorem tl_35 : decode prog_13_method_4_code 35 = .ok (.goto 4, 3) := by decide +kernel
theorem tl_38 : decode prog_13_method_4_code 38 = .ok (.iload_n 1, 1) := by decide +kernel
theorem tl_39 : decode prog_13_method_4_code 39 = .ok (.ireturn, 1) := by decide +kernel
theorem pn_tl : plainName "com/example/radicand/radicand/integer/internal/Convolution" = true := by first | (simp [plainName, overriddenIn]; done) | decide +kernel
theorem ef_tl (m : MethodId) (p1 : Int32) : entryFrame m #[(.int p1)] 3 = mkF m 0 #[.val (.int p1), .unset, .unset] [] := by first | (simp [entryFrame, mkF, argsToLocals, Value.category]; done) | rfl
def own_tl (p1 : Int32) : Int32 := if (1 : Int32) < p1 then (if (own_pw p1) < (4 : Int32) then (own_pw p1) else (if (own_tq p1) < p1 then (own_pw p1) else (own_tq p1))) else (1 : Int32)
set_option maxRecDepth 65536 in
set_option maxHeartbeats 40000000 in
theorem rm_tl (l : Launch) (Z : State) (a0 : Array Value) (hw : ∀ d ∈ tables_1, d.before a0 Z = true) (ws : List Jvm.Cond) (p1 : Int32) (h0 : Heap) (n0 : Nat) (Z0 : n0 ≤ h0.size)  :
    MetFree l (⟨"com/example/radicand/radicand/integer/internal/Convolution", "transformLength", "(I)I"⟩ : MethodName) (head1 (Jvm.Cond.code (⟨"com/example/radicand/radicand/integer/internal/Convolution", "transformLength", "(I)I"⟩ : MethodName) prog_13_method_4_code 3 (some .int) :: ws) ({ frames := 2, cells := 0, slots := 0, locals := 27 } : Room)) (fun a U => a = #[(.int p1)] ∧ Z.Warmed39 U.vm ∧ U.heap = h0) (fun _ _ _ _ _ => True) (fun _ U o U' => ∃ v L, o = .returned v ∧ QV (.int (own_tl p1)) h0 n0 v U'.heap L ∧ FrameEnd U o U' L ({ frames := 2, cells := 0, slots := 0, locals := 27 } : Room).cells ({ frames := 2, cells := 0, slots := 0, locals := 27 } : Room).slots) := by
  refine MetFree.of_bodySF (plainFor_of_name pn_tl) hisR ?_
  intro p e s m args below meth c s₁ Bd hml0 hP hK
  obtain ⟨rfl, hZ, hh⟩ := hP
  have hx := Bd.exec
  have hby := Bd.bytes
  have hml : c.maxLocals = 3 := hml0
  have hown : s.vm.findClass "com/example/radicand/radicand/integer/internal/Convolution" = some m.cls := findClass_of_methodNamed Bd.named
  have hnm := (name_of_methodNamed Bd.named Bd.method).1
  have X0 : Stand p l e ({ frames := 2, cells := 0, slots := 0, locals := 27 } : Room) s m #[(.int p1)] below meth c s₁ [] 0 0 := Stand.of_body Bd
  have e0 : s₁.heap = h0 := by rw [← hh, Bd.state]; rfl
  have N0 := Fr.nil n0
  have go0 : ∀ t, Steps p.tables e below (s₁.setTop (mkF m 0 #[.val (.int p1), .unset, .unset] [])) t → Steps p.tables e below (s₁.setTop (entryFrame m #[(.int p1)] 3)) t := fun t k => castTop (ef_tl m p1) k
  have go1 : ∀ t, Steps p.tables e below (s₁.setTop (mkF m 2 #[.val (.int p1), .unset, .unset] [(.int (1 : Int32)), (.int p1)])) t → Steps p.tables e below (s₁.setTop (entryFrame m #[(.int p1)] 3)) t := fun t k => go0 t (by
    show Steps p.tables e below (s₁.setTop (mkF m 0 #[.val (.int p1), .unset, .unset] [])) _
    refine XS.iloadN X0.here hx rfl (hb hby tl_0) rfl ?_
    show Steps p.tables e below (s₁.setTop (mkF m 1 #[.val (.int p1), .unset, .unset] [(.int p1)])) _
    refine XS.iconst X0.here hx rfl (hb hby tl_1) ?_
    exact k)
  by_cases hc2 : (1 : Int32) < p1
  · have go3 : ∀ t, Steps p.tables e below (s₁.setTop (mkF m 12 #[.val (.int p1), .unset, .unset] [(.int (p1 - (1 : Int32)))])) t → Steps p.tables e below (s₁.setTop (entryFrame m #[(.int p1)] 3)) t := fun t k => go1 t (by
      show Steps p.tables e below (s₁.setTop (mkF m 2 #[.val (.int p1), .unset, .unset] [(.int (1 : Int32)), (.int p1)])) _
      refine XS.icmpYes X0.here hx rfl (pc0 := 2) (pc' := 9) rfl (hb hby tl_2) rfl (tlt hc2).2.2.1 (by decide) (by decide) ?_
      show Steps p.tables e below (s₁.setTop (mkF m 9 #[.val (.int p1), .unset, .unset] [])) _
      refine XS.iloadN X0.here hx rfl (hb hby tl_9) rfl ?_
      show Steps p.tables e below (s₁.setTop (mkF m 10 #[.val (.int p1), .unset, .unset] [(.int p1)])) _
      refine XS.iconst X0.here hx rfl (hb hby tl_10) ?_
      show Steps p.tables e below (s₁.setTop (mkF m 11 #[.val (.int p1), .unset, .unset] [(.int (1 : Int32)), (.int p1)])) _
      refine XS.isub X0.here hx rfl (hb hby tl_11) rfl ?_
      exact k)
    obtain ⟨_, _, ⟨T4, L4, k4, n4⟩, -, X4, ⟨Lc4, hQ4, l4, y4, z4⟩, st4⟩ := Jvm.LawKit.callS X0 hx (y := (⟨"java/lang/Integer", "highestOneBit", "(I)I"⟩ : MethodName)) hown (mvT hZ (hw _ (List.mem_of_getElem? (i := 5) rfl))) (mvT hZ (hw _ (List.mem_of_getElem? (i := 6) rfl))) (mvT hZ (hw _ (List.mem_of_getElem? (i := 7) rfl))) (mvT hZ (hw _ (List.mem_of_getElem? (i := 8) rfl))) (by decide) (backOf (W := 0) (rm_hob l Z a0 hw [] (p1 - (1 : Int32)) h0 n0 Z0 ) hZ (hw _ (List.mem_of_getElem? (i := 8) rfl)) (hw _ (List.mem_of_getElem? (i := 7) rfl)) (by decide) (by decide)) (g := (mkF m 12 #[.val (.int p1), .unset, .unset] [(.int (p1 - (1 : Int32)))])) rfl (by rw [hml]; rfl) (argsL := [(.int (p1 - (1 : Int32)))]) (rest := []) (lenOf pd_0 rfl) rfl (by show 2 * 0 + _ ≤ _; exact Nat.le_of_eq rfl) (hb hby tl_12) (fun _ _ => ⟨rfl, e0, (by decide : 0 + 0 ≤ _), (by decide : 0 + 0 ≤ _)⟩)
    dsimp only [Pt.U, Pt.locs, Pt.cells, Pt.slots] at X4 l4 y4 z4 st4 hQ4
    subst l4 y4 z4
    obtain ⟨rfl, N4q, e4⟩ := hQ4
    have N4 := Fr.app N0 N4q
    have go5 : ∀ t, Steps p.tables e below (T4.setTop (mkF m 15 #[.val (.int p1), .unset, .unset] [(.int (own_hob (p1 - (1 : Int32))))])) t → Steps p.tables e below (s₁.setTop (entryFrame m #[(.int p1)] 3)) t := fun t k => go3 t (st4 t k)
    have go6 : ∀ t, Steps p.tables e below (T4.setTop (mkF m 26 #[.val (.int p1), .val (.int (own_pw p1)), .val (.int (own_tq p1))] [(.int (4 : Int32)), (.int (own_pw p1))])) t → Steps p.tables e below (s₁.setTop (entryFrame m #[(.int p1)] 3)) t := fun t k => go5 t (by
      show Steps p.tables e below (T4.setTop (mkF m 15 #[.val (.int p1), .unset, .unset] [(.int (own_hob (p1 - (1 : Int32))))])) _
      refine XS.iconst X4.here hx rfl (hb hby tl_15) ?_
      show Steps p.tables e below (T4.setTop (mkF m 16 #[.val (.int p1), .unset, .unset] [(.int (1 : Int32)), (.int (own_hob (p1 - (1 : Int32))))])) _
      refine XS.ishl X4.here hx rfl (hb hby tl_16) rfl ?_
      show Steps p.tables e below (T4.setTop (mkF m 17 #[.val (.int p1), .unset, .unset] [(.int (own_pw p1))])) _
      refine XS.istoreN X4.here hx rfl (hb hby tl_17) rfl (l' := #[.val (.int p1), .val (.int (own_pw p1)), .unset]) rfl ?_
      show Steps p.tables e below (T4.setTop (mkF m 18 #[.val (.int p1), .val (.int (own_pw p1)), .unset] [])) _
      refine XS.iconst X4.here hx rfl (hb hby tl_18) ?_
      show Steps p.tables e below (T4.setTop (mkF m 19 #[.val (.int p1), .val (.int (own_pw p1)), .unset] [(.int (3 : Int32))])) _
      refine XS.iloadN X4.here hx rfl (hb hby tl_19) rfl ?_
      show Steps p.tables e below (T4.setTop (mkF m 20 #[.val (.int p1), .val (.int (own_pw p1)), .unset] [(.int (own_pw p1)), (.int (3 : Int32))])) _
      refine XS.iconst X4.here hx rfl (hb hby tl_20) ?_
      show Steps p.tables e below (T4.setTop (mkF m 21 #[.val (.int p1), .val (.int (own_pw p1)), .unset] [(.int (4 : Int32)), (.int (own_pw p1)), (.int (3 : Int32))])) _
      refine XS.idiv X4.here hx rfl (hb hby tl_21) rfl (by decide) ?_
      show Steps p.tables e below (T4.setTop (mkF m 22 #[.val (.int p1), .val (.int (own_pw p1)), .unset] [(.int ((own_pw p1) / (4 : Int32))), (.int (3 : Int32))])) _
      refine XS.imul X4.here hx rfl (hb hby tl_22) rfl ?_
      show Steps p.tables e below (T4.setTop (mkF m 23 #[.val (.int p1), .val (.int (own_pw p1)), .unset] [(.int (own_tq p1))])) _
      refine XS.istoreN X4.here hx rfl (hb hby tl_23) rfl (l' := #[.val (.int p1), .val (.int (own_pw p1)), .val (.int (own_tq p1))]) rfl ?_
      show Steps p.tables e below (T4.setTop (mkF m 24 #[.val (.int p1), .val (.int (own_pw p1)), .val (.int (own_tq p1))] [])) _
      refine XS.iloadN X4.here hx rfl (hb hby tl_24) rfl ?_
      show Steps p.tables e below (T4.setTop (mkF m 25 #[.val (.int p1), .val (.int (own_pw p1)), .val (.int (own_tq p1))] [(.int (own_pw p1))])) _
      refine XS.iconst X4.here hx rfl (hb hby tl_25) ?_
      exact k)
    by_cases hc7 : (own_pw p1) < (4 : Int32)
    · have go8 : ∀ t, Steps p.tables e below (T4.setTop (mkF m 39 #[.val (.int p1), .val (.int (own_pw p1)), .val (.int (own_tq p1))] [(.int (own_pw p1))])) t → Steps p.tables e below (s₁.setTop (entryFrame m #[(.int p1)] 3)) t := fun t k => go6 t (by
        show Steps p.tables e below (T4.setTop (mkF m 26 #[.val (.int p1), .val (.int (own_pw p1)), .val (.int (own_tq p1))] [(.int (4 : Int32)), (.int (own_pw p1))])) _
        refine XS.icmpYes X4.here hx rfl (pc0 := 26) (pc' := 38) rfl (hb hby tl_26) rfl (tlt hc7).1 (by decide) (by decide) ?_
        show Steps p.tables e below (T4.setTop (mkF m 38 #[.val (.int p1), .val (.int (own_pw p1)), .val (.int (own_tq p1))] [])) _
        refine XS.iloadN X4.here hx rfl (hb hby tl_38) rfl ?_
        exact k)
      obtain ⟨fs, hr, hrun, hended, hW, hsame⟩ := X4.leave (v := some (.int (own_pw p1))) (fun h => by rw [Bd.returns] at h; cases h)
      refine ⟨_, _, go8 _ ?_, hrun, hended, _, _, rfl, ?_, ⟨_, rfl⟩, hW, hsame.mono (by decide) (by decide)⟩
      · exact retI X4 hx Bd.returns (hb hby tl_39) hr
      · show QV (.int (own_tl p1)) h0 n0 _ T4.heap _
        rw [e4]
        exact ⟨congrArg some (congrArg Value.int (Eq.symm (show (own_tl p1) = (own_pw p1) from by unfold own_tl; rw [if_pos hc2, if_pos hc7]))), N4, rfl⟩
    · have go9 : ∀ t, Steps p.tables e below (T4.setTop (mkF m 31 #[.val (.int p1), .val (.int (own_pw p1)), .val (.int (own_tq p1))] [(.int p1), (.int (own_tq p1))])) t → Steps p.tables e below (s₁.setTop (entryFrame m #[(.int p1)] 3)) t := fun t k => go6 t (by
        show Steps p.tables e below (T4.setTop (mkF m 26 #[.val (.int p1), .val (.int (own_pw p1)), .val (.int (own_tq p1))] [(.int (4 : Int32)), (.int (own_pw p1))])) _
        refine XS.icmpNo X4.here hx rfl (hb hby tl_26) rfl (flt hc7).1 ?_
        show Steps p.tables e below (T4.setTop (mkF m 29 #[.val (.int p1), .val (.int (own_pw p1)), .val (.int (own_tq p1))] [])) _
        refine XS.iloadN X4.here hx rfl (hb hby tl_29) rfl ?_
        show Steps p.tables e below (T4.setTop (mkF m 30 #[.val (.int p1), .val (.int (own_pw p1)), .val (.int (own_tq p1))] [(.int (own_tq p1))])) _
        refine XS.iloadN X4.here hx rfl (hb hby tl_30) rfl ?_
        exact k)
      by_cases hc10 : (own_tq p1) < p1
      · have go11 : ∀ t, Steps p.tables e below (T4.setTop (mkF m 39 #[.val (.int p1), .val (.int (own_pw p1)), .val (.int (own_tq p1))] [(.int (own_pw p1))])) t → Steps p.tables e below (s₁.setTop (entryFrame m #[(.int p1)] 3)) t := fun t k => go9 t (by
          show Steps p.tables e below (T4.setTop (mkF m 31 #[.val (.int p1), .val (.int (own_pw p1)), .val (.int (own_tq p1))] [(.int p1), (.int (own_tq p1))])) _
          refine XS.icmpYes X4.here hx rfl (pc0 := 31) (pc' := 38) rfl (hb hby tl_31) rfl (tlt hc10).1 (by decide) (by decide) ?_
          show Steps p.tables e below (T4.setTop (mkF m 38 #[.val (.int p1), .val (.int (own_pw p1)), .val (.int (own_tq p1))] [])) _
          refine XS.iloadN X4.here hx rfl (hb hby tl_38) rfl ?_
          exact k)
        obtain ⟨fs, hr, hrun, hended, hW, hsame⟩ := X4.leave (v := some (.int (own_pw p1))) (fun h => by rw [Bd.returns] at h; cases h)
        refine ⟨_, _, go11 _ ?_, hrun, hended, _, _, rfl, ?_, ⟨_, rfl⟩, hW, hsame.mono (by decide) (by decide)⟩
        · exact retI X4 hx Bd.returns (hb hby tl_39) hr
        · show QV (.int (own_tl p1)) h0 n0 _ T4.heap _
          rw [e4]
          exact ⟨congrArg some (congrArg Value.int (Eq.symm (show (own_tl p1) = (own_pw p1) from by unfold own_tl; rw [if_pos hc2, if_neg hc7, if_pos hc10]))), N4, rfl⟩
      · have go12 : ∀ t, Steps p.tables e below (T4.setTop (mkF m 39 #[.val (.int p1), .val (.int (own_pw p1)), .val (.int (own_tq p1))] [(.int (own_tq p1))])) t → Steps p.tables e below (s₁.setTop (entryFrame m #[(.int p1)] 3)) t := fun t k => go9 t (by
          show Steps p.tables e below (T4.setTop (mkF m 31 #[.val (.int p1), .val (.int (own_pw p1)), .val (.int (own_tq p1))] [(.int p1), (.int (own_tq p1))])) _
          refine XS.icmpNo X4.here hx rfl (hb hby tl_31) rfl (flt hc10).1 ?_
          show Steps p.tables e below (T4.setTop (mkF m 34 #[.val (.int p1), .val (.int (own_pw p1)), .val (.int (own_tq p1))] [])) _
          refine XS.iloadN X4.here hx rfl (hb hby tl_34) rfl ?_
          show Steps p.tables e below (T4.setTop (mkF m 35 #[.val (.int p1), .val (.int (own_pw p1)), .val (.int (own_tq p1))] [(.int (own_tq p1))])) _
          refine XS.goto X4.here hx rfl (pc0 := 35) (pc' := 39) rfl (hb hby tl_35) (by decide) (by decide) ?_
          exact k)
        obtain ⟨fs, hr, hrun, hended, hW, hsame⟩ := X4.leave (v := some (.int (own_tq p1))) (fun h => by rw [Bd.returns] at h; cases h)
        refine ⟨_, _, go12 _ ?_, hrun, hended, _, _, rfl, ?_, ⟨_, rfl⟩, hW, hsame.mono (by decide) (by decide)⟩
        · exact retI X4 hx Bd.returns (hb hby tl_39) hr
        · show QV (.int (own_tl p1)) h0 n0 _ T4.heap _
          rw [e4]
          exact ⟨congrArg some (congrArg Value.int (Eq.symm (show (own_tl p1) = (own_tq p1) from by unfold own_tl; rw [if_pos hc2, if_neg hc7, if_neg hc10]))), N4, rfl⟩
  · have go13 : ∀ t, Steps p.tables e below (s₁.setTop (mkF m 39 #[.val (.int p1), .val (.int (1 : Int32)), .val (.int ((3 : Int32) * ((1 : Int32) / (4 : Int32))))] [(.int (1 : Int32))])) t → Steps p.tables e below (s₁.setTop (entryFrame m #[(.int p1)] 3)) t := fun t k => go1 t (by
      show Steps p.tables e below (s₁.setTop (mkF m 2 #[.val (.int p1), .unset, .unset] [(.int (1 : Int32)), (.int p1)])) _
      refine XS.icmpNo X0.here hx rfl (hb hby tl_2) rfl (flt hc2).2.2.1 ?_
      show Steps p.tables e below (s₁.setTop (mkF m 5 #[.val (.int p1), .unset, .unset] [])) _
      refine XS.iconst X0.here hx rfl (hb hby tl_5) ?_
      show Steps p.tables e below (s₁.setTop (mkF m 6 #[.val (.int p1), .unset, .unset] [(.int (1 : Int32))])) _
      refine XS.goto X0.here hx rfl (pc0 := 6) (pc' := 17) rfl (hb hby tl_6) (by decide) (by decide) ?_
      show Steps p.tables e below (s₁.setTop (mkF m 17 #[.val (.int p1), .unset, .unset] [(.int (1 : Int32))])) _
      refine XS.istoreN X0.here hx rfl (hb hby tl_17) rfl (l' := #[.val (.int p1), .val (.int (1 : Int32)), .unset]) rfl ?_
      show Steps p.tables e below (s₁.setTop (mkF m 18 #[.val (.int p1), .val (.int (1 : Int32)), .unset] [])) _
      refine XS.iconst X0.here hx rfl (hb hby tl_18) ?_
      show Steps p.tables e below (s₁.setTop (mkF m 19 #[.val (.int p1), .val (.int (1 : Int32)), .unset] [(.int (3 : Int32))])) _
      refine XS.iloadN X0.here hx rfl (hb hby tl_19) rfl ?_
      show Steps p.tables e below (s₁.setTop (mkF m 20 #[.val (.int p1), .val (.int (1 : Int32)), .unset] [(.int (1 : Int32)), (.int (3 : Int32))])) _
      refine XS.iconst X0.here hx rfl (hb hby tl_20) ?_
      show Steps p.tables e below (s₁.setTop (mkF m 21 #[.val (.int p1), .val (.int (1 : Int32)), .unset] [(.int (4 : Int32)), (.int (1 : Int32)), (.int (3 : Int32))])) _
      refine XS.idiv X0.here hx rfl (hb hby tl_21) rfl (by decide) ?_
      show Steps p.tables e below (s₁.setTop (mkF m 22 #[.val (.int p1), .val (.int (1 : Int32)), .unset] [(.int ((1 : Int32) / (4 : Int32))), (.int (3 : Int32))])) _
      refine XS.imul X0.here hx rfl (hb hby tl_22) rfl ?_
      show Steps p.tables e below (s₁.setTop (mkF m 23 #[.val (.int p1), .val (.int (1 : Int32)), .unset] [(.int ((3 : Int32) * ((1 : Int32) / (4 : Int32))))])) _
      refine XS.istoreN X0.here hx rfl (hb hby tl_23) rfl (l' := #[.val (.int p1), .val (.int (1 : Int32)), .val (.int ((3 : Int32) * ((1 : Int32) / (4 : Int32))))]) rfl ?_
      show Steps p.tables e below (s₁.setTop (mkF m 24 #[.val (.int p1), .val (.int (1 : Int32)), .val (.int ((3 : Int32) * ((1 : Int32) / (4 : Int32))))] [])) _
      refine XS.iloadN X0.here hx rfl (hb hby tl_24) rfl ?_
      show Steps p.tables e below (s₁.setTop (mkF m 25 #[.val (.int p1), .val (.int (1 : Int32)), .val (.int ((3 : Int32) * ((1 : Int32) / (4 : Int32))))] [(.int (1 : Int32))])) _
      refine XS.iconst X0.here hx rfl (hb hby tl_25) ?_
      show Steps p.tables e below (s₁.setTop (mkF m 26 #[.val (.int p1), .val (.int (1 : Int32)), .val (.int ((3 : Int32) * ((1 : Int32) / (4 : Int32))))] [(.int (4 : Int32)), (.int (1 : Int32))])) _
      refine XS.icmpYes X0.here hx rfl (pc0 := 26) (pc' := 38) rfl (hb hby tl_26) rfl (tlt (by decide : (1 : Int32) < (4 : Int32))).1 (by decide) (by decide) ?_
      show Steps p.tables e below (s₁.setTop (mkF m 38 #[.val (.int p1), .val (.int (1 : Int32)), .val (.int ((3 : Int32) * ((1 : Int32) / (4 : Int32))))] [])) _
      refine XS.iloadN X0.here hx rfl (hb hby tl_38) rfl ?_
      exact k)
    obtain ⟨fs, hr, hrun, hended, hW, hsame⟩ := X0.leave (v := some (.int (1 : Int32))) (fun h => by rw [Bd.returns] at h; cases h)
    refine ⟨_, _, go13 _ ?_, hrun, hended, _, _, rfl, ?_, ⟨_, rfl⟩, hW, hsame.mono (by decide) (by decide)⟩
    · exact retI X0 hx Bd.returns (hb hby tl_39) hr
    · show QV (.int (own_tl p1)) h0 n0 _ s₁.heap _
      rw [e0]
      exact ⟨congrArg some (congrArg Value.int (Eq.symm (show (own_tl p1) = (1 : Int32) from by unfold own_tl; rw [if_neg hc2]))), N0, rfl⟩
def own_tail (t1 n1 : Int32) : Int32 := if (0 : Int32) < n1 then (if (n1 &&& (n1 - (1 : Int32))) = (0 : Int32) then (if (n1 % (3 : Int32)) = (0 : Int32) then (if ((n1 / (3 : Int32)) &&& ((n1 / (3 : Int32)) - (1 : Int32))) = (0 : Int32) then (if n1 < (4 : Int32) then (if n1 < t1 then (0 : Int32) else (if (n1 / (2 : Int32)) < t1 then (1 : Int32) else (0 : Int32))) else (if n1 < t1 then (0 : Int32) else (if ((3 : Int32) * (n1 / (4 : Int32))) < t1 then (1 : Int32) else (0 : Int32)))) else (if n1 < (4 : Int32) then (if n1 < t1 then (0 : Int32) else (if (n1 / (2 : Int32)) < t1 then (1 : Int32) else (0 : Int32))) else (if n1 < t1 then (0 : Int32) else (if ((3 : Int32) * (n1 / (4 : Int32))) < t1 then (1 : Int32) else (0 : Int32))))) else (if n1 < (4 : Int32) then (if n1 < t1 then (0 : Int32) else (if (n1 / (2 : Int32)) < t1 then (1 : Int32) else (0 : Int32))) else (if n1 < t1 then (0 : Int32) else (if ((3 : Int32) * (n1 / (4 : Int32))) < t1 then (1 : Int32) else (0 : Int32))))) else (if (n1 % (3 : Int32)) = (0 : Int32) then (if ((n1 / (3 : Int32)) &&& ((n1 / (3 : Int32)) - (1 : Int32))) = (0 : Int32) then (if n1 < t1 then (0 : Int32) else (if ((2 : Int32) * (n1 / (3 : Int32))) < t1 then (1 : Int32) else (0 : Int32))) else (0 : Int32)) else (0 : Int32))) else (0 : Int32)
theorem own_lt_of {a b : Int32} (h : a.toInt < b.toInt) : a < b := Int32.lt_iff_toInt_lt.mpr h
theorem own_nlt_of {a b : Int32} (h : ¬ a.toInt < b.toInt) : ¬ a < b := fun q => h (Int32.lt_iff_toInt_lt.mp q)
theorem own_us (x q : Int32) (k : Nat) (hk : q.toBitVec.toNat % 32 = k) (h0 : 0 < k) : (own_ushr x q).toInt = (x.toInt % 4294967296) / (2 ^ k : Nat) := c_iushr x q k hk h0
theorem own_nat (v : Int32) (h : 0 ≤ v.toInt) : v.toInt = (v.toBitVec.toNat : Int) := by
  have e : v.toInt = if 2 * v.toBitVec.toNat < 2 ^ 32 then (v.toBitVec.toNat : Int) else (v.toBitVec.toNat : Int) - ((2 ^ 32 : Nat) : Int) := BitVec.toInt_eq_toNat_cond v.toBitVec
  have := v.toBitVec.isLt
  by_cases q : 2 * v.toBitVec.toNat < 2 ^ 32
  · rw [if_pos q] at e; exact e
  · rw [if_neg q] at e; omega
theorem own_bit (v P : Int32) (k : Nat) (h1 : ((2 ^ k : Nat) : Int) ≤ v.toInt) (h2 : v.toInt < ((2 ^ (k + 1) : Nat) : Int)) (hP : P.toBitVec.toNat = 2 ^ k) : v &&& P = P := by
  have hv := own_nat v (Int.le_trans (Int.natCast_nonneg _) h1)
  rw [hv] at h1 h2
  have g1 : 2 ^ k ≤ v.toBitVec.toNat := Int.ofNat_le.mp h1
  have g2 : v.toBitVec.toNat < 2 ^ (k + 1) := Int.ofNat_lt.mp h2
  apply Int32.toBitVec_inj.mp
  apply BitVec.eq_of_toNat_eq
  rw [Int32.toBitVec_and, BitVec.toNat_and, hP]
  have e : v.toBitVec.toNat / 2 ^ k = 1 := by
    refine Nat.div_eq_of_lt_le (by omega) ?_
    rw [Nat.pow_succ] at g2
    omega
  apply Nat.eq_of_testBit_eq
  intro i
  rw [Nat.testBit_and, Nat.testBit_two_pow]
  by_cases q : k = i
  · subst q
    rw [Nat.testBit_eq_decide_div_mod_eq, e]
    simp
  · simp [q]
theorem own_nlz_0 (p1 : Int32) (h1 : 1 ≤ p1.toInt) (h2 : p1.toInt < 2) : own_nlz p1 = (31 : Int32) := by
  have s9 := own_us p1 (1 : Int32) 1 (by decide) (by decide)
  have e9 : (own_ushr p1 (1 : Int32)) = (0 : Int32) := Int32.toInt_inj.mp (by rw [s9]; simp only [Int32.reduceToInt]; omega)
  have c0 : ((0 : Int32) < p1) := own_lt_of (by simp only [Int32.reduceToInt]; omega)
  have c1 : (p1 < (65536 : Int32)) := own_lt_of (by simp only [Int32.reduceToInt]; omega)
  have c2 : (p1 < (256 : Int32)) := own_lt_of (by simp only [Int32.reduceToInt]; omega)
  have c3 : (p1 < (16 : Int32)) := own_lt_of (by simp only [Int32.reduceToInt]; omega)
  have c4 : (p1 < (4 : Int32)) := own_lt_of (by simp only [Int32.reduceToInt]; omega)
  unfold own_nlz
  rw [if_pos c0, if_pos c1, if_pos c2, if_pos c3, if_pos c4, e9]
  decide
theorem own_hob_0 (v : Int32) (h1 : 1 ≤ v.toInt) (h2 : v.toInt < 2) : own_hob v = (1 : Int32) := by
  unfold own_hob
  rw [own_nlz_0 v h1 h2, show own_ushr (-2147483648 : Int32) (31 : Int32) = (1 : Int32) from by decide]
  exact own_bit v _ 0 (by show ((1 : Nat) : Int) ≤ _; omega) (by show _ < ((2 : Nat) : Int); omega) (by decide)
theorem own_pw_0 (t : Int32) (h1 : 2 ≤ t.toInt) (h2 : t.toInt ≤ 2) : own_pw t = (2 : Int32) := by
  have s := c_isub t (1 : Int32)
  have b := Int32.le_toInt (t - (1 : Int32))
  have b' := Int32.toInt_lt (t - (1 : Int32))
  simp only [Int32.reduceToInt] at s
  unfold own_pw
  rw [own_hob_0 (t - (1 : Int32)) (by omega) (by omega)]
  decide
theorem own_tail_0 (t1 : Int32) (h1 : 2 ≤ t1.toInt) (h2 : t1.toInt ≤ 2) : own_tail t1 (2 : Int32) = (1 : Int32) := by
  have c0 : ((0 : Int32) < (2 : Int32)) := by decide
  have c1 : (((2 : Int32) &&& ((2 : Int32) - (1 : Int32))) = (0 : Int32)) := by decide
  have c2 : ¬ (((2 : Int32) % (3 : Int32)) = (0 : Int32)) := by decide
  have c3 : ((2 : Int32) < (4 : Int32)) := by decide
  have c4 : ¬ ((2 : Int32) < t1) := own_nlt_of (by simp only [Int32.reduceToInt, Int32.reduceDiv, Int32.reduceMul]; omega)
  have c5 : (((2 : Int32) / (2 : Int32)) < t1) := own_lt_of (by simp only [Int32.reduceToInt, Int32.reduceDiv, Int32.reduceMul]; omega)
  unfold own_tail
  rw [if_pos c0, if_pos c1, if_neg c2, if_pos c3, if_neg c4, if_pos c5]
theorem own_good_0 (t : Int32) (h1 : 2 ≤ t.toInt) (h2 : t.toInt ≤ 2) : own_tail t (own_tl t) = (1 : Int32) := by
  have e : own_tl t = (2 : Int32) := by
    unfold own_tl
    rw [if_pos (show (1 : Int32) < t from own_lt_of (by simp only [Int32.reduceToInt]; omega)), own_pw_0 t h1 h2, if_pos (show (2 : Int32) < (4 : Int32) from by decide)]
  rw [e]
  exact own_tail_0 t h1 h2
theorem own_nlz_1 (p1 : Int32) (h1 : 2 ≤ p1.toInt) (h2 : p1.toInt < 4) : own_nlz p1 = (30 : Int32) := by
  have s9 := own_us p1 (1 : Int32) 1 (by decide) (by decide)
  have e9 : (own_ushr p1 (1 : Int32)) = (1 : Int32) := Int32.toInt_inj.mp (by rw [s9]; simp only [Int32.reduceToInt]; omega)
  have c0 : ((0 : Int32) < p1) := own_lt_of (by simp only [Int32.reduceToInt]; omega)
  have c1 : (p1 < (65536 : Int32)) := own_lt_of (by simp only [Int32.reduceToInt]; omega)
  have c2 : (p1 < (256 : Int32)) := own_lt_of (by simp only [Int32.reduceToInt]; omega)
  have c3 : (p1 < (16 : Int32)) := own_lt_of (by simp only [Int32.reduceToInt]; omega)
  have c4 : (p1 < (4 : Int32)) := own_lt_of (by simp only [Int32.reduceToInt]; omega)
  unfold own_nlz
  rw [if_pos c0, if_pos c1, if_pos c2, if_pos c3, if_pos c4, e9]
  decide
theorem own_hob_1 (v : Int32) (h1 : 2 ≤ v.toInt) (h2 : v.toInt < 4) : own_hob v = (2 : Int32) := by
  unfold own_hob
  rw [own_nlz_1 v h1 h2, show own_ushr (-2147483648 : Int32) (30 : Int32) = (2 : Int32) from by decide]
  exact own_bit v _ 1 (by show ((2 : Nat) : Int) ≤ _; omega) (by show _ < ((4 : Nat) : Int); omega) (by decide)
theorem own_pw_1 (t : Int32) (h1 : 3 ≤ t.toInt) (h2 : t.toInt ≤ 4) : own_pw t = (4 : Int32) := by
  have s := c_isub t (1 : Int32)
  have b := Int32.le_toInt (t - (1 : Int32))
  have b' := Int32.toInt_lt (t - (1 : Int32))
  simp only [Int32.reduceToInt] at s
  unfold own_pw
  rw [own_hob_1 (t - (1 : Int32)) (by omega) (by omega)]
  decide
theorem own_tailA_1 (t1 : Int32) (h1 : 3 ≤ t1.toInt) (h2 : t1.toInt ≤ 3) : own_tail t1 (3 : Int32) = (1 : Int32) := by
  have c0 : ((0 : Int32) < (3 : Int32)) := by decide
  have c1 : ¬ (((3 : Int32) &&& ((3 : Int32) - (1 : Int32))) = (0 : Int32)) := by decide
  have c2 : (((3 : Int32) % (3 : Int32)) = (0 : Int32)) := by decide
  have c3 : ((((3 : Int32) / (3 : Int32)) &&& (((3 : Int32) / (3 : Int32)) - (1 : Int32))) = (0 : Int32)) := by decide
  have c4 : ¬ ((3 : Int32) < t1) := own_nlt_of (by simp only [Int32.reduceToInt, Int32.reduceDiv, Int32.reduceMul]; omega)
  have c5 : (((2 : Int32) * ((3 : Int32) / (3 : Int32))) < t1) := own_lt_of (by simp only [Int32.reduceToInt, Int32.reduceDiv, Int32.reduceMul]; omega)
  unfold own_tail
  rw [if_pos c0, if_neg c1, if_pos c2, if_pos c3, if_neg c4, if_pos c5]
theorem own_tailB_1 (t1 : Int32) (h1 : 4 ≤ t1.toInt) (h2 : t1.toInt ≤ 4) : own_tail t1 (4 : Int32) = (1 : Int32) := by
  have c0 : ((0 : Int32) < (4 : Int32)) := by decide
  have c1 : (((4 : Int32) &&& ((4 : Int32) - (1 : Int32))) = (0 : Int32)) := by decide
  have c2 : ¬ (((4 : Int32) % (3 : Int32)) = (0 : Int32)) := by decide
  have c3 : ¬ ((4 : Int32) < (4 : Int32)) := by decide
  have c4 : ¬ ((4 : Int32) < t1) := own_nlt_of (by simp only [Int32.reduceToInt, Int32.reduceDiv, Int32.reduceMul]; omega)
  have c5 : (((3 : Int32) * ((4 : Int32) / (4 : Int32))) < t1) := own_lt_of (by simp only [Int32.reduceToInt, Int32.reduceDiv, Int32.reduceMul]; omega)
  unfold own_tail
  rw [if_pos c0, if_pos c1, if_neg c2, if_neg c3, if_neg c4, if_pos c5]
theorem own_good_1 (t : Int32) (h1 : 3 ≤ t.toInt) (h2 : t.toInt ≤ 4) : own_tail t (own_tl t) = (1 : Int32) := by
  have g : own_tq t = (3 : Int32) := by unfold own_tq; rw [own_pw_1 t h1 h2]; decide
  by_cases q : t.toInt ≤ 3
  · have e : own_tl t = (3 : Int32) := by
      unfold own_tl
      rw [if_pos (show (1 : Int32) < t from own_lt_of (by simp only [Int32.reduceToInt]; omega)), g, own_pw_1 t h1 h2, if_neg (show ¬ ((4 : Int32) < (4 : Int32)) from by decide), if_neg (show ¬ ((3 : Int32) < t) from own_nlt_of (by simp only [Int32.reduceToInt]; omega))]
    rw [e]
    exact own_tailA_1 t h1 q
  · have e : own_tl t = (4 : Int32) := by
      unfold own_tl
      rw [if_pos (show (1 : Int32) < t from own_lt_of (by simp only [Int32.reduceToInt]; omega)), g, own_pw_1 t h1 h2, if_neg (show ¬ ((4 : Int32) < (4 : Int32)) from by decide), if_pos (show (3 : Int32) < t from own_lt_of (by simp only [Int32.reduceToInt]; omega))]
    rw [e]
    exact own_tailB_1 t (by omega) h2
theorem own_nlz_2 (p1 : Int32) (h1 : 4 ≤ p1.toInt) (h2 : p1.toInt < 8) : own_nlz p1 = (29 : Int32) := by
  have s0 := own_us p1 (2 : Int32) 2 (by decide) (by decide)
  have s9 := own_us (own_ushr p1 (2 : Int32)) (1 : Int32) 1 (by decide) (by decide)
  have e9 : (own_ushr (own_ushr p1 (2 : Int32)) (1 : Int32)) = (0 : Int32) := Int32.toInt_inj.mp (by rw [s9]; simp only [Int32.reduceToInt]; omega)
  have c0 : ((0 : Int32) < p1) := own_lt_of (by simp only [Int32.reduceToInt]; omega)
  have c1 : (p1 < (65536 : Int32)) := own_lt_of (by simp only [Int32.reduceToInt]; omega)
  have c2 : (p1 < (256 : Int32)) := own_lt_of (by simp only [Int32.reduceToInt]; omega)
  have c3 : (p1 < (16 : Int32)) := own_lt_of (by simp only [Int32.reduceToInt]; omega)
  have c4 : ¬ (p1 < (4 : Int32)) := own_nlt_of (by simp only [Int32.reduceToInt]; omega)
  unfold own_nlz
  rw [if_pos c0, if_pos c1, if_pos c2, if_pos c3, if_neg c4, e9]
  decide
theorem own_hob_2 (v : Int32) (h1 : 4 ≤ v.toInt) (h2 : v.toInt < 8) : own_hob v = (4 : Int32) := by
  unfold own_hob
  rw [own_nlz_2 v h1 h2, show own_ushr (-2147483648 : Int32) (29 : Int32) = (4 : Int32) from by decide]
  exact own_bit v _ 2 (by show ((4 : Nat) : Int) ≤ _; omega) (by show _ < ((8 : Nat) : Int); omega) (by decide)
theorem own_pw_2 (t : Int32) (h1 : 5 ≤ t.toInt) (h2 : t.toInt ≤ 8) : own_pw t = (8 : Int32) := by
  have s := c_isub t (1 : Int32)
  have b := Int32.le_toInt (t - (1 : Int32))
  have b' := Int32.toInt_lt (t - (1 : Int32))
  simp only [Int32.reduceToInt] at s
  unfold own_pw
  rw [own_hob_2 (t - (1 : Int32)) (by omega) (by omega)]
  decide
theorem own_tailA_2 (t1 : Int32) (h1 : 5 ≤ t1.toInt) (h2 : t1.toInt ≤ 6) : own_tail t1 (6 : Int32) = (1 : Int32) := by
  have c0 : ((0 : Int32) < (6 : Int32)) := by decide
  have c1 : ¬ (((6 : Int32) &&& ((6 : Int32) - (1 : Int32))) = (0 : Int32)) := by decide
  have c2 : (((6 : Int32) % (3 : Int32)) = (0 : Int32)) := by decide
  have c3 : ((((6 : Int32) / (3 : Int32)) &&& (((6 : Int32) / (3 : Int32)) - (1 : Int32))) = (0 : Int32)) := by decide
  have c4 : ¬ ((6 : Int32) < t1) := own_nlt_of (by simp only [Int32.reduceToInt, Int32.reduceDiv, Int32.reduceMul]; omega)
  have c5 : (((2 : Int32) * ((6 : Int32) / (3 : Int32))) < t1) := own_lt_of (by simp only [Int32.reduceToInt, Int32.reduceDiv, Int32.reduceMul]; omega)
  unfold own_tail
  rw [if_pos c0, if_neg c1, if_pos c2, if_pos c3, if_neg c4, if_pos c5]
theorem own_tailB_2 (t1 : Int32) (h1 : 7 ≤ t1.toInt) (h2 : t1.toInt ≤ 8) : own_tail t1 (8 : Int32) = (1 : Int32) := by
  have c0 : ((0 : Int32) < (8 : Int32)) := by decide
  have c1 : (((8 : Int32) &&& ((8 : Int32) - (1 : Int32))) = (0 : Int32)) := by decide
  have c2 : ¬ (((8 : Int32) % (3 : Int32)) = (0 : Int32)) := by decide
  have c3 : ¬ ((8 : Int32) < (4 : Int32)) := by decide
  have c4 : ¬ ((8 : Int32) < t1) := own_nlt_of (by simp only [Int32.reduceToInt, Int32.reduceDiv, Int32.reduceMul]; omega)
  have c5 : (((3 : Int32) * ((8 : Int32) / (4 : Int32))) < t1) := own_lt_of (by simp only [Int32.reduceToInt, Int32.reduceDiv, Int32.reduceMul]; omega)
  unfold own_tail
  rw [if_pos c0, if_pos c1, if_neg c2, if_neg c3, if_neg c4, if_pos c5]
theorem own_good_2 (t : Int32) (h1 : 5 ≤ t.toInt) (h2 : t.toInt ≤ 8) : own_tail t (own_tl t) = (1 : Int32) := by
  have g : own_tq t = (6 : Int32) := by unfold own_tq; rw [own_pw_2 t h1 h2]; decide
  by_cases q : t.toInt ≤ 6
  · have e : own_tl t = (6 : Int32) := by
      unfold own_tl
      rw [if_pos (show (1 : Int32) < t from own_lt_of (by simp only [Int32.reduceToInt]; omega)), g, own_pw_2 t h1 h2, if_neg (show ¬ ((8 : Int32) < (4 : Int32)) from by decide), if_neg (show ¬ ((6 : Int32) < t) from own_nlt_of (by simp only [Int32.reduceToInt]; omega))]
    rw [e]
    exact own_tailA_2 t h1 q
  · have e : own_tl t = (8 : Int32) := by
      unfold own_tl
      rw [if_pos (show (1 : Int32) < t from own_lt_of (by simp only [Int32.reduceToInt]; omega)), g, own_pw_2 t h1 h2, if_neg (show ¬ ((8 : Int32) < (4 : Int32)) from by decide), if_pos (show (6 : Int32) < t from own_lt_of (by simp only [Int32.reduceToInt]; omega))]
    rw [e]
    exact own_tailB_2 t (by omega) h2
theorem own_nlz_3 (p1 : Int32) (h1 : 8 ≤ p1.toInt) (h2 : p1.toInt < 16) : own_nlz p1 = (28 : Int32) := by
  have s0 := own_us p1 (2 : Int32) 2 (by decide) (by decide)
  have s9 := own_us (own_ushr p1 (2 : Int32)) (1 : Int32) 1 (by decide) (by decide)
  have e9 : (own_ushr (own_ushr p1 (2 : Int32)) (1 : Int32)) = (1 : Int32) := Int32.toInt_inj.mp (by rw [s9]; simp only [Int32.reduceToInt]; omega)
  have c0 : ((0 : Int32) < p1) := own_lt_of (by simp only [Int32.reduceToInt]; omega)
  have c1 : (p1 < (65536 : Int32)) := own_lt_of (by simp only [Int32.reduceToInt]; omega)
  have c2 : (p1 < (256 : Int32)) := own_lt_of (by simp only [Int32.reduceToInt]; omega)
  have c3 : (p1 < (16 : Int32)) := own_lt_of (by simp only [Int32.reduceToInt]; omega)
  have c4 : ¬ (p1 < (4 : Int32)) := own_nlt_of (by simp only [Int32.reduceToInt]; omega)
  unfold own_nlz
  rw [if_pos c0, if_pos c1, if_pos c2, if_pos c3, if_neg c4, e9]
  decide
theorem own_hob_3 (v : Int32) (h1 : 8 ≤ v.toInt) (h2 : v.toInt < 16) : own_hob v = (8 : Int32) := by
  unfold own_hob
  rw [own_nlz_3 v h1 h2, show own_ushr (-2147483648 : Int32) (28 : Int32) = (8 : Int32) from by decide]
  exact own_bit v _ 3 (by show ((8 : Nat) : Int) ≤ _; omega) (by show _ < ((16 : Nat) : Int); omega) (by decide)
theorem own_pw_3 (t : Int32) (h1 : 9 ≤ t.toInt) (h2 : t.toInt ≤ 16) : own_pw t = (16 : Int32) := by
  have s := c_isub t (1 : Int32)
  have b := Int32.le_toInt (t - (1 : Int32))
  have b' := Int32.toInt_lt (t - (1 : Int32))
  simp only [Int32.reduceToInt] at s
  unfold own_pw
  rw [own_hob_3 (t - (1 : Int32)) (by omega) (by omega)]
  decide
theorem own_tailA_3 (t1 : Int32) (h1 : 9 ≤ t1.toInt) (h2 : t1.toInt ≤ 12) : own_tail t1 (12 : Int32) = (1 : Int32) := by
  have c0 : ((0 : Int32) < (12 : Int32)) := by decide
  have c1 : ¬ (((12 : Int32) &&& ((12 : Int32) - (1 : Int32))) = (0 : Int32)) := by decide
  have c2 : (((12 : Int32) % (3 : Int32)) = (0 : Int32)) := by decide
  have c3 : ((((12 : Int32) / (3 : Int32)) &&& (((12 : Int32) / (3 : Int32)) - (1 : Int32))) = (0 : Int32)) := by decide
  have c4 : ¬ ((12 : Int32) < t1) := own_nlt_of (by simp only [Int32.reduceToInt, Int32.reduceDiv, Int32.reduceMul]; omega)
  have c5 : (((2 : Int32) * ((12 : Int32) / (3 : Int32))) < t1) := own_lt_of (by simp only [Int32.reduceToInt, Int32.reduceDiv, Int32.reduceMul]; omega)
  unfold own_tail
  rw [if_pos c0, if_neg c1, if_pos c2, if_pos c3, if_neg c4, if_pos c5]
theorem own_tailB_3 (t1 : Int32) (h1 : 13 ≤ t1.toInt) (h2 : t1.toInt ≤ 16) : own_tail t1 (16 : Int32) = (1 : Int32) := by
  have c0 : ((0 : Int32) < (16 : Int32)) := by decide
  have c1 : (((16 : Int32) &&& ((16 : Int32) - (1 : Int32))) = (0 : Int32)) := by decide
  have c2 : ¬ (((16 : Int32) % (3 : Int32)) = (0 : Int32)) := by decide
  have c3 : ¬ ((16 : Int32) < (4 : Int32)) := by decide
  have c4 : ¬ ((16 : Int32) < t1) := own_nlt_of (by simp only [Int32.reduceToInt, Int32.reduceDiv, Int32.reduceMul]; omega)
  have c5 : (((3 : Int32) * ((16 : Int32) / (4 : Int32))) < t1) := own_lt_of (by simp only [Int32.reduceToInt, Int32.reduceDiv, Int32.reduceMul]; omega)
  unfold own_tail
  rw [if_pos c0, if_pos c1, if_neg c2, if_neg c3, if_neg c4, if_pos c5]
theorem own_good_3 (t : Int32) (h1 : 9 ≤ t.toInt) (h2 : t.toInt ≤ 16) : own_tail t (own_tl t) = (1 : Int32) := by
  have g : own_tq t = (12 : Int32) := by unfold own_tq; rw [own_pw_3 t h1 h2]; decide
  by_cases q : t.toInt ≤ 12
  · have e : own_tl t = (12 : Int32) := by
      unfold own_tl
      rw [if_pos (show (1 : Int32) < t from own_lt_of (by simp only [Int32.reduceToInt]; omega)), g, own_pw_3 t h1 h2, if_neg (show ¬ ((16 : Int32) < (4 : Int32)) from by decide), if_neg (show ¬ ((12 : Int32) < t) from own_nlt_of (by simp only [Int32.reduceToInt]; omega))]
    rw [e]
    exact own_tailA_3 t h1 q
  · have e : own_tl t = (16 : Int32) := by
      unfold own_tl
      rw [if_pos (show (1 : Int32) < t from own_lt_of (by simp only [Int32.reduceToInt]; omega)), g, own_pw_3 t h1 h2, if_neg (show ¬ ((16 : Int32) < (4 : Int32)) from by decide), if_pos (show (12 : Int32) < t from own_lt_of (by simp only [Int32.reduceToInt]; omega))]
    rw [e]
    exact own_tailB_3 t (by omega) h2
theorem own_nlz_4 (p1 : Int32) (h1 : 16 ≤ p1.toInt) (h2 : p1.toInt < 32) : own_nlz p1 = (27 : Int32) := by
  have s0 := own_us p1 (4 : Int32) 4 (by decide) (by decide)
  have s9 := own_us (own_ushr p1 (4 : Int32)) (1 : Int32) 1 (by decide) (by decide)
  have e9 : (own_ushr (own_ushr p1 (4 : Int32)) (1 : Int32)) = (0 : Int32) := Int32.toInt_inj.mp (by rw [s9]; simp only [Int32.reduceToInt]; omega)
  have c0 : ((0 : Int32) < p1) := own_lt_of (by simp only [Int32.reduceToInt]; omega)
  have c1 : (p1 < (65536 : Int32)) := own_lt_of (by simp only [Int32.reduceToInt]; omega)
  have c2 : (p1 < (256 : Int32)) := own_lt_of (by simp only [Int32.reduceToInt]; omega)
  have c3 : ¬ (p1 < (16 : Int32)) := own_nlt_of (by simp only [Int32.reduceToInt]; omega)
  have c4 : ((own_ushr p1 (4 : Int32)) < (4 : Int32)) := own_lt_of (by simp only [Int32.reduceToInt]; omega)
  unfold own_nlz
  rw [if_pos c0, if_pos c1, if_pos c2, if_neg c3, if_pos c4, e9]
  decide
theorem own_hob_4 (v : Int32) (h1 : 16 ≤ v.toInt) (h2 : v.toInt < 32) : own_hob v = (16 : Int32) := by
  unfold own_hob
  rw [own_nlz_4 v h1 h2, show own_ushr (-2147483648 : Int32) (27 : Int32) = (16 : Int32) from by decide]
  exact own_bit v _ 4 (by show ((16 : Nat) : Int) ≤ _; omega) (by show _ < ((32 : Nat) : Int); omega) (by decide)
theorem own_pw_4 (t : Int32) (h1 : 17 ≤ t.toInt) (h2 : t.toInt ≤ 32) : own_pw t = (32 : Int32) := by
  have s := c_isub t (1 : Int32)
  have b := Int32.le_toInt (t - (1 : Int32))
  have b' := Int32.toInt_lt (t - (1 : Int32))
  simp only [Int32.reduceToInt] at s
  unfold own_pw
  rw [own_hob_4 (t - (1 : Int32)) (by omega) (by omega)]
  decide
theorem own_tailA_4 (t1 : Int32) (h1 : 17 ≤ t1.toInt) (h2 : t1.toInt ≤ 24) : own_tail t1 (24 : Int32) = (1 : Int32) := by
  have c0 : ((0 : Int32) < (24 : Int32)) := by decide
  have c1 : ¬ (((24 : Int32) &&& ((24 : Int32) - (1 : Int32))) = (0 : Int32)) := by decide
  have c2 : (((24 : Int32) % (3 : Int32)) = (0 : Int32)) := by decide
  have c3 : ((((24 : Int32) / (3 : Int32)) &&& (((24 : Int32) / (3 : Int32)) - (1 : Int32))) = (0 : Int32)) := by decide
  have c4 : ¬ ((24 : Int32) < t1) := own_nlt_of (by simp only [Int32.reduceToInt, Int32.reduceDiv, Int32.reduceMul]; omega)
  have c5 : (((2 : Int32) * ((24 : Int32) / (3 : Int32))) < t1) := own_lt_of (by simp only [Int32.reduceToInt, Int32.reduceDiv, Int32.reduceMul]; omega)
  unfold own_tail
  rw [if_pos c0, if_neg c1, if_pos c2, if_pos c3, if_neg c4, if_pos c5]
theorem own_tailB_4 (t1 : Int32) (h1 : 25 ≤ t1.toInt) (h2 : t1.toInt ≤ 32) : own_tail t1 (32 : Int32) = (1 : Int32) := by
  have c0 : ((0 : Int32) < (32 : Int32)) := by decide
  have c1 : (((32 : Int32) &&& ((32 : Int32) - (1 : Int32))) = (0 : Int32)) := by decide
  have c2 : ¬ (((32 : Int32) % (3 : Int32)) = (0 : Int32)) := by decide
  have c3 : ¬ ((32 : Int32) < (4 : Int32)) := by decide
  have c4 : ¬ ((32 : Int32) < t1) := own_nlt_of (by simp only [Int32.reduceToInt, Int32.reduceDiv, Int32.reduceMul]; omega)
  have c5 : (((3 : Int32) * ((32 : Int32) / (4 : Int32))) < t1) := own_lt_of (by simp only [Int32.reduceToInt, Int32.reduceDiv, Int32.reduceMul]; omega)
  unfold own_tail
  rw [if_pos c0, if_pos c1, if_neg c2, if_neg c3, if_neg c4, if_pos c5]
theorem own_good_4 (t : Int32) (h1 : 17 ≤ t.toInt) (h2 : t.toInt ≤ 32) : own_tail t (own_tl t) = (1 : Int32) := by
  have g : own_tq t = (24 : Int32) := by unfold own_tq; rw [own_pw_4 t h1 h2]; decide
  by_cases q : t.toInt ≤ 24
  · have e : own_tl t = (24 : Int32) := by
      unfold own_tl
      rw [if_pos (show (1 : Int32) < t from own_lt_of (by simp only [Int32.reduceToInt]; omega)), g, own_pw_4 t h1 h2, if_neg (show ¬ ((32 : Int32) < (4 : Int32)) from by decide), if_neg (show ¬ ((24 : Int32) < t) from own_nlt_of (by simp only [Int32.reduceToInt]; omega))]
    rw [e]
    exact own_tailA_4 t h1 q
  · have e : own_tl t = (32 : Int32) := by
      unfold own_tl
      rw [if_pos (show (1 : Int32) < t from own_lt_of (by simp only [Int32.reduceToInt]; omega)), g, own_pw_4 t h1 h2, if_neg (show ¬ ((32 : Int32) < (4 : Int32)) from by decide), if_pos (show (24 : Int32) < t from own_lt_of (by simp only [Int32.reduceToInt]; omega))]
    rw [e]
    exact own_tailB_4 t (by omega) h2
theorem own_nlz_5 (p1 : Int32) (h1 : 32 ≤ p1.toInt) (h2 : p1.toInt < 64) : own_nlz p1 = (26 : Int32) := by
  have s0 := own_us p1 (4 : Int32) 4 (by decide) (by decide)
  have s9 := own_us (own_ushr p1 (4 : Int32)) (1 : Int32) 1 (by decide) (by decide)
  have e9 : (own_ushr (own_ushr p1 (4 : Int32)) (1 : Int32)) = (1 : Int32) := Int32.toInt_inj.mp (by rw [s9]; simp only [Int32.reduceToInt]; omega)
  have c0 : ((0 : Int32) < p1) := own_lt_of (by simp only [Int32.reduceToInt]; omega)
  have c1 : (p1 < (65536 : Int32)) := own_lt_of (by simp only [Int32.reduceToInt]; omega)
  have c2 : (p1 < (256 : Int32)) := own_lt_of (by simp only [Int32.reduceToInt]; omega)
  have c3 : ¬ (p1 < (16 : Int32)) := own_nlt_of (by simp only [Int32.reduceToInt]; omega)
  have c4 : ((own_ushr p1 (4 : Int32)) < (4 : Int32)) := own_lt_of (by simp only [Int32.reduceToInt]; omega)
  unfold own_nlz
  rw [if_pos c0, if_pos c1, if_pos c2, if_neg c3, if_pos c4, e9]
  decide
theorem own_hob_5 (v : Int32) (h1 : 32 ≤ v.toInt) (h2 : v.toInt < 64) : own_hob v = (32 : Int32) := by
  unfold own_hob
  rw [own_nlz_5 v h1 h2, show own_ushr (-2147483648 : Int32) (26 : Int32) = (32 : Int32) from by decide]
  exact own_bit v _ 5 (by show ((32 : Nat) : Int) ≤ _; omega) (by show _ < ((64 : Nat) : Int); omega) (by decide)
theorem own_pw_5 (t : Int32) (h1 : 33 ≤ t.toInt) (h2 : t.toInt ≤ 64) : own_pw t = (64 : Int32) := by
  have s := c_isub t (1 : Int32)
  have b := Int32.le_toInt (t - (1 : Int32))
  have b' := Int32.toInt_lt (t - (1 : Int32))
  simp only [Int32.reduceToInt] at s
  unfold own_pw
  rw [own_hob_5 (t - (1 : Int32)) (by omega) (by omega)]
  decide
theorem own_tailA_5 (t1 : Int32) (h1 : 33 ≤ t1.toInt) (h2 : t1.toInt ≤ 48) : own_tail t1 (48 : Int32) = (1 : Int32) := by
  have c0 : ((0 : Int32) < (48 : Int32)) := by decide
  have c1 : ¬ (((48 : Int32) &&& ((48 : Int32) - (1 : Int32))) = (0 : Int32)) := by decide
  have c2 : (((48 : Int32) % (3 : Int32)) = (0 : Int32)) := by decide
  have c3 : ((((48 : Int32) / (3 : Int32)) &&& (((48 : Int32) / (3 : Int32)) - (1 : Int32))) = (0 : Int32)) := by decide
  have c4 : ¬ ((48 : Int32) < t1) := own_nlt_of (by simp only [Int32.reduceToInt, Int32.reduceDiv, Int32.reduceMul]; omega)
  have c5 : (((2 : Int32) * ((48 : Int32) / (3 : Int32))) < t1) := own_lt_of (by simp only [Int32.reduceToInt, Int32.reduceDiv, Int32.reduceMul]; omega)
  unfold own_tail
  rw [if_pos c0, if_neg c1, if_pos c2, if_pos c3, if_neg c4, if_pos c5]
theorem own_tailB_5 (t1 : Int32) (h1 : 49 ≤ t1.toInt) (h2 : t1.toInt ≤ 64) : own_tail t1 (64 : Int32) = (1 : Int32) := by
  have c0 : ((0 : Int32) < (64 : Int32)) := by decide
  have c1 : (((64 : Int32) &&& ((64 : Int32) - (1 : Int32))) = (0 : Int32)) := by decide
  have c2 : ¬ (((64 : Int32) % (3 : Int32)) = (0 : Int32)) := by decide
  have c3 : ¬ ((64 : Int32) < (4 : Int32)) := by decide
  have c4 : ¬ ((64 : Int32) < t1) := own_nlt_of (by simp only [Int32.reduceToInt, Int32.reduceDiv, Int32.reduceMul]; omega)
  have c5 : (((3 : Int32) * ((64 : Int32) / (4 : Int32))) < t1) := own_lt_of (by simp only [Int32.reduceToInt, Int32.reduceDiv, Int32.reduceMul]; omega)
  unfold own_tail
  rw [if_pos c0, if_pos c1, if_neg c2, if_neg c3, if_neg c4, if_pos c5]
theorem own_good_5 (t : Int32) (h1 : 33 ≤ t.toInt) (h2 : t.toInt ≤ 64) : own_tail t (own_tl t) = (1 : Int32) := by
  have g : own_tq t = (48 : Int32) := by unfold own_tq; rw [own_pw_5 t h1 h2]; decide
  by_cases q : t.toInt ≤ 48
  · have e : own_tl t = (48 : Int32) := by
      unfold own_tl
      rw [if_pos (show (1 : Int32) < t from own_lt_of (by simp only [Int32.reduceToInt]; omega)), g, own_pw_5 t h1 h2, if_neg (show ¬ ((64 : Int32) < (4 : Int32)) from by decide), if_neg (show ¬ ((48 : Int32) < t) from own_nlt_of (by simp only [Int32.reduceToInt]; omega))]
    rw [e]
    exact own_tailA_5 t h1 q
  · have e : own_tl t = (64 : Int32) := by
      unfold own_tl
      rw [if_pos (show (1 : Int32) < t from own_lt_of (by simp only [Int32.reduceToInt]; omega)), g, own_pw_5 t h1 h2, if_neg (show ¬ ((64 : Int32) < (4 : Int32)) from by decide), if_pos (show (48 : Int32) < t from own_lt_of (by simp only [Int32.reduceToInt]; omega))]
    rw [e]
    exact own_tailB_5 t (by omega) h2
theorem own_nlz_6 (p1 : Int32) (h1 : 64 ≤ p1.toInt) (h2 : p1.toInt < 128) : own_nlz p1 = (25 : Int32) := by
  have s0 := own_us p1 (4 : Int32) 4 (by decide) (by decide)
  have s1 := own_us (own_ushr p1 (4 : Int32)) (2 : Int32) 2 (by decide) (by decide)
  have s9 := own_us (own_ushr (own_ushr p1 (4 : Int32)) (2 : Int32)) (1 : Int32) 1 (by decide) (by decide)
  have e9 : (own_ushr (own_ushr (own_ushr p1 (4 : Int32)) (2 : Int32)) (1 : Int32)) = (0 : Int32) := Int32.toInt_inj.mp (by rw [s9]; simp only [Int32.reduceToInt]; omega)
  have c0 : ((0 : Int32) < p1) := own_lt_of (by simp only [Int32.reduceToInt]; omega)
  have c1 : (p1 < (65536 : Int32)) := own_lt_of (by simp only [Int32.reduceToInt]; omega)
  have c2 : (p1 < (256 : Int32)) := own_lt_of (by simp only [Int32.reduceToInt]; omega)
  have c3 : ¬ (p1 < (16 : Int32)) := own_nlt_of (by simp only [Int32.reduceToInt]; omega)
  have c4 : ¬ ((own_ushr p1 (4 : Int32)) < (4 : Int32)) := own_nlt_of (by simp only [Int32.reduceToInt]; omega)
  unfold own_nlz
  rw [if_pos c0, if_pos c1, if_pos c2, if_neg c3, if_neg c4, e9]
  decide
theorem own_hob_6 (v : Int32) (h1 : 64 ≤ v.toInt) (h2 : v.toInt < 128) : own_hob v = (64 : Int32) := by
  unfold own_hob
  rw [own_nlz_6 v h1 h2, show own_ushr (-2147483648 : Int32) (25 : Int32) = (64 : Int32) from by decide]
  exact own_bit v _ 6 (by show ((64 : Nat) : Int) ≤ _; omega) (by show _ < ((128 : Nat) : Int); omega) (by decide)
theorem own_pw_6 (t : Int32) (h1 : 65 ≤ t.toInt) (h2 : t.toInt ≤ 128) : own_pw t = (128 : Int32) := by
  have s := c_isub t (1 : Int32)
  have b := Int32.le_toInt (t - (1 : Int32))
  have b' := Int32.toInt_lt (t - (1 : Int32))
  simp only [Int32.reduceToInt] at s
  unfold own_pw
  rw [own_hob_6 (t - (1 : Int32)) (by omega) (by omega)]
  decide
theorem own_tailA_6 (t1 : Int32) (h1 : 65 ≤ t1.toInt) (h2 : t1.toInt ≤ 96) : own_tail t1 (96 : Int32) = (1 : Int32) := by
  have c0 : ((0 : Int32) < (96 : Int32)) := by decide
  have c1 : ¬ (((96 : Int32) &&& ((96 : Int32) - (1 : Int32))) = (0 : Int32)) := by decide
  have c2 : (((96 : Int32) % (3 : Int32)) = (0 : Int32)) := by decide
  have c3 : ((((96 : Int32) / (3 : Int32)) &&& (((96 : Int32) / (3 : Int32)) - (1 : Int32))) = (0 : Int32)) := by decide
  have c4 : ¬ ((96 : Int32) < t1) := own_nlt_of (by simp only [Int32.reduceToInt, Int32.reduceDiv, Int32.reduceMul]; omega)
  have c5 : (((2 : Int32) * ((96 : Int32) / (3 : Int32))) < t1) := own_lt_of (by simp only [Int32.reduceToInt, Int32.reduceDiv, Int32.reduceMul]; omega)
  unfold own_tail
  rw [if_pos c0, if_neg c1, if_pos c2, if_pos c3, if_neg c4, if_pos c5]
theorem own_tailB_6 (t1 : Int32) (h1 : 97 ≤ t1.toInt) (h2 : t1.toInt ≤ 128) : own_tail t1 (128 : Int32) = (1 : Int32) := by
  have c0 : ((0 : Int32) < (128 : Int32)) := by decide
  have c1 : (((128 : Int32) &&& ((128 : Int32) - (1 : Int32))) = (0 : Int32)) := by decide
  have c2 : ¬ (((128 : Int32) % (3 : Int32)) = (0 : Int32)) := by decide
  have c3 : ¬ ((128 : Int32) < (4 : Int32)) := by decide
  have c4 : ¬ ((128 : Int32) < t1) := own_nlt_of (by simp only [Int32.reduceToInt, Int32.reduceDiv, Int32.reduceMul]; omega)
  have c5 : (((3 : Int32) * ((128 : Int32) / (4 : Int32))) < t1) := own_lt_of (by simp only [Int32.reduceToInt, Int32.reduceDiv, Int32.reduceMul]; omega)
  unfold own_tail
  rw [if_pos c0, if_pos c1, if_neg c2, if_neg c3, if_neg c4, if_pos c5]
theorem own_good_6 (t : Int32) (h1 : 65 ≤ t.toInt) (h2 : t.toInt ≤ 128) : own_tail t (own_tl t) = (1 : Int32) := by
  have g : own_tq t = (96 : Int32) := by unfold own_tq; rw [own_pw_6 t h1 h2]; decide
  by_cases q : t.toInt ≤ 96
  · have e : own_tl t = (96 : Int32) := by
      unfold own_tl
      rw [if_pos (show (1 : Int32) < t from own_lt_of (by simp only [Int32.reduceToInt]; omega)), g, own_pw_6 t h1 h2, if_neg (show ¬ ((128 : Int32) < (4 : Int32)) from by decide), if_neg (show ¬ ((96 : Int32) < t) from own_nlt_of (by simp only [Int32.reduceToInt]; omega))]
    rw [e]
    exact own_tailA_6 t h1 q
  · have e : own_tl t = (128 : Int32) := by
      unfold own_tl
      rw [if_pos (show (1 : Int32) < t from own_lt_of (by simp only [Int32.reduceToInt]; omega)), g, own_pw_6 t h1 h2, if_neg (show ¬ ((128 : Int32) < (4 : Int32)) from by decide), if_pos (show (96 : Int32) < t from own_lt_of (by simp only [Int32.reduceToInt]; omega))]
    rw [e]
    exact own_tailB_6 t (by omega) h2
theorem own_nlz_7 (p1 : Int32) (h1 : 128 ≤ p1.toInt) (h2 : p1.toInt < 256) : own_nlz p1 = (24 : Int32) := by
  have s0 := own_us p1 (4 : Int32) 4 (by decide) (by decide)
  have s1 := own_us (own_ushr p1 (4 : Int32)) (2 : Int32) 2 (by decide) (by decide)
  have s9 := own_us (own_ushr (own_ushr p1 (4 : Int32)) (2 : Int32)) (1 : Int32) 1 (by decide) (by decide)
  have e9 : (own_ushr (own_ushr (own_ushr p1 (4 : Int32)) (2 : Int32)) (1 : Int32)) = (1 : Int32) := Int32.toInt_inj.mp (by rw [s9]; simp only [Int32.reduceToInt]; omega)
  have c0 : ((0 : Int32) < p1) := own_lt_of (by simp only [Int32.reduceToInt]; omega)
  have c1 : (p1 < (65536 : Int32)) := own_lt_of (by simp only [Int32.reduceToInt]; omega)
  have c2 : (p1 < (256 : Int32)) := own_lt_of (by simp only [Int32.reduceToInt]; omega)
  have c3 : ¬ (p1 < (16 : Int32)) := own_nlt_of (by simp only [Int32.reduceToInt]; omega)
  have c4 : ¬ ((own_ushr p1 (4 : Int32)) < (4 : Int32)) := own_nlt_of (by simp only [Int32.reduceToInt]; omega)
  unfold own_nlz
  rw [if_pos c0, if_pos c1, if_pos c2, if_neg c3, if_neg c4, e9]
  decide
theorem own_hob_7 (v : Int32) (h1 : 128 ≤ v.toInt) (h2 : v.toInt < 256) : own_hob v = (128 : Int32) := by
  unfold own_hob
  rw [own_nlz_7 v h1 h2, show own_ushr (-2147483648 : Int32) (24 : Int32) = (128 : Int32) from by decide]
  exact own_bit v _ 7 (by show ((128 : Nat) : Int) ≤ _; omega) (by show _ < ((256 : Nat) : Int); omega) (by decide)
theorem own_pw_7 (t : Int32) (h1 : 129 ≤ t.toInt) (h2 : t.toInt ≤ 256) : own_pw t = (256 : Int32) := by
  have s := c_isub t (1 : Int32)
  have b := Int32.le_toInt (t - (1 : Int32))
  have b' := Int32.toInt_lt (t - (1 : Int32))
  simp only [Int32.reduceToInt] at s
  unfold own_pw
  rw [own_hob_7 (t - (1 : Int32)) (by omega) (by omega)]
  decide
theorem own_tailA_7 (t1 : Int32) (h1 : 129 ≤ t1.toInt) (h2 : t1.toInt ≤ 192) : own_tail t1 (192 : Int32) = (1 : Int32) := by
  have c0 : ((0 : Int32) < (192 : Int32)) := by decide
  have c1 : ¬ (((192 : Int32) &&& ((192 : Int32) - (1 : Int32))) = (0 : Int32)) := by decide
  have c2 : (((192 : Int32) % (3 : Int32)) = (0 : Int32)) := by decide
  have c3 : ((((192 : Int32) / (3 : Int32)) &&& (((192 : Int32) / (3 : Int32)) - (1 : Int32))) = (0 : Int32)) := by decide
  have c4 : ¬ ((192 : Int32) < t1) := own_nlt_of (by simp only [Int32.reduceToInt, Int32.reduceDiv, Int32.reduceMul]; omega)
  have c5 : (((2 : Int32) * ((192 : Int32) / (3 : Int32))) < t1) := own_lt_of (by simp only [Int32.reduceToInt, Int32.reduceDiv, Int32.reduceMul]; omega)
  unfold own_tail
  rw [if_pos c0, if_neg c1, if_pos c2, if_pos c3, if_neg c4, if_pos c5]
theorem own_tailB_7 (t1 : Int32) (h1 : 193 ≤ t1.toInt) (h2 : t1.toInt ≤ 256) : own_tail t1 (256 : Int32) = (1 : Int32) := by
  have c0 : ((0 : Int32) < (256 : Int32)) := by decide
  have c1 : (((256 : Int32) &&& ((256 : Int32) - (1 : Int32))) = (0 : Int32)) := by decide
  have c2 : ¬ (((256 : Int32) % (3 : Int32)) = (0 : Int32)) := by decide
  have c3 : ¬ ((256 : Int32) < (4 : Int32)) := by decide
  have c4 : ¬ ((256 : Int32) < t1) := own_nlt_of (by simp only [Int32.reduceToInt, Int32.reduceDiv, Int32.reduceMul]; omega)
  have c5 : (((3 : Int32) * ((256 : Int32) / (4 : Int32))) < t1) := own_lt_of (by simp only [Int32.reduceToInt, Int32.reduceDiv, Int32.reduceMul]; omega)
  unfold own_tail
  rw [if_pos c0, if_pos c1, if_neg c2, if_neg c3, if_neg c4, if_pos c5]
theorem own_good_7 (t : Int32) (h1 : 129 ≤ t.toInt) (h2 : t.toInt ≤ 256) : own_tail t (own_tl t) = (1 : Int32) := by
  have g : own_tq t = (192 : Int32) := by unfold own_tq; rw [own_pw_7 t h1 h2]; decide
  by_cases q : t.toInt ≤ 192
  · have e : own_tl t = (192 : Int32) := by
      unfold own_tl
      rw [if_pos (show (1 : Int32) < t from own_lt_of (by simp only [Int32.reduceToInt]; omega)), g, own_pw_7 t h1 h2, if_neg (show ¬ ((256 : Int32) < (4 : Int32)) from by decide), if_neg (show ¬ ((192 : Int32) < t) from own_nlt_of (by simp only [Int32.reduceToInt]; omega))]
    rw [e]
    exact own_tailA_7 t h1 q
  · have e : own_tl t = (256 : Int32) := by
      unfold own_tl
      rw [if_pos (show (1 : Int32) < t from own_lt_of (by simp only [Int32.reduceToInt]; omega)), g, own_pw_7 t h1 h2, if_neg (show ¬ ((256 : Int32) < (4 : Int32)) from by decide), if_pos (show (192 : Int32) < t from own_lt_of (by simp only [Int32.reduceToInt]; omega))]
    rw [e]
    exact own_tailB_7 t (by omega) h2
theorem own_nlz_8 (p1 : Int32) (h1 : 256 ≤ p1.toInt) (h2 : p1.toInt < 512) : own_nlz p1 = (23 : Int32) := by
  have s0 := own_us p1 (8 : Int32) 8 (by decide) (by decide)
  have s9 := own_us (own_ushr p1 (8 : Int32)) (1 : Int32) 1 (by decide) (by decide)
  have e9 : (own_ushr (own_ushr p1 (8 : Int32)) (1 : Int32)) = (0 : Int32) := Int32.toInt_inj.mp (by rw [s9]; simp only [Int32.reduceToInt]; omega)
  have c0 : ((0 : Int32) < p1) := own_lt_of (by simp only [Int32.reduceToInt]; omega)
  have c1 : (p1 < (65536 : Int32)) := own_lt_of (by simp only [Int32.reduceToInt]; omega)
  have c2 : ¬ (p1 < (256 : Int32)) := own_nlt_of (by simp only [Int32.reduceToInt]; omega)
  have c3 : ((own_ushr p1 (8 : Int32)) < (16 : Int32)) := own_lt_of (by simp only [Int32.reduceToInt]; omega)
  have c4 : ((own_ushr p1 (8 : Int32)) < (4 : Int32)) := own_lt_of (by simp only [Int32.reduceToInt]; omega)
  unfold own_nlz
  rw [if_pos c0, if_pos c1, if_neg c2, if_pos c3, if_pos c4, e9]
  decide
theorem own_hob_8 (v : Int32) (h1 : 256 ≤ v.toInt) (h2 : v.toInt < 512) : own_hob v = (256 : Int32) := by
  unfold own_hob
  rw [own_nlz_8 v h1 h2, show own_ushr (-2147483648 : Int32) (23 : Int32) = (256 : Int32) from by decide]
  exact own_bit v _ 8 (by show ((256 : Nat) : Int) ≤ _; omega) (by show _ < ((512 : Nat) : Int); omega) (by decide)
theorem own_pw_8 (t : Int32) (h1 : 257 ≤ t.toInt) (h2 : t.toInt ≤ 512) : own_pw t = (512 : Int32) := by
  have s := c_isub t (1 : Int32)
  have b := Int32.le_toInt (t - (1 : Int32))
  have b' := Int32.toInt_lt (t - (1 : Int32))
  simp only [Int32.reduceToInt] at s
  unfold own_pw
  rw [own_hob_8 (t - (1 : Int32)) (by omega) (by omega)]
  decide
theorem own_tailA_8 (t1 : Int32) (h1 : 257 ≤ t1.toInt) (h2 : t1.toInt ≤ 384) : own_tail t1 (384 : Int32) = (1 : Int32) := by
  have c0 : ((0 : Int32) < (384 : Int32)) := by decide
  have c1 : ¬ (((384 : Int32) &&& ((384 : Int32) - (1 : Int32))) = (0 : Int32)) := by decide
  have c2 : (((384 : Int32) % (3 : Int32)) = (0 : Int32)) := by decide
  have c3 : ((((384 : Int32) / (3 : Int32)) &&& (((384 : Int32) / (3 : Int32)) - (1 : Int32))) = (0 : Int32)) := by decide
  have c4 : ¬ ((384 : Int32) < t1) := own_nlt_of (by simp only [Int32.reduceToInt, Int32.reduceDiv, Int32.reduceMul]; omega)
  have c5 : (((2 : Int32) * ((384 : Int32) / (3 : Int32))) < t1) := own_lt_of (by simp only [Int32.reduceToInt, Int32.reduceDiv, Int32.reduceMul]; omega)
  unfold own_tail
  rw [if_pos c0, if_neg c1, if_pos c2, if_pos c3, if_neg c4, if_pos c5]
theorem own_tailB_8 (t1 : Int32) (h1 : 385 ≤ t1.toInt) (h2 : t1.toInt ≤ 512) : own_tail t1 (512 : Int32) = (1 : Int32) := by
  have c0 : ((0 : Int32) < (512 : Int32)) := by decide
  have c1 : (((512 : Int32) &&& ((512 : Int32) - (1 : Int32))) = (0 : Int32)) := by decide
  have c2 : ¬ (((512 : Int32) % (3 : Int32)) = (0 : Int32)) := by decide
  have c3 : ¬ ((512 : Int32) < (4 : Int32)) := by decide
  have c4 : ¬ ((512 : Int32) < t1) := own_nlt_of (by simp only [Int32.reduceToInt, Int32.reduceDiv, Int32.reduceMul]; omega)
  have c5 : (((3 : Int32) * ((512 : Int32) / (4 : Int32))) < t1) := own_lt_of (by simp only [Int32.reduceToInt, Int32.reduceDiv, Int32.reduceMul]; omega)
  unfold own_tail
  rw [if_pos c0, if_pos c1, if_neg c2, if_neg c3, if_neg c4, if_pos c5]
theorem own_good_8 (t : Int32) (h1 : 257 ≤ t.toInt) (h2 : t.toInt ≤ 512) : own_tail t (own_tl t) = (1 : Int32) := by
  have g : own_tq t = (384 : Int32) := by unfold own_tq; rw [own_pw_8 t h1 h2]; decide
  by_cases q : t.toInt ≤ 384
  · have e : own_tl t = (384 : Int32) := by
      unfold own_tl
      rw [if_pos (show (1 : Int32) < t from own_lt_of (by simp only [Int32.reduceToInt]; omega)), g, own_pw_8 t h1 h2, if_neg (show ¬ ((512 : Int32) < (4 : Int32)) from by decide), if_neg (show ¬ ((384 : Int32) < t) from own_nlt_of (by simp only [Int32.reduceToInt]; omega))]
    rw [e]
    exact own_tailA_8 t h1 q
  · have e : own_tl t = (512 : Int32) := by
      unfold own_tl
      rw [if_pos (show (1 : Int32) < t from own_lt_of (by simp only [Int32.reduceToInt]; omega)), g, own_pw_8 t h1 h2, if_neg (show ¬ ((512 : Int32) < (4 : Int32)) from by decide), if_pos (show (384 : Int32) < t from own_lt_of (by simp only [Int32.reduceToInt]; omega))]
    rw [e]
    exact own_tailB_8 t (by omega) h2
theorem own_nlz_9 (p1 : Int32) (h1 : 512 ≤ p1.toInt) (h2 : p1.toInt < 1024) : own_nlz p1 = (22 : Int32) := by
  have s0 := own_us p1 (8 : Int32) 8 (by decide) (by decide)
  have s9 := own_us (own_ushr p1 (8 : Int32)) (1 : Int32) 1 (by decide) (by decide)
  have e9 : (own_ushr (own_ushr p1 (8 : Int32)) (1 : Int32)) = (1 : Int32) := Int32.toInt_inj.mp (by rw [s9]; simp only [Int32.reduceToInt]; omega)
  have c0 : ((0 : Int32) < p1) := own_lt_of (by simp only [Int32.reduceToInt]; omega)
  have c1 : (p1 < (65536 : Int32)) := own_lt_of (by simp only [Int32.reduceToInt]; omega)
  have c2 : ¬ (p1 < (256 : Int32)) := own_nlt_of (by simp only [Int32.reduceToInt]; omega)
  have c3 : ((own_ushr p1 (8 : Int32)) < (16 : Int32)) := own_lt_of (by simp only [Int32.reduceToInt]; omega)
  have c4 : ((own_ushr p1 (8 : Int32)) < (4 : Int32)) := own_lt_of (by simp only [Int32.reduceToInt]; omega)
  unfold own_nlz
  rw [if_pos c0, if_pos c1, if_neg c2, if_pos c3, if_pos c4, e9]
  decide
theorem own_hob_9 (v : Int32) (h1 : 512 ≤ v.toInt) (h2 : v.toInt < 1024) : own_hob v = (512 : Int32) := by
  unfold own_hob
  rw [own_nlz_9 v h1 h2, show own_ushr (-2147483648 : Int32) (22 : Int32) = (512 : Int32) from by decide]
  exact own_bit v _ 9 (by show ((512 : Nat) : Int) ≤ _; omega) (by show _ < ((1024 : Nat) : Int); omega) (by decide)
theorem own_pw_9 (t : Int32) (h1 : 513 ≤ t.toInt) (h2 : t.toInt ≤ 1024) : own_pw t = (1024 : Int32) := by
  have s := c_isub t (1 : Int32)
  have b := Int32.le_toInt (t - (1 : Int32))
  have b' := Int32.toInt_lt (t - (1 : Int32))
  simp only [Int32.reduceToInt] at s
  unfold own_pw
  rw [own_hob_9 (t - (1 : Int32)) (by omega) (by omega)]
  decide
theorem own_tailA_9 (t1 : Int32) (h1 : 513 ≤ t1.toInt) (h2 : t1.toInt ≤ 768) : own_tail t1 (768 : Int32) = (1 : Int32) := by
  have c0 : ((0 : Int32) < (768 : Int32)) := by decide
  have c1 : ¬ (((768 : Int32) &&& ((768 : Int32) - (1 : Int32))) = (0 : Int32)) := by decide
  have c2 : (((768 : Int32) % (3 : Int32)) = (0 : Int32)) := by decide
  have c3 : ((((768 : Int32) / (3 : Int32)) &&& (((768 : Int32) / (3 : Int32)) - (1 : Int32))) = (0 : Int32)) := by decide
  have c4 : ¬ ((768 : Int32) < t1) := own_nlt_of (by simp only [Int32.reduceToInt, Int32.reduceDiv, Int32.reduceMul]; omega)
  have c5 : (((2 : Int32) * ((768 : Int32) / (3 : Int32))) < t1) := own_lt_of (by simp only [Int32.reduceToInt, Int32.reduceDiv, Int32.reduceMul]; omega)
  unfold own_tail
  rw [if_pos c0, if_neg c1, if_pos c2, if_pos c3, if_neg c4, if_pos c5]
theorem own_tailB_9 (t1 : Int32) (h1 : 769 ≤ t1.toInt) (h2 : t1.toInt ≤ 1024) : own_tail t1 (1024 : Int32) = (1 : Int32) := by
  have c0 : ((0 : Int32) < (1024 : Int32)) := by decide
  have c1 : (((1024 : Int32) &&& ((1024 : Int32) - (1 : Int32))) = (0 : Int32)) := by decide
  have c2 : ¬ (((1024 : Int32) % (3 : Int32)) = (0 : Int32)) := by decide
  have c3 : ¬ ((1024 : Int32) < (4 : Int32)) := by decide
  have c4 : ¬ ((1024 : Int32) < t1) := own_nlt_of (by simp only [Int32.reduceToInt, Int32.reduceDiv, Int32.reduceMul]; omega)
  have c5 : (((3 : Int32) * ((1024 : Int32) / (4 : Int32))) < t1) := own_lt_of (by simp only [Int32.reduceToInt, Int32.reduceDiv, Int32.reduceMul]; omega)
  unfold own_tail
  rw [if_pos c0, if_pos c1, if_neg c2, if_neg c3, if_neg c4, if_pos c5]
theorem own_good_9 (t : Int32) (h1 : 513 ≤ t.toInt) (h2 : t.toInt ≤ 1024) : own_tail t (own_tl t) = (1 : Int32) := by
  have g : own_tq t = (768 : Int32) := by unfold own_tq; rw [own_pw_9 t h1 h2]; decide
  by_cases q : t.toInt ≤ 768
  · have e : own_tl t = (768 : Int32) := by
      unfold own_tl
      rw [if_pos (show (1 : Int32) < t from own_lt_of (by simp only [Int32.reduceToInt]; omega)), g, own_pw_9 t h1 h2, if_neg (show ¬ ((1024 : Int32) < (4 : Int32)) from by decide), if_neg (show ¬ ((768 : Int32) < t) from own_nlt_of (by simp only [Int32.reduceToInt]; omega))]
    rw [e]
    exact own_tailA_9 t h1 q
  · have e : own_tl t = (1024 : Int32) := by
      unfold own_tl
      rw [if_pos (show (1 : Int32) < t from own_lt_of (by simp only [Int32.reduceToInt]; omega)), g, own_pw_9 t h1 h2, if_neg (show ¬ ((1024 : Int32) < (4 : Int32)) from by decide), if_pos (show (768 : Int32) < t from own_lt_of (by simp only [Int32.reduceToInt]; omega))]
    rw [e]
    exact own_tailB_9 t (by omega) h2
theorem own_nlz_10 (p1 : Int32) (h1 : 1024 ≤ p1.toInt) (h2 : p1.toInt < 2048) : own_nlz p1 = (21 : Int32) := by
  have s0 := own_us p1 (8 : Int32) 8 (by decide) (by decide)
  have s1 := own_us (own_ushr p1 (8 : Int32)) (2 : Int32) 2 (by decide) (by decide)
  have s9 := own_us (own_ushr (own_ushr p1 (8 : Int32)) (2 : Int32)) (1 : Int32) 1 (by decide) (by decide)
  have e9 : (own_ushr (own_ushr (own_ushr p1 (8 : Int32)) (2 : Int32)) (1 : Int32)) = (0 : Int32) := Int32.toInt_inj.mp (by rw [s9]; simp only [Int32.reduceToInt]; omega)
  have c0 : ((0 : Int32) < p1) := own_lt_of (by simp only [Int32.reduceToInt]; omega)
  have c1 : (p1 < (65536 : Int32)) := own_lt_of (by simp only [Int32.reduceToInt]; omega)
  have c2 : ¬ (p1 < (256 : Int32)) := own_nlt_of (by simp only [Int32.reduceToInt]; omega)
  have c3 : ((own_ushr p1 (8 : Int32)) < (16 : Int32)) := own_lt_of (by simp only [Int32.reduceToInt]; omega)
  have c4 : ¬ ((own_ushr p1 (8 : Int32)) < (4 : Int32)) := own_nlt_of (by simp only [Int32.reduceToInt]; omega)
  unfold own_nlz
  rw [if_pos c0, if_pos c1, if_neg c2, if_pos c3, if_neg c4, e9]
  decide
theorem own_hob_10 (v : Int32) (h1 : 1024 ≤ v.toInt) (h2 : v.toInt < 2048) : own_hob v = (1024 : Int32) := by
  unfold own_hob
  rw [own_nlz_10 v h1 h2, show own_ushr (-2147483648 : Int32) (21 : Int32) = (1024 : Int32) from by decide]
  exact own_bit v _ 10 (by show ((1024 : Nat) : Int) ≤ _; omega) (by show _ < ((2048 : Nat) : Int); omega) (by decide)
theorem own_pw_10 (t : Int32) (h1 : 1025 ≤ t.toInt) (h2 : t.toInt ≤ 2048) : own_pw t = (2048 : Int32) := by
  have s := c_isub t (1 : Int32)
  have b := Int32.le_toInt (t - (1 : Int32))
  have b' := Int32.toInt_lt (t - (1 : Int32))
  simp only [Int32.reduceToInt] at s
  unfold own_pw
  rw [own_hob_10 (t - (1 : Int32)) (by omega) (by omega)]
  decide
theorem own_tailA_10 (t1 : Int32) (h1 : 1025 ≤ t1.toInt) (h2 : t1.toInt ≤ 1536) : own_tail t1 (1536 : Int32) = (1 : Int32) := by
  have c0 : ((0 : Int32) < (1536 : Int32)) := by decide
  have c1 : ¬ (((1536 : Int32) &&& ((1536 : Int32) - (1 : Int32))) = (0 : Int32)) := by decide
  have c2 : (((1536 : Int32) % (3 : Int32)) = (0 : Int32)) := by decide
  have c3 : ((((1536 : Int32) / (3 : Int32)) &&& (((1536 : Int32) / (3 : Int32)) - (1 : Int32))) = (0 : Int32)) := by decide
  have c4 : ¬ ((1536 : Int32) < t1) := own_nlt_of (by simp only [Int32.reduceToInt, Int32.reduceDiv, Int32.reduceMul]; omega)
  have c5 : (((2 : Int32) * ((1536 : Int32) / (3 : Int32))) < t1) := own_lt_of (by simp only [Int32.reduceToInt, Int32.reduceDiv, Int32.reduceMul]; omega)
  unfold own_tail
  rw [if_pos c0, if_neg c1, if_pos c2, if_pos c3, if_neg c4, if_pos c5]
theorem own_tailB_10 (t1 : Int32) (h1 : 1537 ≤ t1.toInt) (h2 : t1.toInt ≤ 2048) : own_tail t1 (2048 : Int32) = (1 : Int32) := by
  have c0 : ((0 : Int32) < (2048 : Int32)) := by decide
  have c1 : (((2048 : Int32) &&& ((2048 : Int32) - (1 : Int32))) = (0 : Int32)) := by decide
  have c2 : ¬ (((2048 : Int32) % (3 : Int32)) = (0 : Int32)) := by decide
  have c3 : ¬ ((2048 : Int32) < (4 : Int32)) := by decide
  have c4 : ¬ ((2048 : Int32) < t1) := own_nlt_of (by simp only [Int32.reduceToInt, Int32.reduceDiv, Int32.reduceMul]; omega)
  have c5 : (((3 : Int32) * ((2048 : Int32) / (4 : Int32))) < t1) := own_lt_of (by simp only [Int32.reduceToInt, Int32.reduceDiv, Int32.reduceMul]; omega)
  unfold own_tail
  rw [if_pos c0, if_pos c1, if_neg c2, if_neg c3, if_neg c4, if_pos c5]
theorem own_good_10 (t : Int32) (h1 : 1025 ≤ t.toInt) (h2 : t.toInt ≤ 2048) : own_tail t (own_tl t) = (1 : Int32) := by
  have g : own_tq t = (1536 : Int32) := by unfold own_tq; rw [own_pw_10 t h1 h2]; decide
  by_cases q : t.toInt ≤ 1536
  · have e : own_tl t = (1536 : Int32) := by
      unfold own_tl
      rw [if_pos (show (1 : Int32) < t from own_lt_of (by simp only [Int32.reduceToInt]; omega)), g, own_pw_10 t h1 h2, if_neg (show ¬ ((2048 : Int32) < (4 : Int32)) from by decide), if_neg (show ¬ ((1536 : Int32) < t) from own_nlt_of (by simp only [Int32.reduceToInt]; omega))]
    rw [e]
    exact own_tailA_10 t h1 q
  · have e : own_tl t = (2048 : Int32) := by
      unfold own_tl
      rw [if_pos (show (1 : Int32) < t from own_lt_of (by simp only [Int32.reduceToInt]; omega)), g, own_pw_10 t h1 h2, if_neg (show ¬ ((2048 : Int32) < (4 : Int32)) from by decide), if_pos (show (1536 : Int32) < t from own_lt_of (by simp only [Int32.reduceToInt]; omega))]
    rw [e]
    exact own_tailB_10 t (by omega) h2
theorem own_nlz_11 (p1 : Int32) (h1 : 2048 ≤ p1.toInt) (h2 : p1.toInt < 4096) : own_nlz p1 = (20 : Int32) := by
  have s0 := own_us p1 (8 : Int32) 8 (by decide) (by decide)
  have s1 := own_us (own_ushr p1 (8 : Int32)) (2 : Int32) 2 (by decide) (by decide)
  have s9 := own_us (own_ushr (own_ushr p1 (8 : Int32)) (2 : Int32)) (1 : Int32) 1 (by decide) (by decide)
  have e9 : (own_ushr (own_ushr (own_ushr p1 (8 : Int32)) (2 : Int32)) (1 : Int32)) = (1 : Int32) := Int32.toInt_inj.mp (by rw [s9]; simp only [Int32.reduceToInt]; omega)
  have c0 : ((0 : Int32) < p1) := own_lt_of (by simp only [Int32.reduceToInt]; omega)
  have c1 : (p1 < (65536 : Int32)) := own_lt_of (by simp only [Int32.reduceToInt]; omega)
  have c2 : ¬ (p1 < (256 : Int32)) := own_nlt_of (by simp only [Int32.reduceToInt]; omega)
  have c3 : ((own_ushr p1 (8 : Int32)) < (16 : Int32)) := own_lt_of (by simp only [Int32.reduceToInt]; omega)
  have c4 : ¬ ((own_ushr p1 (8 : Int32)) < (4 : Int32)) := own_nlt_of (by simp only [Int32.reduceToInt]; omega)
  unfold own_nlz
  rw [if_pos c0, if_pos c1, if_neg c2, if_pos c3, if_neg c4, e9]
  decide
theorem own_hob_11 (v : Int32) (h1 : 2048 ≤ v.toInt) (h2 : v.toInt < 4096) : own_hob v = (2048 : Int32) := by
  unfold own_hob
  rw [own_nlz_11 v h1 h2, show own_ushr (-2147483648 : Int32) (20 : Int32) = (2048 : Int32) from by decide]
  exact own_bit v _ 11 (by show ((2048 : Nat) : Int) ≤ _; omega) (by show _ < ((4096 : Nat) : Int); omega) (by decide)
theorem own_pw_11 (t : Int32) (h1 : 2049 ≤ t.toInt) (h2 : t.toInt ≤ 4096) : own_pw t = (4096 : Int32) := by
  have s := c_isub t (1 : Int32)
  have b := Int32.le_toInt (t - (1 : Int32))
  have b' := Int32.toInt_lt (t - (1 : Int32))
  simp only [Int32.reduceToInt] at s
  unfold own_pw
  rw [own_hob_11 (t - (1 : Int32)) (by omega) (by omega)]
  decide
theorem own_tailA_11 (t1 : Int32) (h1 : 2049 ≤ t1.toInt) (h2 : t1.toInt ≤ 3072) : own_tail t1 (3072 : Int32) = (1 : Int32) := by
  have c0 : ((0 : Int32) < (3072 : Int32)) := by decide
  have c1 : ¬ (((3072 : Int32) &&& ((3072 : Int32) - (1 : Int32))) = (0 : Int32)) := by decide
  have c2 : (((3072 : Int32) % (3 : Int32)) = (0 : Int32)) := by decide
  have c3 : ((((3072 : Int32) / (3 : Int32)) &&& (((3072 : Int32) / (3 : Int32)) - (1 : Int32))) = (0 : Int32)) := by decide
  have c4 : ¬ ((3072 : Int32) < t1) := own_nlt_of (by simp only [Int32.reduceToInt, Int32.reduceDiv, Int32.reduceMul]; omega)
  have c5 : (((2 : Int32) * ((3072 : Int32) / (3 : Int32))) < t1) := own_lt_of (by simp only [Int32.reduceToInt, Int32.reduceDiv, Int32.reduceMul]; omega)
  unfold own_tail
  rw [if_pos c0, if_neg c1, if_pos c2, if_pos c3, if_neg c4, if_pos c5]
theorem own_tailB_11 (t1 : Int32) (h1 : 3073 ≤ t1.toInt) (h2 : t1.toInt ≤ 4096) : own_tail t1 (4096 : Int32) = (1 : Int32) := by
  have c0 : ((0 : Int32) < (4096 : Int32)) := by decide
  have c1 : (((4096 : Int32) &&& ((4096 : Int32) - (1 : Int32))) = (0 : Int32)) := by decide
  have c2 : ¬ (((4096 : Int32) % (3 : Int32)) = (0 : Int32)) := by decide
  have c3 : ¬ ((4096 : Int32) < (4 : Int32)) := by decide
  have c4 : ¬ ((4096 : Int32) < t1) := own_nlt_of (by simp only [Int32.reduceToInt, Int32.reduceDiv, Int32.reduceMul]; omega)
  have c5 : (((3 : Int32) * ((4096 : Int32) / (4 : Int32))) < t1) := own_lt_of (by simp only [Int32.reduceToInt, Int32.reduceDiv, Int32.reduceMul]; omega)
  unfold own_tail
  rw [if_pos c0, if_pos c1, if_neg c2, if_neg c3, if_neg c4, if_pos c5]
theorem own_good_11 (t : Int32) (h1 : 2049 ≤ t.toInt) (h2 : t.toInt ≤ 4096) : own_tail t (own_tl t) = (1 : Int32) := by
  have g : own_tq t = (3072 : Int32) := by unfold own_tq; rw [own_pw_11 t h1 h2]; decide
  by_cases q : t.toInt ≤ 3072
  · have e : own_tl t = (3072 : Int32) := by
      unfold own_tl
      rw [if_pos (show (1 : Int32) < t from own_lt_of (by simp only [Int32.reduceToInt]; omega)), g, own_pw_11 t h1 h2, if_neg (show ¬ ((4096 : Int32) < (4 : Int32)) from by decide), if_neg (show ¬ ((3072 : Int32) < t) from own_nlt_of (by simp only [Int32.reduceToInt]; omega))]
    rw [e]
    exact own_tailA_11 t h1 q
  · have e : own_tl t = (4096 : Int32) := by
      unfold own_tl
      rw [if_pos (show (1 : Int32) < t from own_lt_of (by simp only [Int32.reduceToInt]; omega)), g, own_pw_11 t h1 h2, if_neg (show ¬ ((4096 : Int32) < (4 : Int32)) from by decide), if_pos (show (3072 : Int32) < t from own_lt_of (by simp only [Int32.reduceToInt]; omega))]
    rw [e]
    exact own_tailB_11 t (by omega) h2
theorem own_nlz_12 (p1 : Int32) (h1 : 4096 ≤ p1.toInt) (h2 : p1.toInt < 8192) : own_nlz p1 = (19 : Int32) := by
  have s0 := own_us p1 (8 : Int32) 8 (by decide) (by decide)
  have s1 := own_us (own_ushr p1 (8 : Int32)) (4 : Int32) 4 (by decide) (by decide)
  have s9 := own_us (own_ushr (own_ushr p1 (8 : Int32)) (4 : Int32)) (1 : Int32) 1 (by decide) (by decide)
  have e9 : (own_ushr (own_ushr (own_ushr p1 (8 : Int32)) (4 : Int32)) (1 : Int32)) = (0 : Int32) := Int32.toInt_inj.mp (by rw [s9]; simp only [Int32.reduceToInt]; omega)
  have c0 : ((0 : Int32) < p1) := own_lt_of (by simp only [Int32.reduceToInt]; omega)
  have c1 : (p1 < (65536 : Int32)) := own_lt_of (by simp only [Int32.reduceToInt]; omega)
  have c2 : ¬ (p1 < (256 : Int32)) := own_nlt_of (by simp only [Int32.reduceToInt]; omega)
  have c3 : ¬ ((own_ushr p1 (8 : Int32)) < (16 : Int32)) := own_nlt_of (by simp only [Int32.reduceToInt]; omega)
  have c4 : ((own_ushr (own_ushr p1 (8 : Int32)) (4 : Int32)) < (4 : Int32)) := own_lt_of (by simp only [Int32.reduceToInt]; omega)
  unfold own_nlz
  rw [if_pos c0, if_pos c1, if_neg c2, if_neg c3, if_pos c4, e9]
  decide
theorem own_hob_12 (v : Int32) (h1 : 4096 ≤ v.toInt) (h2 : v.toInt < 8192) : own_hob v = (4096 : Int32) := by
  unfold own_hob
  rw [own_nlz_12 v h1 h2, show own_ushr (-2147483648 : Int32) (19 : Int32) = (4096 : Int32) from by decide]
  exact own_bit v _ 12 (by show ((4096 : Nat) : Int) ≤ _; omega) (by show _ < ((8192 : Nat) : Int); omega) (by decide)
theorem own_pw_12 (t : Int32) (h1 : 4097 ≤ t.toInt) (h2 : t.toInt ≤ 8192) : own_pw t = (8192 : Int32) := by
  have s := c_isub t (1 : Int32)
  have b := Int32.le_toInt (t - (1 : Int32))
  have b' := Int32.toInt_lt (t - (1 : Int32))
  simp only [Int32.reduceToInt] at s
  unfold own_pw
  rw [own_hob_12 (t - (1 : Int32)) (by omega) (by omega)]
  decide
theorem own_tailA_12 (t1 : Int32) (h1 : 4097 ≤ t1.toInt) (h2 : t1.toInt ≤ 6144) : own_tail t1 (6144 : Int32) = (1 : Int32) := by
  have c0 : ((0 : Int32) < (6144 : Int32)) := by decide
  have c1 : ¬ (((6144 : Int32) &&& ((6144 : Int32) - (1 : Int32))) = (0 : Int32)) := by decide
  have c2 : (((6144 : Int32) % (3 : Int32)) = (0 : Int32)) := by decide
  have c3 : ((((6144 : Int32) / (3 : Int32)) &&& (((6144 : Int32) / (3 : Int32)) - (1 : Int32))) = (0 : Int32)) := by decide
  have c4 : ¬ ((6144 : Int32) < t1) := own_nlt_of (by simp only [Int32.reduceToInt, Int32.reduceDiv, Int32.reduceMul]; omega)
  have c5 : (((2 : Int32) * ((6144 : Int32) / (3 : Int32))) < t1) := own_lt_of (by simp only [Int32.reduceToInt, Int32.reduceDiv, Int32.reduceMul]; omega)
  unfold own_tail
  rw [if_pos c0, if_neg c1, if_pos c2, if_pos c3, if_neg c4, if_pos c5]
theorem own_tailB_12 (t1 : Int32) (h1 : 6145 ≤ t1.toInt) (h2 : t1.toInt ≤ 8192) : own_tail t1 (8192 : Int32) = (1 : Int32) := by
  have c0 : ((0 : Int32) < (8192 : Int32)) := by decide
  have c1 : (((8192 : Int32) &&& ((8192 : Int32) - (1 : Int32))) = (0 : Int32)) := by decide
  have c2 : ¬ (((8192 : Int32) % (3 : Int32)) = (0 : Int32)) := by decide
  have c3 : ¬ ((8192 : Int32) < (4 : Int32)) := by decide
  have c4 : ¬ ((8192 : Int32) < t1) := own_nlt_of (by simp only [Int32.reduceToInt, Int32.reduceDiv, Int32.reduceMul]; omega)
  have c5 : (((3 : Int32) * ((8192 : Int32) / (4 : Int32))) < t1) := own_lt_of (by simp only [Int32.reduceToInt, Int32.reduceDiv, Int32.reduceMul]; omega)
  unfold own_tail
  rw [if_pos c0, if_pos c1, if_neg c2, if_neg c3, if_neg c4, if_pos c5]
theorem own_good_12 (t : Int32) (h1 : 4097 ≤ t.toInt) (h2 : t.toInt ≤ 8192) : own_tail t (own_tl t) = (1 : Int32) := by
  have g : own_tq t = (6144 : Int32) := by unfold own_tq; rw [own_pw_12 t h1 h2]; decide
  by_cases q : t.toInt ≤ 6144
  · have e : own_tl t = (6144 : Int32) := by
      unfold own_tl
      rw [if_pos (show (1 : Int32) < t from own_lt_of (by simp only [Int32.reduceToInt]; omega)), g, own_pw_12 t h1 h2, if_neg (show ¬ ((8192 : Int32) < (4 : Int32)) from by decide), if_neg (show ¬ ((6144 : Int32) < t) from own_nlt_of (by simp only [Int32.reduceToInt]; omega))]
    rw [e]
    exact own_tailA_12 t h1 q
  · have e : own_tl t = (8192 : Int32) := by
      unfold own_tl
      rw [if_pos (show (1 : Int32) < t from own_lt_of (by simp only [Int32.reduceToInt]; omega)), g, own_pw_12 t h1 h2, if_neg (show ¬ ((8192 : Int32) < (4 : Int32)) from by decide), if_pos (show (6144 : Int32) < t from own_lt_of (by simp only [Int32.reduceToInt]; omega))]
    rw [e]
    exact own_tailB_12 t (by omega) h2
theorem own_nlz_13 (p1 : Int32) (h1 : 8192 ≤ p1.toInt) (h2 : p1.toInt < 16384) : own_nlz p1 = (18 : Int32) := by
  have s0 := own_us p1 (8 : Int32) 8 (by decide) (by decide)
  have s1 := own_us (own_ushr p1 (8 : Int32)) (4 : Int32) 4 (by decide) (by decide)
  have s9 := own_us (own_ushr (own_ushr p1 (8 : Int32)) (4 : Int32)) (1 : Int32) 1 (by decide) (by decide)
  have e9 : (own_ushr (own_ushr (own_ushr p1 (8 : Int32)) (4 : Int32)) (1 : Int32)) = (1 : Int32) := Int32.toInt_inj.mp (by rw [s9]; simp only [Int32.reduceToInt]; omega)
  have c0 : ((0 : Int32) < p1) := own_lt_of (by simp only [Int32.reduceToInt]; omega)
  have c1 : (p1 < (65536 : Int32)) := own_lt_of (by simp only [Int32.reduceToInt]; omega)
  have c2 : ¬ (p1 < (256 : Int32)) := own_nlt_of (by simp only [Int32.reduceToInt]; omega)
  have c3 : ¬ ((own_ushr p1 (8 : Int32)) < (16 : Int32)) := own_nlt_of (by simp only [Int32.reduceToInt]; omega)
  have c4 : ((own_ushr (own_ushr p1 (8 : Int32)) (4 : Int32)) < (4 : Int32)) := own_lt_of (by simp only [Int32.reduceToInt]; omega)
  unfold own_nlz
  rw [if_pos c0, if_pos c1, if_neg c2, if_neg c3, if_pos c4, e9]
  decide
theorem own_hob_13 (v : Int32) (h1 : 8192 ≤ v.toInt) (h2 : v.toInt < 16384) : own_hob v = (8192 : Int32) := by
  unfold own_hob
  rw [own_nlz_13 v h1 h2, show own_ushr (-2147483648 : Int32) (18 : Int32) = (8192 : Int32) from by decide]
  exact own_bit v _ 13 (by show ((8192 : Nat) : Int) ≤ _; omega) (by show _ < ((16384 : Nat) : Int); omega) (by decide)
theorem own_pw_13 (t : Int32) (h1 : 8193 ≤ t.toInt) (h2 : t.toInt ≤ 16384) : own_pw t = (16384 : Int32) := by
  have s := c_isub t (1 : Int32)
  have b := Int32.le_toInt (t - (1 : Int32))
  have b' := Int32.toInt_lt (t - (1 : Int32))
  simp only [Int32.reduceToInt] at s
  unfold own_pw
  rw [own_hob_13 (t - (1 : Int32)) (by omega) (by omega)]
  decide
theorem own_tailA_13 (t1 : Int32) (h1 : 8193 ≤ t1.toInt) (h2 : t1.toInt ≤ 12288) : own_tail t1 (12288 : Int32) = (1 : Int32) := by
  have c0 : ((0 : Int32) < (12288 : Int32)) := by decide
  have c1 : ¬ (((12288 : Int32) &&& ((12288 : Int32) - (1 : Int32))) = (0 : Int32)) := by decide
  have c2 : (((12288 : Int32) % (3 : Int32)) = (0 : Int32)) := by decide
  have c3 : ((((12288 : Int32) / (3 : Int32)) &&& (((12288 : Int32) / (3 : Int32)) - (1 : Int32))) = (0 : Int32)) := by decide
  have c4 : ¬ ((12288 : Int32) < t1) := own_nlt_of (by simp only [Int32.reduceToInt, Int32.reduceDiv, Int32.reduceMul]; omega)
  have c5 : (((2 : Int32) * ((12288 : Int32) / (3 : Int32))) < t1) := own_lt_of (by simp only [Int32.reduceToInt, Int32.reduceDiv, Int32.reduceMul]; omega)
  unfold own_tail
  rw [if_pos c0, if_neg c1, if_pos c2, if_pos c3, if_neg c4, if_pos c5]
theorem own_tailB_13 (t1 : Int32) (h1 : 12289 ≤ t1.toInt) (h2 : t1.toInt ≤ 16384) : own_tail t1 (16384 : Int32) = (1 : Int32) := by
  have c0 : ((0 : Int32) < (16384 : Int32)) := by decide
  have c1 : (((16384 : Int32) &&& ((16384 : Int32) - (1 : Int32))) = (0 : Int32)) := by decide
  have c2 : ¬ (((16384 : Int32) % (3 : Int32)) = (0 : Int32)) := by decide
  have c3 : ¬ ((16384 : Int32) < (4 : Int32)) := by decide
  have c4 : ¬ ((16384 : Int32) < t1) := own_nlt_of (by simp only [Int32.reduceToInt, Int32.reduceDiv, Int32.reduceMul]; omega)
  have c5 : (((3 : Int32) * ((16384 : Int32) / (4 : Int32))) < t1) := own_lt_of (by simp only [Int32.reduceToInt, Int32.reduceDiv, Int32.reduceMul]; omega)
  unfold own_tail
  rw [if_pos c0, if_pos c1, if_neg c2, if_neg c3, if_neg c4, if_pos c5]
theorem own_good_13 (t : Int32) (h1 : 8193 ≤ t.toInt) (h2 : t.toInt ≤ 16384) : own_tail t (own_tl t) = (1 : Int32) := by
  have g : own_tq t = (12288 : Int32) := by unfold own_tq; rw [own_pw_13 t h1 h2]; decide
  by_cases q : t.toInt ≤ 12288
  · have e : own_tl t = (12288 : Int32) := by
      unfold own_tl
      rw [if_pos (show (1 : Int32) < t from own_lt_of (by simp only [Int32.reduceToInt]; omega)), g, own_pw_13 t h1 h2, if_neg (show ¬ ((16384 : Int32) < (4 : Int32)) from by decide), if_neg (show ¬ ((12288 : Int32) < t) from own_nlt_of (by simp only [Int32.reduceToInt]; omega))]
    rw [e]
    exact own_tailA_13 t h1 q
  · have e : own_tl t = (16384 : Int32) := by
      unfold own_tl
      rw [if_pos (show (1 : Int32) < t from own_lt_of (by simp only [Int32.reduceToInt]; omega)), g, own_pw_13 t h1 h2, if_neg (show ¬ ((16384 : Int32) < (4 : Int32)) from by decide), if_pos (show (12288 : Int32) < t from own_lt_of (by simp only [Int32.reduceToInt]; omega))]
    rw [e]
    exact own_tailB_13 t (by omega) h2
theorem own_nlz_14 (p1 : Int32) (h1 : 16384 ≤ p1.toInt) (h2 : p1.toInt < 32768) : own_nlz p1 = (17 : Int32) := by
  have s0 := own_us p1 (8 : Int32) 8 (by decide) (by decide)
  have s1 := own_us (own_ushr p1 (8 : Int32)) (4 : Int32) 4 (by decide) (by decide)
  have s2 := own_us (own_ushr (own_ushr p1 (8 : Int32)) (4 : Int32)) (2 : Int32) 2 (by decide) (by decide)
  have s9 := own_us (own_ushr (own_ushr (own_ushr p1 (8 : Int32)) (4 : Int32)) (2 : Int32)) (1 : Int32) 1 (by decide) (by decide)
  have e9 : (own_ushr (own_ushr (own_ushr (own_ushr p1 (8 : Int32)) (4 : Int32)) (2 : Int32)) (1 : Int32)) = (0 : Int32) := Int32.toInt_inj.mp (by rw [s9]; simp only [Int32.reduceToInt]; omega)
  have c0 : ((0 : Int32) < p1) := own_lt_of (by simp only [Int32.reduceToInt]; omega)
  have c1 : (p1 < (65536 : Int32)) := own_lt_of (by simp only [Int32.reduceToInt]; omega)
  have c2 : ¬ (p1 < (256 : Int32)) := own_nlt_of (by simp only [Int32.reduceToInt]; omega)
  have c3 : ¬ ((own_ushr p1 (8 : Int32)) < (16 : Int32)) := own_nlt_of (by simp only [Int32.reduceToInt]; omega)
  have c4 : ¬ ((own_ushr (own_ushr p1 (8 : Int32)) (4 : Int32)) < (4 : Int32)) := own_nlt_of (by simp only [Int32.reduceToInt]; omega)
  unfold own_nlz
  rw [if_pos c0, if_pos c1, if_neg c2, if_neg c3, if_neg c4, e9]
  decide
theorem own_hob_14 (v : Int32) (h1 : 16384 ≤ v.toInt) (h2 : v.toInt < 32768) : own_hob v = (16384 : Int32) := by
  unfold own_hob
  rw [own_nlz_14 v h1 h2, show own_ushr (-2147483648 : Int32) (17 : Int32) = (16384 : Int32) from by decide]
  exact own_bit v _ 14 (by show ((16384 : Nat) : Int) ≤ _; omega) (by show _ < ((32768 : Nat) : Int); omega) (by decide)
theorem own_pw_14 (t : Int32) (h1 : 16385 ≤ t.toInt) (h2 : t.toInt ≤ 32768) : own_pw t = (32768 : Int32) := by
  have s := c_isub t (1 : Int32)
  have b := Int32.le_toInt (t - (1 : Int32))
  have b' := Int32.toInt_lt (t - (1 : Int32))
  simp only [Int32.reduceToInt] at s
  unfold own_pw
  rw [own_hob_14 (t - (1 : Int32)) (by omega) (by omega)]
  decide
theorem own_tailA_14 (t1 : Int32) (h1 : 16385 ≤ t1.toInt) (h2 : t1.toInt ≤ 24576) : own_tail t1 (24576 : Int32) = (1 : Int32) := by
  have c0 : ((0 : Int32) < (24576 : Int32)) := by decide
  have c1 : ¬ (((24576 : Int32) &&& ((24576 : Int32) - (1 : Int32))) = (0 : Int32)) := by decide
  have c2 : (((24576 : Int32) % (3 : Int32)) = (0 : Int32)) := by decide
  have c3 : ((((24576 : Int32) / (3 : Int32)) &&& (((24576 : Int32) / (3 : Int32)) - (1 : Int32))) = (0 : Int32)) := by decide
  have c4 : ¬ ((24576 : Int32) < t1) := own_nlt_of (by simp only [Int32.reduceToInt, Int32.reduceDiv, Int32.reduceMul]; omega)
  have c5 : (((2 : Int32) * ((24576 : Int32) / (3 : Int32))) < t1) := own_lt_of (by simp only [Int32.reduceToInt, Int32.reduceDiv, Int32.reduceMul]; omega)
  unfold own_tail
  rw [if_pos c0, if_neg c1, if_pos c2, if_pos c3, if_neg c4, if_pos c5]
theorem own_tailB_14 (t1 : Int32) (h1 : 24577 ≤ t1.toInt) (h2 : t1.toInt ≤ 32768) : own_tail t1 (32768 : Int32) = (1 : Int32) := by
  have c0 : ((0 : Int32) < (32768 : Int32)) := by decide
  have c1 : (((32768 : Int32) &&& ((32768 : Int32) - (1 : Int32))) = (0 : Int32)) := by decide
  have c2 : ¬ (((32768 : Int32) % (3 : Int32)) = (0 : Int32)) := by decide
  have c3 : ¬ ((32768 : Int32) < (4 : Int32)) := by decide
  have c4 : ¬ ((32768 : Int32) < t1) := own_nlt_of (by simp only [Int32.reduceToInt, Int32.reduceDiv, Int32.reduceMul]; omega)
  have c5 : (((3 : Int32) * ((32768 : Int32) / (4 : Int32))) < t1) := own_lt_of (by simp only [Int32.reduceToInt, Int32.reduceDiv, Int32.reduceMul]; omega)
  unfold own_tail
  rw [if_pos c0, if_pos c1, if_neg c2, if_neg c3, if_neg c4, if_pos c5]
theorem own_good_14 (t : Int32) (h1 : 16385 ≤ t.toInt) (h2 : t.toInt ≤ 32768) : own_tail t (own_tl t) = (1 : Int32) := by
  have g : own_tq t = (24576 : Int32) := by unfold own_tq; rw [own_pw_14 t h1 h2]; decide
  by_cases q : t.toInt ≤ 24576
  · have e : own_tl t = (24576 : Int32) := by
      unfold own_tl
      rw [if_pos (show (1 : Int32) < t from own_lt_of (by simp only [Int32.reduceToInt]; omega)), g, own_pw_14 t h1 h2, if_neg (show ¬ ((32768 : Int32) < (4 : Int32)) from by decide), if_neg (show ¬ ((24576 : Int32) < t) from own_nlt_of (by simp only [Int32.reduceToInt]; omega))]
    rw [e]
    exact own_tailA_14 t h1 q
  · have e : own_tl t = (32768 : Int32) := by
      unfold own_tl
      rw [if_pos (show (1 : Int32) < t from own_lt_of (by simp only [Int32.reduceToInt]; omega)), g, own_pw_14 t h1 h2, if_neg (show ¬ ((32768 : Int32) < (4 : Int32)) from by decide), if_pos (show (24576 : Int32) < t from own_lt_of (by simp only [Int32.reduceToInt]; omega))]
    rw [e]
    exact own_tailB_14 t (by omega) h2
theorem own_nlz_15 (p1 : Int32) (h1 : 32768 ≤ p1.toInt) (h2 : p1.toInt < 65536) : own_nlz p1 = (16 : Int32) := by
  have s0 := own_us p1 (8 : Int32) 8 (by decide) (by decide)
  have s1 := own_us (own_ushr p1 (8 : Int32)) (4 : Int32) 4 (by decide) (by decide)
  have s2 := own_us (own_ushr (own_ushr p1 (8 : Int32)) (4 : Int32)) (2 : Int32) 2 (by decide) (by decide)
  have s9 := own_us (own_ushr (own_ushr (own_ushr p1 (8 : Int32)) (4 : Int32)) (2 : Int32)) (1 : Int32) 1 (by decide) (by decide)
  have e9 : (own_ushr (own_ushr (own_ushr (own_ushr p1 (8 : Int32)) (4 : Int32)) (2 : Int32)) (1 : Int32)) = (1 : Int32) := Int32.toInt_inj.mp (by rw [s9]; simp only [Int32.reduceToInt]; omega)
  have c0 : ((0 : Int32) < p1) := own_lt_of (by simp only [Int32.reduceToInt]; omega)
  have c1 : (p1 < (65536 : Int32)) := own_lt_of (by simp only [Int32.reduceToInt]; omega)
  have c2 : ¬ (p1 < (256 : Int32)) := own_nlt_of (by simp only [Int32.reduceToInt]; omega)
  have c3 : ¬ ((own_ushr p1 (8 : Int32)) < (16 : Int32)) := own_nlt_of (by simp only [Int32.reduceToInt]; omega)
  have c4 : ¬ ((own_ushr (own_ushr p1 (8 : Int32)) (4 : Int32)) < (4 : Int32)) := own_nlt_of (by simp only [Int32.reduceToInt]; omega)
  unfold own_nlz
  rw [if_pos c0, if_pos c1, if_neg c2, if_neg c3, if_neg c4, e9]
  decide
theorem own_hob_15 (v : Int32) (h1 : 32768 ≤ v.toInt) (h2 : v.toInt < 65536) : own_hob v = (32768 : Int32) := by
  unfold own_hob
  rw [own_nlz_15 v h1 h2, show own_ushr (-2147483648 : Int32) (16 : Int32) = (32768 : Int32) from by decide]
  exact own_bit v _ 15 (by show ((32768 : Nat) : Int) ≤ _; omega) (by show _ < ((65536 : Nat) : Int); omega) (by decide)
theorem own_pw_15 (t : Int32) (h1 : 32769 ≤ t.toInt) (h2 : t.toInt ≤ 65536) : own_pw t = (65536 : Int32) := by
  have s := c_isub t (1 : Int32)
  have b := Int32.le_toInt (t - (1 : Int32))
  have b' := Int32.toInt_lt (t - (1 : Int32))
  simp only [Int32.reduceToInt] at s
  unfold own_pw
  rw [own_hob_15 (t - (1 : Int32)) (by omega) (by omega)]
  decide
theorem own_tailA_15 (t1 : Int32) (h1 : 32769 ≤ t1.toInt) (h2 : t1.toInt ≤ 49152) : own_tail t1 (49152 : Int32) = (1 : Int32) := by
  have c0 : ((0 : Int32) < (49152 : Int32)) := by decide
  have c1 : ¬ (((49152 : Int32) &&& ((49152 : Int32) - (1 : Int32))) = (0 : Int32)) := by decide
  have c2 : (((49152 : Int32) % (3 : Int32)) = (0 : Int32)) := by decide
  have c3 : ((((49152 : Int32) / (3 : Int32)) &&& (((49152 : Int32) / (3 : Int32)) - (1 : Int32))) = (0 : Int32)) := by decide
  have c4 : ¬ ((49152 : Int32) < t1) := own_nlt_of (by simp only [Int32.reduceToInt, Int32.reduceDiv, Int32.reduceMul]; omega)
  have c5 : (((2 : Int32) * ((49152 : Int32) / (3 : Int32))) < t1) := own_lt_of (by simp only [Int32.reduceToInt, Int32.reduceDiv, Int32.reduceMul]; omega)
  unfold own_tail
  rw [if_pos c0, if_neg c1, if_pos c2, if_pos c3, if_neg c4, if_pos c5]
theorem own_tailB_15 (t1 : Int32) (h1 : 49153 ≤ t1.toInt) (h2 : t1.toInt ≤ 65536) : own_tail t1 (65536 : Int32) = (1 : Int32) := by
  have c0 : ((0 : Int32) < (65536 : Int32)) := by decide
  have c1 : (((65536 : Int32) &&& ((65536 : Int32) - (1 : Int32))) = (0 : Int32)) := by decide
  have c2 : ¬ (((65536 : Int32) % (3 : Int32)) = (0 : Int32)) := by decide
  have c3 : ¬ ((65536 : Int32) < (4 : Int32)) := by decide
  have c4 : ¬ ((65536 : Int32) < t1) := own_nlt_of (by simp only [Int32.reduceToInt, Int32.reduceDiv, Int32.reduceMul]; omega)
  have c5 : (((3 : Int32) * ((65536 : Int32) / (4 : Int32))) < t1) := own_lt_of (by simp only [Int32.reduceToInt, Int32.reduceDiv, Int32.reduceMul]; omega)
  unfold own_tail
  rw [if_pos c0, if_pos c1, if_neg c2, if_neg c3, if_neg c4, if_pos c5]
theorem own_good_15 (t : Int32) (h1 : 32769 ≤ t.toInt) (h2 : t.toInt ≤ 65536) : own_tail t (own_tl t) = (1 : Int32) := by
  have g : own_tq t = (49152 : Int32) := by unfold own_tq; rw [own_pw_15 t h1 h2]; decide
  by_cases q : t.toInt ≤ 49152
  · have e : own_tl t = (49152 : Int32) := by
      unfold own_tl
      rw [if_pos (show (1 : Int32) < t from own_lt_of (by simp only [Int32.reduceToInt]; omega)), g, own_pw_15 t h1 h2, if_neg (show ¬ ((65536 : Int32) < (4 : Int32)) from by decide), if_neg (show ¬ ((49152 : Int32) < t) from own_nlt_of (by simp only [Int32.reduceToInt]; omega))]
    rw [e]
    exact own_tailA_15 t h1 q
  · have e : own_tl t = (65536 : Int32) := by
      unfold own_tl
      rw [if_pos (show (1 : Int32) < t from own_lt_of (by simp only [Int32.reduceToInt]; omega)), g, own_pw_15 t h1 h2, if_neg (show ¬ ((65536 : Int32) < (4 : Int32)) from by decide), if_pos (show (49152 : Int32) < t from own_lt_of (by simp only [Int32.reduceToInt]; omega))]
    rw [e]
    exact own_tailB_15 t (by omega) h2
theorem own_nlz_16 (p1 : Int32) (h1 : 65536 ≤ p1.toInt) (h2 : p1.toInt < 131072) : own_nlz p1 = (15 : Int32) := by
  have s0 := own_us p1 (16 : Int32) 16 (by decide) (by decide)
  have s9 := own_us (own_ushr p1 (16 : Int32)) (1 : Int32) 1 (by decide) (by decide)
  have e9 : (own_ushr (own_ushr p1 (16 : Int32)) (1 : Int32)) = (0 : Int32) := Int32.toInt_inj.mp (by rw [s9]; simp only [Int32.reduceToInt]; omega)
  have c0 : ((0 : Int32) < p1) := own_lt_of (by simp only [Int32.reduceToInt]; omega)
  have c1 : ¬ (p1 < (65536 : Int32)) := own_nlt_of (by simp only [Int32.reduceToInt]; omega)
  have c2 : ((own_ushr p1 (16 : Int32)) < (256 : Int32)) := own_lt_of (by simp only [Int32.reduceToInt]; omega)
  have c3 : ((own_ushr p1 (16 : Int32)) < (16 : Int32)) := own_lt_of (by simp only [Int32.reduceToInt]; omega)
  have c4 : ((own_ushr p1 (16 : Int32)) < (4 : Int32)) := own_lt_of (by simp only [Int32.reduceToInt]; omega)
  unfold own_nlz
  rw [if_pos c0, if_neg c1, if_pos c2, if_pos c3, if_pos c4, e9]
  decide
theorem own_hob_16 (v : Int32) (h1 : 65536 ≤ v.toInt) (h2 : v.toInt < 131072) : own_hob v = (65536 : Int32) := by
  unfold own_hob
  rw [own_nlz_16 v h1 h2, show own_ushr (-2147483648 : Int32) (15 : Int32) = (65536 : Int32) from by decide]
  exact own_bit v _ 16 (by show ((65536 : Nat) : Int) ≤ _; omega) (by show _ < ((131072 : Nat) : Int); omega) (by decide)
theorem own_pw_16 (t : Int32) (h1 : 65537 ≤ t.toInt) (h2 : t.toInt ≤ 131072) : own_pw t = (131072 : Int32) := by
  have s := c_isub t (1 : Int32)
  have b := Int32.le_toInt (t - (1 : Int32))
  have b' := Int32.toInt_lt (t - (1 : Int32))
  simp only [Int32.reduceToInt] at s
  unfold own_pw
  rw [own_hob_16 (t - (1 : Int32)) (by omega) (by omega)]
  decide
theorem own_tailA_16 (t1 : Int32) (h1 : 65537 ≤ t1.toInt) (h2 : t1.toInt ≤ 98304) : own_tail t1 (98304 : Int32) = (1 : Int32) := by
  have c0 : ((0 : Int32) < (98304 : Int32)) := by decide
  have c1 : ¬ (((98304 : Int32) &&& ((98304 : Int32) - (1 : Int32))) = (0 : Int32)) := by decide
  have c2 : (((98304 : Int32) % (3 : Int32)) = (0 : Int32)) := by decide
  have c3 : ((((98304 : Int32) / (3 : Int32)) &&& (((98304 : Int32) / (3 : Int32)) - (1 : Int32))) = (0 : Int32)) := by decide
  have c4 : ¬ ((98304 : Int32) < t1) := own_nlt_of (by simp only [Int32.reduceToInt, Int32.reduceDiv, Int32.reduceMul]; omega)
  have c5 : (((2 : Int32) * ((98304 : Int32) / (3 : Int32))) < t1) := own_lt_of (by simp only [Int32.reduceToInt, Int32.reduceDiv, Int32.reduceMul]; omega)
  unfold own_tail
  rw [if_pos c0, if_neg c1, if_pos c2, if_pos c3, if_neg c4, if_pos c5]
theorem own_tailB_16 (t1 : Int32) (h1 : 98305 ≤ t1.toInt) (h2 : t1.toInt ≤ 131072) : own_tail t1 (131072 : Int32) = (1 : Int32) := by
  have c0 : ((0 : Int32) < (131072 : Int32)) := by decide
  have c1 : (((131072 : Int32) &&& ((131072 : Int32) - (1 : Int32))) = (0 : Int32)) := by decide
  have c2 : ¬ (((131072 : Int32) % (3 : Int32)) = (0 : Int32)) := by decide
  have c3 : ¬ ((131072 : Int32) < (4 : Int32)) := by decide
  have c4 : ¬ ((131072 : Int32) < t1) := own_nlt_of (by simp only [Int32.reduceToInt, Int32.reduceDiv, Int32.reduceMul]; omega)
  have c5 : (((3 : Int32) * ((131072 : Int32) / (4 : Int32))) < t1) := own_lt_of (by simp only [Int32.reduceToInt, Int32.reduceDiv, Int32.reduceMul]; omega)
  unfold own_tail
  rw [if_pos c0, if_pos c1, if_neg c2, if_neg c3, if_neg c4, if_pos c5]
theorem own_good_16 (t : Int32) (h1 : 65537 ≤ t.toInt) (h2 : t.toInt ≤ 131072) : own_tail t (own_tl t) = (1 : Int32) := by
  have g : own_tq t = (98304 : Int32) := by unfold own_tq; rw [own_pw_16 t h1 h2]; decide
  by_cases q : t.toInt ≤ 98304
  · have e : own_tl t = (98304 : Int32) := by
      unfold own_tl
      rw [if_pos (show (1 : Int32) < t from own_lt_of (by simp only [Int32.reduceToInt]; omega)), g, own_pw_16 t h1 h2, if_neg (show ¬ ((131072 : Int32) < (4 : Int32)) from by decide), if_neg (show ¬ ((98304 : Int32) < t) from own_nlt_of (by simp only [Int32.reduceToInt]; omega))]
    rw [e]
    exact own_tailA_16 t h1 q
  · have e : own_tl t = (131072 : Int32) := by
      unfold own_tl
      rw [if_pos (show (1 : Int32) < t from own_lt_of (by simp only [Int32.reduceToInt]; omega)), g, own_pw_16 t h1 h2, if_neg (show ¬ ((131072 : Int32) < (4 : Int32)) from by decide), if_pos (show (98304 : Int32) < t from own_lt_of (by simp only [Int32.reduceToInt]; omega))]
    rw [e]
    exact own_tailB_16 t (by omega) h2
theorem own_nlz_17 (p1 : Int32) (h1 : 131072 ≤ p1.toInt) (h2 : p1.toInt < 262144) : own_nlz p1 = (14 : Int32) := by
  have s0 := own_us p1 (16 : Int32) 16 (by decide) (by decide)
  have s9 := own_us (own_ushr p1 (16 : Int32)) (1 : Int32) 1 (by decide) (by decide)
  have e9 : (own_ushr (own_ushr p1 (16 : Int32)) (1 : Int32)) = (1 : Int32) := Int32.toInt_inj.mp (by rw [s9]; simp only [Int32.reduceToInt]; omega)
  have c0 : ((0 : Int32) < p1) := own_lt_of (by simp only [Int32.reduceToInt]; omega)
  have c1 : ¬ (p1 < (65536 : Int32)) := own_nlt_of (by simp only [Int32.reduceToInt]; omega)
  have c2 : ((own_ushr p1 (16 : Int32)) < (256 : Int32)) := own_lt_of (by simp only [Int32.reduceToInt]; omega)
  have c3 : ((own_ushr p1 (16 : Int32)) < (16 : Int32)) := own_lt_of (by simp only [Int32.reduceToInt]; omega)
  have c4 : ((own_ushr p1 (16 : Int32)) < (4 : Int32)) := own_lt_of (by simp only [Int32.reduceToInt]; omega)
  unfold own_nlz
  rw [if_pos c0, if_neg c1, if_pos c2, if_pos c3, if_pos c4, e9]
  decide
theorem own_hob_17 (v : Int32) (h1 : 131072 ≤ v.toInt) (h2 : v.toInt < 262144) : own_hob v = (131072 : Int32) := by
  unfold own_hob
  rw [own_nlz_17 v h1 h2, show own_ushr (-2147483648 : Int32) (14 : Int32) = (131072 : Int32) from by decide]
  exact own_bit v _ 17 (by show ((131072 : Nat) : Int) ≤ _; omega) (by show _ < ((262144 : Nat) : Int); omega) (by decide)
theorem own_pw_17 (t : Int32) (h1 : 131073 ≤ t.toInt) (h2 : t.toInt ≤ 262144) : own_pw t = (262144 : Int32) := by
  have s := c_isub t (1 : Int32)
  have b := Int32.le_toInt (t - (1 : Int32))
  have b' := Int32.toInt_lt (t - (1 : Int32))
  simp only [Int32.reduceToInt] at s
  unfold own_pw
  rw [own_hob_17 (t - (1 : Int32)) (by omega) (by omega)]
  decide
theorem own_tailA_17 (t1 : Int32) (h1 : 131073 ≤ t1.toInt) (h2 : t1.toInt ≤ 196608) : own_tail t1 (196608 : Int32) = (1 : Int32) := by
  have c0 : ((0 : Int32) < (196608 : Int32)) := by decide
  have c1 : ¬ (((196608 : Int32) &&& ((196608 : Int32) - (1 : Int32))) = (0 : Int32)) := by decide
  have c2 : (((196608 : Int32) % (3 : Int32)) = (0 : Int32)) := by decide
  have c3 : ((((196608 : Int32) / (3 : Int32)) &&& (((196608 : Int32) / (3 : Int32)) - (1 : Int32))) = (0 : Int32)) := by decide
  have c4 : ¬ ((196608 : Int32) < t1) := own_nlt_of (by simp only [Int32.reduceToInt, Int32.reduceDiv, Int32.reduceMul]; omega)
  have c5 : (((2 : Int32) * ((196608 : Int32) / (3 : Int32))) < t1) := own_lt_of (by simp only [Int32.reduceToInt, Int32.reduceDiv, Int32.reduceMul]; omega)
  unfold own_tail
  rw [if_pos c0, if_neg c1, if_pos c2, if_pos c3, if_neg c4, if_pos c5]
theorem own_tailB_17 (t1 : Int32) (h1 : 196609 ≤ t1.toInt) (h2 : t1.toInt ≤ 262144) : own_tail t1 (262144 : Int32) = (1 : Int32) := by
  have c0 : ((0 : Int32) < (262144 : Int32)) := by decide
  have c1 : (((262144 : Int32) &&& ((262144 : Int32) - (1 : Int32))) = (0 : Int32)) := by decide
  have c2 : ¬ (((262144 : Int32) % (3 : Int32)) = (0 : Int32)) := by decide
  have c3 : ¬ ((262144 : Int32) < (4 : Int32)) := by decide
  have c4 : ¬ ((262144 : Int32) < t1) := own_nlt_of (by simp only [Int32.reduceToInt, Int32.reduceDiv, Int32.reduceMul]; omega)
  have c5 : (((3 : Int32) * ((262144 : Int32) / (4 : Int32))) < t1) := own_lt_of (by simp only [Int32.reduceToInt, Int32.reduceDiv, Int32.reduceMul]; omega)
  unfold own_tail
  rw [if_pos c0, if_pos c1, if_neg c2, if_neg c3, if_neg c4, if_pos c5]
theorem own_good_17 (t : Int32) (h1 : 131073 ≤ t.toInt) (h2 : t.toInt ≤ 262144) : own_tail t (own_tl t) = (1 : Int32) := by
  have g : own_tq t = (196608 : Int32) := by unfold own_tq; rw [own_pw_17 t h1 h2]; decide
  by_cases q : t.toInt ≤ 196608
  · have e : own_tl t = (196608 : Int32) := by
      unfold own_tl
      rw [if_pos (show (1 : Int32) < t from own_lt_of (by simp only [Int32.reduceToInt]; omega)), g, own_pw_17 t h1 h2, if_neg (show ¬ ((262144 : Int32) < (4 : Int32)) from by decide), if_neg (show ¬ ((196608 : Int32) < t) from own_nlt_of (by simp only [Int32.reduceToInt]; omega))]
    rw [e]
    exact own_tailA_17 t h1 q
  · have e : own_tl t = (262144 : Int32) := by
      unfold own_tl
      rw [if_pos (show (1 : Int32) < t from own_lt_of (by simp only [Int32.reduceToInt]; omega)), g, own_pw_17 t h1 h2, if_neg (show ¬ ((262144 : Int32) < (4 : Int32)) from by decide), if_pos (show (196608 : Int32) < t from own_lt_of (by simp only [Int32.reduceToInt]; omega))]
    rw [e]
    exact own_tailB_17 t (by omega) h2
theorem own_nlz_18 (p1 : Int32) (h1 : 262144 ≤ p1.toInt) (h2 : p1.toInt < 524288) : own_nlz p1 = (13 : Int32) := by
  have s0 := own_us p1 (16 : Int32) 16 (by decide) (by decide)
  have s1 := own_us (own_ushr p1 (16 : Int32)) (2 : Int32) 2 (by decide) (by decide)
  have s9 := own_us (own_ushr (own_ushr p1 (16 : Int32)) (2 : Int32)) (1 : Int32) 1 (by decide) (by decide)
  have e9 : (own_ushr (own_ushr (own_ushr p1 (16 : Int32)) (2 : Int32)) (1 : Int32)) = (0 : Int32) := Int32.toInt_inj.mp (by rw [s9]; simp only [Int32.reduceToInt]; omega)
  have c0 : ((0 : Int32) < p1) := own_lt_of (by simp only [Int32.reduceToInt]; omega)
  have c1 : ¬ (p1 < (65536 : Int32)) := own_nlt_of (by simp only [Int32.reduceToInt]; omega)
  have c2 : ((own_ushr p1 (16 : Int32)) < (256 : Int32)) := own_lt_of (by simp only [Int32.reduceToInt]; omega)
  have c3 : ((own_ushr p1 (16 : Int32)) < (16 : Int32)) := own_lt_of (by simp only [Int32.reduceToInt]; omega)
  have c4 : ¬ ((own_ushr p1 (16 : Int32)) < (4 : Int32)) := own_nlt_of (by simp only [Int32.reduceToInt]; omega)
  unfold own_nlz
  rw [if_pos c0, if_neg c1, if_pos c2, if_pos c3, if_neg c4, e9]
  decide
theorem own_hob_18 (v : Int32) (h1 : 262144 ≤ v.toInt) (h2 : v.toInt < 524288) : own_hob v = (262144 : Int32) := by
  unfold own_hob
  rw [own_nlz_18 v h1 h2, show own_ushr (-2147483648 : Int32) (13 : Int32) = (262144 : Int32) from by decide]
  exact own_bit v _ 18 (by show ((262144 : Nat) : Int) ≤ _; omega) (by show _ < ((524288 : Nat) : Int); omega) (by decide)
theorem own_pw_18 (t : Int32) (h1 : 262145 ≤ t.toInt) (h2 : t.toInt ≤ 524288) : own_pw t = (524288 : Int32) := by
  have s := c_isub t (1 : Int32)
  have b := Int32.le_toInt (t - (1 : Int32))
  have b' := Int32.toInt_lt (t - (1 : Int32))
  simp only [Int32.reduceToInt] at s
  unfold own_pw
  rw [own_hob_18 (t - (1 : Int32)) (by omega) (by omega)]
  decide
theorem own_tailA_18 (t1 : Int32) (h1 : 262145 ≤ t1.toInt) (h2 : t1.toInt ≤ 393216) : own_tail t1 (393216 : Int32) = (1 : Int32) := by
  have c0 : ((0 : Int32) < (393216 : Int32)) := by decide
  have c1 : ¬ (((393216 : Int32) &&& ((393216 : Int32) - (1 : Int32))) = (0 : Int32)) := by decide
  have c2 : (((393216 : Int32) % (3 : Int32)) = (0 : Int32)) := by decide
  have c3 : ((((393216 : Int32) / (3 : Int32)) &&& (((393216 : Int32) / (3 : Int32)) - (1 : Int32))) = (0 : Int32)) := by decide
  have c4 : ¬ ((393216 : Int32) < t1) := own_nlt_of (by simp only [Int32.reduceToInt, Int32.reduceDiv, Int32.reduceMul]; omega)
  have c5 : (((2 : Int32) * ((393216 : Int32) / (3 : Int32))) < t1) := own_lt_of (by simp only [Int32.reduceToInt, Int32.reduceDiv, Int32.reduceMul]; omega)
  unfold own_tail
  rw [if_pos c0, if_neg c1, if_pos c2, if_pos c3, if_neg c4, if_pos c5]
theorem own_tailB_18 (t1 : Int32) (h1 : 393217 ≤ t1.toInt) (h2 : t1.toInt ≤ 524288) : own_tail t1 (524288 : Int32) = (1 : Int32) := by
  have c0 : ((0 : Int32) < (524288 : Int32)) := by decide
  have c1 : (((524288 : Int32) &&& ((524288 : Int32) - (1 : Int32))) = (0 : Int32)) := by decide
  have c2 : ¬ (((524288 : Int32) % (3 : Int32)) = (0 : Int32)) := by decide
  have c3 : ¬ ((524288 : Int32) < (4 : Int32)) := by decide
  have c4 : ¬ ((524288 : Int32) < t1) := own_nlt_of (by simp only [Int32.reduceToInt, Int32.reduceDiv, Int32.reduceMul]; omega)
  have c5 : (((3 : Int32) * ((524288 : Int32) / (4 : Int32))) < t1) := own_lt_of (by simp only [Int32.reduceToInt, Int32.reduceDiv, Int32.reduceMul]; omega)
  unfold own_tail
  rw [if_pos c0, if_pos c1, if_neg c2, if_neg c3, if_neg c4, if_pos c5]
theorem own_good_18 (t : Int32) (h1 : 262145 ≤ t.toInt) (h2 : t.toInt ≤ 524288) : own_tail t (own_tl t) = (1 : Int32) := by
  have g : own_tq t = (393216 : Int32) := by unfold own_tq; rw [own_pw_18 t h1 h2]; decide
  by_cases q : t.toInt ≤ 393216
  · have e : own_tl t = (393216 : Int32) := by
      unfold own_tl
      rw [if_pos (show (1 : Int32) < t from own_lt_of (by simp only [Int32.reduceToInt]; omega)), g, own_pw_18 t h1 h2, if_neg (show ¬ ((524288 : Int32) < (4 : Int32)) from by decide), if_neg (show ¬ ((393216 : Int32) < t) from own_nlt_of (by simp only [Int32.reduceToInt]; omega))]
    rw [e]
    exact own_tailA_18 t h1 q
  · have e : own_tl t = (524288 : Int32) := by
      unfold own_tl
      rw [if_pos (show (1 : Int32) < t from own_lt_of (by simp only [Int32.reduceToInt]; omega)), g, own_pw_18 t h1 h2, if_neg (show ¬ ((524288 : Int32) < (4 : Int32)) from by decide), if_pos (show (393216 : Int32) < t from own_lt_of (by simp only [Int32.reduceToInt]; omega))]
    rw [e]
    exact own_tailB_18 t (by omega) h2
theorem own_nlz_19 (p1 : Int32) (h1 : 524288 ≤ p1.toInt) (h2 : p1.toInt < 1048576) : own_nlz p1 = (12 : Int32) := by
  have s0 := own_us p1 (16 : Int32) 16 (by decide) (by decide)
  have s1 := own_us (own_ushr p1 (16 : Int32)) (2 : Int32) 2 (by decide) (by decide)
  have s9 := own_us (own_ushr (own_ushr p1 (16 : Int32)) (2 : Int32)) (1 : Int32) 1 (by decide) (by decide)
  have e9 : (own_ushr (own_ushr (own_ushr p1 (16 : Int32)) (2 : Int32)) (1 : Int32)) = (1 : Int32) := Int32.toInt_inj.mp (by rw [s9]; simp only [Int32.reduceToInt]; omega)
  have c0 : ((0 : Int32) < p1) := own_lt_of (by simp only [Int32.reduceToInt]; omega)
  have c1 : ¬ (p1 < (65536 : Int32)) := own_nlt_of (by simp only [Int32.reduceToInt]; omega)
  have c2 : ((own_ushr p1 (16 : Int32)) < (256 : Int32)) := own_lt_of (by simp only [Int32.reduceToInt]; omega)
  have c3 : ((own_ushr p1 (16 : Int32)) < (16 : Int32)) := own_lt_of (by simp only [Int32.reduceToInt]; omega)
  have c4 : ¬ ((own_ushr p1 (16 : Int32)) < (4 : Int32)) := own_nlt_of (by simp only [Int32.reduceToInt]; omega)
  unfold own_nlz
  rw [if_pos c0, if_neg c1, if_pos c2, if_pos c3, if_neg c4, e9]
  decide
theorem own_hob_19 (v : Int32) (h1 : 524288 ≤ v.toInt) (h2 : v.toInt < 1048576) : own_hob v = (524288 : Int32) := by
  unfold own_hob
  rw [own_nlz_19 v h1 h2, show own_ushr (-2147483648 : Int32) (12 : Int32) = (524288 : Int32) from by decide]
  exact own_bit v _ 19 (by show ((524288 : Nat) : Int) ≤ _; omega) (by show _ < ((1048576 : Nat) : Int); omega) (by decide)
theorem own_pw_19 (t : Int32) (h1 : 524289 ≤ t.toInt) (h2 : t.toInt ≤ 1048576) : own_pw t = (1048576 : Int32) := by
  have s := c_isub t (1 : Int32)
  have b := Int32.le_toInt (t - (1 : Int32))
  have b' := Int32.toInt_lt (t - (1 : Int32))
  simp only [Int32.reduceToInt] at s
  unfold own_pw
  rw [own_hob_19 (t - (1 : Int32)) (by omega) (by omega)]
  decide
theorem own_tailA_19 (t1 : Int32) (h1 : 524289 ≤ t1.toInt) (h2 : t1.toInt ≤ 786432) : own_tail t1 (786432 : Int32) = (1 : Int32) := by
  have c0 : ((0 : Int32) < (786432 : Int32)) := by decide
  have c1 : ¬ (((786432 : Int32) &&& ((786432 : Int32) - (1 : Int32))) = (0 : Int32)) := by decide
  have c2 : (((786432 : Int32) % (3 : Int32)) = (0 : Int32)) := by decide
  have c3 : ((((786432 : Int32) / (3 : Int32)) &&& (((786432 : Int32) / (3 : Int32)) - (1 : Int32))) = (0 : Int32)) := by decide
  have c4 : ¬ ((786432 : Int32) < t1) := own_nlt_of (by simp only [Int32.reduceToInt, Int32.reduceDiv, Int32.reduceMul]; omega)
  have c5 : (((2 : Int32) * ((786432 : Int32) / (3 : Int32))) < t1) := own_lt_of (by simp only [Int32.reduceToInt, Int32.reduceDiv, Int32.reduceMul]; omega)
  unfold own_tail
  rw [if_pos c0, if_neg c1, if_pos c2, if_pos c3, if_neg c4, if_pos c5]
theorem own_tailB_19 (t1 : Int32) (h1 : 786433 ≤ t1.toInt) (h2 : t1.toInt ≤ 1048576) : own_tail t1 (1048576 : Int32) = (1 : Int32) := by
  have c0 : ((0 : Int32) < (1048576 : Int32)) := by decide
  have c1 : (((1048576 : Int32) &&& ((1048576 : Int32) - (1 : Int32))) = (0 : Int32)) := by decide
  have c2 : ¬ (((1048576 : Int32) % (3 : Int32)) = (0 : Int32)) := by decide
  have c3 : ¬ ((1048576 : Int32) < (4 : Int32)) := by decide
  have c4 : ¬ ((1048576 : Int32) < t1) := own_nlt_of (by simp only [Int32.reduceToInt, Int32.reduceDiv, Int32.reduceMul]; omega)
  have c5 : (((3 : Int32) * ((1048576 : Int32) / (4 : Int32))) < t1) := own_lt_of (by simp only [Int32.reduceToInt, Int32.reduceDiv, Int32.reduceMul]; omega)
  unfold own_tail
  rw [if_pos c0, if_pos c1, if_neg c2, if_neg c3, if_neg c4, if_pos c5]
theorem own_good_19 (t : Int32) (h1 : 524289 ≤ t.toInt) (h2 : t.toInt ≤ 1048576) : own_tail t (own_tl t) = (1 : Int32) := by
  have g : own_tq t = (786432 : Int32) := by unfold own_tq; rw [own_pw_19 t h1 h2]; decide
  by_cases q : t.toInt ≤ 786432
  · have e : own_tl t = (786432 : Int32) := by
      unfold own_tl
      rw [if_pos (show (1 : Int32) < t from own_lt_of (by simp only [Int32.reduceToInt]; omega)), g, own_pw_19 t h1 h2, if_neg (show ¬ ((1048576 : Int32) < (4 : Int32)) from by decide), if_neg (show ¬ ((786432 : Int32) < t) from own_nlt_of (by simp only [Int32.reduceToInt]; omega))]
    rw [e]
    exact own_tailA_19 t h1 q
  · have e : own_tl t = (1048576 : Int32) := by
      unfold own_tl
      rw [if_pos (show (1 : Int32) < t from own_lt_of (by simp only [Int32.reduceToInt]; omega)), g, own_pw_19 t h1 h2, if_neg (show ¬ ((1048576 : Int32) < (4 : Int32)) from by decide), if_pos (show (786432 : Int32) < t from own_lt_of (by simp only [Int32.reduceToInt]; omega))]
    rw [e]
    exact own_tailB_19 t (by omega) h2
theorem own_nlz_20 (p1 : Int32) (h1 : 1048576 ≤ p1.toInt) (h2 : p1.toInt < 2097152) : own_nlz p1 = (11 : Int32) := by
  have s0 := own_us p1 (16 : Int32) 16 (by decide) (by decide)
  have s1 := own_us (own_ushr p1 (16 : Int32)) (4 : Int32) 4 (by decide) (by decide)
  have s9 := own_us (own_ushr (own_ushr p1 (16 : Int32)) (4 : Int32)) (1 : Int32) 1 (by decide) (by decide)
  have e9 : (own_ushr (own_ushr (own_ushr p1 (16 : Int32)) (4 : Int32)) (1 : Int32)) = (0 : Int32) := Int32.toInt_inj.mp (by rw [s9]; simp only [Int32.reduceToInt]; omega)
  have c0 : ((0 : Int32) < p1) := own_lt_of (by simp only [Int32.reduceToInt]; omega)
  have c1 : ¬ (p1 < (65536 : Int32)) := own_nlt_of (by simp only [Int32.reduceToInt]; omega)
  have c2 : ((own_ushr p1 (16 : Int32)) < (256 : Int32)) := own_lt_of (by simp only [Int32.reduceToInt]; omega)
  have c3 : ¬ ((own_ushr p1 (16 : Int32)) < (16 : Int32)) := own_nlt_of (by simp only [Int32.reduceToInt]; omega)
  have c4 : ((own_ushr (own_ushr p1 (16 : Int32)) (4 : Int32)) < (4 : Int32)) := own_lt_of (by simp only [Int32.reduceToInt]; omega)
  unfold own_nlz
  rw [if_pos c0, if_neg c1, if_pos c2, if_neg c3, if_pos c4, e9]
  decide
theorem own_hob_20 (v : Int32) (h1 : 1048576 ≤ v.toInt) (h2 : v.toInt < 2097152) : own_hob v = (1048576 : Int32) := by
  unfold own_hob
  rw [own_nlz_20 v h1 h2, show own_ushr (-2147483648 : Int32) (11 : Int32) = (1048576 : Int32) from by decide]
  exact own_bit v _ 20 (by show ((1048576 : Nat) : Int) ≤ _; omega) (by show _ < ((2097152 : Nat) : Int); omega) (by decide)
theorem own_pw_20 (t : Int32) (h1 : 1048577 ≤ t.toInt) (h2 : t.toInt ≤ 2097152) : own_pw t = (2097152 : Int32) := by
  have s := c_isub t (1 : Int32)
  have b := Int32.le_toInt (t - (1 : Int32))
  have b' := Int32.toInt_lt (t - (1 : Int32))
  simp only [Int32.reduceToInt] at s
  unfold own_pw
  rw [own_hob_20 (t - (1 : Int32)) (by omega) (by omega)]
  decide
theorem own_tailA_20 (t1 : Int32) (h1 : 1048577 ≤ t1.toInt) (h2 : t1.toInt ≤ 1572864) : own_tail t1 (1572864 : Int32) = (1 : Int32) := by
  have c0 : ((0 : Int32) < (1572864 : Int32)) := by decide
  have c1 : ¬ (((1572864 : Int32) &&& ((1572864 : Int32) - (1 : Int32))) = (0 : Int32)) := by decide
  have c2 : (((1572864 : Int32) % (3 : Int32)) = (0 : Int32)) := by decide
  have c3 : ((((1572864 : Int32) / (3 : Int32)) &&& (((1572864 : Int32) / (3 : Int32)) - (1 : Int32))) = (0 : Int32)) := by decide
  have c4 : ¬ ((1572864 : Int32) < t1) := own_nlt_of (by simp only [Int32.reduceToInt, Int32.reduceDiv, Int32.reduceMul]; omega)
  have c5 : (((2 : Int32) * ((1572864 : Int32) / (3 : Int32))) < t1) := own_lt_of (by simp only [Int32.reduceToInt, Int32.reduceDiv, Int32.reduceMul]; omega)
  unfold own_tail
  rw [if_pos c0, if_neg c1, if_pos c2, if_pos c3, if_neg c4, if_pos c5]
theorem own_tailB_20 (t1 : Int32) (h1 : 1572865 ≤ t1.toInt) (h2 : t1.toInt ≤ 2097152) : own_tail t1 (2097152 : Int32) = (1 : Int32) := by
  have c0 : ((0 : Int32) < (2097152 : Int32)) := by decide
  have c1 : (((2097152 : Int32) &&& ((2097152 : Int32) - (1 : Int32))) = (0 : Int32)) := by decide
  have c2 : ¬ (((2097152 : Int32) % (3 : Int32)) = (0 : Int32)) := by decide
  have c3 : ¬ ((2097152 : Int32) < (4 : Int32)) := by decide
  have c4 : ¬ ((2097152 : Int32) < t1) := own_nlt_of (by simp only [Int32.reduceToInt, Int32.reduceDiv, Int32.reduceMul]; omega)
  have c5 : (((3 : Int32) * ((2097152 : Int32) / (4 : Int32))) < t1) := own_lt_of (by simp only [Int32.reduceToInt, Int32.reduceDiv, Int32.reduceMul]; omega)
  unfold own_tail
  rw [if_pos c0, if_pos c1, if_neg c2, if_neg c3, if_neg c4, if_pos c5]
theorem own_good_20 (t : Int32) (h1 : 1048577 ≤ t.toInt) (h2 : t.toInt ≤ 2097152) : own_tail t (own_tl t) = (1 : Int32) := by
  have g : own_tq t = (1572864 : Int32) := by unfold own_tq; rw [own_pw_20 t h1 h2]; decide
  by_cases q : t.toInt ≤ 1572864
  · have e : own_tl t = (1572864 : Int32) := by
      unfold own_tl
      rw [if_pos (show (1 : Int32) < t from own_lt_of (by simp only [Int32.reduceToInt]; omega)), g, own_pw_20 t h1 h2, if_neg (show ¬ ((2097152 : Int32) < (4 : Int32)) from by decide), if_neg (show ¬ ((1572864 : Int32) < t) from own_nlt_of (by simp only [Int32.reduceToInt]; omega))]
    rw [e]
    exact own_tailA_20 t h1 q
  · have e : own_tl t = (2097152 : Int32) := by
      unfold own_tl
      rw [if_pos (show (1 : Int32) < t from own_lt_of (by simp only [Int32.reduceToInt]; omega)), g, own_pw_20 t h1 h2, if_neg (show ¬ ((2097152 : Int32) < (4 : Int32)) from by decide), if_pos (show (1572864 : Int32) < t from own_lt_of (by simp only [Int32.reduceToInt]; omega))]
    rw [e]
    exact own_tailB_20 t (by omega) h2
theorem own_nlz_21 (p1 : Int32) (h1 : 2097152 ≤ p1.toInt) (h2 : p1.toInt < 4194304) : own_nlz p1 = (10 : Int32) := by
  have s0 := own_us p1 (16 : Int32) 16 (by decide) (by decide)
  have s1 := own_us (own_ushr p1 (16 : Int32)) (4 : Int32) 4 (by decide) (by decide)
  have s9 := own_us (own_ushr (own_ushr p1 (16 : Int32)) (4 : Int32)) (1 : Int32) 1 (by decide) (by decide)
  have e9 : (own_ushr (own_ushr (own_ushr p1 (16 : Int32)) (4 : Int32)) (1 : Int32)) = (1 : Int32) := Int32.toInt_inj.mp (by rw [s9]; simp only [Int32.reduceToInt]; omega)
  have c0 : ((0 : Int32) < p1) := own_lt_of (by simp only [Int32.reduceToInt]; omega)
  have c1 : ¬ (p1 < (65536 : Int32)) := own_nlt_of (by simp only [Int32.reduceToInt]; omega)
  have c2 : ((own_ushr p1 (16 : Int32)) < (256 : Int32)) := own_lt_of (by simp only [Int32.reduceToInt]; omega)
  have c3 : ¬ ((own_ushr p1 (16 : Int32)) < (16 : Int32)) := own_nlt_of (by simp only [Int32.reduceToInt]; omega)
  have c4 : ((own_ushr (own_ushr p1 (16 : Int32)) (4 : Int32)) < (4 : Int32)) := own_lt_of (by simp only [Int32.reduceToInt]; omega)
  unfold own_nlz
  rw [if_pos c0, if_neg c1, if_pos c2, if_neg c3, if_pos c4, e9]
  decide
theorem own_hob_21 (v : Int32) (h1 : 2097152 ≤ v.toInt) (h2 : v.toInt < 4194304) : own_hob v = (2097152 : Int32) := by
  unfold own_hob
  rw [own_nlz_21 v h1 h2, show own_ushr (-2147483648 : Int32) (10 : Int32) = (2097152 : Int32) from by decide]
  exact own_bit v _ 21 (by show ((2097152 : Nat) : Int) ≤ _; omega) (by show _ < ((4194304 : Nat) : Int); omega) (by decide)
theorem own_pw_21 (t : Int32) (h1 : 2097153 ≤ t.toInt) (h2 : t.toInt ≤ 4194304) : own_pw t = (4194304 : Int32) := by
  have s := c_isub t (1 : Int32)
  have b := Int32.le_toInt (t - (1 : Int32))
  have b' := Int32.toInt_lt (t - (1 : Int32))
  simp only [Int32.reduceToInt] at s
  unfold own_pw
  rw [own_hob_21 (t - (1 : Int32)) (by omega) (by omega)]
  decide
theorem own_tailA_21 (t1 : Int32) (h1 : 2097153 ≤ t1.toInt) (h2 : t1.toInt ≤ 3145728) : own_tail t1 (3145728 : Int32) = (1 : Int32) := by
  have c0 : ((0 : Int32) < (3145728 : Int32)) := by decide
  have c1 : ¬ (((3145728 : Int32) &&& ((3145728 : Int32) - (1 : Int32))) = (0 : Int32)) := by decide
  have c2 : (((3145728 : Int32) % (3 : Int32)) = (0 : Int32)) := by decide
  have c3 : ((((3145728 : Int32) / (3 : Int32)) &&& (((3145728 : Int32) / (3 : Int32)) - (1 : Int32))) = (0 : Int32)) := by decide
  have c4 : ¬ ((3145728 : Int32) < t1) := own_nlt_of (by simp only [Int32.reduceToInt, Int32.reduceDiv, Int32.reduceMul]; omega)
  have c5 : (((2 : Int32) * ((3145728 : Int32) / (3 : Int32))) < t1) := own_lt_of (by simp only [Int32.reduceToInt, Int32.reduceDiv, Int32.reduceMul]; omega)
  unfold own_tail
  rw [if_pos c0, if_neg c1, if_pos c2, if_pos c3, if_neg c4, if_pos c5]
theorem own_tailB_21 (t1 : Int32) (h1 : 3145729 ≤ t1.toInt) (h2 : t1.toInt ≤ 4194304) : own_tail t1 (4194304 : Int32) = (1 : Int32) := by
  have c0 : ((0 : Int32) < (4194304 : Int32)) := by decide
  have c1 : (((4194304 : Int32) &&& ((4194304 : Int32) - (1 : Int32))) = (0 : Int32)) := by decide
  have c2 : ¬ (((4194304 : Int32) % (3 : Int32)) = (0 : Int32)) := by decide
  have c3 : ¬ ((4194304 : Int32) < (4 : Int32)) := by decide
  have c4 : ¬ ((4194304 : Int32) < t1) := own_nlt_of (by simp only [Int32.reduceToInt, Int32.reduceDiv, Int32.reduceMul]; omega)
  have c5 : (((3 : Int32) * ((4194304 : Int32) / (4 : Int32))) < t1) := own_lt_of (by simp only [Int32.reduceToInt, Int32.reduceDiv, Int32.reduceMul]; omega)
  unfold own_tail
  rw [if_pos c0, if_pos c1, if_neg c2, if_neg c3, if_neg c4, if_pos c5]
theorem own_good_21 (t : Int32) (h1 : 2097153 ≤ t.toInt) (h2 : t.toInt ≤ 4194304) : own_tail t (own_tl t) = (1 : Int32) := by
  have g : own_tq t = (3145728 : Int32) := by unfold own_tq; rw [own_pw_21 t h1 h2]; decide
  by_cases q : t.toInt ≤ 3145728
  · have e : own_tl t = (3145728 : Int32) := by
      unfold own_tl
      rw [if_pos (show (1 : Int32) < t from own_lt_of (by simp only [Int32.reduceToInt]; omega)), g, own_pw_21 t h1 h2, if_neg (show ¬ ((4194304 : Int32) < (4 : Int32)) from by decide), if_neg (show ¬ ((3145728 : Int32) < t) from own_nlt_of (by simp only [Int32.reduceToInt]; omega))]
    rw [e]
    exact own_tailA_21 t h1 q
  · have e : own_tl t = (4194304 : Int32) := by
      unfold own_tl
      rw [if_pos (show (1 : Int32) < t from own_lt_of (by simp only [Int32.reduceToInt]; omega)), g, own_pw_21 t h1 h2, if_neg (show ¬ ((4194304 : Int32) < (4 : Int32)) from by decide), if_pos (show (3145728 : Int32) < t from own_lt_of (by simp only [Int32.reduceToInt]; omega))]
    rw [e]
    exact own_tailB_21 t (by omega) h2
theorem own_nlz_22 (p1 : Int32) (h1 : 4194304 ≤ p1.toInt) (h2 : p1.toInt < 8388608) : own_nlz p1 = (9 : Int32) := by
  have s0 := own_us p1 (16 : Int32) 16 (by decide) (by decide)
  have s1 := own_us (own_ushr p1 (16 : Int32)) (4 : Int32) 4 (by decide) (by decide)
  have s2 := own_us (own_ushr (own_ushr p1 (16 : Int32)) (4 : Int32)) (2 : Int32) 2 (by decide) (by decide)
  have s9 := own_us (own_ushr (own_ushr (own_ushr p1 (16 : Int32)) (4 : Int32)) (2 : Int32)) (1 : Int32) 1 (by decide) (by decide)
  have e9 : (own_ushr (own_ushr (own_ushr (own_ushr p1 (16 : Int32)) (4 : Int32)) (2 : Int32)) (1 : Int32)) = (0 : Int32) := Int32.toInt_inj.mp (by rw [s9]; simp only [Int32.reduceToInt]; omega)
  have c0 : ((0 : Int32) < p1) := own_lt_of (by simp only [Int32.reduceToInt]; omega)
  have c1 : ¬ (p1 < (65536 : Int32)) := own_nlt_of (by simp only [Int32.reduceToInt]; omega)
  have c2 : ((own_ushr p1 (16 : Int32)) < (256 : Int32)) := own_lt_of (by simp only [Int32.reduceToInt]; omega)
  have c3 : ¬ ((own_ushr p1 (16 : Int32)) < (16 : Int32)) := own_nlt_of (by simp only [Int32.reduceToInt]; omega)
  have c4 : ¬ ((own_ushr (own_ushr p1 (16 : Int32)) (4 : Int32)) < (4 : Int32)) := own_nlt_of (by simp only [Int32.reduceToInt]; omega)
  unfold own_nlz
  rw [if_pos c0, if_neg c1, if_pos c2, if_neg c3, if_neg c4, e9]
  decide
theorem own_hob_22 (v : Int32) (h1 : 4194304 ≤ v.toInt) (h2 : v.toInt < 8388608) : own_hob v = (4194304 : Int32) := by
  unfold own_hob
  rw [own_nlz_22 v h1 h2, show own_ushr (-2147483648 : Int32) (9 : Int32) = (4194304 : Int32) from by decide]
  exact own_bit v _ 22 (by show ((4194304 : Nat) : Int) ≤ _; omega) (by show _ < ((8388608 : Nat) : Int); omega) (by decide)
theorem own_pw_22 (t : Int32) (h1 : 4194305 ≤ t.toInt) (h2 : t.toInt ≤ 8388608) : own_pw t = (8388608 : Int32) := by
  have s := c_isub t (1 : Int32)
  have b := Int32.le_toInt (t - (1 : Int32))
  have b' := Int32.toInt_lt (t - (1 : Int32))
  simp only [Int32.reduceToInt] at s
  unfold own_pw
  rw [own_hob_22 (t - (1 : Int32)) (by omega) (by omega)]
  decide
theorem own_tailA_22 (t1 : Int32) (h1 : 4194305 ≤ t1.toInt) (h2 : t1.toInt ≤ 6291456) : own_tail t1 (6291456 : Int32) = (1 : Int32) := by
  have c0 : ((0 : Int32) < (6291456 : Int32)) := by decide
  have c1 : ¬ (((6291456 : Int32) &&& ((6291456 : Int32) - (1 : Int32))) = (0 : Int32)) := by decide
  have c2 : (((6291456 : Int32) % (3 : Int32)) = (0 : Int32)) := by decide
  have c3 : ((((6291456 : Int32) / (3 : Int32)) &&& (((6291456 : Int32) / (3 : Int32)) - (1 : Int32))) = (0 : Int32)) := by decide
  have c4 : ¬ ((6291456 : Int32) < t1) := own_nlt_of (by simp only [Int32.reduceToInt, Int32.reduceDiv, Int32.reduceMul]; omega)
  have c5 : (((2 : Int32) * ((6291456 : Int32) / (3 : Int32))) < t1) := own_lt_of (by simp only [Int32.reduceToInt, Int32.reduceDiv, Int32.reduceMul]; omega)
  unfold own_tail
  rw [if_pos c0, if_neg c1, if_pos c2, if_pos c3, if_neg c4, if_pos c5]
theorem own_tailB_22 (t1 : Int32) (h1 : 6291457 ≤ t1.toInt) (h2 : t1.toInt ≤ 8388608) : own_tail t1 (8388608 : Int32) = (1 : Int32) := by
  have c0 : ((0 : Int32) < (8388608 : Int32)) := by decide
  have c1 : (((8388608 : Int32) &&& ((8388608 : Int32) - (1 : Int32))) = (0 : Int32)) := by decide
  have c2 : ¬ (((8388608 : Int32) % (3 : Int32)) = (0 : Int32)) := by decide
  have c3 : ¬ ((8388608 : Int32) < (4 : Int32)) := by decide
  have c4 : ¬ ((8388608 : Int32) < t1) := own_nlt_of (by simp only [Int32.reduceToInt, Int32.reduceDiv, Int32.reduceMul]; omega)
  have c5 : (((3 : Int32) * ((8388608 : Int32) / (4 : Int32))) < t1) := own_lt_of (by simp only [Int32.reduceToInt, Int32.reduceDiv, Int32.reduceMul]; omega)
  unfold own_tail
  rw [if_pos c0, if_pos c1, if_neg c2, if_neg c3, if_neg c4, if_pos c5]
theorem own_good_22 (t : Int32) (h1 : 4194305 ≤ t.toInt) (h2 : t.toInt ≤ 8388608) : own_tail t (own_tl t) = (1 : Int32) := by
  have g : own_tq t = (6291456 : Int32) := by unfold own_tq; rw [own_pw_22 t h1 h2]; decide
  by_cases q : t.toInt ≤ 6291456
  · have e : own_tl t = (6291456 : Int32) := by
      unfold own_tl
      rw [if_pos (show (1 : Int32) < t from own_lt_of (by simp only [Int32.reduceToInt]; omega)), g, own_pw_22 t h1 h2, if_neg (show ¬ ((8388608 : Int32) < (4 : Int32)) from by decide), if_neg (show ¬ ((6291456 : Int32) < t) from own_nlt_of (by simp only [Int32.reduceToInt]; omega))]
    rw [e]
    exact own_tailA_22 t h1 q
  · have e : own_tl t = (8388608 : Int32) := by
      unfold own_tl
      rw [if_pos (show (1 : Int32) < t from own_lt_of (by simp only [Int32.reduceToInt]; omega)), g, own_pw_22 t h1 h2, if_neg (show ¬ ((8388608 : Int32) < (4 : Int32)) from by decide), if_pos (show (6291456 : Int32) < t from own_lt_of (by simp only [Int32.reduceToInt]; omega))]
    rw [e]
    exact own_tailB_22 t (by omega) h2
theorem own_nlz_23 (p1 : Int32) (h1 : 8388608 ≤ p1.toInt) (h2 : p1.toInt < 16777216) : own_nlz p1 = (8 : Int32) := by
  have s0 := own_us p1 (16 : Int32) 16 (by decide) (by decide)
  have s1 := own_us (own_ushr p1 (16 : Int32)) (4 : Int32) 4 (by decide) (by decide)
  have s2 := own_us (own_ushr (own_ushr p1 (16 : Int32)) (4 : Int32)) (2 : Int32) 2 (by decide) (by decide)
  have s9 := own_us (own_ushr (own_ushr (own_ushr p1 (16 : Int32)) (4 : Int32)) (2 : Int32)) (1 : Int32) 1 (by decide) (by decide)
  have e9 : (own_ushr (own_ushr (own_ushr (own_ushr p1 (16 : Int32)) (4 : Int32)) (2 : Int32)) (1 : Int32)) = (1 : Int32) := Int32.toInt_inj.mp (by rw [s9]; simp only [Int32.reduceToInt]; omega)
  have c0 : ((0 : Int32) < p1) := own_lt_of (by simp only [Int32.reduceToInt]; omega)
  have c1 : ¬ (p1 < (65536 : Int32)) := own_nlt_of (by simp only [Int32.reduceToInt]; omega)
  have c2 : ((own_ushr p1 (16 : Int32)) < (256 : Int32)) := own_lt_of (by simp only [Int32.reduceToInt]; omega)
  have c3 : ¬ ((own_ushr p1 (16 : Int32)) < (16 : Int32)) := own_nlt_of (by simp only [Int32.reduceToInt]; omega)
  have c4 : ¬ ((own_ushr (own_ushr p1 (16 : Int32)) (4 : Int32)) < (4 : Int32)) := own_nlt_of (by simp only [Int32.reduceToInt]; omega)
  unfold own_nlz
  rw [if_pos c0, if_neg c1, if_pos c2, if_neg c3, if_neg c4, e9]
  decide
theorem own_hob_23 (v : Int32) (h1 : 8388608 ≤ v.toInt) (h2 : v.toInt < 16777216) : own_hob v = (8388608 : Int32) := by
  unfold own_hob
  rw [own_nlz_23 v h1 h2, show own_ushr (-2147483648 : Int32) (8 : Int32) = (8388608 : Int32) from by decide]
  exact own_bit v _ 23 (by show ((8388608 : Nat) : Int) ≤ _; omega) (by show _ < ((16777216 : Nat) : Int); omega) (by decide)
theorem own_pw_23 (t : Int32) (h1 : 8388609 ≤ t.toInt) (h2 : t.toInt ≤ 16777216) : own_pw t = (16777216 : Int32) := by
  have s := c_isub t (1 : Int32)
  have b := Int32.le_toInt (t - (1 : Int32))
  have b' := Int32.toInt_lt (t - (1 : Int32))
  simp only [Int32.reduceToInt] at s
  unfold own_pw
  rw [own_hob_23 (t - (1 : Int32)) (by omega) (by omega)]
  decide
theorem own_tailA_23 (t1 : Int32) (h1 : 8388609 ≤ t1.toInt) (h2 : t1.toInt ≤ 12582912) : own_tail t1 (12582912 : Int32) = (1 : Int32) := by
  have c0 : ((0 : Int32) < (12582912 : Int32)) := by decide
  have c1 : ¬ (((12582912 : Int32) &&& ((12582912 : Int32) - (1 : Int32))) = (0 : Int32)) := by decide
  have c2 : (((12582912 : Int32) % (3 : Int32)) = (0 : Int32)) := by decide
  have c3 : ((((12582912 : Int32) / (3 : Int32)) &&& (((12582912 : Int32) / (3 : Int32)) - (1 : Int32))) = (0 : Int32)) := by decide
  have c4 : ¬ ((12582912 : Int32) < t1) := own_nlt_of (by simp only [Int32.reduceToInt, Int32.reduceDiv, Int32.reduceMul]; omega)
  have c5 : (((2 : Int32) * ((12582912 : Int32) / (3 : Int32))) < t1) := own_lt_of (by simp only [Int32.reduceToInt, Int32.reduceDiv, Int32.reduceMul]; omega)
  unfold own_tail
  rw [if_pos c0, if_neg c1, if_pos c2, if_pos c3, if_neg c4, if_pos c5]
theorem own_tailB_23 (t1 : Int32) (h1 : 12582913 ≤ t1.toInt) (h2 : t1.toInt ≤ 16777216) : own_tail t1 (16777216 : Int32) = (1 : Int32) := by
  have c0 : ((0 : Int32) < (16777216 : Int32)) := by decide
  have c1 : (((16777216 : Int32) &&& ((16777216 : Int32) - (1 : Int32))) = (0 : Int32)) := by decide
  have c2 : ¬ (((16777216 : Int32) % (3 : Int32)) = (0 : Int32)) := by decide
  have c3 : ¬ ((16777216 : Int32) < (4 : Int32)) := by decide
  have c4 : ¬ ((16777216 : Int32) < t1) := own_nlt_of (by simp only [Int32.reduceToInt, Int32.reduceDiv, Int32.reduceMul]; omega)
  have c5 : (((3 : Int32) * ((16777216 : Int32) / (4 : Int32))) < t1) := own_lt_of (by simp only [Int32.reduceToInt, Int32.reduceDiv, Int32.reduceMul]; omega)
  unfold own_tail
  rw [if_pos c0, if_pos c1, if_neg c2, if_neg c3, if_neg c4, if_pos c5]
theorem own_good_23 (t : Int32) (h1 : 8388609 ≤ t.toInt) (h2 : t.toInt ≤ 16777216) : own_tail t (own_tl t) = (1 : Int32) := by
  have g : own_tq t = (12582912 : Int32) := by unfold own_tq; rw [own_pw_23 t h1 h2]; decide
  by_cases q : t.toInt ≤ 12582912
  · have e : own_tl t = (12582912 : Int32) := by
      unfold own_tl
      rw [if_pos (show (1 : Int32) < t from own_lt_of (by simp only [Int32.reduceToInt]; omega)), g, own_pw_23 t h1 h2, if_neg (show ¬ ((16777216 : Int32) < (4 : Int32)) from by decide), if_neg (show ¬ ((12582912 : Int32) < t) from own_nlt_of (by simp only [Int32.reduceToInt]; omega))]
    rw [e]
    exact own_tailA_23 t h1 q
  · have e : own_tl t = (16777216 : Int32) := by
      unfold own_tl
      rw [if_pos (show (1 : Int32) < t from own_lt_of (by simp only [Int32.reduceToInt]; omega)), g, own_pw_23 t h1 h2, if_neg (show ¬ ((16777216 : Int32) < (4 : Int32)) from by decide), if_pos (show (12582912 : Int32) < t from own_lt_of (by simp only [Int32.reduceToInt]; omega))]
    rw [e]
    exact own_tailB_23 t (by omega) h2
theorem own_nlz_24 (p1 : Int32) (h1 : 16777216 ≤ p1.toInt) (h2 : p1.toInt < 33554432) : own_nlz p1 = (7 : Int32) := by
  have s0 := own_us p1 (16 : Int32) 16 (by decide) (by decide)
  have s1 := own_us (own_ushr p1 (16 : Int32)) (8 : Int32) 8 (by decide) (by decide)
  have s9 := own_us (own_ushr (own_ushr p1 (16 : Int32)) (8 : Int32)) (1 : Int32) 1 (by decide) (by decide)
  have e9 : (own_ushr (own_ushr (own_ushr p1 (16 : Int32)) (8 : Int32)) (1 : Int32)) = (0 : Int32) := Int32.toInt_inj.mp (by rw [s9]; simp only [Int32.reduceToInt]; omega)
  have c0 : ((0 : Int32) < p1) := own_lt_of (by simp only [Int32.reduceToInt]; omega)
  have c1 : ¬ (p1 < (65536 : Int32)) := own_nlt_of (by simp only [Int32.reduceToInt]; omega)
  have c2 : ¬ ((own_ushr p1 (16 : Int32)) < (256 : Int32)) := own_nlt_of (by simp only [Int32.reduceToInt]; omega)
  have c3 : ((own_ushr (own_ushr p1 (16 : Int32)) (8 : Int32)) < (16 : Int32)) := own_lt_of (by simp only [Int32.reduceToInt]; omega)
  have c4 : ((own_ushr (own_ushr p1 (16 : Int32)) (8 : Int32)) < (4 : Int32)) := own_lt_of (by simp only [Int32.reduceToInt]; omega)
  unfold own_nlz
  rw [if_pos c0, if_neg c1, if_neg c2, if_pos c3, if_pos c4, e9]
  decide
theorem own_hob_24 (v : Int32) (h1 : 16777216 ≤ v.toInt) (h2 : v.toInt < 33554432) : own_hob v = (16777216 : Int32) := by
  unfold own_hob
  rw [own_nlz_24 v h1 h2, show own_ushr (-2147483648 : Int32) (7 : Int32) = (16777216 : Int32) from by decide]
  exact own_bit v _ 24 (by show ((16777216 : Nat) : Int) ≤ _; omega) (by show _ < ((33554432 : Nat) : Int); omega) (by decide)
theorem own_pw_24 (t : Int32) (h1 : 16777217 ≤ t.toInt) (h2 : t.toInt ≤ 33554432) : own_pw t = (33554432 : Int32) := by
  have s := c_isub t (1 : Int32)
  have b := Int32.le_toInt (t - (1 : Int32))
  have b' := Int32.toInt_lt (t - (1 : Int32))
  simp only [Int32.reduceToInt] at s
  unfold own_pw
  rw [own_hob_24 (t - (1 : Int32)) (by omega) (by omega)]
  decide
theorem own_tailA_24 (t1 : Int32) (h1 : 16777217 ≤ t1.toInt) (h2 : t1.toInt ≤ 25165824) : own_tail t1 (25165824 : Int32) = (1 : Int32) := by
  have c0 : ((0 : Int32) < (25165824 : Int32)) := by decide
  have c1 : ¬ (((25165824 : Int32) &&& ((25165824 : Int32) - (1 : Int32))) = (0 : Int32)) := by decide
  have c2 : (((25165824 : Int32) % (3 : Int32)) = (0 : Int32)) := by decide
  have c3 : ((((25165824 : Int32) / (3 : Int32)) &&& (((25165824 : Int32) / (3 : Int32)) - (1 : Int32))) = (0 : Int32)) := by decide
  have c4 : ¬ ((25165824 : Int32) < t1) := own_nlt_of (by simp only [Int32.reduceToInt, Int32.reduceDiv, Int32.reduceMul]; omega)
  have c5 : (((2 : Int32) * ((25165824 : Int32) / (3 : Int32))) < t1) := own_lt_of (by simp only [Int32.reduceToInt, Int32.reduceDiv, Int32.reduceMul]; omega)
  unfold own_tail
  rw [if_pos c0, if_neg c1, if_pos c2, if_pos c3, if_neg c4, if_pos c5]
theorem own_tailB_24 (t1 : Int32) (h1 : 25165825 ≤ t1.toInt) (h2 : t1.toInt ≤ 33554432) : own_tail t1 (33554432 : Int32) = (1 : Int32) := by
  have c0 : ((0 : Int32) < (33554432 : Int32)) := by decide
  have c1 : (((33554432 : Int32) &&& ((33554432 : Int32) - (1 : Int32))) = (0 : Int32)) := by decide
  have c2 : ¬ (((33554432 : Int32) % (3 : Int32)) = (0 : Int32)) := by decide
  have c3 : ¬ ((33554432 : Int32) < (4 : Int32)) := by decide
  have c4 : ¬ ((33554432 : Int32) < t1) := own_nlt_of (by simp only [Int32.reduceToInt, Int32.reduceDiv, Int32.reduceMul]; omega)
  have c5 : (((3 : Int32) * ((33554432 : Int32) / (4 : Int32))) < t1) := own_lt_of (by simp only [Int32.reduceToInt, Int32.reduceDiv, Int32.reduceMul]; omega)
  unfold own_tail
  rw [if_pos c0, if_pos c1, if_neg c2, if_neg c3, if_neg c4, if_pos c5]
theorem own_good_24 (t : Int32) (h1 : 16777217 ≤ t.toInt) (h2 : t.toInt ≤ 33554432) : own_tail t (own_tl t) = (1 : Int32) := by
  have g : own_tq t = (25165824 : Int32) := by unfold own_tq; rw [own_pw_24 t h1 h2]; decide
  by_cases q : t.toInt ≤ 25165824
  · have e : own_tl t = (25165824 : Int32) := by
      unfold own_tl
      rw [if_pos (show (1 : Int32) < t from own_lt_of (by simp only [Int32.reduceToInt]; omega)), g, own_pw_24 t h1 h2, if_neg (show ¬ ((33554432 : Int32) < (4 : Int32)) from by decide), if_neg (show ¬ ((25165824 : Int32) < t) from own_nlt_of (by simp only [Int32.reduceToInt]; omega))]
    rw [e]
    exact own_tailA_24 t h1 q
  · have e : own_tl t = (33554432 : Int32) := by
      unfold own_tl
      rw [if_pos (show (1 : Int32) < t from own_lt_of (by simp only [Int32.reduceToInt]; omega)), g, own_pw_24 t h1 h2, if_neg (show ¬ ((33554432 : Int32) < (4 : Int32)) from by decide), if_pos (show (25165824 : Int32) < t from own_lt_of (by simp only [Int32.reduceToInt]; omega))]
    rw [e]
    exact own_tailB_24 t (by omega) h2
theorem own_nlz_25 (p1 : Int32) (h1 : 33554432 ≤ p1.toInt) (h2 : p1.toInt < 67108864) : own_nlz p1 = (6 : Int32) := by
  have s0 := own_us p1 (16 : Int32) 16 (by decide) (by decide)
  have s1 := own_us (own_ushr p1 (16 : Int32)) (8 : Int32) 8 (by decide) (by decide)
  have s9 := own_us (own_ushr (own_ushr p1 (16 : Int32)) (8 : Int32)) (1 : Int32) 1 (by decide) (by decide)
  have e9 : (own_ushr (own_ushr (own_ushr p1 (16 : Int32)) (8 : Int32)) (1 : Int32)) = (1 : Int32) := Int32.toInt_inj.mp (by rw [s9]; simp only [Int32.reduceToInt]; omega)
  have c0 : ((0 : Int32) < p1) := own_lt_of (by simp only [Int32.reduceToInt]; omega)
  have c1 : ¬ (p1 < (65536 : Int32)) := own_nlt_of (by simp only [Int32.reduceToInt]; omega)
  have c2 : ¬ ((own_ushr p1 (16 : Int32)) < (256 : Int32)) := own_nlt_of (by simp only [Int32.reduceToInt]; omega)
  have c3 : ((own_ushr (own_ushr p1 (16 : Int32)) (8 : Int32)) < (16 : Int32)) := own_lt_of (by simp only [Int32.reduceToInt]; omega)
  have c4 : ((own_ushr (own_ushr p1 (16 : Int32)) (8 : Int32)) < (4 : Int32)) := own_lt_of (by simp only [Int32.reduceToInt]; omega)
  unfold own_nlz
  rw [if_pos c0, if_neg c1, if_neg c2, if_pos c3, if_pos c4, e9]
  decide
theorem own_hob_25 (v : Int32) (h1 : 33554432 ≤ v.toInt) (h2 : v.toInt < 67108864) : own_hob v = (33554432 : Int32) := by
  unfold own_hob
  rw [own_nlz_25 v h1 h2, show own_ushr (-2147483648 : Int32) (6 : Int32) = (33554432 : Int32) from by decide]
  exact own_bit v _ 25 (by show ((33554432 : Nat) : Int) ≤ _; omega) (by show _ < ((67108864 : Nat) : Int); omega) (by decide)
theorem own_pw_25 (t : Int32) (h1 : 33554433 ≤ t.toInt) (h2 : t.toInt ≤ 67108864) : own_pw t = (67108864 : Int32) := by
  have s := c_isub t (1 : Int32)
  have b := Int32.le_toInt (t - (1 : Int32))
  have b' := Int32.toInt_lt (t - (1 : Int32))
  simp only [Int32.reduceToInt] at s
  unfold own_pw
  rw [own_hob_25 (t - (1 : Int32)) (by omega) (by omega)]
  decide
theorem own_tailA_25 (t1 : Int32) (h1 : 33554433 ≤ t1.toInt) (h2 : t1.toInt ≤ 50331648) : own_tail t1 (50331648 : Int32) = (1 : Int32) := by
  have c0 : ((0 : Int32) < (50331648 : Int32)) := by decide
  have c1 : ¬ (((50331648 : Int32) &&& ((50331648 : Int32) - (1 : Int32))) = (0 : Int32)) := by decide
  have c2 : (((50331648 : Int32) % (3 : Int32)) = (0 : Int32)) := by decide
  have c3 : ((((50331648 : Int32) / (3 : Int32)) &&& (((50331648 : Int32) / (3 : Int32)) - (1 : Int32))) = (0 : Int32)) := by decide
  have c4 : ¬ ((50331648 : Int32) < t1) := own_nlt_of (by simp only [Int32.reduceToInt, Int32.reduceDiv, Int32.reduceMul]; omega)
  have c5 : (((2 : Int32) * ((50331648 : Int32) / (3 : Int32))) < t1) := own_lt_of (by simp only [Int32.reduceToInt, Int32.reduceDiv, Int32.reduceMul]; omega)
  unfold own_tail
  rw [if_pos c0, if_neg c1, if_pos c2, if_pos c3, if_neg c4, if_pos c5]
theorem own_tailB_25 (t1 : Int32) (h1 : 50331649 ≤ t1.toInt) (h2 : t1.toInt ≤ 67108864) : own_tail t1 (67108864 : Int32) = (1 : Int32) := by
  have c0 : ((0 : Int32) < (67108864 : Int32)) := by decide
  have c1 : (((67108864 : Int32) &&& ((67108864 : Int32) - (1 : Int32))) = (0 : Int32)) := by decide
  have c2 : ¬ (((67108864 : Int32) % (3 : Int32)) = (0 : Int32)) := by decide
  have c3 : ¬ ((67108864 : Int32) < (4 : Int32)) := by decide
  have c4 : ¬ ((67108864 : Int32) < t1) := own_nlt_of (by simp only [Int32.reduceToInt, Int32.reduceDiv, Int32.reduceMul]; omega)
  have c5 : (((3 : Int32) * ((67108864 : Int32) / (4 : Int32))) < t1) := own_lt_of (by simp only [Int32.reduceToInt, Int32.reduceDiv, Int32.reduceMul]; omega)
  unfold own_tail
  rw [if_pos c0, if_pos c1, if_neg c2, if_neg c3, if_neg c4, if_pos c5]
theorem own_good_25 (t : Int32) (h1 : 33554433 ≤ t.toInt) (h2 : t.toInt ≤ 67108864) : own_tail t (own_tl t) = (1 : Int32) := by
  have g : own_tq t = (50331648 : Int32) := by unfold own_tq; rw [own_pw_25 t h1 h2]; decide
  by_cases q : t.toInt ≤ 50331648
  · have e : own_tl t = (50331648 : Int32) := by
      unfold own_tl
      rw [if_pos (show (1 : Int32) < t from own_lt_of (by simp only [Int32.reduceToInt]; omega)), g, own_pw_25 t h1 h2, if_neg (show ¬ ((67108864 : Int32) < (4 : Int32)) from by decide), if_neg (show ¬ ((50331648 : Int32) < t) from own_nlt_of (by simp only [Int32.reduceToInt]; omega))]
    rw [e]
    exact own_tailA_25 t h1 q
  · have e : own_tl t = (67108864 : Int32) := by
      unfold own_tl
      rw [if_pos (show (1 : Int32) < t from own_lt_of (by simp only [Int32.reduceToInt]; omega)), g, own_pw_25 t h1 h2, if_neg (show ¬ ((67108864 : Int32) < (4 : Int32)) from by decide), if_pos (show (50331648 : Int32) < t from own_lt_of (by simp only [Int32.reduceToInt]; omega))]
    rw [e]
    exact own_tailB_25 t (by omega) h2
theorem own_nlz_26 (p1 : Int32) (h1 : 67108864 ≤ p1.toInt) (h2 : p1.toInt < 134217728) : own_nlz p1 = (5 : Int32) := by
  have s0 := own_us p1 (16 : Int32) 16 (by decide) (by decide)
  have s1 := own_us (own_ushr p1 (16 : Int32)) (8 : Int32) 8 (by decide) (by decide)
  have s2 := own_us (own_ushr (own_ushr p1 (16 : Int32)) (8 : Int32)) (2 : Int32) 2 (by decide) (by decide)
  have s9 := own_us (own_ushr (own_ushr (own_ushr p1 (16 : Int32)) (8 : Int32)) (2 : Int32)) (1 : Int32) 1 (by decide) (by decide)
  have e9 : (own_ushr (own_ushr (own_ushr (own_ushr p1 (16 : Int32)) (8 : Int32)) (2 : Int32)) (1 : Int32)) = (0 : Int32) := Int32.toInt_inj.mp (by rw [s9]; simp only [Int32.reduceToInt]; omega)
  have c0 : ((0 : Int32) < p1) := own_lt_of (by simp only [Int32.reduceToInt]; omega)
  have c1 : ¬ (p1 < (65536 : Int32)) := own_nlt_of (by simp only [Int32.reduceToInt]; omega)
  have c2 : ¬ ((own_ushr p1 (16 : Int32)) < (256 : Int32)) := own_nlt_of (by simp only [Int32.reduceToInt]; omega)
  have c3 : ((own_ushr (own_ushr p1 (16 : Int32)) (8 : Int32)) < (16 : Int32)) := own_lt_of (by simp only [Int32.reduceToInt]; omega)
  have c4 : ¬ ((own_ushr (own_ushr p1 (16 : Int32)) (8 : Int32)) < (4 : Int32)) := own_nlt_of (by simp only [Int32.reduceToInt]; omega)
  unfold own_nlz
  rw [if_pos c0, if_neg c1, if_neg c2, if_pos c3, if_neg c4, e9]
  decide
theorem own_hob_26 (v : Int32) (h1 : 67108864 ≤ v.toInt) (h2 : v.toInt < 134217728) : own_hob v = (67108864 : Int32) := by
  unfold own_hob
  rw [own_nlz_26 v h1 h2, show own_ushr (-2147483648 : Int32) (5 : Int32) = (67108864 : Int32) from by decide]
  exact own_bit v _ 26 (by show ((67108864 : Nat) : Int) ≤ _; omega) (by show _ < ((134217728 : Nat) : Int); omega) (by decide)
theorem own_pw_26 (t : Int32) (h1 : 67108865 ≤ t.toInt) (h2 : t.toInt ≤ 134217728) : own_pw t = (134217728 : Int32) := by
  have s := c_isub t (1 : Int32)
  have b := Int32.le_toInt (t - (1 : Int32))
  have b' := Int32.toInt_lt (t - (1 : Int32))
  simp only [Int32.reduceToInt] at s
  unfold own_pw
  rw [own_hob_26 (t - (1 : Int32)) (by omega) (by omega)]
  decide
theorem own_tailA_26 (t1 : Int32) (h1 : 67108865 ≤ t1.toInt) (h2 : t1.toInt ≤ 100663296) : own_tail t1 (100663296 : Int32) = (1 : Int32) := by
  have c0 : ((0 : Int32) < (100663296 : Int32)) := by decide
  have c1 : ¬ (((100663296 : Int32) &&& ((100663296 : Int32) - (1 : Int32))) = (0 : Int32)) := by decide
  have c2 : (((100663296 : Int32) % (3 : Int32)) = (0 : Int32)) := by decide
  have c3 : ((((100663296 : Int32) / (3 : Int32)) &&& (((100663296 : Int32) / (3 : Int32)) - (1 : Int32))) = (0 : Int32)) := by decide
  have c4 : ¬ ((100663296 : Int32) < t1) := own_nlt_of (by simp only [Int32.reduceToInt, Int32.reduceDiv, Int32.reduceMul]; omega)
  have c5 : (((2 : Int32) * ((100663296 : Int32) / (3 : Int32))) < t1) := own_lt_of (by simp only [Int32.reduceToInt, Int32.reduceDiv, Int32.reduceMul]; omega)
  unfold own_tail
  rw [if_pos c0, if_neg c1, if_pos c2, if_pos c3, if_neg c4, if_pos c5]
theorem own_tailB_26 (t1 : Int32) (h1 : 100663297 ≤ t1.toInt) (h2 : t1.toInt ≤ 134217728) : own_tail t1 (134217728 : Int32) = (1 : Int32) := by
  have c0 : ((0 : Int32) < (134217728 : Int32)) := by decide
  have c1 : (((134217728 : Int32) &&& ((134217728 : Int32) - (1 : Int32))) = (0 : Int32)) := by decide
  have c2 : ¬ (((134217728 : Int32) % (3 : Int32)) = (0 : Int32)) := by decide
  have c3 : ¬ ((134217728 : Int32) < (4 : Int32)) := by decide
  have c4 : ¬ ((134217728 : Int32) < t1) := own_nlt_of (by simp only [Int32.reduceToInt, Int32.reduceDiv, Int32.reduceMul]; omega)
  have c5 : (((3 : Int32) * ((134217728 : Int32) / (4 : Int32))) < t1) := own_lt_of (by simp only [Int32.reduceToInt, Int32.reduceDiv, Int32.reduceMul]; omega)
  unfold own_tail
  rw [if_pos c0, if_pos c1, if_neg c2, if_neg c3, if_neg c4, if_pos c5]
theorem own_good_26 (t : Int32) (h1 : 67108865 ≤ t.toInt) (h2 : t.toInt ≤ 134217728) : own_tail t (own_tl t) = (1 : Int32) := by
  have g : own_tq t = (100663296 : Int32) := by unfold own_tq; rw [own_pw_26 t h1 h2]; decide
  by_cases q : t.toInt ≤ 100663296
  · have e : own_tl t = (100663296 : Int32) := by
      unfold own_tl
      rw [if_pos (show (1 : Int32) < t from own_lt_of (by simp only [Int32.reduceToInt]; omega)), g, own_pw_26 t h1 h2, if_neg (show ¬ ((134217728 : Int32) < (4 : Int32)) from by decide), if_neg (show ¬ ((100663296 : Int32) < t) from own_nlt_of (by simp only [Int32.reduceToInt]; omega))]
    rw [e]
    exact own_tailA_26 t h1 q
  · have e : own_tl t = (134217728 : Int32) := by
      unfold own_tl
      rw [if_pos (show (1 : Int32) < t from own_lt_of (by simp only [Int32.reduceToInt]; omega)), g, own_pw_26 t h1 h2, if_neg (show ¬ ((134217728 : Int32) < (4 : Int32)) from by decide), if_pos (show (100663296 : Int32) < t from own_lt_of (by simp only [Int32.reduceToInt]; omega))]
    rw [e]
    exact own_tailB_26 t (by omega) h2
theorem own_nlz_27 (p1 : Int32) (h1 : 134217728 ≤ p1.toInt) (h2 : p1.toInt < 268435456) : own_nlz p1 = (4 : Int32) := by
  have s0 := own_us p1 (16 : Int32) 16 (by decide) (by decide)
  have s1 := own_us (own_ushr p1 (16 : Int32)) (8 : Int32) 8 (by decide) (by decide)
  have s2 := own_us (own_ushr (own_ushr p1 (16 : Int32)) (8 : Int32)) (2 : Int32) 2 (by decide) (by decide)
  have s9 := own_us (own_ushr (own_ushr (own_ushr p1 (16 : Int32)) (8 : Int32)) (2 : Int32)) (1 : Int32) 1 (by decide) (by decide)
  have e9 : (own_ushr (own_ushr (own_ushr (own_ushr p1 (16 : Int32)) (8 : Int32)) (2 : Int32)) (1 : Int32)) = (1 : Int32) := Int32.toInt_inj.mp (by rw [s9]; simp only [Int32.reduceToInt]; omega)
  have c0 : ((0 : Int32) < p1) := own_lt_of (by simp only [Int32.reduceToInt]; omega)
  have c1 : ¬ (p1 < (65536 : Int32)) := own_nlt_of (by simp only [Int32.reduceToInt]; omega)
  have c2 : ¬ ((own_ushr p1 (16 : Int32)) < (256 : Int32)) := own_nlt_of (by simp only [Int32.reduceToInt]; omega)
  have c3 : ((own_ushr (own_ushr p1 (16 : Int32)) (8 : Int32)) < (16 : Int32)) := own_lt_of (by simp only [Int32.reduceToInt]; omega)
  have c4 : ¬ ((own_ushr (own_ushr p1 (16 : Int32)) (8 : Int32)) < (4 : Int32)) := own_nlt_of (by simp only [Int32.reduceToInt]; omega)
  unfold own_nlz
  rw [if_pos c0, if_neg c1, if_neg c2, if_pos c3, if_neg c4, e9]
  decide
theorem own_hob_27 (v : Int32) (h1 : 134217728 ≤ v.toInt) (h2 : v.toInt < 268435456) : own_hob v = (134217728 : Int32) := by
  unfold own_hob
  rw [own_nlz_27 v h1 h2, show own_ushr (-2147483648 : Int32) (4 : Int32) = (134217728 : Int32) from by decide]
  exact own_bit v _ 27 (by show ((134217728 : Nat) : Int) ≤ _; omega) (by show _ < ((268435456 : Nat) : Int); omega) (by decide)
theorem own_pw_27 (t : Int32) (h1 : 134217729 ≤ t.toInt) (h2 : t.toInt ≤ 268435456) : own_pw t = (268435456 : Int32) := by
  have s := c_isub t (1 : Int32)
  have b := Int32.le_toInt (t - (1 : Int32))
  have b' := Int32.toInt_lt (t - (1 : Int32))
  simp only [Int32.reduceToInt] at s
  unfold own_pw
  rw [own_hob_27 (t - (1 : Int32)) (by omega) (by omega)]
  decide
theorem own_tailA_27 (t1 : Int32) (h1 : 134217729 ≤ t1.toInt) (h2 : t1.toInt ≤ 201326592) : own_tail t1 (201326592 : Int32) = (1 : Int32) := by
  have c0 : ((0 : Int32) < (201326592 : Int32)) := by decide
  have c1 : ¬ (((201326592 : Int32) &&& ((201326592 : Int32) - (1 : Int32))) = (0 : Int32)) := by decide
  have c2 : (((201326592 : Int32) % (3 : Int32)) = (0 : Int32)) := by decide
  have c3 : ((((201326592 : Int32) / (3 : Int32)) &&& (((201326592 : Int32) / (3 : Int32)) - (1 : Int32))) = (0 : Int32)) := by decide
  have c4 : ¬ ((201326592 : Int32) < t1) := own_nlt_of (by simp only [Int32.reduceToInt, Int32.reduceDiv, Int32.reduceMul]; omega)
  have c5 : (((2 : Int32) * ((201326592 : Int32) / (3 : Int32))) < t1) := own_lt_of (by simp only [Int32.reduceToInt, Int32.reduceDiv, Int32.reduceMul]; omega)
  unfold own_tail
  rw [if_pos c0, if_neg c1, if_pos c2, if_pos c3, if_neg c4, if_pos c5]
theorem own_tailB_27 (t1 : Int32) (h1 : 201326593 ≤ t1.toInt) (h2 : t1.toInt ≤ 268435456) : own_tail t1 (268435456 : Int32) = (1 : Int32) := by
  have c0 : ((0 : Int32) < (268435456 : Int32)) := by decide
  have c1 : (((268435456 : Int32) &&& ((268435456 : Int32) - (1 : Int32))) = (0 : Int32)) := by decide
  have c2 : ¬ (((268435456 : Int32) % (3 : Int32)) = (0 : Int32)) := by decide
  have c3 : ¬ ((268435456 : Int32) < (4 : Int32)) := by decide
  have c4 : ¬ ((268435456 : Int32) < t1) := own_nlt_of (by simp only [Int32.reduceToInt, Int32.reduceDiv, Int32.reduceMul]; omega)
  have c5 : (((3 : Int32) * ((268435456 : Int32) / (4 : Int32))) < t1) := own_lt_of (by simp only [Int32.reduceToInt, Int32.reduceDiv, Int32.reduceMul]; omega)
  unfold own_tail
  rw [if_pos c0, if_pos c1, if_neg c2, if_neg c3, if_neg c4, if_pos c5]
theorem own_good_27 (t : Int32) (h1 : 134217729 ≤ t.toInt) (h2 : t.toInt ≤ 268435456) : own_tail t (own_tl t) = (1 : Int32) := by
  have g : own_tq t = (201326592 : Int32) := by unfold own_tq; rw [own_pw_27 t h1 h2]; decide
  by_cases q : t.toInt ≤ 201326592
  · have e : own_tl t = (201326592 : Int32) := by
      unfold own_tl
      rw [if_pos (show (1 : Int32) < t from own_lt_of (by simp only [Int32.reduceToInt]; omega)), g, own_pw_27 t h1 h2, if_neg (show ¬ ((268435456 : Int32) < (4 : Int32)) from by decide), if_neg (show ¬ ((201326592 : Int32) < t) from own_nlt_of (by simp only [Int32.reduceToInt]; omega))]
    rw [e]
    exact own_tailA_27 t h1 q
  · have e : own_tl t = (268435456 : Int32) := by
      unfold own_tl
      rw [if_pos (show (1 : Int32) < t from own_lt_of (by simp only [Int32.reduceToInt]; omega)), g, own_pw_27 t h1 h2, if_neg (show ¬ ((268435456 : Int32) < (4 : Int32)) from by decide), if_pos (show (201326592 : Int32) < t from own_lt_of (by simp only [Int32.reduceToInt]; omega))]
    rw [e]
    exact own_tailB_27 t (by omega) h2
theorem own_nlz_28 (p1 : Int32) (h1 : 268435456 ≤ p1.toInt) (h2 : p1.toInt < 536870912) : own_nlz p1 = (3 : Int32) := by
  have s0 := own_us p1 (16 : Int32) 16 (by decide) (by decide)
  have s1 := own_us (own_ushr p1 (16 : Int32)) (8 : Int32) 8 (by decide) (by decide)
  have s2 := own_us (own_ushr (own_ushr p1 (16 : Int32)) (8 : Int32)) (4 : Int32) 4 (by decide) (by decide)
  have s9 := own_us (own_ushr (own_ushr (own_ushr p1 (16 : Int32)) (8 : Int32)) (4 : Int32)) (1 : Int32) 1 (by decide) (by decide)
  have e9 : (own_ushr (own_ushr (own_ushr (own_ushr p1 (16 : Int32)) (8 : Int32)) (4 : Int32)) (1 : Int32)) = (0 : Int32) := Int32.toInt_inj.mp (by rw [s9]; simp only [Int32.reduceToInt]; omega)
  have c0 : ((0 : Int32) < p1) := own_lt_of (by simp only [Int32.reduceToInt]; omega)
  have c1 : ¬ (p1 < (65536 : Int32)) := own_nlt_of (by simp only [Int32.reduceToInt]; omega)
  have c2 : ¬ ((own_ushr p1 (16 : Int32)) < (256 : Int32)) := own_nlt_of (by simp only [Int32.reduceToInt]; omega)
  have c3 : ¬ ((own_ushr (own_ushr p1 (16 : Int32)) (8 : Int32)) < (16 : Int32)) := own_nlt_of (by simp only [Int32.reduceToInt]; omega)
  have c4 : ((own_ushr (own_ushr (own_ushr p1 (16 : Int32)) (8 : Int32)) (4 : Int32)) < (4 : Int32)) := own_lt_of (by simp only [Int32.reduceToInt]; omega)
  unfold own_nlz
  rw [if_pos c0, if_neg c1, if_neg c2, if_neg c3, if_pos c4, e9]
  decide
theorem own_hob_28 (v : Int32) (h1 : 268435456 ≤ v.toInt) (h2 : v.toInt < 536870912) : own_hob v = (268435456 : Int32) := by
  unfold own_hob
  rw [own_nlz_28 v h1 h2, show own_ushr (-2147483648 : Int32) (3 : Int32) = (268435456 : Int32) from by decide]
  exact own_bit v _ 28 (by show ((268435456 : Nat) : Int) ≤ _; omega) (by show _ < ((536870912 : Nat) : Int); omega) (by decide)
theorem own_pw_28 (t : Int32) (h1 : 268435457 ≤ t.toInt) (h2 : t.toInt ≤ 536870912) : own_pw t = (536870912 : Int32) := by
  have s := c_isub t (1 : Int32)
  have b := Int32.le_toInt (t - (1 : Int32))
  have b' := Int32.toInt_lt (t - (1 : Int32))
  simp only [Int32.reduceToInt] at s
  unfold own_pw
  rw [own_hob_28 (t - (1 : Int32)) (by omega) (by omega)]
  decide
theorem own_tailA_28 (t1 : Int32) (h1 : 268435457 ≤ t1.toInt) (h2 : t1.toInt ≤ 402653184) : own_tail t1 (402653184 : Int32) = (1 : Int32) := by
  have c0 : ((0 : Int32) < (402653184 : Int32)) := by decide
  have c1 : ¬ (((402653184 : Int32) &&& ((402653184 : Int32) - (1 : Int32))) = (0 : Int32)) := by decide
  have c2 : (((402653184 : Int32) % (3 : Int32)) = (0 : Int32)) := by decide
  have c3 : ((((402653184 : Int32) / (3 : Int32)) &&& (((402653184 : Int32) / (3 : Int32)) - (1 : Int32))) = (0 : Int32)) := by decide
  have c4 : ¬ ((402653184 : Int32) < t1) := own_nlt_of (by simp only [Int32.reduceToInt, Int32.reduceDiv, Int32.reduceMul]; omega)
  have c5 : (((2 : Int32) * ((402653184 : Int32) / (3 : Int32))) < t1) := own_lt_of (by simp only [Int32.reduceToInt, Int32.reduceDiv, Int32.reduceMul]; omega)
  unfold own_tail
  rw [if_pos c0, if_neg c1, if_pos c2, if_pos c3, if_neg c4, if_pos c5]
theorem own_tailB_28 (t1 : Int32) (h1 : 402653185 ≤ t1.toInt) (h2 : t1.toInt ≤ 536870912) : own_tail t1 (536870912 : Int32) = (1 : Int32) := by
  have c0 : ((0 : Int32) < (536870912 : Int32)) := by decide
  have c1 : (((536870912 : Int32) &&& ((536870912 : Int32) - (1 : Int32))) = (0 : Int32)) := by decide
  have c2 : ¬ (((536870912 : Int32) % (3 : Int32)) = (0 : Int32)) := by decide
  have c3 : ¬ ((536870912 : Int32) < (4 : Int32)) := by decide
  have c4 : ¬ ((536870912 : Int32) < t1) := own_nlt_of (by simp only [Int32.reduceToInt, Int32.reduceDiv, Int32.reduceMul]; omega)
  have c5 : (((3 : Int32) * ((536870912 : Int32) / (4 : Int32))) < t1) := own_lt_of (by simp only [Int32.reduceToInt, Int32.reduceDiv, Int32.reduceMul]; omega)
  unfold own_tail
  rw [if_pos c0, if_pos c1, if_neg c2, if_neg c3, if_neg c4, if_pos c5]
theorem own_good_28 (t : Int32) (h1 : 268435457 ≤ t.toInt) (h2 : t.toInt ≤ 536870912) : own_tail t (own_tl t) = (1 : Int32) := by
  have g : own_tq t = (402653184 : Int32) := by unfold own_tq; rw [own_pw_28 t h1 h2]; decide
  by_cases q : t.toInt ≤ 402653184
  · have e : own_tl t = (402653184 : Int32) := by
      unfold own_tl
      rw [if_pos (show (1 : Int32) < t from own_lt_of (by simp only [Int32.reduceToInt]; omega)), g, own_pw_28 t h1 h2, if_neg (show ¬ ((536870912 : Int32) < (4 : Int32)) from by decide), if_neg (show ¬ ((402653184 : Int32) < t) from own_nlt_of (by simp only [Int32.reduceToInt]; omega))]
    rw [e]
    exact own_tailA_28 t h1 q
  · have e : own_tl t = (536870912 : Int32) := by
      unfold own_tl
      rw [if_pos (show (1 : Int32) < t from own_lt_of (by simp only [Int32.reduceToInt]; omega)), g, own_pw_28 t h1 h2, if_neg (show ¬ ((536870912 : Int32) < (4 : Int32)) from by decide), if_pos (show (402653184 : Int32) < t from own_lt_of (by simp only [Int32.reduceToInt]; omega))]
    rw [e]
    exact own_tailB_28 t (by omega) h2
theorem own_nlz_29 (p1 : Int32) (h1 : 536870912 ≤ p1.toInt) (h2 : p1.toInt < 1073741824) : own_nlz p1 = (2 : Int32) := by
  have s0 := own_us p1 (16 : Int32) 16 (by decide) (by decide)
  have s1 := own_us (own_ushr p1 (16 : Int32)) (8 : Int32) 8 (by decide) (by decide)
  have s2 := own_us (own_ushr (own_ushr p1 (16 : Int32)) (8 : Int32)) (4 : Int32) 4 (by decide) (by decide)
  have s9 := own_us (own_ushr (own_ushr (own_ushr p1 (16 : Int32)) (8 : Int32)) (4 : Int32)) (1 : Int32) 1 (by decide) (by decide)
  have e9 : (own_ushr (own_ushr (own_ushr (own_ushr p1 (16 : Int32)) (8 : Int32)) (4 : Int32)) (1 : Int32)) = (1 : Int32) := Int32.toInt_inj.mp (by rw [s9]; simp only [Int32.reduceToInt]; omega)
  have c0 : ((0 : Int32) < p1) := own_lt_of (by simp only [Int32.reduceToInt]; omega)
  have c1 : ¬ (p1 < (65536 : Int32)) := own_nlt_of (by simp only [Int32.reduceToInt]; omega)
  have c2 : ¬ ((own_ushr p1 (16 : Int32)) < (256 : Int32)) := own_nlt_of (by simp only [Int32.reduceToInt]; omega)
  have c3 : ¬ ((own_ushr (own_ushr p1 (16 : Int32)) (8 : Int32)) < (16 : Int32)) := own_nlt_of (by simp only [Int32.reduceToInt]; omega)
  have c4 : ((own_ushr (own_ushr (own_ushr p1 (16 : Int32)) (8 : Int32)) (4 : Int32)) < (4 : Int32)) := own_lt_of (by simp only [Int32.reduceToInt]; omega)
  unfold own_nlz
  rw [if_pos c0, if_neg c1, if_neg c2, if_neg c3, if_pos c4, e9]
  decide
theorem own_hob_29 (v : Int32) (h1 : 536870912 ≤ v.toInt) (h2 : v.toInt < 1073741824) : own_hob v = (536870912 : Int32) := by
  unfold own_hob
  rw [own_nlz_29 v h1 h2, show own_ushr (-2147483648 : Int32) (2 : Int32) = (536870912 : Int32) from by decide]
  exact own_bit v _ 29 (by show ((536870912 : Nat) : Int) ≤ _; omega) (by show _ < ((1073741824 : Nat) : Int); omega) (by decide)
theorem own_pw_29 (t : Int32) (h1 : 536870913 ≤ t.toInt) (h2 : t.toInt ≤ 1073741824) : own_pw t = (1073741824 : Int32) := by
  have s := c_isub t (1 : Int32)
  have b := Int32.le_toInt (t - (1 : Int32))
  have b' := Int32.toInt_lt (t - (1 : Int32))
  simp only [Int32.reduceToInt] at s
  unfold own_pw
  rw [own_hob_29 (t - (1 : Int32)) (by omega) (by omega)]
  decide
theorem own_tailA_29 (t1 : Int32) (h1 : 536870913 ≤ t1.toInt) (h2 : t1.toInt ≤ 805306368) : own_tail t1 (805306368 : Int32) = (1 : Int32) := by
  have c0 : ((0 : Int32) < (805306368 : Int32)) := by decide
  have c1 : ¬ (((805306368 : Int32) &&& ((805306368 : Int32) - (1 : Int32))) = (0 : Int32)) := by decide
  have c2 : (((805306368 : Int32) % (3 : Int32)) = (0 : Int32)) := by decide
  have c3 : ((((805306368 : Int32) / (3 : Int32)) &&& (((805306368 : Int32) / (3 : Int32)) - (1 : Int32))) = (0 : Int32)) := by decide
  have c4 : ¬ ((805306368 : Int32) < t1) := own_nlt_of (by simp only [Int32.reduceToInt, Int32.reduceDiv, Int32.reduceMul]; omega)
  have c5 : (((2 : Int32) * ((805306368 : Int32) / (3 : Int32))) < t1) := own_lt_of (by simp only [Int32.reduceToInt, Int32.reduceDiv, Int32.reduceMul]; omega)
  unfold own_tail
  rw [if_pos c0, if_neg c1, if_pos c2, if_pos c3, if_neg c4, if_pos c5]
theorem own_tailB_29 (t1 : Int32) (h1 : 805306369 ≤ t1.toInt) (h2 : t1.toInt ≤ 1073741824) : own_tail t1 (1073741824 : Int32) = (1 : Int32) := by
  have c0 : ((0 : Int32) < (1073741824 : Int32)) := by decide
  have c1 : (((1073741824 : Int32) &&& ((1073741824 : Int32) - (1 : Int32))) = (0 : Int32)) := by decide
  have c2 : ¬ (((1073741824 : Int32) % (3 : Int32)) = (0 : Int32)) := by decide
  have c3 : ¬ ((1073741824 : Int32) < (4 : Int32)) := by decide
  have c4 : ¬ ((1073741824 : Int32) < t1) := own_nlt_of (by simp only [Int32.reduceToInt, Int32.reduceDiv, Int32.reduceMul]; omega)
  have c5 : (((3 : Int32) * ((1073741824 : Int32) / (4 : Int32))) < t1) := own_lt_of (by simp only [Int32.reduceToInt, Int32.reduceDiv, Int32.reduceMul]; omega)
  unfold own_tail
  rw [if_pos c0, if_pos c1, if_neg c2, if_neg c3, if_neg c4, if_pos c5]
theorem own_good_29 (t : Int32) (h1 : 536870913 ≤ t.toInt) (h2 : t.toInt ≤ 1073741824) : own_tail t (own_tl t) = (1 : Int32) := by
  have g : own_tq t = (805306368 : Int32) := by unfold own_tq; rw [own_pw_29 t h1 h2]; decide
  by_cases q : t.toInt ≤ 805306368
  · have e : own_tl t = (805306368 : Int32) := by
      unfold own_tl
      rw [if_pos (show (1 : Int32) < t from own_lt_of (by simp only [Int32.reduceToInt]; omega)), g, own_pw_29 t h1 h2, if_neg (show ¬ ((1073741824 : Int32) < (4 : Int32)) from by decide), if_neg (show ¬ ((805306368 : Int32) < t) from own_nlt_of (by simp only [Int32.reduceToInt]; omega))]
    rw [e]
    exact own_tailA_29 t h1 q
  · have e : own_tl t = (1073741824 : Int32) := by
      unfold own_tl
      rw [if_pos (show (1 : Int32) < t from own_lt_of (by simp only [Int32.reduceToInt]; omega)), g, own_pw_29 t h1 h2, if_neg (show ¬ ((1073741824 : Int32) < (4 : Int32)) from by decide), if_pos (show (805306368 : Int32) < t from own_lt_of (by simp only [Int32.reduceToInt]; omega))]
    rw [e]
    exact own_tailB_29 t (by omega) h2
theorem own_good (x : Int32) : own_tail ((x &&& (1073741823 : Int32)) + (1 : Int32)) (own_tl ((x &&& (1073741823 : Int32)) + (1 : Int32))) = (1 : Int32) := by
  have m := c_mask x (1073741823 : Int32) 30 (by decide) (by decide)
  have a := c_iadd (x &&& (1073741823 : Int32)) (1 : Int32)
  have b := Int32.le_toInt ((x &&& (1073741823 : Int32)) + (1 : Int32))
  have b' := Int32.toInt_lt ((x &&& (1073741823 : Int32)) + (1 : Int32))
  simp only [Int32.reduceToInt] at a
  generalize (x &&& (1073741823 : Int32)) + (1 : Int32) = t at *
  have h1 : 1 ≤ t.toInt := by omega
  have h2 : t.toInt ≤ 1073741824 := by omega
  by_cases q : t.toInt ≤ 1
  · have e : t = (1 : Int32) := Int32.toInt_inj.mp (by simp only [Int32.reduceToInt]; omega)
    rw [e]; decide
  by_cases q0 : t.toInt ≤ 2
  · exact own_good_0 t (by omega) q0
  by_cases q1 : t.toInt ≤ 4
  · exact own_good_1 t (by omega) q1
  by_cases q2 : t.toInt ≤ 8
  · exact own_good_2 t (by omega) q2
  by_cases q3 : t.toInt ≤ 16
  · exact own_good_3 t (by omega) q3
  by_cases q4 : t.toInt ≤ 32
  · exact own_good_4 t (by omega) q4
  by_cases q5 : t.toInt ≤ 64
  · exact own_good_5 t (by omega) q5
  by_cases q6 : t.toInt ≤ 128
  · exact own_good_6 t (by omega) q6
  by_cases q7 : t.toInt ≤ 256
  · exact own_good_7 t (by omega) q7
  by_cases q8 : t.toInt ≤ 512
  · exact own_good_8 t (by omega) q8
  by_cases q9 : t.toInt ≤ 1024
  · exact own_good_9 t (by omega) q9
  by_cases q10 : t.toInt ≤ 2048
  · exact own_good_10 t (by omega) q10
  by_cases q11 : t.toInt ≤ 4096
  · exact own_good_11 t (by omega) q11
  by_cases q12 : t.toInt ≤ 8192
  · exact own_good_12 t (by omega) q12
  by_cases q13 : t.toInt ≤ 16384
  · exact own_good_13 t (by omega) q13
  by_cases q14 : t.toInt ≤ 32768
  · exact own_good_14 t (by omega) q14
  by_cases q15 : t.toInt ≤ 65536
  · exact own_good_15 t (by omega) q15
  by_cases q16 : t.toInt ≤ 131072
  · exact own_good_16 t (by omega) q16
  by_cases q17 : t.toInt ≤ 262144
  · exact own_good_17 t (by omega) q17
  by_cases q18 : t.toInt ≤ 524288
  · exact own_good_18 t (by omega) q18
  by_cases q19 : t.toInt ≤ 1048576
  · exact own_good_19 t (by omega) q19
  by_cases q20 : t.toInt ≤ 2097152
  · exact own_good_20 t (by omega) q20
  by_cases q21 : t.toInt ≤ 4194304
  · exact own_good_21 t (by omega) q21
  by_cases q22 : t.toInt ≤ 8388608
  · exact own_good_22 t (by omega) q22
  by_cases q23 : t.toInt ≤ 16777216
  · exact own_good_23 t (by omega) q23
  by_cases q24 : t.toInt ≤ 33554432
  · exact own_good_24 t (by omega) q24
  by_cases q25 : t.toInt ≤ 67108864
  · exact own_good_25 t (by omega) q25
  by_cases q26 : t.toInt ≤ 134217728
  · exact own_good_26 t (by omega) q26
  by_cases q27 : t.toInt ≤ 268435456
  · exact own_good_27 t (by omega) q27
  by_cases q28 : t.toInt ≤ 536870912
  · exact own_good_28 t (by omega) q28
  exact own_good_29 t (by omega) (by omega)
theorem pn_law : plainName "com/example/radicand/radicand/integer/internal/ConvolutionTransformLengthPinLaw" = true := by first | (simp [plainName, overriddenIn]; done) | decide +kernel
theorem ef_law (m : MethodId) (p1 : Int32) : entryFrame m #[(.int p1)] maxLocals = mkF m 0 #[.val (.int p1), .unset, .unset, .unset, .unset, .unset, .unset] [] := by first | (simp [entryFrame, mkF, argsToLocals, Value.category, maxLocals]; done) | rfl
def QL (n0 : Nat) (v : Option Value) (h : Heap) (L : List Loc) : Prop := v = some (.int 1) ∧ Fr n0 L
set_option maxRecDepth 65536 in
set_option maxHeartbeats 40000000 in
theorem rm_law (l : Launch) (Z : State) (a0 : Array Value) (hw : ∀ d ∈ tables_1, d.before a0 Z = true) (ws : List Jvm.Cond) (p1 : Int32) (h0 : Heap) (n0 : Nat) (Z0 : n0 ≤ h0.size) :
    MetFree l x (head1 (Jvm.Cond.code x code maxLocals ret :: ws) room_1) (fun a U => a = #[(.int p1)] ∧ Z.Warmed39 U.vm ∧ U.heap = h0) (fun _ _ _ _ _ => True) (fun _ U o U' => ∃ v L, o = .returned v ∧ QL n0 v U'.heap L ∧ FrameEnd U o U' L room_1.cells room_1.slots) := by
  refine MetFree.of_bodySF (plainFor_of_name pn_law) hisR ?_
  intro p e s m args below meth c s₁ Bd hml0 hP hK
  obtain ⟨rfl, hZ, hh⟩ := hP
  have hx := Bd.exec
  have hby := Bd.bytes
  have hml : c.maxLocals = 7 := hml0
  have hown : s.vm.findClass "com/example/radicand/radicand/integer/internal/ConvolutionTransformLengthPinLaw" = some m.cls := findClass_of_methodNamed Bd.named
  have hnm := (name_of_methodNamed Bd.named Bd.method).1
  have X0 : Stand p l e room_1 s m #[(.int p1)] below meth c s₁ [] 0 0 := Stand.of_body Bd
  have e0 : s₁.heap = h0 := by rw [← hh, Bd.state]; rfl
  have N0 := Fr.nil n0
  have go0 : ∀ t, Steps p.tables e below (s₁.setTop (mkF m 0 #[.val (.int p1), .unset, .unset, .unset, .unset, .unset, .unset] [])) t → Steps p.tables e below (s₁.setTop (entryFrame m #[(.int p1)] maxLocals)) t := fun t k => castTop (ef_law m p1) k
  have go1 : ∀ t, Steps p.tables e below (s₁.setTop (mkF m 7 #[.val (.int p1), .val (.int ((p1 &&& (1073741823 : Int32)) + (1 : Int32))), .unset, .unset, .unset, .unset, .unset] [])) t → Steps p.tables e below (s₁.setTop (entryFrame m #[(.int p1)] maxLocals)) t := fun t k => go0 t (by
    show Steps p.tables e below (s₁.setTop (mkF m 0 #[.val (.int p1), .unset, .unset, .unset, .unset, .unset, .unset] [])) _
    refine XS.iloadN X0.here hx rfl (hb hby at_0) rfl ?_
    show Steps p.tables e below (s₁.setTop (mkF m 1 #[.val (.int p1), .unset, .unset, .unset, .unset, .unset, .unset] [(.int p1)])) _
    refine X0.ldcI hx hown (mvT hZ (hw _ (List.mem_of_getElem? (i := 0) rfl))) rfl (hb hby at_1) ?_
    show Steps p.tables e below (s₁.setTop (mkF m 3 #[.val (.int p1), .unset, .unset, .unset, .unset, .unset, .unset] [(.int (1073741823 : Int32)), (.int p1)])) _
    refine XS.iand X0.here hx rfl (hb hby at_3) rfl ?_
    show Steps p.tables e below (s₁.setTop (mkF m 4 #[.val (.int p1), .unset, .unset, .unset, .unset, .unset, .unset] [(.int (p1 &&& (1073741823 : Int32)))])) _
    refine XS.iconst X0.here hx rfl (hb hby at_4) ?_
    show Steps p.tables e below (s₁.setTop (mkF m 5 #[.val (.int p1), .unset, .unset, .unset, .unset, .unset, .unset] [(.int (1 : Int32)), (.int (p1 &&& (1073741823 : Int32)))])) _
    refine XS.iadd X0.here hx rfl (hb hby at_5) rfl ?_
    show Steps p.tables e below (s₁.setTop (mkF m 6 #[.val (.int p1), .unset, .unset, .unset, .unset, .unset, .unset] [(.int ((p1 &&& (1073741823 : Int32)) + (1 : Int32)))])) _
    refine XS.istoreN X0.here hx rfl (hb hby at_6) rfl (l' := #[.val (.int p1), .val (.int ((p1 &&& (1073741823 : Int32)) + (1 : Int32))), .unset, .unset, .unset, .unset, .unset]) rfl ?_
    exact k)
  obtain ⟨t1, ht1⟩ : ∃ z, z = ((p1 &&& (1073741823 : Int32)) + (1 : Int32)) := ⟨_, rfl⟩
  rw [← ht1] at go1
  have go2 : ∀ t, Steps p.tables e below (s₁.setTop (mkF m 8 #[.val (.int p1), .val (.int t1), .unset, .unset, .unset, .unset, .unset] [(.int t1)])) t → Steps p.tables e below (s₁.setTop (entryFrame m #[(.int p1)] maxLocals)) t := fun t k => go1 t (by
    show Steps p.tables e below (s₁.setTop (mkF m 7 #[.val (.int p1), .val (.int t1), .unset, .unset, .unset, .unset, .unset] [])) _
    refine XS.iloadN X0.here hx rfl (hb hby at_7) rfl ?_
    exact k)
  obtain ⟨_, _, ⟨T3, L3, k3, n3⟩, -, X3, ⟨Lc3, hQ3, l3, y3, z3⟩, st3⟩ := Jvm.LawKit.callS X0 hx (y := (⟨"com/example/radicand/radicand/integer/internal/Convolution", "transformLength", "(I)I"⟩ : MethodName)) hown (mvT hZ (hw _ (List.mem_of_getElem? (i := 1) rfl))) (mvT hZ (hw _ (List.mem_of_getElem? (i := 2) rfl))) (mvT hZ (hw _ (List.mem_of_getElem? (i := 3) rfl))) (mvT hZ (hw _ (List.mem_of_getElem? (i := 4) rfl))) (by decide) (backOf (W := 0) (rm_tl l Z a0 hw [] t1 h0 n0 Z0 ) hZ (hw _ (List.mem_of_getElem? (i := 4) rfl)) (hw _ (List.mem_of_getElem? (i := 3) rfl)) (by decide) (by decide)) (g := (mkF m 8 #[.val (.int p1), .val (.int t1), .unset, .unset, .unset, .unset, .unset] [(.int t1)])) rfl (by rw [hml]; rfl) (argsL := [(.int t1)]) (rest := []) (lenOf pd_0 rfl) rfl (by show 2 * 0 + _ ≤ _; exact Nat.le_of_eq rfl) (hb hby at_8) (fun _ _ => ⟨rfl, e0, (by decide : 0 + 0 ≤ _), (by decide : 0 + 0 ≤ _)⟩)
  dsimp only [Pt.U, Pt.locs, Pt.cells, Pt.slots] at X3 l3 y3 z3 st3 hQ3
  subst l3 y3 z3
  obtain ⟨rfl, N3q, e3⟩ := hQ3
  have N3 := Fr.app N0 N3q
  have go4 : ∀ t, Steps p.tables e below (T3.setTop (mkF m 11 #[.val (.int p1), .val (.int t1), .unset, .unset, .unset, .unset, .unset] [(.int (own_tl t1))])) t → Steps p.tables e below (s₁.setTop (entryFrame m #[(.int p1)] maxLocals)) t := fun t k => go2 t (st3 t k)
  have go5 : ∀ t, Steps p.tables e below (T3.setTop (mkF m 12 #[.val (.int p1), .val (.int t1), .val (.int (own_tl t1)), .unset, .unset, .unset, .unset] [])) t → Steps p.tables e below (s₁.setTop (entryFrame m #[(.int p1)] maxLocals)) t := fun t k => go4 t (by
    show Steps p.tables e below (T3.setTop (mkF m 11 #[.val (.int p1), .val (.int t1), .unset, .unset, .unset, .unset, .unset] [(.int (own_tl t1))])) _
    refine XS.istoreN X3.here hx rfl (hb hby at_11) rfl (l' := #[.val (.int p1), .val (.int t1), .val (.int (own_tl t1)), .unset, .unset, .unset, .unset]) rfl ?_
    exact k)
  obtain ⟨n1, hn1⟩ : ∃ z, z = (own_tl t1) := ⟨_, rfl⟩
  rw [← hn1] at go5
  have hgood : own_tail t1 n1 = (1 : Int32) := by rw [hn1, ht1]; exact own_good p1
  have go6 : ∀ t, Steps p.tables e below (T3.setTop (mkF m 13 #[.val (.int p1), .val (.int t1), .val (.int n1), .unset, .unset, .unset, .unset] [(.int n1)])) t → Steps p.tables e below (s₁.setTop (entryFrame m #[(.int p1)] maxLocals)) t := fun t k => go5 t (by
    show Steps p.tables e below (T3.setTop (mkF m 12 #[.val (.int p1), .val (.int t1), .val (.int n1), .unset, .unset, .unset, .unset] [])) _
    refine XS.iloadN X3.here hx rfl (hb hby at_12) rfl ?_
    exact k)
  by_cases hc7 : (0 : Int32) < n1
  · have go8 : ∀ t, Steps p.tables e below (T3.setTop (mkF m 23 #[.val (.int p1), .val (.int t1), .val (.int n1), .unset, .unset, .unset, .unset] [(.int (n1 &&& (n1 - (1 : Int32))))])) t → Steps p.tables e below (s₁.setTop (entryFrame m #[(.int p1)] maxLocals)) t := fun t k => go6 t (by
      show Steps p.tables e below (T3.setTop (mkF m 13 #[.val (.int p1), .val (.int t1), .val (.int n1), .unset, .unset, .unset, .unset] [(.int n1)])) _
      refine XS.ifYes X3.here hx rfl (pc0 := 13) (pc' := 18) rfl (hb hby at_13) rfl ((if0 _ _).trans (tlt hc7).2.2.1) (by decide) (by decide) ?_
      show Steps p.tables e below (T3.setTop (mkF m 18 #[.val (.int p1), .val (.int t1), .val (.int n1), .unset, .unset, .unset, .unset] [])) _
      refine XS.iloadN X3.here hx rfl (hb hby at_18) rfl ?_
      show Steps p.tables e below (T3.setTop (mkF m 19 #[.val (.int p1), .val (.int t1), .val (.int n1), .unset, .unset, .unset, .unset] [(.int n1)])) _
      refine XS.iloadN X3.here hx rfl (hb hby at_19) rfl ?_
      show Steps p.tables e below (T3.setTop (mkF m 20 #[.val (.int p1), .val (.int t1), .val (.int n1), .unset, .unset, .unset, .unset] [(.int n1), (.int n1)])) _
      refine XS.iconst X3.here hx rfl (hb hby at_20) ?_
      show Steps p.tables e below (T3.setTop (mkF m 21 #[.val (.int p1), .val (.int t1), .val (.int n1), .unset, .unset, .unset, .unset] [(.int (1 : Int32)), (.int n1), (.int n1)])) _
      refine XS.isub X3.here hx rfl (hb hby at_21) rfl ?_
      show Steps p.tables e below (T3.setTop (mkF m 22 #[.val (.int p1), .val (.int t1), .val (.int n1), .unset, .unset, .unset, .unset] [(.int (n1 - (1 : Int32))), (.int n1)])) _
      refine XS.iand X3.here hx rfl (hb hby at_22) rfl ?_
      exact k)
    by_cases hc9 : (n1 &&& (n1 - (1 : Int32))) = (0 : Int32)
    · have go10 : ∀ t, Steps p.tables e below (T3.setTop (mkF m 40 #[.val (.int p1), .val (.int t1), .val (.int n1), .val (.int (1 : Int32)), .val (.int (n1 / (3 : Int32))), .unset, .unset] [(.int (n1 % (3 : Int32)))])) t → Steps p.tables e below (s₁.setTop (entryFrame m #[(.int p1)] maxLocals)) t := fun t k => go8 t (by
        show Steps p.tables e below (T3.setTop (mkF m 23 #[.val (.int p1), .val (.int t1), .val (.int n1), .unset, .unset, .unset, .unset] [(.int (n1 &&& (n1 - (1 : Int32))))])) _
        refine XS.ifNo X3.here hx rfl (hb hby at_23) rfl ((if0 _ _).trans (teq hc9).2) ?_
        show Steps p.tables e below (T3.setTop (mkF m 26 #[.val (.int p1), .val (.int t1), .val (.int n1), .unset, .unset, .unset, .unset] [])) _
        refine XS.iconst X3.here hx rfl (hb hby at_26) ?_
        show Steps p.tables e below (T3.setTop (mkF m 27 #[.val (.int p1), .val (.int t1), .val (.int n1), .unset, .unset, .unset, .unset] [(.int (1 : Int32))])) _
        refine XS.goto X3.here hx rfl (pc0 := 27) (pc' := 31) rfl (hb hby at_27) (by decide) (by decide) ?_
        show Steps p.tables e below (T3.setTop (mkF m 31 #[.val (.int p1), .val (.int t1), .val (.int n1), .unset, .unset, .unset, .unset] [(.int (1 : Int32))])) _
        refine XS.istoreN X3.here hx rfl (hb hby at_31) rfl (l' := #[.val (.int p1), .val (.int t1), .val (.int n1), .val (.int (1 : Int32)), .unset, .unset, .unset]) rfl ?_
        show Steps p.tables e below (T3.setTop (mkF m 32 #[.val (.int p1), .val (.int t1), .val (.int n1), .val (.int (1 : Int32)), .unset, .unset, .unset] [])) _
        refine XS.iloadN X3.here hx rfl (hb hby at_32) rfl ?_
        show Steps p.tables e below (T3.setTop (mkF m 33 #[.val (.int p1), .val (.int t1), .val (.int n1), .val (.int (1 : Int32)), .unset, .unset, .unset] [(.int n1)])) _
        refine XS.iconst X3.here hx rfl (hb hby at_33) ?_
        show Steps p.tables e below (T3.setTop (mkF m 34 #[.val (.int p1), .val (.int t1), .val (.int n1), .val (.int (1 : Int32)), .unset, .unset, .unset] [(.int (3 : Int32)), (.int n1)])) _
        refine XS.idiv X3.here hx rfl (hb hby at_34) rfl (by decide) ?_
        show Steps p.tables e below (T3.setTop (mkF m 35 #[.val (.int p1), .val (.int t1), .val (.int n1), .val (.int (1 : Int32)), .unset, .unset, .unset] [(.int (n1 / (3 : Int32)))])) _
        refine XS.istore X3.here hx rfl (hb hby at_35) rfl (l' := #[.val (.int p1), .val (.int t1), .val (.int n1), .val (.int (1 : Int32)), .val (.int (n1 / (3 : Int32))), .unset, .unset]) rfl ?_
        show Steps p.tables e below (T3.setTop (mkF m 37 #[.val (.int p1), .val (.int t1), .val (.int n1), .val (.int (1 : Int32)), .val (.int (n1 / (3 : Int32))), .unset, .unset] [])) _
        refine XS.iloadN X3.here hx rfl (hb hby at_37) rfl ?_
        show Steps p.tables e below (T3.setTop (mkF m 38 #[.val (.int p1), .val (.int t1), .val (.int n1), .val (.int (1 : Int32)), .val (.int (n1 / (3 : Int32))), .unset, .unset] [(.int n1)])) _
        refine XS.iconst X3.here hx rfl (hb hby at_38) ?_
        show Steps p.tables e below (T3.setTop (mkF m 39 #[.val (.int p1), .val (.int t1), .val (.int n1), .val (.int (1 : Int32)), .val (.int (n1 / (3 : Int32))), .unset, .unset] [(.int (3 : Int32)), (.int n1)])) _
        refine iremM X3 hx rfl (hb hby at_39) rfl (by decide) ?_
        exact k)
      by_cases hc11 : (n1 % (3 : Int32)) = (0 : Int32)
      · have go12 : ∀ t, Steps p.tables e below (T3.setTop (mkF m 50 #[.val (.int p1), .val (.int t1), .val (.int n1), .val (.int (1 : Int32)), .val (.int (n1 / (3 : Int32))), .unset, .unset] [(.int ((n1 / (3 : Int32)) &&& ((n1 / (3 : Int32)) - (1 : Int32))))])) t → Steps p.tables e below (s₁.setTop (entryFrame m #[(.int p1)] maxLocals)) t := fun t k => go10 t (by
          show Steps p.tables e below (T3.setTop (mkF m 40 #[.val (.int p1), .val (.int t1), .val (.int n1), .val (.int (1 : Int32)), .val (.int (n1 / (3 : Int32))), .unset, .unset] [(.int (n1 % (3 : Int32)))])) _
          refine XS.ifNo X3.here hx rfl (hb hby at_40) rfl ((if0 _ _).trans (teq hc11).2) ?_
          show Steps p.tables e below (T3.setTop (mkF m 43 #[.val (.int p1), .val (.int t1), .val (.int n1), .val (.int (1 : Int32)), .val (.int (n1 / (3 : Int32))), .unset, .unset] [])) _
          refine XS.iload X3.here hx rfl (hb hby at_43) rfl ?_
          show Steps p.tables e below (T3.setTop (mkF m 45 #[.val (.int p1), .val (.int t1), .val (.int n1), .val (.int (1 : Int32)), .val (.int (n1 / (3 : Int32))), .unset, .unset] [(.int (n1 / (3 : Int32)))])) _
          refine XS.iload X3.here hx rfl (hb hby at_45) rfl ?_
          show Steps p.tables e below (T3.setTop (mkF m 47 #[.val (.int p1), .val (.int t1), .val (.int n1), .val (.int (1 : Int32)), .val (.int (n1 / (3 : Int32))), .unset, .unset] [(.int (n1 / (3 : Int32))), (.int (n1 / (3 : Int32)))])) _
          refine XS.iconst X3.here hx rfl (hb hby at_47) ?_
          show Steps p.tables e below (T3.setTop (mkF m 48 #[.val (.int p1), .val (.int t1), .val (.int n1), .val (.int (1 : Int32)), .val (.int (n1 / (3 : Int32))), .unset, .unset] [(.int (1 : Int32)), (.int (n1 / (3 : Int32))), (.int (n1 / (3 : Int32)))])) _
          refine XS.isub X3.here hx rfl (hb hby at_48) rfl ?_
          show Steps p.tables e below (T3.setTop (mkF m 49 #[.val (.int p1), .val (.int t1), .val (.int n1), .val (.int (1 : Int32)), .val (.int (n1 / (3 : Int32))), .unset, .unset] [(.int ((n1 / (3 : Int32)) - (1 : Int32))), (.int (n1 / (3 : Int32)))])) _
          refine XS.iand X3.here hx rfl (hb hby at_49) rfl ?_
          exact k)
        by_cases hc13 : ((n1 / (3 : Int32)) &&& ((n1 / (3 : Int32)) - (1 : Int32))) = (0 : Int32)
        · have go14 : ∀ t, Steps p.tables e below (T3.setTop (mkF m 77 #[.val (.int p1), .val (.int t1), .val (.int n1), .val (.int (1 : Int32)), .val (.int (n1 / (3 : Int32))), .val (.int (1 : Int32)), .unset] [(.int (4 : Int32)), (.int n1)])) t → Steps p.tables e below (s₁.setTop (entryFrame m #[(.int p1)] maxLocals)) t := fun t k => go12 t (by
            show Steps p.tables e below (T3.setTop (mkF m 50 #[.val (.int p1), .val (.int t1), .val (.int n1), .val (.int (1 : Int32)), .val (.int (n1 / (3 : Int32))), .unset, .unset] [(.int ((n1 / (3 : Int32)) &&& ((n1 / (3 : Int32)) - (1 : Int32))))])) _
            refine XS.ifNo X3.here hx rfl (hb hby at_50) rfl ((if0 _ _).trans (teq hc13).2) ?_
            show Steps p.tables e below (T3.setTop (mkF m 53 #[.val (.int p1), .val (.int t1), .val (.int n1), .val (.int (1 : Int32)), .val (.int (n1 / (3 : Int32))), .unset, .unset] [])) _
            refine XS.iconst X3.here hx rfl (hb hby at_53) ?_
            show Steps p.tables e below (T3.setTop (mkF m 54 #[.val (.int p1), .val (.int t1), .val (.int n1), .val (.int (1 : Int32)), .val (.int (n1 / (3 : Int32))), .unset, .unset] [(.int (1 : Int32))])) _
            refine XS.goto X3.here hx rfl (pc0 := 54) (pc' := 58) rfl (hb hby at_54) (by decide) (by decide) ?_
            show Steps p.tables e below (T3.setTop (mkF m 58 #[.val (.int p1), .val (.int t1), .val (.int n1), .val (.int (1 : Int32)), .val (.int (n1 / (3 : Int32))), .unset, .unset] [(.int (1 : Int32))])) _
            refine XS.istore X3.here hx rfl (hb hby at_58) rfl (l' := #[.val (.int p1), .val (.int t1), .val (.int n1), .val (.int (1 : Int32)), .val (.int (n1 / (3 : Int32))), .val (.int (1 : Int32)), .unset]) rfl ?_
            show Steps p.tables e below (T3.setTop (mkF m 60 #[.val (.int p1), .val (.int t1), .val (.int n1), .val (.int (1 : Int32)), .val (.int (n1 / (3 : Int32))), .val (.int (1 : Int32)), .unset] [])) _
            refine XS.iloadN X3.here hx rfl (hb hby at_60) rfl ?_
            show Steps p.tables e below (T3.setTop (mkF m 61 #[.val (.int p1), .val (.int t1), .val (.int n1), .val (.int (1 : Int32)), .val (.int (n1 / (3 : Int32))), .val (.int (1 : Int32)), .unset] [(.int (1 : Int32))])) _
            refine XS.ifYes X3.here hx rfl (pc0 := 61) (pc' := 71) rfl (hb hby at_61) rfl ((if0 _ _).trans (feq (by decide : ¬ ((1 : Int32) = (0 : Int32)))).2) (by decide) (by decide) ?_
            show Steps p.tables e below (T3.setTop (mkF m 71 #[.val (.int p1), .val (.int t1), .val (.int n1), .val (.int (1 : Int32)), .val (.int (n1 / (3 : Int32))), .val (.int (1 : Int32)), .unset] [])) _
            refine XS.iloadN X3.here hx rfl (hb hby at_71) rfl ?_
            show Steps p.tables e below (T3.setTop (mkF m 72 #[.val (.int p1), .val (.int t1), .val (.int n1), .val (.int (1 : Int32)), .val (.int (n1 / (3 : Int32))), .val (.int (1 : Int32)), .unset] [(.int (1 : Int32))])) _
            refine XS.ifNo X3.here hx rfl (hb hby at_72) rfl ((if0 _ _).trans (feq (by decide : ¬ ((1 : Int32) = (0 : Int32)))).1) ?_
            show Steps p.tables e below (T3.setTop (mkF m 75 #[.val (.int p1), .val (.int t1), .val (.int n1), .val (.int (1 : Int32)), .val (.int (n1 / (3 : Int32))), .val (.int (1 : Int32)), .unset] [])) _
            refine XS.iloadN X3.here hx rfl (hb hby at_75) rfl ?_
            show Steps p.tables e below (T3.setTop (mkF m 76 #[.val (.int p1), .val (.int t1), .val (.int n1), .val (.int (1 : Int32)), .val (.int (n1 / (3 : Int32))), .val (.int (1 : Int32)), .unset] [(.int n1)])) _
            refine XS.iconst X3.here hx rfl (hb hby at_76) ?_
            exact k)
          by_cases hc15 : n1 < (4 : Int32)
          · have go16 : ∀ t, Steps p.tables e below (T3.setTop (mkF m 104 #[.val (.int p1), .val (.int t1), .val (.int n1), .val (.int (1 : Int32)), .val (.int (n1 / (3 : Int32))), .val (.int (1 : Int32)), .val (.int (n1 / (2 : Int32)))] [(.int t1), (.int n1)])) t → Steps p.tables e below (s₁.setTop (entryFrame m #[(.int p1)] maxLocals)) t := fun t k => go14 t (by
              show Steps p.tables e below (T3.setTop (mkF m 77 #[.val (.int p1), .val (.int t1), .val (.int n1), .val (.int (1 : Int32)), .val (.int (n1 / (3 : Int32))), .val (.int (1 : Int32)), .unset] [(.int (4 : Int32)), (.int n1)])) _
              refine XS.icmpYes X3.here hx rfl (pc0 := 77) (pc' := 88) rfl (hb hby at_77) rfl (tlt hc15).1 (by decide) (by decide) ?_
              show Steps p.tables e below (T3.setTop (mkF m 88 #[.val (.int p1), .val (.int t1), .val (.int n1), .val (.int (1 : Int32)), .val (.int (n1 / (3 : Int32))), .val (.int (1 : Int32)), .unset] [])) _
              refine XS.iloadN X3.here hx rfl (hb hby at_88) rfl ?_
              show Steps p.tables e below (T3.setTop (mkF m 89 #[.val (.int p1), .val (.int t1), .val (.int n1), .val (.int (1 : Int32)), .val (.int (n1 / (3 : Int32))), .val (.int (1 : Int32)), .unset] [(.int n1)])) _
              refine XS.iconst X3.here hx rfl (hb hby at_89) ?_
              show Steps p.tables e below (T3.setTop (mkF m 90 #[.val (.int p1), .val (.int t1), .val (.int n1), .val (.int (1 : Int32)), .val (.int (n1 / (3 : Int32))), .val (.int (1 : Int32)), .unset] [(.int (2 : Int32)), (.int n1)])) _
              refine XS.idiv X3.here hx rfl (hb hby at_90) rfl (by decide) ?_
              show Steps p.tables e below (T3.setTop (mkF m 91 #[.val (.int p1), .val (.int t1), .val (.int n1), .val (.int (1 : Int32)), .val (.int (n1 / (3 : Int32))), .val (.int (1 : Int32)), .unset] [(.int (n1 / (2 : Int32)))])) _
              refine XS.istore X3.here hx rfl (hb hby at_91) rfl (l' := #[.val (.int p1), .val (.int t1), .val (.int n1), .val (.int (1 : Int32)), .val (.int (n1 / (3 : Int32))), .val (.int (1 : Int32)), .val (.int (n1 / (2 : Int32)))]) rfl ?_
              show Steps p.tables e below (T3.setTop (mkF m 93 #[.val (.int p1), .val (.int t1), .val (.int n1), .val (.int (1 : Int32)), .val (.int (n1 / (3 : Int32))), .val (.int (1 : Int32)), .val (.int (n1 / (2 : Int32)))] [])) _
              refine XS.goto X3.here hx rfl (pc0 := 93) (pc' := 102) rfl (hb hby at_93) (by decide) (by decide) ?_
              show Steps p.tables e below (T3.setTop (mkF m 102 #[.val (.int p1), .val (.int t1), .val (.int n1), .val (.int (1 : Int32)), .val (.int (n1 / (3 : Int32))), .val (.int (1 : Int32)), .val (.int (n1 / (2 : Int32)))] [])) _
              refine XS.iloadN X3.here hx rfl (hb hby at_102) rfl ?_
              show Steps p.tables e below (T3.setTop (mkF m 103 #[.val (.int p1), .val (.int t1), .val (.int n1), .val (.int (1 : Int32)), .val (.int (n1 / (3 : Int32))), .val (.int (1 : Int32)), .val (.int (n1 / (2 : Int32)))] [(.int n1)])) _
              refine XS.iloadN X3.here hx rfl (hb hby at_103) rfl ?_
              exact k)
            by_cases hc17 : n1 < t1
            · have go18 : ∀ t, Steps p.tables e below (T3.setTop (mkF m 118 #[.val (.int p1), .val (.int t1), .val (.int n1), .val (.int (1 : Int32)), .val (.int (n1 / (3 : Int32))), .val (.int (1 : Int32)), .val (.int (n1 / (2 : Int32)))] [(.int (0 : Int32))])) t → Steps p.tables e below (s₁.setTop (entryFrame m #[(.int p1)] maxLocals)) t := fun t k => go16 t (by
                show Steps p.tables e below (T3.setTop (mkF m 104 #[.val (.int p1), .val (.int t1), .val (.int n1), .val (.int (1 : Int32)), .val (.int (n1 / (3 : Int32))), .val (.int (1 : Int32)), .val (.int (n1 / (2 : Int32)))] [(.int t1), (.int n1)])) _
                refine XS.icmpYes X3.here hx rfl (pc0 := 104) (pc' := 117) rfl (hb hby at_104) rfl (tlt hc17).1 (by decide) (by decide) ?_
                show Steps p.tables e below (T3.setTop (mkF m 117 #[.val (.int p1), .val (.int t1), .val (.int n1), .val (.int (1 : Int32)), .val (.int (n1 / (3 : Int32))), .val (.int (1 : Int32)), .val (.int (n1 / (2 : Int32)))] [])) _
                refine XS.iconst X3.here hx rfl (hb hby at_117) ?_
                exact k)
              obtain ⟨fs, hr, hrun, hended, hW, hsame⟩ := X3.leave (v := some (.int (0 : Int32))) (fun h => by rw [Bd.returns] at h; cases h)
              refine ⟨_, _, go18 _ ?_, hrun, hended, _, _, rfl, ?_, ⟨_, rfl⟩, hW, hsame.mono (by decide) (by decide)⟩
              · exact retN X3 hx (t := .boolean) Bd.returns (by simp) (hb hby at_118) hr
              · show QL n0 _ T3.heap _
                rw [e3]
                exact ⟨by exfalso; unfold own_tail at hgood; rw [if_pos hc7, if_pos hc9, if_pos hc11, if_pos hc13, if_pos hc15, if_pos hc17] at hgood; exact absurd hgood (by decide), N3⟩
            · have go19 : ∀ t, Steps p.tables e below (T3.setTop (mkF m 110 #[.val (.int p1), .val (.int t1), .val (.int n1), .val (.int (1 : Int32)), .val (.int (n1 / (3 : Int32))), .val (.int (1 : Int32)), .val (.int (n1 / (2 : Int32)))] [(.int t1), (.int (n1 / (2 : Int32)))])) t → Steps p.tables e below (s₁.setTop (entryFrame m #[(.int p1)] maxLocals)) t := fun t k => go16 t (by
                show Steps p.tables e below (T3.setTop (mkF m 104 #[.val (.int p1), .val (.int t1), .val (.int n1), .val (.int (1 : Int32)), .val (.int (n1 / (3 : Int32))), .val (.int (1 : Int32)), .val (.int (n1 / (2 : Int32)))] [(.int t1), (.int n1)])) _
                refine XS.icmpNo X3.here hx rfl (hb hby at_104) rfl (flt hc17).1 ?_
                show Steps p.tables e below (T3.setTop (mkF m 107 #[.val (.int p1), .val (.int t1), .val (.int n1), .val (.int (1 : Int32)), .val (.int (n1 / (3 : Int32))), .val (.int (1 : Int32)), .val (.int (n1 / (2 : Int32)))] [])) _
                refine XS.iload X3.here hx rfl (hb hby at_107) rfl ?_
                show Steps p.tables e below (T3.setTop (mkF m 109 #[.val (.int p1), .val (.int t1), .val (.int n1), .val (.int (1 : Int32)), .val (.int (n1 / (3 : Int32))), .val (.int (1 : Int32)), .val (.int (n1 / (2 : Int32)))] [(.int (n1 / (2 : Int32)))])) _
                refine XS.iloadN X3.here hx rfl (hb hby at_109) rfl ?_
                exact k)
              by_cases hc20 : (n1 / (2 : Int32)) < t1
              · have go21 : ∀ t, Steps p.tables e below (T3.setTop (mkF m 118 #[.val (.int p1), .val (.int t1), .val (.int n1), .val (.int (1 : Int32)), .val (.int (n1 / (3 : Int32))), .val (.int (1 : Int32)), .val (.int (n1 / (2 : Int32)))] [(.int (1 : Int32))])) t → Steps p.tables e below (s₁.setTop (entryFrame m #[(.int p1)] maxLocals)) t := fun t k => go19 t (by
                  show Steps p.tables e below (T3.setTop (mkF m 110 #[.val (.int p1), .val (.int t1), .val (.int n1), .val (.int (1 : Int32)), .val (.int (n1 / (3 : Int32))), .val (.int (1 : Int32)), .val (.int (n1 / (2 : Int32)))] [(.int t1), (.int (n1 / (2 : Int32)))])) _
                  refine XS.icmpNo X3.here hx rfl (hb hby at_110) rfl (tlt hc20).2.1 ?_
                  show Steps p.tables e below (T3.setTop (mkF m 113 #[.val (.int p1), .val (.int t1), .val (.int n1), .val (.int (1 : Int32)), .val (.int (n1 / (3 : Int32))), .val (.int (1 : Int32)), .val (.int (n1 / (2 : Int32)))] [])) _
                  refine XS.iconst X3.here hx rfl (hb hby at_113) ?_
                  show Steps p.tables e below (T3.setTop (mkF m 114 #[.val (.int p1), .val (.int t1), .val (.int n1), .val (.int (1 : Int32)), .val (.int (n1 / (3 : Int32))), .val (.int (1 : Int32)), .val (.int (n1 / (2 : Int32)))] [(.int (1 : Int32))])) _
                  refine XS.goto X3.here hx rfl (pc0 := 114) (pc' := 118) rfl (hb hby at_114) (by decide) (by decide) ?_
                  exact k)
                obtain ⟨fs, hr, hrun, hended, hW, hsame⟩ := X3.leave (v := some (.int (1 : Int32))) (fun h => by rw [Bd.returns] at h; cases h)
                refine ⟨_, _, go21 _ ?_, hrun, hended, _, _, rfl, ?_, ⟨_, rfl⟩, hW, hsame.mono (by decide) (by decide)⟩
                · exact retN X3 hx (t := .boolean) Bd.returns (by simp) (hb hby at_118) hr
                · show QL n0 _ T3.heap _
                  rw [e3]
                  exact ⟨rfl, N3⟩
              · have go22 : ∀ t, Steps p.tables e below (T3.setTop (mkF m 118 #[.val (.int p1), .val (.int t1), .val (.int n1), .val (.int (1 : Int32)), .val (.int (n1 / (3 : Int32))), .val (.int (1 : Int32)), .val (.int (n1 / (2 : Int32)))] [(.int (0 : Int32))])) t → Steps p.tables e below (s₁.setTop (entryFrame m #[(.int p1)] maxLocals)) t := fun t k => go19 t (by
                  show Steps p.tables e below (T3.setTop (mkF m 110 #[.val (.int p1), .val (.int t1), .val (.int n1), .val (.int (1 : Int32)), .val (.int (n1 / (3 : Int32))), .val (.int (1 : Int32)), .val (.int (n1 / (2 : Int32)))] [(.int t1), (.int (n1 / (2 : Int32)))])) _
                  refine XS.icmpYes X3.here hx rfl (pc0 := 110) (pc' := 117) rfl (hb hby at_110) rfl (flt hc20).2.1 (by decide) (by decide) ?_
                  show Steps p.tables e below (T3.setTop (mkF m 117 #[.val (.int p1), .val (.int t1), .val (.int n1), .val (.int (1 : Int32)), .val (.int (n1 / (3 : Int32))), .val (.int (1 : Int32)), .val (.int (n1 / (2 : Int32)))] [])) _
                  refine XS.iconst X3.here hx rfl (hb hby at_117) ?_
                  exact k)
                obtain ⟨fs, hr, hrun, hended, hW, hsame⟩ := X3.leave (v := some (.int (0 : Int32))) (fun h => by rw [Bd.returns] at h; cases h)
                refine ⟨_, _, go22 _ ?_, hrun, hended, _, _, rfl, ?_, ⟨_, rfl⟩, hW, hsame.mono (by decide) (by decide)⟩
                · exact retN X3 hx (t := .boolean) Bd.returns (by simp) (hb hby at_118) hr
                · show QL n0 _ T3.heap _
                  rw [e3]
                  exact ⟨by exfalso; unfold own_tail at hgood; rw [if_pos hc7, if_pos hc9, if_pos hc11, if_pos hc13, if_pos hc15, if_neg hc17, if_neg hc20] at hgood; exact absurd hgood (by decide), N3⟩
          · have go23 : ∀ t, Steps p.tables e below (T3.setTop (mkF m 104 #[.val (.int p1), .val (.int t1), .val (.int n1), .val (.int (1 : Int32)), .val (.int (n1 / (3 : Int32))), .val (.int (1 : Int32)), .val (.int ((3 : Int32) * (n1 / (4 : Int32))))] [(.int t1), (.int n1)])) t → Steps p.tables e below (s₁.setTop (entryFrame m #[(.int p1)] maxLocals)) t := fun t k => go14 t (by
              show Steps p.tables e below (T3.setTop (mkF m 77 #[.val (.int p1), .val (.int t1), .val (.int n1), .val (.int (1 : Int32)), .val (.int (n1 / (3 : Int32))), .val (.int (1 : Int32)), .unset] [(.int (4 : Int32)), (.int n1)])) _
              refine XS.icmpNo X3.here hx rfl (hb hby at_77) rfl (flt hc15).1 ?_
              show Steps p.tables e below (T3.setTop (mkF m 80 #[.val (.int p1), .val (.int t1), .val (.int n1), .val (.int (1 : Int32)), .val (.int (n1 / (3 : Int32))), .val (.int (1 : Int32)), .unset] [])) _
              refine XS.iconst X3.here hx rfl (hb hby at_80) ?_
              show Steps p.tables e below (T3.setTop (mkF m 81 #[.val (.int p1), .val (.int t1), .val (.int n1), .val (.int (1 : Int32)), .val (.int (n1 / (3 : Int32))), .val (.int (1 : Int32)), .unset] [(.int (3 : Int32))])) _
              refine XS.iloadN X3.here hx rfl (hb hby at_81) rfl ?_
              show Steps p.tables e below (T3.setTop (mkF m 82 #[.val (.int p1), .val (.int t1), .val (.int n1), .val (.int (1 : Int32)), .val (.int (n1 / (3 : Int32))), .val (.int (1 : Int32)), .unset] [(.int n1), (.int (3 : Int32))])) _
              refine XS.iconst X3.here hx rfl (hb hby at_82) ?_
              show Steps p.tables e below (T3.setTop (mkF m 83 #[.val (.int p1), .val (.int t1), .val (.int n1), .val (.int (1 : Int32)), .val (.int (n1 / (3 : Int32))), .val (.int (1 : Int32)), .unset] [(.int (4 : Int32)), (.int n1), (.int (3 : Int32))])) _
              refine XS.idiv X3.here hx rfl (hb hby at_83) rfl (by decide) ?_
              show Steps p.tables e below (T3.setTop (mkF m 84 #[.val (.int p1), .val (.int t1), .val (.int n1), .val (.int (1 : Int32)), .val (.int (n1 / (3 : Int32))), .val (.int (1 : Int32)), .unset] [(.int (n1 / (4 : Int32))), (.int (3 : Int32))])) _
              refine XS.imul X3.here hx rfl (hb hby at_84) rfl ?_
              show Steps p.tables e below (T3.setTop (mkF m 85 #[.val (.int p1), .val (.int t1), .val (.int n1), .val (.int (1 : Int32)), .val (.int (n1 / (3 : Int32))), .val (.int (1 : Int32)), .unset] [(.int ((3 : Int32) * (n1 / (4 : Int32))))])) _
              refine XS.goto X3.here hx rfl (pc0 := 85) (pc' := 91) rfl (hb hby at_85) (by decide) (by decide) ?_
              show Steps p.tables e below (T3.setTop (mkF m 91 #[.val (.int p1), .val (.int t1), .val (.int n1), .val (.int (1 : Int32)), .val (.int (n1 / (3 : Int32))), .val (.int (1 : Int32)), .unset] [(.int ((3 : Int32) * (n1 / (4 : Int32))))])) _
              refine XS.istore X3.here hx rfl (hb hby at_91) rfl (l' := #[.val (.int p1), .val (.int t1), .val (.int n1), .val (.int (1 : Int32)), .val (.int (n1 / (3 : Int32))), .val (.int (1 : Int32)), .val (.int ((3 : Int32) * (n1 / (4 : Int32))))]) rfl ?_
              show Steps p.tables e below (T3.setTop (mkF m 93 #[.val (.int p1), .val (.int t1), .val (.int n1), .val (.int (1 : Int32)), .val (.int (n1 / (3 : Int32))), .val (.int (1 : Int32)), .val (.int ((3 : Int32) * (n1 / (4 : Int32))))] [])) _
              refine XS.goto X3.here hx rfl (pc0 := 93) (pc' := 102) rfl (hb hby at_93) (by decide) (by decide) ?_
              show Steps p.tables e below (T3.setTop (mkF m 102 #[.val (.int p1), .val (.int t1), .val (.int n1), .val (.int (1 : Int32)), .val (.int (n1 / (3 : Int32))), .val (.int (1 : Int32)), .val (.int ((3 : Int32) * (n1 / (4 : Int32))))] [])) _
              refine XS.iloadN X3.here hx rfl (hb hby at_102) rfl ?_
              show Steps p.tables e below (T3.setTop (mkF m 103 #[.val (.int p1), .val (.int t1), .val (.int n1), .val (.int (1 : Int32)), .val (.int (n1 / (3 : Int32))), .val (.int (1 : Int32)), .val (.int ((3 : Int32) * (n1 / (4 : Int32))))] [(.int n1)])) _
              refine XS.iloadN X3.here hx rfl (hb hby at_103) rfl ?_
              exact k)
            by_cases hc24 : n1 < t1
            · have go25 : ∀ t, Steps p.tables e below (T3.setTop (mkF m 118 #[.val (.int p1), .val (.int t1), .val (.int n1), .val (.int (1 : Int32)), .val (.int (n1 / (3 : Int32))), .val (.int (1 : Int32)), .val (.int ((3 : Int32) * (n1 / (4 : Int32))))] [(.int (0 : Int32))])) t → Steps p.tables e below (s₁.setTop (entryFrame m #[(.int p1)] maxLocals)) t := fun t k => go23 t (by
                show Steps p.tables e below (T3.setTop (mkF m 104 #[.val (.int p1), .val (.int t1), .val (.int n1), .val (.int (1 : Int32)), .val (.int (n1 / (3 : Int32))), .val (.int (1 : Int32)), .val (.int ((3 : Int32) * (n1 / (4 : Int32))))] [(.int t1), (.int n1)])) _
                refine XS.icmpYes X3.here hx rfl (pc0 := 104) (pc' := 117) rfl (hb hby at_104) rfl (tlt hc24).1 (by decide) (by decide) ?_
                show Steps p.tables e below (T3.setTop (mkF m 117 #[.val (.int p1), .val (.int t1), .val (.int n1), .val (.int (1 : Int32)), .val (.int (n1 / (3 : Int32))), .val (.int (1 : Int32)), .val (.int ((3 : Int32) * (n1 / (4 : Int32))))] [])) _
                refine XS.iconst X3.here hx rfl (hb hby at_117) ?_
                exact k)
              obtain ⟨fs, hr, hrun, hended, hW, hsame⟩ := X3.leave (v := some (.int (0 : Int32))) (fun h => by rw [Bd.returns] at h; cases h)
              refine ⟨_, _, go25 _ ?_, hrun, hended, _, _, rfl, ?_, ⟨_, rfl⟩, hW, hsame.mono (by decide) (by decide)⟩
              · exact retN X3 hx (t := .boolean) Bd.returns (by simp) (hb hby at_118) hr
              · show QL n0 _ T3.heap _
                rw [e3]
                exact ⟨by exfalso; unfold own_tail at hgood; rw [if_pos hc7, if_pos hc9, if_pos hc11, if_pos hc13, if_neg hc15, if_pos hc24] at hgood; exact absurd hgood (by decide), N3⟩
            · have go26 : ∀ t, Steps p.tables e below (T3.setTop (mkF m 110 #[.val (.int p1), .val (.int t1), .val (.int n1), .val (.int (1 : Int32)), .val (.int (n1 / (3 : Int32))), .val (.int (1 : Int32)), .val (.int ((3 : Int32) * (n1 / (4 : Int32))))] [(.int t1), (.int ((3 : Int32) * (n1 / (4 : Int32))))])) t → Steps p.tables e below (s₁.setTop (entryFrame m #[(.int p1)] maxLocals)) t := fun t k => go23 t (by
                show Steps p.tables e below (T3.setTop (mkF m 104 #[.val (.int p1), .val (.int t1), .val (.int n1), .val (.int (1 : Int32)), .val (.int (n1 / (3 : Int32))), .val (.int (1 : Int32)), .val (.int ((3 : Int32) * (n1 / (4 : Int32))))] [(.int t1), (.int n1)])) _
                refine XS.icmpNo X3.here hx rfl (hb hby at_104) rfl (flt hc24).1 ?_
                show Steps p.tables e below (T3.setTop (mkF m 107 #[.val (.int p1), .val (.int t1), .val (.int n1), .val (.int (1 : Int32)), .val (.int (n1 / (3 : Int32))), .val (.int (1 : Int32)), .val (.int ((3 : Int32) * (n1 / (4 : Int32))))] [])) _
                refine XS.iload X3.here hx rfl (hb hby at_107) rfl ?_
                show Steps p.tables e below (T3.setTop (mkF m 109 #[.val (.int p1), .val (.int t1), .val (.int n1), .val (.int (1 : Int32)), .val (.int (n1 / (3 : Int32))), .val (.int (1 : Int32)), .val (.int ((3 : Int32) * (n1 / (4 : Int32))))] [(.int ((3 : Int32) * (n1 / (4 : Int32))))])) _
                refine XS.iloadN X3.here hx rfl (hb hby at_109) rfl ?_
                exact k)
              by_cases hc27 : ((3 : Int32) * (n1 / (4 : Int32))) < t1
              · have go28 : ∀ t, Steps p.tables e below (T3.setTop (mkF m 118 #[.val (.int p1), .val (.int t1), .val (.int n1), .val (.int (1 : Int32)), .val (.int (n1 / (3 : Int32))), .val (.int (1 : Int32)), .val (.int ((3 : Int32) * (n1 / (4 : Int32))))] [(.int (1 : Int32))])) t → Steps p.tables e below (s₁.setTop (entryFrame m #[(.int p1)] maxLocals)) t := fun t k => go26 t (by
                  show Steps p.tables e below (T3.setTop (mkF m 110 #[.val (.int p1), .val (.int t1), .val (.int n1), .val (.int (1 : Int32)), .val (.int (n1 / (3 : Int32))), .val (.int (1 : Int32)), .val (.int ((3 : Int32) * (n1 / (4 : Int32))))] [(.int t1), (.int ((3 : Int32) * (n1 / (4 : Int32))))])) _
                  refine XS.icmpNo X3.here hx rfl (hb hby at_110) rfl (tlt hc27).2.1 ?_
                  show Steps p.tables e below (T3.setTop (mkF m 113 #[.val (.int p1), .val (.int t1), .val (.int n1), .val (.int (1 : Int32)), .val (.int (n1 / (3 : Int32))), .val (.int (1 : Int32)), .val (.int ((3 : Int32) * (n1 / (4 : Int32))))] [])) _
                  refine XS.iconst X3.here hx rfl (hb hby at_113) ?_
                  show Steps p.tables e below (T3.setTop (mkF m 114 #[.val (.int p1), .val (.int t1), .val (.int n1), .val (.int (1 : Int32)), .val (.int (n1 / (3 : Int32))), .val (.int (1 : Int32)), .val (.int ((3 : Int32) * (n1 / (4 : Int32))))] [(.int (1 : Int32))])) _
                  refine XS.goto X3.here hx rfl (pc0 := 114) (pc' := 118) rfl (hb hby at_114) (by decide) (by decide) ?_
                  exact k)
                obtain ⟨fs, hr, hrun, hended, hW, hsame⟩ := X3.leave (v := some (.int (1 : Int32))) (fun h => by rw [Bd.returns] at h; cases h)
                refine ⟨_, _, go28 _ ?_, hrun, hended, _, _, rfl, ?_, ⟨_, rfl⟩, hW, hsame.mono (by decide) (by decide)⟩
                · exact retN X3 hx (t := .boolean) Bd.returns (by simp) (hb hby at_118) hr
                · show QL n0 _ T3.heap _
                  rw [e3]
                  exact ⟨rfl, N3⟩
              · have go29 : ∀ t, Steps p.tables e below (T3.setTop (mkF m 118 #[.val (.int p1), .val (.int t1), .val (.int n1), .val (.int (1 : Int32)), .val (.int (n1 / (3 : Int32))), .val (.int (1 : Int32)), .val (.int ((3 : Int32) * (n1 / (4 : Int32))))] [(.int (0 : Int32))])) t → Steps p.tables e below (s₁.setTop (entryFrame m #[(.int p1)] maxLocals)) t := fun t k => go26 t (by
                  show Steps p.tables e below (T3.setTop (mkF m 110 #[.val (.int p1), .val (.int t1), .val (.int n1), .val (.int (1 : Int32)), .val (.int (n1 / (3 : Int32))), .val (.int (1 : Int32)), .val (.int ((3 : Int32) * (n1 / (4 : Int32))))] [(.int t1), (.int ((3 : Int32) * (n1 / (4 : Int32))))])) _
                  refine XS.icmpYes X3.here hx rfl (pc0 := 110) (pc' := 117) rfl (hb hby at_110) rfl (flt hc27).2.1 (by decide) (by decide) ?_
                  show Steps p.tables e below (T3.setTop (mkF m 117 #[.val (.int p1), .val (.int t1), .val (.int n1), .val (.int (1 : Int32)), .val (.int (n1 / (3 : Int32))), .val (.int (1 : Int32)), .val (.int ((3 : Int32) * (n1 / (4 : Int32))))] [])) _
                  refine XS.iconst X3.here hx rfl (hb hby at_117) ?_
                  exact k)
                obtain ⟨fs, hr, hrun, hended, hW, hsame⟩ := X3.leave (v := some (.int (0 : Int32))) (fun h => by rw [Bd.returns] at h; cases h)
                refine ⟨_, _, go29 _ ?_, hrun, hended, _, _, rfl, ?_, ⟨_, rfl⟩, hW, hsame.mono (by decide) (by decide)⟩
                · exact retN X3 hx (t := .boolean) Bd.returns (by simp) (hb hby at_118) hr
                · show QL n0 _ T3.heap _
                  rw [e3]
                  exact ⟨by exfalso; unfold own_tail at hgood; rw [if_pos hc7, if_pos hc9, if_pos hc11, if_pos hc13, if_neg hc15, if_neg hc24, if_neg hc27] at hgood; exact absurd hgood (by decide), N3⟩
        · have go30 : ∀ t, Steps p.tables e below (T3.setTop (mkF m 77 #[.val (.int p1), .val (.int t1), .val (.int n1), .val (.int (1 : Int32)), .val (.int (n1 / (3 : Int32))), .val (.int (0 : Int32)), .unset] [(.int (4 : Int32)), (.int n1)])) t → Steps p.tables e below (s₁.setTop (entryFrame m #[(.int p1)] maxLocals)) t := fun t k => go12 t (by
            show Steps p.tables e below (T3.setTop (mkF m 50 #[.val (.int p1), .val (.int t1), .val (.int n1), .val (.int (1 : Int32)), .val (.int (n1 / (3 : Int32))), .unset, .unset] [(.int ((n1 / (3 : Int32)) &&& ((n1 / (3 : Int32)) - (1 : Int32))))])) _
            refine XS.ifYes X3.here hx rfl (pc0 := 50) (pc' := 57) rfl (hb hby at_50) rfl ((if0 _ _).trans (feq hc13).2) (by decide) (by decide) ?_
            show Steps p.tables e below (T3.setTop (mkF m 57 #[.val (.int p1), .val (.int t1), .val (.int n1), .val (.int (1 : Int32)), .val (.int (n1 / (3 : Int32))), .unset, .unset] [])) _
            refine XS.iconst X3.here hx rfl (hb hby at_57) ?_
            show Steps p.tables e below (T3.setTop (mkF m 58 #[.val (.int p1), .val (.int t1), .val (.int n1), .val (.int (1 : Int32)), .val (.int (n1 / (3 : Int32))), .unset, .unset] [(.int (0 : Int32))])) _
            refine XS.istore X3.here hx rfl (hb hby at_58) rfl (l' := #[.val (.int p1), .val (.int t1), .val (.int n1), .val (.int (1 : Int32)), .val (.int (n1 / (3 : Int32))), .val (.int (0 : Int32)), .unset]) rfl ?_
            show Steps p.tables e below (T3.setTop (mkF m 60 #[.val (.int p1), .val (.int t1), .val (.int n1), .val (.int (1 : Int32)), .val (.int (n1 / (3 : Int32))), .val (.int (0 : Int32)), .unset] [])) _
            refine XS.iloadN X3.here hx rfl (hb hby at_60) rfl ?_
            show Steps p.tables e below (T3.setTop (mkF m 61 #[.val (.int p1), .val (.int t1), .val (.int n1), .val (.int (1 : Int32)), .val (.int (n1 / (3 : Int32))), .val (.int (0 : Int32)), .unset] [(.int (1 : Int32))])) _
            refine XS.ifYes X3.here hx rfl (pc0 := 61) (pc' := 71) rfl (hb hby at_61) rfl ((if0 _ _).trans (feq (by decide : ¬ ((1 : Int32) = (0 : Int32)))).2) (by decide) (by decide) ?_
            show Steps p.tables e below (T3.setTop (mkF m 71 #[.val (.int p1), .val (.int t1), .val (.int n1), .val (.int (1 : Int32)), .val (.int (n1 / (3 : Int32))), .val (.int (0 : Int32)), .unset] [])) _
            refine XS.iloadN X3.here hx rfl (hb hby at_71) rfl ?_
            show Steps p.tables e below (T3.setTop (mkF m 72 #[.val (.int p1), .val (.int t1), .val (.int n1), .val (.int (1 : Int32)), .val (.int (n1 / (3 : Int32))), .val (.int (0 : Int32)), .unset] [(.int (1 : Int32))])) _
            refine XS.ifNo X3.here hx rfl (hb hby at_72) rfl ((if0 _ _).trans (feq (by decide : ¬ ((1 : Int32) = (0 : Int32)))).1) ?_
            show Steps p.tables e below (T3.setTop (mkF m 75 #[.val (.int p1), .val (.int t1), .val (.int n1), .val (.int (1 : Int32)), .val (.int (n1 / (3 : Int32))), .val (.int (0 : Int32)), .unset] [])) _
            refine XS.iloadN X3.here hx rfl (hb hby at_75) rfl ?_
            show Steps p.tables e below (T3.setTop (mkF m 76 #[.val (.int p1), .val (.int t1), .val (.int n1), .val (.int (1 : Int32)), .val (.int (n1 / (3 : Int32))), .val (.int (0 : Int32)), .unset] [(.int n1)])) _
            refine XS.iconst X3.here hx rfl (hb hby at_76) ?_
            exact k)
          by_cases hc31 : n1 < (4 : Int32)
          · have go32 : ∀ t, Steps p.tables e below (T3.setTop (mkF m 104 #[.val (.int p1), .val (.int t1), .val (.int n1), .val (.int (1 : Int32)), .val (.int (n1 / (3 : Int32))), .val (.int (0 : Int32)), .val (.int (n1 / (2 : Int32)))] [(.int t1), (.int n1)])) t → Steps p.tables e below (s₁.setTop (entryFrame m #[(.int p1)] maxLocals)) t := fun t k => go30 t (by
              show Steps p.tables e below (T3.setTop (mkF m 77 #[.val (.int p1), .val (.int t1), .val (.int n1), .val (.int (1 : Int32)), .val (.int (n1 / (3 : Int32))), .val (.int (0 : Int32)), .unset] [(.int (4 : Int32)), (.int n1)])) _
              refine XS.icmpYes X3.here hx rfl (pc0 := 77) (pc' := 88) rfl (hb hby at_77) rfl (tlt hc31).1 (by decide) (by decide) ?_
              show Steps p.tables e below (T3.setTop (mkF m 88 #[.val (.int p1), .val (.int t1), .val (.int n1), .val (.int (1 : Int32)), .val (.int (n1 / (3 : Int32))), .val (.int (0 : Int32)), .unset] [])) _
              refine XS.iloadN X3.here hx rfl (hb hby at_88) rfl ?_
              show Steps p.tables e below (T3.setTop (mkF m 89 #[.val (.int p1), .val (.int t1), .val (.int n1), .val (.int (1 : Int32)), .val (.int (n1 / (3 : Int32))), .val (.int (0 : Int32)), .unset] [(.int n1)])) _
              refine XS.iconst X3.here hx rfl (hb hby at_89) ?_
              show Steps p.tables e below (T3.setTop (mkF m 90 #[.val (.int p1), .val (.int t1), .val (.int n1), .val (.int (1 : Int32)), .val (.int (n1 / (3 : Int32))), .val (.int (0 : Int32)), .unset] [(.int (2 : Int32)), (.int n1)])) _
              refine XS.idiv X3.here hx rfl (hb hby at_90) rfl (by decide) ?_
              show Steps p.tables e below (T3.setTop (mkF m 91 #[.val (.int p1), .val (.int t1), .val (.int n1), .val (.int (1 : Int32)), .val (.int (n1 / (3 : Int32))), .val (.int (0 : Int32)), .unset] [(.int (n1 / (2 : Int32)))])) _
              refine XS.istore X3.here hx rfl (hb hby at_91) rfl (l' := #[.val (.int p1), .val (.int t1), .val (.int n1), .val (.int (1 : Int32)), .val (.int (n1 / (3 : Int32))), .val (.int (0 : Int32)), .val (.int (n1 / (2 : Int32)))]) rfl ?_
              show Steps p.tables e below (T3.setTop (mkF m 93 #[.val (.int p1), .val (.int t1), .val (.int n1), .val (.int (1 : Int32)), .val (.int (n1 / (3 : Int32))), .val (.int (0 : Int32)), .val (.int (n1 / (2 : Int32)))] [])) _
              refine XS.goto X3.here hx rfl (pc0 := 93) (pc' := 102) rfl (hb hby at_93) (by decide) (by decide) ?_
              show Steps p.tables e below (T3.setTop (mkF m 102 #[.val (.int p1), .val (.int t1), .val (.int n1), .val (.int (1 : Int32)), .val (.int (n1 / (3 : Int32))), .val (.int (0 : Int32)), .val (.int (n1 / (2 : Int32)))] [])) _
              refine XS.iloadN X3.here hx rfl (hb hby at_102) rfl ?_
              show Steps p.tables e below (T3.setTop (mkF m 103 #[.val (.int p1), .val (.int t1), .val (.int n1), .val (.int (1 : Int32)), .val (.int (n1 / (3 : Int32))), .val (.int (0 : Int32)), .val (.int (n1 / (2 : Int32)))] [(.int n1)])) _
              refine XS.iloadN X3.here hx rfl (hb hby at_103) rfl ?_
              exact k)
            by_cases hc33 : n1 < t1
            · have go34 : ∀ t, Steps p.tables e below (T3.setTop (mkF m 118 #[.val (.int p1), .val (.int t1), .val (.int n1), .val (.int (1 : Int32)), .val (.int (n1 / (3 : Int32))), .val (.int (0 : Int32)), .val (.int (n1 / (2 : Int32)))] [(.int (0 : Int32))])) t → Steps p.tables e below (s₁.setTop (entryFrame m #[(.int p1)] maxLocals)) t := fun t k => go32 t (by
                show Steps p.tables e below (T3.setTop (mkF m 104 #[.val (.int p1), .val (.int t1), .val (.int n1), .val (.int (1 : Int32)), .val (.int (n1 / (3 : Int32))), .val (.int (0 : Int32)), .val (.int (n1 / (2 : Int32)))] [(.int t1), (.int n1)])) _
                refine XS.icmpYes X3.here hx rfl (pc0 := 104) (pc' := 117) rfl (hb hby at_104) rfl (tlt hc33).1 (by decide) (by decide) ?_
                show Steps p.tables e below (T3.setTop (mkF m 117 #[.val (.int p1), .val (.int t1), .val (.int n1), .val (.int (1 : Int32)), .val (.int (n1 / (3 : Int32))), .val (.int (0 : Int32)), .val (.int (n1 / (2 : Int32)))] [])) _
                refine XS.iconst X3.here hx rfl (hb hby at_117) ?_
                exact k)
              obtain ⟨fs, hr, hrun, hended, hW, hsame⟩ := X3.leave (v := some (.int (0 : Int32))) (fun h => by rw [Bd.returns] at h; cases h)
              refine ⟨_, _, go34 _ ?_, hrun, hended, _, _, rfl, ?_, ⟨_, rfl⟩, hW, hsame.mono (by decide) (by decide)⟩
              · exact retN X3 hx (t := .boolean) Bd.returns (by simp) (hb hby at_118) hr
              · show QL n0 _ T3.heap _
                rw [e3]
                exact ⟨by exfalso; unfold own_tail at hgood; rw [if_pos hc7, if_pos hc9, if_pos hc11, if_neg hc13, if_pos hc31, if_pos hc33] at hgood; exact absurd hgood (by decide), N3⟩
            · have go35 : ∀ t, Steps p.tables e below (T3.setTop (mkF m 110 #[.val (.int p1), .val (.int t1), .val (.int n1), .val (.int (1 : Int32)), .val (.int (n1 / (3 : Int32))), .val (.int (0 : Int32)), .val (.int (n1 / (2 : Int32)))] [(.int t1), (.int (n1 / (2 : Int32)))])) t → Steps p.tables e below (s₁.setTop (entryFrame m #[(.int p1)] maxLocals)) t := fun t k => go32 t (by
                show Steps p.tables e below (T3.setTop (mkF m 104 #[.val (.int p1), .val (.int t1), .val (.int n1), .val (.int (1 : Int32)), .val (.int (n1 / (3 : Int32))), .val (.int (0 : Int32)), .val (.int (n1 / (2 : Int32)))] [(.int t1), (.int n1)])) _
                refine XS.icmpNo X3.here hx rfl (hb hby at_104) rfl (flt hc33).1 ?_
                show Steps p.tables e below (T3.setTop (mkF m 107 #[.val (.int p1), .val (.int t1), .val (.int n1), .val (.int (1 : Int32)), .val (.int (n1 / (3 : Int32))), .val (.int (0 : Int32)), .val (.int (n1 / (2 : Int32)))] [])) _
                refine XS.iload X3.here hx rfl (hb hby at_107) rfl ?_
                show Steps p.tables e below (T3.setTop (mkF m 109 #[.val (.int p1), .val (.int t1), .val (.int n1), .val (.int (1 : Int32)), .val (.int (n1 / (3 : Int32))), .val (.int (0 : Int32)), .val (.int (n1 / (2 : Int32)))] [(.int (n1 / (2 : Int32)))])) _
                refine XS.iloadN X3.here hx rfl (hb hby at_109) rfl ?_
                exact k)
              by_cases hc36 : (n1 / (2 : Int32)) < t1
              · have go37 : ∀ t, Steps p.tables e below (T3.setTop (mkF m 118 #[.val (.int p1), .val (.int t1), .val (.int n1), .val (.int (1 : Int32)), .val (.int (n1 / (3 : Int32))), .val (.int (0 : Int32)), .val (.int (n1 / (2 : Int32)))] [(.int (1 : Int32))])) t → Steps p.tables e below (s₁.setTop (entryFrame m #[(.int p1)] maxLocals)) t := fun t k => go35 t (by
                  show Steps p.tables e below (T3.setTop (mkF m 110 #[.val (.int p1), .val (.int t1), .val (.int n1), .val (.int (1 : Int32)), .val (.int (n1 / (3 : Int32))), .val (.int (0 : Int32)), .val (.int (n1 / (2 : Int32)))] [(.int t1), (.int (n1 / (2 : Int32)))])) _
                  refine XS.icmpNo X3.here hx rfl (hb hby at_110) rfl (tlt hc36).2.1 ?_
                  show Steps p.tables e below (T3.setTop (mkF m 113 #[.val (.int p1), .val (.int t1), .val (.int n1), .val (.int (1 : Int32)), .val (.int (n1 / (3 : Int32))), .val (.int (0 : Int32)), .val (.int (n1 / (2 : Int32)))] [])) _
                  refine XS.iconst X3.here hx rfl (hb hby at_113) ?_
                  show Steps p.tables e below (T3.setTop (mkF m 114 #[.val (.int p1), .val (.int t1), .val (.int n1), .val (.int (1 : Int32)), .val (.int (n1 / (3 : Int32))), .val (.int (0 : Int32)), .val (.int (n1 / (2 : Int32)))] [(.int (1 : Int32))])) _
                  refine XS.goto X3.here hx rfl (pc0 := 114) (pc' := 118) rfl (hb hby at_114) (by decide) (by decide) ?_
                  exact k)
                obtain ⟨fs, hr, hrun, hended, hW, hsame⟩ := X3.leave (v := some (.int (1 : Int32))) (fun h => by rw [Bd.returns] at h; cases h)
                refine ⟨_, _, go37 _ ?_, hrun, hended, _, _, rfl, ?_, ⟨_, rfl⟩, hW, hsame.mono (by decide) (by decide)⟩
                · exact retN X3 hx (t := .boolean) Bd.returns (by simp) (hb hby at_118) hr
                · show QL n0 _ T3.heap _
                  rw [e3]
                  exact ⟨rfl, N3⟩
              · have go38 : ∀ t, Steps p.tables e below (T3.setTop (mkF m 118 #[.val (.int p1), .val (.int t1), .val (.int n1), .val (.int (1 : Int32)), .val (.int (n1 / (3 : Int32))), .val (.int (0 : Int32)), .val (.int (n1 / (2 : Int32)))] [(.int (0 : Int32))])) t → Steps p.tables e below (s₁.setTop (entryFrame m #[(.int p1)] maxLocals)) t := fun t k => go35 t (by
                  show Steps p.tables e below (T3.setTop (mkF m 110 #[.val (.int p1), .val (.int t1), .val (.int n1), .val (.int (1 : Int32)), .val (.int (n1 / (3 : Int32))), .val (.int (0 : Int32)), .val (.int (n1 / (2 : Int32)))] [(.int t1), (.int (n1 / (2 : Int32)))])) _
                  refine XS.icmpYes X3.here hx rfl (pc0 := 110) (pc' := 117) rfl (hb hby at_110) rfl (flt hc36).2.1 (by decide) (by decide) ?_
                  show Steps p.tables e below (T3.setTop (mkF m 117 #[.val (.int p1), .val (.int t1), .val (.int n1), .val (.int (1 : Int32)), .val (.int (n1 / (3 : Int32))), .val (.int (0 : Int32)), .val (.int (n1 / (2 : Int32)))] [])) _
                  refine XS.iconst X3.here hx rfl (hb hby at_117) ?_
                  exact k)
                obtain ⟨fs, hr, hrun, hended, hW, hsame⟩ := X3.leave (v := some (.int (0 : Int32))) (fun h => by rw [Bd.returns] at h; cases h)
                refine ⟨_, _, go38 _ ?_, hrun, hended, _, _, rfl, ?_, ⟨_, rfl⟩, hW, hsame.mono (by decide) (by decide)⟩
                · exact retN X3 hx (t := .boolean) Bd.returns (by simp) (hb hby at_118) hr
                · show QL n0 _ T3.heap _
                  rw [e3]
                  exact ⟨by exfalso; unfold own_tail at hgood; rw [if_pos hc7, if_pos hc9, if_pos hc11, if_neg hc13, if_pos hc31, if_neg hc33, if_neg hc36] at hgood; exact absurd hgood (by decide), N3⟩
          · have go39 : ∀ t, Steps p.tables e below (T3.setTop (mkF m 104 #[.val (.int p1), .val (.int t1), .val (.int n1), .val (.int (1 : Int32)), .val (.int (n1 / (3 : Int32))), .val (.int (0 : Int32)), .val (.int ((3 : Int32) * (n1 / (4 : Int32))))] [(.int t1), (.int n1)])) t → Steps p.tables e below (s₁.setTop (entryFrame m #[(.int p1)] maxLocals)) t := fun t k => go30 t (by
              show Steps p.tables e below (T3.setTop (mkF m 77 #[.val (.int p1), .val (.int t1), .val (.int n1), .val (.int (1 : Int32)), .val (.int (n1 / (3 : Int32))), .val (.int (0 : Int32)), .unset] [(.int (4 : Int32)), (.int n1)])) _
              refine XS.icmpNo X3.here hx rfl (hb hby at_77) rfl (flt hc31).1 ?_
              show Steps p.tables e below (T3.setTop (mkF m 80 #[.val (.int p1), .val (.int t1), .val (.int n1), .val (.int (1 : Int32)), .val (.int (n1 / (3 : Int32))), .val (.int (0 : Int32)), .unset] [])) _
              refine XS.iconst X3.here hx rfl (hb hby at_80) ?_
              show Steps p.tables e below (T3.setTop (mkF m 81 #[.val (.int p1), .val (.int t1), .val (.int n1), .val (.int (1 : Int32)), .val (.int (n1 / (3 : Int32))), .val (.int (0 : Int32)), .unset] [(.int (3 : Int32))])) _
              refine XS.iloadN X3.here hx rfl (hb hby at_81) rfl ?_
              show Steps p.tables e below (T3.setTop (mkF m 82 #[.val (.int p1), .val (.int t1), .val (.int n1), .val (.int (1 : Int32)), .val (.int (n1 / (3 : Int32))), .val (.int (0 : Int32)), .unset] [(.int n1), (.int (3 : Int32))])) _
              refine XS.iconst X3.here hx rfl (hb hby at_82) ?_
              show Steps p.tables e below (T3.setTop (mkF m 83 #[.val (.int p1), .val (.int t1), .val (.int n1), .val (.int (1 : Int32)), .val (.int (n1 / (3 : Int32))), .val (.int (0 : Int32)), .unset] [(.int (4 : Int32)), (.int n1), (.int (3 : Int32))])) _
              refine XS.idiv X3.here hx rfl (hb hby at_83) rfl (by decide) ?_
              show Steps p.tables e below (T3.setTop (mkF m 84 #[.val (.int p1), .val (.int t1), .val (.int n1), .val (.int (1 : Int32)), .val (.int (n1 / (3 : Int32))), .val (.int (0 : Int32)), .unset] [(.int (n1 / (4 : Int32))), (.int (3 : Int32))])) _
              refine XS.imul X3.here hx rfl (hb hby at_84) rfl ?_
              show Steps p.tables e below (T3.setTop (mkF m 85 #[.val (.int p1), .val (.int t1), .val (.int n1), .val (.int (1 : Int32)), .val (.int (n1 / (3 : Int32))), .val (.int (0 : Int32)), .unset] [(.int ((3 : Int32) * (n1 / (4 : Int32))))])) _
              refine XS.goto X3.here hx rfl (pc0 := 85) (pc' := 91) rfl (hb hby at_85) (by decide) (by decide) ?_
              show Steps p.tables e below (T3.setTop (mkF m 91 #[.val (.int p1), .val (.int t1), .val (.int n1), .val (.int (1 : Int32)), .val (.int (n1 / (3 : Int32))), .val (.int (0 : Int32)), .unset] [(.int ((3 : Int32) * (n1 / (4 : Int32))))])) _
              refine XS.istore X3.here hx rfl (hb hby at_91) rfl (l' := #[.val (.int p1), .val (.int t1), .val (.int n1), .val (.int (1 : Int32)), .val (.int (n1 / (3 : Int32))), .val (.int (0 : Int32)), .val (.int ((3 : Int32) * (n1 / (4 : Int32))))]) rfl ?_
              show Steps p.tables e below (T3.setTop (mkF m 93 #[.val (.int p1), .val (.int t1), .val (.int n1), .val (.int (1 : Int32)), .val (.int (n1 / (3 : Int32))), .val (.int (0 : Int32)), .val (.int ((3 : Int32) * (n1 / (4 : Int32))))] [])) _
              refine XS.goto X3.here hx rfl (pc0 := 93) (pc' := 102) rfl (hb hby at_93) (by decide) (by decide) ?_
              show Steps p.tables e below (T3.setTop (mkF m 102 #[.val (.int p1), .val (.int t1), .val (.int n1), .val (.int (1 : Int32)), .val (.int (n1 / (3 : Int32))), .val (.int (0 : Int32)), .val (.int ((3 : Int32) * (n1 / (4 : Int32))))] [])) _
              refine XS.iloadN X3.here hx rfl (hb hby at_102) rfl ?_
              show Steps p.tables e below (T3.setTop (mkF m 103 #[.val (.int p1), .val (.int t1), .val (.int n1), .val (.int (1 : Int32)), .val (.int (n1 / (3 : Int32))), .val (.int (0 : Int32)), .val (.int ((3 : Int32) * (n1 / (4 : Int32))))] [(.int n1)])) _
              refine XS.iloadN X3.here hx rfl (hb hby at_103) rfl ?_
              exact k)
            by_cases hc40 : n1 < t1
            · have go41 : ∀ t, Steps p.tables e below (T3.setTop (mkF m 118 #[.val (.int p1), .val (.int t1), .val (.int n1), .val (.int (1 : Int32)), .val (.int (n1 / (3 : Int32))), .val (.int (0 : Int32)), .val (.int ((3 : Int32) * (n1 / (4 : Int32))))] [(.int (0 : Int32))])) t → Steps p.tables e below (s₁.setTop (entryFrame m #[(.int p1)] maxLocals)) t := fun t k => go39 t (by
                show Steps p.tables e below (T3.setTop (mkF m 104 #[.val (.int p1), .val (.int t1), .val (.int n1), .val (.int (1 : Int32)), .val (.int (n1 / (3 : Int32))), .val (.int (0 : Int32)), .val (.int ((3 : Int32) * (n1 / (4 : Int32))))] [(.int t1), (.int n1)])) _
                refine XS.icmpYes X3.here hx rfl (pc0 := 104) (pc' := 117) rfl (hb hby at_104) rfl (tlt hc40).1 (by decide) (by decide) ?_
                show Steps p.tables e below (T3.setTop (mkF m 117 #[.val (.int p1), .val (.int t1), .val (.int n1), .val (.int (1 : Int32)), .val (.int (n1 / (3 : Int32))), .val (.int (0 : Int32)), .val (.int ((3 : Int32) * (n1 / (4 : Int32))))] [])) _
                refine XS.iconst X3.here hx rfl (hb hby at_117) ?_
                exact k)
              obtain ⟨fs, hr, hrun, hended, hW, hsame⟩ := X3.leave (v := some (.int (0 : Int32))) (fun h => by rw [Bd.returns] at h; cases h)
              refine ⟨_, _, go41 _ ?_, hrun, hended, _, _, rfl, ?_, ⟨_, rfl⟩, hW, hsame.mono (by decide) (by decide)⟩
              · exact retN X3 hx (t := .boolean) Bd.returns (by simp) (hb hby at_118) hr
              · show QL n0 _ T3.heap _
                rw [e3]
                exact ⟨by exfalso; unfold own_tail at hgood; rw [if_pos hc7, if_pos hc9, if_pos hc11, if_neg hc13, if_neg hc31, if_pos hc40] at hgood; exact absurd hgood (by decide), N3⟩
            · have go42 : ∀ t, Steps p.tables e below (T3.setTop (mkF m 110 #[.val (.int p1), .val (.int t1), .val (.int n1), .val (.int (1 : Int32)), .val (.int (n1 / (3 : Int32))), .val (.int (0 : Int32)), .val (.int ((3 : Int32) * (n1 / (4 : Int32))))] [(.int t1), (.int ((3 : Int32) * (n1 / (4 : Int32))))])) t → Steps p.tables e below (s₁.setTop (entryFrame m #[(.int p1)] maxLocals)) t := fun t k => go39 t (by
                show Steps p.tables e below (T3.setTop (mkF m 104 #[.val (.int p1), .val (.int t1), .val (.int n1), .val (.int (1 : Int32)), .val (.int (n1 / (3 : Int32))), .val (.int (0 : Int32)), .val (.int ((3 : Int32) * (n1 / (4 : Int32))))] [(.int t1), (.int n1)])) _
                refine XS.icmpNo X3.here hx rfl (hb hby at_104) rfl (flt hc40).1 ?_
                show Steps p.tables e below (T3.setTop (mkF m 107 #[.val (.int p1), .val (.int t1), .val (.int n1), .val (.int (1 : Int32)), .val (.int (n1 / (3 : Int32))), .val (.int (0 : Int32)), .val (.int ((3 : Int32) * (n1 / (4 : Int32))))] [])) _
                refine XS.iload X3.here hx rfl (hb hby at_107) rfl ?_
                show Steps p.tables e below (T3.setTop (mkF m 109 #[.val (.int p1), .val (.int t1), .val (.int n1), .val (.int (1 : Int32)), .val (.int (n1 / (3 : Int32))), .val (.int (0 : Int32)), .val (.int ((3 : Int32) * (n1 / (4 : Int32))))] [(.int ((3 : Int32) * (n1 / (4 : Int32))))])) _
                refine XS.iloadN X3.here hx rfl (hb hby at_109) rfl ?_
                exact k)
              by_cases hc43 : ((3 : Int32) * (n1 / (4 : Int32))) < t1
              · have go44 : ∀ t, Steps p.tables e below (T3.setTop (mkF m 118 #[.val (.int p1), .val (.int t1), .val (.int n1), .val (.int (1 : Int32)), .val (.int (n1 / (3 : Int32))), .val (.int (0 : Int32)), .val (.int ((3 : Int32) * (n1 / (4 : Int32))))] [(.int (1 : Int32))])) t → Steps p.tables e below (s₁.setTop (entryFrame m #[(.int p1)] maxLocals)) t := fun t k => go42 t (by
                  show Steps p.tables e below (T3.setTop (mkF m 110 #[.val (.int p1), .val (.int t1), .val (.int n1), .val (.int (1 : Int32)), .val (.int (n1 / (3 : Int32))), .val (.int (0 : Int32)), .val (.int ((3 : Int32) * (n1 / (4 : Int32))))] [(.int t1), (.int ((3 : Int32) * (n1 / (4 : Int32))))])) _
                  refine XS.icmpNo X3.here hx rfl (hb hby at_110) rfl (tlt hc43).2.1 ?_
                  show Steps p.tables e below (T3.setTop (mkF m 113 #[.val (.int p1), .val (.int t1), .val (.int n1), .val (.int (1 : Int32)), .val (.int (n1 / (3 : Int32))), .val (.int (0 : Int32)), .val (.int ((3 : Int32) * (n1 / (4 : Int32))))] [])) _
                  refine XS.iconst X3.here hx rfl (hb hby at_113) ?_
                  show Steps p.tables e below (T3.setTop (mkF m 114 #[.val (.int p1), .val (.int t1), .val (.int n1), .val (.int (1 : Int32)), .val (.int (n1 / (3 : Int32))), .val (.int (0 : Int32)), .val (.int ((3 : Int32) * (n1 / (4 : Int32))))] [(.int (1 : Int32))])) _
                  refine XS.goto X3.here hx rfl (pc0 := 114) (pc' := 118) rfl (hb hby at_114) (by decide) (by decide) ?_
                  exact k)
                obtain ⟨fs, hr, hrun, hended, hW, hsame⟩ := X3.leave (v := some (.int (1 : Int32))) (fun h => by rw [Bd.returns] at h; cases h)
                refine ⟨_, _, go44 _ ?_, hrun, hended, _, _, rfl, ?_, ⟨_, rfl⟩, hW, hsame.mono (by decide) (by decide)⟩
                · exact retN X3 hx (t := .boolean) Bd.returns (by simp) (hb hby at_118) hr
                · show QL n0 _ T3.heap _
                  rw [e3]
                  exact ⟨rfl, N3⟩
              · have go45 : ∀ t, Steps p.tables e below (T3.setTop (mkF m 118 #[.val (.int p1), .val (.int t1), .val (.int n1), .val (.int (1 : Int32)), .val (.int (n1 / (3 : Int32))), .val (.int (0 : Int32)), .val (.int ((3 : Int32) * (n1 / (4 : Int32))))] [(.int (0 : Int32))])) t → Steps p.tables e below (s₁.setTop (entryFrame m #[(.int p1)] maxLocals)) t := fun t k => go42 t (by
                  show Steps p.tables e below (T3.setTop (mkF m 110 #[.val (.int p1), .val (.int t1), .val (.int n1), .val (.int (1 : Int32)), .val (.int (n1 / (3 : Int32))), .val (.int (0 : Int32)), .val (.int ((3 : Int32) * (n1 / (4 : Int32))))] [(.int t1), (.int ((3 : Int32) * (n1 / (4 : Int32))))])) _
                  refine XS.icmpYes X3.here hx rfl (pc0 := 110) (pc' := 117) rfl (hb hby at_110) rfl (flt hc43).2.1 (by decide) (by decide) ?_
                  show Steps p.tables e below (T3.setTop (mkF m 117 #[.val (.int p1), .val (.int t1), .val (.int n1), .val (.int (1 : Int32)), .val (.int (n1 / (3 : Int32))), .val (.int (0 : Int32)), .val (.int ((3 : Int32) * (n1 / (4 : Int32))))] [])) _
                  refine XS.iconst X3.here hx rfl (hb hby at_117) ?_
                  exact k)
                obtain ⟨fs, hr, hrun, hended, hW, hsame⟩ := X3.leave (v := some (.int (0 : Int32))) (fun h => by rw [Bd.returns] at h; cases h)
                refine ⟨_, _, go45 _ ?_, hrun, hended, _, _, rfl, ?_, ⟨_, rfl⟩, hW, hsame.mono (by decide) (by decide)⟩
                · exact retN X3 hx (t := .boolean) Bd.returns (by simp) (hb hby at_118) hr
                · show QL n0 _ T3.heap _
                  rw [e3]
                  exact ⟨by exfalso; unfold own_tail at hgood; rw [if_pos hc7, if_pos hc9, if_pos hc11, if_neg hc13, if_neg hc31, if_neg hc40, if_neg hc43] at hgood; exact absurd hgood (by decide), N3⟩
      · have go46 : ∀ t, Steps p.tables e below (T3.setTop (mkF m 77 #[.val (.int p1), .val (.int t1), .val (.int n1), .val (.int (1 : Int32)), .val (.int (n1 / (3 : Int32))), .val (.int (0 : Int32)), .unset] [(.int (4 : Int32)), (.int n1)])) t → Steps p.tables e below (s₁.setTop (entryFrame m #[(.int p1)] maxLocals)) t := fun t k => go10 t (by
          show Steps p.tables e below (T3.setTop (mkF m 40 #[.val (.int p1), .val (.int t1), .val (.int n1), .val (.int (1 : Int32)), .val (.int (n1 / (3 : Int32))), .unset, .unset] [(.int (n1 % (3 : Int32)))])) _
          refine XS.ifYes X3.here hx rfl (pc0 := 40) (pc' := 57) rfl (hb hby at_40) rfl ((if0 _ _).trans (feq hc11).2) (by decide) (by decide) ?_
          show Steps p.tables e below (T3.setTop (mkF m 57 #[.val (.int p1), .val (.int t1), .val (.int n1), .val (.int (1 : Int32)), .val (.int (n1 / (3 : Int32))), .unset, .unset] [])) _
          refine XS.iconst X3.here hx rfl (hb hby at_57) ?_
          show Steps p.tables e below (T3.setTop (mkF m 58 #[.val (.int p1), .val (.int t1), .val (.int n1), .val (.int (1 : Int32)), .val (.int (n1 / (3 : Int32))), .unset, .unset] [(.int (0 : Int32))])) _
          refine XS.istore X3.here hx rfl (hb hby at_58) rfl (l' := #[.val (.int p1), .val (.int t1), .val (.int n1), .val (.int (1 : Int32)), .val (.int (n1 / (3 : Int32))), .val (.int (0 : Int32)), .unset]) rfl ?_
          show Steps p.tables e below (T3.setTop (mkF m 60 #[.val (.int p1), .val (.int t1), .val (.int n1), .val (.int (1 : Int32)), .val (.int (n1 / (3 : Int32))), .val (.int (0 : Int32)), .unset] [])) _
          refine XS.iloadN X3.here hx rfl (hb hby at_60) rfl ?_
          show Steps p.tables e below (T3.setTop (mkF m 61 #[.val (.int p1), .val (.int t1), .val (.int n1), .val (.int (1 : Int32)), .val (.int (n1 / (3 : Int32))), .val (.int (0 : Int32)), .unset] [(.int (1 : Int32))])) _
          refine XS.ifYes X3.here hx rfl (pc0 := 61) (pc' := 71) rfl (hb hby at_61) rfl ((if0 _ _).trans (feq (by decide : ¬ ((1 : Int32) = (0 : Int32)))).2) (by decide) (by decide) ?_
          show Steps p.tables e below (T3.setTop (mkF m 71 #[.val (.int p1), .val (.int t1), .val (.int n1), .val (.int (1 : Int32)), .val (.int (n1 / (3 : Int32))), .val (.int (0 : Int32)), .unset] [])) _
          refine XS.iloadN X3.here hx rfl (hb hby at_71) rfl ?_
          show Steps p.tables e below (T3.setTop (mkF m 72 #[.val (.int p1), .val (.int t1), .val (.int n1), .val (.int (1 : Int32)), .val (.int (n1 / (3 : Int32))), .val (.int (0 : Int32)), .unset] [(.int (1 : Int32))])) _
          refine XS.ifNo X3.here hx rfl (hb hby at_72) rfl ((if0 _ _).trans (feq (by decide : ¬ ((1 : Int32) = (0 : Int32)))).1) ?_
          show Steps p.tables e below (T3.setTop (mkF m 75 #[.val (.int p1), .val (.int t1), .val (.int n1), .val (.int (1 : Int32)), .val (.int (n1 / (3 : Int32))), .val (.int (0 : Int32)), .unset] [])) _
          refine XS.iloadN X3.here hx rfl (hb hby at_75) rfl ?_
          show Steps p.tables e below (T3.setTop (mkF m 76 #[.val (.int p1), .val (.int t1), .val (.int n1), .val (.int (1 : Int32)), .val (.int (n1 / (3 : Int32))), .val (.int (0 : Int32)), .unset] [(.int n1)])) _
          refine XS.iconst X3.here hx rfl (hb hby at_76) ?_
          exact k)
        by_cases hc47 : n1 < (4 : Int32)
        · have go48 : ∀ t, Steps p.tables e below (T3.setTop (mkF m 104 #[.val (.int p1), .val (.int t1), .val (.int n1), .val (.int (1 : Int32)), .val (.int (n1 / (3 : Int32))), .val (.int (0 : Int32)), .val (.int (n1 / (2 : Int32)))] [(.int t1), (.int n1)])) t → Steps p.tables e below (s₁.setTop (entryFrame m #[(.int p1)] maxLocals)) t := fun t k => go46 t (by
            show Steps p.tables e below (T3.setTop (mkF m 77 #[.val (.int p1), .val (.int t1), .val (.int n1), .val (.int (1 : Int32)), .val (.int (n1 / (3 : Int32))), .val (.int (0 : Int32)), .unset] [(.int (4 : Int32)), (.int n1)])) _
            refine XS.icmpYes X3.here hx rfl (pc0 := 77) (pc' := 88) rfl (hb hby at_77) rfl (tlt hc47).1 (by decide) (by decide) ?_
            show Steps p.tables e below (T3.setTop (mkF m 88 #[.val (.int p1), .val (.int t1), .val (.int n1), .val (.int (1 : Int32)), .val (.int (n1 / (3 : Int32))), .val (.int (0 : Int32)), .unset] [])) _
            refine XS.iloadN X3.here hx rfl (hb hby at_88) rfl ?_
            show Steps p.tables e below (T3.setTop (mkF m 89 #[.val (.int p1), .val (.int t1), .val (.int n1), .val (.int (1 : Int32)), .val (.int (n1 / (3 : Int32))), .val (.int (0 : Int32)), .unset] [(.int n1)])) _
            refine XS.iconst X3.here hx rfl (hb hby at_89) ?_
            show Steps p.tables e below (T3.setTop (mkF m 90 #[.val (.int p1), .val (.int t1), .val (.int n1), .val (.int (1 : Int32)), .val (.int (n1 / (3 : Int32))), .val (.int (0 : Int32)), .unset] [(.int (2 : Int32)), (.int n1)])) _
            refine XS.idiv X3.here hx rfl (hb hby at_90) rfl (by decide) ?_
            show Steps p.tables e below (T3.setTop (mkF m 91 #[.val (.int p1), .val (.int t1), .val (.int n1), .val (.int (1 : Int32)), .val (.int (n1 / (3 : Int32))), .val (.int (0 : Int32)), .unset] [(.int (n1 / (2 : Int32)))])) _
            refine XS.istore X3.here hx rfl (hb hby at_91) rfl (l' := #[.val (.int p1), .val (.int t1), .val (.int n1), .val (.int (1 : Int32)), .val (.int (n1 / (3 : Int32))), .val (.int (0 : Int32)), .val (.int (n1 / (2 : Int32)))]) rfl ?_
            show Steps p.tables e below (T3.setTop (mkF m 93 #[.val (.int p1), .val (.int t1), .val (.int n1), .val (.int (1 : Int32)), .val (.int (n1 / (3 : Int32))), .val (.int (0 : Int32)), .val (.int (n1 / (2 : Int32)))] [])) _
            refine XS.goto X3.here hx rfl (pc0 := 93) (pc' := 102) rfl (hb hby at_93) (by decide) (by decide) ?_
            show Steps p.tables e below (T3.setTop (mkF m 102 #[.val (.int p1), .val (.int t1), .val (.int n1), .val (.int (1 : Int32)), .val (.int (n1 / (3 : Int32))), .val (.int (0 : Int32)), .val (.int (n1 / (2 : Int32)))] [])) _
            refine XS.iloadN X3.here hx rfl (hb hby at_102) rfl ?_
            show Steps p.tables e below (T3.setTop (mkF m 103 #[.val (.int p1), .val (.int t1), .val (.int n1), .val (.int (1 : Int32)), .val (.int (n1 / (3 : Int32))), .val (.int (0 : Int32)), .val (.int (n1 / (2 : Int32)))] [(.int n1)])) _
            refine XS.iloadN X3.here hx rfl (hb hby at_103) rfl ?_
            exact k)
          by_cases hc49 : n1 < t1
          · have go50 : ∀ t, Steps p.tables e below (T3.setTop (mkF m 118 #[.val (.int p1), .val (.int t1), .val (.int n1), .val (.int (1 : Int32)), .val (.int (n1 / (3 : Int32))), .val (.int (0 : Int32)), .val (.int (n1 / (2 : Int32)))] [(.int (0 : Int32))])) t → Steps p.tables e below (s₁.setTop (entryFrame m #[(.int p1)] maxLocals)) t := fun t k => go48 t (by
              show Steps p.tables e below (T3.setTop (mkF m 104 #[.val (.int p1), .val (.int t1), .val (.int n1), .val (.int (1 : Int32)), .val (.int (n1 / (3 : Int32))), .val (.int (0 : Int32)), .val (.int (n1 / (2 : Int32)))] [(.int t1), (.int n1)])) _
              refine XS.icmpYes X3.here hx rfl (pc0 := 104) (pc' := 117) rfl (hb hby at_104) rfl (tlt hc49).1 (by decide) (by decide) ?_
              show Steps p.tables e below (T3.setTop (mkF m 117 #[.val (.int p1), .val (.int t1), .val (.int n1), .val (.int (1 : Int32)), .val (.int (n1 / (3 : Int32))), .val (.int (0 : Int32)), .val (.int (n1 / (2 : Int32)))] [])) _
              refine XS.iconst X3.here hx rfl (hb hby at_117) ?_
              exact k)
            obtain ⟨fs, hr, hrun, hended, hW, hsame⟩ := X3.leave (v := some (.int (0 : Int32))) (fun h => by rw [Bd.returns] at h; cases h)
            refine ⟨_, _, go50 _ ?_, hrun, hended, _, _, rfl, ?_, ⟨_, rfl⟩, hW, hsame.mono (by decide) (by decide)⟩
            · exact retN X3 hx (t := .boolean) Bd.returns (by simp) (hb hby at_118) hr
            · show QL n0 _ T3.heap _
              rw [e3]
              exact ⟨by exfalso; unfold own_tail at hgood; rw [if_pos hc7, if_pos hc9, if_neg hc11, if_pos hc47, if_pos hc49] at hgood; exact absurd hgood (by decide), N3⟩
          · have go51 : ∀ t, Steps p.tables e below (T3.setTop (mkF m 110 #[.val (.int p1), .val (.int t1), .val (.int n1), .val (.int (1 : Int32)), .val (.int (n1 / (3 : Int32))), .val (.int (0 : Int32)), .val (.int (n1 / (2 : Int32)))] [(.int t1), (.int (n1 / (2 : Int32)))])) t → Steps p.tables e below (s₁.setTop (entryFrame m #[(.int p1)] maxLocals)) t := fun t k => go48 t (by
              show Steps p.tables e below (T3.setTop (mkF m 104 #[.val (.int p1), .val (.int t1), .val (.int n1), .val (.int (1 : Int32)), .val (.int (n1 / (3 : Int32))), .val (.int (0 : Int32)), .val (.int (n1 / (2 : Int32)))] [(.int t1), (.int n1)])) _
              refine XS.icmpNo X3.here hx rfl (hb hby at_104) rfl (flt hc49).1 ?_
              show Steps p.tables e below (T3.setTop (mkF m 107 #[.val (.int p1), .val (.int t1), .val (.int n1), .val (.int (1 : Int32)), .val (.int (n1 / (3 : Int32))), .val (.int (0 : Int32)), .val (.int (n1 / (2 : Int32)))] [])) _
              refine XS.iload X3.here hx rfl (hb hby at_107) rfl ?_
              show Steps p.tables e below (T3.setTop (mkF m 109 #[.val (.int p1), .val (.int t1), .val (.int n1), .val (.int (1 : Int32)), .val (.int (n1 / (3 : Int32))), .val (.int (0 : Int32)), .val (.int (n1 / (2 : Int32)))] [(.int (n1 / (2 : Int32)))])) _
              refine XS.iloadN X3.here hx rfl (hb hby at_109) rfl ?_
              exact k)
            by_cases hc52 : (n1 / (2 : Int32)) < t1
            · have go53 : ∀ t, Steps p.tables e below (T3.setTop (mkF m 118 #[.val (.int p1), .val (.int t1), .val (.int n1), .val (.int (1 : Int32)), .val (.int (n1 / (3 : Int32))), .val (.int (0 : Int32)), .val (.int (n1 / (2 : Int32)))] [(.int (1 : Int32))])) t → Steps p.tables e below (s₁.setTop (entryFrame m #[(.int p1)] maxLocals)) t := fun t k => go51 t (by
                show Steps p.tables e below (T3.setTop (mkF m 110 #[.val (.int p1), .val (.int t1), .val (.int n1), .val (.int (1 : Int32)), .val (.int (n1 / (3 : Int32))), .val (.int (0 : Int32)), .val (.int (n1 / (2 : Int32)))] [(.int t1), (.int (n1 / (2 : Int32)))])) _
                refine XS.icmpNo X3.here hx rfl (hb hby at_110) rfl (tlt hc52).2.1 ?_
                show Steps p.tables e below (T3.setTop (mkF m 113 #[.val (.int p1), .val (.int t1), .val (.int n1), .val (.int (1 : Int32)), .val (.int (n1 / (3 : Int32))), .val (.int (0 : Int32)), .val (.int (n1 / (2 : Int32)))] [])) _
                refine XS.iconst X3.here hx rfl (hb hby at_113) ?_
                show Steps p.tables e below (T3.setTop (mkF m 114 #[.val (.int p1), .val (.int t1), .val (.int n1), .val (.int (1 : Int32)), .val (.int (n1 / (3 : Int32))), .val (.int (0 : Int32)), .val (.int (n1 / (2 : Int32)))] [(.int (1 : Int32))])) _
                refine XS.goto X3.here hx rfl (pc0 := 114) (pc' := 118) rfl (hb hby at_114) (by decide) (by decide) ?_
                exact k)
              obtain ⟨fs, hr, hrun, hended, hW, hsame⟩ := X3.leave (v := some (.int (1 : Int32))) (fun h => by rw [Bd.returns] at h; cases h)
              refine ⟨_, _, go53 _ ?_, hrun, hended, _, _, rfl, ?_, ⟨_, rfl⟩, hW, hsame.mono (by decide) (by decide)⟩
              · exact retN X3 hx (t := .boolean) Bd.returns (by simp) (hb hby at_118) hr
              · show QL n0 _ T3.heap _
                rw [e3]
                exact ⟨rfl, N3⟩
            · have go54 : ∀ t, Steps p.tables e below (T3.setTop (mkF m 118 #[.val (.int p1), .val (.int t1), .val (.int n1), .val (.int (1 : Int32)), .val (.int (n1 / (3 : Int32))), .val (.int (0 : Int32)), .val (.int (n1 / (2 : Int32)))] [(.int (0 : Int32))])) t → Steps p.tables e below (s₁.setTop (entryFrame m #[(.int p1)] maxLocals)) t := fun t k => go51 t (by
                show Steps p.tables e below (T3.setTop (mkF m 110 #[.val (.int p1), .val (.int t1), .val (.int n1), .val (.int (1 : Int32)), .val (.int (n1 / (3 : Int32))), .val (.int (0 : Int32)), .val (.int (n1 / (2 : Int32)))] [(.int t1), (.int (n1 / (2 : Int32)))])) _
                refine XS.icmpYes X3.here hx rfl (pc0 := 110) (pc' := 117) rfl (hb hby at_110) rfl (flt hc52).2.1 (by decide) (by decide) ?_
                show Steps p.tables e below (T3.setTop (mkF m 117 #[.val (.int p1), .val (.int t1), .val (.int n1), .val (.int (1 : Int32)), .val (.int (n1 / (3 : Int32))), .val (.int (0 : Int32)), .val (.int (n1 / (2 : Int32)))] [])) _
                refine XS.iconst X3.here hx rfl (hb hby at_117) ?_
                exact k)
              obtain ⟨fs, hr, hrun, hended, hW, hsame⟩ := X3.leave (v := some (.int (0 : Int32))) (fun h => by rw [Bd.returns] at h; cases h)
              refine ⟨_, _, go54 _ ?_, hrun, hended, _, _, rfl, ?_, ⟨_, rfl⟩, hW, hsame.mono (by decide) (by decide)⟩
              · exact retN X3 hx (t := .boolean) Bd.returns (by simp) (hb hby at_118) hr
              · show QL n0 _ T3.heap _
                rw [e3]
                exact ⟨by exfalso; unfold own_tail at hgood; rw [if_pos hc7, if_pos hc9, if_neg hc11, if_pos hc47, if_neg hc49, if_neg hc52] at hgood; exact absurd hgood (by decide), N3⟩
        · have go55 : ∀ t, Steps p.tables e below (T3.setTop (mkF m 104 #[.val (.int p1), .val (.int t1), .val (.int n1), .val (.int (1 : Int32)), .val (.int (n1 / (3 : Int32))), .val (.int (0 : Int32)), .val (.int ((3 : Int32) * (n1 / (4 : Int32))))] [(.int t1), (.int n1)])) t → Steps p.tables e below (s₁.setTop (entryFrame m #[(.int p1)] maxLocals)) t := fun t k => go46 t (by
            show Steps p.tables e below (T3.setTop (mkF m 77 #[.val (.int p1), .val (.int t1), .val (.int n1), .val (.int (1 : Int32)), .val (.int (n1 / (3 : Int32))), .val (.int (0 : Int32)), .unset] [(.int (4 : Int32)), (.int n1)])) _
            refine XS.icmpNo X3.here hx rfl (hb hby at_77) rfl (flt hc47).1 ?_
            show Steps p.tables e below (T3.setTop (mkF m 80 #[.val (.int p1), .val (.int t1), .val (.int n1), .val (.int (1 : Int32)), .val (.int (n1 / (3 : Int32))), .val (.int (0 : Int32)), .unset] [])) _
            refine XS.iconst X3.here hx rfl (hb hby at_80) ?_
            show Steps p.tables e below (T3.setTop (mkF m 81 #[.val (.int p1), .val (.int t1), .val (.int n1), .val (.int (1 : Int32)), .val (.int (n1 / (3 : Int32))), .val (.int (0 : Int32)), .unset] [(.int (3 : Int32))])) _
            refine XS.iloadN X3.here hx rfl (hb hby at_81) rfl ?_
            show Steps p.tables e below (T3.setTop (mkF m 82 #[.val (.int p1), .val (.int t1), .val (.int n1), .val (.int (1 : Int32)), .val (.int (n1 / (3 : Int32))), .val (.int (0 : Int32)), .unset] [(.int n1), (.int (3 : Int32))])) _
            refine XS.iconst X3.here hx rfl (hb hby at_82) ?_
            show Steps p.tables e below (T3.setTop (mkF m 83 #[.val (.int p1), .val (.int t1), .val (.int n1), .val (.int (1 : Int32)), .val (.int (n1 / (3 : Int32))), .val (.int (0 : Int32)), .unset] [(.int (4 : Int32)), (.int n1), (.int (3 : Int32))])) _
            refine XS.idiv X3.here hx rfl (hb hby at_83) rfl (by decide) ?_
            show Steps p.tables e below (T3.setTop (mkF m 84 #[.val (.int p1), .val (.int t1), .val (.int n1), .val (.int (1 : Int32)), .val (.int (n1 / (3 : Int32))), .val (.int (0 : Int32)), .unset] [(.int (n1 / (4 : Int32))), (.int (3 : Int32))])) _
            refine XS.imul X3.here hx rfl (hb hby at_84) rfl ?_
            show Steps p.tables e below (T3.setTop (mkF m 85 #[.val (.int p1), .val (.int t1), .val (.int n1), .val (.int (1 : Int32)), .val (.int (n1 / (3 : Int32))), .val (.int (0 : Int32)), .unset] [(.int ((3 : Int32) * (n1 / (4 : Int32))))])) _
            refine XS.goto X3.here hx rfl (pc0 := 85) (pc' := 91) rfl (hb hby at_85) (by decide) (by decide) ?_
            show Steps p.tables e below (T3.setTop (mkF m 91 #[.val (.int p1), .val (.int t1), .val (.int n1), .val (.int (1 : Int32)), .val (.int (n1 / (3 : Int32))), .val (.int (0 : Int32)), .unset] [(.int ((3 : Int32) * (n1 / (4 : Int32))))])) _
            refine XS.istore X3.here hx rfl (hb hby at_91) rfl (l' := #[.val (.int p1), .val (.int t1), .val (.int n1), .val (.int (1 : Int32)), .val (.int (n1 / (3 : Int32))), .val (.int (0 : Int32)), .val (.int ((3 : Int32) * (n1 / (4 : Int32))))]) rfl ?_
            show Steps p.tables e below (T3.setTop (mkF m 93 #[.val (.int p1), .val (.int t1), .val (.int n1), .val (.int (1 : Int32)), .val (.int (n1 / (3 : Int32))), .val (.int (0 : Int32)), .val (.int ((3 : Int32) * (n1 / (4 : Int32))))] [])) _
            refine XS.goto X3.here hx rfl (pc0 := 93) (pc' := 102) rfl (hb hby at_93) (by decide) (by decide) ?_
            show Steps p.tables e below (T3.setTop (mkF m 102 #[.val (.int p1), .val (.int t1), .val (.int n1), .val (.int (1 : Int32)), .val (.int (n1 / (3 : Int32))), .val (.int (0 : Int32)), .val (.int ((3 : Int32) * (n1 / (4 : Int32))))] [])) _
            refine XS.iloadN X3.here hx rfl (hb hby at_102) rfl ?_
            show Steps p.tables e below (T3.setTop (mkF m 103 #[.val (.int p1), .val (.int t1), .val (.int n1), .val (.int (1 : Int32)), .val (.int (n1 / (3 : Int32))), .val (.int (0 : Int32)), .val (.int ((3 : Int32) * (n1 / (4 : Int32))))] [(.int n1)])) _
            refine XS.iloadN X3.here hx rfl (hb hby at_103) rfl ?_
            exact k)
          by_cases hc56 : n1 < t1
          · have go57 : ∀ t, Steps p.tables e below (T3.setTop (mkF m 118 #[.val (.int p1), .val (.int t1), .val (.int n1), .val (.int (1 : Int32)), .val (.int (n1 / (3 : Int32))), .val (.int (0 : Int32)), .val (.int ((3 : Int32) * (n1 / (4 : Int32))))] [(.int (0 : Int32))])) t → Steps p.tables e below (s₁.setTop (entryFrame m #[(.int p1)] maxLocals)) t := fun t k => go55 t (by
              show Steps p.tables e below (T3.setTop (mkF m 104 #[.val (.int p1), .val (.int t1), .val (.int n1), .val (.int (1 : Int32)), .val (.int (n1 / (3 : Int32))), .val (.int (0 : Int32)), .val (.int ((3 : Int32) * (n1 / (4 : Int32))))] [(.int t1), (.int n1)])) _
              refine XS.icmpYes X3.here hx rfl (pc0 := 104) (pc' := 117) rfl (hb hby at_104) rfl (tlt hc56).1 (by decide) (by decide) ?_
              show Steps p.tables e below (T3.setTop (mkF m 117 #[.val (.int p1), .val (.int t1), .val (.int n1), .val (.int (1 : Int32)), .val (.int (n1 / (3 : Int32))), .val (.int (0 : Int32)), .val (.int ((3 : Int32) * (n1 / (4 : Int32))))] [])) _
              refine XS.iconst X3.here hx rfl (hb hby at_117) ?_
              exact k)
            obtain ⟨fs, hr, hrun, hended, hW, hsame⟩ := X3.leave (v := some (.int (0 : Int32))) (fun h => by rw [Bd.returns] at h; cases h)
            refine ⟨_, _, go57 _ ?_, hrun, hended, _, _, rfl, ?_, ⟨_, rfl⟩, hW, hsame.mono (by decide) (by decide)⟩
            · exact retN X3 hx (t := .boolean) Bd.returns (by simp) (hb hby at_118) hr
            · show QL n0 _ T3.heap _
              rw [e3]
              exact ⟨by exfalso; unfold own_tail at hgood; rw [if_pos hc7, if_pos hc9, if_neg hc11, if_neg hc47, if_pos hc56] at hgood; exact absurd hgood (by decide), N3⟩
          · have go58 : ∀ t, Steps p.tables e below (T3.setTop (mkF m 110 #[.val (.int p1), .val (.int t1), .val (.int n1), .val (.int (1 : Int32)), .val (.int (n1 / (3 : Int32))), .val (.int (0 : Int32)), .val (.int ((3 : Int32) * (n1 / (4 : Int32))))] [(.int t1), (.int ((3 : Int32) * (n1 / (4 : Int32))))])) t → Steps p.tables e below (s₁.setTop (entryFrame m #[(.int p1)] maxLocals)) t := fun t k => go55 t (by
              show Steps p.tables e below (T3.setTop (mkF m 104 #[.val (.int p1), .val (.int t1), .val (.int n1), .val (.int (1 : Int32)), .val (.int (n1 / (3 : Int32))), .val (.int (0 : Int32)), .val (.int ((3 : Int32) * (n1 / (4 : Int32))))] [(.int t1), (.int n1)])) _
              refine XS.icmpNo X3.here hx rfl (hb hby at_104) rfl (flt hc56).1 ?_
              show Steps p.tables e below (T3.setTop (mkF m 107 #[.val (.int p1), .val (.int t1), .val (.int n1), .val (.int (1 : Int32)), .val (.int (n1 / (3 : Int32))), .val (.int (0 : Int32)), .val (.int ((3 : Int32) * (n1 / (4 : Int32))))] [])) _
              refine XS.iload X3.here hx rfl (hb hby at_107) rfl ?_
              show Steps p.tables e below (T3.setTop (mkF m 109 #[.val (.int p1), .val (.int t1), .val (.int n1), .val (.int (1 : Int32)), .val (.int (n1 / (3 : Int32))), .val (.int (0 : Int32)), .val (.int ((3 : Int32) * (n1 / (4 : Int32))))] [(.int ((3 : Int32) * (n1 / (4 : Int32))))])) _
              refine XS.iloadN X3.here hx rfl (hb hby at_109) rfl ?_
              exact k)
            by_cases hc59 : ((3 : Int32) * (n1 / (4 : Int32))) < t1
            · have go60 : ∀ t, Steps p.tables e below (T3.setTop (mkF m 118 #[.val (.int p1), .val (.int t1), .val (.int n1), .val (.int (1 : Int32)), .val (.int (n1 / (3 : Int32))), .val (.int (0 : Int32)), .val (.int ((3 : Int32) * (n1 / (4 : Int32))))] [(.int (1 : Int32))])) t → Steps p.tables e below (s₁.setTop (entryFrame m #[(.int p1)] maxLocals)) t := fun t k => go58 t (by
                show Steps p.tables e below (T3.setTop (mkF m 110 #[.val (.int p1), .val (.int t1), .val (.int n1), .val (.int (1 : Int32)), .val (.int (n1 / (3 : Int32))), .val (.int (0 : Int32)), .val (.int ((3 : Int32) * (n1 / (4 : Int32))))] [(.int t1), (.int ((3 : Int32) * (n1 / (4 : Int32))))])) _
                refine XS.icmpNo X3.here hx rfl (hb hby at_110) rfl (tlt hc59).2.1 ?_
                show Steps p.tables e below (T3.setTop (mkF m 113 #[.val (.int p1), .val (.int t1), .val (.int n1), .val (.int (1 : Int32)), .val (.int (n1 / (3 : Int32))), .val (.int (0 : Int32)), .val (.int ((3 : Int32) * (n1 / (4 : Int32))))] [])) _
                refine XS.iconst X3.here hx rfl (hb hby at_113) ?_
                show Steps p.tables e below (T3.setTop (mkF m 114 #[.val (.int p1), .val (.int t1), .val (.int n1), .val (.int (1 : Int32)), .val (.int (n1 / (3 : Int32))), .val (.int (0 : Int32)), .val (.int ((3 : Int32) * (n1 / (4 : Int32))))] [(.int (1 : Int32))])) _
                refine XS.goto X3.here hx rfl (pc0 := 114) (pc' := 118) rfl (hb hby at_114) (by decide) (by decide) ?_
                exact k)
              obtain ⟨fs, hr, hrun, hended, hW, hsame⟩ := X3.leave (v := some (.int (1 : Int32))) (fun h => by rw [Bd.returns] at h; cases h)
              refine ⟨_, _, go60 _ ?_, hrun, hended, _, _, rfl, ?_, ⟨_, rfl⟩, hW, hsame.mono (by decide) (by decide)⟩
              · exact retN X3 hx (t := .boolean) Bd.returns (by simp) (hb hby at_118) hr
              · show QL n0 _ T3.heap _
                rw [e3]
                exact ⟨rfl, N3⟩
            · have go61 : ∀ t, Steps p.tables e below (T3.setTop (mkF m 118 #[.val (.int p1), .val (.int t1), .val (.int n1), .val (.int (1 : Int32)), .val (.int (n1 / (3 : Int32))), .val (.int (0 : Int32)), .val (.int ((3 : Int32) * (n1 / (4 : Int32))))] [(.int (0 : Int32))])) t → Steps p.tables e below (s₁.setTop (entryFrame m #[(.int p1)] maxLocals)) t := fun t k => go58 t (by
                show Steps p.tables e below (T3.setTop (mkF m 110 #[.val (.int p1), .val (.int t1), .val (.int n1), .val (.int (1 : Int32)), .val (.int (n1 / (3 : Int32))), .val (.int (0 : Int32)), .val (.int ((3 : Int32) * (n1 / (4 : Int32))))] [(.int t1), (.int ((3 : Int32) * (n1 / (4 : Int32))))])) _
                refine XS.icmpYes X3.here hx rfl (pc0 := 110) (pc' := 117) rfl (hb hby at_110) rfl (flt hc59).2.1 (by decide) (by decide) ?_
                show Steps p.tables e below (T3.setTop (mkF m 117 #[.val (.int p1), .val (.int t1), .val (.int n1), .val (.int (1 : Int32)), .val (.int (n1 / (3 : Int32))), .val (.int (0 : Int32)), .val (.int ((3 : Int32) * (n1 / (4 : Int32))))] [])) _
                refine XS.iconst X3.here hx rfl (hb hby at_117) ?_
                exact k)
              obtain ⟨fs, hr, hrun, hended, hW, hsame⟩ := X3.leave (v := some (.int (0 : Int32))) (fun h => by rw [Bd.returns] at h; cases h)
              refine ⟨_, _, go61 _ ?_, hrun, hended, _, _, rfl, ?_, ⟨_, rfl⟩, hW, hsame.mono (by decide) (by decide)⟩
              · exact retN X3 hx (t := .boolean) Bd.returns (by simp) (hb hby at_118) hr
              · show QL n0 _ T3.heap _
                rw [e3]
                exact ⟨by exfalso; unfold own_tail at hgood; rw [if_pos hc7, if_pos hc9, if_neg hc11, if_neg hc47, if_neg hc56, if_neg hc59] at hgood; exact absurd hgood (by decide), N3⟩
    · have go62 : ∀ t, Steps p.tables e below (T3.setTop (mkF m 40 #[.val (.int p1), .val (.int t1), .val (.int n1), .val (.int (0 : Int32)), .val (.int (n1 / (3 : Int32))), .unset, .unset] [(.int (n1 % (3 : Int32)))])) t → Steps p.tables e below (s₁.setTop (entryFrame m #[(.int p1)] maxLocals)) t := fun t k => go8 t (by
        show Steps p.tables e below (T3.setTop (mkF m 23 #[.val (.int p1), .val (.int t1), .val (.int n1), .unset, .unset, .unset, .unset] [(.int (n1 &&& (n1 - (1 : Int32))))])) _
        refine XS.ifYes X3.here hx rfl (pc0 := 23) (pc' := 30) rfl (hb hby at_23) rfl ((if0 _ _).trans (feq hc9).2) (by decide) (by decide) ?_
        show Steps p.tables e below (T3.setTop (mkF m 30 #[.val (.int p1), .val (.int t1), .val (.int n1), .unset, .unset, .unset, .unset] [])) _
        refine XS.iconst X3.here hx rfl (hb hby at_30) ?_
        show Steps p.tables e below (T3.setTop (mkF m 31 #[.val (.int p1), .val (.int t1), .val (.int n1), .unset, .unset, .unset, .unset] [(.int (0 : Int32))])) _
        refine XS.istoreN X3.here hx rfl (hb hby at_31) rfl (l' := #[.val (.int p1), .val (.int t1), .val (.int n1), .val (.int (0 : Int32)), .unset, .unset, .unset]) rfl ?_
        show Steps p.tables e below (T3.setTop (mkF m 32 #[.val (.int p1), .val (.int t1), .val (.int n1), .val (.int (0 : Int32)), .unset, .unset, .unset] [])) _
        refine XS.iloadN X3.here hx rfl (hb hby at_32) rfl ?_
        show Steps p.tables e below (T3.setTop (mkF m 33 #[.val (.int p1), .val (.int t1), .val (.int n1), .val (.int (0 : Int32)), .unset, .unset, .unset] [(.int n1)])) _
        refine XS.iconst X3.here hx rfl (hb hby at_33) ?_
        show Steps p.tables e below (T3.setTop (mkF m 34 #[.val (.int p1), .val (.int t1), .val (.int n1), .val (.int (0 : Int32)), .unset, .unset, .unset] [(.int (3 : Int32)), (.int n1)])) _
        refine XS.idiv X3.here hx rfl (hb hby at_34) rfl (by decide) ?_
        show Steps p.tables e below (T3.setTop (mkF m 35 #[.val (.int p1), .val (.int t1), .val (.int n1), .val (.int (0 : Int32)), .unset, .unset, .unset] [(.int (n1 / (3 : Int32)))])) _
        refine XS.istore X3.here hx rfl (hb hby at_35) rfl (l' := #[.val (.int p1), .val (.int t1), .val (.int n1), .val (.int (0 : Int32)), .val (.int (n1 / (3 : Int32))), .unset, .unset]) rfl ?_
        show Steps p.tables e below (T3.setTop (mkF m 37 #[.val (.int p1), .val (.int t1), .val (.int n1), .val (.int (0 : Int32)), .val (.int (n1 / (3 : Int32))), .unset, .unset] [])) _
        refine XS.iloadN X3.here hx rfl (hb hby at_37) rfl ?_
        show Steps p.tables e below (T3.setTop (mkF m 38 #[.val (.int p1), .val (.int t1), .val (.int n1), .val (.int (0 : Int32)), .val (.int (n1 / (3 : Int32))), .unset, .unset] [(.int n1)])) _
        refine XS.iconst X3.here hx rfl (hb hby at_38) ?_
        show Steps p.tables e below (T3.setTop (mkF m 39 #[.val (.int p1), .val (.int t1), .val (.int n1), .val (.int (0 : Int32)), .val (.int (n1 / (3 : Int32))), .unset, .unset] [(.int (3 : Int32)), (.int n1)])) _
        refine iremM X3 hx rfl (hb hby at_39) rfl (by decide) ?_
        exact k)
      by_cases hc63 : (n1 % (3 : Int32)) = (0 : Int32)
      · have go64 : ∀ t, Steps p.tables e below (T3.setTop (mkF m 50 #[.val (.int p1), .val (.int t1), .val (.int n1), .val (.int (0 : Int32)), .val (.int (n1 / (3 : Int32))), .unset, .unset] [(.int ((n1 / (3 : Int32)) &&& ((n1 / (3 : Int32)) - (1 : Int32))))])) t → Steps p.tables e below (s₁.setTop (entryFrame m #[(.int p1)] maxLocals)) t := fun t k => go62 t (by
          show Steps p.tables e below (T3.setTop (mkF m 40 #[.val (.int p1), .val (.int t1), .val (.int n1), .val (.int (0 : Int32)), .val (.int (n1 / (3 : Int32))), .unset, .unset] [(.int (n1 % (3 : Int32)))])) _
          refine XS.ifNo X3.here hx rfl (hb hby at_40) rfl ((if0 _ _).trans (teq hc63).2) ?_
          show Steps p.tables e below (T3.setTop (mkF m 43 #[.val (.int p1), .val (.int t1), .val (.int n1), .val (.int (0 : Int32)), .val (.int (n1 / (3 : Int32))), .unset, .unset] [])) _
          refine XS.iload X3.here hx rfl (hb hby at_43) rfl ?_
          show Steps p.tables e below (T3.setTop (mkF m 45 #[.val (.int p1), .val (.int t1), .val (.int n1), .val (.int (0 : Int32)), .val (.int (n1 / (3 : Int32))), .unset, .unset] [(.int (n1 / (3 : Int32)))])) _
          refine XS.iload X3.here hx rfl (hb hby at_45) rfl ?_
          show Steps p.tables e below (T3.setTop (mkF m 47 #[.val (.int p1), .val (.int t1), .val (.int n1), .val (.int (0 : Int32)), .val (.int (n1 / (3 : Int32))), .unset, .unset] [(.int (n1 / (3 : Int32))), (.int (n1 / (3 : Int32)))])) _
          refine XS.iconst X3.here hx rfl (hb hby at_47) ?_
          show Steps p.tables e below (T3.setTop (mkF m 48 #[.val (.int p1), .val (.int t1), .val (.int n1), .val (.int (0 : Int32)), .val (.int (n1 / (3 : Int32))), .unset, .unset] [(.int (1 : Int32)), (.int (n1 / (3 : Int32))), (.int (n1 / (3 : Int32)))])) _
          refine XS.isub X3.here hx rfl (hb hby at_48) rfl ?_
          show Steps p.tables e below (T3.setTop (mkF m 49 #[.val (.int p1), .val (.int t1), .val (.int n1), .val (.int (0 : Int32)), .val (.int (n1 / (3 : Int32))), .unset, .unset] [(.int ((n1 / (3 : Int32)) - (1 : Int32))), (.int (n1 / (3 : Int32)))])) _
          refine XS.iand X3.here hx rfl (hb hby at_49) rfl ?_
          exact k)
        by_cases hc65 : ((n1 / (3 : Int32)) &&& ((n1 / (3 : Int32)) - (1 : Int32))) = (0 : Int32)
        · have go66 : ∀ t, Steps p.tables e below (T3.setTop (mkF m 104 #[.val (.int p1), .val (.int t1), .val (.int n1), .val (.int (0 : Int32)), .val (.int (n1 / (3 : Int32))), .val (.int (1 : Int32)), .val (.int ((2 : Int32) * (n1 / (3 : Int32))))] [(.int t1), (.int n1)])) t → Steps p.tables e below (s₁.setTop (entryFrame m #[(.int p1)] maxLocals)) t := fun t k => go64 t (by
            show Steps p.tables e below (T3.setTop (mkF m 50 #[.val (.int p1), .val (.int t1), .val (.int n1), .val (.int (0 : Int32)), .val (.int (n1 / (3 : Int32))), .unset, .unset] [(.int ((n1 / (3 : Int32)) &&& ((n1 / (3 : Int32)) - (1 : Int32))))])) _
            refine XS.ifNo X3.here hx rfl (hb hby at_50) rfl ((if0 _ _).trans (teq hc65).2) ?_
            show Steps p.tables e below (T3.setTop (mkF m 53 #[.val (.int p1), .val (.int t1), .val (.int n1), .val (.int (0 : Int32)), .val (.int (n1 / (3 : Int32))), .unset, .unset] [])) _
            refine XS.iconst X3.here hx rfl (hb hby at_53) ?_
            show Steps p.tables e below (T3.setTop (mkF m 54 #[.val (.int p1), .val (.int t1), .val (.int n1), .val (.int (0 : Int32)), .val (.int (n1 / (3 : Int32))), .unset, .unset] [(.int (1 : Int32))])) _
            refine XS.goto X3.here hx rfl (pc0 := 54) (pc' := 58) rfl (hb hby at_54) (by decide) (by decide) ?_
            show Steps p.tables e below (T3.setTop (mkF m 58 #[.val (.int p1), .val (.int t1), .val (.int n1), .val (.int (0 : Int32)), .val (.int (n1 / (3 : Int32))), .unset, .unset] [(.int (1 : Int32))])) _
            refine XS.istore X3.here hx rfl (hb hby at_58) rfl (l' := #[.val (.int p1), .val (.int t1), .val (.int n1), .val (.int (0 : Int32)), .val (.int (n1 / (3 : Int32))), .val (.int (1 : Int32)), .unset]) rfl ?_
            show Steps p.tables e below (T3.setTop (mkF m 60 #[.val (.int p1), .val (.int t1), .val (.int n1), .val (.int (0 : Int32)), .val (.int (n1 / (3 : Int32))), .val (.int (1 : Int32)), .unset] [])) _
            refine XS.iloadN X3.here hx rfl (hb hby at_60) rfl ?_
            show Steps p.tables e below (T3.setTop (mkF m 61 #[.val (.int p1), .val (.int t1), .val (.int n1), .val (.int (0 : Int32)), .val (.int (n1 / (3 : Int32))), .val (.int (1 : Int32)), .unset] [(.int (0 : Int32))])) _
            refine XS.ifNo X3.here hx rfl (hb hby at_61) rfl ((if0 _ _).trans (teq (by decide : (0 : Int32) = (0 : Int32))).2) ?_
            show Steps p.tables e below (T3.setTop (mkF m 64 #[.val (.int p1), .val (.int t1), .val (.int n1), .val (.int (0 : Int32)), .val (.int (n1 / (3 : Int32))), .val (.int (1 : Int32)), .unset] [])) _
            refine XS.iload X3.here hx rfl (hb hby at_64) rfl ?_
            show Steps p.tables e below (T3.setTop (mkF m 66 #[.val (.int p1), .val (.int t1), .val (.int n1), .val (.int (0 : Int32)), .val (.int (n1 / (3 : Int32))), .val (.int (1 : Int32)), .unset] [(.int (1 : Int32))])) _
            refine XS.ifYes X3.here hx rfl (pc0 := 66) (pc' := 71) rfl (hb hby at_66) rfl ((if0 _ _).trans (feq (by decide : ¬ ((1 : Int32) = (0 : Int32)))).2) (by decide) (by decide) ?_
            show Steps p.tables e below (T3.setTop (mkF m 71 #[.val (.int p1), .val (.int t1), .val (.int n1), .val (.int (0 : Int32)), .val (.int (n1 / (3 : Int32))), .val (.int (1 : Int32)), .unset] [])) _
            refine XS.iloadN X3.here hx rfl (hb hby at_71) rfl ?_
            show Steps p.tables e below (T3.setTop (mkF m 72 #[.val (.int p1), .val (.int t1), .val (.int n1), .val (.int (0 : Int32)), .val (.int (n1 / (3 : Int32))), .val (.int (1 : Int32)), .unset] [(.int (0 : Int32))])) _
            refine XS.ifYes X3.here hx rfl (pc0 := 72) (pc' := 96) rfl (hb hby at_72) rfl ((if0 _ _).trans (teq (by decide : (0 : Int32) = (0 : Int32))).1) (by decide) (by decide) ?_
            show Steps p.tables e below (T3.setTop (mkF m 96 #[.val (.int p1), .val (.int t1), .val (.int n1), .val (.int (0 : Int32)), .val (.int (n1 / (3 : Int32))), .val (.int (1 : Int32)), .unset] [])) _
            refine XS.iconst X3.here hx rfl (hb hby at_96) ?_
            show Steps p.tables e below (T3.setTop (mkF m 97 #[.val (.int p1), .val (.int t1), .val (.int n1), .val (.int (0 : Int32)), .val (.int (n1 / (3 : Int32))), .val (.int (1 : Int32)), .unset] [(.int (2 : Int32))])) _
            refine XS.iload X3.here hx rfl (hb hby at_97) rfl ?_
            show Steps p.tables e below (T3.setTop (mkF m 99 #[.val (.int p1), .val (.int t1), .val (.int n1), .val (.int (0 : Int32)), .val (.int (n1 / (3 : Int32))), .val (.int (1 : Int32)), .unset] [(.int (n1 / (3 : Int32))), (.int (2 : Int32))])) _
            refine XS.imul X3.here hx rfl (hb hby at_99) rfl ?_
            show Steps p.tables e below (T3.setTop (mkF m 100 #[.val (.int p1), .val (.int t1), .val (.int n1), .val (.int (0 : Int32)), .val (.int (n1 / (3 : Int32))), .val (.int (1 : Int32)), .unset] [(.int ((2 : Int32) * (n1 / (3 : Int32))))])) _
            refine XS.istore X3.here hx rfl (hb hby at_100) rfl (l' := #[.val (.int p1), .val (.int t1), .val (.int n1), .val (.int (0 : Int32)), .val (.int (n1 / (3 : Int32))), .val (.int (1 : Int32)), .val (.int ((2 : Int32) * (n1 / (3 : Int32))))]) rfl ?_
            show Steps p.tables e below (T3.setTop (mkF m 102 #[.val (.int p1), .val (.int t1), .val (.int n1), .val (.int (0 : Int32)), .val (.int (n1 / (3 : Int32))), .val (.int (1 : Int32)), .val (.int ((2 : Int32) * (n1 / (3 : Int32))))] [])) _
            refine XS.iloadN X3.here hx rfl (hb hby at_102) rfl ?_
            show Steps p.tables e below (T3.setTop (mkF m 103 #[.val (.int p1), .val (.int t1), .val (.int n1), .val (.int (0 : Int32)), .val (.int (n1 / (3 : Int32))), .val (.int (1 : Int32)), .val (.int ((2 : Int32) * (n1 / (3 : Int32))))] [(.int n1)])) _
            refine XS.iloadN X3.here hx rfl (hb hby at_103) rfl ?_
            exact k)
          by_cases hc67 : n1 < t1
          · have go68 : ∀ t, Steps p.tables e below (T3.setTop (mkF m 118 #[.val (.int p1), .val (.int t1), .val (.int n1), .val (.int (0 : Int32)), .val (.int (n1 / (3 : Int32))), .val (.int (1 : Int32)), .val (.int ((2 : Int32) * (n1 / (3 : Int32))))] [(.int (0 : Int32))])) t → Steps p.tables e below (s₁.setTop (entryFrame m #[(.int p1)] maxLocals)) t := fun t k => go66 t (by
              show Steps p.tables e below (T3.setTop (mkF m 104 #[.val (.int p1), .val (.int t1), .val (.int n1), .val (.int (0 : Int32)), .val (.int (n1 / (3 : Int32))), .val (.int (1 : Int32)), .val (.int ((2 : Int32) * (n1 / (3 : Int32))))] [(.int t1), (.int n1)])) _
              refine XS.icmpYes X3.here hx rfl (pc0 := 104) (pc' := 117) rfl (hb hby at_104) rfl (tlt hc67).1 (by decide) (by decide) ?_
              show Steps p.tables e below (T3.setTop (mkF m 117 #[.val (.int p1), .val (.int t1), .val (.int n1), .val (.int (0 : Int32)), .val (.int (n1 / (3 : Int32))), .val (.int (1 : Int32)), .val (.int ((2 : Int32) * (n1 / (3 : Int32))))] [])) _
              refine XS.iconst X3.here hx rfl (hb hby at_117) ?_
              exact k)
            obtain ⟨fs, hr, hrun, hended, hW, hsame⟩ := X3.leave (v := some (.int (0 : Int32))) (fun h => by rw [Bd.returns] at h; cases h)
            refine ⟨_, _, go68 _ ?_, hrun, hended, _, _, rfl, ?_, ⟨_, rfl⟩, hW, hsame.mono (by decide) (by decide)⟩
            · exact retN X3 hx (t := .boolean) Bd.returns (by simp) (hb hby at_118) hr
            · show QL n0 _ T3.heap _
              rw [e3]
              exact ⟨by exfalso; unfold own_tail at hgood; rw [if_pos hc7, if_neg hc9, if_pos hc63, if_pos hc65, if_pos hc67] at hgood; exact absurd hgood (by decide), N3⟩
          · have go69 : ∀ t, Steps p.tables e below (T3.setTop (mkF m 110 #[.val (.int p1), .val (.int t1), .val (.int n1), .val (.int (0 : Int32)), .val (.int (n1 / (3 : Int32))), .val (.int (1 : Int32)), .val (.int ((2 : Int32) * (n1 / (3 : Int32))))] [(.int t1), (.int ((2 : Int32) * (n1 / (3 : Int32))))])) t → Steps p.tables e below (s₁.setTop (entryFrame m #[(.int p1)] maxLocals)) t := fun t k => go66 t (by
              show Steps p.tables e below (T3.setTop (mkF m 104 #[.val (.int p1), .val (.int t1), .val (.int n1), .val (.int (0 : Int32)), .val (.int (n1 / (3 : Int32))), .val (.int (1 : Int32)), .val (.int ((2 : Int32) * (n1 / (3 : Int32))))] [(.int t1), (.int n1)])) _
              refine XS.icmpNo X3.here hx rfl (hb hby at_104) rfl (flt hc67).1 ?_
              show Steps p.tables e below (T3.setTop (mkF m 107 #[.val (.int p1), .val (.int t1), .val (.int n1), .val (.int (0 : Int32)), .val (.int (n1 / (3 : Int32))), .val (.int (1 : Int32)), .val (.int ((2 : Int32) * (n1 / (3 : Int32))))] [])) _
              refine XS.iload X3.here hx rfl (hb hby at_107) rfl ?_
              show Steps p.tables e below (T3.setTop (mkF m 109 #[.val (.int p1), .val (.int t1), .val (.int n1), .val (.int (0 : Int32)), .val (.int (n1 / (3 : Int32))), .val (.int (1 : Int32)), .val (.int ((2 : Int32) * (n1 / (3 : Int32))))] [(.int ((2 : Int32) * (n1 / (3 : Int32))))])) _
              refine XS.iloadN X3.here hx rfl (hb hby at_109) rfl ?_
              exact k)
            by_cases hc70 : ((2 : Int32) * (n1 / (3 : Int32))) < t1
            · have go71 : ∀ t, Steps p.tables e below (T3.setTop (mkF m 118 #[.val (.int p1), .val (.int t1), .val (.int n1), .val (.int (0 : Int32)), .val (.int (n1 / (3 : Int32))), .val (.int (1 : Int32)), .val (.int ((2 : Int32) * (n1 / (3 : Int32))))] [(.int (1 : Int32))])) t → Steps p.tables e below (s₁.setTop (entryFrame m #[(.int p1)] maxLocals)) t := fun t k => go69 t (by
                show Steps p.tables e below (T3.setTop (mkF m 110 #[.val (.int p1), .val (.int t1), .val (.int n1), .val (.int (0 : Int32)), .val (.int (n1 / (3 : Int32))), .val (.int (1 : Int32)), .val (.int ((2 : Int32) * (n1 / (3 : Int32))))] [(.int t1), (.int ((2 : Int32) * (n1 / (3 : Int32))))])) _
                refine XS.icmpNo X3.here hx rfl (hb hby at_110) rfl (tlt hc70).2.1 ?_
                show Steps p.tables e below (T3.setTop (mkF m 113 #[.val (.int p1), .val (.int t1), .val (.int n1), .val (.int (0 : Int32)), .val (.int (n1 / (3 : Int32))), .val (.int (1 : Int32)), .val (.int ((2 : Int32) * (n1 / (3 : Int32))))] [])) _
                refine XS.iconst X3.here hx rfl (hb hby at_113) ?_
                show Steps p.tables e below (T3.setTop (mkF m 114 #[.val (.int p1), .val (.int t1), .val (.int n1), .val (.int (0 : Int32)), .val (.int (n1 / (3 : Int32))), .val (.int (1 : Int32)), .val (.int ((2 : Int32) * (n1 / (3 : Int32))))] [(.int (1 : Int32))])) _
                refine XS.goto X3.here hx rfl (pc0 := 114) (pc' := 118) rfl (hb hby at_114) (by decide) (by decide) ?_
                exact k)
              obtain ⟨fs, hr, hrun, hended, hW, hsame⟩ := X3.leave (v := some (.int (1 : Int32))) (fun h => by rw [Bd.returns] at h; cases h)
              refine ⟨_, _, go71 _ ?_, hrun, hended, _, _, rfl, ?_, ⟨_, rfl⟩, hW, hsame.mono (by decide) (by decide)⟩
              · exact retN X3 hx (t := .boolean) Bd.returns (by simp) (hb hby at_118) hr
              · show QL n0 _ T3.heap _
                rw [e3]
                exact ⟨rfl, N3⟩
            · have go72 : ∀ t, Steps p.tables e below (T3.setTop (mkF m 118 #[.val (.int p1), .val (.int t1), .val (.int n1), .val (.int (0 : Int32)), .val (.int (n1 / (3 : Int32))), .val (.int (1 : Int32)), .val (.int ((2 : Int32) * (n1 / (3 : Int32))))] [(.int (0 : Int32))])) t → Steps p.tables e below (s₁.setTop (entryFrame m #[(.int p1)] maxLocals)) t := fun t k => go69 t (by
                show Steps p.tables e below (T3.setTop (mkF m 110 #[.val (.int p1), .val (.int t1), .val (.int n1), .val (.int (0 : Int32)), .val (.int (n1 / (3 : Int32))), .val (.int (1 : Int32)), .val (.int ((2 : Int32) * (n1 / (3 : Int32))))] [(.int t1), (.int ((2 : Int32) * (n1 / (3 : Int32))))])) _
                refine XS.icmpYes X3.here hx rfl (pc0 := 110) (pc' := 117) rfl (hb hby at_110) rfl (flt hc70).2.1 (by decide) (by decide) ?_
                show Steps p.tables e below (T3.setTop (mkF m 117 #[.val (.int p1), .val (.int t1), .val (.int n1), .val (.int (0 : Int32)), .val (.int (n1 / (3 : Int32))), .val (.int (1 : Int32)), .val (.int ((2 : Int32) * (n1 / (3 : Int32))))] [])) _
                refine XS.iconst X3.here hx rfl (hb hby at_117) ?_
                exact k)
              obtain ⟨fs, hr, hrun, hended, hW, hsame⟩ := X3.leave (v := some (.int (0 : Int32))) (fun h => by rw [Bd.returns] at h; cases h)
              refine ⟨_, _, go72 _ ?_, hrun, hended, _, _, rfl, ?_, ⟨_, rfl⟩, hW, hsame.mono (by decide) (by decide)⟩
              · exact retN X3 hx (t := .boolean) Bd.returns (by simp) (hb hby at_118) hr
              · show QL n0 _ T3.heap _
                rw [e3]
                exact ⟨by exfalso; unfold own_tail at hgood; rw [if_pos hc7, if_neg hc9, if_pos hc63, if_pos hc65, if_neg hc67, if_neg hc70] at hgood; exact absurd hgood (by decide), N3⟩
        · have go73 : ∀ t, Steps p.tables e below (T3.setTop (mkF m 70 #[.val (.int p1), .val (.int t1), .val (.int n1), .val (.int (0 : Int32)), .val (.int (n1 / (3 : Int32))), .val (.int (0 : Int32)), .unset] [(.int (0 : Int32))])) t → Steps p.tables e below (s₁.setTop (entryFrame m #[(.int p1)] maxLocals)) t := fun t k => go64 t (by
            show Steps p.tables e below (T3.setTop (mkF m 50 #[.val (.int p1), .val (.int t1), .val (.int n1), .val (.int (0 : Int32)), .val (.int (n1 / (3 : Int32))), .unset, .unset] [(.int ((n1 / (3 : Int32)) &&& ((n1 / (3 : Int32)) - (1 : Int32))))])) _
            refine XS.ifYes X3.here hx rfl (pc0 := 50) (pc' := 57) rfl (hb hby at_50) rfl ((if0 _ _).trans (feq hc65).2) (by decide) (by decide) ?_
            show Steps p.tables e below (T3.setTop (mkF m 57 #[.val (.int p1), .val (.int t1), .val (.int n1), .val (.int (0 : Int32)), .val (.int (n1 / (3 : Int32))), .unset, .unset] [])) _
            refine XS.iconst X3.here hx rfl (hb hby at_57) ?_
            show Steps p.tables e below (T3.setTop (mkF m 58 #[.val (.int p1), .val (.int t1), .val (.int n1), .val (.int (0 : Int32)), .val (.int (n1 / (3 : Int32))), .unset, .unset] [(.int (0 : Int32))])) _
            refine XS.istore X3.here hx rfl (hb hby at_58) rfl (l' := #[.val (.int p1), .val (.int t1), .val (.int n1), .val (.int (0 : Int32)), .val (.int (n1 / (3 : Int32))), .val (.int (0 : Int32)), .unset]) rfl ?_
            show Steps p.tables e below (T3.setTop (mkF m 60 #[.val (.int p1), .val (.int t1), .val (.int n1), .val (.int (0 : Int32)), .val (.int (n1 / (3 : Int32))), .val (.int (0 : Int32)), .unset] [])) _
            refine XS.iloadN X3.here hx rfl (hb hby at_60) rfl ?_
            show Steps p.tables e below (T3.setTop (mkF m 61 #[.val (.int p1), .val (.int t1), .val (.int n1), .val (.int (0 : Int32)), .val (.int (n1 / (3 : Int32))), .val (.int (0 : Int32)), .unset] [(.int (0 : Int32))])) _
            refine XS.ifNo X3.here hx rfl (hb hby at_61) rfl ((if0 _ _).trans (teq (by decide : (0 : Int32) = (0 : Int32))).2) ?_
            show Steps p.tables e below (T3.setTop (mkF m 64 #[.val (.int p1), .val (.int t1), .val (.int n1), .val (.int (0 : Int32)), .val (.int (n1 / (3 : Int32))), .val (.int (0 : Int32)), .unset] [])) _
            refine XS.iload X3.here hx rfl (hb hby at_64) rfl ?_
            show Steps p.tables e below (T3.setTop (mkF m 66 #[.val (.int p1), .val (.int t1), .val (.int n1), .val (.int (0 : Int32)), .val (.int (n1 / (3 : Int32))), .val (.int (0 : Int32)), .unset] [(.int (0 : Int32))])) _
            refine XS.ifNo X3.here hx rfl (hb hby at_66) rfl ((if0 _ _).trans (teq (by decide : (0 : Int32) = (0 : Int32))).2) ?_
            show Steps p.tables e below (T3.setTop (mkF m 69 #[.val (.int p1), .val (.int t1), .val (.int n1), .val (.int (0 : Int32)), .val (.int (n1 / (3 : Int32))), .val (.int (0 : Int32)), .unset] [])) _
            refine XS.iconst X3.here hx rfl (hb hby at_69) ?_
            exact k)
          obtain ⟨fs, hr, hrun, hended, hW, hsame⟩ := X3.leave (v := some (.int (0 : Int32))) (fun h => by rw [Bd.returns] at h; cases h)
          refine ⟨_, _, go73 _ ?_, hrun, hended, _, _, rfl, ?_, ⟨_, rfl⟩, hW, hsame.mono (by decide) (by decide)⟩
          · exact retN X3 hx (t := .boolean) Bd.returns (by simp) (hb hby at_70) hr
          · show QL n0 _ T3.heap _
            rw [e3]
            exact ⟨by exfalso; unfold own_tail at hgood; rw [if_pos hc7, if_neg hc9, if_pos hc63, if_neg hc65] at hgood; exact absurd hgood (by decide), N3⟩
      · have go74 : ∀ t, Steps p.tables e below (T3.setTop (mkF m 70 #[.val (.int p1), .val (.int t1), .val (.int n1), .val (.int (0 : Int32)), .val (.int (n1 / (3 : Int32))), .val (.int (0 : Int32)), .unset] [(.int (0 : Int32))])) t → Steps p.tables e below (s₁.setTop (entryFrame m #[(.int p1)] maxLocals)) t := fun t k => go62 t (by
          show Steps p.tables e below (T3.setTop (mkF m 40 #[.val (.int p1), .val (.int t1), .val (.int n1), .val (.int (0 : Int32)), .val (.int (n1 / (3 : Int32))), .unset, .unset] [(.int (n1 % (3 : Int32)))])) _
          refine XS.ifYes X3.here hx rfl (pc0 := 40) (pc' := 57) rfl (hb hby at_40) rfl ((if0 _ _).trans (feq hc63).2) (by decide) (by decide) ?_
          show Steps p.tables e below (T3.setTop (mkF m 57 #[.val (.int p1), .val (.int t1), .val (.int n1), .val (.int (0 : Int32)), .val (.int (n1 / (3 : Int32))), .unset, .unset] [])) _
          refine XS.iconst X3.here hx rfl (hb hby at_57) ?_
          show Steps p.tables e below (T3.setTop (mkF m 58 #[.val (.int p1), .val (.int t1), .val (.int n1), .val (.int (0 : Int32)), .val (.int (n1 / (3 : Int32))), .unset, .unset] [(.int (0 : Int32))])) _
          refine XS.istore X3.here hx rfl (hb hby at_58) rfl (l' := #[.val (.int p1), .val (.int t1), .val (.int n1), .val (.int (0 : Int32)), .val (.int (n1 / (3 : Int32))), .val (.int (0 : Int32)), .unset]) rfl ?_
          show Steps p.tables e below (T3.setTop (mkF m 60 #[.val (.int p1), .val (.int t1), .val (.int n1), .val (.int (0 : Int32)), .val (.int (n1 / (3 : Int32))), .val (.int (0 : Int32)), .unset] [])) _
          refine XS.iloadN X3.here hx rfl (hb hby at_60) rfl ?_
          show Steps p.tables e below (T3.setTop (mkF m 61 #[.val (.int p1), .val (.int t1), .val (.int n1), .val (.int (0 : Int32)), .val (.int (n1 / (3 : Int32))), .val (.int (0 : Int32)), .unset] [(.int (0 : Int32))])) _
          refine XS.ifNo X3.here hx rfl (hb hby at_61) rfl ((if0 _ _).trans (teq (by decide : (0 : Int32) = (0 : Int32))).2) ?_
          show Steps p.tables e below (T3.setTop (mkF m 64 #[.val (.int p1), .val (.int t1), .val (.int n1), .val (.int (0 : Int32)), .val (.int (n1 / (3 : Int32))), .val (.int (0 : Int32)), .unset] [])) _
          refine XS.iload X3.here hx rfl (hb hby at_64) rfl ?_
          show Steps p.tables e below (T3.setTop (mkF m 66 #[.val (.int p1), .val (.int t1), .val (.int n1), .val (.int (0 : Int32)), .val (.int (n1 / (3 : Int32))), .val (.int (0 : Int32)), .unset] [(.int (0 : Int32))])) _
          refine XS.ifNo X3.here hx rfl (hb hby at_66) rfl ((if0 _ _).trans (teq (by decide : (0 : Int32) = (0 : Int32))).2) ?_
          show Steps p.tables e below (T3.setTop (mkF m 69 #[.val (.int p1), .val (.int t1), .val (.int n1), .val (.int (0 : Int32)), .val (.int (n1 / (3 : Int32))), .val (.int (0 : Int32)), .unset] [])) _
          refine XS.iconst X3.here hx rfl (hb hby at_69) ?_
          exact k)
        obtain ⟨fs, hr, hrun, hended, hW, hsame⟩ := X3.leave (v := some (.int (0 : Int32))) (fun h => by rw [Bd.returns] at h; cases h)
        refine ⟨_, _, go74 _ ?_, hrun, hended, _, _, rfl, ?_, ⟨_, rfl⟩, hW, hsame.mono (by decide) (by decide)⟩
        · exact retN X3 hx (t := .boolean) Bd.returns (by simp) (hb hby at_70) hr
        · show QL n0 _ T3.heap _
          rw [e3]
          exact ⟨by exfalso; unfold own_tail at hgood; rw [if_pos hc7, if_neg hc9, if_neg hc63] at hgood; exact absurd hgood (by decide), N3⟩
  · have go75 : ∀ t, Steps p.tables e below (T3.setTop (mkF m 17 #[.val (.int p1), .val (.int t1), .val (.int n1), .unset, .unset, .unset, .unset] [(.int (0 : Int32))])) t → Steps p.tables e below (s₁.setTop (entryFrame m #[(.int p1)] maxLocals)) t := fun t k => go6 t (by
      show Steps p.tables e below (T3.setTop (mkF m 13 #[.val (.int p1), .val (.int t1), .val (.int n1), .unset, .unset, .unset, .unset] [(.int n1)])) _
      refine XS.ifNo X3.here hx rfl (hb hby at_13) rfl ((if0 _ _).trans (flt hc7).2.2.1) ?_
      show Steps p.tables e below (T3.setTop (mkF m 16 #[.val (.int p1), .val (.int t1), .val (.int n1), .unset, .unset, .unset, .unset] [])) _
      refine XS.iconst X3.here hx rfl (hb hby at_16) ?_
      exact k)
    obtain ⟨fs, hr, hrun, hended, hW, hsame⟩ := X3.leave (v := some (.int (0 : Int32))) (fun h => by rw [Bd.returns] at h; cases h)
    refine ⟨_, _, go75 _ ?_, hrun, hended, _, _, rfl, ?_, ⟨_, rfl⟩, hW, hsame.mono (by decide) (by decide)⟩
    · exact retN X3 hx (t := .boolean) Bd.returns (by simp) (hb hby at_17) hr
    · show QL n0 _ T3.heap _
      rw [e3]
      exact ⟨by exfalso; unfold own_tail at hgood; rw [if_neg hc7] at hgood; exact absurd hgood (by decide), N3⟩
set_option maxRecDepth 65536 in
set_option maxHeartbeats 40000000 in
theorem comes_1 {Post : Tables → Env → Array Value → State → Outcome → State → Prop} (hpost : ∀ tb e args s v u, (limb_1_1.after args s (.returned v) u = true ∧ limb_1_2.after args s (.returned v) u = true ∧ True) → FrameEnd s (.returned v) u (Jvm.fieldLocs frame_1_writes args s ++ Jvm.arrayLocs frame_1_arrays args s ++ Jvm.staticLocs frame_1_statics s) 0 0 → Post tb e args s (.returned v) u) :
    ArmFor flags0 classFile x code maxLocals ret World_1 tables_1 room_1 Calls_1 rest_1 Pre_1 Post := by
  intro l hfl _ _ p e ha hc hk s m args below hf hA hF happ hP
  obtain ⟨hcalls, hrest, hpre⟩ := hP
  obtain ⟨-, -, -, hnamed, -, -, -, hat⟩ := (Spec.applies_iff hf).mp happ
  obtain ⟨hg, hn⟩ := and_e (Cond.before_iff.mp (show (Jvm.Cond.and given_1 narrow_1).before args s = true from hpre))
  obtain ⟨g1, g2⟩ := and_e hg
  obtain ⟨w0, rfl⟩ : ∃ w0 : Value, args = #[w0] := by
    have hs : args.size = 1 := by simpa [Cond.value, given_1] using g1
    obtain ⟨L⟩ := args
    match L, hs with
    | [w0], _ => exact ⟨w0, rfl⟩
  have hw := fun d (hd : d ∈ tables_1) => atoms_spec (ws := Jvm.Cond.code x code maxLocals ret :: tables_1) hat d (List.mem_cons_of_mem _ hd)
  obtain ⟨i0, ei0⟩ := is_v g2
  obtain rfl : w0 = (.int i0) := Option.some.inj ei0
  obtain ⟨n, o, h1, h2, h3, _, L, rfl, ⟨rfl, N⟩, hq⟩ := rm_law l s _ hw tables_1 i0 s.heap s.heap.size (Nat.le_refl _)  p e ha hc hk s m _ below hf ((Spec.applies_iff_loose hf).mp happ).1 ⟨rfl, State.Warmed39.refl s, rfl⟩ trivial
  refine ⟨n, _, h1, h2, h3, hpost _ _ _ _ _ _ ⟨Cond.after_iff.mpr rfl, Cond.after_iff.mpr (eq_i res_at (Term.int_eval (1)) rfl), trivial⟩ ⟨hq.1, hq.2.1, (hq.2.2.sift fun y hy => Or.inr (N y hy)).mono (by decide) (by decide)⟩⟩
theorem main_1_1 : Claimed_1_1 := comes_1 fun _ _ _ _ _ _ h hF => ⟨h.1, hF⟩
theorem main_1_2 : Claimed_1_2 := comes_1 fun _ _ _ _ _ _ h hF => ⟨h.2.1, hF⟩
end Jvm.Pilot.@@N@@
namespace Jvm.Pilot.@@N@@
open Jvm Jvm.ClassFile Sem Op Lib Jvm.Free Jvm.Stand Jvm.Pilot.@@N@@.Jvm.D
/-! MADE BY PROGRAM (witnessworld.py) out of the Statement's table words and the real class files: 14 classes; the members and pool entries that the words name. The judged class is class 1, her method 1. -/
namespace start1
open Jvm.ClassFile
def u (s : String) : CpInfo := .utf8 (stringToUtf16 s)
/-- a pool by its gaps: so many unusable entries, then the entry; so many at the end -/
def gap : Nat → List CpInfo → List CpInfo
  | 0, r => r
  | n + 1, r => .unusable :: gap n r
def poolList (es : List (Nat × CpInfo)) (last : Nat) : List CpInfo := es.foldr (fun e r => gap e.1 (e.2 :: r)) (gap last [])
def pool (es : List (Nat × CpInfo)) (last : Nat) : Array CpInfo := ⟨poolList es last⟩
def fileOf (pool : Array CpInfo) (this : Nat) (attrs : Array Attribute := #[]) (ms : Array MethodInfo := #[]) (fl : Nat := 33) (sup : Nat := 0) (ifs : Array Nat := #[]) (fds : Array FieldInfo := #[]) : ClassFile where
  minorVersion := 0
  majorVersion := 65
  constantPool := pool
  accessFlags := fl
  thisClass := this
  superClass := sup
  interfaces := ifs
  fields := fds
  methods := ms
  attributes := attrs
def plain (name : String) (sup : Option ClassId) : Class where
  name := name
  kind := .ordinary
  loader := none
  accessFlags := 33
  super := sup
  interfaces := #[]
  cf := none
  fields := #[]
  methods := #[]
  instanceTypes := #[]
  staticTypes := #[]
  resolved := #[]
  callSites := []
  init := .initialized
  statics := none
  mirror := none

def pool0 : Array CpInfo := pool [(5, u "<init>"), (0, u "()V"), (1, .class_ 10), (1, u "java/lang/Object")] 113

def k0m0 : Method := { name := "<init>", desc := "()V", sig := { parameters := [], returnType := none }, accessFlags := 1, code := none }
/-- java/lang/Object -/
def k0 : Class := { plain "java/lang/Object" none with
  accessFlags := 33
  interfaces := #[]
  cf := some (fileOf pool0 8 #[] #[{ accessFlags := 1, nameIndex := 5, descriptorIndex := 6, attributes := #[] }] 33 0 #[] #[])
  fields := #[]
  methods := #[k0m0]
  instanceTypes := #[]
  staticTypes := #[]
  resolved := Array.replicate 124 none
  statics := none }

def pool1 : Array CpInfo := pool [(2, .class_ 4), (1, u "java/lang/Object"), (0, u "<init>"), (0, u "()V"), (0, .integer 1073741823), (0, .methodref 9 10), (0, .class_ 11), (0, .nameAndType 12 13), (0, u "com/example/radicand/radicand/integer/internal/Convolution"), (0, u "transformLength"), (0, u "(I)I"), (0, .class_ 15), (0, u "com/example/radicand/radicand/integer/internal/ConvolutionTransformLengthPinLaw"), (2, u "law"), (0, u "(I)Z")] 3

def k1m0 : Method := { name := "<init>", desc := "()V", sig := { parameters := [], returnType := none }, accessFlags := 2, code := none }
def k1c1 : Code := { maxStack := 3, maxLocals := 7, code := code, exceptionTable := #[], attributes := #[] }
def k1m1 : Method := { name := "law", desc := "(I)Z", sig := { parameters := [.int], returnType := some .boolean }, accessFlags := 9, code := some k1c1 }
/-- com/example/radicand/radicand/integer/internal/ConvolutionTransformLengthPinLaw -/
def k1 : Class := { plain "com/example/radicand/radicand/integer/internal/ConvolutionTransformLengthPinLaw" (some 0) with
  accessFlags := 49
  interfaces := #[]
  cf := some (fileOf pool1 14 #[] #[{ accessFlags := 2, nameIndex := 5, descriptorIndex := 6, attributes := #[] }, { accessFlags := 9, nameIndex := 18, descriptorIndex := 19, attributes := #[] }] 49 2 #[] #[])
  fields := #[]
  methods := #[k1m0, k1m1]
  instanceTypes := #[]
  staticTypes := #[]
  resolved := Array.replicate 23 none
  statics := none }

def pool2 : Array CpInfo := pool [(4, .class_ 6), (1, u "java/lang/Object"), (0, u "<init>"), (0, u "()V"), (7, .class_ 18), (1, u "com/example/radicand/radicand/integer/internal/Convolution"), (4, u "transformLength"), (0, u "(I)I"), (2, u "PRIMES"), (0, u "[Lcom/example/radicand/radicand/integer/internal/Convolution$Prime;"), (3, .class_ 34), (1, u "com/example/radicand/radicand/integer/internal/Convolution$Prime"), (21, u "GARNER"), (0, u "Lcom/example/radicand/radicand/integer/internal/Convolution$Garner;"), (1, .class_ 61), (1, u "com/example/radicand/radicand/integer/internal/Convolution$Garner"), (6, .methodref 69 70), (0, .class_ 71), (0, .nameAndType 72 24), (0, u "java/lang/Integer"), (0, u "highestOneBit"), (73, u "J"), (3, u "MOST_PIECES"), (0, u "I"), (2, u "MOST_LENGTH_LOG"), (1, u "KEPT_LENGTH_LOG"), (1, u "KEPT_THIRDS_LOG"), (1, u "ROOT_ORDER_LOG"), (1, u "LOW_61_BITS"), (2, u "PIECE_BYTES")] 18

def k2m0 : Method := { name := "<init>", desc := "()V", sig := { parameters := [], returnType := none }, accessFlags := 2, code := none }
def k2c1 : Code := { maxStack := 3, maxLocals := 3, code := prog_13_method_4_code, exceptionTable := #[], attributes := #[] }
def k2m1 : Method := { name := "transformLength", desc := "(I)I", sig := { parameters := [.int], returnType := some .int }, accessFlags := 8, code := some k2c1 }
/-- com/example/radicand/radicand/integer/internal/Convolution -/
def k2 : Class := { plain "com/example/radicand/radicand/integer/internal/Convolution" (some 0) with
  accessFlags := 48
  interfaces := #[]
  cf := some (fileOf pool2 16 #[.nestMembers #[59, 32]] #[{ accessFlags := 2, nameIndex := 7, descriptorIndex := 8, attributes := #[] }, { accessFlags := 8, nameIndex := 23, descriptorIndex := 24, attributes := #[] }] 48 4 #[] #[{ accessFlags := 24, nameIndex := 150, descriptorIndex := 151, attributes := #[] }, { accessFlags := 26, nameIndex := 154, descriptorIndex := 151, attributes := #[] }, { accessFlags := 26, nameIndex := 156, descriptorIndex := 151, attributes := #[] }, { accessFlags := 26, nameIndex := 158, descriptorIndex := 151, attributes := #[] }, { accessFlags := 26, nameIndex := 160, descriptorIndex := 151, attributes := #[] }, { accessFlags := 26, nameIndex := 162, descriptorIndex := 146, attributes := #[] }, { accessFlags := 26, nameIndex := 27, descriptorIndex := 28, attributes := #[] }, { accessFlags := 26, nameIndex := 165, descriptorIndex := 151, attributes := #[] }, { accessFlags := 26, nameIndex := 56, descriptorIndex := 57, attributes := #[] }])
  fields := #[{ name := "MOST_PIECES", type := .int, accessFlags := 24, slot := 0, constantValue := 0 }, { name := "MOST_LENGTH_LOG", type := .int, accessFlags := 26, slot := 1, constantValue := 0 }, { name := "KEPT_LENGTH_LOG", type := .int, accessFlags := 26, slot := 2, constantValue := 0 }, { name := "KEPT_THIRDS_LOG", type := .int, accessFlags := 26, slot := 3, constantValue := 0 }, { name := "ROOT_ORDER_LOG", type := .int, accessFlags := 26, slot := 4, constantValue := 0 }, { name := "LOW_61_BITS", type := .long, accessFlags := 26, slot := 5, constantValue := 0 }, { name := "PRIMES", type := (.array (.object "com/example/radicand/radicand/integer/internal/Convolution$Prime")), accessFlags := 26, slot := 6, constantValue := 0 }, { name := "PIECE_BYTES", type := .int, accessFlags := 26, slot := 7, constantValue := 0 }, { name := "GARNER", type := (.object "com/example/radicand/radicand/integer/internal/Convolution$Garner"), accessFlags := 26, slot := 8, constantValue := 0 }]
  methods := #[k2m0, k2m1]
  instanceTypes := #[]
  staticTypes := #[.int, .int, .int, .int, .int, .long, (.array (.object "com/example/radicand/radicand/integer/internal/Convolution$Prime")), .int, (.object "com/example/radicand/radicand/integer/internal/Convolution$Garner")]
  resolved := Array.replicate 184 none
  statics := none }

def pool3 : Array CpInfo := pool [(1, .class_ 2), (0, u "java/io/Serializable"), (0, .class_ 4), (0, u "java/lang/Object")] 2

/-- java/io/Serializable -/
def k3 : Class := { plain "java/io/Serializable" (some 0) with
  accessFlags := 1537
  interfaces := #[]
  cf := some (fileOf pool3 1 #[] #[] 1537 3 #[] #[])
  fields := #[]
  methods := #[]
  instanceTypes := #[]
  staticTypes := #[]
  resolved := Array.replicate 7 none
  statics := none }

def pool4 : Array CpInfo := pool [(2, .class_ 4), (1, u "java/lang/Object"), (0, u "<init>"), (0, u "()V"), (1, .class_ 10), (1, u "java/lang/Number"), (2, .class_ 14), (0, u "java/io/Serializable"), (0, u "serialVersionUID"), (0, u "J")] 20

def k4m0 : Method := { name := "<init>", desc := "()V", sig := { parameters := [], returnType := none }, accessFlags := 1, code := none }
/-- java/lang/Number -/
def k4 : Class := { plain "java/lang/Number" (some 0) with
  accessFlags := 1057
  interfaces := #[3]
  cf := some (fileOf pool4 8 #[] #[{ accessFlags := 1, nameIndex := 5, descriptorIndex := 6, attributes := #[] }] 1057 2 #[13] #[{ accessFlags := 26, nameIndex := 15, descriptorIndex := 16, attributes := #[] }])
  fields := #[{ name := "serialVersionUID", type := .long, accessFlags := 26, slot := 0, constantValue := 0 }]
  methods := #[k4m0]
  instanceTypes := #[]
  staticTypes := #[.long]
  resolved := Array.replicate 37 none
  statics := none }

def pool5 : Array CpInfo := pool [(1, .class_ 2), (0, u "java/lang/Comparable"), (0, .class_ 4), (0, u "java/lang/Object")] 7

/-- java/lang/Comparable -/
def k5 : Class := { plain "java/lang/Comparable" (some 0) with
  accessFlags := 1537
  interfaces := #[]
  cf := some (fileOf pool5 1 #[] #[] 1537 3 #[] #[])
  fields := #[]
  methods := #[]
  instanceTypes := #[]
  staticTypes := #[]
  resolved := Array.replicate 12 none
  statics := none }

def pool6 : Array CpInfo := pool [(1, .class_ 2), (0, u "java/lang/constant/Constable"), (0, .class_ 4), (0, u "java/lang/Object")] 6

/-- java/lang/constant/Constable -/
def k6 : Class := { plain "java/lang/constant/Constable" (some 0) with
  accessFlags := 1537
  interfaces := #[]
  cf := some (fileOf pool6 1 #[] #[] 1537 3 #[] #[])
  fields := #[]
  methods := #[]
  instanceTypes := #[]
  staticTypes := #[]
  resolved := Array.replicate 11 none
  statics := none }

def pool7 : Array CpInfo := pool [(1, .class_ 2), (0, u "java/lang/constant/ConstantDesc"), (0, .class_ 4), (0, u "java/lang/Object")] 32

/-- java/lang/constant/ConstantDesc -/
def k7 : Class := { plain "java/lang/constant/ConstantDesc" (some 0) with
  accessFlags := 1537
  interfaces := #[]
  cf := some (fileOf pool7 1 #[] #[] 1537 3 #[] #[])
  fields := #[]
  methods := #[]
  instanceTypes := #[]
  staticTypes := #[]
  resolved := Array.replicate 37 none
  statics := none }

def pool8 : Array CpInfo := pool [(1, .class_ 2), (0, u "java/lang/Integer"), (16, u "digits"), (0, u "[C"), (30, .methodref 1 52), (0, .nameAndType 53 54), (0, u "numberOfLeadingZeros"), (0, u "(I)I"), (30, u "DigitOnes"), (0, u "[B"), (2, u "DigitTens"), (37, .integer 2147483648), (61, .class_ 190), (0, u "java/lang/Integer$IntegerCache"), (3, u "I"), (8, .class_ 204), (0, u "java/lang/Number"), (2, u "value"), (56, .integer 65536), (37, u "TYPE"), (0, u "Ljava/lang/Class;"), (0, .class_ 305), (0, u "java/lang/Comparable"), (0, .class_ 307), (0, u "java/lang/constant/Constable"), (0, .class_ 309), (0, u "java/lang/constant/ConstantDesc"), (0, u "MIN_VALUE"), (1, u "MAX_VALUE"), (3, u "SIZE"), (1, u "BYTES"), (1, u "serialVersionUID"), (0, u "J"), (81, u "highestOneBit")] 49

def k8c0 : Code := { maxStack := 3, maxLocals := 1, code := jdk_33_method_45_code, exceptionTable := #[], attributes := #[] }
def k8m0 : Method := { name := "highestOneBit", desc := "(I)I", sig := { parameters := [.int], returnType := some .int }, accessFlags := 9, code := some k8c0 }
def k8c1 : Code := { maxStack := 3, maxLocals := 2, code := jdk_33_method_47_code, exceptionTable := #[], attributes := #[] }
def k8m1 : Method := { name := "numberOfLeadingZeros", desc := "(I)I", sig := { parameters := [.int], returnType := some .int }, accessFlags := 9, code := some k8c1 }
/-- java/lang/Integer -/
def k8 : Class := { plain "java/lang/Integer" (some 4) with
  accessFlags := 49
  interfaces := #[5, 6, 7]
  cf := some (fileOf pool8 1 #[.nestMembers #[189]] #[{ accessFlags := 9, nameIndex := 403, descriptorIndex := 54, attributes := #[] }, { accessFlags := 9, nameIndex := 53, descriptorIndex := 54, attributes := #[] }] 49 203 #[304, 306, 308] #[{ accessFlags := 25, nameIndex := 310, descriptorIndex := 194, attributes := #[] }, { accessFlags := 25, nameIndex := 312, descriptorIndex := 194, attributes := #[] }, { accessFlags := 25, nameIndex := 302, descriptorIndex := 303, attributes := #[] }, { accessFlags := 24, nameIndex := 19, descriptorIndex := 20, attributes := #[] }, { accessFlags := 24, nameIndex := 89, descriptorIndex := 86, attributes := #[] }, { accessFlags := 24, nameIndex := 85, descriptorIndex := 86, attributes := #[] }, { accessFlags := 18, nameIndex := 207, descriptorIndex := 194, attributes := #[] }, { accessFlags := 25, nameIndex := 316, descriptorIndex := 194, attributes := #[] }, { accessFlags := 25, nameIndex := 318, descriptorIndex := 194, attributes := #[] }, { accessFlags := 26, nameIndex := 320, descriptorIndex := 321, attributes := #[] }])
  fields := #[{ name := "MIN_VALUE", type := .int, accessFlags := 25, slot := 0, constantValue := 0 }, { name := "MAX_VALUE", type := .int, accessFlags := 25, slot := 1, constantValue := 0 }, { name := "TYPE", type := (.object "java/lang/Class"), accessFlags := 25, slot := 2, constantValue := 0 }, { name := "digits", type := (.array .char), accessFlags := 24, slot := 3, constantValue := 0 }, { name := "DigitTens", type := (.array .byte), accessFlags := 24, slot := 4, constantValue := 0 }, { name := "DigitOnes", type := (.array .byte), accessFlags := 24, slot := 5, constantValue := 0 }, { name := "value", type := .int, accessFlags := 18, slot := 0, constantValue := 0 }, { name := "SIZE", type := .int, accessFlags := 25, slot := 6, constantValue := 0 }, { name := "BYTES", type := .int, accessFlags := 25, slot := 7, constantValue := 0 }, { name := "serialVersionUID", type := .long, accessFlags := 26, slot := 8, constantValue := 0 }]
  methods := #[k8m0, k8m1]
  instanceTypes := #[.int]
  staticTypes := #[.int, .int, (.object "java/lang/Class"), (.array .char), (.array .byte), (.array .byte), .int, .int, .long]
  resolved := Array.replicate 453 none
  statics := none }

def pool9 : Array CpInfo := pool [(1, u "java/lang/Cloneable"), (0, .class_ 1), (0, u "java/lang/Object"), (0, .class_ 3)] 3

/-- java/lang/Cloneable -/
def k9 : Class := { plain "java/lang/Cloneable" (some 0) with
  accessFlags := 1537
  interfaces := #[]
  cf := some (fileOf pool9 2 #[] #[] 1537 4 #[] #[])
  fields := #[]
  methods := #[]
  instanceTypes := #[]
  staticTypes := #[]
  resolved := Array.replicate 8 none
  statics := none }

/-- the primitive byte -/
def k10 : Class := { plain "byte" none with kind := .primitive 'B', accessFlags := 0x411 }
/-- [B -/
def k11 : Class := { plain "[B" (some 0) with kind := .array 10 .byte, interfaces := #[9, 3], accessFlags := 1041 }

/-- the primitive int -/
def k12 : Class := { plain "int" none with kind := .primitive 'I', accessFlags := 0x411 }
/-- [I -/
def k13 : Class := { plain "[I" (some 0) with kind := .array 12 .int, interfaces := #[9, 3], accessFlags := 1041 }

def heap : Heap := #[]
def classes : Array Class := #[k0, k1, k2, k3, k4, k5, k6, k7, k8, k9, k10, k11, k12, k13]
def interned : List (Array UInt16 × Addr) := []
def slotsUsed : Nat := 0
def theMethod : MethodId := ⟨1, 1⟩
def args0 : Array Value := #[.int 5]
def aboutOver (below : List Frame) : State where
  vm := { classes := classes, interned := interned.toArray }
  heap := heap
  slotsUsed := slotsUsed
  threads := #[{ frames := .invoking theMethod args0 :: below }]
def below0 : List Frame := [.native { method := ⟨0, 0⟩, args := #[] }]
def about1 : State := aboutOver below0
def p0 : Program := .bare "" "" ""
def e0 : Env := launch0.env 0 0 0
theorem w_frames : about1.frames = Frame.invoking theMethod args0 :: below0 := rfl
set_option maxRecDepth 65536 in
theorem w_args : argsFit about1.vm theMethod args0 = true := by decide +kernel
set_option maxRecDepth 65536 in
theorem w_heap : heapFits about1 = true := by decide +kernel
set_option maxRecDepth 65536 in
theorem w_runnable : about1.curStatus? = some .runnable := by decide +kernel
set_option maxRecDepth 65536 in
theorem w_alone : about1.alone = true := by decide +kernel
set_option maxRecDepth 65536 in
theorem w_named : about1.methodNamed? x = some theMethod := by decide +kernel
set_option maxRecDepth 65536 in
theorem w_hears : about1.hears theMethod below0 = true := by decide +kernel
set_option maxRecDepth 65536 in
theorem w_ripe : about1.ripe theMethod args0 below0 = true := by decide +kernel
theorem w_running : about1.status = .running := rfl
set_option maxRecDepth 65536 in
theorem w_room : about1.hasRoom e0.platform room_1 = true :=
  launch0.hasRoom_least _ room_1 (by decide +kernel) (by decide +kernel) (by decide +kernel) (by decide +kernel) (by decide +kernel) (by decide +kernel)
theorem allAtoms_all (ts : List Jvm.Cond) (a : Array Jvm.Value) (st : Jvm.State) : (allAtoms ts).before a st = ts.all (fun c => c.before a st) := by
  induction ts with
  | nil => rfl
  | cons c t ih =>
    show (Jvm.Cond.and c (allAtoms t)).before a st = _
    rw [Jvm.Cond.before_and, ih, List.all_cons]
def words1 : List Jvm.Cond := Jvm.Cond.code x code maxLocals ret :: tables_1
/-- a 'code' word, met by the world's own term for the bytes: nothing is compared byte by byte -/
theorem code_word {y : MethodName} {bytes : ByteArray} {mx : Nat} {rt : Option FieldType} {a : Array Value} {s : State} {m : MethodId} {meth : Method} {c : Code} (h1 : s.methodNamed? y = some m) (h2 : s.vm.method? m = some meth) (h3 : meth.code = some c) (h4 : c.code = bytes)
    (h5 : (c.maxLocals == mx && c.exceptionTable.isEmpty && decide (c.maxStack ≤ mostOperands) && decide (meth.sig.returnType = rt) && !meth.locks && decide (parseMethodDescriptor y.desc = some meth.sig)) = true) : (Jvm.Cond.code y bytes mx rt).before a s = true := by
  simp only [Bool.and_eq_true, beq_iff_eq, Bool.not_eq_true', decide_eq_true_eq] at h5
  obtain ⟨⟨⟨⟨⟨g1, g2⟩, g3⟩, g4⟩, g5⟩, g6⟩ := h5
  simp [Cond.before, Cond.holds, Cond.value, h1, h2, h3, h4, g1, g2, g3, g4, g5, g6]
def isCode : Jvm.Cond → Bool
  | .code _ _ _ _ => true
  | _ => false
theorem all_split {L : List Jvm.Cond} {P : Jvm.Cond → Bool} (h1 : L.all (fun c => isCode c || P c) = true) (h2 : ∀ c ∈ L.filter isCode, P c = true) : L.all P = true := by
  refine List.all_eq_true.mpr fun c hc => ?_
  have h := List.all_eq_true.mp h1 c hc
  rcases Bool.eq_false_or_eq_true (isCode c) with hi | hi
  · exact h2 c (List.mem_filter.mpr ⟨hc, hi⟩)
  · simpa [hi] using h
set_option maxRecDepth 65536 in
theorem w_c0 : (Jvm.Cond.code x code maxLocals ret).before args0 about1 = true := code_word (m := ⟨1, 1⟩) (meth := k1m1) (c := k1c1) (by decide +kernel) rfl rfl rfl (by decide +kernel)
set_option maxRecDepth 65536 in
theorem w_c1 : (Jvm.Cond.code ({ cls := "com/example/radicand/radicand/integer/internal/Convolution", name := "transformLength", desc := "(I)I" } : Jvm.MethodName) prog_13_method_4_code (3 : Nat) (Option.some Jvm.ClassFile.FieldType.int)).before args0 about1 = true := code_word (m := ⟨2, 1⟩) (meth := k2m1) (c := k2c1) (by decide +kernel) rfl rfl rfl (by decide +kernel)
set_option maxRecDepth 65536 in
theorem w_c2 : (Jvm.Cond.code ({ cls := "java/lang/Integer", name := "highestOneBit", desc := "(I)I" } : Jvm.MethodName) jdk_33_method_45_code (1 : Nat) (Option.some Jvm.ClassFile.FieldType.int)).before args0 about1 = true := code_word (m := ⟨8, 0⟩) (meth := k8m0) (c := k8c0) (by decide +kernel) rfl rfl rfl (by decide +kernel)
set_option maxRecDepth 65536 in
theorem w_c3 : (Jvm.Cond.code ({ cls := "java/lang/Integer", name := "numberOfLeadingZeros", desc := "(I)I" } : Jvm.MethodName) jdk_33_method_47_code (2 : Nat) (Option.some Jvm.ClassFile.FieldType.int)).before args0 about1 = true := code_word (m := ⟨8, 1⟩) (meth := k8m1) (c := k8c1) (by decide +kernel) rfl rfl rfl (by decide +kernel)
def codes1 : List Jvm.Cond := [Jvm.Cond.code x code maxLocals ret, Jvm.Cond.code ({ cls := "com/example/radicand/radicand/integer/internal/Convolution", name := "transformLength", desc := "(I)I" } : Jvm.MethodName) prog_13_method_4_code (3 : Nat) (Option.some Jvm.ClassFile.FieldType.int), Jvm.Cond.code ({ cls := "java/lang/Integer", name := "highestOneBit", desc := "(I)I" } : Jvm.MethodName) jdk_33_method_45_code (1 : Nat) (Option.some Jvm.ClassFile.FieldType.int), Jvm.Cond.code ({ cls := "java/lang/Integer", name := "numberOfLeadingZeros", desc := "(I)I" } : Jvm.MethodName) jdk_33_method_47_code (2 : Nat) (Option.some Jvm.ClassFile.FieldType.int)]
set_option maxRecDepth 65536 in
theorem codes_eq : words1.filter isCode = codes1 := rfl
theorem w_codes : ∀ c ∈ words1.filter isCode, c.before args0 about1 = true := by
  rw [codes_eq]
  intro c hc
  simp only [codes1, List.mem_cons, List.not_mem_nil, or_false] at hc
  rcases hc with rfl | rfl | rfl | rfl
  · exact w_c0
  · exact w_c1
  · exact w_c2
  · exact w_c3
set_option maxRecDepth 65536 in
theorem w_t1 : words1.all (fun c => isCode c || c.before args0 about1) = true := by decide +kernel
theorem w_tables : (allAtoms (Jvm.Cond.code x code maxLocals ret :: tables_1)).before args0 about1 = true := by
  rw [allAtoms_all]
  show words1.all (fun c => c.before args0 about1) = true
  refine all_split ?_ w_codes
  rw [w_t1]
set_option maxRecDepth 65536 in
theorem w_case : (Jvm.Cond.and given_1 narrow_1).before args0 about1 = true := by decide +kernel
theorem w_applies : (headSpec (Jvm.Cond.code x code maxLocals ret :: tables_1) room_1).applies x e0.platform about1 = true :=
  (Spec.applies_iff w_frames).mpr ⟨w_running, w_runnable, w_alone, w_named, w_hears, w_ripe, w_room, w_tables⟩
theorem atStart : AtStart classFile x code maxLocals ret World_1 tables_1 room_1 Calls_1 rest_1 Pre_1 launch0 p0 e0 about1 theMethod args0 below0 :=
  ⟨lists_1, trivial, launch0.admits_env _ _ _, launch0.least_env, fairChoices_fair.cas, fairChoices_fair.clock, w_frames, w_args, w_heap, w_applies, trivial, trivial, w_case⟩
end start1
theorem witness_1 : WitnessClaimed_1 := ⟨start1.p0, start1.e0, start1.about1, start1.theMethod, start1.args0, start1.below0, start1.atStart⟩
end Jvm.Pilot.@@N@@
