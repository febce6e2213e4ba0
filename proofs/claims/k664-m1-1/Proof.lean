import JvmDerived
import JvmDerived.Pilot.@@N@@Statement
import JvmDerived.Pilot.@@N@@Code
set_option linter.unusedVariables false
set_option linter.unusedSimpArgs false
namespace Jvm.RoadKit
open Sem ClassFile Op Lib Jvm.Stand Jvm.Free Jvm.LawKit
section New
variable {p : Program} {l : Launch} {e : Env} {R : Room} {s : State} {m : MethodId} {args : Array Value} {below : List Frame} {meth : Method} {c : Code} {T : State} {locs : List Loc} {cells slots : Nat}
theorem retI (X : Stand p l e R s m args below meth c T locs cells slots) (hx : p.tables.exec = Jvm.exec) {pc : Nat} {Ls : Array Slot} {z : Int32} {rest : List Value} (hret : meth.sig.returnType = some .int) (hd : decode c.code pc = .ok (.ireturn, 1)) {fs : List Frame}
    (hl : ∀ (f : JFrame) (acts : List Action), f.method = m → f.locked = none → f.entered = [] → (doReturn e (T.setTop f) acts (some (.int z))).1 = T.setFrames fs) : Steps p.tables e below (T.setTop (mkF m pc Ls (.int z :: rest))) (T.setFrames fs) := by
  have hm' : T.vm.method? m = some meth := X.method'
  have hn : narrow .int (.int z) = .int z := rfl
  show Steps p.tables e below (T.setTop { method := m, pc := pc, locals := Ls, stack := _ :: rest, locked := none }) _
  jvm_step X.here [X.here.top, hx, hd, hm', hret, hn]
  first | (intro acts; rw [hl _ acts rfl rfl rfl]) | rw [hl _ _ rfl rfl rfl]
  exact Steps.refl _
end New
end Jvm.RoadKit
namespace Jvm.Pilot.@@N@@
open Jvm Jvm.ClassFile Sem Op Lib Jvm.Free Jvm.Stand Jvm.LawKit Jvm.RoadKit Bundle Jvm.Pilot.@@N@@.Jvm.D
/-- a body that writes nothing and returns r -/
def QV (r : Value) (h0 : Heap) (n0 : Nat) (v : Option Value) (h : Heap) (L : List Loc) : Prop := v = some r ∧ Fr n0 L ∧ h = h0
/-- a body that writes nothing and returns nothing -/
def QN (h0 : Heap) (n0 : Nat) (v : Option Value) (h : Heap) (L : List Loc) : Prop := v = none ∧ Fr n0 L ∧ h = h0
theorem pd_0 : parseMethodDescriptor "(J)V" = some ⟨[.long], none⟩ := by decide +kernel
theorem pd_1 : parseMethodDescriptor "()J" = some ⟨[], some .long⟩ := by decide +kernel
theorem pd_2 : parseMethodDescriptor "(J)J" = some ⟨[.long], some .long⟩ := by decide +kernel
/-! the numbers, by name -/
def own_st (w : Int64) : Int64 := w + (-7046029254386353131 : Int64)
def own_m1 (w : Int64) : Int64 := (own_st w ^^^ (((own_st w).toUInt64 >>> ((30 : Int32) &&& 0x3f).toInt64.toUInt64).toInt64)) * (-4658895280553007687 : Int64)
def own_m2 (w : Int64) : Int64 := (own_m1 w ^^^ (((own_m1 w).toUInt64 >>> ((27 : Int32) &&& 0x3f).toInt64.toUInt64).toInt64)) * (-7723592293110705685 : Int64)
def own_m3 (w : Int64) : Int64 := own_m2 w ^^^ (((own_m2 w).toUInt64 >>> ((31 : Int32) &&& 0x3f).toInt64.toUInt64).toInt64)
def own_u1 (r : Int64) : Int64 := (r ^^^ ((r.toUInt64 >>> ((31 : Int32) &&& 0x3f).toInt64.toUInt64).toInt64)) ^^^ ((r.toUInt64 >>> ((62 : Int32) &&& 0x3f).toInt64.toUInt64).toInt64)
def own_u2 (r : Int64) : Int64 := own_u1 r * (3573116690164977347 : Int64)
def own_u3 (r : Int64) : Int64 := (own_u2 r ^^^ (((own_u2 r).toUInt64 >>> ((27 : Int32) &&& 0x3f).toInt64.toUInt64).toInt64)) ^^^ (((own_u2 r).toUInt64 >>> ((54 : Int32) &&& 0x3f).toInt64.toUInt64).toInt64)
def own_u4 (r : Int64) : Int64 := own_u3 r * (-7575587736534282103 : Int64)
def own_u5 (r : Int64) : Int64 := (own_u4 r ^^^ (((own_u4 r).toUInt64 >>> ((30 : Int32) &&& 0x3f).toInt64.toUInt64).toInt64)) ^^^ (((own_u4 r).toUInt64 >>> ((60 : Int32) &&& 0x3f).toInt64.toUInt64).toInt64)
theorem own_sh27 (z : Int64) : ((z.toUInt64 >>> ((27 : Int32) &&& 0x3f).toInt64.toUInt64).toInt64).toBitVec = z.toBitVec >>> 27 := rfl
theorem own_sh30 (z : Int64) : ((z.toUInt64 >>> ((30 : Int32) &&& 0x3f).toInt64.toUInt64).toInt64).toBitVec = z.toBitVec >>> 30 := rfl
theorem own_sh31 (z : Int64) : ((z.toUInt64 >>> ((31 : Int32) &&& 0x3f).toInt64.toUInt64).toInt64).toBitVec = z.toBitVec >>> 31 := rfl
theorem own_sh54 (z : Int64) : ((z.toUInt64 >>> ((54 : Int32) &&& 0x3f).toInt64.toUInt64).toInt64).toBitVec = z.toBitVec >>> 54 := rfl
theorem own_sh60 (z : Int64) : ((z.toUInt64 >>> ((60 : Int32) &&& 0x3f).toInt64.toUInt64).toInt64).toBitVec = z.toBitVec >>> 60 := rfl
theorem own_sh62 (z : Int64) : ((z.toUInt64 >>> ((62 : Int32) &&& 0x3f).toInt64.toUInt64).toInt64).toBitVec = z.toBitVec >>> 62 := rfl
/-- a right shift xored in is undone by two: k at least a third of 64 -/
theorem own_undo (x : BitVec 64) (k : Nat) (hk : 64 ≤ k + k + k) : (x ^^^ x >>> k) ^^^ ((x ^^^ x >>> k) >>> k) ^^^ ((x ^^^ x >>> k) >>> (k + k)) = x := by
  apply BitVec.eq_of_getLsbD_eq
  intro i hi
  simp only [BitVec.getLsbD_xor, BitVec.getLsbD_ushiftRight]
  have h3 : x.getLsbD (k + (k + k + i)) = false := BitVec.getLsbD_of_ge x _ (by omega)
  have e1 : k + (k + i) = k + k + i := by omega
  rw [h3, e1]
  cases x.getLsbD i <;> cases x.getLsbD (k + i) <;> cases x.getLsbD (k + k + i) <;> rfl
theorem own_back3 (w : Int64) : own_u1 (own_m3 w) = own_m2 w := by
  apply Int64.toBitVec_inj.mp
  simp only [own_u1, own_m3, Int64.toBitVec_xor, own_sh31, own_sh62]
  exact own_undo (own_m2 w).toBitVec 31 (by decide)
theorem own_back2 (w : Int64) : own_u2 (own_m3 w) = own_m1 w ^^^ (((own_m1 w).toUInt64 >>> ((27 : Int32) &&& 0x3f).toInt64.toUInt64).toInt64) := by
  unfold own_u2
  rw [own_back3]
  unfold own_m2
  rw [Int64.mul_assoc, show (-7723592293110705685 : Int64) * 3573116690164977347 = 1 from by decide, Int64.mul_one]
theorem own_back1 (w : Int64) : own_u3 (own_m3 w) = own_m1 w := by
  unfold own_u3
  rw [own_back2]
  apply Int64.toBitVec_inj.mp
  simp only [Int64.toBitVec_xor, own_sh27, own_sh54]
  exact own_undo (own_m1 w).toBitVec 27 (by decide)
theorem own_back0 (w : Int64) : own_u4 (own_m3 w) = own_st w ^^^ (((own_st w).toUInt64 >>> ((30 : Int32) &&& 0x3f).toInt64.toUInt64).toInt64) := by
  unfold own_u4
  rw [own_back1]
  unfold own_m1
  rw [Int64.mul_assoc, show (-4658895280553007687 : Int64) * (-7575587736534282103) = 1 from by decide, Int64.mul_one]
theorem own_back (w : Int64) : own_u5 (own_m3 w) = own_st w := by
  unfold own_u5
  rw [own_back0]
  apply Int64.toBitVec_inj.mp
  simp only [Int64.toBitVec_xor, own_sh30, own_sh60]
  exact own_undo (own_st w).toBitVec 30 (by decide)
theorem um_0 : decode method_2_code 0 = .ok (.lload_n 0, 1) := by decide +kernel
theorem um_1 : decode method_2_code 1 = .ok (.lload_n 0, 1) := by decide +kernel
theorem um_2 : decode method_2_code 2 = .ok (.bipush 31, 2) := by decide +kernel
theorem um_4 : decode method_2_code 4 = .ok (.lushr, 1) := by decide +kernel
theorem um_5 : decode method_2_code 5 = .ok (.lxor, 1) := by decide +kernel
theorem um_6 : decode method_2_code 6 = .ok (.lload_n 0, 1) := by decide +kernel
theorem um_7 : decode method_2_code 7 = .ok (.bipush 62, 2) := by decide +kernel
theorem um_9 : decode method_2_code 9 = .ok (.lushr, 1) := by decide +kernel
theorem um_10 : decode method_2_code 10 = .ok (.lxor, 1) := by decide +kernel
theorem um_11 : decode method_2_code 11 = .ok (.lstore_n 2, 1) := by decide +kernel
theorem um_12 : decode method_2_code 12 = .ok (.lload_n 2, 1) := by decide +kernel
theorem um_13 : decode method_2_code 13 = .ok (.ldc2_w 7, 3) := by decide +kernel
theorem um_16 : decode method_2_code 16 = .ok (.lmul, 1) := by decide +kernel
theorem um_17 : decode method_2_code 17 = .ok (.lstore 4, 2) := by decide +kernel
theorem um_19 : decode method_2_code 19 = .ok (.lload 4, 2) := by decide +kernel
theorem um_21 : decode method_2_code 21 = .ok (.lload 4, 2) := by decide +kernel
theorem um_23 : decode method_2_code 23 = .ok (.bipush 27, 2) := by decide +kernel
theorem um_25 : decode method_2_code 25 = .ok (.lushr, 1) := by decide +kernel
theorem um_26 : decode method_2_code 26 = .ok (.lxor, 1) := by decide +kernel
theorem um_27 : decode method_2_code 27 = .ok (.lload 4, 2) := by decide +kernel
theorem um_29 : decode method_2_code 29 = .ok (.bipush 54, 2) := by decide +kernel
theorem um_31 : decode method_2_code 31 = .ok (.lushr, 1) := by decide +kernel
theorem um_32 : decode method_2_code 32 = .ok (.lxor, 1) := by decide +kernel
theorem um_33 : decode method_2_code 33 = .ok (.lstore 6, 2) := by decide +kernel
theorem um_35 : decode method_2_code 35 = .ok (.lload 6, 2) := by decide +kernel
theorem um_37 : decode method_2_code 37 = .ok (.ldc2_w 9, 3) := by decide +kernel
theorem um_40 : decode method_2_code 40 = .ok (.lmul, 1) := by decide +kernel
theorem um_41 : decode method_2_code 41 = .ok (.lstore 8, 2) := by decide +kernel
theorem um_43 : decode method_2_code 43 = .ok (.lload 8, 2) := by decide +kernel
theorem um_45 : decode method_2_code 45 = .ok (.lload 8, 2) := by decide +kernel
theorem um_47 : decode method_2_code 47 = .ok (.bipush 30, 2) := by decide +kernel
theorem um_49 : decode method_2_code 49 = .ok (.lushr, 1) := by decide +kernel
theorem um_50 : decode method_2_code 50 = .ok (.lxor, 1) := by decide +kernel
theorem um_51 : decode method_2_code 51 = .ok (.lload 8, 2) := by decide +kernel
theorem um_53 : decode method_2_code 53 = .ok (.bipush 60, 2) := by decide +kernel
theorem um_55 : decode method_2_code 55 = .ok (.lushr, 1) := by decide +kernel
theorem um_56 : decode method_2_code 56 = .ok (.lxor, 1) := by decide +kernel
theorem um_57 : decode method_2_code 57 = .ok (.lreturn, 1) := by decide +kernel
theorem pn_um : plainName "com/example/orthogon/orthogon/SplitMix64NextLongPinLaw" = true := by first | (simp [plainName, overriddenIn]; done) | decide +kernel
theorem ef_um (m : MethodId) (q1 : Int64) : entryFrame m #[(.long q1)] 10 = mkF m 0 #[.val (.long q1), .second, .unset, .unset, .unset, .unset, .unset, .unset, .unset, .unset] [] := by first | (simp [entryFrame, mkF, argsToLocals, Value.category]; done) | rfl
def own_um (q1 : Int64) : Int64 := (own_u5 q1)
set_option maxRecDepth 65536 in
set_option maxHeartbeats 40000000 in
theorem rm_um (l : Launch) (Z : State) (a0 : Array Value) (hw : ∀ d ∈ tables_1, d.before a0 Z = true) (ws : List Jvm.Cond) (q1 : Int64) (h0 : Heap) (n0 : Nat) (Z0 : n0 ≤ h0.size)  :
    MetFree l (⟨"com/example/orthogon/orthogon/SplitMix64NextLongPinLaw", "unmix", "(J)J"⟩ : MethodName) (head1 (Jvm.Cond.code (⟨"com/example/orthogon/orthogon/SplitMix64NextLongPinLaw", "unmix", "(J)J"⟩ : MethodName) method_2_code 10 (some .long) :: ws) ({ frames := 0, cells := 0, slots := 0, locals := 0 } : Room)) (fun a U => a = #[(.long q1)] ∧ Z.Warmed39 U.vm ∧ U.heap = h0) (fun _ _ _ _ _ => True) (fun _ U o U' => ∃ v L, o = .returned v ∧ QV (.long (own_um q1)) h0 n0 v U'.heap L ∧ FrameEnd U o U' L ({ frames := 0, cells := 0, slots := 0, locals := 0 } : Room).cells ({ frames := 0, cells := 0, slots := 0, locals := 0 } : Room).slots) := by
  refine MetFree.of_bodySF (plainFor_of_name pn_um) hisR ?_
  intro p e s m args below meth c s₁ Bd hml0 hP hK
  obtain ⟨rfl, hZ, hh⟩ := hP
  have hx := Bd.exec
  have hby := Bd.bytes
  have hml : c.maxLocals = 10 := hml0
  have hown : s.vm.findClass "com/example/orthogon/orthogon/SplitMix64NextLongPinLaw" = some m.cls := findClass_of_methodNamed Bd.named
  have hnm := (name_of_methodNamed Bd.named Bd.method).1
  have X0 : Stand p l e ({ frames := 0, cells := 0, slots := 0, locals := 0 } : Room) s m #[(.long q1)] below meth c s₁ [] 0 0 := Stand.of_body Bd
  have e0 : s₁.heap = h0 := by rw [← hh, Bd.state]; rfl
  have N0 := Fr.nil n0
  have go0 : ∀ t, Steps p.tables e below (s₁.setTop (mkF m 0 #[.val (.long q1), .second, .unset, .unset, .unset, .unset, .unset, .unset, .unset, .unset] [])) t → Steps p.tables e below (s₁.setTop (entryFrame m #[(.long q1)] 10)) t := fun t k => castTop (ef_um m q1) k
  have go1 : ∀ t, Steps p.tables e below (s₁.setTop (mkF m 57 #[.val (.long q1), .second, .val (.long (own_u1 q1)), .second, .val (.long (own_u2 q1)), .second, .val (.long (own_u3 q1)), .second, .val (.long (own_u4 q1)), .second] [(.long (own_u5 q1))])) t → Steps p.tables e below (s₁.setTop (entryFrame m #[(.long q1)] 10)) t := fun t k => go0 t (by
    show Steps p.tables e below (s₁.setTop (mkF m 0 #[.val (.long q1), .second, .unset, .unset, .unset, .unset, .unset, .unset, .unset, .unset] [])) _
    refine XS.lloadN X0.here hx rfl (hb hby um_0) rfl ?_
    show Steps p.tables e below (s₁.setTop (mkF m 1 #[.val (.long q1), .second, .unset, .unset, .unset, .unset, .unset, .unset, .unset, .unset] [(.long q1)])) _
    refine XS.lloadN X0.here hx rfl (hb hby um_1) rfl ?_
    show Steps p.tables e below (s₁.setTop (mkF m 2 #[.val (.long q1), .second, .unset, .unset, .unset, .unset, .unset, .unset, .unset, .unset] [(.long q1), (.long q1)])) _
    refine XS.bipush X0.here hx rfl (hb hby um_2) ?_
    show Steps p.tables e below (s₁.setTop (mkF m 4 #[.val (.long q1), .second, .unset, .unset, .unset, .unset, .unset, .unset, .unset, .unset] [(.int (31 : Int32)), (.long q1), (.long q1)])) _
    refine XS.lushr X0.here hx rfl (hb hby um_4) rfl ?_
    show Steps p.tables e below (s₁.setTop (mkF m 5 #[.val (.long q1), .second, .unset, .unset, .unset, .unset, .unset, .unset, .unset, .unset] [(.long ((q1.toUInt64 >>> ((31 : Int32) &&& 0x3f).toInt64.toUInt64).toInt64)), (.long q1)])) _
    refine XS.lxor X0.here hx rfl (hb hby um_5) rfl ?_
    show Steps p.tables e below (s₁.setTop (mkF m 6 #[.val (.long q1), .second, .unset, .unset, .unset, .unset, .unset, .unset, .unset, .unset] [(.long (q1 ^^^ ((q1.toUInt64 >>> ((31 : Int32) &&& 0x3f).toInt64.toUInt64).toInt64)))])) _
    refine XS.lloadN X0.here hx rfl (hb hby um_6) rfl ?_
    show Steps p.tables e below (s₁.setTop (mkF m 7 #[.val (.long q1), .second, .unset, .unset, .unset, .unset, .unset, .unset, .unset, .unset] [(.long q1), (.long (q1 ^^^ ((q1.toUInt64 >>> ((31 : Int32) &&& 0x3f).toInt64.toUInt64).toInt64)))])) _
    refine XS.bipush X0.here hx rfl (hb hby um_7) ?_
    show Steps p.tables e below (s₁.setTop (mkF m 9 #[.val (.long q1), .second, .unset, .unset, .unset, .unset, .unset, .unset, .unset, .unset] [(.int (62 : Int32)), (.long q1), (.long (q1 ^^^ ((q1.toUInt64 >>> ((31 : Int32) &&& 0x3f).toInt64.toUInt64).toInt64)))])) _
    refine XS.lushr X0.here hx rfl (hb hby um_9) rfl ?_
    show Steps p.tables e below (s₁.setTop (mkF m 10 #[.val (.long q1), .second, .unset, .unset, .unset, .unset, .unset, .unset, .unset, .unset] [(.long ((q1.toUInt64 >>> ((62 : Int32) &&& 0x3f).toInt64.toUInt64).toInt64)), (.long (q1 ^^^ ((q1.toUInt64 >>> ((31 : Int32) &&& 0x3f).toInt64.toUInt64).toInt64)))])) _
    refine XS.lxor X0.here hx rfl (hb hby um_10) rfl ?_
    show Steps p.tables e below (s₁.setTop (mkF m 11 #[.val (.long q1), .second, .unset, .unset, .unset, .unset, .unset, .unset, .unset, .unset] [(.long (own_u1 q1))])) _
    refine XS.lstoreN X0.here hx rfl (hb hby um_11) rfl (l' := #[.val (.long q1), .second, .val (.long (own_u1 q1)), .second, .unset, .unset, .unset, .unset, .unset, .unset]) rfl ?_
    show Steps p.tables e below (s₁.setTop (mkF m 12 #[.val (.long q1), .second, .val (.long (own_u1 q1)), .second, .unset, .unset, .unset, .unset, .unset, .unset] [])) _
    refine XS.lloadN X0.here hx rfl (hb hby um_12) rfl ?_
    show Steps p.tables e below (s₁.setTop (mkF m 13 #[.val (.long q1), .second, .val (.long (own_u1 q1)), .second, .unset, .unset, .unset, .unset, .unset, .unset] [(.long (own_u1 q1))])) _
    refine X0.ldc2J hx hown (mvT hZ (hw _ (List.mem_of_getElem? (i := 24) rfl))) rfl (hb hby um_13) ?_
    show Steps p.tables e below (s₁.setTop (mkF m 16 #[.val (.long q1), .second, .val (.long (own_u1 q1)), .second, .unset, .unset, .unset, .unset, .unset, .unset] [(.long (3573116690164977347 : Int64)), (.long (own_u1 q1))])) _
    refine XS.lmul X0.here hx rfl (hb hby um_16) rfl ?_
    show Steps p.tables e below (s₁.setTop (mkF m 17 #[.val (.long q1), .second, .val (.long (own_u1 q1)), .second, .unset, .unset, .unset, .unset, .unset, .unset] [(.long (own_u2 q1))])) _
    refine XS.lstore X0.here hx rfl (hb hby um_17) rfl (l' := #[.val (.long q1), .second, .val (.long (own_u1 q1)), .second, .val (.long (own_u2 q1)), .second, .unset, .unset, .unset, .unset]) rfl ?_
    show Steps p.tables e below (s₁.setTop (mkF m 19 #[.val (.long q1), .second, .val (.long (own_u1 q1)), .second, .val (.long (own_u2 q1)), .second, .unset, .unset, .unset, .unset] [])) _
    refine XS.lload X0.here hx rfl (hb hby um_19) rfl ?_
    show Steps p.tables e below (s₁.setTop (mkF m 21 #[.val (.long q1), .second, .val (.long (own_u1 q1)), .second, .val (.long (own_u2 q1)), .second, .unset, .unset, .unset, .unset] [(.long (own_u2 q1))])) _
    refine XS.lload X0.here hx rfl (hb hby um_21) rfl ?_
    show Steps p.tables e below (s₁.setTop (mkF m 23 #[.val (.long q1), .second, .val (.long (own_u1 q1)), .second, .val (.long (own_u2 q1)), .second, .unset, .unset, .unset, .unset] [(.long (own_u2 q1)), (.long (own_u2 q1))])) _
    refine XS.bipush X0.here hx rfl (hb hby um_23) ?_
    show Steps p.tables e below (s₁.setTop (mkF m 25 #[.val (.long q1), .second, .val (.long (own_u1 q1)), .second, .val (.long (own_u2 q1)), .second, .unset, .unset, .unset, .unset] [(.int (27 : Int32)), (.long (own_u2 q1)), (.long (own_u2 q1))])) _
    refine XS.lushr X0.here hx rfl (hb hby um_25) rfl ?_
    show Steps p.tables e below (s₁.setTop (mkF m 26 #[.val (.long q1), .second, .val (.long (own_u1 q1)), .second, .val (.long (own_u2 q1)), .second, .unset, .unset, .unset, .unset] [(.long (((own_u2 q1).toUInt64 >>> ((27 : Int32) &&& 0x3f).toInt64.toUInt64).toInt64)), (.long (own_u2 q1))])) _
    refine XS.lxor X0.here hx rfl (hb hby um_26) rfl ?_
    show Steps p.tables e below (s₁.setTop (mkF m 27 #[.val (.long q1), .second, .val (.long (own_u1 q1)), .second, .val (.long (own_u2 q1)), .second, .unset, .unset, .unset, .unset] [(.long ((own_u2 q1) ^^^ (((own_u2 q1).toUInt64 >>> ((27 : Int32) &&& 0x3f).toInt64.toUInt64).toInt64)))])) _
    refine XS.lload X0.here hx rfl (hb hby um_27) rfl ?_
    show Steps p.tables e below (s₁.setTop (mkF m 29 #[.val (.long q1), .second, .val (.long (own_u1 q1)), .second, .val (.long (own_u2 q1)), .second, .unset, .unset, .unset, .unset] [(.long (own_u2 q1)), (.long ((own_u2 q1) ^^^ (((own_u2 q1).toUInt64 >>> ((27 : Int32) &&& 0x3f).toInt64.toUInt64).toInt64)))])) _
    refine XS.bipush X0.here hx rfl (hb hby um_29) ?_
    show Steps p.tables e below (s₁.setTop (mkF m 31 #[.val (.long q1), .second, .val (.long (own_u1 q1)), .second, .val (.long (own_u2 q1)), .second, .unset, .unset, .unset, .unset] [(.int (54 : Int32)), (.long (own_u2 q1)), (.long ((own_u2 q1) ^^^ (((own_u2 q1).toUInt64 >>> ((27 : Int32) &&& 0x3f).toInt64.toUInt64).toInt64)))])) _
    refine XS.lushr X0.here hx rfl (hb hby um_31) rfl ?_
    show Steps p.tables e below (s₁.setTop (mkF m 32 #[.val (.long q1), .second, .val (.long (own_u1 q1)), .second, .val (.long (own_u2 q1)), .second, .unset, .unset, .unset, .unset] [(.long (((own_u2 q1).toUInt64 >>> ((54 : Int32) &&& 0x3f).toInt64.toUInt64).toInt64)), (.long ((own_u2 q1) ^^^ (((own_u2 q1).toUInt64 >>> ((27 : Int32) &&& 0x3f).toInt64.toUInt64).toInt64)))])) _
    refine XS.lxor X0.here hx rfl (hb hby um_32) rfl ?_
    show Steps p.tables e below (s₁.setTop (mkF m 33 #[.val (.long q1), .second, .val (.long (own_u1 q1)), .second, .val (.long (own_u2 q1)), .second, .unset, .unset, .unset, .unset] [(.long (own_u3 q1))])) _
    refine XS.lstore X0.here hx rfl (hb hby um_33) rfl (l' := #[.val (.long q1), .second, .val (.long (own_u1 q1)), .second, .val (.long (own_u2 q1)), .second, .val (.long (own_u3 q1)), .second, .unset, .unset]) rfl ?_
    show Steps p.tables e below (s₁.setTop (mkF m 35 #[.val (.long q1), .second, .val (.long (own_u1 q1)), .second, .val (.long (own_u2 q1)), .second, .val (.long (own_u3 q1)), .second, .unset, .unset] [])) _
    refine XS.lload X0.here hx rfl (hb hby um_35) rfl ?_
    show Steps p.tables e below (s₁.setTop (mkF m 37 #[.val (.long q1), .second, .val (.long (own_u1 q1)), .second, .val (.long (own_u2 q1)), .second, .val (.long (own_u3 q1)), .second, .unset, .unset] [(.long (own_u3 q1))])) _
    refine X0.ldc2J hx hown (mvT hZ (hw _ (List.mem_of_getElem? (i := 25) rfl))) rfl (hb hby um_37) ?_
    show Steps p.tables e below (s₁.setTop (mkF m 40 #[.val (.long q1), .second, .val (.long (own_u1 q1)), .second, .val (.long (own_u2 q1)), .second, .val (.long (own_u3 q1)), .second, .unset, .unset] [(.long (-7575587736534282103 : Int64)), (.long (own_u3 q1))])) _
    refine XS.lmul X0.here hx rfl (hb hby um_40) rfl ?_
    show Steps p.tables e below (s₁.setTop (mkF m 41 #[.val (.long q1), .second, .val (.long (own_u1 q1)), .second, .val (.long (own_u2 q1)), .second, .val (.long (own_u3 q1)), .second, .unset, .unset] [(.long (own_u4 q1))])) _
    refine XS.lstore X0.here hx rfl (hb hby um_41) rfl (l' := #[.val (.long q1), .second, .val (.long (own_u1 q1)), .second, .val (.long (own_u2 q1)), .second, .val (.long (own_u3 q1)), .second, .val (.long (own_u4 q1)), .second]) rfl ?_
    show Steps p.tables e below (s₁.setTop (mkF m 43 #[.val (.long q1), .second, .val (.long (own_u1 q1)), .second, .val (.long (own_u2 q1)), .second, .val (.long (own_u3 q1)), .second, .val (.long (own_u4 q1)), .second] [])) _
    refine XS.lload X0.here hx rfl (hb hby um_43) rfl ?_
    show Steps p.tables e below (s₁.setTop (mkF m 45 #[.val (.long q1), .second, .val (.long (own_u1 q1)), .second, .val (.long (own_u2 q1)), .second, .val (.long (own_u3 q1)), .second, .val (.long (own_u4 q1)), .second] [(.long (own_u4 q1))])) _
    refine XS.lload X0.here hx rfl (hb hby um_45) rfl ?_
    show Steps p.tables e below (s₁.setTop (mkF m 47 #[.val (.long q1), .second, .val (.long (own_u1 q1)), .second, .val (.long (own_u2 q1)), .second, .val (.long (own_u3 q1)), .second, .val (.long (own_u4 q1)), .second] [(.long (own_u4 q1)), (.long (own_u4 q1))])) _
    refine XS.bipush X0.here hx rfl (hb hby um_47) ?_
    show Steps p.tables e below (s₁.setTop (mkF m 49 #[.val (.long q1), .second, .val (.long (own_u1 q1)), .second, .val (.long (own_u2 q1)), .second, .val (.long (own_u3 q1)), .second, .val (.long (own_u4 q1)), .second] [(.int (30 : Int32)), (.long (own_u4 q1)), (.long (own_u4 q1))])) _
    refine XS.lushr X0.here hx rfl (hb hby um_49) rfl ?_
    show Steps p.tables e below (s₁.setTop (mkF m 50 #[.val (.long q1), .second, .val (.long (own_u1 q1)), .second, .val (.long (own_u2 q1)), .second, .val (.long (own_u3 q1)), .second, .val (.long (own_u4 q1)), .second] [(.long (((own_u4 q1).toUInt64 >>> ((30 : Int32) &&& 0x3f).toInt64.toUInt64).toInt64)), (.long (own_u4 q1))])) _
    refine XS.lxor X0.here hx rfl (hb hby um_50) rfl ?_
    show Steps p.tables e below (s₁.setTop (mkF m 51 #[.val (.long q1), .second, .val (.long (own_u1 q1)), .second, .val (.long (own_u2 q1)), .second, .val (.long (own_u3 q1)), .second, .val (.long (own_u4 q1)), .second] [(.long ((own_u4 q1) ^^^ (((own_u4 q1).toUInt64 >>> ((30 : Int32) &&& 0x3f).toInt64.toUInt64).toInt64)))])) _
    refine XS.lload X0.here hx rfl (hb hby um_51) rfl ?_
    show Steps p.tables e below (s₁.setTop (mkF m 53 #[.val (.long q1), .second, .val (.long (own_u1 q1)), .second, .val (.long (own_u2 q1)), .second, .val (.long (own_u3 q1)), .second, .val (.long (own_u4 q1)), .second] [(.long (own_u4 q1)), (.long ((own_u4 q1) ^^^ (((own_u4 q1).toUInt64 >>> ((30 : Int32) &&& 0x3f).toInt64.toUInt64).toInt64)))])) _
    refine XS.bipush X0.here hx rfl (hb hby um_53) ?_
    show Steps p.tables e below (s₁.setTop (mkF m 55 #[.val (.long q1), .second, .val (.long (own_u1 q1)), .second, .val (.long (own_u2 q1)), .second, .val (.long (own_u3 q1)), .second, .val (.long (own_u4 q1)), .second] [(.int (60 : Int32)), (.long (own_u4 q1)), (.long ((own_u4 q1) ^^^ (((own_u4 q1).toUInt64 >>> ((30 : Int32) &&& 0x3f).toInt64.toUInt64).toInt64)))])) _
    refine XS.lushr X0.here hx rfl (hb hby um_55) rfl ?_
    show Steps p.tables e below (s₁.setTop (mkF m 56 #[.val (.long q1), .second, .val (.long (own_u1 q1)), .second, .val (.long (own_u2 q1)), .second, .val (.long (own_u3 q1)), .second, .val (.long (own_u4 q1)), .second] [(.long (((own_u4 q1).toUInt64 >>> ((60 : Int32) &&& 0x3f).toInt64.toUInt64).toInt64)), (.long ((own_u4 q1) ^^^ (((own_u4 q1).toUInt64 >>> ((30 : Int32) &&& 0x3f).toInt64.toUInt64).toInt64)))])) _
    refine XS.lxor X0.here hx rfl (hb hby um_56) rfl ?_
    exact k)
  obtain ⟨fs, hr, hrun, hended, hW, hsame⟩ := X0.leave (v := some (.long (own_u5 q1))) (fun h => by rw [Bd.returns] at h; cases h)
  refine ⟨_, _, go1 _ ?_, hrun, hended, _, _, rfl, ?_, ⟨_, rfl⟩, hW, hsame.mono (by decide) (by decide)⟩
  · show Steps p.tables e below (s₁.setTop (mkF m 57 #[.val (.long q1), .second, .val (.long (own_u1 q1)), .second, .val (.long (own_u2 q1)), .second, .val (.long (own_u3 q1)), .second, .val (.long (own_u4 q1)), .second] [(.long (own_u5 q1))])) _
    jvm_step X0.here [X0.here.top, hx, (hb hby um_57), X0.method', Bd.returns, narrow]
    first | (intro acts; rw [hr _ acts rfl rfl rfl]) | rw [hr _ _ rfl rfl rfl]
    exact Steps.refl _
  · show QV (.long (own_um q1)) h0 n0 _ s₁.heap _
    rw [e0]
    exact ⟨congrArg some (congrArg Value.long (Eq.symm (show (own_um q1) = (own_u5 q1) from by unfold own_um; rfl))), N0, rfl⟩
theorem own_law1 (q : Int64) : own_um (own_m3 q) = q + (-7046029254386353131 : Int64) := own_back q
theorem own_law2 (q : Int64) : own_um (own_m3 (own_st q)) = (q + (-7046029254386353131 : Int64)) + (-7046029254386353131 : Int64) := own_back (own_st q)
theorem ini_0 : decode prog_7_method_1_code 0 = .ok (.aload_n 0, 1) := by decide +kernel
theorem ini_1 : decode prog_7_method_1_code 1 = .ok (.invokespecial 1, 3) := by decide +kernel
theorem ini_4 : decode prog_7_method_1_code 4 = .ok (.aload_n 0, 1) := by decide +kernel
theorem ini_5 : decode prog_7_method_1_code 5 = .ok (.lload_n 1, 1) := by decide +kernel
theorem ini_6 : decode prog_7_method_1_code 6 = .ok (.putfield 7, 3) := by decide +kernel
theorem ini_9 : decode prog_7_method_1_code 9 = .ok (.return_, 1) := by decide +kernel
theorem pn_ini : plainName "com/example/orthogon/orthogon/SplitMix64" = true := by first | (simp [plainName, overriddenIn]; done) | decide +kernel
theorem ef_ini (m : MethodId) (a1 : Addr) (q2 : Int64) : entryFrame m #[(.ref a1), (.long q2)] 3 = mkF m 0 #[.val (.ref a1), .val (.long q2), .second] [] := by first | (simp [entryFrame, mkF, argsToLocals, Value.category]; done) | rfl
def Qini (Z : State) (a1 : Addr) (q2 : Int64) (h0 : Heap) (n0 : Nat) (v : Option Value) (h : Heap) (L : List Loc) : Prop := v = none ∧ Fr n0 L ∧ Keep h0 h [a1] ∧ Fld Z h a1 "com/example/orthogon/orthogon/SplitMix64" "state" "J" (.long q2)
set_option maxRecDepth 65536 in
set_option maxHeartbeats 40000000 in
theorem rm_ini (l : Launch) (Z : State) (a0 : Array Value) (hw : ∀ d ∈ tables_1, d.before a0 Z = true) (ws : List Jvm.Cond) (a1 : Addr) (q2 : Int64) (u1 : Value) (h0 : Heap) (n0 : Nat) (Z0 : n0 ≤ h0.size) (E1 : Exa Z h0 a1 "com/example/orthogon/orthogon/SplitMix64") (F1 : Fld Z h0 a1 "com/example/orthogon/orthogon/SplitMix64" "state" "J" u1) (g1 : n0 ≤ a1) :
    MetFree l (⟨"com/example/orthogon/orthogon/SplitMix64", "<init>", "(J)V"⟩ : MethodName) (head1 (Jvm.Cond.code (⟨"com/example/orthogon/orthogon/SplitMix64", "<init>", "(J)V"⟩ : MethodName) prog_7_method_1_code 3 none :: ws) ({ frames := 1, cells := 0, slots := 0, locals := 12 } : Room)) (fun a U => a = #[(.ref a1), (.long q2)] ∧ Z.Warmed39 U.vm ∧ U.heap = h0) (fun _ _ _ _ _ => True) (fun _ U o U' => ∃ v L, o = .returned v ∧ Qini Z a1 q2 h0 n0 v U'.heap L ∧ FrameEnd U o U' L ({ frames := 1, cells := 0, slots := 0, locals := 12 } : Room).cells ({ frames := 1, cells := 0, slots := 0, locals := 12 } : Room).slots) := by
  refine MetFree.of_bodySF (plainFor_of_name pn_ini) hisR ?_
  intro p e s m args below meth c s₁ Bd hml0 hP hK
  obtain ⟨rfl, hZ, hh⟩ := hP
  have hx := Bd.exec
  have hby := Bd.bytes
  have hml : c.maxLocals = 3 := hml0
  have hown : s.vm.findClass "com/example/orthogon/orthogon/SplitMix64" = some m.cls := findClass_of_methodNamed Bd.named
  have hnm := (name_of_methodNamed Bd.named Bd.method).1
  have X0 : Stand p l e ({ frames := 1, cells := 0, slots := 0, locals := 12 } : Room) s m #[(.ref a1), (.long q2)] below meth c s₁ [] 0 0 := Stand.of_body Bd
  have e0 : s₁.heap = h0 := by rw [← hh, Bd.state]; rfl
  have N0 := Fr.nil n0
  have go0 : ∀ t, Steps p.tables e below (s₁.setTop (mkF m 0 #[.val (.ref a1), .val (.long q2), .second] [])) t → Steps p.tables e below (s₁.setTop (entryFrame m #[(.ref a1), (.long q2)] 3)) t := fun t k => castTop (ef_ini m a1 q2) k
  have go1 : ∀ t, Steps p.tables e below (s₁.setTop (mkF m 1 #[.val (.ref a1), .val (.long q2), .second] [(.ref a1)])) t → Steps p.tables e below (s₁.setTop (entryFrame m #[(.ref a1), (.long q2)] 3)) t := fun t k => go0 t (by
    show Steps p.tables e below (s₁.setTop (mkF m 0 #[.val (.ref a1), .val (.long q2), .second] [])) _
    refine XS.aloadN X0.here hx rfl (hb hby ini_0) rfl rfl ?_
    exact k)
  obtain ⟨T2, X2, e2, st2⟩ := initO X0 hx hZ hown (hw _ (List.mem_of_getElem? (i := 7) rfl)) (hw _ (List.mem_of_getElem? (i := 8) rfl)) (hw _ (List.mem_of_getElem? (i := 9) rfl)) e0 (g := (mkF m 1 #[.val (.ref a1), .val (.long q2), .second] [(.ref a1)])) rfl (by rw [hml]; rfl) rfl (hb hby ini_1) (by decide) (W := 0) (by show 2 * 0 + _ ≤ _; exact Nat.le_of_eq rfl) (by decide)
  have go3 : ∀ t, Steps p.tables e below (T2.setTop (mkF m 4 #[.val (.ref a1), .val (.long q2), .second] [])) t → Steps p.tables e below (s₁.setTop (entryFrame m #[(.ref a1), (.long q2)] 3)) t := fun t k => go1 t (st2 t k)
  have go4 : ∀ t, Steps p.tables e below (T2.setTop (mkF m 6 #[.val (.ref a1), .val (.long q2), .second] [(.long q2), (.ref a1)])) t → Steps p.tables e below (s₁.setTop (entryFrame m #[(.ref a1), (.long q2)] 3)) t := fun t k => go3 t (by
    show Steps p.tables e below (T2.setTop (mkF m 4 #[.val (.ref a1), .val (.long q2), .second] [])) _
    refine XS.aloadN X2.here hx rfl (hb hby ini_4) rfl rfl ?_
    show Steps p.tables e below (T2.setTop (mkF m 5 #[.val (.ref a1), .val (.long q2), .second] [(.ref a1)])) _
    refine XS.lloadN X2.here hx rfl (hb hby ini_5) rfl ?_
    exact k)
  obtain ⟨T5, h5, X5, e5, W5, st5⟩ := putF X2 hx hZ hown (host := "") (Or.inl (hw _ (List.mem_of_getElem? (i := 10) rfl))) Via.refl e2 F1 E1 (Or.inl (hw _ (List.mem_of_getElem? (i := 11) rfl))) (hw _ (List.mem_of_getElem? (i := 2) rfl)) (ty := .long) (by decide) rfl rfl (g := (mkF m 6 #[.val (.ref a1), .val (.long q2), .second] [(.long q2), (.ref a1)])) rfl rfl (hb hby ini_6)
  have N5 := Fr.snoc X5 N0 g1
  have f6 := E1.wr W5
  have f7 := F1.same W5
  have f8 := ((Keep.refl h0 [a1])).wr W5 (Or.inl (List.mem_of_getElem? (i := 0) rfl))
  have go9 : ∀ t, Steps p.tables e below (T5.setTop (mkF m 9 #[.val (.ref a1), .val (.long q2), .second] [])) t → Steps p.tables e below (s₁.setTop (entryFrame m #[(.ref a1), (.long q2)] 3)) t := fun t k => go4 t (st5 t k)
  obtain ⟨fs, hr, hrun, hended, hW, hsame⟩ := X5.leave (v := none) (fun _ => rfl)
  refine ⟨_, _, go9 _ ?_, hrun, hended, _, _, rfl, ?_, ⟨_, rfl⟩, hW, hsame.mono (by decide) (by decide)⟩
  · exact X5.returnOut hx Bd.returns (hb hby ini_9) hr
  · show Qini Z a1 q2 h0 n0 _ T5.heap _
    rw [e5]
    exact ⟨rfl, N5, f8, f7⟩
theorem nx_0 : decode prog_7_method_2_code 0 = .ok (.aload_n 0, 1) := by decide +kernel
theorem nx_1 : decode prog_7_method_2_code 1 = .ok (.dup, 1) := by decide +kernel
theorem nx_2 : decode prog_7_method_2_code 2 = .ok (.getfield 7, 3) := by decide +kernel
theorem nx_5 : decode prog_7_method_2_code 5 = .ok (.ldc2_w 13, 3) := by decide +kernel
theorem nx_8 : decode prog_7_method_2_code 8 = .ok (.ladd, 1) := by decide +kernel
theorem nx_9 : decode prog_7_method_2_code 9 = .ok (.putfield 7, 3) := by decide +kernel
theorem nx_12 : decode prog_7_method_2_code 12 = .ok (.aload_n 0, 1) := by decide +kernel
theorem nx_13 : decode prog_7_method_2_code 13 = .ok (.getfield 7, 3) := by decide +kernel
theorem nx_16 : decode prog_7_method_2_code 16 = .ok (.aload_n 0, 1) := by decide +kernel
theorem nx_17 : decode prog_7_method_2_code 17 = .ok (.getfield 7, 3) := by decide +kernel
theorem nx_20 : decode prog_7_method_2_code 20 = .ok (.bipush 30, 2) := by decide +kernel
theorem nx_22 : decode prog_7_method_2_code 22 = .ok (.lushr, 1) := by decide +kernel
theorem nx_23 : decode prog_7_method_2_code 23 = .ok (.lxor, 1) := by decide +kernel
theorem nx_24 : decode prog_7_method_2_code 24 = .ok (.ldc2_w 15, 3) := by decide +kernel
theorem nx_27 : decode prog_7_method_2_code 27 = .ok (.lmul, 1) := by decide +kernel
theorem nx_28 : decode prog_7_method_2_code 28 = .ok (.lstore_n 1, 1) := by decide +kernel
theorem nx_29 : decode prog_7_method_2_code 29 = .ok (.lload_n 1, 1) := by decide +kernel
theorem nx_30 : decode prog_7_method_2_code 30 = .ok (.lload_n 1, 1) := by decide +kernel
theorem nx_31 : decode prog_7_method_2_code 31 = .ok (.bipush 27, 2) := by decide +kernel
theorem nx_33 : decode prog_7_method_2_code 33 = .ok (.lushr, 1) := by decide +kernel
theorem nx_34 : decode prog_7_method_2_code 34 = .ok (.lxor, 1) := by decide +kernel
theorem nx_35 : decode prog_7_method_2_code 35 = .ok (.ldc2_w 17, 3) := by decide +kernel
theorem nx_38 : decode prog_7_method_2_code 38 = .ok (.lmul, 1) := by decide +kernel
theorem nx_39 : decode prog_7_method_2_code 39 = .ok (.lstore_n 1, 1) := by decide +kernel
theorem nx_40 : decode prog_7_method_2_code 40 = .ok (.lload_n 1, 1) := by decide +kernel
theorem nx_41 : decode prog_7_method_2_code 41 = .ok (.lload_n 1, 1) := by decide +kernel
theorem nx_42 : decode prog_7_method_2_code 42 = .ok (.bipush 31, 2) := by decide +kernel
theorem nx_44 : decode prog_7_method_2_code 44 = .ok (.lushr, 1) := by decide +kernel
theorem nx_45 : decode prog_7_method_2_code 45 = .ok (.lxor, 1) := by decide +kernel
theorem nx_46 : decode prog_7_method_2_code 46 = .ok (.lreturn, 1) := by decide +kernel
theorem pn_nx : plainName "com/example/orthogon/orthogon/SplitMix64" = true := by first | (simp [plainName, overriddenIn]; done) | decide +kernel
theorem ef_nx (m : MethodId) (a1 : Addr) : entryFrame m #[(.ref a1)] 3 = mkF m 0 #[.val (.ref a1), .unset, .unset] [] := by first | (simp [entryFrame, mkF, argsToLocals, Value.category]; done) | rfl
def Qnx (Z : State) (a1 : Addr) (w2 : Int64) (h0 : Heap) (n0 : Nat) (v : Option Value) (h : Heap) (L : List Loc) : Prop := v = some (.long (own_m3 w2)) ∧ Fr n0 L ∧ Keep h0 h [a1] ∧ Fld Z h a1 "com/example/orthogon/orthogon/SplitMix64" "state" "J" (.long (own_st w2))
set_option maxRecDepth 65536 in
set_option maxHeartbeats 40000000 in
theorem rm_nx (l : Launch) (Z : State) (a0 : Array Value) (hw : ∀ d ∈ tables_1, d.before a0 Z = true) (ws : List Jvm.Cond) (a1 : Addr) (w2 : Int64) (h0 : Heap) (n0 : Nat) (Z0 : n0 ≤ h0.size) (E1 : Exa Z h0 a1 "com/example/orthogon/orthogon/SplitMix64") (F1 : Fld Z h0 a1 "com/example/orthogon/orthogon/SplitMix64" "state" "J" (.long w2)) (g1 : n0 ≤ a1) :
    MetFree l (⟨"com/example/orthogon/orthogon/SplitMix64", "nextLong", "()J"⟩ : MethodName) (head1 (Jvm.Cond.code (⟨"com/example/orthogon/orthogon/SplitMix64", "nextLong", "()J"⟩ : MethodName) prog_7_method_2_code 3 (some .long) :: ws) ({ frames := 0, cells := 0, slots := 0, locals := 0 } : Room)) (fun a U => a = #[(.ref a1)] ∧ Z.Warmed39 U.vm ∧ U.heap = h0) (fun _ _ _ _ _ => True) (fun _ U o U' => ∃ v L, o = .returned v ∧ Qnx Z a1 w2 h0 n0 v U'.heap L ∧ FrameEnd U o U' L ({ frames := 0, cells := 0, slots := 0, locals := 0 } : Room).cells ({ frames := 0, cells := 0, slots := 0, locals := 0 } : Room).slots) := by
  refine MetFree.of_bodySF (plainFor_of_name pn_nx) hisR ?_
  intro p e s m args below meth c s₁ Bd hml0 hP hK
  obtain ⟨rfl, hZ, hh⟩ := hP
  have hx := Bd.exec
  have hby := Bd.bytes
  have hml : c.maxLocals = 3 := hml0
  have hown : s.vm.findClass "com/example/orthogon/orthogon/SplitMix64" = some m.cls := findClass_of_methodNamed Bd.named
  have hnm := (name_of_methodNamed Bd.named Bd.method).1
  have X0 : Stand p l e ({ frames := 0, cells := 0, slots := 0, locals := 0 } : Room) s m #[(.ref a1)] below meth c s₁ [] 0 0 := Stand.of_body Bd
  have e0 : s₁.heap = h0 := by rw [← hh, Bd.state]; rfl
  have N0 := Fr.nil n0
  have go0 : ∀ t, Steps p.tables e below (s₁.setTop (mkF m 0 #[.val (.ref a1), .unset, .unset] [])) t → Steps p.tables e below (s₁.setTop (entryFrame m #[(.ref a1)] 3)) t := fun t k => castTop (ef_nx m a1) k
  have go1 : ∀ t, Steps p.tables e below (s₁.setTop (mkF m 2 #[.val (.ref a1), .unset, .unset] [(.ref a1), (.ref a1)])) t → Steps p.tables e below (s₁.setTop (entryFrame m #[(.ref a1)] 3)) t := fun t k => go0 t (by
    show Steps p.tables e below (s₁.setTop (mkF m 0 #[.val (.ref a1), .unset, .unset] [])) _
    refine XS.aloadN X0.here hx rfl (hb hby nx_0) rfl rfl ?_
    show Steps p.tables e below (s₁.setTop (mkF m 1 #[.val (.ref a1), .unset, .unset] [(.ref a1)])) _
    refine XS.dup X0.here hx rfl (hb hby nx_1) rfl rfl ?_
    exact k)
  obtain ⟨T2, X2, e2, st2⟩ := getF X0 hx hZ hown (host := "") (Or.inl (hw _ (List.mem_of_getElem? (i := 10) rfl))) Via.refl e0 F1 (g := (mkF m 2 #[.val (.ref a1), .unset, .unset] [(.ref a1), (.ref a1)])) rfl rfl (hb hby nx_2)
  have go3 : ∀ t, Steps p.tables e below (T2.setTop (mkF m 5 #[.val (.ref a1), .unset, .unset] [(.long w2), (.ref a1)])) t → Steps p.tables e below (s₁.setTop (entryFrame m #[(.ref a1)] 3)) t := fun t k => go1 t (st2 t k)
  have go4 : ∀ t, Steps p.tables e below (T2.setTop (mkF m 9 #[.val (.ref a1), .unset, .unset] [(.long (own_st w2)), (.ref a1)])) t → Steps p.tables e below (s₁.setTop (entryFrame m #[(.ref a1)] 3)) t := fun t k => go3 t (by
    show Steps p.tables e below (T2.setTop (mkF m 5 #[.val (.ref a1), .unset, .unset] [(.long w2), (.ref a1)])) _
    refine X2.ldc2J hx hown (mvT hZ (hw _ (List.mem_of_getElem? (i := 17) rfl))) rfl (hb hby nx_5) ?_
    show Steps p.tables e below (T2.setTop (mkF m 8 #[.val (.ref a1), .unset, .unset] [(.long (-7046029254386353131 : Int64)), (.long w2), (.ref a1)])) _
    refine XS.ladd X2.here hx rfl (hb hby nx_8) rfl ?_
    exact k)
  obtain ⟨T5, h5, X5, e5, W5, st5⟩ := putF X2 hx hZ hown (host := "") (Or.inl (hw _ (List.mem_of_getElem? (i := 10) rfl))) Via.refl e2 F1 E1 (Or.inl (hw _ (List.mem_of_getElem? (i := 11) rfl))) (hw _ (List.mem_of_getElem? (i := 2) rfl)) (ty := .long) (by decide) rfl rfl (g := (mkF m 9 #[.val (.ref a1), .unset, .unset] [(.long (own_st w2)), (.ref a1)])) rfl rfl (hb hby nx_9)
  have N5 := Fr.snoc X5 N0 g1
  have f6 := E1.wr W5
  have f7 := F1.same W5
  have f8 := ((Keep.refl h0 [a1])).wr W5 (Or.inl (List.mem_of_getElem? (i := 0) rfl))
  have go9 : ∀ t, Steps p.tables e below (T5.setTop (mkF m 12 #[.val (.ref a1), .unset, .unset] [])) t → Steps p.tables e below (s₁.setTop (entryFrame m #[(.ref a1)] 3)) t := fun t k => go4 t (st5 t k)
  have go10 : ∀ t, Steps p.tables e below (T5.setTop (mkF m 13 #[.val (.ref a1), .unset, .unset] [(.ref a1)])) t → Steps p.tables e below (s₁.setTop (entryFrame m #[(.ref a1)] 3)) t := fun t k => go9 t (by
    show Steps p.tables e below (T5.setTop (mkF m 12 #[.val (.ref a1), .unset, .unset] [])) _
    refine XS.aloadN X5.here hx rfl (hb hby nx_12) rfl rfl ?_
    exact k)
  obtain ⟨T11, X11, e11, st11⟩ := getF X5 hx hZ hown (host := "") (Or.inl (hw _ (List.mem_of_getElem? (i := 10) rfl))) Via.refl e5 f7 (g := (mkF m 13 #[.val (.ref a1), .unset, .unset] [(.ref a1)])) rfl rfl (hb hby nx_13)
  have go12 : ∀ t, Steps p.tables e below (T11.setTop (mkF m 16 #[.val (.ref a1), .unset, .unset] [(.long (own_st w2))])) t → Steps p.tables e below (s₁.setTop (entryFrame m #[(.ref a1)] 3)) t := fun t k => go10 t (st11 t k)
  have go13 : ∀ t, Steps p.tables e below (T11.setTop (mkF m 17 #[.val (.ref a1), .unset, .unset] [(.ref a1), (.long (own_st w2))])) t → Steps p.tables e below (s₁.setTop (entryFrame m #[(.ref a1)] 3)) t := fun t k => go12 t (by
    show Steps p.tables e below (T11.setTop (mkF m 16 #[.val (.ref a1), .unset, .unset] [(.long (own_st w2))])) _
    refine XS.aloadN X11.here hx rfl (hb hby nx_16) rfl rfl ?_
    exact k)
  obtain ⟨T14, X14, e14, st14⟩ := getF X11 hx hZ hown (host := "") (Or.inl (hw _ (List.mem_of_getElem? (i := 10) rfl))) Via.refl e11 f7 (g := (mkF m 17 #[.val (.ref a1), .unset, .unset] [(.ref a1), (.long (own_st w2))])) rfl rfl (hb hby nx_17)
  have go15 : ∀ t, Steps p.tables e below (T14.setTop (mkF m 20 #[.val (.ref a1), .unset, .unset] [(.long (own_st w2)), (.long (own_st w2))])) t → Steps p.tables e below (s₁.setTop (entryFrame m #[(.ref a1)] 3)) t := fun t k => go13 t (st14 t k)
  have go16 : ∀ t, Steps p.tables e below (T14.setTop (mkF m 46 #[.val (.ref a1), .val (.long (own_m2 w2)), .second] [(.long (own_m3 w2))])) t → Steps p.tables e below (s₁.setTop (entryFrame m #[(.ref a1)] 3)) t := fun t k => go15 t (by
    show Steps p.tables e below (T14.setTop (mkF m 20 #[.val (.ref a1), .unset, .unset] [(.long (own_st w2)), (.long (own_st w2))])) _
    refine XS.bipush X14.here hx rfl (hb hby nx_20) ?_
    show Steps p.tables e below (T14.setTop (mkF m 22 #[.val (.ref a1), .unset, .unset] [(.int (30 : Int32)), (.long (own_st w2)), (.long (own_st w2))])) _
    refine XS.lushr X14.here hx rfl (hb hby nx_22) rfl ?_
    show Steps p.tables e below (T14.setTop (mkF m 23 #[.val (.ref a1), .unset, .unset] [(.long (((own_st w2).toUInt64 >>> ((30 : Int32) &&& 0x3f).toInt64.toUInt64).toInt64)), (.long (own_st w2))])) _
    refine XS.lxor X14.here hx rfl (hb hby nx_23) rfl ?_
    show Steps p.tables e below (T14.setTop (mkF m 24 #[.val (.ref a1), .unset, .unset] [(.long ((own_st w2) ^^^ (((own_st w2).toUInt64 >>> ((30 : Int32) &&& 0x3f).toInt64.toUInt64).toInt64)))])) _
    refine X14.ldc2J hx hown (mvT hZ (hw _ (List.mem_of_getElem? (i := 18) rfl))) rfl (hb hby nx_24) ?_
    show Steps p.tables e below (T14.setTop (mkF m 27 #[.val (.ref a1), .unset, .unset] [(.long (-4658895280553007687 : Int64)), (.long ((own_st w2) ^^^ (((own_st w2).toUInt64 >>> ((30 : Int32) &&& 0x3f).toInt64.toUInt64).toInt64)))])) _
    refine XS.lmul X14.here hx rfl (hb hby nx_27) rfl ?_
    show Steps p.tables e below (T14.setTop (mkF m 28 #[.val (.ref a1), .unset, .unset] [(.long (own_m1 w2))])) _
    refine XS.lstoreN X14.here hx rfl (hb hby nx_28) rfl (l' := #[.val (.ref a1), .val (.long (own_m1 w2)), .second]) rfl ?_
    show Steps p.tables e below (T14.setTop (mkF m 29 #[.val (.ref a1), .val (.long (own_m1 w2)), .second] [])) _
    refine XS.lloadN X14.here hx rfl (hb hby nx_29) rfl ?_
    show Steps p.tables e below (T14.setTop (mkF m 30 #[.val (.ref a1), .val (.long (own_m1 w2)), .second] [(.long (own_m1 w2))])) _
    refine XS.lloadN X14.here hx rfl (hb hby nx_30) rfl ?_
    show Steps p.tables e below (T14.setTop (mkF m 31 #[.val (.ref a1), .val (.long (own_m1 w2)), .second] [(.long (own_m1 w2)), (.long (own_m1 w2))])) _
    refine XS.bipush X14.here hx rfl (hb hby nx_31) ?_
    show Steps p.tables e below (T14.setTop (mkF m 33 #[.val (.ref a1), .val (.long (own_m1 w2)), .second] [(.int (27 : Int32)), (.long (own_m1 w2)), (.long (own_m1 w2))])) _
    refine XS.lushr X14.here hx rfl (hb hby nx_33) rfl ?_
    show Steps p.tables e below (T14.setTop (mkF m 34 #[.val (.ref a1), .val (.long (own_m1 w2)), .second] [(.long (((own_m1 w2).toUInt64 >>> ((27 : Int32) &&& 0x3f).toInt64.toUInt64).toInt64)), (.long (own_m1 w2))])) _
    refine XS.lxor X14.here hx rfl (hb hby nx_34) rfl ?_
    show Steps p.tables e below (T14.setTop (mkF m 35 #[.val (.ref a1), .val (.long (own_m1 w2)), .second] [(.long ((own_m1 w2) ^^^ (((own_m1 w2).toUInt64 >>> ((27 : Int32) &&& 0x3f).toInt64.toUInt64).toInt64)))])) _
    refine X14.ldc2J hx hown (mvT hZ (hw _ (List.mem_of_getElem? (i := 19) rfl))) rfl (hb hby nx_35) ?_
    show Steps p.tables e below (T14.setTop (mkF m 38 #[.val (.ref a1), .val (.long (own_m1 w2)), .second] [(.long (-7723592293110705685 : Int64)), (.long ((own_m1 w2) ^^^ (((own_m1 w2).toUInt64 >>> ((27 : Int32) &&& 0x3f).toInt64.toUInt64).toInt64)))])) _
    refine XS.lmul X14.here hx rfl (hb hby nx_38) rfl ?_
    show Steps p.tables e below (T14.setTop (mkF m 39 #[.val (.ref a1), .val (.long (own_m1 w2)), .second] [(.long (own_m2 w2))])) _
    refine XS.lstoreN X14.here hx rfl (hb hby nx_39) rfl (l' := #[.val (.ref a1), .val (.long (own_m2 w2)), .second]) rfl ?_
    show Steps p.tables e below (T14.setTop (mkF m 40 #[.val (.ref a1), .val (.long (own_m2 w2)), .second] [])) _
    refine XS.lloadN X14.here hx rfl (hb hby nx_40) rfl ?_
    show Steps p.tables e below (T14.setTop (mkF m 41 #[.val (.ref a1), .val (.long (own_m2 w2)), .second] [(.long (own_m2 w2))])) _
    refine XS.lloadN X14.here hx rfl (hb hby nx_41) rfl ?_
    show Steps p.tables e below (T14.setTop (mkF m 42 #[.val (.ref a1), .val (.long (own_m2 w2)), .second] [(.long (own_m2 w2)), (.long (own_m2 w2))])) _
    refine XS.bipush X14.here hx rfl (hb hby nx_42) ?_
    show Steps p.tables e below (T14.setTop (mkF m 44 #[.val (.ref a1), .val (.long (own_m2 w2)), .second] [(.int (31 : Int32)), (.long (own_m2 w2)), (.long (own_m2 w2))])) _
    refine XS.lushr X14.here hx rfl (hb hby nx_44) rfl ?_
    show Steps p.tables e below (T14.setTop (mkF m 45 #[.val (.ref a1), .val (.long (own_m2 w2)), .second] [(.long (((own_m2 w2).toUInt64 >>> ((31 : Int32) &&& 0x3f).toInt64.toUInt64).toInt64)), (.long (own_m2 w2))])) _
    refine XS.lxor X14.here hx rfl (hb hby nx_45) rfl ?_
    exact k)
  obtain ⟨fs, hr, hrun, hended, hW, hsame⟩ := X14.leave (v := some (.long (own_m3 w2))) (fun h => by rw [Bd.returns] at h; cases h)
  refine ⟨_, _, go16 _ ?_, hrun, hended, _, _, rfl, ?_, ⟨_, rfl⟩, hW, hsame.mono (by decide) (by decide)⟩
  · show Steps p.tables e below (T14.setTop (mkF m 46 #[.val (.ref a1), .val (.long (own_m2 w2)), .second] [(.long (own_m3 w2))])) _
    jvm_step X14.here [X14.here.top, hx, (hb hby nx_46), X14.method', Bd.returns, narrow]
    first | (intro acts; rw [hr _ acts rfl rfl rfl]) | rw [hr _ _ rfl rfl rfl]
    exact Steps.refl _
  · show Qnx Z a1 w2 h0 n0 _ T14.heap _
    rw [e14]
    exact ⟨rfl, N5, f8, f7⟩
theorem pn_law : plainName "com/example/orthogon/orthogon/SplitMix64NextLongPinLaw" = true := by first | (simp [plainName, overriddenIn]; done) | decide +kernel
theorem ef_law (m : MethodId) (q1 : Int64) : entryFrame m #[(.long q1)] maxLocals = mkF m 0 #[.val (.long q1), .second, .unset, .unset, .unset, .unset, .unset, .unset, .unset, .unset, .unset] [] := by first | (simp [entryFrame, mkF, argsToLocals, Value.category, maxLocals]; done) | rfl
def QL (n0 : Nat) (v : Option Value) (h : Heap) (L : List Loc) : Prop := v = some (.int 1) ∧ Fr n0 L
set_option maxRecDepth 65536 in
set_option maxHeartbeats 40000000 in
theorem rm_law (l : Launch) (Z : State) (a0 : Array Value) (hw : ∀ d ∈ tables_1, d.before a0 Z = true) (ws : List Jvm.Cond) (q1 : Int64) (h0 : Heap) (n0 : Nat) (Z0 : n0 ≤ h0.size) :
    MetFree l x (head1 (Jvm.Cond.code x code maxLocals ret :: ws) room_1) (fun a U => a = #[(.long q1)] ∧ Z.Warmed39 U.vm ∧ U.heap = h0) (fun _ _ _ _ _ => True) (fun _ U o U' => ∃ v L, o = .returned v ∧ QL n0 v U'.heap L ∧ FrameEnd U o U' L room_1.cells room_1.slots) := by
  refine MetFree.of_bodySF (plainFor_of_name pn_law) hisR ?_
  intro p e s m args below meth c s₁ Bd hml0 hP hK
  obtain ⟨rfl, hZ, hh⟩ := hP
  have hx := Bd.exec
  have hby := Bd.bytes
  have hml : c.maxLocals = 11 := hml0
  have hown : s.vm.findClass "com/example/orthogon/orthogon/SplitMix64NextLongPinLaw" = some m.cls := findClass_of_methodNamed Bd.named
  have hnm := (name_of_methodNamed Bd.named Bd.method).1
  have X0 : Stand p l e room_1 s m #[(.long q1)] below meth c s₁ [] 0 0 := Stand.of_body Bd
  have e0 : s₁.heap = h0 := by rw [← hh, Bd.state]; rfl
  have N0 := Fr.nil n0
  have go0 : ∀ t, Steps p.tables e below (s₁.setTop (mkF m 0 #[.val (.long q1), .second, .unset, .unset, .unset, .unset, .unset, .unset, .unset, .unset, .unset] [])) t → Steps p.tables e below (s₁.setTop (entryFrame m #[(.long q1)] maxLocals)) t := fun t k => castTop (ef_law m q1) k
  have go1 : ∀ t, Steps p.tables e below (s₁.setTop (mkF m 4 #[.val (.long q1), .second, .val (.long (-7046029254386353131 : Int64)), .second, .unset, .unset, .unset, .unset, .unset, .unset, .unset] [])) t → Steps p.tables e below (s₁.setTop (entryFrame m #[(.long q1)] maxLocals)) t := fun t k => go0 t (by
    show Steps p.tables e below (s₁.setTop (mkF m 0 #[.val (.long q1), .second, .unset, .unset, .unset, .unset, .unset, .unset, .unset, .unset, .unset] [])) _
    refine X0.ldc2J hx hown (mvT hZ (hw _ (List.mem_of_getElem? (i := 0) rfl))) rfl (hb hby at_0) ?_
    show Steps p.tables e below (s₁.setTop (mkF m 3 #[.val (.long q1), .second, .unset, .unset, .unset, .unset, .unset, .unset, .unset, .unset, .unset] [(.long (-7046029254386353131 : Int64))])) _
    refine XS.lstoreN X0.here hx rfl (hb hby at_3) rfl (l' := #[.val (.long q1), .second, .val (.long (-7046029254386353131 : Int64)), .second, .unset, .unset, .unset, .unset, .unset, .unset, .unset]) rfl ?_
    exact k)
  obtain ⟨T2, h2, X2, e2, E2, A2, D2, -, st2⟩ := newO X0 hx hZ hown (hw _ (List.mem_of_getElem? (i := 1) rfl)) (hw _ (List.mem_of_getElem? (i := 2) rfl)) (hw _ (List.mem_of_getElem? (i := 3) rfl)) e0 (g := (mkF m 4 #[.val (.long q1), .second, .val (.long (-7046029254386353131 : Int64)), .second, .unset, .unset, .unset, .unset, .unset, .unset, .unset] [])) rfl (hb hby at_4) (by decide) (by decide)
  obtain ⟨b2, g2⟩ : ∃ z, z = h0.size := ⟨_, rfl⟩
  rw [← g2] at A2 D2 st2
  have g_b2 : n0 ≤ b2 := Nat.le_trans Z0 (Nat.le_of_eq g2.symm)
  have F2_state : Fld Z h2 b2 "com/example/orthogon/orthogon/SplitMix64" "state" "J" (.long (0 : Int64)) := D2 (Or.inl (hw _ (List.mem_of_getElem? (i := 11) rfl))) (ty := .long) (by decide)
  have go3 : ∀ t, Steps p.tables e below (T2.setTop (mkF m 7 #[.val (.long q1), .second, .val (.long (-7046029254386353131 : Int64)), .second, .unset, .unset, .unset, .unset, .unset, .unset, .unset] [(.ref b2)])) t → Steps p.tables e below (s₁.setTop (entryFrame m #[(.long q1)] maxLocals)) t := fun t k => go1 t (st2 t k)
  have go4 : ∀ t, Steps p.tables e below (T2.setTop (mkF m 9 #[.val (.long q1), .second, .val (.long (-7046029254386353131 : Int64)), .second, .unset, .unset, .unset, .unset, .unset, .unset, .unset] [(.long q1), (.ref b2), (.ref b2)])) t → Steps p.tables e below (s₁.setTop (entryFrame m #[(.long q1)] maxLocals)) t := fun t k => go3 t (by
    show Steps p.tables e below (T2.setTop (mkF m 7 #[.val (.long q1), .second, .val (.long (-7046029254386353131 : Int64)), .second, .unset, .unset, .unset, .unset, .unset, .unset, .unset] [(.ref b2)])) _
    refine XS.dup X2.here hx rfl (hb hby at_7) rfl rfl ?_
    show Steps p.tables e below (T2.setTop (mkF m 8 #[.val (.long q1), .second, .val (.long (-7046029254386353131 : Int64)), .second, .unset, .unset, .unset, .unset, .unset, .unset, .unset] [(.ref b2), (.ref b2)])) _
    refine XS.lloadN X2.here hx rfl (hb hby at_8) rfl ?_
    exact k)
  obtain ⟨_, _, ⟨T5, L5, k5, n5⟩, -, X5, ⟨Lc5, hQ5, l5, y5, z5⟩, st5⟩ := X2.specialBack hx (y := (⟨"com/example/orthogon/orthogon/SplitMix64", "<init>", "(J)V"⟩ : MethodName)) rfl hown (mvT hZ (hw _ (List.mem_of_getElem? (i := 4) rfl))) (mvT hZ (hw _ (List.mem_of_getElem? (i := 5) rfl))) (mvT hZ (hw _ (List.mem_of_getElem? (i := 6) rfl))) (by decide) (backOf (W := 1) (rm_ini l Z a0 hw [] b2 q1 _ h2 n0 (Nat.le_trans Z0 E2.1) A2 F2_state g_b2) hZ (hw _ (List.mem_of_getElem? (i := 6) rfl)) (hw _ (List.mem_of_getElem? (i := 3) rfl)) (by decide) (by decide)) (g := (mkF m 9 #[.val (.long q1), .second, .val (.long (-7046029254386353131 : Int64)), .second, .unset, .unset, .unset, .unset, .unset, .unset, .unset] [(.long q1), (.ref b2), (.ref b2)])) rfl (by rw [hml]; rfl) (Steps.refl _) (a := b2) (argsL := [(.long q1)]) (rest := [(.ref b2)]) (lenOf pd_0 rfl) rfl (by show 2 * 0 + _ ≤ _; exact Nat.le_of_eq rfl) (hb hby at_9) (fun _ _ => ⟨rfl, e2, (by decide : 1 + 0 ≤ _), (by decide : 3 + 0 ≤ _)⟩)
  dsimp only [Pt.U, Pt.locs, Pt.cells, Pt.slots] at X5 l5 y5 z5 st5 hQ5
  subst l5 y5 z5
  obtain ⟨h5, e5⟩ : ∃ z, T5.heap = z := ⟨_, rfl⟩
  rw [e5] at hQ5
  obtain ⟨rfl, N5q, K5, F5⟩ := hQ5
  have N5 := Fr.app N0 N5q
  have go6 : ∀ t, Steps p.tables e below (T5.setTop (mkF m 12 #[.val (.long q1), .second, .val (.long (-7046029254386353131 : Int64)), .second, .unset, .unset, .unset, .unset, .unset, .unset, .unset] [(.ref b2)])) t → Steps p.tables e below (s₁.setTop (entryFrame m #[(.long q1)] maxLocals)) t := fun t k => go4 t (st5.trans k)
  have f7 := A2.keep K5
  have go8 : ∀ t, Steps p.tables e below (T5.setTop (mkF m 16 #[.val (.long q1), .second, .val (.long (-7046029254386353131 : Int64)), .second, .val (.ref b2), .unset, .unset, .unset, .unset, .unset, .unset] [(.ref b2)])) t → Steps p.tables e below (s₁.setTop (entryFrame m #[(.long q1)] maxLocals)) t := fun t k => go6 t (by
    show Steps p.tables e below (T5.setTop (mkF m 12 #[.val (.long q1), .second, .val (.long (-7046029254386353131 : Int64)), .second, .unset, .unset, .unset, .unset, .unset, .unset, .unset] [(.ref b2)])) _
    refine XS.astore X5.here hx rfl (hb hby at_12) rfl rfl (l' := #[.val (.long q1), .second, .val (.long (-7046029254386353131 : Int64)), .second, .val (.ref b2), .unset, .unset, .unset, .unset, .unset, .unset]) rfl ?_
    show Steps p.tables e below (T5.setTop (mkF m 14 #[.val (.long q1), .second, .val (.long (-7046029254386353131 : Int64)), .second, .val (.ref b2), .unset, .unset, .unset, .unset, .unset, .unset] [])) _
    refine XS.aload X5.here hx rfl (hb hby at_14) rfl rfl ?_
    exact k)
  obtain ⟨cq9, kq9, q9a, q9b, q9c⟩ := isOf hZ e5 f7
  obtain ⟨_, _, ⟨T9, L9, k9, n9⟩, -, X9, ⟨Lc9, hQ9, l9, y9, z9⟩, st9⟩ := X5.virtualBack hx (y := (⟨"com/example/orthogon/orthogon/SplitMix64", "nextLong", "()J"⟩ : MethodName)) (z := (⟨"com/example/orthogon/orthogon/SplitMix64", "nextLong", "()J"⟩ : MethodName)) hown (mvT hZ (hw _ (List.mem_of_getElem? (i := 12) rfl))) (mvT hZ (hw _ (List.mem_of_getElem? (i := 13) rfl))) (notFace_of_selects (args := #[]) (mvT hZ (hw _ (List.mem_of_getElem? (i := 15) rfl)))) (mvT hZ (hw _ (List.mem_of_getElem? (i := 15) rfl))) (mvT hZ (hw _ (List.mem_of_getElem? (i := 14) rfl))) (by decide) (backOf (W := 0) (rm_nx l Z a0 hw [] b2 q1 h5 n0 (Nat.le_trans (Nat.le_trans Z0 E2.1) K5.1) f7 F5 g_b2) hZ (hw _ (List.mem_of_getElem? (i := 16) rfl)) (hw _ (List.mem_of_getElem? (i := 3) rfl)) (by decide) (by decide)) q9a q9c (g := (mkF m 16 #[.val (.long q1), .second, .val (.long (-7046029254386353131 : Int64)), .second, .val (.ref b2), .unset, .unset, .unset, .unset, .unset, .unset] [(.ref b2)])) rfl (by rw [hml]; rfl) (Steps.refl _) (argsL := []) (rest := []) (lenOf pd_1 rfl) rfl (by show 2 * 0 + _ ≤ _; exact Nat.le_of_eq rfl) (hb hby at_16) (fun _ _ => ⟨rfl, e5, (by decide : 1 + 0 ≤ _), (by decide : 3 + 0 ≤ _)⟩)
  dsimp only [Pt.U, Pt.locs, Pt.cells, Pt.slots] at X9 l9 y9 z9 st9 hQ9
  subst l9 y9 z9
  obtain ⟨h9, e9⟩ : ∃ z, T9.heap = z := ⟨_, rfl⟩
  rw [e9] at hQ9
  obtain ⟨rfl, N9q, K9, F9⟩ := hQ9
  have N9 := Fr.app N5 N9q
  have go10 : ∀ t, Steps p.tables e below (T9.setTop (mkF m 19 #[.val (.long q1), .second, .val (.long (-7046029254386353131 : Int64)), .second, .val (.ref b2), .unset, .unset, .unset, .unset, .unset, .unset] [(.long (own_m3 q1))])) t → Steps p.tables e below (s₁.setTop (entryFrame m #[(.long q1)] maxLocals)) t := fun t k => go8 t (st9.trans k)
  have f11 := f7.keep K9
  have go12 : ∀ t, Steps p.tables e below (T9.setTop (mkF m 23 #[.val (.long q1), .second, .val (.long (-7046029254386353131 : Int64)), .second, .val (.ref b2), .val (.long (own_m3 q1)), .second, .unset, .unset, .unset, .unset] [(.ref b2)])) t → Steps p.tables e below (s₁.setTop (entryFrame m #[(.long q1)] maxLocals)) t := fun t k => go10 t (by
    show Steps p.tables e below (T9.setTop (mkF m 19 #[.val (.long q1), .second, .val (.long (-7046029254386353131 : Int64)), .second, .val (.ref b2), .unset, .unset, .unset, .unset, .unset, .unset] [(.long (own_m3 q1))])) _
    refine XS.lstore X9.here hx rfl (hb hby at_19) rfl (l' := #[.val (.long q1), .second, .val (.long (-7046029254386353131 : Int64)), .second, .val (.ref b2), .val (.long (own_m3 q1)), .second, .unset, .unset, .unset, .unset]) rfl ?_
    show Steps p.tables e below (T9.setTop (mkF m 21 #[.val (.long q1), .second, .val (.long (-7046029254386353131 : Int64)), .second, .val (.ref b2), .val (.long (own_m3 q1)), .second, .unset, .unset, .unset, .unset] [])) _
    refine XS.aload X9.here hx rfl (hb hby at_21) rfl rfl ?_
    exact k)
  obtain ⟨cq13, kq13, q13a, q13b, q13c⟩ := isOf hZ e9 f11
  obtain ⟨_, _, ⟨T13, L13, k13, n13⟩, -, X13, ⟨Lc13, hQ13, l13, y13, z13⟩, st13⟩ := X9.virtualBack hx (y := (⟨"com/example/orthogon/orthogon/SplitMix64", "nextLong", "()J"⟩ : MethodName)) (z := (⟨"com/example/orthogon/orthogon/SplitMix64", "nextLong", "()J"⟩ : MethodName)) hown (mvT hZ (hw _ (List.mem_of_getElem? (i := 12) rfl))) (mvT hZ (hw _ (List.mem_of_getElem? (i := 13) rfl))) (notFace_of_selects (args := #[]) (mvT hZ (hw _ (List.mem_of_getElem? (i := 15) rfl)))) (mvT hZ (hw _ (List.mem_of_getElem? (i := 15) rfl))) (mvT hZ (hw _ (List.mem_of_getElem? (i := 14) rfl))) (by decide) (backOf (W := 0) (rm_nx l Z a0 hw [] b2 (own_st q1) h9 n0 (Nat.le_trans (Nat.le_trans (Nat.le_trans Z0 E2.1) K5.1) K9.1) f11 F9 g_b2) hZ (hw _ (List.mem_of_getElem? (i := 16) rfl)) (hw _ (List.mem_of_getElem? (i := 3) rfl)) (by decide) (by decide)) q13a q13c (g := (mkF m 23 #[.val (.long q1), .second, .val (.long (-7046029254386353131 : Int64)), .second, .val (.ref b2), .val (.long (own_m3 q1)), .second, .unset, .unset, .unset, .unset] [(.ref b2)])) rfl (by rw [hml]; rfl) (Steps.refl _) (argsL := []) (rest := []) (lenOf pd_1 rfl) rfl (by show 2 * 0 + _ ≤ _; exact Nat.le_of_eq rfl) (hb hby at_23) (fun _ _ => ⟨rfl, e9, (by decide : 1 + 0 ≤ _), (by decide : 3 + 0 ≤ _)⟩)
  dsimp only [Pt.U, Pt.locs, Pt.cells, Pt.slots] at X13 l13 y13 z13 st13 hQ13
  subst l13 y13 z13
  obtain ⟨h13, e13⟩ : ∃ z, T13.heap = z := ⟨_, rfl⟩
  rw [e13] at hQ13
  obtain ⟨rfl, N13q, K13, F13⟩ := hQ13
  have N13 := Fr.app N9 N13q
  have go14 : ∀ t, Steps p.tables e below (T13.setTop (mkF m 26 #[.val (.long q1), .second, .val (.long (-7046029254386353131 : Int64)), .second, .val (.ref b2), .val (.long (own_m3 q1)), .second, .unset, .unset, .unset, .unset] [(.long (own_m3 (own_st q1)))])) t → Steps p.tables e below (s₁.setTop (entryFrame m #[(.long q1)] maxLocals)) t := fun t k => go12 t (st13.trans k)
  have f15 := f11.keep K13
  have go16 : ∀ t, Steps p.tables e below (T13.setTop (mkF m 30 #[.val (.long q1), .second, .val (.long (-7046029254386353131 : Int64)), .second, .val (.ref b2), .val (.long (own_m3 q1)), .second, .val (.long (own_m3 (own_st q1))), .second, .unset, .unset] [(.long (own_m3 q1))])) t → Steps p.tables e below (s₁.setTop (entryFrame m #[(.long q1)] maxLocals)) t := fun t k => go14 t (by
    show Steps p.tables e below (T13.setTop (mkF m 26 #[.val (.long q1), .second, .val (.long (-7046029254386353131 : Int64)), .second, .val (.ref b2), .val (.long (own_m3 q1)), .second, .unset, .unset, .unset, .unset] [(.long (own_m3 (own_st q1)))])) _
    refine XS.lstore X13.here hx rfl (hb hby at_26) rfl (l' := #[.val (.long q1), .second, .val (.long (-7046029254386353131 : Int64)), .second, .val (.ref b2), .val (.long (own_m3 q1)), .second, .val (.long (own_m3 (own_st q1))), .second, .unset, .unset]) rfl ?_
    show Steps p.tables e below (T13.setTop (mkF m 28 #[.val (.long q1), .second, .val (.long (-7046029254386353131 : Int64)), .second, .val (.ref b2), .val (.long (own_m3 q1)), .second, .val (.long (own_m3 (own_st q1))), .second, .unset, .unset] [])) _
    refine XS.lload X13.here hx rfl (hb hby at_28) rfl ?_
    exact k)
  obtain ⟨_, _, ⟨T17, L17, k17, n17⟩, -, X17, ⟨Lc17, hQ17, l17, y17, z17⟩, st17⟩ := Jvm.LawKit.callS X13 hx (y := (⟨"com/example/orthogon/orthogon/SplitMix64NextLongPinLaw", "unmix", "(J)J"⟩ : MethodName)) hown (mvT hZ (hw _ (List.mem_of_getElem? (i := 20) rfl))) (mvT hZ (hw _ (List.mem_of_getElem? (i := 21) rfl))) (mvT hZ (hw _ (List.mem_of_getElem? (i := 22) rfl))) (mvT hZ (hw _ (List.mem_of_getElem? (i := 23) rfl))) (by decide) (backOf (W := 0) (rm_um l Z a0 hw [] (own_m3 q1) h13 n0 (Nat.le_trans (Nat.le_trans (Nat.le_trans (Nat.le_trans Z0 E2.1) K5.1) K9.1) K13.1) ) hZ (hw _ (List.mem_of_getElem? (i := 23) rfl)) (hw _ (List.mem_of_getElem? (i := 22) rfl)) (by decide) (by decide)) (g := (mkF m 30 #[.val (.long q1), .second, .val (.long (-7046029254386353131 : Int64)), .second, .val (.ref b2), .val (.long (own_m3 q1)), .second, .val (.long (own_m3 (own_st q1))), .second, .unset, .unset] [(.long (own_m3 q1))])) rfl (by rw [hml]; rfl) (argsL := [(.long (own_m3 q1))]) (rest := []) (lenOf pd_2 rfl) rfl (by show 2 * 0 + _ ≤ _; exact Nat.le_of_eq rfl) (hb hby at_30) (fun _ _ => ⟨rfl, e13, (by decide : 1 + 0 ≤ _), (by decide : 3 + 0 ≤ _)⟩)
  dsimp only [Pt.U, Pt.locs, Pt.cells, Pt.slots] at X17 l17 y17 z17 st17 hQ17
  subst l17 y17 z17
  obtain ⟨rfl, N17q, e17⟩ := hQ17
  have N17 := Fr.app N13 N17q
  have go18 : ∀ t, Steps p.tables e below (T17.setTop (mkF m 33 #[.val (.long q1), .second, .val (.long (-7046029254386353131 : Int64)), .second, .val (.ref b2), .val (.long (own_m3 q1)), .second, .val (.long (own_m3 (own_st q1))), .second, .unset, .unset] [(.long (own_um (own_m3 q1)))])) t → Steps p.tables e below (s₁.setTop (entryFrame m #[(.long q1)] maxLocals)) t := fun t k => go16 t (st17 t k)
  have go19 : ∀ t, Steps p.tables e below (T17.setTop (mkF m 49 #[.val (.long q1), .second, .val (.long (-7046029254386353131 : Int64)), .second, .val (.ref b2), .val (.long (own_m3 q1)), .second, .val (.long (own_m3 (own_st q1))), .second, .val (.int (1 : Int32)), .unset] [(.long (own_m3 (own_st q1)))])) t → Steps p.tables e below (s₁.setTop (entryFrame m #[(.long q1)] maxLocals)) t := fun t k => go18 t (by
    show Steps p.tables e below (T17.setTop (mkF m 33 #[.val (.long q1), .second, .val (.long (-7046029254386353131 : Int64)), .second, .val (.ref b2), .val (.long (own_m3 q1)), .second, .val (.long (own_m3 (own_st q1))), .second, .unset, .unset] [(.long (own_um (own_m3 q1)))])) _
    refine XS.lloadN X17.here hx rfl (hb hby at_33) rfl ?_
    show Steps p.tables e below (T17.setTop (mkF m 34 #[.val (.long q1), .second, .val (.long (-7046029254386353131 : Int64)), .second, .val (.ref b2), .val (.long (own_m3 q1)), .second, .val (.long (own_m3 (own_st q1))), .second, .unset, .unset] [(.long q1), (.long (own_um (own_m3 q1)))])) _
    refine XS.lloadN X17.here hx rfl (hb hby at_34) rfl ?_
    show Steps p.tables e below (T17.setTop (mkF m 35 #[.val (.long q1), .second, .val (.long (-7046029254386353131 : Int64)), .second, .val (.ref b2), .val (.long (own_m3 q1)), .second, .val (.long (own_m3 (own_st q1))), .second, .unset, .unset] [(.long (-7046029254386353131 : Int64)), (.long q1), (.long (own_um (own_m3 q1)))])) _
    refine XS.ladd X17.here hx rfl (hb hby at_35) rfl ?_
    show Steps p.tables e below (T17.setTop (mkF m 36 #[.val (.long q1), .second, .val (.long (-7046029254386353131 : Int64)), .second, .val (.ref b2), .val (.long (own_m3 q1)), .second, .val (.long (own_m3 (own_st q1))), .second, .unset, .unset] [(.long (q1 + (-7046029254386353131 : Int64))), (.long (own_um (own_m3 q1)))])) _
    refine XS.lcmp X17.here hx rfl (hb hby at_36) rfl ?_
    show Steps p.tables e below (T17.setTop (mkF m 37 #[.val (.long q1), .second, .val (.long (-7046029254386353131 : Int64)), .second, .val (.ref b2), .val (.long (own_m3 q1)), .second, .val (.long (own_m3 (own_st q1))), .second, .unset, .unset] [(.int (lcmpW (own_um (own_m3 q1)) (q1 + (-7046029254386353131 : Int64))))])) _
    refine XS.ifNo X17.here hx rfl (hb hby at_37) rfl ((if0 _ _).trans (teq ((lw_eq _ _).mpr (own_law1 q1))).2) ?_
    show Steps p.tables e below (T17.setTop (mkF m 40 #[.val (.long q1), .second, .val (.long (-7046029254386353131 : Int64)), .second, .val (.ref b2), .val (.long (own_m3 q1)), .second, .val (.long (own_m3 (own_st q1))), .second, .unset, .unset] [])) _
    refine XS.iconst X17.here hx rfl (hb hby at_40) ?_
    show Steps p.tables e below (T17.setTop (mkF m 41 #[.val (.long q1), .second, .val (.long (-7046029254386353131 : Int64)), .second, .val (.ref b2), .val (.long (own_m3 q1)), .second, .val (.long (own_m3 (own_st q1))), .second, .unset, .unset] [(.int (1 : Int32))])) _
    refine XS.goto X17.here hx rfl (pc0 := 41) (pc' := 45) rfl (hb hby at_41) (by decide) (by decide) ?_
    show Steps p.tables e below (T17.setTop (mkF m 45 #[.val (.long q1), .second, .val (.long (-7046029254386353131 : Int64)), .second, .val (.ref b2), .val (.long (own_m3 q1)), .second, .val (.long (own_m3 (own_st q1))), .second, .unset, .unset] [(.int (1 : Int32))])) _
    refine XS.istore X17.here hx rfl (hb hby at_45) rfl (l' := #[.val (.long q1), .second, .val (.long (-7046029254386353131 : Int64)), .second, .val (.ref b2), .val (.long (own_m3 q1)), .second, .val (.long (own_m3 (own_st q1))), .second, .val (.int (1 : Int32)), .unset]) rfl ?_
    show Steps p.tables e below (T17.setTop (mkF m 47 #[.val (.long q1), .second, .val (.long (-7046029254386353131 : Int64)), .second, .val (.ref b2), .val (.long (own_m3 q1)), .second, .val (.long (own_m3 (own_st q1))), .second, .val (.int (1 : Int32)), .unset] [])) _
    refine XS.lload X17.here hx rfl (hb hby at_47) rfl ?_
    exact k)
  obtain ⟨_, _, ⟨T20, L20, k20, n20⟩, -, X20, ⟨Lc20, hQ20, l20, y20, z20⟩, st20⟩ := Jvm.LawKit.callS X17 hx (y := (⟨"com/example/orthogon/orthogon/SplitMix64NextLongPinLaw", "unmix", "(J)J"⟩ : MethodName)) hown (mvT hZ (hw _ (List.mem_of_getElem? (i := 20) rfl))) (mvT hZ (hw _ (List.mem_of_getElem? (i := 21) rfl))) (mvT hZ (hw _ (List.mem_of_getElem? (i := 22) rfl))) (mvT hZ (hw _ (List.mem_of_getElem? (i := 23) rfl))) (by decide) (backOf (W := 0) (rm_um l Z a0 hw [] (own_m3 (own_st q1)) h13 n0 (Nat.le_trans (Nat.le_trans (Nat.le_trans (Nat.le_trans Z0 E2.1) K5.1) K9.1) K13.1) ) hZ (hw _ (List.mem_of_getElem? (i := 23) rfl)) (hw _ (List.mem_of_getElem? (i := 22) rfl)) (by decide) (by decide)) (g := (mkF m 49 #[.val (.long q1), .second, .val (.long (-7046029254386353131 : Int64)), .second, .val (.ref b2), .val (.long (own_m3 q1)), .second, .val (.long (own_m3 (own_st q1))), .second, .val (.int (1 : Int32)), .unset] [(.long (own_m3 (own_st q1)))])) rfl (by rw [hml]; rfl) (argsL := [(.long (own_m3 (own_st q1)))]) (rest := []) (lenOf pd_2 rfl) rfl (by show 2 * 0 + _ ≤ _; exact Nat.le_of_eq rfl) (hb hby at_49) (fun _ _ => ⟨rfl, e17, (by decide : 1 + 0 ≤ _), (by decide : 3 + 0 ≤ _)⟩)
  dsimp only [Pt.U, Pt.locs, Pt.cells, Pt.slots] at X20 l20 y20 z20 st20 hQ20
  subst l20 y20 z20
  obtain ⟨rfl, N20q, e20⟩ := hQ20
  have N20 := Fr.app N17 N20q
  have go21 : ∀ t, Steps p.tables e below (T20.setTop (mkF m 52 #[.val (.long q1), .second, .val (.long (-7046029254386353131 : Int64)), .second, .val (.ref b2), .val (.long (own_m3 q1)), .second, .val (.long (own_m3 (own_st q1))), .second, .val (.int (1 : Int32)), .unset] [(.long (own_um (own_m3 (own_st q1))))])) t → Steps p.tables e below (s₁.setTop (entryFrame m #[(.long q1)] maxLocals)) t := fun t k => go19 t (st20 t k)
  have go22 : ∀ t, Steps p.tables e below (T20.setTop (mkF m 83 #[.val (.long q1), .second, .val (.long (-7046029254386353131 : Int64)), .second, .val (.ref b2), .val (.long (own_m3 q1)), .second, .val (.long (own_m3 (own_st q1))), .second, .val (.int (1 : Int32)), .val (.int (1 : Int32))] [(.int (1 : Int32))])) t → Steps p.tables e below (s₁.setTop (entryFrame m #[(.long q1)] maxLocals)) t := fun t k => go21 t (by
    show Steps p.tables e below (T20.setTop (mkF m 52 #[.val (.long q1), .second, .val (.long (-7046029254386353131 : Int64)), .second, .val (.ref b2), .val (.long (own_m3 q1)), .second, .val (.long (own_m3 (own_st q1))), .second, .val (.int (1 : Int32)), .unset] [(.long (own_um (own_m3 (own_st q1))))])) _
    refine XS.lloadN X20.here hx rfl (hb hby at_52) rfl ?_
    show Steps p.tables e below (T20.setTop (mkF m 53 #[.val (.long q1), .second, .val (.long (-7046029254386353131 : Int64)), .second, .val (.ref b2), .val (.long (own_m3 q1)), .second, .val (.long (own_m3 (own_st q1))), .second, .val (.int (1 : Int32)), .unset] [(.long q1), (.long (own_um (own_m3 (own_st q1))))])) _
    refine XS.lloadN X20.here hx rfl (hb hby at_53) rfl ?_
    show Steps p.tables e below (T20.setTop (mkF m 54 #[.val (.long q1), .second, .val (.long (-7046029254386353131 : Int64)), .second, .val (.ref b2), .val (.long (own_m3 q1)), .second, .val (.long (own_m3 (own_st q1))), .second, .val (.int (1 : Int32)), .unset] [(.long (-7046029254386353131 : Int64)), (.long q1), (.long (own_um (own_m3 (own_st q1))))])) _
    refine XS.ladd X20.here hx rfl (hb hby at_54) rfl ?_
    show Steps p.tables e below (T20.setTop (mkF m 55 #[.val (.long q1), .second, .val (.long (-7046029254386353131 : Int64)), .second, .val (.ref b2), .val (.long (own_m3 q1)), .second, .val (.long (own_m3 (own_st q1))), .second, .val (.int (1 : Int32)), .unset] [(.long (q1 + (-7046029254386353131 : Int64))), (.long (own_um (own_m3 (own_st q1))))])) _
    refine XS.lloadN X20.here hx rfl (hb hby at_55) rfl ?_
    show Steps p.tables e below (T20.setTop (mkF m 56 #[.val (.long q1), .second, .val (.long (-7046029254386353131 : Int64)), .second, .val (.ref b2), .val (.long (own_m3 q1)), .second, .val (.long (own_m3 (own_st q1))), .second, .val (.int (1 : Int32)), .unset] [(.long (-7046029254386353131 : Int64)), (.long (q1 + (-7046029254386353131 : Int64))), (.long (own_um (own_m3 (own_st q1))))])) _
    refine XS.ladd X20.here hx rfl (hb hby at_56) rfl ?_
    show Steps p.tables e below (T20.setTop (mkF m 57 #[.val (.long q1), .second, .val (.long (-7046029254386353131 : Int64)), .second, .val (.ref b2), .val (.long (own_m3 q1)), .second, .val (.long (own_m3 (own_st q1))), .second, .val (.int (1 : Int32)), .unset] [(.long ((q1 + (-7046029254386353131 : Int64)) + (-7046029254386353131 : Int64))), (.long (own_um (own_m3 (own_st q1))))])) _
    refine XS.lcmp X20.here hx rfl (hb hby at_57) rfl ?_
    show Steps p.tables e below (T20.setTop (mkF m 58 #[.val (.long q1), .second, .val (.long (-7046029254386353131 : Int64)), .second, .val (.ref b2), .val (.long (own_m3 q1)), .second, .val (.long (own_m3 (own_st q1))), .second, .val (.int (1 : Int32)), .unset] [(.int (lcmpW (own_um (own_m3 (own_st q1))) ((q1 + (-7046029254386353131 : Int64)) + (-7046029254386353131 : Int64))))])) _
    refine XS.ifNo X20.here hx rfl (hb hby at_58) rfl ((if0 _ _).trans (teq ((lw_eq _ _).mpr (own_law2 q1))).2) ?_
    show Steps p.tables e below (T20.setTop (mkF m 61 #[.val (.long q1), .second, .val (.long (-7046029254386353131 : Int64)), .second, .val (.ref b2), .val (.long (own_m3 q1)), .second, .val (.long (own_m3 (own_st q1))), .second, .val (.int (1 : Int32)), .unset] [])) _
    refine XS.iconst X20.here hx rfl (hb hby at_61) ?_
    show Steps p.tables e below (T20.setTop (mkF m 62 #[.val (.long q1), .second, .val (.long (-7046029254386353131 : Int64)), .second, .val (.ref b2), .val (.long (own_m3 q1)), .second, .val (.long (own_m3 (own_st q1))), .second, .val (.int (1 : Int32)), .unset] [(.int (1 : Int32))])) _
    refine XS.goto X20.here hx rfl (pc0 := 62) (pc' := 66) rfl (hb hby at_62) (by decide) (by decide) ?_
    show Steps p.tables e below (T20.setTop (mkF m 66 #[.val (.long q1), .second, .val (.long (-7046029254386353131 : Int64)), .second, .val (.ref b2), .val (.long (own_m3 q1)), .second, .val (.long (own_m3 (own_st q1))), .second, .val (.int (1 : Int32)), .unset] [(.int (1 : Int32))])) _
    refine XS.istore X20.here hx rfl (hb hby at_66) rfl (l' := #[.val (.long q1), .second, .val (.long (-7046029254386353131 : Int64)), .second, .val (.ref b2), .val (.long (own_m3 q1)), .second, .val (.long (own_m3 (own_st q1))), .second, .val (.int (1 : Int32)), .val (.int (1 : Int32))]) rfl ?_
    show Steps p.tables e below (T20.setTop (mkF m 68 #[.val (.long q1), .second, .val (.long (-7046029254386353131 : Int64)), .second, .val (.ref b2), .val (.long (own_m3 q1)), .second, .val (.long (own_m3 (own_st q1))), .second, .val (.int (1 : Int32)), .val (.int (1 : Int32))] [])) _
    refine XS.iload X20.here hx rfl (hb hby at_68) rfl ?_
    show Steps p.tables e below (T20.setTop (mkF m 70 #[.val (.long q1), .second, .val (.long (-7046029254386353131 : Int64)), .second, .val (.ref b2), .val (.long (own_m3 q1)), .second, .val (.long (own_m3 (own_st q1))), .second, .val (.int (1 : Int32)), .val (.int (1 : Int32))] [(.int (1 : Int32))])) _
    refine XS.ifNo X20.here hx rfl (hb hby at_70) rfl ((if0 _ _).trans (feq (by decide : ¬ ((1 : Int32) = (0 : Int32)))).1) ?_
    show Steps p.tables e below (T20.setTop (mkF m 73 #[.val (.long q1), .second, .val (.long (-7046029254386353131 : Int64)), .second, .val (.ref b2), .val (.long (own_m3 q1)), .second, .val (.long (own_m3 (own_st q1))), .second, .val (.int (1 : Int32)), .val (.int (1 : Int32))] [])) _
    refine XS.iload X20.here hx rfl (hb hby at_73) rfl ?_
    show Steps p.tables e below (T20.setTop (mkF m 75 #[.val (.long q1), .second, .val (.long (-7046029254386353131 : Int64)), .second, .val (.ref b2), .val (.long (own_m3 q1)), .second, .val (.long (own_m3 (own_st q1))), .second, .val (.int (1 : Int32)), .val (.int (1 : Int32))] [(.int (1 : Int32))])) _
    refine XS.ifNo X20.here hx rfl (hb hby at_75) rfl ((if0 _ _).trans (feq (by decide : ¬ ((1 : Int32) = (0 : Int32)))).1) ?_
    show Steps p.tables e below (T20.setTop (mkF m 78 #[.val (.long q1), .second, .val (.long (-7046029254386353131 : Int64)), .second, .val (.ref b2), .val (.long (own_m3 q1)), .second, .val (.long (own_m3 (own_st q1))), .second, .val (.int (1 : Int32)), .val (.int (1 : Int32))] [])) _
    refine XS.iconst X20.here hx rfl (hb hby at_78) ?_
    show Steps p.tables e below (T20.setTop (mkF m 79 #[.val (.long q1), .second, .val (.long (-7046029254386353131 : Int64)), .second, .val (.ref b2), .val (.long (own_m3 q1)), .second, .val (.long (own_m3 (own_st q1))), .second, .val (.int (1 : Int32)), .val (.int (1 : Int32))] [(.int (1 : Int32))])) _
    refine XS.goto X20.here hx rfl (pc0 := 79) (pc' := 83) rfl (hb hby at_79) (by decide) (by decide) ?_
    exact k)
  obtain ⟨fs, hr, hrun, hended, hW, hsame⟩ := X20.leave (v := some (.int (1 : Int32))) (fun h => by rw [Bd.returns] at h; cases h)
  refine ⟨_, _, go22 _ ?_, hrun, hended, _, _, rfl, ?_, ⟨_, rfl⟩, hW, hsame.mono (by decide) (by decide)⟩
  · exact retN X20 hx (t := .boolean) Bd.returns (by simp) (hb hby at_83) hr
  · show QL n0 _ T20.heap _
    rw [e20]
    exact ⟨rfl, N20⟩
set_option maxRecDepth 65536 in
set_option maxHeartbeats 40000000 in
theorem comes_1 {Post : Tables → Env → Array Value → State → Outcome → State → Prop} (hpost : ∀ tb e args s v u, (limb_1_1.after args s (.returned v) u = true ∧ limb_1_2.after args s (.returned v) u = true ∧ True) → FrameEnd s (.returned v) u (Jvm.fieldLocs frame_1_writes args s ++ Jvm.arrayLocs frame_1_arrays args s ++ Jvm.staticLocs frame_1_statics s) 16 128 → Post tb e args s (.returned v) u) :
    ArmFor flags0 classFile x code maxLocals ret World_1 tables_1 room_1 Calls_1 rest_1 Pre_1 Post := by
  intro l hfl _ _ p e ha hc hk s m args below hf hA hF happ hP
  obtain ⟨hcalls, hrest, hpre⟩ := hP
  obtain ⟨-, -, -, hnamed, -, -, -, hat⟩ := (Spec.applies_iff hf).mp happ
  obtain ⟨hg, hn⟩ := and_e (Cond.before_iff.mp (show (Jvm.Cond.and given_1 narrow_1).before args s = true from hpre))
  obtain ⟨g1, g2⟩ := and_e hg
  obtain ⟨w0, rfl⟩ : ∃ w0 : Value, args = #[w0] := by
    have hs : args.size = 1 := by simpa [Cond.value, given_1] using g1
    obtain ⟨L⟩ := args
    match L, hs with
    | [w0], _ => exact ⟨w0, rfl⟩
  have hw := fun d (hd : d ∈ tables_1) => atoms_spec (ws := Jvm.Cond.code x code maxLocals ret :: tables_1) hat d (List.mem_cons_of_mem _ hd)
  obtain ⟨i0, ei0⟩ := isL_v g2
  obtain rfl : w0 = (.long i0) := Option.some.inj ei0
  obtain ⟨n, o, h1, h2, h3, _, L, rfl, ⟨rfl, N⟩, hq⟩ := rm_law l s _ hw tables_1 i0 s.heap s.heap.size (Nat.le_refl _)  p e ha hc hk s m _ below hf ((Spec.applies_iff_loose hf).mp happ).1 ⟨rfl, State.Warmed39.refl s, rfl⟩ trivial
  refine ⟨n, _, h1, h2, h3, hpost _ _ _ _ _ _ ⟨Cond.after_iff.mpr rfl, Cond.after_iff.mpr (eq_i res_at (Term.int_eval (1)) rfl), trivial⟩ ⟨hq.1, hq.2.1, (hq.2.2.sift fun y hy => Or.inr (N y hy)).mono (by decide) (by decide)⟩⟩
theorem main_1_1 : Claimed_1_1 := comes_1 fun _ _ _ _ _ _ h hF => ⟨h.1, hF⟩
theorem main_1_2 : Claimed_1_2 := comes_1 fun _ _ _ _ _ _ h hF => ⟨h.2.1, hF⟩
end Jvm.Pilot.@@N@@
namespace Jvm.Pilot.@@N@@
open Jvm Jvm.ClassFile Sem Op Lib Jvm.Free Jvm.Stand Jvm.Pilot.@@N@@.Jvm.D
/-! MADE BY PROGRAM (witnessworld.py) out of the Statement's table words and the real class files: 10 classes; the members and pool entries that the words name. The judged class is class 1, her method 2. -/
namespace start1
open Jvm.ClassFile
def u (s : String) : CpInfo := .utf8 (stringToUtf16 s)
/-- a pool by its gaps: so many unusable entries, then the entry; so many at the end -/
def gap : Nat → List CpInfo → List CpInfo
  | 0, r => r
  | n + 1, r => .unusable :: gap n r
def poolList (es : List (Nat × CpInfo)) (last : Nat) : List CpInfo := es.foldr (fun e r => gap e.1 (e.2 :: r)) (gap last [])
def pool (es : List (Nat × CpInfo)) (last : Nat) : Array CpInfo := ⟨poolList es last⟩
def fileOf (pool : Array CpInfo) (this : Nat) (attrs : Array Attribute := #[]) (ms : Array MethodInfo := #[]) (fl : Nat := 33) (sup : Nat := 0) (ifs : Array Nat := #[]) (fds : Array FieldInfo := #[]) : ClassFile where
  minorVersion := 0
  majorVersion := 65
  constantPool := pool
  accessFlags := fl
  thisClass := this
  superClass := sup
  interfaces := ifs
  fields := fds
  methods := ms
  attributes := attrs
def plain (name : String) (sup : Option ClassId) : Class where
  name := name
  kind := .ordinary
  loader := none
  accessFlags := 33
  super := sup
  interfaces := #[]
  cf := none
  fields := #[]
  methods := #[]
  instanceTypes := #[]
  staticTypes := #[]
  resolved := #[]
  callSites := []
  init := .initialized
  statics := none
  mirror := none

def pool0 : Array CpInfo := pool [(5, u "<init>"), (0, u "()V"), (1, .class_ 10), (1, u "java/lang/Object")] 113

def k0c0 : Code := { maxStack := 0, maxLocals := 1, code := object_method_1_code, exceptionTable := #[], attributes := #[] }
def k0m0 : Method := { name := "<init>", desc := "()V", sig := { parameters := [], returnType := none }, accessFlags := 1, code := some k0c0 }
/-- java/lang/Object -/
def k0 : Class := { plain "java/lang/Object" none with
  accessFlags := 33
  interfaces := #[]
  cf := some (fileOf pool0 8 #[] #[{ accessFlags := 1, nameIndex := 5, descriptorIndex := 6, attributes := #[] }] 33 0 #[] #[])
  fields := #[]
  methods := #[k0m0]
  instanceTypes := #[]
  staticTypes := #[]
  resolved := Array.replicate 124 none
  statics := none }

def pool1 : Array CpInfo := pool [(2, .class_ 4), (1, u "java/lang/Object"), (0, u "<init>"), (0, u "()V"), (0, .long 3573116690164977347), (1, .long 10871156337175269513), (1, .long 11400714819323198485), (1, .class_ 14), (0, u "com/example/orthogon/orthogon/SplitMix64"), (0, .methodref 13 16), (0, .nameAndType 5 17), (0, u "(J)V"), (0, .methodref 13 19), (0, .nameAndType 20 21), (0, u "nextLong"), (0, u "()J"), (0, .methodref 23 24), (0, .class_ 25), (0, .nameAndType 26 27), (0, u "com/example/orthogon/orthogon/SplitMix64NextLongPinLaw"), (0, u "unmix"), (0, u "(J)J"), (2, u "law"), (0, u "(J)Z")] 3

def k1m0 : Method := { name := "<init>", desc := "()V", sig := { parameters := [], returnType := none }, accessFlags := 2, code := none }
def k1c1 : Code := { maxStack := 5, maxLocals := 10, code := method_2_code, exceptionTable := #[], attributes := #[] }
def k1m1 : Method := { name := "unmix", desc := "(J)J", sig := { parameters := [.long], returnType := some .long }, accessFlags := 10, code := some k1c1 }
def k1c2 : Code := { maxStack := 6, maxLocals := 11, code := code, exceptionTable := #[], attributes := #[] }
def k1m2 : Method := { name := "law", desc := "(J)Z", sig := { parameters := [.long], returnType := some .boolean }, accessFlags := 9, code := some k1c2 }
/-- com/example/orthogon/orthogon/SplitMix64NextLongPinLaw -/
def k1 : Class := { plain "com/example/orthogon/orthogon/SplitMix64NextLongPinLaw" (some 0) with
  accessFlags := 49
  interfaces := #[]
  cf := some (fileOf pool1 23 #[] #[{ accessFlags := 2, nameIndex := 5, descriptorIndex := 6, attributes := #[] }, { accessFlags := 10, nameIndex := 26, descriptorIndex := 27, attributes := #[] }, { accessFlags := 9, nameIndex := 30, descriptorIndex := 31, attributes := #[] }] 49 2 #[] #[])
  fields := #[]
  methods := #[k1m0, k1m1, k1m2]
  instanceTypes := #[]
  staticTypes := #[]
  resolved := Array.replicate 35 none
  statics := none }

def pool2 : Array CpInfo := pool [(7, .class_ 8), (0, u "java/util/random/RandomGenerator"), (199, .class_ 209), (0, u "java/lang/Object"), (52, .class_ 263), (0, u "java/util/random/RandomGenerator$ArbitrarilyJumpableGenerator"), (0, .class_ 265), (0, u "java/util/random/RandomGenerator$LeapableGenerator"), (0, .class_ 267), (0, u "java/util/random/RandomGenerator$JumpableGenerator"), (0, .class_ 269), (0, u "java/util/random/RandomGenerator$SplittableGenerator"), (0, .class_ 271), (0, u "java/util/random/RandomGenerator$StreamableGenerator")] 36

/-- java/util/random/RandomGenerator -/
def k2 : Class := { plain "java/util/random/RandomGenerator" (some 0) with
  accessFlags := 1537
  interfaces := #[]
  cf := some (fileOf pool2 7 #[.nestMembers #[262, 264, 266, 268, 270]] #[] 1537 208 #[] #[])
  fields := #[]
  methods := #[]
  instanceTypes := #[]
  staticTypes := #[]
  resolved := Array.replicate 308 none
  statics := none }

def pool3 : Array CpInfo := pool [(1, .methodref 2 3), (0, .class_ 4), (0, .nameAndType 5 6), (0, u "java/lang/Object"), (0, u "<init>"), (0, u "()V"), (0, .fieldref 8 9), (0, .class_ 10), (0, .nameAndType 11 12), (0, u "com/example/orthogon/orthogon/SplitMix64"), (0, u "state"), (0, u "J"), (0, .long 11400714819323198485), (1, .long 13787848793156543929), (1, .long 10723151780598845931), (3, u "hasSpareGaussian"), (0, u "Z"), (2, u "spareGaussian"), (0, u "D"), (2, u "nextLong"), (0, u "()J"), (13, .class_ 45), (0, u "java/util/random/RandomGenerator"), (0, u "GAMMA"), (1, u "(J)V")] 7

def k3c0 : Code := { maxStack := 3, maxLocals := 3, code := prog_7_method_1_code, exceptionTable := #[], attributes := #[] }
def k3m0 : Method := { name := "<init>", desc := "(J)V", sig := { parameters := [.long], returnType := none }, accessFlags := 1, code := some k3c0 }
def k3c1 : Code := { maxStack := 5, maxLocals := 3, code := prog_7_method_2_code, exceptionTable := #[], attributes := #[] }
def k3m1 : Method := { name := "nextLong", desc := "()J", sig := { parameters := [], returnType := some .long }, accessFlags := 1, code := some k3c1 }
/-- com/example/orthogon/orthogon/SplitMix64 -/
def k3 : Class := { plain "com/example/orthogon/orthogon/SplitMix64" (some 0) with
  accessFlags := 49
  interfaces := #[2]
  cf := some (fileOf pool3 8 #[] #[{ accessFlags := 1, nameIndex := 5, descriptorIndex := 48, attributes := #[] }, { accessFlags := 1, nameIndex := 29, descriptorIndex := 30, attributes := #[] }] 49 2 #[44] #[{ accessFlags := 26, nameIndex := 46, descriptorIndex := 12, attributes := #[] }, { accessFlags := 2, nameIndex := 11, descriptorIndex := 12, attributes := #[] }, { accessFlags := 2, nameIndex := 25, descriptorIndex := 26, attributes := #[] }, { accessFlags := 2, nameIndex := 21, descriptorIndex := 22, attributes := #[] }])
  fields := #[{ name := "GAMMA", type := .long, accessFlags := 26, slot := 0, constantValue := 0 }, { name := "state", type := .long, accessFlags := 2, slot := 0, constantValue := 0 }, { name := "spareGaussian", type := .double, accessFlags := 2, slot := 1, constantValue := 0 }, { name := "hasSpareGaussian", type := .boolean, accessFlags := 2, slot := 2, constantValue := 0 }]
  methods := #[k3m0, k3m1]
  instanceTypes := #[.long, .double, .boolean]
  staticTypes := #[.long]
  resolved := Array.replicate 56 none
  statics := none }

def pool4 : Array CpInfo := pool [(1, u "java/lang/Cloneable"), (0, .class_ 1), (0, u "java/lang/Object"), (0, .class_ 3)] 3

/-- java/lang/Cloneable -/
def k4 : Class := { plain "java/lang/Cloneable" (some 0) with
  accessFlags := 1537
  interfaces := #[]
  cf := some (fileOf pool4 2 #[] #[] 1537 4 #[] #[])
  fields := #[]
  methods := #[]
  instanceTypes := #[]
  staticTypes := #[]
  resolved := Array.replicate 8 none
  statics := none }

def pool5 : Array CpInfo := pool [(1, u "java/io/Serializable"), (0, .class_ 1), (0, u "java/lang/Object"), (0, .class_ 3)] 3

/-- java/io/Serializable -/
def k5 : Class := { plain "java/io/Serializable" (some 0) with
  accessFlags := 1537
  interfaces := #[]
  cf := some (fileOf pool5 2 #[] #[] 1537 4 #[] #[])
  fields := #[]
  methods := #[]
  instanceTypes := #[]
  staticTypes := #[]
  resolved := Array.replicate 8 none
  statics := none }

/-- the primitive byte -/
def k6 : Class := { plain "byte" none with kind := .primitive 'B', accessFlags := 0x411 }
/-- [B -/
def k7 : Class := { plain "[B" (some 0) with kind := .array 6 .byte, interfaces := #[4, 5], accessFlags := 1041 }

/-- the primitive int -/
def k8 : Class := { plain "int" none with kind := .primitive 'I', accessFlags := 0x411 }
/-- [I -/
def k9 : Class := { plain "[I" (some 0) with kind := .array 8 .int, interfaces := #[4, 5], accessFlags := 1041 }

def heap : Heap := #[]
def classes : Array Class := #[k0, k1, k2, k3, k4, k5, k6, k7, k8, k9]
def interned : List (Array UInt16 × Addr) := []
def slotsUsed : Nat := 0
def theMethod : MethodId := ⟨1, 2⟩
def args0 : Array Value := #[.long 5]
def aboutOver (below : List Frame) : State where
  vm := { classes := classes, interned := interned.toArray }
  heap := heap
  slotsUsed := slotsUsed
  threads := #[{ frames := .invoking theMethod args0 :: below }]
def below0 : List Frame := [.native { method := ⟨0, 0⟩, args := #[] }]
def about1 : State := aboutOver below0
def p0 : Program := .bare "" "" ""
def e0 : Env := launch0.env 0 0 0
theorem w_frames : about1.frames = Frame.invoking theMethod args0 :: below0 := rfl
set_option maxRecDepth 65536 in
theorem w_args : argsFit about1.vm theMethod args0 = true := by decide +kernel
set_option maxRecDepth 65536 in
theorem w_heap : heapFits about1 = true := by decide +kernel
set_option maxRecDepth 65536 in
theorem w_runnable : about1.curStatus? = some .runnable := by decide +kernel
set_option maxRecDepth 65536 in
theorem w_alone : about1.alone = true := by decide +kernel
set_option maxRecDepth 65536 in
theorem w_named : about1.methodNamed? x = some theMethod := by decide +kernel
set_option maxRecDepth 65536 in
theorem w_hears : about1.hears theMethod below0 = true := by decide +kernel
set_option maxRecDepth 65536 in
theorem w_ripe : about1.ripe theMethod args0 below0 = true := by decide +kernel
theorem w_running : about1.status = .running := rfl
set_option maxRecDepth 65536 in
theorem w_room : about1.hasRoom e0.platform room_1 = true :=
  launch0.hasRoom_least _ room_1 (by decide +kernel) (by decide +kernel) (by decide +kernel) (by decide +kernel) (by decide +kernel) (by decide +kernel)
theorem allAtoms_all (ts : List Jvm.Cond) (a : Array Jvm.Value) (st : Jvm.State) : (allAtoms ts).before a st = ts.all (fun c => c.before a st) := by
  induction ts with
  | nil => rfl
  | cons c t ih =>
    show (Jvm.Cond.and c (allAtoms t)).before a st = _
    rw [Jvm.Cond.before_and, ih, List.all_cons]
def words1 : List Jvm.Cond := Jvm.Cond.code x code maxLocals ret :: tables_1
/-- a 'code' word, met by the world's own term for the bytes: nothing is compared byte by byte -/
theorem code_word {y : MethodName} {bytes : ByteArray} {mx : Nat} {rt : Option FieldType} {a : Array Value} {s : State} {m : MethodId} {meth : Method} {c : Code} (h1 : s.methodNamed? y = some m) (h2 : s.vm.method? m = some meth) (h3 : meth.code = some c) (h4 : c.code = bytes)
    (h5 : (c.maxLocals == mx && c.exceptionTable.isEmpty && decide (c.maxStack ≤ mostOperands) && decide (meth.sig.returnType = rt) && !meth.locks && decide (parseMethodDescriptor y.desc = some meth.sig)) = true) : (Jvm.Cond.code y bytes mx rt).before a s = true := by
  simp only [Bool.and_eq_true, beq_iff_eq, Bool.not_eq_true', decide_eq_true_eq] at h5
  obtain ⟨⟨⟨⟨⟨g1, g2⟩, g3⟩, g4⟩, g5⟩, g6⟩ := h5
  simp [Cond.before, Cond.holds, Cond.value, h1, h2, h3, h4, g1, g2, g3, g4, g5, g6]
def isCode : Jvm.Cond → Bool
  | .code _ _ _ _ => true
  | _ => false
theorem all_split {L : List Jvm.Cond} {P : Jvm.Cond → Bool} (h1 : L.all (fun c => isCode c || P c) = true) (h2 : ∀ c ∈ L.filter isCode, P c = true) : L.all P = true := by
  refine List.all_eq_true.mpr fun c hc => ?_
  have h := List.all_eq_true.mp h1 c hc
  rcases Bool.eq_false_or_eq_true (isCode c) with hi | hi
  · exact h2 c (List.mem_filter.mpr ⟨hc, hi⟩)
  · simpa [hi] using h
set_option maxRecDepth 65536 in
theorem w_c0 : (Jvm.Cond.code x code maxLocals ret).before args0 about1 = true := code_word (m := ⟨1, 2⟩) (meth := k1m2) (c := k1c2) (by decide +kernel) rfl rfl rfl (by decide +kernel)
set_option maxRecDepth 65536 in
theorem w_c1 : (Jvm.Cond.code ({ cls := "com/example/orthogon/orthogon/SplitMix64", name := "<init>", desc := "(J)V" } : Jvm.MethodName) prog_7_method_1_code (3 : Nat) (Option.none : Option Jvm.ClassFile.FieldType)).before args0 about1 = true := code_word (m := ⟨3, 0⟩) (meth := k3m0) (c := k3c0) (by decide +kernel) rfl rfl rfl (by decide +kernel)
set_option maxRecDepth 65536 in
theorem w_c2 : (Jvm.Cond.code ({ cls := "java/lang/Object", name := "<init>", desc := "()V" } : Jvm.MethodName) object_method_1_code (1 : Nat) (Option.none : Option Jvm.ClassFile.FieldType)).before args0 about1 = true := code_word (m := ⟨0, 0⟩) (meth := k0m0) (c := k0c0) (by decide +kernel) rfl rfl rfl (by decide +kernel)
set_option maxRecDepth 65536 in
theorem w_c3 : (Jvm.Cond.code ({ cls := "com/example/orthogon/orthogon/SplitMix64", name := "nextLong", desc := "()J" } : Jvm.MethodName) prog_7_method_2_code (3 : Nat) (Option.some Jvm.ClassFile.FieldType.long)).before args0 about1 = true := code_word (m := ⟨3, 1⟩) (meth := k3m1) (c := k3c1) (by decide +kernel) rfl rfl rfl (by decide +kernel)
set_option maxRecDepth 65536 in
theorem w_c4 : (Jvm.Cond.code ({ cls := "com/example/orthogon/orthogon/SplitMix64NextLongPinLaw", name := "unmix", desc := "(J)J" } : Jvm.MethodName) method_2_code (10 : Nat) (Option.some Jvm.ClassFile.FieldType.long)).before args0 about1 = true := code_word (m := ⟨1, 1⟩) (meth := k1m1) (c := k1c1) (by decide +kernel) rfl rfl rfl (by decide +kernel)
def codes1 : List Jvm.Cond := [Jvm.Cond.code x code maxLocals ret, Jvm.Cond.code ({ cls := "com/example/orthogon/orthogon/SplitMix64", name := "<init>", desc := "(J)V" } : Jvm.MethodName) prog_7_method_1_code (3 : Nat) (Option.none : Option Jvm.ClassFile.FieldType), Jvm.Cond.code ({ cls := "java/lang/Object", name := "<init>", desc := "()V" } : Jvm.MethodName) object_method_1_code (1 : Nat) (Option.none : Option Jvm.ClassFile.FieldType), Jvm.Cond.code ({ cls := "com/example/orthogon/orthogon/SplitMix64", name := "nextLong", desc := "()J" } : Jvm.MethodName) prog_7_method_2_code (3 : Nat) (Option.some Jvm.ClassFile.FieldType.long), Jvm.Cond.code ({ cls := "com/example/orthogon/orthogon/SplitMix64NextLongPinLaw", name := "unmix", desc := "(J)J" } : Jvm.MethodName) method_2_code (10 : Nat) (Option.some Jvm.ClassFile.FieldType.long)]
set_option maxRecDepth 65536 in
theorem codes_eq : words1.filter isCode = codes1 := rfl
theorem w_codes : ∀ c ∈ words1.filter isCode, c.before args0 about1 = true := by
  rw [codes_eq]
  intro c hc
  simp only [codes1, List.mem_cons, List.not_mem_nil, or_false] at hc
  rcases hc with rfl | rfl | rfl | rfl | rfl
  · exact w_c0
  · exact w_c1
  · exact w_c2
  · exact w_c3
  · exact w_c4
set_option maxRecDepth 65536 in
theorem w_t1 : (words1.take 24).all (fun c => isCode c || c.before args0 about1) = true := by decide +kernel
set_option maxRecDepth 65536 in
theorem w_t2 : (words1.drop 24).all (fun c => isCode c || c.before args0 about1) = true := by decide +kernel
theorem w_tables : (allAtoms (Jvm.Cond.code x code maxLocals ret :: tables_1)).before args0 about1 = true := by
  rw [allAtoms_all]
  show words1.all (fun c => c.before args0 about1) = true
  refine all_split ?_ w_codes
  rw [← List.take_append_drop 24 words1, List.all_append, w_t1, w_t2]
  rfl
set_option maxRecDepth 65536 in
theorem w_case : (Jvm.Cond.and given_1 narrow_1).before args0 about1 = true := by decide +kernel
theorem w_applies : (headSpec (Jvm.Cond.code x code maxLocals ret :: tables_1) room_1).applies x e0.platform about1 = true :=
  (Spec.applies_iff w_frames).mpr ⟨w_running, w_runnable, w_alone, w_named, w_hears, w_ripe, w_room, w_tables⟩
theorem atStart : AtStart classFile x code maxLocals ret World_1 tables_1 room_1 Calls_1 rest_1 Pre_1 launch0 p0 e0 about1 theMethod args0 below0 :=
  ⟨lists_1, trivial, launch0.admits_env _ _ _, launch0.least_env, fairChoices_fair.cas, fairChoices_fair.clock, w_frames, w_args, w_heap, w_applies, trivial, trivial, w_case⟩
end start1
theorem witness_1 : WitnessClaimed_1 := ⟨start1.p0, start1.e0, start1.about1, start1.theMethod, start1.args0, start1.below0, start1.atStart⟩
end Jvm.Pilot.@@N@@
