import JvmDerived
import JvmDerived.Pilot.@@N@@Statement
import JvmDerived.Pilot.@@N@@Code
set_option linter.unusedVariables false
set_option linter.unusedSimpArgs false
namespace Jvm.RoadKit
open Sem ClassFile Op Lib Jvm.Stand Jvm.Free Jvm.LawKit
section New
variable {p : Program} {l : Launch} {e : Env} {R : Room} {s : State} {m : MethodId} {args : Array Value} {below : List Frame} {meth : Method} {c : Code} {T : State} {locs : List Loc} {cells slots : Nat}
theorem retI (X : Stand p l e R s m args below meth c T locs cells slots) (hx : p.tables.exec = Jvm.exec) {pc : Nat} {Ls : Array Slot} {z : Int32} {rest : List Value} (hret : meth.sig.returnType = some .int) (hd : decode c.code pc = .ok (.ireturn, 1)) {fs : List Frame}
    (hl : ∀ (f : JFrame) (acts : List Action), f.method = m → f.locked = none → f.entered = [] → (doReturn e (T.setTop f) acts (some (.int z))).1 = T.setFrames fs) : Steps p.tables e below (T.setTop (mkF m pc Ls (.int z :: rest))) (T.setFrames fs) := by
  have hm' : T.vm.method? m = some meth := X.method'
  have hn : narrow .int (.int z) = .int z := rfl
  show Steps p.tables e below (T.setTop { method := m, pc := pc, locals := Ls, stack := _ :: rest, locked := none }) _
  jvm_step X.here [X.here.top, hx, hd, hm', hret, hn]
  first | (intro acts; rw [hl _ acts rfl rfl rfl]) | rw [hl _ _ rfl rfl rfl]
  exact Steps.refl _
end New
end Jvm.RoadKit
namespace Jvm.Pilot.@@N@@
open Jvm Jvm.ClassFile Sem Op Lib Jvm.Free Jvm.Stand Jvm.LawKit Jvm.RoadKit Bundle Jvm.Pilot.@@N@@.Jvm.D
/-- a body that writes nothing and returns r -/
def QV (r : Value) (h0 : Heap) (n0 : Nat) (v : Option Value) (h : Heap) (L : List Loc) : Prop := v = some r ∧ Fr n0 L ∧ h = h0
/-- a body that writes nothing and returns nothing -/
def QN (h0 : Heap) (n0 : Nat) (v : Option Value) (h : Heap) (L : List Loc) : Prop := v = none ∧ Fr n0 L ∧ h = h0
theorem pd_0 : parseMethodDescriptor "(I)I" = some ⟨[.int], some .int⟩ := by decide +kernel
theorem pd_1 : parseMethodDescriptor "(II)I" = some ⟨[.int, .int], some .int⟩ := by decide +kernel
theorem pd_2 : parseMethodDescriptor "(II)V" = some ⟨[.int, .int], none⟩ := by decide +kernel
theorem pd_3 : parseMethodDescriptor "(I)V" = some ⟨[.int], none⟩ := by decide +kernel
theorem pd_4 : parseMethodDescriptor "(Lcom/example/subsumption/subsumption/reasoner/Links;[II)V" = some ⟨[(.object "com/example/subsumption/subsumption/reasoner/Links"), (.array .int), .int], none⟩ := by decide +kernel
theorem mn_0 : decode jdk_29_method_69_code 0 = .ok (.iload_n 0, 1) := by decide +kernel
theorem mn_1 : decode jdk_29_method_69_code 1 = .ok (.iload_n 1, 1) := by decide +kernel
theorem mn_2 : decode jdk_29_method_69_code 2 = .ok (.if_icmp .gt 7, 3) := by decide +kernel
theorem mn_5 : decode jdk_29_method_69_code 5 = .ok (.iload_n 0, 1) := by decide +kernel
theorem mn_6 : decode jdk_29_method_69_code 6 = .ok (.goto 4, 3) := by decide +kernel
theorem mn_9 : decode jdk_29_method_69_code 9 = .ok (.iload_n 1, 1) := by decide +kernel
theorem mn_10 : decode jdk_29_method_69_code 10 = .ok (.ireturn, 1) := by decide +kernel
theorem ef_mn (m : MethodId) (p1 : Int32) (p2 : Int32) : entryFrame m #[(.int p1), (.int p2)] 2 = mkF m 0 #[.val (.int p1), .val (.int p2)] [] := by first | (simp [entryFrame, mkF, argsToLocals, Value.category]; done) | rfl
def own_min (p1 : Int32) (p2 : Int32) : Int32 := if p2 < p1 then p2 else p1
set_option maxRecDepth 65536 in
set_option maxHeartbeats 40000000 in
theorem rm_mn (l : Launch) (Z : State) (a0 : Array Value) (hw : ∀ d ∈ tables_1, d.before a0 Z = true) (ws : List Jvm.Cond) (p1 : Int32) (p2 : Int32) (h0 : Heap) (n0 : Nat) (Z0 : n0 ≤ h0.size)  :
    MetFree l (⟨"java/lang/Math", "min", "(II)I"⟩ : MethodName) (head1 (Jvm.Cond.code (⟨"java/lang/Math", "min", "(II)I"⟩ : MethodName) jdk_29_method_69_code 2 (some .int) :: ws) ({ frames := 0, cells := 0, slots := 0, locals := 0 } : Room)) (fun a U => a = #[(.int p1), (.int p2)] ∧ Z.Warmed39 U.vm ∧ U.heap = h0) (fun _ _ _ _ _ => True) (fun _ U o U' => ∃ v L, o = .returned v ∧ QV (.int (own_min p1 p2)) h0 n0 v U'.heap L ∧ FrameEnd U o U' L ({ frames := 0, cells := 0, slots := 0, locals := 0 } : Room).cells ({ frames := 0, cells := 0, slots := 0, locals := 0 } : Room).slots) := by
  refine MetFree.of_bodySF (Jvm.Free.JP.mathPlain rfl (by decide +kernel)) hisR ?_
  intro p e s m args below meth c s₁ Bd hml0 hP hK
  obtain ⟨rfl, hZ, hh⟩ := hP
  have hx := Bd.exec
  have hby := Bd.bytes
  have hml : c.maxLocals = 2 := hml0
  have hown : s.vm.findClass "java/lang/Math" = some m.cls := findClass_of_methodNamed Bd.named
  have hnm := (name_of_methodNamed Bd.named Bd.method).1
  have X0 : Stand p l e ({ frames := 0, cells := 0, slots := 0, locals := 0 } : Room) s m #[(.int p1), (.int p2)] below meth c s₁ [] 0 0 := Stand.of_body Bd
  have e0 : s₁.heap = h0 := by rw [← hh, Bd.state]; rfl
  have N0 := Fr.nil n0
  have go0 : ∀ t, Steps p.tables e below (s₁.setTop (mkF m 0 #[.val (.int p1), .val (.int p2)] [])) t → Steps p.tables e below (s₁.setTop (entryFrame m #[(.int p1), (.int p2)] 2)) t := fun t k => castTop (ef_mn m p1 p2) k
  have go1 : ∀ t, Steps p.tables e below (s₁.setTop (mkF m 2 #[.val (.int p1), .val (.int p2)] [(.int p2), (.int p1)])) t → Steps p.tables e below (s₁.setTop (entryFrame m #[(.int p1), (.int p2)] 2)) t := fun t k => go0 t (by
    show Steps p.tables e below (s₁.setTop (mkF m 0 #[.val (.int p1), .val (.int p2)] [])) _
    refine XS.iloadN X0.here hx rfl (hb hby mn_0) rfl ?_
    show Steps p.tables e below (s₁.setTop (mkF m 1 #[.val (.int p1), .val (.int p2)] [(.int p1)])) _
    refine XS.iloadN X0.here hx rfl (hb hby mn_1) rfl ?_
    exact k)
  by_cases hc2 : p2 < p1
  · have go3 : ∀ t, Steps p.tables e below (s₁.setTop (mkF m 10 #[.val (.int p1), .val (.int p2)] [(.int p2)])) t → Steps p.tables e below (s₁.setTop (entryFrame m #[(.int p1), (.int p2)] 2)) t := fun t k => go1 t (by
      show Steps p.tables e below (s₁.setTop (mkF m 2 #[.val (.int p1), .val (.int p2)] [(.int p2), (.int p1)])) _
      refine XS.icmpYes X0.here hx rfl (pc0 := 2) (pc' := 9) rfl (hb hby mn_2) rfl (tlt hc2).2.2.1 (by decide) (by decide) ?_
      show Steps p.tables e below (s₁.setTop (mkF m 9 #[.val (.int p1), .val (.int p2)] [])) _
      refine XS.iloadN X0.here hx rfl (hb hby mn_9) rfl ?_
      exact k)
    obtain ⟨fs, hr, hrun, hended, hW, hsame⟩ := X0.leave (v := some (.int p2)) (fun h => by rw [Bd.returns] at h; cases h)
    refine ⟨_, _, go3 _ ?_, hrun, hended, _, _, rfl, ?_, ⟨_, rfl⟩, hW, hsame.mono (by decide) (by decide)⟩
    · exact retI X0 hx Bd.returns (hb hby mn_10) hr
    · show QV (.int (own_min p1 p2)) h0 n0 _ s₁.heap _
      rw [e0]
      exact ⟨congrArg some (congrArg Value.int (Eq.symm (show (own_min p1 p2) = p2 from by unfold own_min; rw [if_pos hc2]))), N0, rfl⟩
  · have go4 : ∀ t, Steps p.tables e below (s₁.setTop (mkF m 10 #[.val (.int p1), .val (.int p2)] [(.int p1)])) t → Steps p.tables e below (s₁.setTop (entryFrame m #[(.int p1), (.int p2)] 2)) t := fun t k => go1 t (by
      show Steps p.tables e below (s₁.setTop (mkF m 2 #[.val (.int p1), .val (.int p2)] [(.int p2), (.int p1)])) _
      refine XS.icmpNo X0.here hx rfl (hb hby mn_2) rfl (flt hc2).2.2.1 ?_
      show Steps p.tables e below (s₁.setTop (mkF m 5 #[.val (.int p1), .val (.int p2)] [])) _
      refine XS.iloadN X0.here hx rfl (hb hby mn_5) rfl ?_
      show Steps p.tables e below (s₁.setTop (mkF m 6 #[.val (.int p1), .val (.int p2)] [(.int p1)])) _
      refine XS.goto X0.here hx rfl (pc0 := 6) (pc' := 10) rfl (hb hby mn_6) (by decide) (by decide) ?_
      exact k)
    obtain ⟨fs, hr, hrun, hended, hW, hsame⟩ := X0.leave (v := some (.int p1)) (fun h => by rw [Bd.returns] at h; cases h)
    refine ⟨_, _, go4 _ ?_, hrun, hended, _, _, rfl, ?_, ⟨_, rfl⟩, hW, hsame.mono (by decide) (by decide)⟩
    · exact retI X0 hx Bd.returns (hb hby mn_10) hr
    · show QV (.int (own_min p1 p2)) h0 n0 _ s₁.heap _
      rw [e0]
      exact ⟨congrArg some (congrArg Value.int (Eq.symm (show (own_min p1 p2) = p1 from by unfold own_min; rw [if_neg hc2]))), N0, rfl⟩
theorem mx_0 : decode jdk_29_method_65_code 0 = .ok (.iload_n 0, 1) := by decide +kernel
theorem mx_1 : decode jdk_29_method_65_code 1 = .ok (.iload_n 1, 1) := by decide +kernel
theorem mx_2 : decode jdk_29_method_65_code 2 = .ok (.if_icmp .lt 7, 3) := by decide +kernel
theorem mx_5 : decode jdk_29_method_65_code 5 = .ok (.iload_n 0, 1) := by decide +kernel
theorem mx_6 : decode jdk_29_method_65_code 6 = .ok (.goto 4, 3) := by decide +kernel
theorem mx_9 : decode jdk_29_method_65_code 9 = .ok (.iload_n 1, 1) := by decide +kernel
theorem mx_10 : decode jdk_29_method_65_code 10 = .ok (.ireturn, 1) := by decide +kernel
theorem ef_mx (m : MethodId) (p1 : Int32) (p2 : Int32) : entryFrame m #[(.int p1), (.int p2)] 2 = mkF m 0 #[.val (.int p1), .val (.int p2)] [] := by first | (simp [entryFrame, mkF, argsToLocals, Value.category]; done) | rfl
def own_max (p1 : Int32) (p2 : Int32) : Int32 := if p1 < p2 then p2 else p1
set_option maxRecDepth 65536 in
set_option maxHeartbeats 40000000 in
theorem rm_mx (l : Launch) (Z : State) (a0 : Array Value) (hw : ∀ d ∈ tables_1, d.before a0 Z = true) (ws : List Jvm.Cond) (p1 : Int32) (p2 : Int32) (h0 : Heap) (n0 : Nat) (Z0 : n0 ≤ h0.size)  :
    MetFree l (⟨"java/lang/Math", "max", "(II)I"⟩ : MethodName) (head1 (Jvm.Cond.code (⟨"java/lang/Math", "max", "(II)I"⟩ : MethodName) jdk_29_method_65_code 2 (some .int) :: ws) ({ frames := 0, cells := 0, slots := 0, locals := 0 } : Room)) (fun a U => a = #[(.int p1), (.int p2)] ∧ Z.Warmed39 U.vm ∧ U.heap = h0) (fun _ _ _ _ _ => True) (fun _ U o U' => ∃ v L, o = .returned v ∧ QV (.int (own_max p1 p2)) h0 n0 v U'.heap L ∧ FrameEnd U o U' L ({ frames := 0, cells := 0, slots := 0, locals := 0 } : Room).cells ({ frames := 0, cells := 0, slots := 0, locals := 0 } : Room).slots) := by
  refine MetFree.of_bodySF (Jvm.Free.JP.mathPlain rfl (by decide +kernel)) hisR ?_
  intro p e s m args below meth c s₁ Bd hml0 hP hK
  obtain ⟨rfl, hZ, hh⟩ := hP
  have hx := Bd.exec
  have hby := Bd.bytes
  have hml : c.maxLocals = 2 := hml0
  have hown : s.vm.findClass "java/lang/Math" = some m.cls := findClass_of_methodNamed Bd.named
  have hnm := (name_of_methodNamed Bd.named Bd.method).1
  have X0 : Stand p l e ({ frames := 0, cells := 0, slots := 0, locals := 0 } : Room) s m #[(.int p1), (.int p2)] below meth c s₁ [] 0 0 := Stand.of_body Bd
  have e0 : s₁.heap = h0 := by rw [← hh, Bd.state]; rfl
  have N0 := Fr.nil n0
  have go0 : ∀ t, Steps p.tables e below (s₁.setTop (mkF m 0 #[.val (.int p1), .val (.int p2)] [])) t → Steps p.tables e below (s₁.setTop (entryFrame m #[(.int p1), (.int p2)] 2)) t := fun t k => castTop (ef_mx m p1 p2) k
  have go1 : ∀ t, Steps p.tables e below (s₁.setTop (mkF m 2 #[.val (.int p1), .val (.int p2)] [(.int p2), (.int p1)])) t → Steps p.tables e below (s₁.setTop (entryFrame m #[(.int p1), (.int p2)] 2)) t := fun t k => go0 t (by
    show Steps p.tables e below (s₁.setTop (mkF m 0 #[.val (.int p1), .val (.int p2)] [])) _
    refine XS.iloadN X0.here hx rfl (hb hby mx_0) rfl ?_
    show Steps p.tables e below (s₁.setTop (mkF m 1 #[.val (.int p1), .val (.int p2)] [(.int p1)])) _
    refine XS.iloadN X0.here hx rfl (hb hby mx_1) rfl ?_
    exact k)
  by_cases hc2 : p1 < p2
  · have go3 : ∀ t, Steps p.tables e below (s₁.setTop (mkF m 10 #[.val (.int p1), .val (.int p2)] [(.int p2)])) t → Steps p.tables e below (s₁.setTop (entryFrame m #[(.int p1), (.int p2)] 2)) t := fun t k => go1 t (by
      show Steps p.tables e below (s₁.setTop (mkF m 2 #[.val (.int p1), .val (.int p2)] [(.int p2), (.int p1)])) _
      refine XS.icmpYes X0.here hx rfl (pc0 := 2) (pc' := 9) rfl (hb hby mx_2) rfl (tlt hc2).1 (by decide) (by decide) ?_
      show Steps p.tables e below (s₁.setTop (mkF m 9 #[.val (.int p1), .val (.int p2)] [])) _
      refine XS.iloadN X0.here hx rfl (hb hby mx_9) rfl ?_
      exact k)
    obtain ⟨fs, hr, hrun, hended, hW, hsame⟩ := X0.leave (v := some (.int p2)) (fun h => by rw [Bd.returns] at h; cases h)
    refine ⟨_, _, go3 _ ?_, hrun, hended, _, _, rfl, ?_, ⟨_, rfl⟩, hW, hsame.mono (by decide) (by decide)⟩
    · exact retI X0 hx Bd.returns (hb hby mx_10) hr
    · show QV (.int (own_max p1 p2)) h0 n0 _ s₁.heap _
      rw [e0]
      exact ⟨congrArg some (congrArg Value.int (Eq.symm (show (own_max p1 p2) = p2 from by unfold own_max; rw [if_pos hc2]))), N0, rfl⟩
  · have go4 : ∀ t, Steps p.tables e below (s₁.setTop (mkF m 10 #[.val (.int p1), .val (.int p2)] [(.int p1)])) t → Steps p.tables e below (s₁.setTop (entryFrame m #[(.int p1), (.int p2)] 2)) t := fun t k => go1 t (by
      show Steps p.tables e below (s₁.setTop (mkF m 2 #[.val (.int p1), .val (.int p2)] [(.int p2), (.int p1)])) _
      refine XS.icmpNo X0.here hx rfl (hb hby mx_2) rfl (flt hc2).1 ?_
      show Steps p.tables e below (s₁.setTop (mkF m 5 #[.val (.int p1), .val (.int p2)] [])) _
      refine XS.iloadN X0.here hx rfl (hb hby mx_5) rfl ?_
      show Steps p.tables e below (s₁.setTop (mkF m 6 #[.val (.int p1), .val (.int p2)] [(.int p1)])) _
      refine XS.goto X0.here hx rfl (pc0 := 6) (pc' := 10) rfl (hb hby mx_6) (by decide) (by decide) ?_
      exact k)
    obtain ⟨fs, hr, hrun, hended, hW, hsame⟩ := X0.leave (v := some (.int p1)) (fun h => by rw [Bd.returns] at h; cases h)
    refine ⟨_, _, go4 _ ?_, hrun, hended, _, _, rfl, ?_, ⟨_, rfl⟩, hW, hsame.mono (by decide) (by decide)⟩
    · exact retI X0 hx Bd.returns (hb hby mx_10) hr
    · show QV (.int (own_max p1 p2)) h0 n0 _ s₁.heap _
      rw [e0]
      exact ⟨congrArg some (congrArg Value.int (Eq.symm (show (own_max p1 p2) = p1 from by unfold own_max; rw [if_neg hc2]))), N0, rfl⟩
/-! small naturals, lists of five of them, roots -/
def own_pv (P : List Nat) : List Value := P.map (fun n => Value.int (Int32.ofNat n))
def own_g (P : List Nat) (i : Nat) : Nat := P.getD i 0
def own_rt (P : List Nat) : Nat → Nat → Nat
  | 0, i => i
  | n + 1, i => if own_g P i = i then i else own_rt P n (own_g P i)
def own_r (P : List Nat) (i : Nat) : Nat := own_rt P 5 i
def own_all : List (List Nat) := (List.range 2).flatMap fun a => (List.range 3).flatMap fun b => (List.range 4).flatMap fun c => (List.range 5).map fun d => [0, a, b, c, d]
def own_rel (f : Nat → Nat) (a b i : Nat) : Nat := if f i = max (f a) (f b) then min (f a) (f b) else f i
def own_labs (P : List Nat) : List Nat := [own_r P 0, own_r P 1, own_r P 2, own_r P 3, own_r P 4]
def own_up (P : List Nat) (i lo hi : Nat) : Nat := if own_g P i = hi then lo else own_g P i
def own_same (P P' : List Nat) : Prop := P' ∈ own_all ∧ ∀ i, i < 5 → own_r P' i = own_r P i
def own_linked (P : List Nat) (a b : Nat) (P' : List Nat) : Prop := P' ∈ own_all ∧ ∀ i, i < 5 → own_r P' i = own_rel (own_r P) a b i
theorem own_five {p : Nat → Prop} (h : ∀ i ∈ List.range 5, p i) : ∀ i, i < 5 → p i := fun i hi => h i (List.mem_range.mpr hi)
theorem own_ix {r : Nat} (h : r < 5) : ¬ (Int32.ofNat r) < 0 ∧ (Int32.ofNat r) < 5 := own_five (p := fun r => ¬ (Int32.ofNat r) < 0 ∧ (Int32.ofNat r) < 5) (by decide) r h
theorem own_tn {r : Nat} (h : r < 5) : (Int32.ofNat r).toNatClampNeg = r := own_five (p := fun r => (Int32.ofNat r).toNatClampNeg = r) (by decide) r h
theorem own_inj {a b : Nat} (ha : a < 5) (hb : b < 5) (h : Int32.ofNat a = Int32.ofNat b) : a = b :=
  own_five (p := fun a => ∀ b, b < 5 → Int32.ofNat a = Int32.ofNat b → a = b) (fun a ha => own_five ((by decide : ∀ a ∈ List.range 5, ∀ b ∈ List.range 5, Int32.ofNat a = Int32.ofNat b → a = b) a ha)) a ha b hb h
theorem own_minn {a b : Nat} (ha : a < 5) (hb : b < 5) : own_min (Int32.ofNat a) (Int32.ofNat b) = Int32.ofNat (min a b) :=
  own_five (p := fun a => ∀ b, b < 5 → own_min (Int32.ofNat a) (Int32.ofNat b) = Int32.ofNat (min a b)) (fun a ha => own_five ((by decide : ∀ a ∈ List.range 5, ∀ b ∈ List.range 5, own_min (Int32.ofNat a) (Int32.ofNat b) = Int32.ofNat (min a b)) a ha)) a ha b hb
theorem own_maxn {a b : Nat} (ha : a < 5) (hb : b < 5) : own_max (Int32.ofNat a) (Int32.ofNat b) = Int32.ofNat (max a b) :=
  own_five (p := fun a => ∀ b, b < 5 → own_max (Int32.ofNat a) (Int32.ofNat b) = Int32.ofNat (max a b)) (fun a ha => own_five ((by decide : ∀ a ∈ List.range 5, ∀ b ∈ List.range 5, own_max (Int32.ofNat a) (Int32.ofNat b) = Int32.ofNat (max a b)) a ha)) a ha b hb
theorem own_min5 {a b : Nat} (ha : a < 5) : min a b < 5 := by omega
theorem own_max5 {a b : Nat} (ha : a < 5) (hb : b < 5) : max a b < 5 := by omega
theorem own_pvlen (P : List Nat) : (own_pv P).length = P.length := List.length_map _
theorem own_pvset (P : List Nat) (r n : Nat) : own_pv (List.set P r n) = (own_pv P).set r (.int (Int32.ofNat n)) := List.map_set
theorem own_at (P : List Nat) {r : Nat} (h : r < 5) : (own_pv P).getD (Int32.ofNat r).toNatClampNeg (.int (0 : Int32)) = .int (Int32.ofNat (own_g P r)) := by
  rw [own_tn h]
  unfold own_pv own_g
  rw [List.getD_eq_getElem?_getD, List.getD_eq_getElem?_getD, List.getElem?_map]
  cases P[r]? <;> rfl
theorem own_len {P : List Nat} (h : P ∈ own_all) : P.length = 5 := (by decide +kernel : ∀ P ∈ own_all, P.length = 5) P h
theorem own_glt {P : List Nat} (h : P ∈ own_all) {r : Nat} (hr : r < 5) : own_g P r < 5 := own_five ((by decide +kernel : ∀ P ∈ own_all, ∀ r ∈ List.range 5, own_g P r < 5) P h) r hr
theorem own_rlt {P : List Nat} (h : P ∈ own_all) {r : Nat} (hr : r < 5) : own_r P r < 5 := own_five ((by decide +kernel : ∀ P ∈ own_all, ∀ r ∈ List.range 5, own_r P r < 5) P h) r hr
theorem own_stop {P : List Nat} {r : Nat} (h : own_g P r = r) : own_r P r = r := by
  unfold own_r own_rt
  rw [if_pos h]
/-- one turn of root's loop -/
theorem own_turn {P : List Nat} (h : P ∈ own_all) {r : Nat} (hr : r < 5) (hne : ¬ own_g P r = r) : own_same P (List.set P r (own_g P (own_g P r))) ∧ own_g (List.set P r (own_g P (own_g P r))) r < r ∧ own_r (List.set P r (own_g P (own_g P r))) (own_g (List.set P r (own_g P (own_g P r))) r) = own_r P r := by
  have q := own_five ((by decide +kernel : ∀ P ∈ own_all, ∀ r ∈ List.range 5, ¬ own_g P r = r → (List.set P r (own_g P (own_g P r)) ∈ own_all ∧ ∀ i ∈ List.range 5, own_r (List.set P r (own_g P (own_g P r))) i = own_r P i) ∧ own_g (List.set P r (own_g P (own_g P r))) r < r ∧ own_r (List.set P r (own_g P (own_g P r))) (own_g (List.set P r (own_g P (own_g P r))) r) = own_r P r) P h) r hr hne
  exact ⟨⟨q.1.1, own_five q.1.2⟩, q.2⟩
theorem own_same_refl {P : List Nat} (h : P ∈ own_all) : own_same P P := ⟨h, fun _ _ => rfl⟩
theorem own_same_trans {P P' P'' : List Nat} (h : own_same P P') (h' : own_same P' P'') : own_same P P'' := ⟨h'.1, fun i hi => (h'.2 i hi).trans (h.2 i hi)⟩
theorem own_linkD : ∀ P ∈ own_all, ∀ a ∈ List.range 5, ∀ b ∈ List.range 5, List.set P (max (own_r P a) (own_r P b)) (min (own_r P a) (own_r P b)) ∈ own_all ∧ ∀ i ∈ List.range 5, own_r (List.set P (max (own_r P a) (own_r P b)) (min (own_r P a) (own_r P b))) i = own_rel (own_r P) a b i := by decide +kernel
theorem own_link0 {P : List Nat} (h : P ∈ own_all) {a b : Nat} (ha : a < 5) (hb : b < 5) : own_linked P a b (List.set P (max (own_r P a) (own_r P b)) (min (own_r P a) (own_r P b))) := by
  have q := own_linkD P h a (List.mem_range.mpr ha) b (List.mem_range.mpr hb)
  exact ⟨q.1, own_five q.2⟩
/-- behind two calls of root the parents are others, the roots the same -/
theorem own_link {P P1 P2 : List Nat} (h1 : own_same P P1) (h2 : own_same P1 P2) {a b : Nat} (ha : a < 5) (hb : b < 5) : own_linked P a b (List.set P2 (max (own_r P a) (own_r P1 b)) (min (own_r P a) (own_r P1 b))) := by
  have e1 : own_r P a = own_r P2 a := ((h2.2 a ha).trans (h1.2 a ha)).symm
  have e2 : own_r P1 b = own_r P2 b := (h2.2 b hb).symm
  rw [e1, e2]
  obtain ⟨q1, q2⟩ := own_link0 h2.1 ha hb
  refine ⟨q1, fun i hi => (q2 i hi).trans ?_⟩
  have e := fun i hi => (h2.2 i hi).trans (h1.2 i hi)
  unfold own_rel
  rw [e i hi, e a ha, e b hb]
/-- the labels -/
def own_all5 (L : List Nat) (lo hi : Nat) : List Nat :=
  List.set (List.set (List.set (List.set (List.set L 0 (own_up L 0 lo hi)) 1 (own_up L 1 lo hi)) 2 (own_up L 2 lo hi)) 3 (own_up L 3 lo hi)) 4 (own_up L 4 lo hi)
theorem own_lg (P : List Nat) {i : Nat} (hi : i < 5) : own_g (own_labs P) i = own_r P i := by
  match i, hi with
  | 0, _ => rfl
  | 1, _ => rfl
  | 2, _ => rfl
  | 3, _ => rfl
  | 4, _ => rfl
theorem own_relabel {P P' : List Nat} {a b : Nat} (h : own_linked P a b P') (ha : a < 5) (hb : b < 5) : own_all5 (own_labs P) (min (own_g (own_labs P) a) (own_g (own_labs P) b)) (max (own_g (own_labs P) a) (own_g (own_labs P) b)) = own_labs P' := by
  rw [own_lg P ha, own_lg P hb]
  unfold own_labs
  rw [h.2 0 (by decide), h.2 1 (by decide), h.2 2 (by decide), h.2 3 (by decide), h.2 4 (by decide)]
  rfl
theorem own_mod (y : Int32) (h : 0 ≤ y.toInt) : ∃ n, n < 5 ∧ (y % (5 : Int32)) = Int32.ofNat n := by
  have r := (c_irem y (5 : Int32) 5 (by decide)).1 h
  have q : (y % (5 : Int32)) = (0 : Int32) ∨ (y % (5 : Int32)) = (1 : Int32) ∨ (y % (5 : Int32)) = (2 : Int32) ∨ (y % (5 : Int32)) = (3 : Int32) ∨ (y % (5 : Int32)) = (4 : Int32) := by
    simp only [← Int32.toInt_inj, Int32.reduceToInt]
    omega
  rcases q with q | q | q | q | q
  · exact ⟨0, by decide, q⟩
  · exact ⟨1, by decide, q⟩
  · exact ⟨2, by decide, q⟩
  · exact ⟨3, by decide, q⟩
  · exact ⟨4, by decide, q⟩
theorem own_and (x m : Int32) (h : 0 ≤ m.toInt) : 0 ≤ (x &&& m).toInt := (c_andS x m).2.2 h
theorem own_hi (x : Int32) : 0 ≤ ((x.toUInt32 >>> ((16 : Int32) &&& 31).toUInt32).toInt32).toInt := by
  have r := c_iushr x (16 : Int32) 16 (by decide) (by decide)
  rw [r]
  omega
theorem rt_0 : decode prog_73_method_3_code 0 = .ok (.iload_n 1, 1) := by decide +kernel
theorem rt_1 : decode prog_73_method_3_code 1 = .ok (.istore_n 2, 1) := by decide +kernel
theorem rt_2 : decode prog_73_method_3_code 2 = .ok (.aload_n 0, 1) := by decide +kernel
theorem rt_3 : decode prog_73_method_3_code 3 = .ok (.getfield 7, 3) := by decide +kernel
theorem rt_6 : decode prog_73_method_3_code 6 = .ok (.iload_n 2, 1) := by decide +kernel
theorem rt_7 : decode prog_73_method_3_code 7 = .ok (.iaload, 1) := by decide +kernel
theorem rt_8 : decode prog_73_method_3_code 8 = .ok (.iload_n 2, 1) := by decide +kernel
theorem rt_9 : decode prog_73_method_3_code 9 = .ok (.if_icmp .eq 30, 3) := by decide +kernel
theorem rt_12 : decode prog_73_method_3_code 12 = .ok (.aload_n 0, 1) := by decide +kernel
theorem rt_13 : decode prog_73_method_3_code 13 = .ok (.getfield 7, 3) := by decide +kernel
theorem rt_16 : decode prog_73_method_3_code 16 = .ok (.iload_n 2, 1) := by decide +kernel
theorem rt_17 : decode prog_73_method_3_code 17 = .ok (.aload_n 0, 1) := by decide +kernel
theorem rt_18 : decode prog_73_method_3_code 18 = .ok (.getfield 7, 3) := by decide +kernel
theorem rt_21 : decode prog_73_method_3_code 21 = .ok (.aload_n 0, 1) := by decide +kernel
theorem rt_22 : decode prog_73_method_3_code 22 = .ok (.getfield 7, 3) := by decide +kernel
theorem rt_25 : decode prog_73_method_3_code 25 = .ok (.iload_n 2, 1) := by decide +kernel
theorem rt_26 : decode prog_73_method_3_code 26 = .ok (.iaload, 1) := by decide +kernel
theorem rt_27 : decode prog_73_method_3_code 27 = .ok (.iaload, 1) := by decide +kernel
theorem rt_28 : decode prog_73_method_3_code 28 = .ok (.iastore, 1) := by decide +kernel
theorem rt_29 : decode prog_73_method_3_code 29 = .ok (.aload_n 0, 1) := by decide +kernel
theorem rt_30 : decode prog_73_method_3_code 30 = .ok (.getfield 7, 3) := by decide +kernel
theorem rt_33 : decode prog_73_method_3_code 33 = .ok (.iload_n 2, 1) := by decide +kernel
theorem rt_34 : decode prog_73_method_3_code 34 = .ok (.iaload, 1) := by decide +kernel
theorem rt_35 : decode prog_73_method_3_code 35 = .ok (.istore_n 2, 1) := by decide +kernel
theorem rt_36 : decode prog_73_method_3_code 36 = .ok (.goto (-34), 3) := by decide +kernel
theorem rt_39 : decode prog_73_method_3_code 39 = .ok (.iload_n 2, 1) := by decide +kernel
theorem rt_40 : decode prog_73_method_3_code 40 = .ok (.ireturn, 1) := by decide +kernel
theorem pn_rt : plainName "com/example/subsumption/subsumption/reasoner/Links" = true := by first | (simp [plainName, overriddenIn]; done) | decide +kernel
theorem ef_rt (m : MethodId) (a1 : Addr) (p2 : Int32) : entryFrame m #[(.ref a1), (.int p2)] 3 = mkF m 0 #[.val (.ref a1), .val (.int p2), .unset] [] := by first | (simp [entryFrame, mkF, argsToLocals, Value.category]; done) | rfl
set_option maxRecDepth 65536 in
set_option maxHeartbeats 40000000 in
theorem loop_root {p : Program} {l : Launch} {e : Env} {R : Room} {s : State} {m : MethodId} {args : Array Value} {below : List Frame} {meth : Method} {c : Code} {cells slots : Nat} {Z : State} {a0 : Array Value} (n0 : Nat) (a1 b : Addr) (s1 : Slot) (kA : ClassId) (hx : p.tables.exec = Jvm.exec) (hZ : Z.Warmed39 s.vm) (hw : ∀ d ∈ tables_1, d.before a0 Z = true) (hby : c.code = prog_73_method_3_code) (hml : c.maxLocals = 3) (hown : s.vm.findClass "com/example/subsumption/subsumption/reasoner/Links" = some m.cls) (g2 : n0 ≤ b) (ne1 : a1 ≠ b) :
    ∀ (n r : Nat) (P : List Nat) (T0 : State) (h0 : Heap) (locs : List Loc), r < n → r < 5 → P ∈ own_all → Stand p l e R s m args below meth c T0 locs cells slots → T0.heap = h0 → Fr n0 locs → Fld Z h0 a1 "com/example/subsumption/subsumption/reasoner/Links" "parent" "[I" (.ref b) → Arv Z h0 b kA .int (5 : Int32) (own_pv P) (.int (0 : Int32)) →
      ∃ (T' : State) (h' : Heap) (locs' : List Loc) (P' : List Nat), Stand p l e R s m args below meth c T' locs' cells slots ∧ T'.heap = h' ∧ Fr n0 locs' ∧ Keep h0 h' [b] ∧ own_same P P' ∧ Arv Z h' b kA .int (5 : Int32) (own_pv P') (.int (0 : Int32)) ∧ ∀ t, Steps p.tables e below (T'.setTop (mkF m 39 #[.val (.ref a1), s1, .val (.int (Int32.ofNat (own_r P r)))] [])) t → Steps p.tables e below (T0.setTop (mkF m 2 #[.val (.ref a1), s1, .val (.int (Int32.ofNat r))] [])) t := by
  intro n
  induction n with
  | zero => intro r P T0 h0 locs hn; exact absurd hn (Nat.not_lt_zero _)
  | succ n ih =>
    intro r P T0 h0 locs hn hr hM X0 e0 N0 F1 V1
    have go0 : ∀ t, Steps p.tables e below (T0.setTop (mkF m 2 #[.val (.ref a1), s1, .val (.int (Int32.ofNat r))] [])) t → Steps p.tables e below (T0.setTop (mkF m 2 #[.val (.ref a1), s1, .val (.int (Int32.ofNat r))] [])) t := fun t k => k
    have go1 : ∀ t, Steps p.tables e below (T0.setTop (mkF m 3 #[.val (.ref a1), s1, .val (.int (Int32.ofNat r))] [(.ref a1)])) t → Steps p.tables e below (T0.setTop (mkF m 2 #[.val (.ref a1), s1, .val (.int (Int32.ofNat r))] [])) t := fun t k => go0 t (by
      show Steps p.tables e below (T0.setTop (mkF m 2 #[.val (.ref a1), s1, .val (.int (Int32.ofNat r))] [])) _
      refine XS.aloadN X0.here hx rfl (hb hby rt_2) rfl rfl ?_
      exact k)
    obtain ⟨T2, X2, e2, st2⟩ := getF X0 hx hZ hown (host := "") (Or.inl (hw _ (List.mem_of_getElem? (i := 10) rfl))) Via.refl e0 F1 (g := (mkF m 3 #[.val (.ref a1), s1, .val (.int (Int32.ofNat r))] [(.ref a1)])) rfl rfl (hb hby rt_3)
    have go3 : ∀ t, Steps p.tables e below (T2.setTop (mkF m 6 #[.val (.ref a1), s1, .val (.int (Int32.ofNat r))] [(.ref b)])) t → Steps p.tables e below (T0.setTop (mkF m 2 #[.val (.ref a1), s1, .val (.int (Int32.ofNat r))] [])) t := fun t k => go1 t (st2 t k)
    have go5 : ∀ t, Steps p.tables e below (T2.setTop (mkF m 7 #[.val (.ref a1), s1, .val (.int (Int32.ofNat r))] [(.int (Int32.ofNat r)), (.ref b)])) t → Steps p.tables e below (T0.setTop (mkF m 2 #[.val (.ref a1), s1, .val (.int (Int32.ofNat r))] [])) t := fun t k => go3 t (by
      show Steps p.tables e below (T2.setTop (mkF m 6 #[.val (.ref a1), s1, .val (.int (Int32.ofNat r))] [(.ref b)])) _
      refine XS.iloadN X2.here hx rfl (hb hby rt_6) rfl ?_
      exact k)
    obtain ⟨cl4, Ar4, q4, S4, M4, H4, G4⟩ := id V1
    have go6 : ∀ t, Steps p.tables e below (T2.setTop (mkF m 8 #[.val (.ref a1), s1, .val (.int (Int32.ofNat r))] [(.int (Int32.ofNat (own_g P r)))])) t → Steps p.tables e below (T0.setTop (mkF m 2 #[.val (.ref a1), s1, .val (.int (Int32.ofNat r))] [])) t := fun t k => go5 t (by
      show Steps p.tables e below (T2.setTop (mkF m 7 #[.val (.ref a1), s1, .val (.int (Int32.ofNat r))] [(.int (Int32.ofNat r)), (.ref b)])) _
      refine X2.iaload hx (j := (Int32.ofNat r)) (v := (.int (Int32.ofNat (own_g P r)))) (by rw [e2]; exact Ar4.1) (State.isArrayOf_alike hZ.alike Ar4.2.1) Ar4.2.2 (inb_of S4 (own_ix hr)) (H4.at (inb_of S4 (own_ix hr)) (own_at P hr)) (g := (mkF m 7 #[.val (.ref a1), s1, .val (.int (Int32.ofNat r))] [(.int (Int32.ofNat r)), (.ref b)])) rfl rfl (hb hby rt_7) _ ?_
      exact k)
    have go7 : ∀ t, Steps p.tables e below (T2.setTop (mkF m 9 #[.val (.ref a1), s1, .val (.int (Int32.ofNat r))] [(.int (Int32.ofNat r)), (.int (Int32.ofNat (own_g P r)))])) t → Steps p.tables e below (T0.setTop (mkF m 2 #[.val (.ref a1), s1, .val (.int (Int32.ofNat r))] [])) t := fun t k => go6 t (by
      show Steps p.tables e below (T2.setTop (mkF m 8 #[.val (.ref a1), s1, .val (.int (Int32.ofNat r))] [(.int (Int32.ofNat (own_g P r)))])) _
      refine XS.iloadN X2.here hx rfl (hb hby rt_8) rfl ?_
      exact k)
    by_cases hc8 : (Int32.ofNat (own_g P r)) = (Int32.ofNat r)
    · have go9 : ∀ t, Steps p.tables e below (T2.setTop (mkF m 39 #[.val (.ref a1), s1, .val (.int (Int32.ofNat r))] [])) t → Steps p.tables e below (T0.setTop (mkF m 2 #[.val (.ref a1), s1, .val (.int (Int32.ofNat r))] [])) t := fun t k => go7 t (by
        show Steps p.tables e below (T2.setTop (mkF m 9 #[.val (.ref a1), s1, .val (.int (Int32.ofNat r))] [(.int (Int32.ofNat r)), (.int (Int32.ofNat (own_g P r)))])) _
        refine XS.icmpYes X2.here hx rfl (pc0 := 9) (pc' := 39) rfl (hb hby rt_9) rfl (teq hc8).1 (by decide) (by decide) ?_
        exact k)
      have hs : own_g P r = r := own_inj (own_glt hM hr) hr hc8
      refine ⟨T2, h0, _, P, X2, e2, N0, (Keep.refl h0 [b]), own_same_refl hM, V1, ?_⟩
      rw [own_stop hs]
      exact go9
    · have go10 : ∀ t, Steps p.tables e below (T2.setTop (mkF m 13 #[.val (.ref a1), s1, .val (.int (Int32.ofNat r))] [(.ref a1)])) t → Steps p.tables e below (T0.setTop (mkF m 2 #[.val (.ref a1), s1, .val (.int (Int32.ofNat r))] [])) t := fun t k => go7 t (by
        show Steps p.tables e below (T2.setTop (mkF m 9 #[.val (.ref a1), s1, .val (.int (Int32.ofNat r))] [(.int (Int32.ofNat r)), (.int (Int32.ofNat (own_g P r)))])) _
        refine XS.icmpNo X2.here hx rfl (hb hby rt_9) rfl (feq hc8).1 ?_
        show Steps p.tables e below (T2.setTop (mkF m 12 #[.val (.ref a1), s1, .val (.int (Int32.ofNat r))] [])) _
        refine XS.aloadN X2.here hx rfl (hb hby rt_12) rfl rfl ?_
        exact k)
      obtain ⟨T11, X11, e11, st11⟩ := getF X2 hx hZ hown (host := "") (Or.inl (hw _ (List.mem_of_getElem? (i := 10) rfl))) Via.refl e2 F1 (g := (mkF m 13 #[.val (.ref a1), s1, .val (.int (Int32.ofNat r))] [(.ref a1)])) rfl rfl (hb hby rt_13)
      have go12 : ∀ t, Steps p.tables e below (T11.setTop (mkF m 16 #[.val (.ref a1), s1, .val (.int (Int32.ofNat r))] [(.ref b)])) t → Steps p.tables e below (T0.setTop (mkF m 2 #[.val (.ref a1), s1, .val (.int (Int32.ofNat r))] [])) t := fun t k => go10 t (st11 t k)
      have go13 : ∀ t, Steps p.tables e below (T11.setTop (mkF m 18 #[.val (.ref a1), s1, .val (.int (Int32.ofNat r))] [(.ref a1), (.int (Int32.ofNat r)), (.ref b)])) t → Steps p.tables e below (T0.setTop (mkF m 2 #[.val (.ref a1), s1, .val (.int (Int32.ofNat r))] [])) t := fun t k => go12 t (by
        show Steps p.tables e below (T11.setTop (mkF m 16 #[.val (.ref a1), s1, .val (.int (Int32.ofNat r))] [(.ref b)])) _
        refine XS.iloadN X11.here hx rfl (hb hby rt_16) rfl ?_
        show Steps p.tables e below (T11.setTop (mkF m 17 #[.val (.ref a1), s1, .val (.int (Int32.ofNat r))] [(.int (Int32.ofNat r)), (.ref b)])) _
        refine XS.aloadN X11.here hx rfl (hb hby rt_17) rfl rfl ?_
        exact k)
      obtain ⟨T14, X14, e14, st14⟩ := getF X11 hx hZ hown (host := "") (Or.inl (hw _ (List.mem_of_getElem? (i := 10) rfl))) Via.refl e11 F1 (g := (mkF m 18 #[.val (.ref a1), s1, .val (.int (Int32.ofNat r))] [(.ref a1), (.int (Int32.ofNat r)), (.ref b)])) rfl rfl (hb hby rt_18)
      have go15 : ∀ t, Steps p.tables e below (T14.setTop (mkF m 21 #[.val (.ref a1), s1, .val (.int (Int32.ofNat r))] [(.ref b), (.int (Int32.ofNat r)), (.ref b)])) t → Steps p.tables e below (T0.setTop (mkF m 2 #[.val (.ref a1), s1, .val (.int (Int32.ofNat r))] [])) t := fun t k => go13 t (st14 t k)
      have go16 : ∀ t, Steps p.tables e below (T14.setTop (mkF m 22 #[.val (.ref a1), s1, .val (.int (Int32.ofNat r))] [(.ref a1), (.ref b), (.int (Int32.ofNat r)), (.ref b)])) t → Steps p.tables e below (T0.setTop (mkF m 2 #[.val (.ref a1), s1, .val (.int (Int32.ofNat r))] [])) t := fun t k => go15 t (by
        show Steps p.tables e below (T14.setTop (mkF m 21 #[.val (.ref a1), s1, .val (.int (Int32.ofNat r))] [(.ref b), (.int (Int32.ofNat r)), (.ref b)])) _
        refine XS.aloadN X14.here hx rfl (hb hby rt_21) rfl rfl ?_
        exact k)
      obtain ⟨T17, X17, e17, st17⟩ := getF X14 hx hZ hown (host := "") (Or.inl (hw _ (List.mem_of_getElem? (i := 10) rfl))) Via.refl e14 F1 (g := (mkF m 22 #[.val (.ref a1), s1, .val (.int (Int32.ofNat r))] [(.ref a1), (.ref b), (.int (Int32.ofNat r)), (.ref b)])) rfl rfl (hb hby rt_22)
      have go18 : ∀ t, Steps p.tables e below (T17.setTop (mkF m 25 #[.val (.ref a1), s1, .val (.int (Int32.ofNat r))] [(.ref b), (.ref b), (.int (Int32.ofNat r)), (.ref b)])) t → Steps p.tables e below (T0.setTop (mkF m 2 #[.val (.ref a1), s1, .val (.int (Int32.ofNat r))] [])) t := fun t k => go16 t (st17 t k)
      have go20 : ∀ t, Steps p.tables e below (T17.setTop (mkF m 26 #[.val (.ref a1), s1, .val (.int (Int32.ofNat r))] [(.int (Int32.ofNat r)), (.ref b), (.ref b), (.int (Int32.ofNat r)), (.ref b)])) t → Steps p.tables e below (T0.setTop (mkF m 2 #[.val (.ref a1), s1, .val (.int (Int32.ofNat r))] [])) t := fun t k => go18 t (by
        show Steps p.tables e below (T17.setTop (mkF m 25 #[.val (.ref a1), s1, .val (.int (Int32.ofNat r))] [(.ref b), (.ref b), (.int (Int32.ofNat r)), (.ref b)])) _
        refine XS.iloadN X17.here hx rfl (hb hby rt_25) rfl ?_
        exact k)
      obtain ⟨cl19, Ar19, q19, S19, M19, H19, G19⟩ := id V1
      have go21 : ∀ t, Steps p.tables e below (T17.setTop (mkF m 27 #[.val (.ref a1), s1, .val (.int (Int32.ofNat r))] [(.int (Int32.ofNat (own_g P r))), (.ref b), (.int (Int32.ofNat r)), (.ref b)])) t → Steps p.tables e below (T0.setTop (mkF m 2 #[.val (.ref a1), s1, .val (.int (Int32.ofNat r))] [])) t := fun t k => go20 t (by
        show Steps p.tables e below (T17.setTop (mkF m 26 #[.val (.ref a1), s1, .val (.int (Int32.ofNat r))] [(.int (Int32.ofNat r)), (.ref b), (.ref b), (.int (Int32.ofNat r)), (.ref b)])) _
        refine X17.iaload hx (j := (Int32.ofNat r)) (v := (.int (Int32.ofNat (own_g P r)))) (by rw [e17]; exact Ar19.1) (State.isArrayOf_alike hZ.alike Ar19.2.1) Ar19.2.2 (inb_of S19 (own_ix hr)) (H19.at (inb_of S19 (own_ix hr)) (own_at P hr)) (g := (mkF m 26 #[.val (.ref a1), s1, .val (.int (Int32.ofNat r))] [(.int (Int32.ofNat r)), (.ref b), (.ref b), (.int (Int32.ofNat r)), (.ref b)])) rfl rfl (hb hby rt_26) _ ?_
        exact k)
      obtain ⟨cl22, Ar22, q22, S22, M22, H22, G22⟩ := id V1
      have go23 : ∀ t, Steps p.tables e below (T17.setTop (mkF m 28 #[.val (.ref a1), s1, .val (.int (Int32.ofNat r))] [(.int (Int32.ofNat (own_g P (own_g P r)))), (.int (Int32.ofNat r)), (.ref b)])) t → Steps p.tables e below (T0.setTop (mkF m 2 #[.val (.ref a1), s1, .val (.int (Int32.ofNat r))] [])) t := fun t k => go21 t (by
        show Steps p.tables e below (T17.setTop (mkF m 27 #[.val (.ref a1), s1, .val (.int (Int32.ofNat r))] [(.int (Int32.ofNat (own_g P r))), (.ref b), (.int (Int32.ofNat r)), (.ref b)])) _
        refine X17.iaload hx (j := (Int32.ofNat (own_g P r))) (v := (.int (Int32.ofNat (own_g P (own_g P r))))) (by rw [e17]; exact Ar22.1) (State.isArrayOf_alike hZ.alike Ar22.2.1) Ar22.2.2 (inb_of S22 (own_ix (own_glt hM hr))) (H22.at (inb_of S22 (own_ix (own_glt hM hr))) (own_at P (own_glt hM hr))) (g := (mkF m 27 #[.val (.ref a1), s1, .val (.int (Int32.ofNat r))] [(.int (Int32.ofNat (own_g P r))), (.ref b), (.int (Int32.ofNat r)), (.ref b)])) rfl rfl (hb hby rt_27) _ ?_
        exact k)
      obtain ⟨cl24, Ar24, q24, S24, M24, H24, G24⟩ := id V1
      obtain ⟨T24, h24, X24, e24, W24, st24⟩ := stI X17 hx hZ e17 Ar24 (j := (Int32.ofNat r)) (x := (Int32.ofNat (own_g P (own_g P r)))) (inb_of S24 (own_ix hr)) (g := (mkF m 28 #[.val (.ref a1), s1, .val (.int (Int32.ofNat r))] [(.int (Int32.ofNat (own_g P (own_g P r)))), (.int (Int32.ofNat r)), (.ref b)])) rfl rfl (hb hby rt_28)
      obtain ⟨P24, hP24⟩ : ∃ z, z = List.set P r (own_g P (own_g P r)) := ⟨_, rfl⟩
      have ln24 : P24.length = 5 := by rw [hP24, List.length_set]; exact (own_len hM)
      have V24 : Arv Z h24 b kA .int (5 : Int32) (own_pv P24) (.int (0 : Int32)) := by rw [hP24, own_pvset]; exact Arv.set Ar24 q24 S24 M24 H24 G24 rfl W24 r (own_tn hr) (by rw [own_pvlen, (own_len hM)]; exact hr)
      have N24 := Fr.snoc X24 N0 g2
      have f25 := F1.other W24 (Or.inl ne1)
      have f26 := ((Keep.refl h0 [b])).wr W24 (Or.inl (List.mem_of_getElem? (i := 0) rfl))
      have go27 : ∀ t, Steps p.tables e below (T24.setTop (mkF m 29 #[.val (.ref a1), s1, .val (.int (Int32.ofNat r))] [])) t → Steps p.tables e below (T0.setTop (mkF m 2 #[.val (.ref a1), s1, .val (.int (Int32.ofNat r))] [])) t := fun t k => go23 t (st24 t k)
      have tn := own_turn hM hr (fun q => hc8 (congrArg Int32.ofNat q))
      rw [← hP24] at tn
      have go28 : ∀ t, Steps p.tables e below (T24.setTop (mkF m 30 #[.val (.ref a1), s1, .val (.int (Int32.ofNat r))] [(.ref a1)])) t → Steps p.tables e below (T0.setTop (mkF m 2 #[.val (.ref a1), s1, .val (.int (Int32.ofNat r))] [])) t := fun t k => go27 t (by
        show Steps p.tables e below (T24.setTop (mkF m 29 #[.val (.ref a1), s1, .val (.int (Int32.ofNat r))] [])) _
        refine XS.aloadN X24.here hx rfl (hb hby rt_29) rfl rfl ?_
        exact k)
      obtain ⟨T29, X29, e29, st29⟩ := getF X24 hx hZ hown (host := "") (Or.inl (hw _ (List.mem_of_getElem? (i := 10) rfl))) Via.refl e24 f25 (g := (mkF m 30 #[.val (.ref a1), s1, .val (.int (Int32.ofNat r))] [(.ref a1)])) rfl rfl (hb hby rt_30)
      have go30 : ∀ t, Steps p.tables e below (T29.setTop (mkF m 33 #[.val (.ref a1), s1, .val (.int (Int32.ofNat r))] [(.ref b)])) t → Steps p.tables e below (T0.setTop (mkF m 2 #[.val (.ref a1), s1, .val (.int (Int32.ofNat r))] [])) t := fun t k => go28 t (st29 t k)
      have go32 : ∀ t, Steps p.tables e below (T29.setTop (mkF m 34 #[.val (.ref a1), s1, .val (.int (Int32.ofNat r))] [(.int (Int32.ofNat r)), (.ref b)])) t → Steps p.tables e below (T0.setTop (mkF m 2 #[.val (.ref a1), s1, .val (.int (Int32.ofNat r))] [])) t := fun t k => go30 t (by
        show Steps p.tables e below (T29.setTop (mkF m 33 #[.val (.ref a1), s1, .val (.int (Int32.ofNat r))] [(.ref b)])) _
        refine XS.iloadN X29.here hx rfl (hb hby rt_33) rfl ?_
        exact k)
      obtain ⟨cl31, Ar31, q31, S31, M31, H31, G31⟩ := id V24
      have go33 : ∀ t, Steps p.tables e below (T29.setTop (mkF m 35 #[.val (.ref a1), s1, .val (.int (Int32.ofNat r))] [(.int (Int32.ofNat (own_g P24 r)))])) t → Steps p.tables e below (T0.setTop (mkF m 2 #[.val (.ref a1), s1, .val (.int (Int32.ofNat r))] [])) t := fun t k => go32 t (by
        show Steps p.tables e below (T29.setTop (mkF m 34 #[.val (.ref a1), s1, .val (.int (Int32.ofNat r))] [(.int (Int32.ofNat r)), (.ref b)])) _
        refine X29.iaload hx (j := (Int32.ofNat r)) (v := (.int (Int32.ofNat (own_g P24 r)))) (by rw [e29]; exact Ar31.1) (State.isArrayOf_alike hZ.alike Ar31.2.1) Ar31.2.2 (inb_of S31 (own_ix hr)) (H31.at (inb_of S31 (own_ix hr)) (own_at P24 hr)) (g := (mkF m 34 #[.val (.ref a1), s1, .val (.int (Int32.ofNat r))] [(.int (Int32.ofNat r)), (.ref b)])) rfl rfl (hb hby rt_34) _ ?_
        exact k)
      have go34 : ∀ t, Steps p.tables e below (T29.setTop (mkF m 2 #[.val (.ref a1), s1, .val (.int (Int32.ofNat (own_g P24 r)))] [])) t → Steps p.tables e below (T0.setTop (mkF m 2 #[.val (.ref a1), s1, .val (.int (Int32.ofNat r))] [])) t := fun t k => go33 t (by
        show Steps p.tables e below (T29.setTop (mkF m 35 #[.val (.ref a1), s1, .val (.int (Int32.ofNat r))] [(.int (Int32.ofNat (own_g P24 r)))])) _
        refine XS.istoreN X29.here hx rfl (hb hby rt_35) rfl (l' := #[.val (.ref a1), s1, .val (.int (Int32.ofNat (own_g P24 r)))]) rfl ?_
        show Steps p.tables e below (T29.setTop (mkF m 36 #[.val (.ref a1), s1, .val (.int (Int32.ofNat (own_g P24 r)))] [])) _
        refine XS.goto X29.here hx rfl (pc0 := 36) (pc' := 2) rfl (hb hby rt_36) (by decide) (by decide) ?_
        exact k)
      obtain ⟨T', h', L', P', X', e', N', K', S', V', go'⟩ := ih (own_g P24 r) P24 T29 h24 _ (by omega) (Nat.lt_trans tn.2.1 hr) tn.1.1 X29 e29 N24 f25 V24
      refine ⟨T', h', L', P', X', e', N', (f26).trans K' (allS (Or.inl (List.mem_of_getElem? (i := 0) rfl)) all0), own_same_trans tn.1 S', V', fun t k => go34 t (go' t ?_)⟩
      rw [tn.2.2]
      exact k
def Qrt (Z : State) (e1 : Nat) (b : Addr) (kA : ClassId) (P : List Nat) (h0 : Heap) (n0 : Nat) (v : Option Value) (h : Heap) (L : List Loc) : Prop := v = some (.int (Int32.ofNat (own_r P e1))) ∧ Fr n0 L ∧ Keep h0 h [b] ∧ ∃ P', own_same P P' ∧ Arv Z h b kA .int (5 : Int32) (own_pv P') (.int (0 : Int32))
set_option maxRecDepth 65536 in
set_option maxHeartbeats 40000000 in
theorem rm_rt (l : Launch) (Z : State) (a0 : Array Value) (hw : ∀ d ∈ tables_1, d.before a0 Z = true) (ws : List Jvm.Cond) (a1 : Addr) (e1 : Nat) (b : Addr) (kA : ClassId) (P : List Nat) (h0 : Heap) (n0 : Nat) (Z0 : n0 ≤ h0.size) (F1 : Fld Z h0 a1 "com/example/subsumption/subsumption/reasoner/Links" "parent" "[I" (.ref b)) (V1 : Arv Z h0 b kA .int (5 : Int32) (own_pv P) (.int (0 : Int32))) (hM : P ∈ own_all) (g2 : n0 ≤ b) (ne1 : a1 ≠ b) (he : e1 < 5) :
    MetFree l (⟨"com/example/subsumption/subsumption/reasoner/Links", "root", "(I)I"⟩ : MethodName) (head1 (Jvm.Cond.code (⟨"com/example/subsumption/subsumption/reasoner/Links", "root", "(I)I"⟩ : MethodName) prog_73_method_3_code 3 (some .int) :: ws) ({ frames := 0, cells := 0, slots := 0, locals := 0 } : Room)) (fun a U => a = #[(.ref a1), (.int (Int32.ofNat e1))] ∧ Z.Warmed39 U.vm ∧ U.heap = h0) (fun _ _ _ _ _ => True) (fun _ U o U' => ∃ v L, o = .returned v ∧ Qrt Z e1 b kA P h0 n0 v U'.heap L ∧ FrameEnd U o U' L ({ frames := 0, cells := 0, slots := 0, locals := 0 } : Room).cells ({ frames := 0, cells := 0, slots := 0, locals := 0 } : Room).slots) := by
  refine MetFree.of_bodySF (plainFor_of_name pn_rt) hisR ?_
  intro p e s m args below meth c s₁ Bd hml0 hP hK
  obtain ⟨rfl, hZ, hh⟩ := hP
  have hx := Bd.exec
  have hby := Bd.bytes
  have hml : c.maxLocals = 3 := hml0
  have hown : s.vm.findClass "com/example/subsumption/subsumption/reasoner/Links" = some m.cls := findClass_of_methodNamed Bd.named
  have hnm := (name_of_methodNamed Bd.named Bd.method).1
  have X0 : Stand p l e ({ frames := 0, cells := 0, slots := 0, locals := 0 } : Room) s m #[(.ref a1), (.int (Int32.ofNat e1))] below meth c s₁ [] 0 0 := Stand.of_body Bd
  have e0 : s₁.heap = h0 := by rw [← hh, Bd.state]; rfl
  have N0 := Fr.nil n0
  have go0 : ∀ t, Steps p.tables e below (s₁.setTop (mkF m 0 #[.val (.ref a1), .val (.int (Int32.ofNat e1)), .unset] [])) t → Steps p.tables e below (s₁.setTop (entryFrame m #[(.ref a1), (.int (Int32.ofNat e1))] 3)) t := fun t k => castTop (ef_rt m a1 (Int32.ofNat e1)) k
  have go1 : ∀ t, Steps p.tables e below (s₁.setTop (mkF m 2 #[.val (.ref a1), .val (.int (Int32.ofNat e1)), .val (.int (Int32.ofNat e1))] [])) t → Steps p.tables e below (s₁.setTop (entryFrame m #[(.ref a1), (.int (Int32.ofNat e1))] 3)) t := fun t k => go0 t (by
    show Steps p.tables e below (s₁.setTop (mkF m 0 #[.val (.ref a1), .val (.int (Int32.ofNat e1)), .unset] [])) _
    refine XS.iloadN X0.here hx rfl (hb hby rt_0) rfl ?_
    show Steps p.tables e below (s₁.setTop (mkF m 1 #[.val (.ref a1), .val (.int (Int32.ofNat e1)), .unset] [(.int (Int32.ofNat e1))])) _
    refine XS.istoreN X0.here hx rfl (hb hby rt_1) rfl (l' := #[.val (.ref a1), .val (.int (Int32.ofNat e1)), .val (.int (Int32.ofNat e1))]) rfl ?_
    exact k)
  obtain ⟨T9, h9, L9, P9, X9, e9, N9, K9, S9, V9, go9⟩ := loop_root n0 a1 b (.val (.int (Int32.ofNat e1))) kA hx hZ hw hby hml hown g2 ne1 5 e1 P s₁ h0 _ he he hM X0 e0 N0 F1 V1
  have go8 : ∀ t, Steps p.tables e below (T9.setTop (mkF m 39 #[.val (.ref a1), .val (.int (Int32.ofNat e1)), .val (.int (Int32.ofNat (own_r P e1)))] [])) t → Steps p.tables e below (s₁.setTop (entryFrame m #[(.ref a1), (.int (Int32.ofNat e1))] 3)) t := fun t k => go1 t (go9 t k)
  have go2 : ∀ t, Steps p.tables e below (T9.setTop (mkF m 40 #[.val (.ref a1), .val (.int (Int32.ofNat e1)), .val (.int (Int32.ofNat (own_r P e1)))] [(.int (Int32.ofNat (own_r P e1)))])) t → Steps p.tables e below (s₁.setTop (entryFrame m #[(.ref a1), (.int (Int32.ofNat e1))] 3)) t := fun t k => go8 t (by
    show Steps p.tables e below (T9.setTop (mkF m 39 #[.val (.ref a1), .val (.int (Int32.ofNat e1)), .val (.int (Int32.ofNat (own_r P e1)))] [])) _
    refine XS.iloadN X9.here hx rfl (hb hby rt_39) rfl ?_
    exact k)
  obtain ⟨fs, hr, hrun, hended, hW, hsame⟩ := X9.leave (v := some (.int (Int32.ofNat (own_r P e1)))) (fun h => by rw [Bd.returns] at h; cases h)
  refine ⟨_, _, go2 _ ?_, hrun, hended, _, _, rfl, ?_, ⟨_, rfl⟩, hW, hsame.mono (by decide) (by decide)⟩
  · exact retI X9 hx Bd.returns (hb hby rt_40) hr
  · show Qrt Z e1 b kA P h0 n0 _ T9.heap _
    rw [e9]
    exact ⟨rfl, N9, K9, P9, S9, V9⟩
theorem lk_0 : decode prog_73_method_2_code 0 = .ok (.aload_n 0, 1) := by decide +kernel
theorem lk_1 : decode prog_73_method_2_code 1 = .ok (.iload_n 1, 1) := by decide +kernel
theorem lk_2 : decode prog_73_method_2_code 2 = .ok (.invokevirtual 13, 3) := by decide +kernel
theorem lk_5 : decode prog_73_method_2_code 5 = .ok (.istore_n 3, 1) := by decide +kernel
theorem lk_6 : decode prog_73_method_2_code 6 = .ok (.aload_n 0, 1) := by decide +kernel
theorem lk_7 : decode prog_73_method_2_code 7 = .ok (.iload_n 2, 1) := by decide +kernel
theorem lk_8 : decode prog_73_method_2_code 8 = .ok (.invokevirtual 13, 3) := by decide +kernel
theorem lk_11 : decode prog_73_method_2_code 11 = .ok (.istore 4, 2) := by decide +kernel
theorem lk_13 : decode prog_73_method_2_code 13 = .ok (.aload_n 0, 1) := by decide +kernel
theorem lk_14 : decode prog_73_method_2_code 14 = .ok (.getfield 7, 3) := by decide +kernel
theorem lk_17 : decode prog_73_method_2_code 17 = .ok (.iload_n 3, 1) := by decide +kernel
theorem lk_18 : decode prog_73_method_2_code 18 = .ok (.iload 4, 2) := by decide +kernel
theorem lk_20 : decode prog_73_method_2_code 20 = .ok (.invokestatic 17, 3) := by decide +kernel
theorem lk_23 : decode prog_73_method_2_code 23 = .ok (.iload_n 3, 1) := by decide +kernel
theorem lk_24 : decode prog_73_method_2_code 24 = .ok (.iload 4, 2) := by decide +kernel
theorem lk_26 : decode prog_73_method_2_code 26 = .ok (.invokestatic 23, 3) := by decide +kernel
theorem lk_29 : decode prog_73_method_2_code 29 = .ok (.iastore, 1) := by decide +kernel
theorem lk_30 : decode prog_73_method_2_code 30 = .ok (.return_, 1) := by decide +kernel
theorem pn_lk : plainName "com/example/subsumption/subsumption/reasoner/Links" = true := by first | (simp [plainName, overriddenIn]; done) | decide +kernel
theorem ef_lk (m : MethodId) (a1 : Addr) (p2 : Int32) (p3 : Int32) : entryFrame m #[(.ref a1), (.int p2), (.int p3)] 5 = mkF m 0 #[.val (.ref a1), .val (.int p2), .val (.int p3), .unset, .unset] [] := by first | (simp [entryFrame, mkF, argsToLocals, Value.category]; done) | rfl
def Qlk (Z : State) (i1 i2 : Nat) (b : Addr) (kA : ClassId) (P : List Nat) (h0 : Heap) (n0 : Nat) (v : Option Value) (h : Heap) (L : List Loc) : Prop := v = none ∧ Fr n0 L ∧ Keep h0 h [b] ∧ ∃ P', own_linked P i1 i2 P' ∧ Arv Z h b kA .int (5 : Int32) (own_pv P') (.int (0 : Int32))
set_option maxRecDepth 65536 in
set_option maxHeartbeats 40000000 in
theorem rm_lk (l : Launch) (Z : State) (a0 : Array Value) (hw : ∀ d ∈ tables_1, d.before a0 Z = true) (ws : List Jvm.Cond) (a1 : Addr) (i1 i2 : Nat) (b : Addr) (kA : ClassId) (P : List Nat) (h0 : Heap) (n0 : Nat) (Z0 : n0 ≤ h0.size) (E1 : Exa Z h0 a1 "com/example/subsumption/subsumption/reasoner/Links") (F1 : Fld Z h0 a1 "com/example/subsumption/subsumption/reasoner/Links" "parent" "[I" (.ref b)) (V1 : Arv Z h0 b kA .int (5 : Int32) (own_pv P) (.int (0 : Int32))) (hM : P ∈ own_all) (g2 : n0 ≤ b) (ne1 : a1 ≠ b) (hi1 : i1 < 5) (hi2 : i2 < 5) :
    MetFree l (⟨"com/example/subsumption/subsumption/reasoner/Links", "link", "(II)V"⟩ : MethodName) (head1 (Jvm.Cond.code (⟨"com/example/subsumption/subsumption/reasoner/Links", "link", "(II)V"⟩ : MethodName) prog_73_method_2_code 5 none :: ws) ({ frames := 1, cells := 0, slots := 0, locals := 15 } : Room)) (fun a U => a = #[(.ref a1), (.int (Int32.ofNat i1)), (.int (Int32.ofNat i2))] ∧ Z.Warmed39 U.vm ∧ U.heap = h0) (fun _ _ _ _ _ => True) (fun _ U o U' => ∃ v L, o = .returned v ∧ Qlk Z i1 i2 b kA P h0 n0 v U'.heap L ∧ FrameEnd U o U' L ({ frames := 1, cells := 0, slots := 0, locals := 15 } : Room).cells ({ frames := 1, cells := 0, slots := 0, locals := 15 } : Room).slots) := by
  refine MetFree.of_bodySF (plainFor_of_name pn_lk) hisR ?_
  intro p e s m args below meth c s₁ Bd hml0 hP hK
  obtain ⟨rfl, hZ, hh⟩ := hP
  have hx := Bd.exec
  have hby := Bd.bytes
  have hml : c.maxLocals = 5 := hml0
  have hown : s.vm.findClass "com/example/subsumption/subsumption/reasoner/Links" = some m.cls := findClass_of_methodNamed Bd.named
  have hnm := (name_of_methodNamed Bd.named Bd.method).1
  have X0 : Stand p l e ({ frames := 1, cells := 0, slots := 0, locals := 15 } : Room) s m #[(.ref a1), (.int (Int32.ofNat i1)), (.int (Int32.ofNat i2))] below meth c s₁ [] 0 0 := Stand.of_body Bd
  have e0 : s₁.heap = h0 := by rw [← hh, Bd.state]; rfl
  have N0 := Fr.nil n0
  have go0 : ∀ t, Steps p.tables e below (s₁.setTop (mkF m 0 #[.val (.ref a1), .val (.int (Int32.ofNat i1)), .val (.int (Int32.ofNat i2)), .unset, .unset] [])) t → Steps p.tables e below (s₁.setTop (entryFrame m #[(.ref a1), (.int (Int32.ofNat i1)), (.int (Int32.ofNat i2))] 5)) t := fun t k => castTop (ef_lk m a1 (Int32.ofNat i1) (Int32.ofNat i2)) k
  have go1 : ∀ t, Steps p.tables e below (s₁.setTop (mkF m 2 #[.val (.ref a1), .val (.int (Int32.ofNat i1)), .val (.int (Int32.ofNat i2)), .unset, .unset] [(.int (Int32.ofNat i1)), (.ref a1)])) t → Steps p.tables e below (s₁.setTop (entryFrame m #[(.ref a1), (.int (Int32.ofNat i1)), (.int (Int32.ofNat i2))] 5)) t := fun t k => go0 t (by
    show Steps p.tables e below (s₁.setTop (mkF m 0 #[.val (.ref a1), .val (.int (Int32.ofNat i1)), .val (.int (Int32.ofNat i2)), .unset, .unset] [])) _
    refine XS.aloadN X0.here hx rfl (hb hby lk_0) rfl rfl ?_
    show Steps p.tables e below (s₁.setTop (mkF m 1 #[.val (.ref a1), .val (.int (Int32.ofNat i1)), .val (.int (Int32.ofNat i2)), .unset, .unset] [(.ref a1)])) _
    refine XS.iloadN X0.here hx rfl (hb hby lk_1) rfl ?_
    exact k)
  obtain ⟨cq2, kq2, q2a, q2b, q2c⟩ := isOf hZ e0 E1
  obtain ⟨_, _, ⟨T2, L2, k2, n2⟩, -, X2, ⟨Lc2, hQ2, l2, y2, z2⟩, st2⟩ := X0.virtualBack hx (y := (⟨"com/example/subsumption/subsumption/reasoner/Links", "root", "(I)I"⟩ : MethodName)) (z := (⟨"com/example/subsumption/subsumption/reasoner/Links", "root", "(I)I"⟩ : MethodName)) hown (mvT hZ (hw _ (List.mem_of_getElem? (i := 22) rfl))) (mvT hZ (hw _ (List.mem_of_getElem? (i := 23) rfl))) (notFace_of_selects (args := #[]) (mvT hZ (hw _ (List.mem_of_getElem? (i := 25) rfl)))) (mvT hZ (hw _ (List.mem_of_getElem? (i := 25) rfl))) (mvT hZ (hw _ (List.mem_of_getElem? (i := 24) rfl))) (by decide) (backOf (W := 0) (rm_rt l Z a0 hw [] a1 i1 b kA P h0 n0 Z0 F1 V1 hM g2 ne1 hi1) hZ (hw _ (List.mem_of_getElem? (i := 26) rfl)) (hw _ (List.mem_of_getElem? (i := 3) rfl)) (by decide) (by decide)) q2a q2c (g := (mkF m 2 #[.val (.ref a1), .val (.int (Int32.ofNat i1)), .val (.int (Int32.ofNat i2)), .unset, .unset] [(.int (Int32.ofNat i1)), (.ref a1)])) rfl (by rw [hml]; rfl) (Steps.refl _) (argsL := [(.int (Int32.ofNat i1))]) (rest := []) (lenOf pd_0 rfl) rfl (by show 2 * 0 + _ ≤ _; exact Nat.le_of_eq rfl) (hb hby lk_2) (fun _ _ => ⟨rfl, e0, (by decide : 0 + 0 ≤ _), (by decide : 0 + 0 ≤ _)⟩)
  dsimp only [Pt.U, Pt.locs, Pt.cells, Pt.slots] at X2 l2 y2 z2 st2 hQ2
  subst l2 y2 z2
  obtain ⟨h2, e2⟩ : ∃ z, T2.heap = z := ⟨_, rfl⟩
  rw [e2] at hQ2
  obtain ⟨rfl, N2q, K2, P2, S2, V2⟩ := hQ2
  have N2 := Fr.app N0 N2q
  have go3 : ∀ t, Steps p.tables e below (T2.setTop (mkF m 5 #[.val (.ref a1), .val (.int (Int32.ofNat i1)), .val (.int (Int32.ofNat i2)), .unset, .unset] [(.int (Int32.ofNat (own_r P i1)))])) t → Steps p.tables e below (s₁.setTop (entryFrame m #[(.ref a1), (.int (Int32.ofNat i1)), (.int (Int32.ofNat i2))] 5)) t := fun t k => go1 t (st2.trans k)
  have f4 := F1.keep K2 (ninS ne1 nin0)
  have f5 := E1.keep K2
  have f6 := ((Keep.refl h0 [b])).trans K2 (allS (Or.inl (List.mem_of_getElem? (i := 0) rfl)) all0)
  have go7 : ∀ t, Steps p.tables e below (T2.setTop (mkF m 8 #[.val (.ref a1), .val (.int (Int32.ofNat i1)), .val (.int (Int32.ofNat i2)), .val (.int (Int32.ofNat (own_r P i1))), .unset] [(.int (Int32.ofNat i2)), (.ref a1)])) t → Steps p.tables e below (s₁.setTop (entryFrame m #[(.ref a1), (.int (Int32.ofNat i1)), (.int (Int32.ofNat i2))] 5)) t := fun t k => go3 t (by
    show Steps p.tables e below (T2.setTop (mkF m 5 #[.val (.ref a1), .val (.int (Int32.ofNat i1)), .val (.int (Int32.ofNat i2)), .unset, .unset] [(.int (Int32.ofNat (own_r P i1)))])) _
    refine XS.istoreN X2.here hx rfl (hb hby lk_5) rfl (l' := #[.val (.ref a1), .val (.int (Int32.ofNat i1)), .val (.int (Int32.ofNat i2)), .val (.int (Int32.ofNat (own_r P i1))), .unset]) rfl ?_
    show Steps p.tables e below (T2.setTop (mkF m 6 #[.val (.ref a1), .val (.int (Int32.ofNat i1)), .val (.int (Int32.ofNat i2)), .val (.int (Int32.ofNat (own_r P i1))), .unset] [])) _
    refine XS.aloadN X2.here hx rfl (hb hby lk_6) rfl rfl ?_
    show Steps p.tables e below (T2.setTop (mkF m 7 #[.val (.ref a1), .val (.int (Int32.ofNat i1)), .val (.int (Int32.ofNat i2)), .val (.int (Int32.ofNat (own_r P i1))), .unset] [(.ref a1)])) _
    refine XS.iloadN X2.here hx rfl (hb hby lk_7) rfl ?_
    exact k)
  obtain ⟨cq8, kq8, q8a, q8b, q8c⟩ := isOf hZ e2 f5
  obtain ⟨_, _, ⟨T8, L8, k8, n8⟩, -, X8, ⟨Lc8, hQ8, l8, y8, z8⟩, st8⟩ := X2.virtualBack hx (y := (⟨"com/example/subsumption/subsumption/reasoner/Links", "root", "(I)I"⟩ : MethodName)) (z := (⟨"com/example/subsumption/subsumption/reasoner/Links", "root", "(I)I"⟩ : MethodName)) hown (mvT hZ (hw _ (List.mem_of_getElem? (i := 22) rfl))) (mvT hZ (hw _ (List.mem_of_getElem? (i := 23) rfl))) (notFace_of_selects (args := #[]) (mvT hZ (hw _ (List.mem_of_getElem? (i := 25) rfl)))) (mvT hZ (hw _ (List.mem_of_getElem? (i := 25) rfl))) (mvT hZ (hw _ (List.mem_of_getElem? (i := 24) rfl))) (by decide) (backOf (W := 0) (rm_rt l Z a0 hw [] a1 i2 b kA P2 h2 n0 (Nat.le_trans Z0 K2.1) f4 V2 S2.1 g2 ne1 hi2) hZ (hw _ (List.mem_of_getElem? (i := 26) rfl)) (hw _ (List.mem_of_getElem? (i := 3) rfl)) (by decide) (by decide)) q8a q8c (g := (mkF m 8 #[.val (.ref a1), .val (.int (Int32.ofNat i1)), .val (.int (Int32.ofNat i2)), .val (.int (Int32.ofNat (own_r P i1))), .unset] [(.int (Int32.ofNat i2)), (.ref a1)])) rfl (by rw [hml]; rfl) (Steps.refl _) (argsL := [(.int (Int32.ofNat i2))]) (rest := []) (lenOf pd_0 rfl) rfl (by show 2 * 0 + _ ≤ _; exact Nat.le_of_eq rfl) (hb hby lk_8) (fun _ _ => ⟨rfl, e2, (by decide : 0 + 0 ≤ _), (by decide : 0 + 0 ≤ _)⟩)
  dsimp only [Pt.U, Pt.locs, Pt.cells, Pt.slots] at X8 l8 y8 z8 st8 hQ8
  subst l8 y8 z8
  obtain ⟨h8, e8⟩ : ∃ z, T8.heap = z := ⟨_, rfl⟩
  rw [e8] at hQ8
  obtain ⟨rfl, N8q, K8, P8, S8, V8⟩ := hQ8
  have N8 := Fr.app N2 N8q
  have go9 : ∀ t, Steps p.tables e below (T8.setTop (mkF m 11 #[.val (.ref a1), .val (.int (Int32.ofNat i1)), .val (.int (Int32.ofNat i2)), .val (.int (Int32.ofNat (own_r P i1))), .unset] [(.int (Int32.ofNat (own_r P2 i2)))])) t → Steps p.tables e below (s₁.setTop (entryFrame m #[(.ref a1), (.int (Int32.ofNat i1)), (.int (Int32.ofNat i2))] 5)) t := fun t k => go7 t (st8.trans k)
  have f10 := f4.keep K8 (ninS ne1 nin0)
  have f11 := f5.keep K8
  have f12 := (f6).trans K8 (allS (Or.inl (List.mem_of_getElem? (i := 0) rfl)) all0)
  have go13 : ∀ t, Steps p.tables e below (T8.setTop (mkF m 14 #[.val (.ref a1), .val (.int (Int32.ofNat i1)), .val (.int (Int32.ofNat i2)), .val (.int (Int32.ofNat (own_r P i1))), .val (.int (Int32.ofNat (own_r P2 i2)))] [(.ref a1)])) t → Steps p.tables e below (s₁.setTop (entryFrame m #[(.ref a1), (.int (Int32.ofNat i1)), (.int (Int32.ofNat i2))] 5)) t := fun t k => go9 t (by
    show Steps p.tables e below (T8.setTop (mkF m 11 #[.val (.ref a1), .val (.int (Int32.ofNat i1)), .val (.int (Int32.ofNat i2)), .val (.int (Int32.ofNat (own_r P i1))), .unset] [(.int (Int32.ofNat (own_r P2 i2)))])) _
    refine XS.istore X8.here hx rfl (hb hby lk_11) rfl (l' := #[.val (.ref a1), .val (.int (Int32.ofNat i1)), .val (.int (Int32.ofNat i2)), .val (.int (Int32.ofNat (own_r P i1))), .val (.int (Int32.ofNat (own_r P2 i2)))]) rfl ?_
    show Steps p.tables e below (T8.setTop (mkF m 13 #[.val (.ref a1), .val (.int (Int32.ofNat i1)), .val (.int (Int32.ofNat i2)), .val (.int (Int32.ofNat (own_r P i1))), .val (.int (Int32.ofNat (own_r P2 i2)))] [])) _
    refine XS.aloadN X8.here hx rfl (hb hby lk_13) rfl rfl ?_
    exact k)
  obtain ⟨T14, X14, e14, st14⟩ := getF X8 hx hZ hown (host := "") (Or.inl (hw _ (List.mem_of_getElem? (i := 10) rfl))) Via.refl e8 f10 (g := (mkF m 14 #[.val (.ref a1), .val (.int (Int32.ofNat i1)), .val (.int (Int32.ofNat i2)), .val (.int (Int32.ofNat (own_r P i1))), .val (.int (Int32.ofNat (own_r P2 i2)))] [(.ref a1)])) rfl rfl (hb hby lk_14)
  have go15 : ∀ t, Steps p.tables e below (T14.setTop (mkF m 17 #[.val (.ref a1), .val (.int (Int32.ofNat i1)), .val (.int (Int32.ofNat i2)), .val (.int (Int32.ofNat (own_r P i1))), .val (.int (Int32.ofNat (own_r P2 i2)))] [(.ref b)])) t → Steps p.tables e below (s₁.setTop (entryFrame m #[(.ref a1), (.int (Int32.ofNat i1)), (.int (Int32.ofNat i2))] 5)) t := fun t k => go13 t (st14 t k)
  have go16 : ∀ t, Steps p.tables e below (T14.setTop (mkF m 20 #[.val (.ref a1), .val (.int (Int32.ofNat i1)), .val (.int (Int32.ofNat i2)), .val (.int (Int32.ofNat (own_r P i1))), .val (.int (Int32.ofNat (own_r P2 i2)))] [(.int (Int32.ofNat (own_r P2 i2))), (.int (Int32.ofNat (own_r P i1))), (.ref b)])) t → Steps p.tables e below (s₁.setTop (entryFrame m #[(.ref a1), (.int (Int32.ofNat i1)), (.int (Int32.ofNat i2))] 5)) t := fun t k => go15 t (by
    show Steps p.tables e below (T14.setTop (mkF m 17 #[.val (.ref a1), .val (.int (Int32.ofNat i1)), .val (.int (Int32.ofNat i2)), .val (.int (Int32.ofNat (own_r P i1))), .val (.int (Int32.ofNat (own_r P2 i2)))] [(.ref b)])) _
    refine XS.iloadN X14.here hx rfl (hb hby lk_17) rfl ?_
    show Steps p.tables e below (T14.setTop (mkF m 18 #[.val (.ref a1), .val (.int (Int32.ofNat i1)), .val (.int (Int32.ofNat i2)), .val (.int (Int32.ofNat (own_r P i1))), .val (.int (Int32.ofNat (own_r P2 i2)))] [(.int (Int32.ofNat (own_r P i1))), (.ref b)])) _
    refine XS.iload X14.here hx rfl (hb hby lk_18) rfl ?_
    exact k)
  obtain ⟨_, _, ⟨T17, L17, k17, n17⟩, -, X17, ⟨Lc17, hQ17, l17, y17, z17⟩, st17⟩ := Jvm.LawKit.callS X14 hx (y := (⟨"java/lang/Math", "max", "(II)I"⟩ : MethodName)) hown (mvT hZ (hw _ (List.mem_of_getElem? (i := 27) rfl))) (mvT hZ (hw _ (List.mem_of_getElem? (i := 28) rfl))) (mvT hZ (hw _ (List.mem_of_getElem? (i := 29) rfl))) (mvT hZ (hw _ (List.mem_of_getElem? (i := 30) rfl))) (by decide) (backOf (W := 1) (rm_mx l Z a0 hw [] (Int32.ofNat (own_r P i1)) (Int32.ofNat (own_r P2 i2)) h8 n0 (Nat.le_trans (Nat.le_trans Z0 K2.1) K8.1) ) hZ (hw _ (List.mem_of_getElem? (i := 30) rfl)) (hw _ (List.mem_of_getElem? (i := 29) rfl)) (by decide) (by decide)) (g := (mkF m 20 #[.val (.ref a1), .val (.int (Int32.ofNat i1)), .val (.int (Int32.ofNat i2)), .val (.int (Int32.ofNat (own_r P i1))), .val (.int (Int32.ofNat (own_r P2 i2)))] [(.int (Int32.ofNat (own_r P2 i2))), (.int (Int32.ofNat (own_r P i1))), (.ref b)])) rfl (by rw [hml]; rfl) (argsL := [(.int (Int32.ofNat (own_r P i1))), (.int (Int32.ofNat (own_r P2 i2)))]) (rest := [(.ref b)]) (lenOf pd_1 rfl) rfl (by show 2 * 0 + _ ≤ _; exact Nat.le_of_eq rfl) (hb hby lk_20) (fun _ _ => ⟨rfl, e14, (by decide : 0 + 0 ≤ _), (by decide : 0 + 0 ≤ _)⟩)
  dsimp only [Pt.U, Pt.locs, Pt.cells, Pt.slots] at X17 l17 y17 z17 st17 hQ17
  subst l17 y17 z17
  obtain ⟨rfl, N17q, e17⟩ := hQ17
  have N17 := Fr.app N8 N17q
  have go18 : ∀ t, Steps p.tables e below (T17.setTop (mkF m 23 #[.val (.ref a1), .val (.int (Int32.ofNat i1)), .val (.int (Int32.ofNat i2)), .val (.int (Int32.ofNat (own_r P i1))), .val (.int (Int32.ofNat (own_r P2 i2)))] [(.int (own_max (Int32.ofNat (own_r P i1)) (Int32.ofNat (own_r P2 i2)))), (.ref b)])) t → Steps p.tables e below (s₁.setTop (entryFrame m #[(.ref a1), (.int (Int32.ofNat i1)), (.int (Int32.ofNat i2))] 5)) t := fun t k => go16 t (st17 t k)
  rw [own_maxn (own_rlt hM hi1) (own_rlt S2.1 hi2)] at go18
  have go19 : ∀ t, Steps p.tables e below (T17.setTop (mkF m 26 #[.val (.ref a1), .val (.int (Int32.ofNat i1)), .val (.int (Int32.ofNat i2)), .val (.int (Int32.ofNat (own_r P i1))), .val (.int (Int32.ofNat (own_r P2 i2)))] [(.int (Int32.ofNat (own_r P2 i2))), (.int (Int32.ofNat (own_r P i1))), (.int (Int32.ofNat (max (own_r P i1) (own_r P2 i2)))), (.ref b)])) t → Steps p.tables e below (s₁.setTop (entryFrame m #[(.ref a1), (.int (Int32.ofNat i1)), (.int (Int32.ofNat i2))] 5)) t := fun t k => go18 t (by
    show Steps p.tables e below (T17.setTop (mkF m 23 #[.val (.ref a1), .val (.int (Int32.ofNat i1)), .val (.int (Int32.ofNat i2)), .val (.int (Int32.ofNat (own_r P i1))), .val (.int (Int32.ofNat (own_r P2 i2)))] [(.int (Int32.ofNat (max (own_r P i1) (own_r P2 i2)))), (.ref b)])) _
    refine XS.iloadN X17.here hx rfl (hb hby lk_23) rfl ?_
    show Steps p.tables e below (T17.setTop (mkF m 24 #[.val (.ref a1), .val (.int (Int32.ofNat i1)), .val (.int (Int32.ofNat i2)), .val (.int (Int32.ofNat (own_r P i1))), .val (.int (Int32.ofNat (own_r P2 i2)))] [(.int (Int32.ofNat (own_r P i1))), (.int (Int32.ofNat (max (own_r P i1) (own_r P2 i2)))), (.ref b)])) _
    refine XS.iload X17.here hx rfl (hb hby lk_24) rfl ?_
    exact k)
  obtain ⟨_, _, ⟨T20, L20, k20, n20⟩, -, X20, ⟨Lc20, hQ20, l20, y20, z20⟩, st20⟩ := Jvm.LawKit.callS X17 hx (y := (⟨"java/lang/Math", "min", "(II)I"⟩ : MethodName)) hown (mvT hZ (hw _ (List.mem_of_getElem? (i := 31) rfl))) (mvT hZ (hw _ (List.mem_of_getElem? (i := 32) rfl))) (mvT hZ (hw _ (List.mem_of_getElem? (i := 29) rfl))) (mvT hZ (hw _ (List.mem_of_getElem? (i := 33) rfl))) (by decide) (backOf (W := 2) (rm_mn l Z a0 hw [] (Int32.ofNat (own_r P i1)) (Int32.ofNat (own_r P2 i2)) h8 n0 (Nat.le_trans (Nat.le_trans Z0 K2.1) K8.1) ) hZ (hw _ (List.mem_of_getElem? (i := 33) rfl)) (hw _ (List.mem_of_getElem? (i := 29) rfl)) (by decide) (by decide)) (g := (mkF m 26 #[.val (.ref a1), .val (.int (Int32.ofNat i1)), .val (.int (Int32.ofNat i2)), .val (.int (Int32.ofNat (own_r P i1))), .val (.int (Int32.ofNat (own_r P2 i2)))] [(.int (Int32.ofNat (own_r P2 i2))), (.int (Int32.ofNat (own_r P i1))), (.int (Int32.ofNat (max (own_r P i1) (own_r P2 i2)))), (.ref b)])) rfl (by rw [hml]; rfl) (argsL := [(.int (Int32.ofNat (own_r P i1))), (.int (Int32.ofNat (own_r P2 i2)))]) (rest := [(.int (Int32.ofNat (max (own_r P i1) (own_r P2 i2)))), (.ref b)]) (lenOf pd_1 rfl) rfl (by show 2 * 0 + _ ≤ _; exact Nat.le_of_eq rfl) (hb hby lk_26) (fun _ _ => ⟨rfl, e17, (by decide : 0 + 0 ≤ _), (by decide : 0 + 0 ≤ _)⟩)
  dsimp only [Pt.U, Pt.locs, Pt.cells, Pt.slots] at X20 l20 y20 z20 st20 hQ20
  subst l20 y20 z20
  obtain ⟨rfl, N20q, e20⟩ := hQ20
  have N20 := Fr.app N17 N20q
  have go21 : ∀ t, Steps p.tables e below (T20.setTop (mkF m 29 #[.val (.ref a1), .val (.int (Int32.ofNat i1)), .val (.int (Int32.ofNat i2)), .val (.int (Int32.ofNat (own_r P i1))), .val (.int (Int32.ofNat (own_r P2 i2)))] [(.int (own_min (Int32.ofNat (own_r P i1)) (Int32.ofNat (own_r P2 i2)))), (.int (Int32.ofNat (max (own_r P i1) (own_r P2 i2)))), (.ref b)])) t → Steps p.tables e below (s₁.setTop (entryFrame m #[(.ref a1), (.int (Int32.ofNat i1)), (.int (Int32.ofNat i2))] 5)) t := fun t k => go19 t (st20 t k)
  rw [own_minn (own_rlt hM hi1) (own_rlt S2.1 hi2)] at go21
  obtain ⟨cl22, Ar22, q22, S22, M22, H22, G22⟩ := id V8
  obtain ⟨T22, h22, X22, e22, W22, st22⟩ := stI X20 hx hZ e20 Ar22 (j := (Int32.ofNat (max (own_r P i1) (own_r P2 i2)))) (x := (Int32.ofNat (min (own_r P i1) (own_r P2 i2)))) (inb_of S22 (own_ix (own_max5 (own_rlt hM hi1) (own_rlt S2.1 hi2)))) (g := (mkF m 29 #[.val (.ref a1), .val (.int (Int32.ofNat i1)), .val (.int (Int32.ofNat i2)), .val (.int (Int32.ofNat (own_r P i1))), .val (.int (Int32.ofNat (own_r P2 i2)))] [(.int (Int32.ofNat (min (own_r P i1) (own_r P2 i2)))), (.int (Int32.ofNat (max (own_r P i1) (own_r P2 i2)))), (.ref b)])) rfl rfl (hb hby lk_29)
  obtain ⟨P22, hP22⟩ : ∃ z, z = List.set P8 (max (own_r P i1) (own_r P2 i2)) (min (own_r P i1) (own_r P2 i2)) := ⟨_, rfl⟩
  have ln22 : P22.length = 5 := by rw [hP22, List.length_set]; exact (own_len S8.1)
  have V22 : Arv Z h22 b kA .int (5 : Int32) (own_pv P22) (.int (0 : Int32)) := by rw [hP22, own_pvset]; exact Arv.set Ar22 q22 S22 M22 H22 G22 rfl W22 (max (own_r P i1) (own_r P2 i2)) (own_tn (own_max5 (own_rlt hM hi1) (own_rlt S2.1 hi2))) (by rw [own_pvlen, (own_len S8.1)]; exact (own_max5 (own_rlt hM hi1) (own_rlt S2.1 hi2)))
  have N22 := Fr.snoc X22 N20 g2
  have f23 := f10.other W22 (Or.inl ne1)
  have f24 := f11.wr W22
  have f25 := (f12).wr W22 (Or.inl (List.mem_of_getElem? (i := 0) rfl))
  have go26 : ∀ t, Steps p.tables e below (T22.setTop (mkF m 30 #[.val (.ref a1), .val (.int (Int32.ofNat i1)), .val (.int (Int32.ofNat i2)), .val (.int (Int32.ofNat (own_r P i1))), .val (.int (Int32.ofNat (own_r P2 i2)))] [])) t → Steps p.tables e below (s₁.setTop (entryFrame m #[(.ref a1), (.int (Int32.ofNat i1)), (.int (Int32.ofNat i2))] 5)) t := fun t k => go21 t (st22 t k)
  obtain ⟨fs, hr, hrun, hended, hW, hsame⟩ := X22.leave (v := none) (fun _ => rfl)
  refine ⟨_, _, go26 _ ?_, hrun, hended, _, _, rfl, ?_, ⟨_, rfl⟩, hW, hsame.mono (by decide) (by decide)⟩
  · exact X22.returnOut hx Bd.returns (hb hby lk_30) hr
  · show Qlk Z i1 i2 b kA P h0 n0 _ T22.heap _
    rw [e22]
    exact ⟨rfl, N22, f25, P22, (by rw [hP22]; exact own_link S2 S8 hi1 hi2), V22⟩
theorem own_set_ne {L : List Nat} {i j x : Nat} (h : i ≠ j) : own_g (List.set L i x) j = own_g L j := by
  unfold own_g
  rw [List.getD_eq_getElem?_getD, List.getD_eq_getElem?_getD, List.getElem?_set_ne h]
theorem own_up_ne {L : List Nat} {i j x lo hi : Nat} (h : i ≠ j) : own_up (List.set L i x) j lo hi = own_up L j lo hi := by
  unfold own_up
  rw [own_set_ne h]
/-- five stores, each of what the list before it says: as if all were read off the first list -/
theorem own_chain {L L1 L2 L3 L4 L5 : List Nat} {lo hi : Nat} (h1 : L1 = List.set L 0 (own_up L 0 lo hi)) (h2 : L2 = List.set L1 1 (own_up L1 1 lo hi)) (h3 : L3 = List.set L2 2 (own_up L2 2 lo hi)) (h4 : L4 = List.set L3 3 (own_up L3 3 lo hi)) (h5 : L5 = List.set L4 4 (own_up L4 4 lo hi)) : L5 = own_all5 L lo hi := by
  have u1 : own_up L1 1 lo hi = own_up L 1 lo hi := by rw [h1, own_up_ne (show 0 ≠ 1 from by decide)]
  have u2 : own_up L2 2 lo hi = own_up L 2 lo hi := by rw [h2, own_up_ne (show 1 ≠ 2 from by decide), h1, own_up_ne (show 0 ≠ 2 from by decide)]
  have u3 : own_up L3 3 lo hi = own_up L 3 lo hi := by rw [h3, own_up_ne (show 2 ≠ 3 from by decide), h2, own_up_ne (show 1 ≠ 3 from by decide), h1, own_up_ne (show 0 ≠ 3 from by decide)]
  have u4 : own_up L4 4 lo hi = own_up L 4 lo hi := by rw [h4, own_up_ne (show 3 ≠ 4 from by decide), h3, own_up_ne (show 2 ≠ 4 from by decide), h2, own_up_ne (show 1 ≠ 4 from by decide), h1, own_up_ne (show 0 ≠ 4 from by decide)]
  rw [h5, u4, h4, u3, h3, u2, h2, u1, h1]
  rfl
theorem own_lab5 {P : List Nat} (h : P ∈ own_all) {i : Nat} (hi : i < 5) : own_g (own_labs P) i < 5 := by rw [own_lg P hi]; exact own_rlt h hi
theorem sp_0 : decode method_3_code 0 = .ok (.iload_n 2, 1) := by decide +kernel
theorem sp_1 : decode method_3_code 1 = .ok (.ldc 23, 2) := by decide +kernel
theorem sp_3 : decode method_3_code 3 = .ok (.iand, 1) := by decide +kernel
theorem sp_4 : decode method_3_code 4 = .ok (.iconst 5, 1) := by decide +kernel
theorem sp_5 : decode method_3_code 5 = .ok (.irem, 1) := by decide +kernel
theorem sp_6 : decode method_3_code 6 = .ok (.istore_n 3, 1) := by decide +kernel
theorem sp_7 : decode method_3_code 7 = .ok (.iload_n 2, 1) := by decide +kernel
theorem sp_8 : decode method_3_code 8 = .ok (.bipush 16, 2) := by decide +kernel
theorem sp_10 : decode method_3_code 10 = .ok (.iushr, 1) := by decide +kernel
theorem sp_11 : decode method_3_code 11 = .ok (.iconst 5, 1) := by decide +kernel
theorem sp_12 : decode method_3_code 12 = .ok (.irem, 1) := by decide +kernel
theorem sp_13 : decode method_3_code 13 = .ok (.istore 4, 2) := by decide +kernel
theorem sp_15 : decode method_3_code 15 = .ok (.aload_n 0, 1) := by decide +kernel
theorem sp_16 : decode method_3_code 16 = .ok (.iload_n 3, 1) := by decide +kernel
theorem sp_17 : decode method_3_code 17 = .ok (.iload 4, 2) := by decide +kernel
theorem sp_19 : decode method_3_code 19 = .ok (.invokevirtual 24, 3) := by decide +kernel
theorem sp_22 : decode method_3_code 22 = .ok (.aload_n 1, 1) := by decide +kernel
theorem sp_23 : decode method_3_code 23 = .ok (.iload_n 3, 1) := by decide +kernel
theorem sp_24 : decode method_3_code 24 = .ok (.iaload, 1) := by decide +kernel
theorem sp_25 : decode method_3_code 25 = .ok (.istore 5, 2) := by decide +kernel
theorem sp_27 : decode method_3_code 27 = .ok (.aload_n 1, 1) := by decide +kernel
theorem sp_28 : decode method_3_code 28 = .ok (.iload 4, 2) := by decide +kernel
theorem sp_30 : decode method_3_code 30 = .ok (.iaload, 1) := by decide +kernel
theorem sp_31 : decode method_3_code 31 = .ok (.istore 6, 2) := by decide +kernel
theorem sp_33 : decode method_3_code 33 = .ok (.iload 5, 2) := by decide +kernel
theorem sp_35 : decode method_3_code 35 = .ok (.iload 6, 2) := by decide +kernel
theorem sp_37 : decode method_3_code 37 = .ok (.invokestatic 28, 3) := by decide +kernel
theorem sp_40 : decode method_3_code 40 = .ok (.istore 7, 2) := by decide +kernel
theorem sp_42 : decode method_3_code 42 = .ok (.iload 5, 2) := by decide +kernel
theorem sp_44 : decode method_3_code 44 = .ok (.iload 6, 2) := by decide +kernel
theorem sp_46 : decode method_3_code 46 = .ok (.invokestatic 34, 3) := by decide +kernel
theorem sp_49 : decode method_3_code 49 = .ok (.istore 8, 2) := by decide +kernel
theorem sp_51 : decode method_3_code 51 = .ok (.aload_n 1, 1) := by decide +kernel
theorem sp_52 : decode method_3_code 52 = .ok (.iconst 0, 1) := by decide +kernel
theorem sp_53 : decode method_3_code 53 = .ok (.aload_n 1, 1) := by decide +kernel
theorem sp_54 : decode method_3_code 54 = .ok (.iconst 0, 1) := by decide +kernel
theorem sp_55 : decode method_3_code 55 = .ok (.iaload, 1) := by decide +kernel
theorem sp_56 : decode method_3_code 56 = .ok (.iload 8, 2) := by decide +kernel
theorem sp_58 : decode method_3_code 58 = .ok (.if_icmp .ne 8, 3) := by decide +kernel
theorem sp_61 : decode method_3_code 61 = .ok (.iload 7, 2) := by decide +kernel
theorem sp_63 : decode method_3_code 63 = .ok (.goto 6, 3) := by decide +kernel
theorem sp_66 : decode method_3_code 66 = .ok (.aload_n 1, 1) := by decide +kernel
theorem sp_67 : decode method_3_code 67 = .ok (.iconst 0, 1) := by decide +kernel
theorem sp_68 : decode method_3_code 68 = .ok (.iaload, 1) := by decide +kernel
theorem sp_69 : decode method_3_code 69 = .ok (.iastore, 1) := by decide +kernel
theorem sp_70 : decode method_3_code 70 = .ok (.aload_n 1, 1) := by decide +kernel
theorem sp_71 : decode method_3_code 71 = .ok (.iconst 1, 1) := by decide +kernel
theorem sp_72 : decode method_3_code 72 = .ok (.aload_n 1, 1) := by decide +kernel
theorem sp_73 : decode method_3_code 73 = .ok (.iconst 1, 1) := by decide +kernel
theorem sp_74 : decode method_3_code 74 = .ok (.iaload, 1) := by decide +kernel
theorem sp_75 : decode method_3_code 75 = .ok (.iload 8, 2) := by decide +kernel
theorem sp_77 : decode method_3_code 77 = .ok (.if_icmp .ne 8, 3) := by decide +kernel
theorem sp_80 : decode method_3_code 80 = .ok (.iload 7, 2) := by decide +kernel
theorem sp_82 : decode method_3_code 82 = .ok (.goto 6, 3) := by decide +kernel
theorem sp_85 : decode method_3_code 85 = .ok (.aload_n 1, 1) := by decide +kernel
theorem sp_86 : decode method_3_code 86 = .ok (.iconst 1, 1) := by decide +kernel
theorem sp_87 : decode method_3_code 87 = .ok (.iaload, 1) := by decide +kernel
theorem sp_88 : decode method_3_code 88 = .ok (.iastore, 1) := by decide +kernel
theorem sp_89 : decode method_3_code 89 = .ok (.aload_n 1, 1) := by decide +kernel
theorem sp_90 : decode method_3_code 90 = .ok (.iconst 2, 1) := by decide +kernel
theorem sp_91 : decode method_3_code 91 = .ok (.aload_n 1, 1) := by decide +kernel
theorem sp_92 : decode method_3_code 92 = .ok (.iconst 2, 1) := by decide +kernel
theorem sp_93 : decode method_3_code 93 = .ok (.iaload, 1) := by decide +kernel
theorem sp_94 : decode method_3_code 94 = .ok (.iload 8, 2) := by decide +kernel
theorem sp_96 : decode method_3_code 96 = .ok (.if_icmp .ne 8, 3) := by decide +kernel
theorem sp_99 : decode method_3_code 99 = .ok (.iload 7, 2) := by decide +kernel
theorem sp_101 : decode method_3_code 101 = .ok (.goto 6, 3) := by decide +kernel
theorem sp_104 : decode method_3_code 104 = .ok (.aload_n 1, 1) := by decide +kernel
theorem sp_105 : decode method_3_code 105 = .ok (.iconst 2, 1) := by decide +kernel
theorem sp_106 : decode method_3_code 106 = .ok (.iaload, 1) := by decide +kernel
theorem sp_107 : decode method_3_code 107 = .ok (.iastore, 1) := by decide +kernel
theorem sp_108 : decode method_3_code 108 = .ok (.aload_n 1, 1) := by decide +kernel
theorem sp_109 : decode method_3_code 109 = .ok (.iconst 3, 1) := by decide +kernel
theorem sp_110 : decode method_3_code 110 = .ok (.aload_n 1, 1) := by decide +kernel
theorem sp_111 : decode method_3_code 111 = .ok (.iconst 3, 1) := by decide +kernel
theorem sp_112 : decode method_3_code 112 = .ok (.iaload, 1) := by decide +kernel
theorem sp_113 : decode method_3_code 113 = .ok (.iload 8, 2) := by decide +kernel
theorem sp_115 : decode method_3_code 115 = .ok (.if_icmp .ne 8, 3) := by decide +kernel
theorem sp_118 : decode method_3_code 118 = .ok (.iload 7, 2) := by decide +kernel
theorem sp_120 : decode method_3_code 120 = .ok (.goto 6, 3) := by decide +kernel
theorem sp_123 : decode method_3_code 123 = .ok (.aload_n 1, 1) := by decide +kernel
theorem sp_124 : decode method_3_code 124 = .ok (.iconst 3, 1) := by decide +kernel
theorem sp_125 : decode method_3_code 125 = .ok (.iaload, 1) := by decide +kernel
theorem sp_126 : decode method_3_code 126 = .ok (.iastore, 1) := by decide +kernel
theorem sp_127 : decode method_3_code 127 = .ok (.aload_n 1, 1) := by decide +kernel
theorem sp_128 : decode method_3_code 128 = .ok (.iconst 4, 1) := by decide +kernel
theorem sp_129 : decode method_3_code 129 = .ok (.aload_n 1, 1) := by decide +kernel
theorem sp_130 : decode method_3_code 130 = .ok (.iconst 4, 1) := by decide +kernel
theorem sp_131 : decode method_3_code 131 = .ok (.iaload, 1) := by decide +kernel
theorem sp_132 : decode method_3_code 132 = .ok (.iload 8, 2) := by decide +kernel
theorem sp_134 : decode method_3_code 134 = .ok (.if_icmp .ne 8, 3) := by decide +kernel
theorem sp_137 : decode method_3_code 137 = .ok (.iload 7, 2) := by decide +kernel
theorem sp_139 : decode method_3_code 139 = .ok (.goto 6, 3) := by decide +kernel
theorem sp_142 : decode method_3_code 142 = .ok (.aload_n 1, 1) := by decide +kernel
theorem sp_143 : decode method_3_code 143 = .ok (.iconst 4, 1) := by decide +kernel
theorem sp_144 : decode method_3_code 144 = .ok (.iaload, 1) := by decide +kernel
theorem sp_145 : decode method_3_code 145 = .ok (.iastore, 1) := by decide +kernel
theorem sp_146 : decode method_3_code 146 = .ok (.return_, 1) := by decide +kernel
theorem pn_sp : plainName "com/example/subsumption/subsumption/reasoner/LinksRootPinLaw" = true := by first | (simp [plainName, overriddenIn]; done) | decide +kernel
theorem ef_sp (m : MethodId) (a1 : Addr) (a2 : Addr) (p3 : Int32) : entryFrame m #[(.ref a1), (.ref a2), (.int p3)] 9 = mkF m 0 #[.val (.ref a1), .val (.ref a2), .val (.int p3), .unset, .unset, .unset, .unset, .unset, .unset] [] := by first | (simp [entryFrame, mkF, argsToLocals, Value.category]; done) | rfl
def Qsp (Z : State) (a2 b : Addr) (kA kB : ClassId) (h0 : Heap) (n0 : Nat) (v : Option Value) (h : Heap) (L : List Loc) : Prop := v = none ∧ Fr n0 L ∧ Keep h0 h [b, a2] ∧ ∃ P', P' ∈ own_all ∧ Arv Z h b kA .int (5 : Int32) (own_pv P') (.int (0 : Int32)) ∧ Arv Z h a2 kB .int (5 : Int32) (own_pv (own_labs P')) (.int (0 : Int32))
set_option maxRecDepth 65536 in
set_option maxHeartbeats 40000000 in
theorem rm_sp (l : Launch) (Z : State) (a0 : Array Value) (hw : ∀ d ∈ tables_1, d.before a0 Z = true) (ws : List Jvm.Cond) (a1 : Addr) (a2 : Addr) (p3 : Int32) (b : Addr) (kA : ClassId) (P : List Nat) (kB : ClassId) (h0 : Heap) (n0 : Nat) (Z0 : n0 ≤ h0.size) (E1 : Exa Z h0 a1 "com/example/subsumption/subsumption/reasoner/Links") (F1 : Fld Z h0 a1 "com/example/subsumption/subsumption/reasoner/Links" "parent" "[I" (.ref b)) (V1 : Arv Z h0 b kA .int (5 : Int32) (own_pv P) (.int (0 : Int32))) (hM : P ∈ own_all) (g2 : n0 ≤ b) (ne1 : a1 ≠ b) (V2 : Arv Z h0 a2 kB .int (5 : Int32) (own_pv (own_labs P)) (.int (0 : Int32))) (g3 : n0 ≤ a2) (ne2 : a1 ≠ a2) (ne3 : b ≠ a2) :
    MetFree l (⟨"com/example/subsumption/subsumption/reasoner/LinksRootPinLaw", "step", "(Lcom/example/subsumption/subsumption/reasoner/Links;[II)V"⟩ : MethodName) (head1 (Jvm.Cond.code (⟨"com/example/subsumption/subsumption/reasoner/LinksRootPinLaw", "step", "(Lcom/example/subsumption/subsumption/reasoner/Links;[II)V"⟩ : MethodName) method_3_code 9 none :: ws) ({ frames := 2, cells := 0, slots := 0, locals := 31 } : Room)) (fun a U => a = #[(.ref a1), (.ref a2), (.int p3)] ∧ Z.Warmed39 U.vm ∧ U.heap = h0) (fun _ _ _ _ _ => True) (fun _ U o U' => ∃ v L, o = .returned v ∧ Qsp Z a2 b kA kB h0 n0 v U'.heap L ∧ FrameEnd U o U' L ({ frames := 2, cells := 0, slots := 0, locals := 31 } : Room).cells ({ frames := 2, cells := 0, slots := 0, locals := 31 } : Room).slots) := by
  refine MetFree.of_bodySF (plainFor_of_name pn_sp) hisR ?_
  intro p e s m args below meth c s₁ Bd hml0 hP hK
  obtain ⟨rfl, hZ, hh⟩ := hP
  have hx := Bd.exec
  have hby := Bd.bytes
  have hml : c.maxLocals = 9 := hml0
  have hown : s.vm.findClass "com/example/subsumption/subsumption/reasoner/LinksRootPinLaw" = some m.cls := findClass_of_methodNamed Bd.named
  have hnm := (name_of_methodNamed Bd.named Bd.method).1
  have X0 : Stand p l e ({ frames := 2, cells := 0, slots := 0, locals := 31 } : Room) s m #[(.ref a1), (.ref a2), (.int p3)] below meth c s₁ [] 0 0 := Stand.of_body Bd
  have e0 : s₁.heap = h0 := by rw [← hh, Bd.state]; rfl
  have N0 := Fr.nil n0
  have go0 : ∀ t, Steps p.tables e below (s₁.setTop (mkF m 0 #[.val (.ref a1), .val (.ref a2), .val (.int p3), .unset, .unset, .unset, .unset, .unset, .unset] [])) t → Steps p.tables e below (s₁.setTop (entryFrame m #[(.ref a1), (.ref a2), (.int p3)] 9)) t := fun t k => castTop (ef_sp m a1 a2 p3) k
  have go1 : ∀ t, Steps p.tables e below (s₁.setTop (mkF m 7 #[.val (.ref a1), .val (.ref a2), .val (.int p3), .val (.int ((p3 &&& (65535 : Int32)) % (5 : Int32))), .unset, .unset, .unset, .unset, .unset] [])) t → Steps p.tables e below (s₁.setTop (entryFrame m #[(.ref a1), (.ref a2), (.int p3)] 9)) t := fun t k => go0 t (by
    show Steps p.tables e below (s₁.setTop (mkF m 0 #[.val (.ref a1), .val (.ref a2), .val (.int p3), .unset, .unset, .unset, .unset, .unset, .unset] [])) _
    refine XS.iloadN X0.here hx rfl (hb hby sp_0) rfl ?_
    show Steps p.tables e below (s₁.setTop (mkF m 1 #[.val (.ref a1), .val (.ref a2), .val (.int p3), .unset, .unset, .unset, .unset, .unset, .unset] [(.int p3)])) _
    refine X0.ldcI hx hown (mvT hZ (hw _ (List.mem_of_getElem? (i := 16) rfl))) rfl (hb hby sp_1) ?_
    show Steps p.tables e below (s₁.setTop (mkF m 3 #[.val (.ref a1), .val (.ref a2), .val (.int p3), .unset, .unset, .unset, .unset, .unset, .unset] [(.int (65535 : Int32)), (.int p3)])) _
    refine XS.iand X0.here hx rfl (hb hby sp_3) rfl ?_
    show Steps p.tables e below (s₁.setTop (mkF m 4 #[.val (.ref a1), .val (.ref a2), .val (.int p3), .unset, .unset, .unset, .unset, .unset, .unset] [(.int (p3 &&& (65535 : Int32)))])) _
    refine XS.iconst X0.here hx rfl (hb hby sp_4) ?_
    show Steps p.tables e below (s₁.setTop (mkF m 5 #[.val (.ref a1), .val (.ref a2), .val (.int p3), .unset, .unset, .unset, .unset, .unset, .unset] [(.int (5 : Int32)), (.int (p3 &&& (65535 : Int32)))])) _
    refine iremM X0 hx rfl (hb hby sp_5) rfl (by decide) ?_
    show Steps p.tables e below (s₁.setTop (mkF m 6 #[.val (.ref a1), .val (.ref a2), .val (.int p3), .unset, .unset, .unset, .unset, .unset, .unset] [(.int ((p3 &&& (65535 : Int32)) % (5 : Int32)))])) _
    refine XS.istoreN X0.here hx rfl (hb hby sp_6) rfl (l' := #[.val (.ref a1), .val (.ref a2), .val (.int p3), .val (.int ((p3 &&& (65535 : Int32)) % (5 : Int32))), .unset, .unset, .unset, .unset, .unset]) rfl ?_
    exact k)
  obtain ⟨i1, hi1, hqi1⟩ := own_mod (p3 &&& (65535 : Int32)) (own_and _ _ (by decide))
  rw [hqi1] at go1
  have go2 : ∀ t, Steps p.tables e below (s₁.setTop (mkF m 15 #[.val (.ref a1), .val (.ref a2), .val (.int p3), .val (.int (Int32.ofNat i1)), .val (.int (((p3.toUInt32 >>> ((16 : Int32) &&& 31).toUInt32).toInt32) % (5 : Int32))), .unset, .unset, .unset, .unset] [])) t → Steps p.tables e below (s₁.setTop (entryFrame m #[(.ref a1), (.ref a2), (.int p3)] 9)) t := fun t k => go1 t (by
    show Steps p.tables e below (s₁.setTop (mkF m 7 #[.val (.ref a1), .val (.ref a2), .val (.int p3), .val (.int (Int32.ofNat i1)), .unset, .unset, .unset, .unset, .unset] [])) _
    refine XS.iloadN X0.here hx rfl (hb hby sp_7) rfl ?_
    show Steps p.tables e below (s₁.setTop (mkF m 8 #[.val (.ref a1), .val (.ref a2), .val (.int p3), .val (.int (Int32.ofNat i1)), .unset, .unset, .unset, .unset, .unset] [(.int p3)])) _
    refine XS.bipush X0.here hx rfl (hb hby sp_8) ?_
    show Steps p.tables e below (s₁.setTop (mkF m 10 #[.val (.ref a1), .val (.ref a2), .val (.int p3), .val (.int (Int32.ofNat i1)), .unset, .unset, .unset, .unset, .unset] [(.int (16 : Int32)), (.int p3)])) _
    refine XS.iushr X0.here hx rfl (hb hby sp_10) rfl ?_
    show Steps p.tables e below (s₁.setTop (mkF m 11 #[.val (.ref a1), .val (.ref a2), .val (.int p3), .val (.int (Int32.ofNat i1)), .unset, .unset, .unset, .unset, .unset] [(.int ((p3.toUInt32 >>> ((16 : Int32) &&& 31).toUInt32).toInt32))])) _
    refine XS.iconst X0.here hx rfl (hb hby sp_11) ?_
    show Steps p.tables e below (s₁.setTop (mkF m 12 #[.val (.ref a1), .val (.ref a2), .val (.int p3), .val (.int (Int32.ofNat i1)), .unset, .unset, .unset, .unset, .unset] [(.int (5 : Int32)), (.int ((p3.toUInt32 >>> ((16 : Int32) &&& 31).toUInt32).toInt32))])) _
    refine iremM X0 hx rfl (hb hby sp_12) rfl (by decide) ?_
    show Steps p.tables e below (s₁.setTop (mkF m 13 #[.val (.ref a1), .val (.ref a2), .val (.int p3), .val (.int (Int32.ofNat i1)), .unset, .unset, .unset, .unset, .unset] [(.int (((p3.toUInt32 >>> ((16 : Int32) &&& 31).toUInt32).toInt32) % (5 : Int32)))])) _
    refine XS.istore X0.here hx rfl (hb hby sp_13) rfl (l' := #[.val (.ref a1), .val (.ref a2), .val (.int p3), .val (.int (Int32.ofNat i1)), .val (.int (((p3.toUInt32 >>> ((16 : Int32) &&& 31).toUInt32).toInt32) % (5 : Int32))), .unset, .unset, .unset, .unset]) rfl ?_
    exact k)
  obtain ⟨i2, hi2, hqi2⟩ := own_mod ((p3.toUInt32 >>> ((16 : Int32) &&& 31).toUInt32).toInt32) (own_hi _)
  rw [hqi2] at go2
  have go3 : ∀ t, Steps p.tables e below (s₁.setTop (mkF m 19 #[.val (.ref a1), .val (.ref a2), .val (.int p3), .val (.int (Int32.ofNat i1)), .val (.int (Int32.ofNat i2)), .unset, .unset, .unset, .unset] [(.int (Int32.ofNat i2)), (.int (Int32.ofNat i1)), (.ref a1)])) t → Steps p.tables e below (s₁.setTop (entryFrame m #[(.ref a1), (.ref a2), (.int p3)] 9)) t := fun t k => go2 t (by
    show Steps p.tables e below (s₁.setTop (mkF m 15 #[.val (.ref a1), .val (.ref a2), .val (.int p3), .val (.int (Int32.ofNat i1)), .val (.int (Int32.ofNat i2)), .unset, .unset, .unset, .unset] [])) _
    refine XS.aloadN X0.here hx rfl (hb hby sp_15) rfl rfl ?_
    show Steps p.tables e below (s₁.setTop (mkF m 16 #[.val (.ref a1), .val (.ref a2), .val (.int p3), .val (.int (Int32.ofNat i1)), .val (.int (Int32.ofNat i2)), .unset, .unset, .unset, .unset] [(.ref a1)])) _
    refine XS.iloadN X0.here hx rfl (hb hby sp_16) rfl ?_
    show Steps p.tables e below (s₁.setTop (mkF m 17 #[.val (.ref a1), .val (.ref a2), .val (.int p3), .val (.int (Int32.ofNat i1)), .val (.int (Int32.ofNat i2)), .unset, .unset, .unset, .unset] [(.int (Int32.ofNat i1)), (.ref a1)])) _
    refine XS.iload X0.here hx rfl (hb hby sp_17) rfl ?_
    exact k)
  obtain ⟨cq4, kq4, q4a, q4b, q4c⟩ := isOf hZ e0 E1
  obtain ⟨_, _, ⟨T4, L4, k4, n4⟩, -, X4, ⟨Lc4, hQ4, l4, y4, z4⟩, st4⟩ := X0.virtualBack hx (y := (⟨"com/example/subsumption/subsumption/reasoner/Links", "link", "(II)V"⟩ : MethodName)) (z := (⟨"com/example/subsumption/subsumption/reasoner/Links", "link", "(II)V"⟩ : MethodName)) hown (mvT hZ (hw _ (List.mem_of_getElem? (i := 17) rfl))) (mvT hZ (hw _ (List.mem_of_getElem? (i := 18) rfl))) (notFace_of_selects (args := #[]) (mvT hZ (hw _ (List.mem_of_getElem? (i := 20) rfl)))) (mvT hZ (hw _ (List.mem_of_getElem? (i := 20) rfl))) (mvT hZ (hw _ (List.mem_of_getElem? (i := 19) rfl))) (by decide) (backOf (W := 0) (rm_lk l Z a0 hw [] a1 i1 i2 b kA P h0 n0 Z0 E1 F1 V1 hM g2 ne1 hi1 hi2) hZ (hw _ (List.mem_of_getElem? (i := 21) rfl)) (hw _ (List.mem_of_getElem? (i := 3) rfl)) (by decide) (by decide)) q4a q4c (g := (mkF m 19 #[.val (.ref a1), .val (.ref a2), .val (.int p3), .val (.int (Int32.ofNat i1)), .val (.int (Int32.ofNat i2)), .unset, .unset, .unset, .unset] [(.int (Int32.ofNat i2)), (.int (Int32.ofNat i1)), (.ref a1)])) rfl (by rw [hml]; rfl) (Steps.refl _) (argsL := [(.int (Int32.ofNat i1)), (.int (Int32.ofNat i2))]) (rest := []) (lenOf pd_2 rfl) rfl (by show 2 * 0 + _ ≤ _; exact Nat.le_of_eq rfl) (hb hby sp_19) (fun _ _ => ⟨rfl, e0, (by decide : 0 + 0 ≤ _), (by decide : 0 + 0 ≤ _)⟩)
  dsimp only [Pt.U, Pt.locs, Pt.cells, Pt.slots] at X4 l4 y4 z4 st4 hQ4
  subst l4 y4 z4
  obtain ⟨h4, e4⟩ : ∃ z, T4.heap = z := ⟨_, rfl⟩
  rw [e4] at hQ4
  obtain ⟨rfl, N4q, K4, P4, S4, V4⟩ := hQ4
  have N4 := Fr.app N0 N4q
  have go5 : ∀ t, Steps p.tables e below (T4.setTop (mkF m 22 #[.val (.ref a1), .val (.ref a2), .val (.int p3), .val (.int (Int32.ofNat i1)), .val (.int (Int32.ofNat i2)), .unset, .unset, .unset, .unset] [])) t → Steps p.tables e below (s₁.setTop (entryFrame m #[(.ref a1), (.ref a2), (.int p3)] 9)) t := fun t k => go3 t (st4.trans k)
  have f6 := F1.keep K4 (ninS ne1 nin0)
  have f7 := E1.keep K4
  have f8 := V2.keep K4 (ninS (Ne.symm ne3) nin0)
  have f9 := ((Keep.refl h0 [b, a2])).trans K4 (allS (Or.inl (List.mem_of_getElem? (i := 0) rfl)) all0)
  have go11 : ∀ t, Steps p.tables e below (T4.setTop (mkF m 24 #[.val (.ref a1), .val (.ref a2), .val (.int p3), .val (.int (Int32.ofNat i1)), .val (.int (Int32.ofNat i2)), .unset, .unset, .unset, .unset] [(.int (Int32.ofNat i1)), (.ref a2)])) t → Steps p.tables e below (s₁.setTop (entryFrame m #[(.ref a1), (.ref a2), (.int p3)] 9)) t := fun t k => go5 t (by
    show Steps p.tables e below (T4.setTop (mkF m 22 #[.val (.ref a1), .val (.ref a2), .val (.int p3), .val (.int (Int32.ofNat i1)), .val (.int (Int32.ofNat i2)), .unset, .unset, .unset, .unset] [])) _
    refine XS.aloadN X4.here hx rfl (hb hby sp_22) rfl rfl ?_
    show Steps p.tables e below (T4.setTop (mkF m 23 #[.val (.ref a1), .val (.ref a2), .val (.int p3), .val (.int (Int32.ofNat i1)), .val (.int (Int32.ofNat i2)), .unset, .unset, .unset, .unset] [(.ref a2)])) _
    refine XS.iloadN X4.here hx rfl (hb hby sp_23) rfl ?_
    exact k)
  obtain ⟨cl10, Ar10, q10, S10, M10, H10, G10⟩ := id f8
  have go12 : ∀ t, Steps p.tables e below (T4.setTop (mkF m 25 #[.val (.ref a1), .val (.ref a2), .val (.int p3), .val (.int (Int32.ofNat i1)), .val (.int (Int32.ofNat i2)), .unset, .unset, .unset, .unset] [(.int (Int32.ofNat (own_g (own_labs P) i1)))])) t → Steps p.tables e below (s₁.setTop (entryFrame m #[(.ref a1), (.ref a2), (.int p3)] 9)) t := fun t k => go11 t (by
    show Steps p.tables e below (T4.setTop (mkF m 24 #[.val (.ref a1), .val (.ref a2), .val (.int p3), .val (.int (Int32.ofNat i1)), .val (.int (Int32.ofNat i2)), .unset, .unset, .unset, .unset] [(.int (Int32.ofNat i1)), (.ref a2)])) _
    refine X4.iaload hx (j := (Int32.ofNat i1)) (v := (.int (Int32.ofNat (own_g (own_labs P) i1)))) (by rw [e4]; exact Ar10.1) (State.isArrayOf_alike hZ.alike Ar10.2.1) Ar10.2.2 (inb_of S10 (own_ix hi1)) (H10.at (inb_of S10 (own_ix hi1)) (own_at (own_labs P) hi1)) (g := (mkF m 24 #[.val (.ref a1), .val (.ref a2), .val (.int p3), .val (.int (Int32.ofNat i1)), .val (.int (Int32.ofNat i2)), .unset, .unset, .unset, .unset] [(.int (Int32.ofNat i1)), (.ref a2)])) rfl rfl (hb hby sp_24) _ ?_
    exact k)
  have go14 : ∀ t, Steps p.tables e below (T4.setTop (mkF m 30 #[.val (.ref a1), .val (.ref a2), .val (.int p3), .val (.int (Int32.ofNat i1)), .val (.int (Int32.ofNat i2)), .val (.int (Int32.ofNat (own_g (own_labs P) i1))), .unset, .unset, .unset] [(.int (Int32.ofNat i2)), (.ref a2)])) t → Steps p.tables e below (s₁.setTop (entryFrame m #[(.ref a1), (.ref a2), (.int p3)] 9)) t := fun t k => go12 t (by
    show Steps p.tables e below (T4.setTop (mkF m 25 #[.val (.ref a1), .val (.ref a2), .val (.int p3), .val (.int (Int32.ofNat i1)), .val (.int (Int32.ofNat i2)), .unset, .unset, .unset, .unset] [(.int (Int32.ofNat (own_g (own_labs P) i1)))])) _
    refine XS.istore X4.here hx rfl (hb hby sp_25) rfl (l' := #[.val (.ref a1), .val (.ref a2), .val (.int p3), .val (.int (Int32.ofNat i1)), .val (.int (Int32.ofNat i2)), .val (.int (Int32.ofNat (own_g (own_labs P) i1))), .unset, .unset, .unset]) rfl ?_
    show Steps p.tables e below (T4.setTop (mkF m 27 #[.val (.ref a1), .val (.ref a2), .val (.int p3), .val (.int (Int32.ofNat i1)), .val (.int (Int32.ofNat i2)), .val (.int (Int32.ofNat (own_g (own_labs P) i1))), .unset, .unset, .unset] [])) _
    refine XS.aloadN X4.here hx rfl (hb hby sp_27) rfl rfl ?_
    show Steps p.tables e below (T4.setTop (mkF m 28 #[.val (.ref a1), .val (.ref a2), .val (.int p3), .val (.int (Int32.ofNat i1)), .val (.int (Int32.ofNat i2)), .val (.int (Int32.ofNat (own_g (own_labs P) i1))), .unset, .unset, .unset] [(.ref a2)])) _
    refine XS.iload X4.here hx rfl (hb hby sp_28) rfl ?_
    exact k)
  obtain ⟨cl13, Ar13, q13, S13, M13, H13, G13⟩ := id f8
  have go15 : ∀ t, Steps p.tables e below (T4.setTop (mkF m 31 #[.val (.ref a1), .val (.ref a2), .val (.int p3), .val (.int (Int32.ofNat i1)), .val (.int (Int32.ofNat i2)), .val (.int (Int32.ofNat (own_g (own_labs P) i1))), .unset, .unset, .unset] [(.int (Int32.ofNat (own_g (own_labs P) i2)))])) t → Steps p.tables e below (s₁.setTop (entryFrame m #[(.ref a1), (.ref a2), (.int p3)] 9)) t := fun t k => go14 t (by
    show Steps p.tables e below (T4.setTop (mkF m 30 #[.val (.ref a1), .val (.ref a2), .val (.int p3), .val (.int (Int32.ofNat i1)), .val (.int (Int32.ofNat i2)), .val (.int (Int32.ofNat (own_g (own_labs P) i1))), .unset, .unset, .unset] [(.int (Int32.ofNat i2)), (.ref a2)])) _
    refine X4.iaload hx (j := (Int32.ofNat i2)) (v := (.int (Int32.ofNat (own_g (own_labs P) i2)))) (by rw [e4]; exact Ar13.1) (State.isArrayOf_alike hZ.alike Ar13.2.1) Ar13.2.2 (inb_of S13 (own_ix hi2)) (H13.at (inb_of S13 (own_ix hi2)) (own_at (own_labs P) hi2)) (g := (mkF m 30 #[.val (.ref a1), .val (.ref a2), .val (.int p3), .val (.int (Int32.ofNat i1)), .val (.int (Int32.ofNat i2)), .val (.int (Int32.ofNat (own_g (own_labs P) i1))), .unset, .unset, .unset] [(.int (Int32.ofNat i2)), (.ref a2)])) rfl rfl (hb hby sp_30) _ ?_
    exact k)
  have go16 : ∀ t, Steps p.tables e below (T4.setTop (mkF m 37 #[.val (.ref a1), .val (.ref a2), .val (.int p3), .val (.int (Int32.ofNat i1)), .val (.int (Int32.ofNat i2)), .val (.int (Int32.ofNat (own_g (own_labs P) i1))), .val (.int (Int32.ofNat (own_g (own_labs P) i2))), .unset, .unset] [(.int (Int32.ofNat (own_g (own_labs P) i2))), (.int (Int32.ofNat (own_g (own_labs P) i1)))])) t → Steps p.tables e below (s₁.setTop (entryFrame m #[(.ref a1), (.ref a2), (.int p3)] 9)) t := fun t k => go15 t (by
    show Steps p.tables e below (T4.setTop (mkF m 31 #[.val (.ref a1), .val (.ref a2), .val (.int p3), .val (.int (Int32.ofNat i1)), .val (.int (Int32.ofNat i2)), .val (.int (Int32.ofNat (own_g (own_labs P) i1))), .unset, .unset, .unset] [(.int (Int32.ofNat (own_g (own_labs P) i2)))])) _
    refine XS.istore X4.here hx rfl (hb hby sp_31) rfl (l' := #[.val (.ref a1), .val (.ref a2), .val (.int p3), .val (.int (Int32.ofNat i1)), .val (.int (Int32.ofNat i2)), .val (.int (Int32.ofNat (own_g (own_labs P) i1))), .val (.int (Int32.ofNat (own_g (own_labs P) i2))), .unset, .unset]) rfl ?_
    show Steps p.tables e below (T4.setTop (mkF m 33 #[.val (.ref a1), .val (.ref a2), .val (.int p3), .val (.int (Int32.ofNat i1)), .val (.int (Int32.ofNat i2)), .val (.int (Int32.ofNat (own_g (own_labs P) i1))), .val (.int (Int32.ofNat (own_g (own_labs P) i2))), .unset, .unset] [])) _
    refine XS.iload X4.here hx rfl (hb hby sp_33) rfl ?_
    show Steps p.tables e below (T4.setTop (mkF m 35 #[.val (.ref a1), .val (.ref a2), .val (.int p3), .val (.int (Int32.ofNat i1)), .val (.int (Int32.ofNat i2)), .val (.int (Int32.ofNat (own_g (own_labs P) i1))), .val (.int (Int32.ofNat (own_g (own_labs P) i2))), .unset, .unset] [(.int (Int32.ofNat (own_g (own_labs P) i1)))])) _
    refine XS.iload X4.here hx rfl (hb hby sp_35) rfl ?_
    exact k)
  obtain ⟨_, _, ⟨T17, L17, k17, n17⟩, -, X17, ⟨Lc17, hQ17, l17, y17, z17⟩, st17⟩ := Jvm.LawKit.callS X4 hx (y := (⟨"java/lang/Math", "min", "(II)I"⟩ : MethodName)) hown (mvT hZ (hw _ (List.mem_of_getElem? (i := 34) rfl))) (mvT hZ (hw _ (List.mem_of_getElem? (i := 32) rfl))) (mvT hZ (hw _ (List.mem_of_getElem? (i := 29) rfl))) (mvT hZ (hw _ (List.mem_of_getElem? (i := 33) rfl))) (by decide) (backOf (W := 0) (rm_mn l Z a0 hw [] (Int32.ofNat (own_g (own_labs P) i1)) (Int32.ofNat (own_g (own_labs P) i2)) h4 n0 (Nat.le_trans Z0 K4.1) ) hZ (hw _ (List.mem_of_getElem? (i := 33) rfl)) (hw _ (List.mem_of_getElem? (i := 29) rfl)) (by decide) (by decide)) (g := (mkF m 37 #[.val (.ref a1), .val (.ref a2), .val (.int p3), .val (.int (Int32.ofNat i1)), .val (.int (Int32.ofNat i2)), .val (.int (Int32.ofNat (own_g (own_labs P) i1))), .val (.int (Int32.ofNat (own_g (own_labs P) i2))), .unset, .unset] [(.int (Int32.ofNat (own_g (own_labs P) i2))), (.int (Int32.ofNat (own_g (own_labs P) i1)))])) rfl (by rw [hml]; rfl) (argsL := [(.int (Int32.ofNat (own_g (own_labs P) i1))), (.int (Int32.ofNat (own_g (own_labs P) i2)))]) (rest := []) (lenOf pd_1 rfl) rfl (by show 2 * 0 + _ ≤ _; exact Nat.le_of_eq rfl) (hb hby sp_37) (fun _ _ => ⟨rfl, e4, (by decide : 0 + 0 ≤ _), (by decide : 0 + 0 ≤ _)⟩)
  dsimp only [Pt.U, Pt.locs, Pt.cells, Pt.slots] at X17 l17 y17 z17 st17 hQ17
  subst l17 y17 z17
  obtain ⟨rfl, N17q, e17⟩ := hQ17
  have N17 := Fr.app N4 N17q
  have go18 : ∀ t, Steps p.tables e below (T17.setTop (mkF m 40 #[.val (.ref a1), .val (.ref a2), .val (.int p3), .val (.int (Int32.ofNat i1)), .val (.int (Int32.ofNat i2)), .val (.int (Int32.ofNat (own_g (own_labs P) i1))), .val (.int (Int32.ofNat (own_g (own_labs P) i2))), .unset, .unset] [(.int (own_min (Int32.ofNat (own_g (own_labs P) i1)) (Int32.ofNat (own_g (own_labs P) i2))))])) t → Steps p.tables e below (s₁.setTop (entryFrame m #[(.ref a1), (.ref a2), (.int p3)] 9)) t := fun t k => go16 t (st17 t k)
  rw [own_minn (own_lab5 hM hi1) (own_lab5 hM hi2)] at go18
  have go19 : ∀ t, Steps p.tables e below (T17.setTop (mkF m 46 #[.val (.ref a1), .val (.ref a2), .val (.int p3), .val (.int (Int32.ofNat i1)), .val (.int (Int32.ofNat i2)), .val (.int (Int32.ofNat (own_g (own_labs P) i1))), .val (.int (Int32.ofNat (own_g (own_labs P) i2))), .val (.int (Int32.ofNat (min (own_g (own_labs P) i1) (own_g (own_labs P) i2)))), .unset] [(.int (Int32.ofNat (own_g (own_labs P) i2))), (.int (Int32.ofNat (own_g (own_labs P) i1)))])) t → Steps p.tables e below (s₁.setTop (entryFrame m #[(.ref a1), (.ref a2), (.int p3)] 9)) t := fun t k => go18 t (by
    show Steps p.tables e below (T17.setTop (mkF m 40 #[.val (.ref a1), .val (.ref a2), .val (.int p3), .val (.int (Int32.ofNat i1)), .val (.int (Int32.ofNat i2)), .val (.int (Int32.ofNat (own_g (own_labs P) i1))), .val (.int (Int32.ofNat (own_g (own_labs P) i2))), .unset, .unset] [(.int (Int32.ofNat (min (own_g (own_labs P) i1) (own_g (own_labs P) i2))))])) _
    refine XS.istore X17.here hx rfl (hb hby sp_40) rfl (l' := #[.val (.ref a1), .val (.ref a2), .val (.int p3), .val (.int (Int32.ofNat i1)), .val (.int (Int32.ofNat i2)), .val (.int (Int32.ofNat (own_g (own_labs P) i1))), .val (.int (Int32.ofNat (own_g (own_labs P) i2))), .val (.int (Int32.ofNat (min (own_g (own_labs P) i1) (own_g (own_labs P) i2)))), .unset]) rfl ?_
    show Steps p.tables e below (T17.setTop (mkF m 42 #[.val (.ref a1), .val (.ref a2), .val (.int p3), .val (.int (Int32.ofNat i1)), .val (.int (Int32.ofNat i2)), .val (.int (Int32.ofNat (own_g (own_labs P) i1))), .val (.int (Int32.ofNat (own_g (own_labs P) i2))), .val (.int (Int32.ofNat (min (own_g (own_labs P) i1) (own_g (own_labs P) i2)))), .unset] [])) _
    refine XS.iload X17.here hx rfl (hb hby sp_42) rfl ?_
    show Steps p.tables e below (T17.setTop (mkF m 44 #[.val (.ref a1), .val (.ref a2), .val (.int p3), .val (.int (Int32.ofNat i1)), .val (.int (Int32.ofNat i2)), .val (.int (Int32.ofNat (own_g (own_labs P) i1))), .val (.int (Int32.ofNat (own_g (own_labs P) i2))), .val (.int (Int32.ofNat (min (own_g (own_labs P) i1) (own_g (own_labs P) i2)))), .unset] [(.int (Int32.ofNat (own_g (own_labs P) i1)))])) _
    refine XS.iload X17.here hx rfl (hb hby sp_44) rfl ?_
    exact k)
  obtain ⟨_, _, ⟨T20, L20, k20, n20⟩, -, X20, ⟨Lc20, hQ20, l20, y20, z20⟩, st20⟩ := Jvm.LawKit.callS X17 hx (y := (⟨"java/lang/Math", "max", "(II)I"⟩ : MethodName)) hown (mvT hZ (hw _ (List.mem_of_getElem? (i := 35) rfl))) (mvT hZ (hw _ (List.mem_of_getElem? (i := 28) rfl))) (mvT hZ (hw _ (List.mem_of_getElem? (i := 29) rfl))) (mvT hZ (hw _ (List.mem_of_getElem? (i := 30) rfl))) (by decide) (backOf (W := 0) (rm_mx l Z a0 hw [] (Int32.ofNat (own_g (own_labs P) i1)) (Int32.ofNat (own_g (own_labs P) i2)) h4 n0 (Nat.le_trans Z0 K4.1) ) hZ (hw _ (List.mem_of_getElem? (i := 30) rfl)) (hw _ (List.mem_of_getElem? (i := 29) rfl)) (by decide) (by decide)) (g := (mkF m 46 #[.val (.ref a1), .val (.ref a2), .val (.int p3), .val (.int (Int32.ofNat i1)), .val (.int (Int32.ofNat i2)), .val (.int (Int32.ofNat (own_g (own_labs P) i1))), .val (.int (Int32.ofNat (own_g (own_labs P) i2))), .val (.int (Int32.ofNat (min (own_g (own_labs P) i1) (own_g (own_labs P) i2)))), .unset] [(.int (Int32.ofNat (own_g (own_labs P) i2))), (.int (Int32.ofNat (own_g (own_labs P) i1)))])) rfl (by rw [hml]; rfl) (argsL := [(.int (Int32.ofNat (own_g (own_labs P) i1))), (.int (Int32.ofNat (own_g (own_labs P) i2)))]) (rest := []) (lenOf pd_1 rfl) rfl (by show 2 * 0 + _ ≤ _; exact Nat.le_of_eq rfl) (hb hby sp_46) (fun _ _ => ⟨rfl, e17, (by decide : 0 + 0 ≤ _), (by decide : 0 + 0 ≤ _)⟩)
  dsimp only [Pt.U, Pt.locs, Pt.cells, Pt.slots] at X20 l20 y20 z20 st20 hQ20
  subst l20 y20 z20
  obtain ⟨rfl, N20q, e20⟩ := hQ20
  have N20 := Fr.app N17 N20q
  have go21 : ∀ t, Steps p.tables e below (T20.setTop (mkF m 49 #[.val (.ref a1), .val (.ref a2), .val (.int p3), .val (.int (Int32.ofNat i1)), .val (.int (Int32.ofNat i2)), .val (.int (Int32.ofNat (own_g (own_labs P) i1))), .val (.int (Int32.ofNat (own_g (own_labs P) i2))), .val (.int (Int32.ofNat (min (own_g (own_labs P) i1) (own_g (own_labs P) i2)))), .unset] [(.int (own_max (Int32.ofNat (own_g (own_labs P) i1)) (Int32.ofNat (own_g (own_labs P) i2))))])) t → Steps p.tables e below (s₁.setTop (entryFrame m #[(.ref a1), (.ref a2), (.int p3)] 9)) t := fun t k => go19 t (st20 t k)
  rw [own_maxn (own_lab5 hM hi1) (own_lab5 hM hi2)] at go21
  have go22 : ∀ t, Steps p.tables e below (T20.setTop (mkF m 55 #[.val (.ref a1), .val (.ref a2), .val (.int p3), .val (.int (Int32.ofNat i1)), .val (.int (Int32.ofNat i2)), .val (.int (Int32.ofNat (own_g (own_labs P) i1))), .val (.int (Int32.ofNat (own_g (own_labs P) i2))), .val (.int (Int32.ofNat (min (own_g (own_labs P) i1) (own_g (own_labs P) i2)))), .val (.int (Int32.ofNat (max (own_g (own_labs P) i1) (own_g (own_labs P) i2))))] [(.int (0 : Int32)), (.ref a2), (.int (0 : Int32)), (.ref a2)])) t → Steps p.tables e below (s₁.setTop (entryFrame m #[(.ref a1), (.ref a2), (.int p3)] 9)) t := fun t k => go21 t (by
    show Steps p.tables e below (T20.setTop (mkF m 49 #[.val (.ref a1), .val (.ref a2), .val (.int p3), .val (.int (Int32.ofNat i1)), .val (.int (Int32.ofNat i2)), .val (.int (Int32.ofNat (own_g (own_labs P) i1))), .val (.int (Int32.ofNat (own_g (own_labs P) i2))), .val (.int (Int32.ofNat (min (own_g (own_labs P) i1) (own_g (own_labs P) i2)))), .unset] [(.int (Int32.ofNat (max (own_g (own_labs P) i1) (own_g (own_labs P) i2))))])) _
    refine XS.istore X20.here hx rfl (hb hby sp_49) rfl (l' := #[.val (.ref a1), .val (.ref a2), .val (.int p3), .val (.int (Int32.ofNat i1)), .val (.int (Int32.ofNat i2)), .val (.int (Int32.ofNat (own_g (own_labs P) i1))), .val (.int (Int32.ofNat (own_g (own_labs P) i2))), .val (.int (Int32.ofNat (min (own_g (own_labs P) i1) (own_g (own_labs P) i2)))), .val (.int (Int32.ofNat (max (own_g (own_labs P) i1) (own_g (own_labs P) i2))))]) rfl ?_
    show Steps p.tables e below (T20.setTop (mkF m 51 #[.val (.ref a1), .val (.ref a2), .val (.int p3), .val (.int (Int32.ofNat i1)), .val (.int (Int32.ofNat i2)), .val (.int (Int32.ofNat (own_g (own_labs P) i1))), .val (.int (Int32.ofNat (own_g (own_labs P) i2))), .val (.int (Int32.ofNat (min (own_g (own_labs P) i1) (own_g (own_labs P) i2)))), .val (.int (Int32.ofNat (max (own_g (own_labs P) i1) (own_g (own_labs P) i2))))] [])) _
    refine XS.aloadN X20.here hx rfl (hb hby sp_51) rfl rfl ?_
    show Steps p.tables e below (T20.setTop (mkF m 52 #[.val (.ref a1), .val (.ref a2), .val (.int p3), .val (.int (Int32.ofNat i1)), .val (.int (Int32.ofNat i2)), .val (.int (Int32.ofNat (own_g (own_labs P) i1))), .val (.int (Int32.ofNat (own_g (own_labs P) i2))), .val (.int (Int32.ofNat (min (own_g (own_labs P) i1) (own_g (own_labs P) i2)))), .val (.int (Int32.ofNat (max (own_g (own_labs P) i1) (own_g (own_labs P) i2))))] [(.ref a2)])) _
    refine XS.iconst X20.here hx rfl (hb hby sp_52) ?_
    show Steps p.tables e below (T20.setTop (mkF m 53 #[.val (.ref a1), .val (.ref a2), .val (.int p3), .val (.int (Int32.ofNat i1)), .val (.int (Int32.ofNat i2)), .val (.int (Int32.ofNat (own_g (own_labs P) i1))), .val (.int (Int32.ofNat (own_g (own_labs P) i2))), .val (.int (Int32.ofNat (min (own_g (own_labs P) i1) (own_g (own_labs P) i2)))), .val (.int (Int32.ofNat (max (own_g (own_labs P) i1) (own_g (own_labs P) i2))))] [(.int (0 : Int32)), (.ref a2)])) _
    refine XS.aloadN X20.here hx rfl (hb hby sp_53) rfl rfl ?_
    show Steps p.tables e below (T20.setTop (mkF m 54 #[.val (.ref a1), .val (.ref a2), .val (.int p3), .val (.int (Int32.ofNat i1)), .val (.int (Int32.ofNat i2)), .val (.int (Int32.ofNat (own_g (own_labs P) i1))), .val (.int (Int32.ofNat (own_g (own_labs P) i2))), .val (.int (Int32.ofNat (min (own_g (own_labs P) i1) (own_g (own_labs P) i2)))), .val (.int (Int32.ofNat (max (own_g (own_labs P) i1) (own_g (own_labs P) i2))))] [(.ref a2), (.int (0 : Int32)), (.ref a2)])) _
    refine XS.iconst X20.here hx rfl (hb hby sp_54) ?_
    exact k)
  obtain ⟨x0, hx0, go31⟩ : ∃ x0 : Int32, x0 = (Int32.ofNat (own_up (own_labs P) 0 (min (own_g (own_labs P) i1) (own_g (own_labs P) i2)) (max (own_g (own_labs P) i1) (own_g (own_labs P) i2)))) ∧ ∀ t, Steps p.tables e below (T20.setTop (mkF m 69 #[.val (.ref a1), .val (.ref a2), .val (.int p3), .val (.int (Int32.ofNat i1)), .val (.int (Int32.ofNat i2)), .val (.int (Int32.ofNat (own_g (own_labs P) i1))), .val (.int (Int32.ofNat (own_g (own_labs P) i2))), .val (.int (Int32.ofNat (min (own_g (own_labs P) i1) (own_g (own_labs P) i2)))), .val (.int (Int32.ofNat (max (own_g (own_labs P) i1) (own_g (own_labs P) i2))))] [(.int x0), (.int (0 : Int32)), (.ref a2)])) t → Steps p.tables e below (s₁.setTop (entryFrame m #[(.ref a1), (.ref a2), (.int p3)] 9)) t := by
    obtain ⟨cl23, Ar23, q23, S23, M23, H23, G23⟩ := id f8
    have go24 : ∀ t, Steps p.tables e below (T20.setTop (mkF m 56 #[.val (.ref a1), .val (.ref a2), .val (.int p3), .val (.int (Int32.ofNat i1)), .val (.int (Int32.ofNat i2)), .val (.int (Int32.ofNat (own_g (own_labs P) i1))), .val (.int (Int32.ofNat (own_g (own_labs P) i2))), .val (.int (Int32.ofNat (min (own_g (own_labs P) i1) (own_g (own_labs P) i2)))), .val (.int (Int32.ofNat (max (own_g (own_labs P) i1) (own_g (own_labs P) i2))))] [(.int (Int32.ofNat (own_g (own_labs P) 0))), (.int (0 : Int32)), (.ref a2)])) t → Steps p.tables e below (s₁.setTop (entryFrame m #[(.ref a1), (.ref a2), (.int p3)] 9)) t := fun t k => go22 t (by
      show Steps p.tables e below (T20.setTop (mkF m 55 #[.val (.ref a1), .val (.ref a2), .val (.int p3), .val (.int (Int32.ofNat i1)), .val (.int (Int32.ofNat i2)), .val (.int (Int32.ofNat (own_g (own_labs P) i1))), .val (.int (Int32.ofNat (own_g (own_labs P) i2))), .val (.int (Int32.ofNat (min (own_g (own_labs P) i1) (own_g (own_labs P) i2)))), .val (.int (Int32.ofNat (max (own_g (own_labs P) i1) (own_g (own_labs P) i2))))] [(.int (0 : Int32)), (.ref a2), (.int (0 : Int32)), (.ref a2)])) _
      refine X20.iaload hx (j := (Int32.ofNat 0)) (v := (.int (Int32.ofNat (own_g (own_labs P) 0)))) (by rw [e20]; exact Ar23.1) (State.isArrayOf_alike hZ.alike Ar23.2.1) Ar23.2.2 (inb_of S23 (own_ix (show 0 < 5 from by decide))) (H23.at (inb_of S23 (own_ix (show 0 < 5 from by decide))) (own_at (own_labs P) (show 0 < 5 from by decide))) (g := (mkF m 55 #[.val (.ref a1), .val (.ref a2), .val (.int p3), .val (.int (Int32.ofNat i1)), .val (.int (Int32.ofNat i2)), .val (.int (Int32.ofNat (own_g (own_labs P) i1))), .val (.int (Int32.ofNat (own_g (own_labs P) i2))), .val (.int (Int32.ofNat (min (own_g (own_labs P) i1) (own_g (own_labs P) i2)))), .val (.int (Int32.ofNat (max (own_g (own_labs P) i1) (own_g (own_labs P) i2))))] [(.int (0 : Int32)), (.ref a2), (.int (0 : Int32)), (.ref a2)])) rfl rfl (hb hby sp_55) _ ?_
      exact k)
    have go25 : ∀ t, Steps p.tables e below (T20.setTop (mkF m 58 #[.val (.ref a1), .val (.ref a2), .val (.int p3), .val (.int (Int32.ofNat i1)), .val (.int (Int32.ofNat i2)), .val (.int (Int32.ofNat (own_g (own_labs P) i1))), .val (.int (Int32.ofNat (own_g (own_labs P) i2))), .val (.int (Int32.ofNat (min (own_g (own_labs P) i1) (own_g (own_labs P) i2)))), .val (.int (Int32.ofNat (max (own_g (own_labs P) i1) (own_g (own_labs P) i2))))] [(.int (Int32.ofNat (max (own_g (own_labs P) i1) (own_g (own_labs P) i2)))), (.int (Int32.ofNat (own_g (own_labs P) 0))), (.int (0 : Int32)), (.ref a2)])) t → Steps p.tables e below (s₁.setTop (entryFrame m #[(.ref a1), (.ref a2), (.int p3)] 9)) t := fun t k => go24 t (by
      show Steps p.tables e below (T20.setTop (mkF m 56 #[.val (.ref a1), .val (.ref a2), .val (.int p3), .val (.int (Int32.ofNat i1)), .val (.int (Int32.ofNat i2)), .val (.int (Int32.ofNat (own_g (own_labs P) i1))), .val (.int (Int32.ofNat (own_g (own_labs P) i2))), .val (.int (Int32.ofNat (min (own_g (own_labs P) i1) (own_g (own_labs P) i2)))), .val (.int (Int32.ofNat (max (own_g (own_labs P) i1) (own_g (own_labs P) i2))))] [(.int (Int32.ofNat (own_g (own_labs P) 0))), (.int (0 : Int32)), (.ref a2)])) _
      refine XS.iload X20.here hx rfl (hb hby sp_56) rfl ?_
      exact k)
    by_cases hc26 : (Int32.ofNat (own_g (own_labs P) 0)) = (Int32.ofNat (max (own_g (own_labs P) i1) (own_g (own_labs P) i2)))
    · have go27 : ∀ t, Steps p.tables e below (T20.setTop (mkF m 69 #[.val (.ref a1), .val (.ref a2), .val (.int p3), .val (.int (Int32.ofNat i1)), .val (.int (Int32.ofNat i2)), .val (.int (Int32.ofNat (own_g (own_labs P) i1))), .val (.int (Int32.ofNat (own_g (own_labs P) i2))), .val (.int (Int32.ofNat (min (own_g (own_labs P) i1) (own_g (own_labs P) i2)))), .val (.int (Int32.ofNat (max (own_g (own_labs P) i1) (own_g (own_labs P) i2))))] [(.int (Int32.ofNat (min (own_g (own_labs P) i1) (own_g (own_labs P) i2)))), (.int (0 : Int32)), (.ref a2)])) t → Steps p.tables e below (s₁.setTop (entryFrame m #[(.ref a1), (.ref a2), (.int p3)] 9)) t := fun t k => go25 t (by
        show Steps p.tables e below (T20.setTop (mkF m 58 #[.val (.ref a1), .val (.ref a2), .val (.int p3), .val (.int (Int32.ofNat i1)), .val (.int (Int32.ofNat i2)), .val (.int (Int32.ofNat (own_g (own_labs P) i1))), .val (.int (Int32.ofNat (own_g (own_labs P) i2))), .val (.int (Int32.ofNat (min (own_g (own_labs P) i1) (own_g (own_labs P) i2)))), .val (.int (Int32.ofNat (max (own_g (own_labs P) i1) (own_g (own_labs P) i2))))] [(.int (Int32.ofNat (max (own_g (own_labs P) i1) (own_g (own_labs P) i2)))), (.int (Int32.ofNat (own_g (own_labs P) 0))), (.int (0 : Int32)), (.ref a2)])) _
        refine XS.icmpNo X20.here hx rfl (hb hby sp_58) rfl (teq hc26).2 ?_
        show Steps p.tables e below (T20.setTop (mkF m 61 #[.val (.ref a1), .val (.ref a2), .val (.int p3), .val (.int (Int32.ofNat i1)), .val (.int (Int32.ofNat i2)), .val (.int (Int32.ofNat (own_g (own_labs P) i1))), .val (.int (Int32.ofNat (own_g (own_labs P) i2))), .val (.int (Int32.ofNat (min (own_g (own_labs P) i1) (own_g (own_labs P) i2)))), .val (.int (Int32.ofNat (max (own_g (own_labs P) i1) (own_g (own_labs P) i2))))] [(.int (0 : Int32)), (.ref a2)])) _
        refine XS.iload X20.here hx rfl (hb hby sp_61) rfl ?_
        show Steps p.tables e below (T20.setTop (mkF m 63 #[.val (.ref a1), .val (.ref a2), .val (.int p3), .val (.int (Int32.ofNat i1)), .val (.int (Int32.ofNat i2)), .val (.int (Int32.ofNat (own_g (own_labs P) i1))), .val (.int (Int32.ofNat (own_g (own_labs P) i2))), .val (.int (Int32.ofNat (min (own_g (own_labs P) i1) (own_g (own_labs P) i2)))), .val (.int (Int32.ofNat (max (own_g (own_labs P) i1) (own_g (own_labs P) i2))))] [(.int (Int32.ofNat (min (own_g (own_labs P) i1) (own_g (own_labs P) i2)))), (.int (0 : Int32)), (.ref a2)])) _
        refine XS.goto X20.here hx rfl (pc0 := 63) (pc' := 69) rfl (hb hby sp_63) (by decide) (by decide) ?_
        exact k)
      exact ⟨(Int32.ofNat (min (own_g (own_labs P) i1) (own_g (own_labs P) i2))), (show (Int32.ofNat (min (own_g (own_labs P) i1) (own_g (own_labs P) i2))) = (Int32.ofNat (own_up (own_labs P) 0 (min (own_g (own_labs P) i1) (own_g (own_labs P) i2)) (max (own_g (own_labs P) i1) (own_g (own_labs P) i2)))) by unfold own_up; rw [if_pos (own_inj (own_lab5 hM (by decide)) (own_max5 (own_lab5 hM hi1) (own_lab5 hM hi2)) hc26)]), go27⟩
    · have go29 : ∀ t, Steps p.tables e below (T20.setTop (mkF m 68 #[.val (.ref a1), .val (.ref a2), .val (.int p3), .val (.int (Int32.ofNat i1)), .val (.int (Int32.ofNat i2)), .val (.int (Int32.ofNat (own_g (own_labs P) i1))), .val (.int (Int32.ofNat (own_g (own_labs P) i2))), .val (.int (Int32.ofNat (min (own_g (own_labs P) i1) (own_g (own_labs P) i2)))), .val (.int (Int32.ofNat (max (own_g (own_labs P) i1) (own_g (own_labs P) i2))))] [(.int (0 : Int32)), (.ref a2), (.int (0 : Int32)), (.ref a2)])) t → Steps p.tables e below (s₁.setTop (entryFrame m #[(.ref a1), (.ref a2), (.int p3)] 9)) t := fun t k => go25 t (by
        show Steps p.tables e below (T20.setTop (mkF m 58 #[.val (.ref a1), .val (.ref a2), .val (.int p3), .val (.int (Int32.ofNat i1)), .val (.int (Int32.ofNat i2)), .val (.int (Int32.ofNat (own_g (own_labs P) i1))), .val (.int (Int32.ofNat (own_g (own_labs P) i2))), .val (.int (Int32.ofNat (min (own_g (own_labs P) i1) (own_g (own_labs P) i2)))), .val (.int (Int32.ofNat (max (own_g (own_labs P) i1) (own_g (own_labs P) i2))))] [(.int (Int32.ofNat (max (own_g (own_labs P) i1) (own_g (own_labs P) i2)))), (.int (Int32.ofNat (own_g (own_labs P) 0))), (.int (0 : Int32)), (.ref a2)])) _
        refine XS.icmpYes X20.here hx rfl (pc0 := 58) (pc' := 66) rfl (hb hby sp_58) rfl (feq hc26).2 (by decide) (by decide) ?_
        show Steps p.tables e below (T20.setTop (mkF m 66 #[.val (.ref a1), .val (.ref a2), .val (.int p3), .val (.int (Int32.ofNat i1)), .val (.int (Int32.ofNat i2)), .val (.int (Int32.ofNat (own_g (own_labs P) i1))), .val (.int (Int32.ofNat (own_g (own_labs P) i2))), .val (.int (Int32.ofNat (min (own_g (own_labs P) i1) (own_g (own_labs P) i2)))), .val (.int (Int32.ofNat (max (own_g (own_labs P) i1) (own_g (own_labs P) i2))))] [(.int (0 : Int32)), (.ref a2)])) _
        refine XS.aloadN X20.here hx rfl (hb hby sp_66) rfl rfl ?_
        show Steps p.tables e below (T20.setTop (mkF m 67 #[.val (.ref a1), .val (.ref a2), .val (.int p3), .val (.int (Int32.ofNat i1)), .val (.int (Int32.ofNat i2)), .val (.int (Int32.ofNat (own_g (own_labs P) i1))), .val (.int (Int32.ofNat (own_g (own_labs P) i2))), .val (.int (Int32.ofNat (min (own_g (own_labs P) i1) (own_g (own_labs P) i2)))), .val (.int (Int32.ofNat (max (own_g (own_labs P) i1) (own_g (own_labs P) i2))))] [(.ref a2), (.int (0 : Int32)), (.ref a2)])) _
        refine XS.iconst X20.here hx rfl (hb hby sp_67) ?_
        exact k)
      obtain ⟨cl28, Ar28, q28, S28, M28, H28, G28⟩ := id f8
      have go30 : ∀ t, Steps p.tables e below (T20.setTop (mkF m 69 #[.val (.ref a1), .val (.ref a2), .val (.int p3), .val (.int (Int32.ofNat i1)), .val (.int (Int32.ofNat i2)), .val (.int (Int32.ofNat (own_g (own_labs P) i1))), .val (.int (Int32.ofNat (own_g (own_labs P) i2))), .val (.int (Int32.ofNat (min (own_g (own_labs P) i1) (own_g (own_labs P) i2)))), .val (.int (Int32.ofNat (max (own_g (own_labs P) i1) (own_g (own_labs P) i2))))] [(.int (Int32.ofNat (own_g (own_labs P) 0))), (.int (0 : Int32)), (.ref a2)])) t → Steps p.tables e below (s₁.setTop (entryFrame m #[(.ref a1), (.ref a2), (.int p3)] 9)) t := fun t k => go29 t (by
        show Steps p.tables e below (T20.setTop (mkF m 68 #[.val (.ref a1), .val (.ref a2), .val (.int p3), .val (.int (Int32.ofNat i1)), .val (.int (Int32.ofNat i2)), .val (.int (Int32.ofNat (own_g (own_labs P) i1))), .val (.int (Int32.ofNat (own_g (own_labs P) i2))), .val (.int (Int32.ofNat (min (own_g (own_labs P) i1) (own_g (own_labs P) i2)))), .val (.int (Int32.ofNat (max (own_g (own_labs P) i1) (own_g (own_labs P) i2))))] [(.int (0 : Int32)), (.ref a2), (.int (0 : Int32)), (.ref a2)])) _
        refine X20.iaload hx (j := (Int32.ofNat 0)) (v := (.int (Int32.ofNat (own_g (own_labs P) 0)))) (by rw [e20]; exact Ar28.1) (State.isArrayOf_alike hZ.alike Ar28.2.1) Ar28.2.2 (inb_of S28 (own_ix (show 0 < 5 from by decide))) (H28.at (inb_of S28 (own_ix (show 0 < 5 from by decide))) (own_at (own_labs P) (show 0 < 5 from by decide))) (g := (mkF m 68 #[.val (.ref a1), .val (.ref a2), .val (.int p3), .val (.int (Int32.ofNat i1)), .val (.int (Int32.ofNat i2)), .val (.int (Int32.ofNat (own_g (own_labs P) i1))), .val (.int (Int32.ofNat (own_g (own_labs P) i2))), .val (.int (Int32.ofNat (min (own_g (own_labs P) i1) (own_g (own_labs P) i2)))), .val (.int (Int32.ofNat (max (own_g (own_labs P) i1) (own_g (own_labs P) i2))))] [(.int (0 : Int32)), (.ref a2), (.int (0 : Int32)), (.ref a2)])) rfl rfl (hb hby sp_68) _ ?_
        exact k)
      exact ⟨(Int32.ofNat (own_g (own_labs P) 0)), (show (Int32.ofNat (own_g (own_labs P) 0)) = (Int32.ofNat (own_up (own_labs P) 0 (min (own_g (own_labs P) i1) (own_g (own_labs P) i2)) (max (own_g (own_labs P) i1) (own_g (own_labs P) i2)))) by unfold own_up; rw [if_neg (fun q => hc26 (congrArg Int32.ofNat q))]), go30⟩
  rw [hx0] at go31
  obtain ⟨cl32, Ar32, q32, S32, M32, H32, G32⟩ := id f8
  obtain ⟨T32, h32, X32, e32, W32, st32⟩ := stI X20 hx hZ e20 Ar32 (j := (Int32.ofNat 0)) (x := (Int32.ofNat (own_up (own_labs P) 0 (min (own_g (own_labs P) i1) (own_g (own_labs P) i2)) (max (own_g (own_labs P) i1) (own_g (own_labs P) i2))))) (inb_of S32 (own_ix (show 0 < 5 from by decide))) (g := (mkF m 69 #[.val (.ref a1), .val (.ref a2), .val (.int p3), .val (.int (Int32.ofNat i1)), .val (.int (Int32.ofNat i2)), .val (.int (Int32.ofNat (own_g (own_labs P) i1))), .val (.int (Int32.ofNat (own_g (own_labs P) i2))), .val (.int (Int32.ofNat (min (own_g (own_labs P) i1) (own_g (own_labs P) i2)))), .val (.int (Int32.ofNat (max (own_g (own_labs P) i1) (own_g (own_labs P) i2))))] [(.int (Int32.ofNat (own_up (own_labs P) 0 (min (own_g (own_labs P) i1) (own_g (own_labs P) i2)) (max (own_g (own_labs P) i1) (own_g (own_labs P) i2))))), (.int (0 : Int32)), (.ref a2)])) rfl rfl (hb hby sp_69)
  obtain ⟨P32, hP32⟩ : ∃ z, z = List.set (own_labs P) 0 (own_up (own_labs P) 0 (min (own_g (own_labs P) i1) (own_g (own_labs P) i2)) (max (own_g (own_labs P) i1) (own_g (own_labs P) i2))) := ⟨_, rfl⟩
  have ln32 : P32.length = 5 := by rw [hP32, List.length_set]; exact (show (own_labs P).length = 5 from rfl)
  have V32 : Arv Z h32 a2 kB .int (5 : Int32) (own_pv P32) (.int (0 : Int32)) := by rw [hP32, own_pvset]; exact Arv.set Ar32 q32 S32 M32 H32 G32 rfl W32 0 (own_tn (show 0 < 5 from by decide)) (by rw [own_pvlen, (show (own_labs P).length = 5 from rfl)]; exact (show 0 < 5 from by decide))
  have N32 := Fr.snoc X32 N20 g3
  have f33 := f6.other W32 (Or.inl ne2)
  have f34 := f7.wr W32
  have f35 := V4.other W32 ne3
  have f36 := (f9).wr W32 (Or.inl (List.mem_of_getElem? (i := 1) rfl))
  have go37 : ∀ t, Steps p.tables e below (T32.setTop (mkF m 70 #[.val (.ref a1), .val (.ref a2), .val (.int p3), .val (.int (Int32.ofNat i1)), .val (.int (Int32.ofNat i2)), .val (.int (Int32.ofNat (own_g (own_labs P) i1))), .val (.int (Int32.ofNat (own_g (own_labs P) i2))), .val (.int (Int32.ofNat (min (own_g (own_labs P) i1) (own_g (own_labs P) i2)))), .val (.int (Int32.ofNat (max (own_g (own_labs P) i1) (own_g (own_labs P) i2))))] [])) t → Steps p.tables e below (s₁.setTop (entryFrame m #[(.ref a1), (.ref a2), (.int p3)] 9)) t := fun t k => go31 t (st32 t k)
  have go38 : ∀ t, Steps p.tables e below (T32.setTop (mkF m 74 #[.val (.ref a1), .val (.ref a2), .val (.int p3), .val (.int (Int32.ofNat i1)), .val (.int (Int32.ofNat i2)), .val (.int (Int32.ofNat (own_g (own_labs P) i1))), .val (.int (Int32.ofNat (own_g (own_labs P) i2))), .val (.int (Int32.ofNat (min (own_g (own_labs P) i1) (own_g (own_labs P) i2)))), .val (.int (Int32.ofNat (max (own_g (own_labs P) i1) (own_g (own_labs P) i2))))] [(.int (1 : Int32)), (.ref a2), (.int (1 : Int32)), (.ref a2)])) t → Steps p.tables e below (s₁.setTop (entryFrame m #[(.ref a1), (.ref a2), (.int p3)] 9)) t := fun t k => go37 t (by
    show Steps p.tables e below (T32.setTop (mkF m 70 #[.val (.ref a1), .val (.ref a2), .val (.int p3), .val (.int (Int32.ofNat i1)), .val (.int (Int32.ofNat i2)), .val (.int (Int32.ofNat (own_g (own_labs P) i1))), .val (.int (Int32.ofNat (own_g (own_labs P) i2))), .val (.int (Int32.ofNat (min (own_g (own_labs P) i1) (own_g (own_labs P) i2)))), .val (.int (Int32.ofNat (max (own_g (own_labs P) i1) (own_g (own_labs P) i2))))] [])) _
    refine XS.aloadN X32.here hx rfl (hb hby sp_70) rfl rfl ?_
    show Steps p.tables e below (T32.setTop (mkF m 71 #[.val (.ref a1), .val (.ref a2), .val (.int p3), .val (.int (Int32.ofNat i1)), .val (.int (Int32.ofNat i2)), .val (.int (Int32.ofNat (own_g (own_labs P) i1))), .val (.int (Int32.ofNat (own_g (own_labs P) i2))), .val (.int (Int32.ofNat (min (own_g (own_labs P) i1) (own_g (own_labs P) i2)))), .val (.int (Int32.ofNat (max (own_g (own_labs P) i1) (own_g (own_labs P) i2))))] [(.ref a2)])) _
    refine XS.iconst X32.here hx rfl (hb hby sp_71) ?_
    show Steps p.tables e below (T32.setTop (mkF m 72 #[.val (.ref a1), .val (.ref a2), .val (.int p3), .val (.int (Int32.ofNat i1)), .val (.int (Int32.ofNat i2)), .val (.int (Int32.ofNat (own_g (own_labs P) i1))), .val (.int (Int32.ofNat (own_g (own_labs P) i2))), .val (.int (Int32.ofNat (min (own_g (own_labs P) i1) (own_g (own_labs P) i2)))), .val (.int (Int32.ofNat (max (own_g (own_labs P) i1) (own_g (own_labs P) i2))))] [(.int (1 : Int32)), (.ref a2)])) _
    refine XS.aloadN X32.here hx rfl (hb hby sp_72) rfl rfl ?_
    show Steps p.tables e below (T32.setTop (mkF m 73 #[.val (.ref a1), .val (.ref a2), .val (.int p3), .val (.int (Int32.ofNat i1)), .val (.int (Int32.ofNat i2)), .val (.int (Int32.ofNat (own_g (own_labs P) i1))), .val (.int (Int32.ofNat (own_g (own_labs P) i2))), .val (.int (Int32.ofNat (min (own_g (own_labs P) i1) (own_g (own_labs P) i2)))), .val (.int (Int32.ofNat (max (own_g (own_labs P) i1) (own_g (own_labs P) i2))))] [(.ref a2), (.int (1 : Int32)), (.ref a2)])) _
    refine XS.iconst X32.here hx rfl (hb hby sp_73) ?_
    exact k)
  obtain ⟨x1, hx1, go47⟩ : ∃ x1 : Int32, x1 = (Int32.ofNat (own_up P32 1 (min (own_g (own_labs P) i1) (own_g (own_labs P) i2)) (max (own_g (own_labs P) i1) (own_g (own_labs P) i2)))) ∧ ∀ t, Steps p.tables e below (T32.setTop (mkF m 88 #[.val (.ref a1), .val (.ref a2), .val (.int p3), .val (.int (Int32.ofNat i1)), .val (.int (Int32.ofNat i2)), .val (.int (Int32.ofNat (own_g (own_labs P) i1))), .val (.int (Int32.ofNat (own_g (own_labs P) i2))), .val (.int (Int32.ofNat (min (own_g (own_labs P) i1) (own_g (own_labs P) i2)))), .val (.int (Int32.ofNat (max (own_g (own_labs P) i1) (own_g (own_labs P) i2))))] [(.int x1), (.int (1 : Int32)), (.ref a2)])) t → Steps p.tables e below (s₁.setTop (entryFrame m #[(.ref a1), (.ref a2), (.int p3)] 9)) t := by
    obtain ⟨cl39, Ar39, q39, S39, M39, H39, G39⟩ := id V32
    have go40 : ∀ t, Steps p.tables e below (T32.setTop (mkF m 75 #[.val (.ref a1), .val (.ref a2), .val (.int p3), .val (.int (Int32.ofNat i1)), .val (.int (Int32.ofNat i2)), .val (.int (Int32.ofNat (own_g (own_labs P) i1))), .val (.int (Int32.ofNat (own_g (own_labs P) i2))), .val (.int (Int32.ofNat (min (own_g (own_labs P) i1) (own_g (own_labs P) i2)))), .val (.int (Int32.ofNat (max (own_g (own_labs P) i1) (own_g (own_labs P) i2))))] [(.int (Int32.ofNat (own_g P32 1))), (.int (1 : Int32)), (.ref a2)])) t → Steps p.tables e below (s₁.setTop (entryFrame m #[(.ref a1), (.ref a2), (.int p3)] 9)) t := fun t k => go38 t (by
      show Steps p.tables e below (T32.setTop (mkF m 74 #[.val (.ref a1), .val (.ref a2), .val (.int p3), .val (.int (Int32.ofNat i1)), .val (.int (Int32.ofNat i2)), .val (.int (Int32.ofNat (own_g (own_labs P) i1))), .val (.int (Int32.ofNat (own_g (own_labs P) i2))), .val (.int (Int32.ofNat (min (own_g (own_labs P) i1) (own_g (own_labs P) i2)))), .val (.int (Int32.ofNat (max (own_g (own_labs P) i1) (own_g (own_labs P) i2))))] [(.int (1 : Int32)), (.ref a2), (.int (1 : Int32)), (.ref a2)])) _
      refine X32.iaload hx (j := (Int32.ofNat 1)) (v := (.int (Int32.ofNat (own_g P32 1)))) (by rw [e32]; exact Ar39.1) (State.isArrayOf_alike hZ.alike Ar39.2.1) Ar39.2.2 (inb_of S39 (own_ix (show 1 < 5 from by decide))) (H39.at (inb_of S39 (own_ix (show 1 < 5 from by decide))) (own_at P32 (show 1 < 5 from by decide))) (g := (mkF m 74 #[.val (.ref a1), .val (.ref a2), .val (.int p3), .val (.int (Int32.ofNat i1)), .val (.int (Int32.ofNat i2)), .val (.int (Int32.ofNat (own_g (own_labs P) i1))), .val (.int (Int32.ofNat (own_g (own_labs P) i2))), .val (.int (Int32.ofNat (min (own_g (own_labs P) i1) (own_g (own_labs P) i2)))), .val (.int (Int32.ofNat (max (own_g (own_labs P) i1) (own_g (own_labs P) i2))))] [(.int (1 : Int32)), (.ref a2), (.int (1 : Int32)), (.ref a2)])) rfl rfl (hb hby sp_74) _ ?_
      exact k)
    have go41 : ∀ t, Steps p.tables e below (T32.setTop (mkF m 77 #[.val (.ref a1), .val (.ref a2), .val (.int p3), .val (.int (Int32.ofNat i1)), .val (.int (Int32.ofNat i2)), .val (.int (Int32.ofNat (own_g (own_labs P) i1))), .val (.int (Int32.ofNat (own_g (own_labs P) i2))), .val (.int (Int32.ofNat (min (own_g (own_labs P) i1) (own_g (own_labs P) i2)))), .val (.int (Int32.ofNat (max (own_g (own_labs P) i1) (own_g (own_labs P) i2))))] [(.int (Int32.ofNat (max (own_g (own_labs P) i1) (own_g (own_labs P) i2)))), (.int (Int32.ofNat (own_g P32 1))), (.int (1 : Int32)), (.ref a2)])) t → Steps p.tables e below (s₁.setTop (entryFrame m #[(.ref a1), (.ref a2), (.int p3)] 9)) t := fun t k => go40 t (by
      show Steps p.tables e below (T32.setTop (mkF m 75 #[.val (.ref a1), .val (.ref a2), .val (.int p3), .val (.int (Int32.ofNat i1)), .val (.int (Int32.ofNat i2)), .val (.int (Int32.ofNat (own_g (own_labs P) i1))), .val (.int (Int32.ofNat (own_g (own_labs P) i2))), .val (.int (Int32.ofNat (min (own_g (own_labs P) i1) (own_g (own_labs P) i2)))), .val (.int (Int32.ofNat (max (own_g (own_labs P) i1) (own_g (own_labs P) i2))))] [(.int (Int32.ofNat (own_g P32 1))), (.int (1 : Int32)), (.ref a2)])) _
      refine XS.iload X32.here hx rfl (hb hby sp_75) rfl ?_
      exact k)
    by_cases hc42 : (Int32.ofNat (own_g P32 1)) = (Int32.ofNat (max (own_g (own_labs P) i1) (own_g (own_labs P) i2)))
    · have go43 : ∀ t, Steps p.tables e below (T32.setTop (mkF m 88 #[.val (.ref a1), .val (.ref a2), .val (.int p3), .val (.int (Int32.ofNat i1)), .val (.int (Int32.ofNat i2)), .val (.int (Int32.ofNat (own_g (own_labs P) i1))), .val (.int (Int32.ofNat (own_g (own_labs P) i2))), .val (.int (Int32.ofNat (min (own_g (own_labs P) i1) (own_g (own_labs P) i2)))), .val (.int (Int32.ofNat (max (own_g (own_labs P) i1) (own_g (own_labs P) i2))))] [(.int (Int32.ofNat (min (own_g (own_labs P) i1) (own_g (own_labs P) i2)))), (.int (1 : Int32)), (.ref a2)])) t → Steps p.tables e below (s₁.setTop (entryFrame m #[(.ref a1), (.ref a2), (.int p3)] 9)) t := fun t k => go41 t (by
        show Steps p.tables e below (T32.setTop (mkF m 77 #[.val (.ref a1), .val (.ref a2), .val (.int p3), .val (.int (Int32.ofNat i1)), .val (.int (Int32.ofNat i2)), .val (.int (Int32.ofNat (own_g (own_labs P) i1))), .val (.int (Int32.ofNat (own_g (own_labs P) i2))), .val (.int (Int32.ofNat (min (own_g (own_labs P) i1) (own_g (own_labs P) i2)))), .val (.int (Int32.ofNat (max (own_g (own_labs P) i1) (own_g (own_labs P) i2))))] [(.int (Int32.ofNat (max (own_g (own_labs P) i1) (own_g (own_labs P) i2)))), (.int (Int32.ofNat (own_g P32 1))), (.int (1 : Int32)), (.ref a2)])) _
        refine XS.icmpNo X32.here hx rfl (hb hby sp_77) rfl (teq hc42).2 ?_
        show Steps p.tables e below (T32.setTop (mkF m 80 #[.val (.ref a1), .val (.ref a2), .val (.int p3), .val (.int (Int32.ofNat i1)), .val (.int (Int32.ofNat i2)), .val (.int (Int32.ofNat (own_g (own_labs P) i1))), .val (.int (Int32.ofNat (own_g (own_labs P) i2))), .val (.int (Int32.ofNat (min (own_g (own_labs P) i1) (own_g (own_labs P) i2)))), .val (.int (Int32.ofNat (max (own_g (own_labs P) i1) (own_g (own_labs P) i2))))] [(.int (1 : Int32)), (.ref a2)])) _
        refine XS.iload X32.here hx rfl (hb hby sp_80) rfl ?_
        show Steps p.tables e below (T32.setTop (mkF m 82 #[.val (.ref a1), .val (.ref a2), .val (.int p3), .val (.int (Int32.ofNat i1)), .val (.int (Int32.ofNat i2)), .val (.int (Int32.ofNat (own_g (own_labs P) i1))), .val (.int (Int32.ofNat (own_g (own_labs P) i2))), .val (.int (Int32.ofNat (min (own_g (own_labs P) i1) (own_g (own_labs P) i2)))), .val (.int (Int32.ofNat (max (own_g (own_labs P) i1) (own_g (own_labs P) i2))))] [(.int (Int32.ofNat (min (own_g (own_labs P) i1) (own_g (own_labs P) i2)))), (.int (1 : Int32)), (.ref a2)])) _
        refine XS.goto X32.here hx rfl (pc0 := 82) (pc' := 88) rfl (hb hby sp_82) (by decide) (by decide) ?_
        exact k)
      exact ⟨(Int32.ofNat (min (own_g (own_labs P) i1) (own_g (own_labs P) i2))), (show (Int32.ofNat (min (own_g (own_labs P) i1) (own_g (own_labs P) i2))) = (Int32.ofNat (own_up P32 1 (min (own_g (own_labs P) i1) (own_g (own_labs P) i2)) (max (own_g (own_labs P) i1) (own_g (own_labs P) i2)))) by unfold own_up; rw [if_pos (own_inj (by rw [hP32, own_set_ne (show 0 ≠ 1 from by decide)]; exact own_lab5 hM (by decide)) (own_max5 (own_lab5 hM hi1) (own_lab5 hM hi2)) hc42)]), go43⟩
    · have go45 : ∀ t, Steps p.tables e below (T32.setTop (mkF m 87 #[.val (.ref a1), .val (.ref a2), .val (.int p3), .val (.int (Int32.ofNat i1)), .val (.int (Int32.ofNat i2)), .val (.int (Int32.ofNat (own_g (own_labs P) i1))), .val (.int (Int32.ofNat (own_g (own_labs P) i2))), .val (.int (Int32.ofNat (min (own_g (own_labs P) i1) (own_g (own_labs P) i2)))), .val (.int (Int32.ofNat (max (own_g (own_labs P) i1) (own_g (own_labs P) i2))))] [(.int (1 : Int32)), (.ref a2), (.int (1 : Int32)), (.ref a2)])) t → Steps p.tables e below (s₁.setTop (entryFrame m #[(.ref a1), (.ref a2), (.int p3)] 9)) t := fun t k => go41 t (by
        show Steps p.tables e below (T32.setTop (mkF m 77 #[.val (.ref a1), .val (.ref a2), .val (.int p3), .val (.int (Int32.ofNat i1)), .val (.int (Int32.ofNat i2)), .val (.int (Int32.ofNat (own_g (own_labs P) i1))), .val (.int (Int32.ofNat (own_g (own_labs P) i2))), .val (.int (Int32.ofNat (min (own_g (own_labs P) i1) (own_g (own_labs P) i2)))), .val (.int (Int32.ofNat (max (own_g (own_labs P) i1) (own_g (own_labs P) i2))))] [(.int (Int32.ofNat (max (own_g (own_labs P) i1) (own_g (own_labs P) i2)))), (.int (Int32.ofNat (own_g P32 1))), (.int (1 : Int32)), (.ref a2)])) _
        refine XS.icmpYes X32.here hx rfl (pc0 := 77) (pc' := 85) rfl (hb hby sp_77) rfl (feq hc42).2 (by decide) (by decide) ?_
        show Steps p.tables e below (T32.setTop (mkF m 85 #[.val (.ref a1), .val (.ref a2), .val (.int p3), .val (.int (Int32.ofNat i1)), .val (.int (Int32.ofNat i2)), .val (.int (Int32.ofNat (own_g (own_labs P) i1))), .val (.int (Int32.ofNat (own_g (own_labs P) i2))), .val (.int (Int32.ofNat (min (own_g (own_labs P) i1) (own_g (own_labs P) i2)))), .val (.int (Int32.ofNat (max (own_g (own_labs P) i1) (own_g (own_labs P) i2))))] [(.int (1 : Int32)), (.ref a2)])) _
        refine XS.aloadN X32.here hx rfl (hb hby sp_85) rfl rfl ?_
        show Steps p.tables e below (T32.setTop (mkF m 86 #[.val (.ref a1), .val (.ref a2), .val (.int p3), .val (.int (Int32.ofNat i1)), .val (.int (Int32.ofNat i2)), .val (.int (Int32.ofNat (own_g (own_labs P) i1))), .val (.int (Int32.ofNat (own_g (own_labs P) i2))), .val (.int (Int32.ofNat (min (own_g (own_labs P) i1) (own_g (own_labs P) i2)))), .val (.int (Int32.ofNat (max (own_g (own_labs P) i1) (own_g (own_labs P) i2))))] [(.ref a2), (.int (1 : Int32)), (.ref a2)])) _
        refine XS.iconst X32.here hx rfl (hb hby sp_86) ?_
        exact k)
      obtain ⟨cl44, Ar44, q44, S44, M44, H44, G44⟩ := id V32
      have go46 : ∀ t, Steps p.tables e below (T32.setTop (mkF m 88 #[.val (.ref a1), .val (.ref a2), .val (.int p3), .val (.int (Int32.ofNat i1)), .val (.int (Int32.ofNat i2)), .val (.int (Int32.ofNat (own_g (own_labs P) i1))), .val (.int (Int32.ofNat (own_g (own_labs P) i2))), .val (.int (Int32.ofNat (min (own_g (own_labs P) i1) (own_g (own_labs P) i2)))), .val (.int (Int32.ofNat (max (own_g (own_labs P) i1) (own_g (own_labs P) i2))))] [(.int (Int32.ofNat (own_g P32 1))), (.int (1 : Int32)), (.ref a2)])) t → Steps p.tables e below (s₁.setTop (entryFrame m #[(.ref a1), (.ref a2), (.int p3)] 9)) t := fun t k => go45 t (by
        show Steps p.tables e below (T32.setTop (mkF m 87 #[.val (.ref a1), .val (.ref a2), .val (.int p3), .val (.int (Int32.ofNat i1)), .val (.int (Int32.ofNat i2)), .val (.int (Int32.ofNat (own_g (own_labs P) i1))), .val (.int (Int32.ofNat (own_g (own_labs P) i2))), .val (.int (Int32.ofNat (min (own_g (own_labs P) i1) (own_g (own_labs P) i2)))), .val (.int (Int32.ofNat (max (own_g (own_labs P) i1) (own_g (own_labs P) i2))))] [(.int (1 : Int32)), (.ref a2), (.int (1 : Int32)), (.ref a2)])) _
        refine X32.iaload hx (j := (Int32.ofNat 1)) (v := (.int (Int32.ofNat (own_g P32 1)))) (by rw [e32]; exact Ar44.1) (State.isArrayOf_alike hZ.alike Ar44.2.1) Ar44.2.2 (inb_of S44 (own_ix (show 1 < 5 from by decide))) (H44.at (inb_of S44 (own_ix (show 1 < 5 from by decide))) (own_at P32 (show 1 < 5 from by decide))) (g := (mkF m 87 #[.val (.ref a1), .val (.ref a2), .val (.int p3), .val (.int (Int32.ofNat i1)), .val (.int (Int32.ofNat i2)), .val (.int (Int32.ofNat (own_g (own_labs P) i1))), .val (.int (Int32.ofNat (own_g (own_labs P) i2))), .val (.int (Int32.ofNat (min (own_g (own_labs P) i1) (own_g (own_labs P) i2)))), .val (.int (Int32.ofNat (max (own_g (own_labs P) i1) (own_g (own_labs P) i2))))] [(.int (1 : Int32)), (.ref a2), (.int (1 : Int32)), (.ref a2)])) rfl rfl (hb hby sp_87) _ ?_
        exact k)
      exact ⟨(Int32.ofNat (own_g P32 1)), (show (Int32.ofNat (own_g P32 1)) = (Int32.ofNat (own_up P32 1 (min (own_g (own_labs P) i1) (own_g (own_labs P) i2)) (max (own_g (own_labs P) i1) (own_g (own_labs P) i2)))) by unfold own_up; rw [if_neg (fun q => hc42 (congrArg Int32.ofNat q))]), go46⟩
  rw [hx1] at go47
  obtain ⟨cl48, Ar48, q48, S48, M48, H48, G48⟩ := id V32
  obtain ⟨T48, h48, X48, e48, W48, st48⟩ := stI X32 hx hZ e32 Ar48 (j := (Int32.ofNat 1)) (x := (Int32.ofNat (own_up P32 1 (min (own_g (own_labs P) i1) (own_g (own_labs P) i2)) (max (own_g (own_labs P) i1) (own_g (own_labs P) i2))))) (inb_of S48 (own_ix (show 1 < 5 from by decide))) (g := (mkF m 88 #[.val (.ref a1), .val (.ref a2), .val (.int p3), .val (.int (Int32.ofNat i1)), .val (.int (Int32.ofNat i2)), .val (.int (Int32.ofNat (own_g (own_labs P) i1))), .val (.int (Int32.ofNat (own_g (own_labs P) i2))), .val (.int (Int32.ofNat (min (own_g (own_labs P) i1) (own_g (own_labs P) i2)))), .val (.int (Int32.ofNat (max (own_g (own_labs P) i1) (own_g (own_labs P) i2))))] [(.int (Int32.ofNat (own_up P32 1 (min (own_g (own_labs P) i1) (own_g (own_labs P) i2)) (max (own_g (own_labs P) i1) (own_g (own_labs P) i2))))), (.int (1 : Int32)), (.ref a2)])) rfl rfl (hb hby sp_88)
  obtain ⟨P48, hP48⟩ : ∃ z, z = List.set P32 1 (own_up P32 1 (min (own_g (own_labs P) i1) (own_g (own_labs P) i2)) (max (own_g (own_labs P) i1) (own_g (own_labs P) i2))) := ⟨_, rfl⟩
  have ln48 : P48.length = 5 := by rw [hP48, List.length_set]; exact ln32
  have V48 : Arv Z h48 a2 kB .int (5 : Int32) (own_pv P48) (.int (0 : Int32)) := by rw [hP48, own_pvset]; exact Arv.set Ar48 q48 S48 M48 H48 G48 rfl W48 1 (own_tn (show 1 < 5 from by decide)) (by rw [own_pvlen, ln32]; exact (show 1 < 5 from by decide))
  have N48 := Fr.snoc X48 N32 g3
  have f49 := f33.other W48 (Or.inl ne2)
  have f50 := f34.wr W48
  have f51 := f35.other W48 ne3
  have f52 := (f36).wr W48 (Or.inl (List.mem_of_getElem? (i := 1) rfl))
  have go53 : ∀ t, Steps p.tables e below (T48.setTop (mkF m 89 #[.val (.ref a1), .val (.ref a2), .val (.int p3), .val (.int (Int32.ofNat i1)), .val (.int (Int32.ofNat i2)), .val (.int (Int32.ofNat (own_g (own_labs P) i1))), .val (.int (Int32.ofNat (own_g (own_labs P) i2))), .val (.int (Int32.ofNat (min (own_g (own_labs P) i1) (own_g (own_labs P) i2)))), .val (.int (Int32.ofNat (max (own_g (own_labs P) i1) (own_g (own_labs P) i2))))] [])) t → Steps p.tables e below (s₁.setTop (entryFrame m #[(.ref a1), (.ref a2), (.int p3)] 9)) t := fun t k => go47 t (st48 t k)
  have go54 : ∀ t, Steps p.tables e below (T48.setTop (mkF m 93 #[.val (.ref a1), .val (.ref a2), .val (.int p3), .val (.int (Int32.ofNat i1)), .val (.int (Int32.ofNat i2)), .val (.int (Int32.ofNat (own_g (own_labs P) i1))), .val (.int (Int32.ofNat (own_g (own_labs P) i2))), .val (.int (Int32.ofNat (min (own_g (own_labs P) i1) (own_g (own_labs P) i2)))), .val (.int (Int32.ofNat (max (own_g (own_labs P) i1) (own_g (own_labs P) i2))))] [(.int (2 : Int32)), (.ref a2), (.int (2 : Int32)), (.ref a2)])) t → Steps p.tables e below (s₁.setTop (entryFrame m #[(.ref a1), (.ref a2), (.int p3)] 9)) t := fun t k => go53 t (by
    show Steps p.tables e below (T48.setTop (mkF m 89 #[.val (.ref a1), .val (.ref a2), .val (.int p3), .val (.int (Int32.ofNat i1)), .val (.int (Int32.ofNat i2)), .val (.int (Int32.ofNat (own_g (own_labs P) i1))), .val (.int (Int32.ofNat (own_g (own_labs P) i2))), .val (.int (Int32.ofNat (min (own_g (own_labs P) i1) (own_g (own_labs P) i2)))), .val (.int (Int32.ofNat (max (own_g (own_labs P) i1) (own_g (own_labs P) i2))))] [])) _
    refine XS.aloadN X48.here hx rfl (hb hby sp_89) rfl rfl ?_
    show Steps p.tables e below (T48.setTop (mkF m 90 #[.val (.ref a1), .val (.ref a2), .val (.int p3), .val (.int (Int32.ofNat i1)), .val (.int (Int32.ofNat i2)), .val (.int (Int32.ofNat (own_g (own_labs P) i1))), .val (.int (Int32.ofNat (own_g (own_labs P) i2))), .val (.int (Int32.ofNat (min (own_g (own_labs P) i1) (own_g (own_labs P) i2)))), .val (.int (Int32.ofNat (max (own_g (own_labs P) i1) (own_g (own_labs P) i2))))] [(.ref a2)])) _
    refine XS.iconst X48.here hx rfl (hb hby sp_90) ?_
    show Steps p.tables e below (T48.setTop (mkF m 91 #[.val (.ref a1), .val (.ref a2), .val (.int p3), .val (.int (Int32.ofNat i1)), .val (.int (Int32.ofNat i2)), .val (.int (Int32.ofNat (own_g (own_labs P) i1))), .val (.int (Int32.ofNat (own_g (own_labs P) i2))), .val (.int (Int32.ofNat (min (own_g (own_labs P) i1) (own_g (own_labs P) i2)))), .val (.int (Int32.ofNat (max (own_g (own_labs P) i1) (own_g (own_labs P) i2))))] [(.int (2 : Int32)), (.ref a2)])) _
    refine XS.aloadN X48.here hx rfl (hb hby sp_91) rfl rfl ?_
    show Steps p.tables e below (T48.setTop (mkF m 92 #[.val (.ref a1), .val (.ref a2), .val (.int p3), .val (.int (Int32.ofNat i1)), .val (.int (Int32.ofNat i2)), .val (.int (Int32.ofNat (own_g (own_labs P) i1))), .val (.int (Int32.ofNat (own_g (own_labs P) i2))), .val (.int (Int32.ofNat (min (own_g (own_labs P) i1) (own_g (own_labs P) i2)))), .val (.int (Int32.ofNat (max (own_g (own_labs P) i1) (own_g (own_labs P) i2))))] [(.ref a2), (.int (2 : Int32)), (.ref a2)])) _
    refine XS.iconst X48.here hx rfl (hb hby sp_92) ?_
    exact k)
  obtain ⟨x2, hx2, go63⟩ : ∃ x2 : Int32, x2 = (Int32.ofNat (own_up P48 2 (min (own_g (own_labs P) i1) (own_g (own_labs P) i2)) (max (own_g (own_labs P) i1) (own_g (own_labs P) i2)))) ∧ ∀ t, Steps p.tables e below (T48.setTop (mkF m 107 #[.val (.ref a1), .val (.ref a2), .val (.int p3), .val (.int (Int32.ofNat i1)), .val (.int (Int32.ofNat i2)), .val (.int (Int32.ofNat (own_g (own_labs P) i1))), .val (.int (Int32.ofNat (own_g (own_labs P) i2))), .val (.int (Int32.ofNat (min (own_g (own_labs P) i1) (own_g (own_labs P) i2)))), .val (.int (Int32.ofNat (max (own_g (own_labs P) i1) (own_g (own_labs P) i2))))] [(.int x2), (.int (2 : Int32)), (.ref a2)])) t → Steps p.tables e below (s₁.setTop (entryFrame m #[(.ref a1), (.ref a2), (.int p3)] 9)) t := by
    obtain ⟨cl55, Ar55, q55, S55, M55, H55, G55⟩ := id V48
    have go56 : ∀ t, Steps p.tables e below (T48.setTop (mkF m 94 #[.val (.ref a1), .val (.ref a2), .val (.int p3), .val (.int (Int32.ofNat i1)), .val (.int (Int32.ofNat i2)), .val (.int (Int32.ofNat (own_g (own_labs P) i1))), .val (.int (Int32.ofNat (own_g (own_labs P) i2))), .val (.int (Int32.ofNat (min (own_g (own_labs P) i1) (own_g (own_labs P) i2)))), .val (.int (Int32.ofNat (max (own_g (own_labs P) i1) (own_g (own_labs P) i2))))] [(.int (Int32.ofNat (own_g P48 2))), (.int (2 : Int32)), (.ref a2)])) t → Steps p.tables e below (s₁.setTop (entryFrame m #[(.ref a1), (.ref a2), (.int p3)] 9)) t := fun t k => go54 t (by
      show Steps p.tables e below (T48.setTop (mkF m 93 #[.val (.ref a1), .val (.ref a2), .val (.int p3), .val (.int (Int32.ofNat i1)), .val (.int (Int32.ofNat i2)), .val (.int (Int32.ofNat (own_g (own_labs P) i1))), .val (.int (Int32.ofNat (own_g (own_labs P) i2))), .val (.int (Int32.ofNat (min (own_g (own_labs P) i1) (own_g (own_labs P) i2)))), .val (.int (Int32.ofNat (max (own_g (own_labs P) i1) (own_g (own_labs P) i2))))] [(.int (2 : Int32)), (.ref a2), (.int (2 : Int32)), (.ref a2)])) _
      refine X48.iaload hx (j := (Int32.ofNat 2)) (v := (.int (Int32.ofNat (own_g P48 2)))) (by rw [e48]; exact Ar55.1) (State.isArrayOf_alike hZ.alike Ar55.2.1) Ar55.2.2 (inb_of S55 (own_ix (show 2 < 5 from by decide))) (H55.at (inb_of S55 (own_ix (show 2 < 5 from by decide))) (own_at P48 (show 2 < 5 from by decide))) (g := (mkF m 93 #[.val (.ref a1), .val (.ref a2), .val (.int p3), .val (.int (Int32.ofNat i1)), .val (.int (Int32.ofNat i2)), .val (.int (Int32.ofNat (own_g (own_labs P) i1))), .val (.int (Int32.ofNat (own_g (own_labs P) i2))), .val (.int (Int32.ofNat (min (own_g (own_labs P) i1) (own_g (own_labs P) i2)))), .val (.int (Int32.ofNat (max (own_g (own_labs P) i1) (own_g (own_labs P) i2))))] [(.int (2 : Int32)), (.ref a2), (.int (2 : Int32)), (.ref a2)])) rfl rfl (hb hby sp_93) _ ?_
      exact k)
    have go57 : ∀ t, Steps p.tables e below (T48.setTop (mkF m 96 #[.val (.ref a1), .val (.ref a2), .val (.int p3), .val (.int (Int32.ofNat i1)), .val (.int (Int32.ofNat i2)), .val (.int (Int32.ofNat (own_g (own_labs P) i1))), .val (.int (Int32.ofNat (own_g (own_labs P) i2))), .val (.int (Int32.ofNat (min (own_g (own_labs P) i1) (own_g (own_labs P) i2)))), .val (.int (Int32.ofNat (max (own_g (own_labs P) i1) (own_g (own_labs P) i2))))] [(.int (Int32.ofNat (max (own_g (own_labs P) i1) (own_g (own_labs P) i2)))), (.int (Int32.ofNat (own_g P48 2))), (.int (2 : Int32)), (.ref a2)])) t → Steps p.tables e below (s₁.setTop (entryFrame m #[(.ref a1), (.ref a2), (.int p3)] 9)) t := fun t k => go56 t (by
      show Steps p.tables e below (T48.setTop (mkF m 94 #[.val (.ref a1), .val (.ref a2), .val (.int p3), .val (.int (Int32.ofNat i1)), .val (.int (Int32.ofNat i2)), .val (.int (Int32.ofNat (own_g (own_labs P) i1))), .val (.int (Int32.ofNat (own_g (own_labs P) i2))), .val (.int (Int32.ofNat (min (own_g (own_labs P) i1) (own_g (own_labs P) i2)))), .val (.int (Int32.ofNat (max (own_g (own_labs P) i1) (own_g (own_labs P) i2))))] [(.int (Int32.ofNat (own_g P48 2))), (.int (2 : Int32)), (.ref a2)])) _
      refine XS.iload X48.here hx rfl (hb hby sp_94) rfl ?_
      exact k)
    by_cases hc58 : (Int32.ofNat (own_g P48 2)) = (Int32.ofNat (max (own_g (own_labs P) i1) (own_g (own_labs P) i2)))
    · have go59 : ∀ t, Steps p.tables e below (T48.setTop (mkF m 107 #[.val (.ref a1), .val (.ref a2), .val (.int p3), .val (.int (Int32.ofNat i1)), .val (.int (Int32.ofNat i2)), .val (.int (Int32.ofNat (own_g (own_labs P) i1))), .val (.int (Int32.ofNat (own_g (own_labs P) i2))), .val (.int (Int32.ofNat (min (own_g (own_labs P) i1) (own_g (own_labs P) i2)))), .val (.int (Int32.ofNat (max (own_g (own_labs P) i1) (own_g (own_labs P) i2))))] [(.int (Int32.ofNat (min (own_g (own_labs P) i1) (own_g (own_labs P) i2)))), (.int (2 : Int32)), (.ref a2)])) t → Steps p.tables e below (s₁.setTop (entryFrame m #[(.ref a1), (.ref a2), (.int p3)] 9)) t := fun t k => go57 t (by
        show Steps p.tables e below (T48.setTop (mkF m 96 #[.val (.ref a1), .val (.ref a2), .val (.int p3), .val (.int (Int32.ofNat i1)), .val (.int (Int32.ofNat i2)), .val (.int (Int32.ofNat (own_g (own_labs P) i1))), .val (.int (Int32.ofNat (own_g (own_labs P) i2))), .val (.int (Int32.ofNat (min (own_g (own_labs P) i1) (own_g (own_labs P) i2)))), .val (.int (Int32.ofNat (max (own_g (own_labs P) i1) (own_g (own_labs P) i2))))] [(.int (Int32.ofNat (max (own_g (own_labs P) i1) (own_g (own_labs P) i2)))), (.int (Int32.ofNat (own_g P48 2))), (.int (2 : Int32)), (.ref a2)])) _
        refine XS.icmpNo X48.here hx rfl (hb hby sp_96) rfl (teq hc58).2 ?_
        show Steps p.tables e below (T48.setTop (mkF m 99 #[.val (.ref a1), .val (.ref a2), .val (.int p3), .val (.int (Int32.ofNat i1)), .val (.int (Int32.ofNat i2)), .val (.int (Int32.ofNat (own_g (own_labs P) i1))), .val (.int (Int32.ofNat (own_g (own_labs P) i2))), .val (.int (Int32.ofNat (min (own_g (own_labs P) i1) (own_g (own_labs P) i2)))), .val (.int (Int32.ofNat (max (own_g (own_labs P) i1) (own_g (own_labs P) i2))))] [(.int (2 : Int32)), (.ref a2)])) _
        refine XS.iload X48.here hx rfl (hb hby sp_99) rfl ?_
        show Steps p.tables e below (T48.setTop (mkF m 101 #[.val (.ref a1), .val (.ref a2), .val (.int p3), .val (.int (Int32.ofNat i1)), .val (.int (Int32.ofNat i2)), .val (.int (Int32.ofNat (own_g (own_labs P) i1))), .val (.int (Int32.ofNat (own_g (own_labs P) i2))), .val (.int (Int32.ofNat (min (own_g (own_labs P) i1) (own_g (own_labs P) i2)))), .val (.int (Int32.ofNat (max (own_g (own_labs P) i1) (own_g (own_labs P) i2))))] [(.int (Int32.ofNat (min (own_g (own_labs P) i1) (own_g (own_labs P) i2)))), (.int (2 : Int32)), (.ref a2)])) _
        refine XS.goto X48.here hx rfl (pc0 := 101) (pc' := 107) rfl (hb hby sp_101) (by decide) (by decide) ?_
        exact k)
      exact ⟨(Int32.ofNat (min (own_g (own_labs P) i1) (own_g (own_labs P) i2))), (show (Int32.ofNat (min (own_g (own_labs P) i1) (own_g (own_labs P) i2))) = (Int32.ofNat (own_up P48 2 (min (own_g (own_labs P) i1) (own_g (own_labs P) i2)) (max (own_g (own_labs P) i1) (own_g (own_labs P) i2)))) by unfold own_up; rw [if_pos (own_inj (by rw [hP48, own_set_ne (show 1 ≠ 2 from by decide), hP32, own_set_ne (show 0 ≠ 2 from by decide)]; exact own_lab5 hM (by decide)) (own_max5 (own_lab5 hM hi1) (own_lab5 hM hi2)) hc58)]), go59⟩
    · have go61 : ∀ t, Steps p.tables e below (T48.setTop (mkF m 106 #[.val (.ref a1), .val (.ref a2), .val (.int p3), .val (.int (Int32.ofNat i1)), .val (.int (Int32.ofNat i2)), .val (.int (Int32.ofNat (own_g (own_labs P) i1))), .val (.int (Int32.ofNat (own_g (own_labs P) i2))), .val (.int (Int32.ofNat (min (own_g (own_labs P) i1) (own_g (own_labs P) i2)))), .val (.int (Int32.ofNat (max (own_g (own_labs P) i1) (own_g (own_labs P) i2))))] [(.int (2 : Int32)), (.ref a2), (.int (2 : Int32)), (.ref a2)])) t → Steps p.tables e below (s₁.setTop (entryFrame m #[(.ref a1), (.ref a2), (.int p3)] 9)) t := fun t k => go57 t (by
        show Steps p.tables e below (T48.setTop (mkF m 96 #[.val (.ref a1), .val (.ref a2), .val (.int p3), .val (.int (Int32.ofNat i1)), .val (.int (Int32.ofNat i2)), .val (.int (Int32.ofNat (own_g (own_labs P) i1))), .val (.int (Int32.ofNat (own_g (own_labs P) i2))), .val (.int (Int32.ofNat (min (own_g (own_labs P) i1) (own_g (own_labs P) i2)))), .val (.int (Int32.ofNat (max (own_g (own_labs P) i1) (own_g (own_labs P) i2))))] [(.int (Int32.ofNat (max (own_g (own_labs P) i1) (own_g (own_labs P) i2)))), (.int (Int32.ofNat (own_g P48 2))), (.int (2 : Int32)), (.ref a2)])) _
        refine XS.icmpYes X48.here hx rfl (pc0 := 96) (pc' := 104) rfl (hb hby sp_96) rfl (feq hc58).2 (by decide) (by decide) ?_
        show Steps p.tables e below (T48.setTop (mkF m 104 #[.val (.ref a1), .val (.ref a2), .val (.int p3), .val (.int (Int32.ofNat i1)), .val (.int (Int32.ofNat i2)), .val (.int (Int32.ofNat (own_g (own_labs P) i1))), .val (.int (Int32.ofNat (own_g (own_labs P) i2))), .val (.int (Int32.ofNat (min (own_g (own_labs P) i1) (own_g (own_labs P) i2)))), .val (.int (Int32.ofNat (max (own_g (own_labs P) i1) (own_g (own_labs P) i2))))] [(.int (2 : Int32)), (.ref a2)])) _
        refine XS.aloadN X48.here hx rfl (hb hby sp_104) rfl rfl ?_
        show Steps p.tables e below (T48.setTop (mkF m 105 #[.val (.ref a1), .val (.ref a2), .val (.int p3), .val (.int (Int32.ofNat i1)), .val (.int (Int32.ofNat i2)), .val (.int (Int32.ofNat (own_g (own_labs P) i1))), .val (.int (Int32.ofNat (own_g (own_labs P) i2))), .val (.int (Int32.ofNat (min (own_g (own_labs P) i1) (own_g (own_labs P) i2)))), .val (.int (Int32.ofNat (max (own_g (own_labs P) i1) (own_g (own_labs P) i2))))] [(.ref a2), (.int (2 : Int32)), (.ref a2)])) _
        refine XS.iconst X48.here hx rfl (hb hby sp_105) ?_
        exact k)
      obtain ⟨cl60, Ar60, q60, S60, M60, H60, G60⟩ := id V48
      have go62 : ∀ t, Steps p.tables e below (T48.setTop (mkF m 107 #[.val (.ref a1), .val (.ref a2), .val (.int p3), .val (.int (Int32.ofNat i1)), .val (.int (Int32.ofNat i2)), .val (.int (Int32.ofNat (own_g (own_labs P) i1))), .val (.int (Int32.ofNat (own_g (own_labs P) i2))), .val (.int (Int32.ofNat (min (own_g (own_labs P) i1) (own_g (own_labs P) i2)))), .val (.int (Int32.ofNat (max (own_g (own_labs P) i1) (own_g (own_labs P) i2))))] [(.int (Int32.ofNat (own_g P48 2))), (.int (2 : Int32)), (.ref a2)])) t → Steps p.tables e below (s₁.setTop (entryFrame m #[(.ref a1), (.ref a2), (.int p3)] 9)) t := fun t k => go61 t (by
        show Steps p.tables e below (T48.setTop (mkF m 106 #[.val (.ref a1), .val (.ref a2), .val (.int p3), .val (.int (Int32.ofNat i1)), .val (.int (Int32.ofNat i2)), .val (.int (Int32.ofNat (own_g (own_labs P) i1))), .val (.int (Int32.ofNat (own_g (own_labs P) i2))), .val (.int (Int32.ofNat (min (own_g (own_labs P) i1) (own_g (own_labs P) i2)))), .val (.int (Int32.ofNat (max (own_g (own_labs P) i1) (own_g (own_labs P) i2))))] [(.int (2 : Int32)), (.ref a2), (.int (2 : Int32)), (.ref a2)])) _
        refine X48.iaload hx (j := (Int32.ofNat 2)) (v := (.int (Int32.ofNat (own_g P48 2)))) (by rw [e48]; exact Ar60.1) (State.isArrayOf_alike hZ.alike Ar60.2.1) Ar60.2.2 (inb_of S60 (own_ix (show 2 < 5 from by decide))) (H60.at (inb_of S60 (own_ix (show 2 < 5 from by decide))) (own_at P48 (show 2 < 5 from by decide))) (g := (mkF m 106 #[.val (.ref a1), .val (.ref a2), .val (.int p3), .val (.int (Int32.ofNat i1)), .val (.int (Int32.ofNat i2)), .val (.int (Int32.ofNat (own_g (own_labs P) i1))), .val (.int (Int32.ofNat (own_g (own_labs P) i2))), .val (.int (Int32.ofNat (min (own_g (own_labs P) i1) (own_g (own_labs P) i2)))), .val (.int (Int32.ofNat (max (own_g (own_labs P) i1) (own_g (own_labs P) i2))))] [(.int (2 : Int32)), (.ref a2), (.int (2 : Int32)), (.ref a2)])) rfl rfl (hb hby sp_106) _ ?_
        exact k)
      exact ⟨(Int32.ofNat (own_g P48 2)), (show (Int32.ofNat (own_g P48 2)) = (Int32.ofNat (own_up P48 2 (min (own_g (own_labs P) i1) (own_g (own_labs P) i2)) (max (own_g (own_labs P) i1) (own_g (own_labs P) i2)))) by unfold own_up; rw [if_neg (fun q => hc58 (congrArg Int32.ofNat q))]), go62⟩
  rw [hx2] at go63
  obtain ⟨cl64, Ar64, q64, S64, M64, H64, G64⟩ := id V48
  obtain ⟨T64, h64, X64, e64, W64, st64⟩ := stI X48 hx hZ e48 Ar64 (j := (Int32.ofNat 2)) (x := (Int32.ofNat (own_up P48 2 (min (own_g (own_labs P) i1) (own_g (own_labs P) i2)) (max (own_g (own_labs P) i1) (own_g (own_labs P) i2))))) (inb_of S64 (own_ix (show 2 < 5 from by decide))) (g := (mkF m 107 #[.val (.ref a1), .val (.ref a2), .val (.int p3), .val (.int (Int32.ofNat i1)), .val (.int (Int32.ofNat i2)), .val (.int (Int32.ofNat (own_g (own_labs P) i1))), .val (.int (Int32.ofNat (own_g (own_labs P) i2))), .val (.int (Int32.ofNat (min (own_g (own_labs P) i1) (own_g (own_labs P) i2)))), .val (.int (Int32.ofNat (max (own_g (own_labs P) i1) (own_g (own_labs P) i2))))] [(.int (Int32.ofNat (own_up P48 2 (min (own_g (own_labs P) i1) (own_g (own_labs P) i2)) (max (own_g (own_labs P) i1) (own_g (own_labs P) i2))))), (.int (2 : Int32)), (.ref a2)])) rfl rfl (hb hby sp_107)
  obtain ⟨P64, hP64⟩ : ∃ z, z = List.set P48 2 (own_up P48 2 (min (own_g (own_labs P) i1) (own_g (own_labs P) i2)) (max (own_g (own_labs P) i1) (own_g (own_labs P) i2))) := ⟨_, rfl⟩
  have ln64 : P64.length = 5 := by rw [hP64, List.length_set]; exact ln48
  have V64 : Arv Z h64 a2 kB .int (5 : Int32) (own_pv P64) (.int (0 : Int32)) := by rw [hP64, own_pvset]; exact Arv.set Ar64 q64 S64 M64 H64 G64 rfl W64 2 (own_tn (show 2 < 5 from by decide)) (by rw [own_pvlen, ln48]; exact (show 2 < 5 from by decide))
  have N64 := Fr.snoc X64 N48 g3
  have f65 := f49.other W64 (Or.inl ne2)
  have f66 := f50.wr W64
  have f67 := f51.other W64 ne3
  have f68 := (f52).wr W64 (Or.inl (List.mem_of_getElem? (i := 1) rfl))
  have go69 : ∀ t, Steps p.tables e below (T64.setTop (mkF m 108 #[.val (.ref a1), .val (.ref a2), .val (.int p3), .val (.int (Int32.ofNat i1)), .val (.int (Int32.ofNat i2)), .val (.int (Int32.ofNat (own_g (own_labs P) i1))), .val (.int (Int32.ofNat (own_g (own_labs P) i2))), .val (.int (Int32.ofNat (min (own_g (own_labs P) i1) (own_g (own_labs P) i2)))), .val (.int (Int32.ofNat (max (own_g (own_labs P) i1) (own_g (own_labs P) i2))))] [])) t → Steps p.tables e below (s₁.setTop (entryFrame m #[(.ref a1), (.ref a2), (.int p3)] 9)) t := fun t k => go63 t (st64 t k)
  have go70 : ∀ t, Steps p.tables e below (T64.setTop (mkF m 112 #[.val (.ref a1), .val (.ref a2), .val (.int p3), .val (.int (Int32.ofNat i1)), .val (.int (Int32.ofNat i2)), .val (.int (Int32.ofNat (own_g (own_labs P) i1))), .val (.int (Int32.ofNat (own_g (own_labs P) i2))), .val (.int (Int32.ofNat (min (own_g (own_labs P) i1) (own_g (own_labs P) i2)))), .val (.int (Int32.ofNat (max (own_g (own_labs P) i1) (own_g (own_labs P) i2))))] [(.int (3 : Int32)), (.ref a2), (.int (3 : Int32)), (.ref a2)])) t → Steps p.tables e below (s₁.setTop (entryFrame m #[(.ref a1), (.ref a2), (.int p3)] 9)) t := fun t k => go69 t (by
    show Steps p.tables e below (T64.setTop (mkF m 108 #[.val (.ref a1), .val (.ref a2), .val (.int p3), .val (.int (Int32.ofNat i1)), .val (.int (Int32.ofNat i2)), .val (.int (Int32.ofNat (own_g (own_labs P) i1))), .val (.int (Int32.ofNat (own_g (own_labs P) i2))), .val (.int (Int32.ofNat (min (own_g (own_labs P) i1) (own_g (own_labs P) i2)))), .val (.int (Int32.ofNat (max (own_g (own_labs P) i1) (own_g (own_labs P) i2))))] [])) _
    refine XS.aloadN X64.here hx rfl (hb hby sp_108) rfl rfl ?_
    show Steps p.tables e below (T64.setTop (mkF m 109 #[.val (.ref a1), .val (.ref a2), .val (.int p3), .val (.int (Int32.ofNat i1)), .val (.int (Int32.ofNat i2)), .val (.int (Int32.ofNat (own_g (own_labs P) i1))), .val (.int (Int32.ofNat (own_g (own_labs P) i2))), .val (.int (Int32.ofNat (min (own_g (own_labs P) i1) (own_g (own_labs P) i2)))), .val (.int (Int32.ofNat (max (own_g (own_labs P) i1) (own_g (own_labs P) i2))))] [(.ref a2)])) _
    refine XS.iconst X64.here hx rfl (hb hby sp_109) ?_
    show Steps p.tables e below (T64.setTop (mkF m 110 #[.val (.ref a1), .val (.ref a2), .val (.int p3), .val (.int (Int32.ofNat i1)), .val (.int (Int32.ofNat i2)), .val (.int (Int32.ofNat (own_g (own_labs P) i1))), .val (.int (Int32.ofNat (own_g (own_labs P) i2))), .val (.int (Int32.ofNat (min (own_g (own_labs P) i1) (own_g (own_labs P) i2)))), .val (.int (Int32.ofNat (max (own_g (own_labs P) i1) (own_g (own_labs P) i2))))] [(.int (3 : Int32)), (.ref a2)])) _
    refine XS.aloadN X64.here hx rfl (hb hby sp_110) rfl rfl ?_
    show Steps p.tables e below (T64.setTop (mkF m 111 #[.val (.ref a1), .val (.ref a2), .val (.int p3), .val (.int (Int32.ofNat i1)), .val (.int (Int32.ofNat i2)), .val (.int (Int32.ofNat (own_g (own_labs P) i1))), .val (.int (Int32.ofNat (own_g (own_labs P) i2))), .val (.int (Int32.ofNat (min (own_g (own_labs P) i1) (own_g (own_labs P) i2)))), .val (.int (Int32.ofNat (max (own_g (own_labs P) i1) (own_g (own_labs P) i2))))] [(.ref a2), (.int (3 : Int32)), (.ref a2)])) _
    refine XS.iconst X64.here hx rfl (hb hby sp_111) ?_
    exact k)
  obtain ⟨x3, hx3, go79⟩ : ∃ x3 : Int32, x3 = (Int32.ofNat (own_up P64 3 (min (own_g (own_labs P) i1) (own_g (own_labs P) i2)) (max (own_g (own_labs P) i1) (own_g (own_labs P) i2)))) ∧ ∀ t, Steps p.tables e below (T64.setTop (mkF m 126 #[.val (.ref a1), .val (.ref a2), .val (.int p3), .val (.int (Int32.ofNat i1)), .val (.int (Int32.ofNat i2)), .val (.int (Int32.ofNat (own_g (own_labs P) i1))), .val (.int (Int32.ofNat (own_g (own_labs P) i2))), .val (.int (Int32.ofNat (min (own_g (own_labs P) i1) (own_g (own_labs P) i2)))), .val (.int (Int32.ofNat (max (own_g (own_labs P) i1) (own_g (own_labs P) i2))))] [(.int x3), (.int (3 : Int32)), (.ref a2)])) t → Steps p.tables e below (s₁.setTop (entryFrame m #[(.ref a1), (.ref a2), (.int p3)] 9)) t := by
    obtain ⟨cl71, Ar71, q71, S71, M71, H71, G71⟩ := id V64
    have go72 : ∀ t, Steps p.tables e below (T64.setTop (mkF m 113 #[.val (.ref a1), .val (.ref a2), .val (.int p3), .val (.int (Int32.ofNat i1)), .val (.int (Int32.ofNat i2)), .val (.int (Int32.ofNat (own_g (own_labs P) i1))), .val (.int (Int32.ofNat (own_g (own_labs P) i2))), .val (.int (Int32.ofNat (min (own_g (own_labs P) i1) (own_g (own_labs P) i2)))), .val (.int (Int32.ofNat (max (own_g (own_labs P) i1) (own_g (own_labs P) i2))))] [(.int (Int32.ofNat (own_g P64 3))), (.int (3 : Int32)), (.ref a2)])) t → Steps p.tables e below (s₁.setTop (entryFrame m #[(.ref a1), (.ref a2), (.int p3)] 9)) t := fun t k => go70 t (by
      show Steps p.tables e below (T64.setTop (mkF m 112 #[.val (.ref a1), .val (.ref a2), .val (.int p3), .val (.int (Int32.ofNat i1)), .val (.int (Int32.ofNat i2)), .val (.int (Int32.ofNat (own_g (own_labs P) i1))), .val (.int (Int32.ofNat (own_g (own_labs P) i2))), .val (.int (Int32.ofNat (min (own_g (own_labs P) i1) (own_g (own_labs P) i2)))), .val (.int (Int32.ofNat (max (own_g (own_labs P) i1) (own_g (own_labs P) i2))))] [(.int (3 : Int32)), (.ref a2), (.int (3 : Int32)), (.ref a2)])) _
      refine X64.iaload hx (j := (Int32.ofNat 3)) (v := (.int (Int32.ofNat (own_g P64 3)))) (by rw [e64]; exact Ar71.1) (State.isArrayOf_alike hZ.alike Ar71.2.1) Ar71.2.2 (inb_of S71 (own_ix (show 3 < 5 from by decide))) (H71.at (inb_of S71 (own_ix (show 3 < 5 from by decide))) (own_at P64 (show 3 < 5 from by decide))) (g := (mkF m 112 #[.val (.ref a1), .val (.ref a2), .val (.int p3), .val (.int (Int32.ofNat i1)), .val (.int (Int32.ofNat i2)), .val (.int (Int32.ofNat (own_g (own_labs P) i1))), .val (.int (Int32.ofNat (own_g (own_labs P) i2))), .val (.int (Int32.ofNat (min (own_g (own_labs P) i1) (own_g (own_labs P) i2)))), .val (.int (Int32.ofNat (max (own_g (own_labs P) i1) (own_g (own_labs P) i2))))] [(.int (3 : Int32)), (.ref a2), (.int (3 : Int32)), (.ref a2)])) rfl rfl (hb hby sp_112) _ ?_
      exact k)
    have go73 : ∀ t, Steps p.tables e below (T64.setTop (mkF m 115 #[.val (.ref a1), .val (.ref a2), .val (.int p3), .val (.int (Int32.ofNat i1)), .val (.int (Int32.ofNat i2)), .val (.int (Int32.ofNat (own_g (own_labs P) i1))), .val (.int (Int32.ofNat (own_g (own_labs P) i2))), .val (.int (Int32.ofNat (min (own_g (own_labs P) i1) (own_g (own_labs P) i2)))), .val (.int (Int32.ofNat (max (own_g (own_labs P) i1) (own_g (own_labs P) i2))))] [(.int (Int32.ofNat (max (own_g (own_labs P) i1) (own_g (own_labs P) i2)))), (.int (Int32.ofNat (own_g P64 3))), (.int (3 : Int32)), (.ref a2)])) t → Steps p.tables e below (s₁.setTop (entryFrame m #[(.ref a1), (.ref a2), (.int p3)] 9)) t := fun t k => go72 t (by
      show Steps p.tables e below (T64.setTop (mkF m 113 #[.val (.ref a1), .val (.ref a2), .val (.int p3), .val (.int (Int32.ofNat i1)), .val (.int (Int32.ofNat i2)), .val (.int (Int32.ofNat (own_g (own_labs P) i1))), .val (.int (Int32.ofNat (own_g (own_labs P) i2))), .val (.int (Int32.ofNat (min (own_g (own_labs P) i1) (own_g (own_labs P) i2)))), .val (.int (Int32.ofNat (max (own_g (own_labs P) i1) (own_g (own_labs P) i2))))] [(.int (Int32.ofNat (own_g P64 3))), (.int (3 : Int32)), (.ref a2)])) _
      refine XS.iload X64.here hx rfl (hb hby sp_113) rfl ?_
      exact k)
    by_cases hc74 : (Int32.ofNat (own_g P64 3)) = (Int32.ofNat (max (own_g (own_labs P) i1) (own_g (own_labs P) i2)))
    · have go75 : ∀ t, Steps p.tables e below (T64.setTop (mkF m 126 #[.val (.ref a1), .val (.ref a2), .val (.int p3), .val (.int (Int32.ofNat i1)), .val (.int (Int32.ofNat i2)), .val (.int (Int32.ofNat (own_g (own_labs P) i1))), .val (.int (Int32.ofNat (own_g (own_labs P) i2))), .val (.int (Int32.ofNat (min (own_g (own_labs P) i1) (own_g (own_labs P) i2)))), .val (.int (Int32.ofNat (max (own_g (own_labs P) i1) (own_g (own_labs P) i2))))] [(.int (Int32.ofNat (min (own_g (own_labs P) i1) (own_g (own_labs P) i2)))), (.int (3 : Int32)), (.ref a2)])) t → Steps p.tables e below (s₁.setTop (entryFrame m #[(.ref a1), (.ref a2), (.int p3)] 9)) t := fun t k => go73 t (by
        show Steps p.tables e below (T64.setTop (mkF m 115 #[.val (.ref a1), .val (.ref a2), .val (.int p3), .val (.int (Int32.ofNat i1)), .val (.int (Int32.ofNat i2)), .val (.int (Int32.ofNat (own_g (own_labs P) i1))), .val (.int (Int32.ofNat (own_g (own_labs P) i2))), .val (.int (Int32.ofNat (min (own_g (own_labs P) i1) (own_g (own_labs P) i2)))), .val (.int (Int32.ofNat (max (own_g (own_labs P) i1) (own_g (own_labs P) i2))))] [(.int (Int32.ofNat (max (own_g (own_labs P) i1) (own_g (own_labs P) i2)))), (.int (Int32.ofNat (own_g P64 3))), (.int (3 : Int32)), (.ref a2)])) _
        refine XS.icmpNo X64.here hx rfl (hb hby sp_115) rfl (teq hc74).2 ?_
        show Steps p.tables e below (T64.setTop (mkF m 118 #[.val (.ref a1), .val (.ref a2), .val (.int p3), .val (.int (Int32.ofNat i1)), .val (.int (Int32.ofNat i2)), .val (.int (Int32.ofNat (own_g (own_labs P) i1))), .val (.int (Int32.ofNat (own_g (own_labs P) i2))), .val (.int (Int32.ofNat (min (own_g (own_labs P) i1) (own_g (own_labs P) i2)))), .val (.int (Int32.ofNat (max (own_g (own_labs P) i1) (own_g (own_labs P) i2))))] [(.int (3 : Int32)), (.ref a2)])) _
        refine XS.iload X64.here hx rfl (hb hby sp_118) rfl ?_
        show Steps p.tables e below (T64.setTop (mkF m 120 #[.val (.ref a1), .val (.ref a2), .val (.int p3), .val (.int (Int32.ofNat i1)), .val (.int (Int32.ofNat i2)), .val (.int (Int32.ofNat (own_g (own_labs P) i1))), .val (.int (Int32.ofNat (own_g (own_labs P) i2))), .val (.int (Int32.ofNat (min (own_g (own_labs P) i1) (own_g (own_labs P) i2)))), .val (.int (Int32.ofNat (max (own_g (own_labs P) i1) (own_g (own_labs P) i2))))] [(.int (Int32.ofNat (min (own_g (own_labs P) i1) (own_g (own_labs P) i2)))), (.int (3 : Int32)), (.ref a2)])) _
        refine XS.goto X64.here hx rfl (pc0 := 120) (pc' := 126) rfl (hb hby sp_120) (by decide) (by decide) ?_
        exact k)
      exact ⟨(Int32.ofNat (min (own_g (own_labs P) i1) (own_g (own_labs P) i2))), (show (Int32.ofNat (min (own_g (own_labs P) i1) (own_g (own_labs P) i2))) = (Int32.ofNat (own_up P64 3 (min (own_g (own_labs P) i1) (own_g (own_labs P) i2)) (max (own_g (own_labs P) i1) (own_g (own_labs P) i2)))) by unfold own_up; rw [if_pos (own_inj (by rw [hP64, own_set_ne (show 2 ≠ 3 from by decide), hP48, own_set_ne (show 1 ≠ 3 from by decide), hP32, own_set_ne (show 0 ≠ 3 from by decide)]; exact own_lab5 hM (by decide)) (own_max5 (own_lab5 hM hi1) (own_lab5 hM hi2)) hc74)]), go75⟩
    · have go77 : ∀ t, Steps p.tables e below (T64.setTop (mkF m 125 #[.val (.ref a1), .val (.ref a2), .val (.int p3), .val (.int (Int32.ofNat i1)), .val (.int (Int32.ofNat i2)), .val (.int (Int32.ofNat (own_g (own_labs P) i1))), .val (.int (Int32.ofNat (own_g (own_labs P) i2))), .val (.int (Int32.ofNat (min (own_g (own_labs P) i1) (own_g (own_labs P) i2)))), .val (.int (Int32.ofNat (max (own_g (own_labs P) i1) (own_g (own_labs P) i2))))] [(.int (3 : Int32)), (.ref a2), (.int (3 : Int32)), (.ref a2)])) t → Steps p.tables e below (s₁.setTop (entryFrame m #[(.ref a1), (.ref a2), (.int p3)] 9)) t := fun t k => go73 t (by
        show Steps p.tables e below (T64.setTop (mkF m 115 #[.val (.ref a1), .val (.ref a2), .val (.int p3), .val (.int (Int32.ofNat i1)), .val (.int (Int32.ofNat i2)), .val (.int (Int32.ofNat (own_g (own_labs P) i1))), .val (.int (Int32.ofNat (own_g (own_labs P) i2))), .val (.int (Int32.ofNat (min (own_g (own_labs P) i1) (own_g (own_labs P) i2)))), .val (.int (Int32.ofNat (max (own_g (own_labs P) i1) (own_g (own_labs P) i2))))] [(.int (Int32.ofNat (max (own_g (own_labs P) i1) (own_g (own_labs P) i2)))), (.int (Int32.ofNat (own_g P64 3))), (.int (3 : Int32)), (.ref a2)])) _
        refine XS.icmpYes X64.here hx rfl (pc0 := 115) (pc' := 123) rfl (hb hby sp_115) rfl (feq hc74).2 (by decide) (by decide) ?_
        show Steps p.tables e below (T64.setTop (mkF m 123 #[.val (.ref a1), .val (.ref a2), .val (.int p3), .val (.int (Int32.ofNat i1)), .val (.int (Int32.ofNat i2)), .val (.int (Int32.ofNat (own_g (own_labs P) i1))), .val (.int (Int32.ofNat (own_g (own_labs P) i2))), .val (.int (Int32.ofNat (min (own_g (own_labs P) i1) (own_g (own_labs P) i2)))), .val (.int (Int32.ofNat (max (own_g (own_labs P) i1) (own_g (own_labs P) i2))))] [(.int (3 : Int32)), (.ref a2)])) _
        refine XS.aloadN X64.here hx rfl (hb hby sp_123) rfl rfl ?_
        show Steps p.tables e below (T64.setTop (mkF m 124 #[.val (.ref a1), .val (.ref a2), .val (.int p3), .val (.int (Int32.ofNat i1)), .val (.int (Int32.ofNat i2)), .val (.int (Int32.ofNat (own_g (own_labs P) i1))), .val (.int (Int32.ofNat (own_g (own_labs P) i2))), .val (.int (Int32.ofNat (min (own_g (own_labs P) i1) (own_g (own_labs P) i2)))), .val (.int (Int32.ofNat (max (own_g (own_labs P) i1) (own_g (own_labs P) i2))))] [(.ref a2), (.int (3 : Int32)), (.ref a2)])) _
        refine XS.iconst X64.here hx rfl (hb hby sp_124) ?_
        exact k)
      obtain ⟨cl76, Ar76, q76, S76, M76, H76, G76⟩ := id V64
      have go78 : ∀ t, Steps p.tables e below (T64.setTop (mkF m 126 #[.val (.ref a1), .val (.ref a2), .val (.int p3), .val (.int (Int32.ofNat i1)), .val (.int (Int32.ofNat i2)), .val (.int (Int32.ofNat (own_g (own_labs P) i1))), .val (.int (Int32.ofNat (own_g (own_labs P) i2))), .val (.int (Int32.ofNat (min (own_g (own_labs P) i1) (own_g (own_labs P) i2)))), .val (.int (Int32.ofNat (max (own_g (own_labs P) i1) (own_g (own_labs P) i2))))] [(.int (Int32.ofNat (own_g P64 3))), (.int (3 : Int32)), (.ref a2)])) t → Steps p.tables e below (s₁.setTop (entryFrame m #[(.ref a1), (.ref a2), (.int p3)] 9)) t := fun t k => go77 t (by
        show Steps p.tables e below (T64.setTop (mkF m 125 #[.val (.ref a1), .val (.ref a2), .val (.int p3), .val (.int (Int32.ofNat i1)), .val (.int (Int32.ofNat i2)), .val (.int (Int32.ofNat (own_g (own_labs P) i1))), .val (.int (Int32.ofNat (own_g (own_labs P) i2))), .val (.int (Int32.ofNat (min (own_g (own_labs P) i1) (own_g (own_labs P) i2)))), .val (.int (Int32.ofNat (max (own_g (own_labs P) i1) (own_g (own_labs P) i2))))] [(.int (3 : Int32)), (.ref a2), (.int (3 : Int32)), (.ref a2)])) _
        refine X64.iaload hx (j := (Int32.ofNat 3)) (v := (.int (Int32.ofNat (own_g P64 3)))) (by rw [e64]; exact Ar76.1) (State.isArrayOf_alike hZ.alike Ar76.2.1) Ar76.2.2 (inb_of S76 (own_ix (show 3 < 5 from by decide))) (H76.at (inb_of S76 (own_ix (show 3 < 5 from by decide))) (own_at P64 (show 3 < 5 from by decide))) (g := (mkF m 125 #[.val (.ref a1), .val (.ref a2), .val (.int p3), .val (.int (Int32.ofNat i1)), .val (.int (Int32.ofNat i2)), .val (.int (Int32.ofNat (own_g (own_labs P) i1))), .val (.int (Int32.ofNat (own_g (own_labs P) i2))), .val (.int (Int32.ofNat (min (own_g (own_labs P) i1) (own_g (own_labs P) i2)))), .val (.int (Int32.ofNat (max (own_g (own_labs P) i1) (own_g (own_labs P) i2))))] [(.int (3 : Int32)), (.ref a2), (.int (3 : Int32)), (.ref a2)])) rfl rfl (hb hby sp_125) _ ?_
        exact k)
      exact ⟨(Int32.ofNat (own_g P64 3)), (show (Int32.ofNat (own_g P64 3)) = (Int32.ofNat (own_up P64 3 (min (own_g (own_labs P) i1) (own_g (own_labs P) i2)) (max (own_g (own_labs P) i1) (own_g (own_labs P) i2)))) by unfold own_up; rw [if_neg (fun q => hc74 (congrArg Int32.ofNat q))]), go78⟩
  rw [hx3] at go79
  obtain ⟨cl80, Ar80, q80, S80, M80, H80, G80⟩ := id V64
  obtain ⟨T80, h80, X80, e80, W80, st80⟩ := stI X64 hx hZ e64 Ar80 (j := (Int32.ofNat 3)) (x := (Int32.ofNat (own_up P64 3 (min (own_g (own_labs P) i1) (own_g (own_labs P) i2)) (max (own_g (own_labs P) i1) (own_g (own_labs P) i2))))) (inb_of S80 (own_ix (show 3 < 5 from by decide))) (g := (mkF m 126 #[.val (.ref a1), .val (.ref a2), .val (.int p3), .val (.int (Int32.ofNat i1)), .val (.int (Int32.ofNat i2)), .val (.int (Int32.ofNat (own_g (own_labs P) i1))), .val (.int (Int32.ofNat (own_g (own_labs P) i2))), .val (.int (Int32.ofNat (min (own_g (own_labs P) i1) (own_g (own_labs P) i2)))), .val (.int (Int32.ofNat (max (own_g (own_labs P) i1) (own_g (own_labs P) i2))))] [(.int (Int32.ofNat (own_up P64 3 (min (own_g (own_labs P) i1) (own_g (own_labs P) i2)) (max (own_g (own_labs P) i1) (own_g (own_labs P) i2))))), (.int (3 : Int32)), (.ref a2)])) rfl rfl (hb hby sp_126)
  obtain ⟨P80, hP80⟩ : ∃ z, z = List.set P64 3 (own_up P64 3 (min (own_g (own_labs P) i1) (own_g (own_labs P) i2)) (max (own_g (own_labs P) i1) (own_g (own_labs P) i2))) := ⟨_, rfl⟩
  have ln80 : P80.length = 5 := by rw [hP80, List.length_set]; exact ln64
  have V80 : Arv Z h80 a2 kB .int (5 : Int32) (own_pv P80) (.int (0 : Int32)) := by rw [hP80, own_pvset]; exact Arv.set Ar80 q80 S80 M80 H80 G80 rfl W80 3 (own_tn (show 3 < 5 from by decide)) (by rw [own_pvlen, ln64]; exact (show 3 < 5 from by decide))
  have N80 := Fr.snoc X80 N64 g3
  have f81 := f65.other W80 (Or.inl ne2)
  have f82 := f66.wr W80
  have f83 := f67.other W80 ne3
  have f84 := (f68).wr W80 (Or.inl (List.mem_of_getElem? (i := 1) rfl))
  have go85 : ∀ t, Steps p.tables e below (T80.setTop (mkF m 127 #[.val (.ref a1), .val (.ref a2), .val (.int p3), .val (.int (Int32.ofNat i1)), .val (.int (Int32.ofNat i2)), .val (.int (Int32.ofNat (own_g (own_labs P) i1))), .val (.int (Int32.ofNat (own_g (own_labs P) i2))), .val (.int (Int32.ofNat (min (own_g (own_labs P) i1) (own_g (own_labs P) i2)))), .val (.int (Int32.ofNat (max (own_g (own_labs P) i1) (own_g (own_labs P) i2))))] [])) t → Steps p.tables e below (s₁.setTop (entryFrame m #[(.ref a1), (.ref a2), (.int p3)] 9)) t := fun t k => go79 t (st80 t k)
  have go86 : ∀ t, Steps p.tables e below (T80.setTop (mkF m 131 #[.val (.ref a1), .val (.ref a2), .val (.int p3), .val (.int (Int32.ofNat i1)), .val (.int (Int32.ofNat i2)), .val (.int (Int32.ofNat (own_g (own_labs P) i1))), .val (.int (Int32.ofNat (own_g (own_labs P) i2))), .val (.int (Int32.ofNat (min (own_g (own_labs P) i1) (own_g (own_labs P) i2)))), .val (.int (Int32.ofNat (max (own_g (own_labs P) i1) (own_g (own_labs P) i2))))] [(.int (4 : Int32)), (.ref a2), (.int (4 : Int32)), (.ref a2)])) t → Steps p.tables e below (s₁.setTop (entryFrame m #[(.ref a1), (.ref a2), (.int p3)] 9)) t := fun t k => go85 t (by
    show Steps p.tables e below (T80.setTop (mkF m 127 #[.val (.ref a1), .val (.ref a2), .val (.int p3), .val (.int (Int32.ofNat i1)), .val (.int (Int32.ofNat i2)), .val (.int (Int32.ofNat (own_g (own_labs P) i1))), .val (.int (Int32.ofNat (own_g (own_labs P) i2))), .val (.int (Int32.ofNat (min (own_g (own_labs P) i1) (own_g (own_labs P) i2)))), .val (.int (Int32.ofNat (max (own_g (own_labs P) i1) (own_g (own_labs P) i2))))] [])) _
    refine XS.aloadN X80.here hx rfl (hb hby sp_127) rfl rfl ?_
    show Steps p.tables e below (T80.setTop (mkF m 128 #[.val (.ref a1), .val (.ref a2), .val (.int p3), .val (.int (Int32.ofNat i1)), .val (.int (Int32.ofNat i2)), .val (.int (Int32.ofNat (own_g (own_labs P) i1))), .val (.int (Int32.ofNat (own_g (own_labs P) i2))), .val (.int (Int32.ofNat (min (own_g (own_labs P) i1) (own_g (own_labs P) i2)))), .val (.int (Int32.ofNat (max (own_g (own_labs P) i1) (own_g (own_labs P) i2))))] [(.ref a2)])) _
    refine XS.iconst X80.here hx rfl (hb hby sp_128) ?_
    show Steps p.tables e below (T80.setTop (mkF m 129 #[.val (.ref a1), .val (.ref a2), .val (.int p3), .val (.int (Int32.ofNat i1)), .val (.int (Int32.ofNat i2)), .val (.int (Int32.ofNat (own_g (own_labs P) i1))), .val (.int (Int32.ofNat (own_g (own_labs P) i2))), .val (.int (Int32.ofNat (min (own_g (own_labs P) i1) (own_g (own_labs P) i2)))), .val (.int (Int32.ofNat (max (own_g (own_labs P) i1) (own_g (own_labs P) i2))))] [(.int (4 : Int32)), (.ref a2)])) _
    refine XS.aloadN X80.here hx rfl (hb hby sp_129) rfl rfl ?_
    show Steps p.tables e below (T80.setTop (mkF m 130 #[.val (.ref a1), .val (.ref a2), .val (.int p3), .val (.int (Int32.ofNat i1)), .val (.int (Int32.ofNat i2)), .val (.int (Int32.ofNat (own_g (own_labs P) i1))), .val (.int (Int32.ofNat (own_g (own_labs P) i2))), .val (.int (Int32.ofNat (min (own_g (own_labs P) i1) (own_g (own_labs P) i2)))), .val (.int (Int32.ofNat (max (own_g (own_labs P) i1) (own_g (own_labs P) i2))))] [(.ref a2), (.int (4 : Int32)), (.ref a2)])) _
    refine XS.iconst X80.here hx rfl (hb hby sp_130) ?_
    exact k)
  obtain ⟨x4, hx4, go95⟩ : ∃ x4 : Int32, x4 = (Int32.ofNat (own_up P80 4 (min (own_g (own_labs P) i1) (own_g (own_labs P) i2)) (max (own_g (own_labs P) i1) (own_g (own_labs P) i2)))) ∧ ∀ t, Steps p.tables e below (T80.setTop (mkF m 145 #[.val (.ref a1), .val (.ref a2), .val (.int p3), .val (.int (Int32.ofNat i1)), .val (.int (Int32.ofNat i2)), .val (.int (Int32.ofNat (own_g (own_labs P) i1))), .val (.int (Int32.ofNat (own_g (own_labs P) i2))), .val (.int (Int32.ofNat (min (own_g (own_labs P) i1) (own_g (own_labs P) i2)))), .val (.int (Int32.ofNat (max (own_g (own_labs P) i1) (own_g (own_labs P) i2))))] [(.int x4), (.int (4 : Int32)), (.ref a2)])) t → Steps p.tables e below (s₁.setTop (entryFrame m #[(.ref a1), (.ref a2), (.int p3)] 9)) t := by
    obtain ⟨cl87, Ar87, q87, S87, M87, H87, G87⟩ := id V80
    have go88 : ∀ t, Steps p.tables e below (T80.setTop (mkF m 132 #[.val (.ref a1), .val (.ref a2), .val (.int p3), .val (.int (Int32.ofNat i1)), .val (.int (Int32.ofNat i2)), .val (.int (Int32.ofNat (own_g (own_labs P) i1))), .val (.int (Int32.ofNat (own_g (own_labs P) i2))), .val (.int (Int32.ofNat (min (own_g (own_labs P) i1) (own_g (own_labs P) i2)))), .val (.int (Int32.ofNat (max (own_g (own_labs P) i1) (own_g (own_labs P) i2))))] [(.int (Int32.ofNat (own_g P80 4))), (.int (4 : Int32)), (.ref a2)])) t → Steps p.tables e below (s₁.setTop (entryFrame m #[(.ref a1), (.ref a2), (.int p3)] 9)) t := fun t k => go86 t (by
      show Steps p.tables e below (T80.setTop (mkF m 131 #[.val (.ref a1), .val (.ref a2), .val (.int p3), .val (.int (Int32.ofNat i1)), .val (.int (Int32.ofNat i2)), .val (.int (Int32.ofNat (own_g (own_labs P) i1))), .val (.int (Int32.ofNat (own_g (own_labs P) i2))), .val (.int (Int32.ofNat (min (own_g (own_labs P) i1) (own_g (own_labs P) i2)))), .val (.int (Int32.ofNat (max (own_g (own_labs P) i1) (own_g (own_labs P) i2))))] [(.int (4 : Int32)), (.ref a2), (.int (4 : Int32)), (.ref a2)])) _
      refine X80.iaload hx (j := (Int32.ofNat 4)) (v := (.int (Int32.ofNat (own_g P80 4)))) (by rw [e80]; exact Ar87.1) (State.isArrayOf_alike hZ.alike Ar87.2.1) Ar87.2.2 (inb_of S87 (own_ix (show 4 < 5 from by decide))) (H87.at (inb_of S87 (own_ix (show 4 < 5 from by decide))) (own_at P80 (show 4 < 5 from by decide))) (g := (mkF m 131 #[.val (.ref a1), .val (.ref a2), .val (.int p3), .val (.int (Int32.ofNat i1)), .val (.int (Int32.ofNat i2)), .val (.int (Int32.ofNat (own_g (own_labs P) i1))), .val (.int (Int32.ofNat (own_g (own_labs P) i2))), .val (.int (Int32.ofNat (min (own_g (own_labs P) i1) (own_g (own_labs P) i2)))), .val (.int (Int32.ofNat (max (own_g (own_labs P) i1) (own_g (own_labs P) i2))))] [(.int (4 : Int32)), (.ref a2), (.int (4 : Int32)), (.ref a2)])) rfl rfl (hb hby sp_131) _ ?_
      exact k)
    have go89 : ∀ t, Steps p.tables e below (T80.setTop (mkF m 134 #[.val (.ref a1), .val (.ref a2), .val (.int p3), .val (.int (Int32.ofNat i1)), .val (.int (Int32.ofNat i2)), .val (.int (Int32.ofNat (own_g (own_labs P) i1))), .val (.int (Int32.ofNat (own_g (own_labs P) i2))), .val (.int (Int32.ofNat (min (own_g (own_labs P) i1) (own_g (own_labs P) i2)))), .val (.int (Int32.ofNat (max (own_g (own_labs P) i1) (own_g (own_labs P) i2))))] [(.int (Int32.ofNat (max (own_g (own_labs P) i1) (own_g (own_labs P) i2)))), (.int (Int32.ofNat (own_g P80 4))), (.int (4 : Int32)), (.ref a2)])) t → Steps p.tables e below (s₁.setTop (entryFrame m #[(.ref a1), (.ref a2), (.int p3)] 9)) t := fun t k => go88 t (by
      show Steps p.tables e below (T80.setTop (mkF m 132 #[.val (.ref a1), .val (.ref a2), .val (.int p3), .val (.int (Int32.ofNat i1)), .val (.int (Int32.ofNat i2)), .val (.int (Int32.ofNat (own_g (own_labs P) i1))), .val (.int (Int32.ofNat (own_g (own_labs P) i2))), .val (.int (Int32.ofNat (min (own_g (own_labs P) i1) (own_g (own_labs P) i2)))), .val (.int (Int32.ofNat (max (own_g (own_labs P) i1) (own_g (own_labs P) i2))))] [(.int (Int32.ofNat (own_g P80 4))), (.int (4 : Int32)), (.ref a2)])) _
      refine XS.iload X80.here hx rfl (hb hby sp_132) rfl ?_
      exact k)
    by_cases hc90 : (Int32.ofNat (own_g P80 4)) = (Int32.ofNat (max (own_g (own_labs P) i1) (own_g (own_labs P) i2)))
    · have go91 : ∀ t, Steps p.tables e below (T80.setTop (mkF m 145 #[.val (.ref a1), .val (.ref a2), .val (.int p3), .val (.int (Int32.ofNat i1)), .val (.int (Int32.ofNat i2)), .val (.int (Int32.ofNat (own_g (own_labs P) i1))), .val (.int (Int32.ofNat (own_g (own_labs P) i2))), .val (.int (Int32.ofNat (min (own_g (own_labs P) i1) (own_g (own_labs P) i2)))), .val (.int (Int32.ofNat (max (own_g (own_labs P) i1) (own_g (own_labs P) i2))))] [(.int (Int32.ofNat (min (own_g (own_labs P) i1) (own_g (own_labs P) i2)))), (.int (4 : Int32)), (.ref a2)])) t → Steps p.tables e below (s₁.setTop (entryFrame m #[(.ref a1), (.ref a2), (.int p3)] 9)) t := fun t k => go89 t (by
        show Steps p.tables e below (T80.setTop (mkF m 134 #[.val (.ref a1), .val (.ref a2), .val (.int p3), .val (.int (Int32.ofNat i1)), .val (.int (Int32.ofNat i2)), .val (.int (Int32.ofNat (own_g (own_labs P) i1))), .val (.int (Int32.ofNat (own_g (own_labs P) i2))), .val (.int (Int32.ofNat (min (own_g (own_labs P) i1) (own_g (own_labs P) i2)))), .val (.int (Int32.ofNat (max (own_g (own_labs P) i1) (own_g (own_labs P) i2))))] [(.int (Int32.ofNat (max (own_g (own_labs P) i1) (own_g (own_labs P) i2)))), (.int (Int32.ofNat (own_g P80 4))), (.int (4 : Int32)), (.ref a2)])) _
        refine XS.icmpNo X80.here hx rfl (hb hby sp_134) rfl (teq hc90).2 ?_
        show Steps p.tables e below (T80.setTop (mkF m 137 #[.val (.ref a1), .val (.ref a2), .val (.int p3), .val (.int (Int32.ofNat i1)), .val (.int (Int32.ofNat i2)), .val (.int (Int32.ofNat (own_g (own_labs P) i1))), .val (.int (Int32.ofNat (own_g (own_labs P) i2))), .val (.int (Int32.ofNat (min (own_g (own_labs P) i1) (own_g (own_labs P) i2)))), .val (.int (Int32.ofNat (max (own_g (own_labs P) i1) (own_g (own_labs P) i2))))] [(.int (4 : Int32)), (.ref a2)])) _
        refine XS.iload X80.here hx rfl (hb hby sp_137) rfl ?_
        show Steps p.tables e below (T80.setTop (mkF m 139 #[.val (.ref a1), .val (.ref a2), .val (.int p3), .val (.int (Int32.ofNat i1)), .val (.int (Int32.ofNat i2)), .val (.int (Int32.ofNat (own_g (own_labs P) i1))), .val (.int (Int32.ofNat (own_g (own_labs P) i2))), .val (.int (Int32.ofNat (min (own_g (own_labs P) i1) (own_g (own_labs P) i2)))), .val (.int (Int32.ofNat (max (own_g (own_labs P) i1) (own_g (own_labs P) i2))))] [(.int (Int32.ofNat (min (own_g (own_labs P) i1) (own_g (own_labs P) i2)))), (.int (4 : Int32)), (.ref a2)])) _
        refine XS.goto X80.here hx rfl (pc0 := 139) (pc' := 145) rfl (hb hby sp_139) (by decide) (by decide) ?_
        exact k)
      exact ⟨(Int32.ofNat (min (own_g (own_labs P) i1) (own_g (own_labs P) i2))), (show (Int32.ofNat (min (own_g (own_labs P) i1) (own_g (own_labs P) i2))) = (Int32.ofNat (own_up P80 4 (min (own_g (own_labs P) i1) (own_g (own_labs P) i2)) (max (own_g (own_labs P) i1) (own_g (own_labs P) i2)))) by unfold own_up; rw [if_pos (own_inj (by rw [hP80, own_set_ne (show 3 ≠ 4 from by decide), hP64, own_set_ne (show 2 ≠ 4 from by decide), hP48, own_set_ne (show 1 ≠ 4 from by decide), hP32, own_set_ne (show 0 ≠ 4 from by decide)]; exact own_lab5 hM (by decide)) (own_max5 (own_lab5 hM hi1) (own_lab5 hM hi2)) hc90)]), go91⟩
    · have go93 : ∀ t, Steps p.tables e below (T80.setTop (mkF m 144 #[.val (.ref a1), .val (.ref a2), .val (.int p3), .val (.int (Int32.ofNat i1)), .val (.int (Int32.ofNat i2)), .val (.int (Int32.ofNat (own_g (own_labs P) i1))), .val (.int (Int32.ofNat (own_g (own_labs P) i2))), .val (.int (Int32.ofNat (min (own_g (own_labs P) i1) (own_g (own_labs P) i2)))), .val (.int (Int32.ofNat (max (own_g (own_labs P) i1) (own_g (own_labs P) i2))))] [(.int (4 : Int32)), (.ref a2), (.int (4 : Int32)), (.ref a2)])) t → Steps p.tables e below (s₁.setTop (entryFrame m #[(.ref a1), (.ref a2), (.int p3)] 9)) t := fun t k => go89 t (by
        show Steps p.tables e below (T80.setTop (mkF m 134 #[.val (.ref a1), .val (.ref a2), .val (.int p3), .val (.int (Int32.ofNat i1)), .val (.int (Int32.ofNat i2)), .val (.int (Int32.ofNat (own_g (own_labs P) i1))), .val (.int (Int32.ofNat (own_g (own_labs P) i2))), .val (.int (Int32.ofNat (min (own_g (own_labs P) i1) (own_g (own_labs P) i2)))), .val (.int (Int32.ofNat (max (own_g (own_labs P) i1) (own_g (own_labs P) i2))))] [(.int (Int32.ofNat (max (own_g (own_labs P) i1) (own_g (own_labs P) i2)))), (.int (Int32.ofNat (own_g P80 4))), (.int (4 : Int32)), (.ref a2)])) _
        refine XS.icmpYes X80.here hx rfl (pc0 := 134) (pc' := 142) rfl (hb hby sp_134) rfl (feq hc90).2 (by decide) (by decide) ?_
        show Steps p.tables e below (T80.setTop (mkF m 142 #[.val (.ref a1), .val (.ref a2), .val (.int p3), .val (.int (Int32.ofNat i1)), .val (.int (Int32.ofNat i2)), .val (.int (Int32.ofNat (own_g (own_labs P) i1))), .val (.int (Int32.ofNat (own_g (own_labs P) i2))), .val (.int (Int32.ofNat (min (own_g (own_labs P) i1) (own_g (own_labs P) i2)))), .val (.int (Int32.ofNat (max (own_g (own_labs P) i1) (own_g (own_labs P) i2))))] [(.int (4 : Int32)), (.ref a2)])) _
        refine XS.aloadN X80.here hx rfl (hb hby sp_142) rfl rfl ?_
        show Steps p.tables e below (T80.setTop (mkF m 143 #[.val (.ref a1), .val (.ref a2), .val (.int p3), .val (.int (Int32.ofNat i1)), .val (.int (Int32.ofNat i2)), .val (.int (Int32.ofNat (own_g (own_labs P) i1))), .val (.int (Int32.ofNat (own_g (own_labs P) i2))), .val (.int (Int32.ofNat (min (own_g (own_labs P) i1) (own_g (own_labs P) i2)))), .val (.int (Int32.ofNat (max (own_g (own_labs P) i1) (own_g (own_labs P) i2))))] [(.ref a2), (.int (4 : Int32)), (.ref a2)])) _
        refine XS.iconst X80.here hx rfl (hb hby sp_143) ?_
        exact k)
      obtain ⟨cl92, Ar92, q92, S92, M92, H92, G92⟩ := id V80
      have go94 : ∀ t, Steps p.tables e below (T80.setTop (mkF m 145 #[.val (.ref a1), .val (.ref a2), .val (.int p3), .val (.int (Int32.ofNat i1)), .val (.int (Int32.ofNat i2)), .val (.int (Int32.ofNat (own_g (own_labs P) i1))), .val (.int (Int32.ofNat (own_g (own_labs P) i2))), .val (.int (Int32.ofNat (min (own_g (own_labs P) i1) (own_g (own_labs P) i2)))), .val (.int (Int32.ofNat (max (own_g (own_labs P) i1) (own_g (own_labs P) i2))))] [(.int (Int32.ofNat (own_g P80 4))), (.int (4 : Int32)), (.ref a2)])) t → Steps p.tables e below (s₁.setTop (entryFrame m #[(.ref a1), (.ref a2), (.int p3)] 9)) t := fun t k => go93 t (by
        show Steps p.tables e below (T80.setTop (mkF m 144 #[.val (.ref a1), .val (.ref a2), .val (.int p3), .val (.int (Int32.ofNat i1)), .val (.int (Int32.ofNat i2)), .val (.int (Int32.ofNat (own_g (own_labs P) i1))), .val (.int (Int32.ofNat (own_g (own_labs P) i2))), .val (.int (Int32.ofNat (min (own_g (own_labs P) i1) (own_g (own_labs P) i2)))), .val (.int (Int32.ofNat (max (own_g (own_labs P) i1) (own_g (own_labs P) i2))))] [(.int (4 : Int32)), (.ref a2), (.int (4 : Int32)), (.ref a2)])) _
        refine X80.iaload hx (j := (Int32.ofNat 4)) (v := (.int (Int32.ofNat (own_g P80 4)))) (by rw [e80]; exact Ar92.1) (State.isArrayOf_alike hZ.alike Ar92.2.1) Ar92.2.2 (inb_of S92 (own_ix (show 4 < 5 from by decide))) (H92.at (inb_of S92 (own_ix (show 4 < 5 from by decide))) (own_at P80 (show 4 < 5 from by decide))) (g := (mkF m 144 #[.val (.ref a1), .val (.ref a2), .val (.int p3), .val (.int (Int32.ofNat i1)), .val (.int (Int32.ofNat i2)), .val (.int (Int32.ofNat (own_g (own_labs P) i1))), .val (.int (Int32.ofNat (own_g (own_labs P) i2))), .val (.int (Int32.ofNat (min (own_g (own_labs P) i1) (own_g (own_labs P) i2)))), .val (.int (Int32.ofNat (max (own_g (own_labs P) i1) (own_g (own_labs P) i2))))] [(.int (4 : Int32)), (.ref a2), (.int (4 : Int32)), (.ref a2)])) rfl rfl (hb hby sp_144) _ ?_
        exact k)
      exact ⟨(Int32.ofNat (own_g P80 4)), (show (Int32.ofNat (own_g P80 4)) = (Int32.ofNat (own_up P80 4 (min (own_g (own_labs P) i1) (own_g (own_labs P) i2)) (max (own_g (own_labs P) i1) (own_g (own_labs P) i2)))) by unfold own_up; rw [if_neg (fun q => hc90 (congrArg Int32.ofNat q))]), go94⟩
  rw [hx4] at go95
  obtain ⟨cl96, Ar96, q96, S96, M96, H96, G96⟩ := id V80
  obtain ⟨T96, h96, X96, e96, W96, st96⟩ := stI X80 hx hZ e80 Ar96 (j := (Int32.ofNat 4)) (x := (Int32.ofNat (own_up P80 4 (min (own_g (own_labs P) i1) (own_g (own_labs P) i2)) (max (own_g (own_labs P) i1) (own_g (own_labs P) i2))))) (inb_of S96 (own_ix (show 4 < 5 from by decide))) (g := (mkF m 145 #[.val (.ref a1), .val (.ref a2), .val (.int p3), .val (.int (Int32.ofNat i1)), .val (.int (Int32.ofNat i2)), .val (.int (Int32.ofNat (own_g (own_labs P) i1))), .val (.int (Int32.ofNat (own_g (own_labs P) i2))), .val (.int (Int32.ofNat (min (own_g (own_labs P) i1) (own_g (own_labs P) i2)))), .val (.int (Int32.ofNat (max (own_g (own_labs P) i1) (own_g (own_labs P) i2))))] [(.int (Int32.ofNat (own_up P80 4 (min (own_g (own_labs P) i1) (own_g (own_labs P) i2)) (max (own_g (own_labs P) i1) (own_g (own_labs P) i2))))), (.int (4 : Int32)), (.ref a2)])) rfl rfl (hb hby sp_145)
  obtain ⟨P96, hP96⟩ : ∃ z, z = List.set P80 4 (own_up P80 4 (min (own_g (own_labs P) i1) (own_g (own_labs P) i2)) (max (own_g (own_labs P) i1) (own_g (own_labs P) i2))) := ⟨_, rfl⟩
  have ln96 : P96.length = 5 := by rw [hP96, List.length_set]; exact ln80
  have V96 : Arv Z h96 a2 kB .int (5 : Int32) (own_pv P96) (.int (0 : Int32)) := by rw [hP96, own_pvset]; exact Arv.set Ar96 q96 S96 M96 H96 G96 rfl W96 4 (own_tn (show 4 < 5 from by decide)) (by rw [own_pvlen, ln80]; exact (show 4 < 5 from by decide))
  have N96 := Fr.snoc X96 N80 g3
  have f97 := f81.other W96 (Or.inl ne2)
  have f98 := f82.wr W96
  have f99 := f83.other W96 ne3
  have f100 := (f84).wr W96 (Or.inl (List.mem_of_getElem? (i := 1) rfl))
  have go101 : ∀ t, Steps p.tables e below (T96.setTop (mkF m 146 #[.val (.ref a1), .val (.ref a2), .val (.int p3), .val (.int (Int32.ofNat i1)), .val (.int (Int32.ofNat i2)), .val (.int (Int32.ofNat (own_g (own_labs P) i1))), .val (.int (Int32.ofNat (own_g (own_labs P) i2))), .val (.int (Int32.ofNat (min (own_g (own_labs P) i1) (own_g (own_labs P) i2)))), .val (.int (Int32.ofNat (max (own_g (own_labs P) i1) (own_g (own_labs P) i2))))] [])) t → Steps p.tables e below (s₁.setTop (entryFrame m #[(.ref a1), (.ref a2), (.int p3)] 9)) t := fun t k => go95 t (st96 t k)
  obtain ⟨fs, hr, hrun, hended, hW, hsame⟩ := X96.leave (v := none) (fun _ => rfl)
  refine ⟨_, _, go101 _ ?_, hrun, hended, _, _, rfl, ?_, ⟨_, rfl⟩, hW, hsame.mono (by decide) (by decide)⟩
  · exact X96.returnOut hx Bd.returns (hb hby sp_146) hr
  · show Qsp Z a2 b kA kB h0 n0 _ T96.heap _
    rw [e96]
    exact ⟨rfl, N96, f100, P4, S4.1, f99, (by rw [← own_relabel S4 hi1 hi2, ← own_chain hP32 hP48 hP64 hP80 hP96]; exact V96)⟩
theorem ini_0 : decode prog_73_method_1_code 0 = .ok (.aload_n 0, 1) := by decide +kernel
theorem ini_1 : decode prog_73_method_1_code 1 = .ok (.invokespecial 1, 3) := by decide +kernel
theorem ini_4 : decode prog_73_method_1_code 4 = .ok (.aload_n 0, 1) := by decide +kernel
theorem ini_5 : decode prog_73_method_1_code 5 = .ok (.iload_n 1, 1) := by decide +kernel
theorem ini_6 : decode prog_73_method_1_code 6 = .ok (.newarray .int, 2) := by decide +kernel
theorem ini_8 : decode prog_73_method_1_code 8 = .ok (.putfield 7, 3) := by decide +kernel
theorem ini_11 : decode prog_73_method_1_code 11 = .ok (.iconst 0, 1) := by decide +kernel
theorem ini_12 : decode prog_73_method_1_code 12 = .ok (.istore_n 2, 1) := by decide +kernel
theorem ini_13 : decode prog_73_method_1_code 13 = .ok (.iload_n 2, 1) := by decide +kernel
theorem ini_14 : decode prog_73_method_1_code 14 = .ok (.iload_n 1, 1) := by decide +kernel
theorem ini_15 : decode prog_73_method_1_code 15 = .ok (.if_icmp .ge 16, 3) := by decide +kernel
theorem ini_18 : decode prog_73_method_1_code 18 = .ok (.aload_n 0, 1) := by decide +kernel
theorem ini_19 : decode prog_73_method_1_code 19 = .ok (.getfield 7, 3) := by decide +kernel
theorem ini_22 : decode prog_73_method_1_code 22 = .ok (.iload_n 2, 1) := by decide +kernel
theorem ini_23 : decode prog_73_method_1_code 23 = .ok (.iload_n 2, 1) := by decide +kernel
theorem ini_24 : decode prog_73_method_1_code 24 = .ok (.iastore, 1) := by decide +kernel
theorem ini_25 : decode prog_73_method_1_code 25 = .ok (.iinc 2 1, 3) := by decide +kernel
theorem ini_28 : decode prog_73_method_1_code 28 = .ok (.goto (-15), 3) := by decide +kernel
theorem ini_31 : decode prog_73_method_1_code 31 = .ok (.return_, 1) := by decide +kernel
theorem pn_ini : plainName "com/example/subsumption/subsumption/reasoner/Links" = true := by first | (simp [plainName, overriddenIn]; done) | decide +kernel
theorem ef_ini (m : MethodId) (a1 : Addr) (p2 : Int32) : entryFrame m #[(.ref a1), (.int p2)] 3 = mkF m 0 #[.val (.ref a1), .val (.int p2), .unset] [] := by first | (simp [entryFrame, mkF, argsToLocals, Value.category]; done) | rfl
def Qini (Z : State) (a1 : Addr) (h0 : Heap) (n0 : Nat) (v : Option Value) (h : Heap) (L : List Loc) : Prop := v = none ∧ Fr n0 L ∧ Keep h0 h [a1] ∧ ∃ (b : Addr) (k : ClassId), n0 ≤ b ∧ h0.size ≤ b ∧ a1 ≠ b ∧ Fld Z h a1 "com/example/subsumption/subsumption/reasoner/Links" "parent" "[I" (.ref b) ∧ Arv Z h b k .int (5 : Int32) [(.int (0 : Int32)), (.int (1 : Int32)), (.int (2 : Int32)), (.int (3 : Int32)), (.int (4 : Int32))] (.int (0 : Int32))
set_option maxRecDepth 65536 in
set_option maxHeartbeats 40000000 in
theorem rm_ini (l : Launch) (Z : State) (a0 : Array Value) (hw : ∀ d ∈ tables_1, d.before a0 Z = true) (ws : List Jvm.Cond) (a1 : Addr) (u1 : Value) (h0 : Heap) (n0 : Nat) (Z0 : n0 ≤ h0.size) (E1 : Exa Z h0 a1 "com/example/subsumption/subsumption/reasoner/Links") (F1 : Fld Z h0 a1 "com/example/subsumption/subsumption/reasoner/Links" "parent" "[I" u1) (g1 : n0 ≤ a1) :
    MetFree l (⟨"com/example/subsumption/subsumption/reasoner/Links", "<init>", "(I)V"⟩ : MethodName) (head1 (Jvm.Cond.code (⟨"com/example/subsumption/subsumption/reasoner/Links", "<init>", "(I)V"⟩ : MethodName) prog_73_method_1_code 3 none :: ws) ({ frames := 1, cells := 1, slots := 5, locals := 12 } : Room)) (fun a U => a = #[(.ref a1), (.int (5 : Int32))] ∧ Z.Warmed39 U.vm ∧ U.heap = h0) (fun _ _ _ _ _ => True) (fun _ U o U' => ∃ v L, o = .returned v ∧ Qini Z a1 h0 n0 v U'.heap L ∧ FrameEnd U o U' L ({ frames := 1, cells := 1, slots := 5, locals := 12 } : Room).cells ({ frames := 1, cells := 1, slots := 5, locals := 12 } : Room).slots) := by
  refine MetFree.of_bodySF (plainFor_of_name pn_ini) hisR ?_
  intro p e s m args below meth c s₁ Bd hml0 hP hK
  obtain ⟨rfl, hZ, hh⟩ := hP
  have hx := Bd.exec
  have hby := Bd.bytes
  have hml : c.maxLocals = 3 := hml0
  have hown : s.vm.findClass "com/example/subsumption/subsumption/reasoner/Links" = some m.cls := findClass_of_methodNamed Bd.named
  have hnm := (name_of_methodNamed Bd.named Bd.method).1
  have X0 : Stand p l e ({ frames := 1, cells := 1, slots := 5, locals := 12 } : Room) s m #[(.ref a1), (.int (5 : Int32))] below meth c s₁ [] 0 0 := Stand.of_body Bd
  have e0 : s₁.heap = h0 := by rw [← hh, Bd.state]; rfl
  have N0 := Fr.nil n0
  have go0 : ∀ t, Steps p.tables e below (s₁.setTop (mkF m 0 #[.val (.ref a1), .val (.int (5 : Int32)), .unset] [])) t → Steps p.tables e below (s₁.setTop (entryFrame m #[(.ref a1), (.int (5 : Int32))] 3)) t := fun t k => castTop (ef_ini m a1 (5 : Int32)) k
  have go1 : ∀ t, Steps p.tables e below (s₁.setTop (mkF m 1 #[.val (.ref a1), .val (.int (5 : Int32)), .unset] [(.ref a1)])) t → Steps p.tables e below (s₁.setTop (entryFrame m #[(.ref a1), (.int (5 : Int32))] 3)) t := fun t k => go0 t (by
    show Steps p.tables e below (s₁.setTop (mkF m 0 #[.val (.ref a1), .val (.int (5 : Int32)), .unset] [])) _
    refine XS.aloadN X0.here hx rfl (hb hby ini_0) rfl rfl ?_
    exact k)
  obtain ⟨T2, X2, e2, st2⟩ := initO X0 hx hZ hown (hw _ (List.mem_of_getElem? (i := 7) rfl)) (hw _ (List.mem_of_getElem? (i := 8) rfl)) (hw _ (List.mem_of_getElem? (i := 9) rfl)) e0 (g := (mkF m 1 #[.val (.ref a1), .val (.int (5 : Int32)), .unset] [(.ref a1)])) rfl (by rw [hml]; rfl) rfl (hb hby ini_1) (by decide) (W := 0) (by show 2 * 0 + _ ≤ _; exact Nat.le_of_eq rfl) (by decide)
  have go3 : ∀ t, Steps p.tables e below (T2.setTop (mkF m 4 #[.val (.ref a1), .val (.int (5 : Int32)), .unset] [])) t → Steps p.tables e below (s₁.setTop (entryFrame m #[(.ref a1), (.int (5 : Int32))] 3)) t := fun t k => go1 t (st2 t k)
  have go4 : ∀ t, Steps p.tables e below (T2.setTop (mkF m 6 #[.val (.ref a1), .val (.int (5 : Int32)), .unset] [(.int (5 : Int32)), (.ref a1)])) t → Steps p.tables e below (s₁.setTop (entryFrame m #[(.ref a1), (.int (5 : Int32))] 3)) t := fun t k => go3 t (by
    show Steps p.tables e below (T2.setTop (mkF m 4 #[.val (.ref a1), .val (.int (5 : Int32)), .unset] [])) _
    refine XS.aloadN X2.here hx rfl (hb hby ini_4) rfl rfl ?_
    show Steps p.tables e below (T2.setTop (mkF m 5 #[.val (.ref a1), .val (.int (5 : Int32)), .unset] [(.ref a1)])) _
    refine XS.iloadN X2.here hx rfl (hb hby ini_5) rfl ?_
    exact k)
  obtain ⟨T5, h5, k5, X5, e5, E5, A5, st5⟩ := newP X2 hx hZ (hw _ (List.mem_of_getElem? (i := 0) rfl)) e2 (g := (mkF m 6 #[.val (.ref a1), .val (.int (5 : Int32)), .unset] [(.int (5 : Int32)), (.ref a1)])) rfl (hb hby ini_6) rfl (by decide) (cap := 5) (by decide) (by decide) (by decide) (by decide)
  obtain ⟨b5, g5⟩ : ∃ z, z = h0.size := ⟨_, rfl⟩
  rw [← g5] at A5 st5
  have g_b5 : n0 ≤ b5 := Nat.le_trans Z0 (Nat.le_of_eq g5.symm)
  have sz_b5 : h0.size ≤ b5 := Nat.le_trans ((Keep.refl h0 [a1])).1 (Nat.le_of_eq g5.symm)
  have ne_a1_b5 : a1 ≠ b5 := Nat.ne_of_lt (Nat.lt_of_lt_of_le E1.lt (Nat.le_of_eq g5.symm))
  have f6 := E1.ext E5
  have f7 := F1.ext E5
  have f8 := ((Keep.refl h0 [a1])).ext E5
  have V5 : Arv Z h5 b5 k5 .int (5 : Int32) [(.int (0 : Int32)), (.int (0 : Int32)), (.int (0 : Int32)), (.int (0 : Int32)), (.int (0 : Int32))] (.int (0 : Int32)) := (Arv.new A5 (by decide)).pad (pad_rep [] (.int (0 : Int32)) 5)
  have go9 : ∀ t, Steps p.tables e below (T5.setTop (mkF m 8 #[.val (.ref a1), .val (.int (5 : Int32)), .unset] [(.ref b5), (.ref a1)])) t → Steps p.tables e below (s₁.setTop (entryFrame m #[(.ref a1), (.int (5 : Int32))] 3)) t := fun t k => go4 t (st5 t k)
  obtain ⟨T10, h10, X10, e10, W10, st10⟩ := putF X5 hx hZ hown (host := "") (Or.inl (hw _ (List.mem_of_getElem? (i := 10) rfl))) Via.refl e5 f7 f6 (Or.inr ⟨(hw _ (List.mem_of_getElem? (i := 11) rfl)), rfl, hnm⟩) (hw _ (List.mem_of_getElem? (i := 2) rfl)) (ty := (.array .int)) (by decide) rfl rfl (g := (mkF m 8 #[.val (.ref a1), .val (.int (5 : Int32)), .unset] [(.ref b5), (.ref a1)])) rfl rfl (hb hby ini_8)
  have N10 := Fr.snoc X10 N0 g1
  have f11 := f6.wr W10
  have f12 := f7.same W10
  have f13 := V5.other W10 (Ne.symm ne_a1_b5)
  have f14 := (f8).wr W10 (Or.inl (List.mem_of_getElem? (i := 0) rfl))
  have go15 : ∀ t, Steps p.tables e below (T10.setTop (mkF m 11 #[.val (.ref a1), .val (.int (5 : Int32)), .unset] [])) t → Steps p.tables e below (s₁.setTop (entryFrame m #[(.ref a1), (.int (5 : Int32))] 3)) t := fun t k => go9 t (st10 t k)
  have go16 : ∀ t, Steps p.tables e below (T10.setTop (mkF m 19 #[.val (.ref a1), .val (.int (5 : Int32)), .val (.int (0 : Int32))] [(.ref a1)])) t → Steps p.tables e below (s₁.setTop (entryFrame m #[(.ref a1), (.int (5 : Int32))] 3)) t := fun t k => go15 t (by
    show Steps p.tables e below (T10.setTop (mkF m 11 #[.val (.ref a1), .val (.int (5 : Int32)), .unset] [])) _
    refine XS.iconst X10.here hx rfl (hb hby ini_11) ?_
    show Steps p.tables e below (T10.setTop (mkF m 12 #[.val (.ref a1), .val (.int (5 : Int32)), .unset] [(.int (0 : Int32))])) _
    refine XS.istoreN X10.here hx rfl (hb hby ini_12) rfl (l' := #[.val (.ref a1), .val (.int (5 : Int32)), .val (.int (0 : Int32))]) rfl ?_
    show Steps p.tables e below (T10.setTop (mkF m 13 #[.val (.ref a1), .val (.int (5 : Int32)), .val (.int (0 : Int32))] [])) _
    refine XS.iloadN X10.here hx rfl (hb hby ini_13) rfl ?_
    show Steps p.tables e below (T10.setTop (mkF m 14 #[.val (.ref a1), .val (.int (5 : Int32)), .val (.int (0 : Int32))] [(.int (0 : Int32))])) _
    refine XS.iloadN X10.here hx rfl (hb hby ini_14) rfl ?_
    show Steps p.tables e below (T10.setTop (mkF m 15 #[.val (.ref a1), .val (.int (5 : Int32)), .val (.int (0 : Int32))] [(.int (5 : Int32)), (.int (0 : Int32))])) _
    refine XS.icmpNo X10.here hx rfl (hb hby ini_15) rfl (tlt (by decide : (0 : Int32) < (5 : Int32))).2.1 ?_
    show Steps p.tables e below (T10.setTop (mkF m 18 #[.val (.ref a1), .val (.int (5 : Int32)), .val (.int (0 : Int32))] [])) _
    refine XS.aloadN X10.here hx rfl (hb hby ini_18) rfl rfl ?_
    exact k)
  obtain ⟨T17, X17, e17, st17⟩ := getF X10 hx hZ hown (host := "") (Or.inl (hw _ (List.mem_of_getElem? (i := 10) rfl))) Via.refl e10 f12 (g := (mkF m 19 #[.val (.ref a1), .val (.int (5 : Int32)), .val (.int (0 : Int32))] [(.ref a1)])) rfl rfl (hb hby ini_19)
  have go18 : ∀ t, Steps p.tables e below (T17.setTop (mkF m 22 #[.val (.ref a1), .val (.int (5 : Int32)), .val (.int (0 : Int32))] [(.ref b5)])) t → Steps p.tables e below (s₁.setTop (entryFrame m #[(.ref a1), (.int (5 : Int32))] 3)) t := fun t k => go16 t (st17 t k)
  have go19 : ∀ t, Steps p.tables e below (T17.setTop (mkF m 24 #[.val (.ref a1), .val (.int (5 : Int32)), .val (.int (0 : Int32))] [(.int (0 : Int32)), (.int (0 : Int32)), (.ref b5)])) t → Steps p.tables e below (s₁.setTop (entryFrame m #[(.ref a1), (.int (5 : Int32))] 3)) t := fun t k => go18 t (by
    show Steps p.tables e below (T17.setTop (mkF m 22 #[.val (.ref a1), .val (.int (5 : Int32)), .val (.int (0 : Int32))] [(.ref b5)])) _
    refine XS.iloadN X17.here hx rfl (hb hby ini_22) rfl ?_
    show Steps p.tables e below (T17.setTop (mkF m 23 #[.val (.ref a1), .val (.int (5 : Int32)), .val (.int (0 : Int32))] [(.int (0 : Int32)), (.ref b5)])) _
    refine XS.iloadN X17.here hx rfl (hb hby ini_23) rfl ?_
    exact k)
  obtain ⟨cl20, Ar20, q20, S20, M20, H20, G20⟩ := id f13
  obtain ⟨T20, h20, X20, e20, W20, st20⟩ := stI X17 hx hZ e17 Ar20 (j := (0 : Int32)) (inb_of S20 ⟨by decide, by decide⟩) (g := (mkF m 24 #[.val (.ref a1), .val (.int (5 : Int32)), .val (.int (0 : Int32))] [(.int (0 : Int32)), (.int (0 : Int32)), (.ref b5)])) rfl rfl (hb hby ini_24)
  have V20 : Arv Z h20 b5 k5 .int (5 : Int32) [(.int (0 : Int32)), (.int (0 : Int32)), (.int (0 : Int32)), (.int (0 : Int32)), (.int (0 : Int32))] (.int (0 : Int32)) := Arv.set Ar20 q20 S20 M20 H20 G20 rfl W20 0 rfl (Nat.le_of_ble_eq_true rfl)
  have N20 := Fr.snoc X20 N10 g_b5
  have f21 := f11.wr W20
  have f22 := f12.other W20 (Or.inl ne_a1_b5)
  have f23 := (f14).wr W20 (Or.inr sz_b5)
  have go24 : ∀ t, Steps p.tables e below (T20.setTop (mkF m 25 #[.val (.ref a1), .val (.int (5 : Int32)), .val (.int (0 : Int32))] [])) t → Steps p.tables e below (s₁.setTop (entryFrame m #[(.ref a1), (.int (5 : Int32))] 3)) t := fun t k => go19 t (st20 t k)
  have go25 : ∀ t, Steps p.tables e below (T20.setTop (mkF m 19 #[.val (.ref a1), .val (.int (5 : Int32)), .val (.int (1 : Int32))] [(.ref a1)])) t → Steps p.tables e below (s₁.setTop (entryFrame m #[(.ref a1), (.int (5 : Int32))] 3)) t := fun t k => go24 t (by
    show Steps p.tables e below (T20.setTop (mkF m 25 #[.val (.ref a1), .val (.int (5 : Int32)), .val (.int (0 : Int32))] [])) _
    refine XS.iinc X20.here hx rfl (hb hby ini_25) rfl (l' := #[.val (.ref a1), .val (.int (5 : Int32)), .val (.int (1 : Int32))]) rfl ?_
    show Steps p.tables e below (T20.setTop (mkF m 28 #[.val (.ref a1), .val (.int (5 : Int32)), .val (.int (1 : Int32))] [])) _
    refine XS.goto X20.here hx rfl (pc0 := 28) (pc' := 13) rfl (hb hby ini_28) (by decide) (by decide) ?_
    show Steps p.tables e below (T20.setTop (mkF m 13 #[.val (.ref a1), .val (.int (5 : Int32)), .val (.int (1 : Int32))] [])) _
    refine XS.iloadN X20.here hx rfl (hb hby ini_13) rfl ?_
    show Steps p.tables e below (T20.setTop (mkF m 14 #[.val (.ref a1), .val (.int (5 : Int32)), .val (.int (1 : Int32))] [(.int (1 : Int32))])) _
    refine XS.iloadN X20.here hx rfl (hb hby ini_14) rfl ?_
    show Steps p.tables e below (T20.setTop (mkF m 15 #[.val (.ref a1), .val (.int (5 : Int32)), .val (.int (1 : Int32))] [(.int (5 : Int32)), (.int (1 : Int32))])) _
    refine XS.icmpNo X20.here hx rfl (hb hby ini_15) rfl (tlt (by decide : (1 : Int32) < (5 : Int32))).2.1 ?_
    show Steps p.tables e below (T20.setTop (mkF m 18 #[.val (.ref a1), .val (.int (5 : Int32)), .val (.int (1 : Int32))] [])) _
    refine XS.aloadN X20.here hx rfl (hb hby ini_18) rfl rfl ?_
    exact k)
  obtain ⟨T26, X26, e26, st26⟩ := getF X20 hx hZ hown (host := "") (Or.inl (hw _ (List.mem_of_getElem? (i := 10) rfl))) Via.refl e20 f22 (g := (mkF m 19 #[.val (.ref a1), .val (.int (5 : Int32)), .val (.int (1 : Int32))] [(.ref a1)])) rfl rfl (hb hby ini_19)
  have go27 : ∀ t, Steps p.tables e below (T26.setTop (mkF m 22 #[.val (.ref a1), .val (.int (5 : Int32)), .val (.int (1 : Int32))] [(.ref b5)])) t → Steps p.tables e below (s₁.setTop (entryFrame m #[(.ref a1), (.int (5 : Int32))] 3)) t := fun t k => go25 t (st26 t k)
  have go28 : ∀ t, Steps p.tables e below (T26.setTop (mkF m 24 #[.val (.ref a1), .val (.int (5 : Int32)), .val (.int (1 : Int32))] [(.int (1 : Int32)), (.int (1 : Int32)), (.ref b5)])) t → Steps p.tables e below (s₁.setTop (entryFrame m #[(.ref a1), (.int (5 : Int32))] 3)) t := fun t k => go27 t (by
    show Steps p.tables e below (T26.setTop (mkF m 22 #[.val (.ref a1), .val (.int (5 : Int32)), .val (.int (1 : Int32))] [(.ref b5)])) _
    refine XS.iloadN X26.here hx rfl (hb hby ini_22) rfl ?_
    show Steps p.tables e below (T26.setTop (mkF m 23 #[.val (.ref a1), .val (.int (5 : Int32)), .val (.int (1 : Int32))] [(.int (1 : Int32)), (.ref b5)])) _
    refine XS.iloadN X26.here hx rfl (hb hby ini_23) rfl ?_
    exact k)
  obtain ⟨cl29, Ar29, q29, S29, M29, H29, G29⟩ := id V20
  obtain ⟨T29, h29, X29, e29, W29, st29⟩ := stI X26 hx hZ e26 Ar29 (j := (1 : Int32)) (inb_of S29 ⟨by decide, by decide⟩) (g := (mkF m 24 #[.val (.ref a1), .val (.int (5 : Int32)), .val (.int (1 : Int32))] [(.int (1 : Int32)), (.int (1 : Int32)), (.ref b5)])) rfl rfl (hb hby ini_24)
  have V29 : Arv Z h29 b5 k5 .int (5 : Int32) [(.int (0 : Int32)), (.int (1 : Int32)), (.int (0 : Int32)), (.int (0 : Int32)), (.int (0 : Int32))] (.int (0 : Int32)) := Arv.set Ar29 q29 S29 M29 H29 G29 rfl W29 1 rfl (Nat.le_of_ble_eq_true rfl)
  have N29 := Fr.snoc X29 N20 g_b5
  have f30 := f21.wr W29
  have f31 := f22.other W29 (Or.inl ne_a1_b5)
  have f32 := (f23).wr W29 (Or.inr sz_b5)
  have go33 : ∀ t, Steps p.tables e below (T29.setTop (mkF m 25 #[.val (.ref a1), .val (.int (5 : Int32)), .val (.int (1 : Int32))] [])) t → Steps p.tables e below (s₁.setTop (entryFrame m #[(.ref a1), (.int (5 : Int32))] 3)) t := fun t k => go28 t (st29 t k)
  have go34 : ∀ t, Steps p.tables e below (T29.setTop (mkF m 19 #[.val (.ref a1), .val (.int (5 : Int32)), .val (.int (2 : Int32))] [(.ref a1)])) t → Steps p.tables e below (s₁.setTop (entryFrame m #[(.ref a1), (.int (5 : Int32))] 3)) t := fun t k => go33 t (by
    show Steps p.tables e below (T29.setTop (mkF m 25 #[.val (.ref a1), .val (.int (5 : Int32)), .val (.int (1 : Int32))] [])) _
    refine XS.iinc X29.here hx rfl (hb hby ini_25) rfl (l' := #[.val (.ref a1), .val (.int (5 : Int32)), .val (.int (2 : Int32))]) rfl ?_
    show Steps p.tables e below (T29.setTop (mkF m 28 #[.val (.ref a1), .val (.int (5 : Int32)), .val (.int (2 : Int32))] [])) _
    refine XS.goto X29.here hx rfl (pc0 := 28) (pc' := 13) rfl (hb hby ini_28) (by decide) (by decide) ?_
    show Steps p.tables e below (T29.setTop (mkF m 13 #[.val (.ref a1), .val (.int (5 : Int32)), .val (.int (2 : Int32))] [])) _
    refine XS.iloadN X29.here hx rfl (hb hby ini_13) rfl ?_
    show Steps p.tables e below (T29.setTop (mkF m 14 #[.val (.ref a1), .val (.int (5 : Int32)), .val (.int (2 : Int32))] [(.int (2 : Int32))])) _
    refine XS.iloadN X29.here hx rfl (hb hby ini_14) rfl ?_
    show Steps p.tables e below (T29.setTop (mkF m 15 #[.val (.ref a1), .val (.int (5 : Int32)), .val (.int (2 : Int32))] [(.int (5 : Int32)), (.int (2 : Int32))])) _
    refine XS.icmpNo X29.here hx rfl (hb hby ini_15) rfl (tlt (by decide : (2 : Int32) < (5 : Int32))).2.1 ?_
    show Steps p.tables e below (T29.setTop (mkF m 18 #[.val (.ref a1), .val (.int (5 : Int32)), .val (.int (2 : Int32))] [])) _
    refine XS.aloadN X29.here hx rfl (hb hby ini_18) rfl rfl ?_
    exact k)
  obtain ⟨T35, X35, e35, st35⟩ := getF X29 hx hZ hown (host := "") (Or.inl (hw _ (List.mem_of_getElem? (i := 10) rfl))) Via.refl e29 f31 (g := (mkF m 19 #[.val (.ref a1), .val (.int (5 : Int32)), .val (.int (2 : Int32))] [(.ref a1)])) rfl rfl (hb hby ini_19)
  have go36 : ∀ t, Steps p.tables e below (T35.setTop (mkF m 22 #[.val (.ref a1), .val (.int (5 : Int32)), .val (.int (2 : Int32))] [(.ref b5)])) t → Steps p.tables e below (s₁.setTop (entryFrame m #[(.ref a1), (.int (5 : Int32))] 3)) t := fun t k => go34 t (st35 t k)
  have go37 : ∀ t, Steps p.tables e below (T35.setTop (mkF m 24 #[.val (.ref a1), .val (.int (5 : Int32)), .val (.int (2 : Int32))] [(.int (2 : Int32)), (.int (2 : Int32)), (.ref b5)])) t → Steps p.tables e below (s₁.setTop (entryFrame m #[(.ref a1), (.int (5 : Int32))] 3)) t := fun t k => go36 t (by
    show Steps p.tables e below (T35.setTop (mkF m 22 #[.val (.ref a1), .val (.int (5 : Int32)), .val (.int (2 : Int32))] [(.ref b5)])) _
    refine XS.iloadN X35.here hx rfl (hb hby ini_22) rfl ?_
    show Steps p.tables e below (T35.setTop (mkF m 23 #[.val (.ref a1), .val (.int (5 : Int32)), .val (.int (2 : Int32))] [(.int (2 : Int32)), (.ref b5)])) _
    refine XS.iloadN X35.here hx rfl (hb hby ini_23) rfl ?_
    exact k)
  obtain ⟨cl38, Ar38, q38, S38, M38, H38, G38⟩ := id V29
  obtain ⟨T38, h38, X38, e38, W38, st38⟩ := stI X35 hx hZ e35 Ar38 (j := (2 : Int32)) (inb_of S38 ⟨by decide, by decide⟩) (g := (mkF m 24 #[.val (.ref a1), .val (.int (5 : Int32)), .val (.int (2 : Int32))] [(.int (2 : Int32)), (.int (2 : Int32)), (.ref b5)])) rfl rfl (hb hby ini_24)
  have V38 : Arv Z h38 b5 k5 .int (5 : Int32) [(.int (0 : Int32)), (.int (1 : Int32)), (.int (2 : Int32)), (.int (0 : Int32)), (.int (0 : Int32))] (.int (0 : Int32)) := Arv.set Ar38 q38 S38 M38 H38 G38 rfl W38 2 rfl (Nat.le_of_ble_eq_true rfl)
  have N38 := Fr.snoc X38 N29 g_b5
  have f39 := f30.wr W38
  have f40 := f31.other W38 (Or.inl ne_a1_b5)
  have f41 := (f32).wr W38 (Or.inr sz_b5)
  have go42 : ∀ t, Steps p.tables e below (T38.setTop (mkF m 25 #[.val (.ref a1), .val (.int (5 : Int32)), .val (.int (2 : Int32))] [])) t → Steps p.tables e below (s₁.setTop (entryFrame m #[(.ref a1), (.int (5 : Int32))] 3)) t := fun t k => go37 t (st38 t k)
  have go43 : ∀ t, Steps p.tables e below (T38.setTop (mkF m 19 #[.val (.ref a1), .val (.int (5 : Int32)), .val (.int (3 : Int32))] [(.ref a1)])) t → Steps p.tables e below (s₁.setTop (entryFrame m #[(.ref a1), (.int (5 : Int32))] 3)) t := fun t k => go42 t (by
    show Steps p.tables e below (T38.setTop (mkF m 25 #[.val (.ref a1), .val (.int (5 : Int32)), .val (.int (2 : Int32))] [])) _
    refine XS.iinc X38.here hx rfl (hb hby ini_25) rfl (l' := #[.val (.ref a1), .val (.int (5 : Int32)), .val (.int (3 : Int32))]) rfl ?_
    show Steps p.tables e below (T38.setTop (mkF m 28 #[.val (.ref a1), .val (.int (5 : Int32)), .val (.int (3 : Int32))] [])) _
    refine XS.goto X38.here hx rfl (pc0 := 28) (pc' := 13) rfl (hb hby ini_28) (by decide) (by decide) ?_
    show Steps p.tables e below (T38.setTop (mkF m 13 #[.val (.ref a1), .val (.int (5 : Int32)), .val (.int (3 : Int32))] [])) _
    refine XS.iloadN X38.here hx rfl (hb hby ini_13) rfl ?_
    show Steps p.tables e below (T38.setTop (mkF m 14 #[.val (.ref a1), .val (.int (5 : Int32)), .val (.int (3 : Int32))] [(.int (3 : Int32))])) _
    refine XS.iloadN X38.here hx rfl (hb hby ini_14) rfl ?_
    show Steps p.tables e below (T38.setTop (mkF m 15 #[.val (.ref a1), .val (.int (5 : Int32)), .val (.int (3 : Int32))] [(.int (5 : Int32)), (.int (3 : Int32))])) _
    refine XS.icmpNo X38.here hx rfl (hb hby ini_15) rfl (tlt (by decide : (3 : Int32) < (5 : Int32))).2.1 ?_
    show Steps p.tables e below (T38.setTop (mkF m 18 #[.val (.ref a1), .val (.int (5 : Int32)), .val (.int (3 : Int32))] [])) _
    refine XS.aloadN X38.here hx rfl (hb hby ini_18) rfl rfl ?_
    exact k)
  obtain ⟨T44, X44, e44, st44⟩ := getF X38 hx hZ hown (host := "") (Or.inl (hw _ (List.mem_of_getElem? (i := 10) rfl))) Via.refl e38 f40 (g := (mkF m 19 #[.val (.ref a1), .val (.int (5 : Int32)), .val (.int (3 : Int32))] [(.ref a1)])) rfl rfl (hb hby ini_19)
  have go45 : ∀ t, Steps p.tables e below (T44.setTop (mkF m 22 #[.val (.ref a1), .val (.int (5 : Int32)), .val (.int (3 : Int32))] [(.ref b5)])) t → Steps p.tables e below (s₁.setTop (entryFrame m #[(.ref a1), (.int (5 : Int32))] 3)) t := fun t k => go43 t (st44 t k)
  have go46 : ∀ t, Steps p.tables e below (T44.setTop (mkF m 24 #[.val (.ref a1), .val (.int (5 : Int32)), .val (.int (3 : Int32))] [(.int (3 : Int32)), (.int (3 : Int32)), (.ref b5)])) t → Steps p.tables e below (s₁.setTop (entryFrame m #[(.ref a1), (.int (5 : Int32))] 3)) t := fun t k => go45 t (by
    show Steps p.tables e below (T44.setTop (mkF m 22 #[.val (.ref a1), .val (.int (5 : Int32)), .val (.int (3 : Int32))] [(.ref b5)])) _
    refine XS.iloadN X44.here hx rfl (hb hby ini_22) rfl ?_
    show Steps p.tables e below (T44.setTop (mkF m 23 #[.val (.ref a1), .val (.int (5 : Int32)), .val (.int (3 : Int32))] [(.int (3 : Int32)), (.ref b5)])) _
    refine XS.iloadN X44.here hx rfl (hb hby ini_23) rfl ?_
    exact k)
  obtain ⟨cl47, Ar47, q47, S47, M47, H47, G47⟩ := id V38
  obtain ⟨T47, h47, X47, e47, W47, st47⟩ := stI X44 hx hZ e44 Ar47 (j := (3 : Int32)) (inb_of S47 ⟨by decide, by decide⟩) (g := (mkF m 24 #[.val (.ref a1), .val (.int (5 : Int32)), .val (.int (3 : Int32))] [(.int (3 : Int32)), (.int (3 : Int32)), (.ref b5)])) rfl rfl (hb hby ini_24)
  have V47 : Arv Z h47 b5 k5 .int (5 : Int32) [(.int (0 : Int32)), (.int (1 : Int32)), (.int (2 : Int32)), (.int (3 : Int32)), (.int (0 : Int32))] (.int (0 : Int32)) := Arv.set Ar47 q47 S47 M47 H47 G47 rfl W47 3 rfl (Nat.le_of_ble_eq_true rfl)
  have N47 := Fr.snoc X47 N38 g_b5
  have f48 := f39.wr W47
  have f49 := f40.other W47 (Or.inl ne_a1_b5)
  have f50 := (f41).wr W47 (Or.inr sz_b5)
  have go51 : ∀ t, Steps p.tables e below (T47.setTop (mkF m 25 #[.val (.ref a1), .val (.int (5 : Int32)), .val (.int (3 : Int32))] [])) t → Steps p.tables e below (s₁.setTop (entryFrame m #[(.ref a1), (.int (5 : Int32))] 3)) t := fun t k => go46 t (st47 t k)
  have go52 : ∀ t, Steps p.tables e below (T47.setTop (mkF m 19 #[.val (.ref a1), .val (.int (5 : Int32)), .val (.int (4 : Int32))] [(.ref a1)])) t → Steps p.tables e below (s₁.setTop (entryFrame m #[(.ref a1), (.int (5 : Int32))] 3)) t := fun t k => go51 t (by
    show Steps p.tables e below (T47.setTop (mkF m 25 #[.val (.ref a1), .val (.int (5 : Int32)), .val (.int (3 : Int32))] [])) _
    refine XS.iinc X47.here hx rfl (hb hby ini_25) rfl (l' := #[.val (.ref a1), .val (.int (5 : Int32)), .val (.int (4 : Int32))]) rfl ?_
    show Steps p.tables e below (T47.setTop (mkF m 28 #[.val (.ref a1), .val (.int (5 : Int32)), .val (.int (4 : Int32))] [])) _
    refine XS.goto X47.here hx rfl (pc0 := 28) (pc' := 13) rfl (hb hby ini_28) (by decide) (by decide) ?_
    show Steps p.tables e below (T47.setTop (mkF m 13 #[.val (.ref a1), .val (.int (5 : Int32)), .val (.int (4 : Int32))] [])) _
    refine XS.iloadN X47.here hx rfl (hb hby ini_13) rfl ?_
    show Steps p.tables e below (T47.setTop (mkF m 14 #[.val (.ref a1), .val (.int (5 : Int32)), .val (.int (4 : Int32))] [(.int (4 : Int32))])) _
    refine XS.iloadN X47.here hx rfl (hb hby ini_14) rfl ?_
    show Steps p.tables e below (T47.setTop (mkF m 15 #[.val (.ref a1), .val (.int (5 : Int32)), .val (.int (4 : Int32))] [(.int (5 : Int32)), (.int (4 : Int32))])) _
    refine XS.icmpNo X47.here hx rfl (hb hby ini_15) rfl (tlt (by decide : (4 : Int32) < (5 : Int32))).2.1 ?_
    show Steps p.tables e below (T47.setTop (mkF m 18 #[.val (.ref a1), .val (.int (5 : Int32)), .val (.int (4 : Int32))] [])) _
    refine XS.aloadN X47.here hx rfl (hb hby ini_18) rfl rfl ?_
    exact k)
  obtain ⟨T53, X53, e53, st53⟩ := getF X47 hx hZ hown (host := "") (Or.inl (hw _ (List.mem_of_getElem? (i := 10) rfl))) Via.refl e47 f49 (g := (mkF m 19 #[.val (.ref a1), .val (.int (5 : Int32)), .val (.int (4 : Int32))] [(.ref a1)])) rfl rfl (hb hby ini_19)
  have go54 : ∀ t, Steps p.tables e below (T53.setTop (mkF m 22 #[.val (.ref a1), .val (.int (5 : Int32)), .val (.int (4 : Int32))] [(.ref b5)])) t → Steps p.tables e below (s₁.setTop (entryFrame m #[(.ref a1), (.int (5 : Int32))] 3)) t := fun t k => go52 t (st53 t k)
  have go55 : ∀ t, Steps p.tables e below (T53.setTop (mkF m 24 #[.val (.ref a1), .val (.int (5 : Int32)), .val (.int (4 : Int32))] [(.int (4 : Int32)), (.int (4 : Int32)), (.ref b5)])) t → Steps p.tables e below (s₁.setTop (entryFrame m #[(.ref a1), (.int (5 : Int32))] 3)) t := fun t k => go54 t (by
    show Steps p.tables e below (T53.setTop (mkF m 22 #[.val (.ref a1), .val (.int (5 : Int32)), .val (.int (4 : Int32))] [(.ref b5)])) _
    refine XS.iloadN X53.here hx rfl (hb hby ini_22) rfl ?_
    show Steps p.tables e below (T53.setTop (mkF m 23 #[.val (.ref a1), .val (.int (5 : Int32)), .val (.int (4 : Int32))] [(.int (4 : Int32)), (.ref b5)])) _
    refine XS.iloadN X53.here hx rfl (hb hby ini_23) rfl ?_
    exact k)
  obtain ⟨cl56, Ar56, q56, S56, M56, H56, G56⟩ := id V47
  obtain ⟨T56, h56, X56, e56, W56, st56⟩ := stI X53 hx hZ e53 Ar56 (j := (4 : Int32)) (inb_of S56 ⟨by decide, by decide⟩) (g := (mkF m 24 #[.val (.ref a1), .val (.int (5 : Int32)), .val (.int (4 : Int32))] [(.int (4 : Int32)), (.int (4 : Int32)), (.ref b5)])) rfl rfl (hb hby ini_24)
  have V56 : Arv Z h56 b5 k5 .int (5 : Int32) [(.int (0 : Int32)), (.int (1 : Int32)), (.int (2 : Int32)), (.int (3 : Int32)), (.int (4 : Int32))] (.int (0 : Int32)) := Arv.set Ar56 q56 S56 M56 H56 G56 rfl W56 4 rfl (Nat.le_of_ble_eq_true rfl)
  have N56 := Fr.snoc X56 N47 g_b5
  have f57 := f48.wr W56
  have f58 := f49.other W56 (Or.inl ne_a1_b5)
  have f59 := (f50).wr W56 (Or.inr sz_b5)
  have go60 : ∀ t, Steps p.tables e below (T56.setTop (mkF m 25 #[.val (.ref a1), .val (.int (5 : Int32)), .val (.int (4 : Int32))] [])) t → Steps p.tables e below (s₁.setTop (entryFrame m #[(.ref a1), (.int (5 : Int32))] 3)) t := fun t k => go55 t (st56 t k)
  have go61 : ∀ t, Steps p.tables e below (T56.setTop (mkF m 31 #[.val (.ref a1), .val (.int (5 : Int32)), .val (.int (5 : Int32))] [])) t → Steps p.tables e below (s₁.setTop (entryFrame m #[(.ref a1), (.int (5 : Int32))] 3)) t := fun t k => go60 t (by
    show Steps p.tables e below (T56.setTop (mkF m 25 #[.val (.ref a1), .val (.int (5 : Int32)), .val (.int (4 : Int32))] [])) _
    refine XS.iinc X56.here hx rfl (hb hby ini_25) rfl (l' := #[.val (.ref a1), .val (.int (5 : Int32)), .val (.int (5 : Int32))]) rfl ?_
    show Steps p.tables e below (T56.setTop (mkF m 28 #[.val (.ref a1), .val (.int (5 : Int32)), .val (.int (5 : Int32))] [])) _
    refine XS.goto X56.here hx rfl (pc0 := 28) (pc' := 13) rfl (hb hby ini_28) (by decide) (by decide) ?_
    show Steps p.tables e below (T56.setTop (mkF m 13 #[.val (.ref a1), .val (.int (5 : Int32)), .val (.int (5 : Int32))] [])) _
    refine XS.iloadN X56.here hx rfl (hb hby ini_13) rfl ?_
    show Steps p.tables e below (T56.setTop (mkF m 14 #[.val (.ref a1), .val (.int (5 : Int32)), .val (.int (5 : Int32))] [(.int (5 : Int32))])) _
    refine XS.iloadN X56.here hx rfl (hb hby ini_14) rfl ?_
    show Steps p.tables e below (T56.setTop (mkF m 15 #[.val (.ref a1), .val (.int (5 : Int32)), .val (.int (5 : Int32))] [(.int (5 : Int32)), (.int (5 : Int32))])) _
    refine XS.icmpYes X56.here hx rfl (pc0 := 15) (pc' := 31) rfl (hb hby ini_15) rfl (flt (by decide : ¬ ((5 : Int32) < (5 : Int32)))).2.1 (by decide) (by decide) ?_
    exact k)
  obtain ⟨fs, hr, hrun, hended, hW, hsame⟩ := X56.leave (v := none) (fun _ => rfl)
  refine ⟨_, _, go61 _ ?_, hrun, hended, _, _, rfl, ?_, ⟨_, rfl⟩, hW, hsame.mono (by decide) (by decide)⟩
  · exact X56.returnOut hx Bd.returns (hb hby ini_31) hr
  · show Qini Z a1 h0 n0 _ T56.heap _
    rw [e56]
    exact ⟨rfl, N56, f59, _, _, g_b5, sz_b5, ne_a1_b5, f58, V56⟩
theorem pn_law : plainName "com/example/subsumption/subsumption/reasoner/LinksRootPinLaw" = true := by first | (simp [plainName, overriddenIn]; done) | decide +kernel
theorem ef_law (m : MethodId) (p1 : Int32) (p2 : Int32) (p3 : Int32) (p4 : Int32) (p5 : Int32) : entryFrame m #[(.int p1), (.int p2), (.int p3), (.int p4), (.int p5)] maxLocals = mkF m 0 #[.val (.int p1), .val (.int p2), .val (.int p3), .val (.int p4), .val (.int p5), .unset, .unset, .unset, .unset] [] := by first | (simp [entryFrame, mkF, argsToLocals, Value.category, maxLocals]; done) | rfl
def QL (n0 : Nat) (v : Option Value) (h : Heap) (L : List Loc) : Prop := v = some (.int 1) ∧ Fr n0 L
set_option maxRecDepth 65536 in
set_option maxHeartbeats 40000000 in
theorem rm_law (l : Launch) (Z : State) (a0 : Array Value) (hw : ∀ d ∈ tables_1, d.before a0 Z = true) (ws : List Jvm.Cond) (p1 : Int32) (p2 : Int32) (p3 : Int32) (p4 : Int32) (p5 : Int32) (h0 : Heap) (n0 : Nat) (Z0 : n0 ≤ h0.size) :
    MetFree l x (head1 (Jvm.Cond.code x code maxLocals ret :: ws) room_1) (fun a U => a = #[(.int p1), (.int p2), (.int p3), (.int p4), (.int p5)] ∧ Z.Warmed39 U.vm ∧ U.heap = h0) (fun _ _ _ _ _ => True) (fun _ U o U' => ∃ v L, o = .returned v ∧ QL n0 v U'.heap L ∧ FrameEnd U o U' L room_1.cells room_1.slots) := by
  refine MetFree.of_bodySF (plainFor_of_name pn_law) hisR ?_
  intro p e s m args below meth c s₁ Bd hml0 hP hK
  obtain ⟨rfl, hZ, hh⟩ := hP
  have hx := Bd.exec
  have hby := Bd.bytes
  have hml : c.maxLocals = 9 := hml0
  have hown : s.vm.findClass "com/example/subsumption/subsumption/reasoner/LinksRootPinLaw" = some m.cls := findClass_of_methodNamed Bd.named
  have hnm := (name_of_methodNamed Bd.named Bd.method).1
  have X0 : Stand p l e room_1 s m #[(.int p1), (.int p2), (.int p3), (.int p4), (.int p5)] below meth c s₁ [] 0 0 := Stand.of_body Bd
  have e0 : s₁.heap = h0 := by rw [← hh, Bd.state]; rfl
  have N0 := Fr.nil n0
  have go0 : ∀ t, Steps p.tables e below (s₁.setTop (mkF m 0 #[.val (.int p1), .val (.int p2), .val (.int p3), .val (.int p4), .val (.int p5), .unset, .unset, .unset, .unset] [])) t → Steps p.tables e below (s₁.setTop (entryFrame m #[(.int p1), (.int p2), (.int p3), (.int p4), (.int p5)] maxLocals)) t := fun t k => castTop (ef_law m p1 p2 p3 p4 p5) k
  have go1 : ∀ t, Steps p.tables e below (s₁.setTop (mkF m 1 #[.val (.int p1), .val (.int p2), .val (.int p3), .val (.int p4), .val (.int p5), .unset, .unset, .unset, .unset] [(.int (5 : Int32))])) t → Steps p.tables e below (s₁.setTop (entryFrame m #[(.int p1), (.int p2), (.int p3), (.int p4), (.int p5)] maxLocals)) t := fun t k => go0 t (by
    show Steps p.tables e below (s₁.setTop (mkF m 0 #[.val (.int p1), .val (.int p2), .val (.int p3), .val (.int p4), .val (.int p5), .unset, .unset, .unset, .unset] [])) _
    refine XS.iconst X0.here hx rfl (hb hby at_0) ?_
    exact k)
  obtain ⟨T2, h2, k2, X2, e2, E2, A2, st2⟩ := newP X0 hx hZ (hw _ (List.mem_of_getElem? (i := 0) rfl)) e0 (g := (mkF m 1 #[.val (.int p1), .val (.int p2), .val (.int p3), .val (.int p4), .val (.int p5), .unset, .unset, .unset, .unset] [(.int (5 : Int32))])) rfl (hb hby at_1) rfl (by decide) (cap := 5) (by decide) (by decide) (by decide) (by decide)
  obtain ⟨b2, g2⟩ : ∃ z, z = h0.size := ⟨_, rfl⟩
  rw [← g2] at A2 st2
  have g_b2 : n0 ≤ b2 := Nat.le_trans Z0 (Nat.le_of_eq g2.symm)
  have V2 : Arv Z h2 b2 k2 .int (5 : Int32) [(.int (0 : Int32)), (.int (0 : Int32)), (.int (0 : Int32)), (.int (0 : Int32)), (.int (0 : Int32))] (.int (0 : Int32)) := (Arv.new A2 (by decide)).pad (pad_rep [] (.int (0 : Int32)) 5)
  have go3 : ∀ t, Steps p.tables e below (T2.setTop (mkF m 3 #[.val (.int p1), .val (.int p2), .val (.int p3), .val (.int p4), .val (.int p5), .unset, .unset, .unset, .unset] [(.ref b2)])) t → Steps p.tables e below (s₁.setTop (entryFrame m #[(.int p1), (.int p2), (.int p3), (.int p4), (.int p5)] maxLocals)) t := fun t k => go1 t (st2 t k)
  have go4 : ∀ t, Steps p.tables e below (T2.setTop (mkF m 6 #[.val (.int p1), .val (.int p2), .val (.int p3), .val (.int p4), .val (.int p5), .unset, .unset, .unset, .unset] [(.int (0 : Int32)), (.int (0 : Int32)), (.ref b2), (.ref b2)])) t → Steps p.tables e below (s₁.setTop (entryFrame m #[(.int p1), (.int p2), (.int p3), (.int p4), (.int p5)] maxLocals)) t := fun t k => go3 t (by
    show Steps p.tables e below (T2.setTop (mkF m 3 #[.val (.int p1), .val (.int p2), .val (.int p3), .val (.int p4), .val (.int p5), .unset, .unset, .unset, .unset] [(.ref b2)])) _
    refine XS.dup X2.here hx rfl (hb hby at_3) rfl rfl ?_
    show Steps p.tables e below (T2.setTop (mkF m 4 #[.val (.int p1), .val (.int p2), .val (.int p3), .val (.int p4), .val (.int p5), .unset, .unset, .unset, .unset] [(.ref b2), (.ref b2)])) _
    refine XS.iconst X2.here hx rfl (hb hby at_4) ?_
    show Steps p.tables e below (T2.setTop (mkF m 5 #[.val (.int p1), .val (.int p2), .val (.int p3), .val (.int p4), .val (.int p5), .unset, .unset, .unset, .unset] [(.int (0 : Int32)), (.ref b2), (.ref b2)])) _
    refine XS.iconst X2.here hx rfl (hb hby at_5) ?_
    exact k)
  obtain ⟨cl5, Ar5, q5, S5, M5, H5, G5⟩ := id V2
  obtain ⟨T5, h5, X5, e5, W5, st5⟩ := stI X2 hx hZ e2 Ar5 (j := (0 : Int32)) (inb_of S5 ⟨by decide, by decide⟩) (g := (mkF m 6 #[.val (.int p1), .val (.int p2), .val (.int p3), .val (.int p4), .val (.int p5), .unset, .unset, .unset, .unset] [(.int (0 : Int32)), (.int (0 : Int32)), (.ref b2), (.ref b2)])) rfl rfl (hb hby at_6)
  have V5 : Arv Z h5 b2 k2 .int (5 : Int32) [(.int (0 : Int32)), (.int (0 : Int32)), (.int (0 : Int32)), (.int (0 : Int32)), (.int (0 : Int32))] (.int (0 : Int32)) := Arv.set Ar5 q5 S5 M5 H5 G5 rfl W5 0 rfl (Nat.le_of_ble_eq_true rfl)
  have N5 := Fr.snoc X5 N0 g_b2
  have go6 : ∀ t, Steps p.tables e below (T5.setTop (mkF m 7 #[.val (.int p1), .val (.int p2), .val (.int p3), .val (.int p4), .val (.int p5), .unset, .unset, .unset, .unset] [(.ref b2)])) t → Steps p.tables e below (s₁.setTop (entryFrame m #[(.int p1), (.int p2), (.int p3), (.int p4), (.int p5)] maxLocals)) t := fun t k => go4 t (st5 t k)
  have go7 : ∀ t, Steps p.tables e below (T5.setTop (mkF m 10 #[.val (.int p1), .val (.int p2), .val (.int p3), .val (.int p4), .val (.int p5), .unset, .unset, .unset, .unset] [(.int (1 : Int32)), (.int (1 : Int32)), (.ref b2), (.ref b2)])) t → Steps p.tables e below (s₁.setTop (entryFrame m #[(.int p1), (.int p2), (.int p3), (.int p4), (.int p5)] maxLocals)) t := fun t k => go6 t (by
    show Steps p.tables e below (T5.setTop (mkF m 7 #[.val (.int p1), .val (.int p2), .val (.int p3), .val (.int p4), .val (.int p5), .unset, .unset, .unset, .unset] [(.ref b2)])) _
    refine XS.dup X5.here hx rfl (hb hby at_7) rfl rfl ?_
    show Steps p.tables e below (T5.setTop (mkF m 8 #[.val (.int p1), .val (.int p2), .val (.int p3), .val (.int p4), .val (.int p5), .unset, .unset, .unset, .unset] [(.ref b2), (.ref b2)])) _
    refine XS.iconst X5.here hx rfl (hb hby at_8) ?_
    show Steps p.tables e below (T5.setTop (mkF m 9 #[.val (.int p1), .val (.int p2), .val (.int p3), .val (.int p4), .val (.int p5), .unset, .unset, .unset, .unset] [(.int (1 : Int32)), (.ref b2), (.ref b2)])) _
    refine XS.iconst X5.here hx rfl (hb hby at_9) ?_
    exact k)
  obtain ⟨cl8, Ar8, q8, S8, M8, H8, G8⟩ := id V5
  obtain ⟨T8, h8, X8, e8, W8, st8⟩ := stI X5 hx hZ e5 Ar8 (j := (1 : Int32)) (inb_of S8 ⟨by decide, by decide⟩) (g := (mkF m 10 #[.val (.int p1), .val (.int p2), .val (.int p3), .val (.int p4), .val (.int p5), .unset, .unset, .unset, .unset] [(.int (1 : Int32)), (.int (1 : Int32)), (.ref b2), (.ref b2)])) rfl rfl (hb hby at_10)
  have V8 : Arv Z h8 b2 k2 .int (5 : Int32) [(.int (0 : Int32)), (.int (1 : Int32)), (.int (0 : Int32)), (.int (0 : Int32)), (.int (0 : Int32))] (.int (0 : Int32)) := Arv.set Ar8 q8 S8 M8 H8 G8 rfl W8 1 rfl (Nat.le_of_ble_eq_true rfl)
  have N8 := Fr.snoc X8 N5 g_b2
  have go9 : ∀ t, Steps p.tables e below (T8.setTop (mkF m 11 #[.val (.int p1), .val (.int p2), .val (.int p3), .val (.int p4), .val (.int p5), .unset, .unset, .unset, .unset] [(.ref b2)])) t → Steps p.tables e below (s₁.setTop (entryFrame m #[(.int p1), (.int p2), (.int p3), (.int p4), (.int p5)] maxLocals)) t := fun t k => go7 t (st8 t k)
  have go10 : ∀ t, Steps p.tables e below (T8.setTop (mkF m 14 #[.val (.int p1), .val (.int p2), .val (.int p3), .val (.int p4), .val (.int p5), .unset, .unset, .unset, .unset] [(.int (2 : Int32)), (.int (2 : Int32)), (.ref b2), (.ref b2)])) t → Steps p.tables e below (s₁.setTop (entryFrame m #[(.int p1), (.int p2), (.int p3), (.int p4), (.int p5)] maxLocals)) t := fun t k => go9 t (by
    show Steps p.tables e below (T8.setTop (mkF m 11 #[.val (.int p1), .val (.int p2), .val (.int p3), .val (.int p4), .val (.int p5), .unset, .unset, .unset, .unset] [(.ref b2)])) _
    refine XS.dup X8.here hx rfl (hb hby at_11) rfl rfl ?_
    show Steps p.tables e below (T8.setTop (mkF m 12 #[.val (.int p1), .val (.int p2), .val (.int p3), .val (.int p4), .val (.int p5), .unset, .unset, .unset, .unset] [(.ref b2), (.ref b2)])) _
    refine XS.iconst X8.here hx rfl (hb hby at_12) ?_
    show Steps p.tables e below (T8.setTop (mkF m 13 #[.val (.int p1), .val (.int p2), .val (.int p3), .val (.int p4), .val (.int p5), .unset, .unset, .unset, .unset] [(.int (2 : Int32)), (.ref b2), (.ref b2)])) _
    refine XS.iconst X8.here hx rfl (hb hby at_13) ?_
    exact k)
  obtain ⟨cl11, Ar11, q11, S11, M11, H11, G11⟩ := id V8
  obtain ⟨T11, h11, X11, e11, W11, st11⟩ := stI X8 hx hZ e8 Ar11 (j := (2 : Int32)) (inb_of S11 ⟨by decide, by decide⟩) (g := (mkF m 14 #[.val (.int p1), .val (.int p2), .val (.int p3), .val (.int p4), .val (.int p5), .unset, .unset, .unset, .unset] [(.int (2 : Int32)), (.int (2 : Int32)), (.ref b2), (.ref b2)])) rfl rfl (hb hby at_14)
  have V11 : Arv Z h11 b2 k2 .int (5 : Int32) [(.int (0 : Int32)), (.int (1 : Int32)), (.int (2 : Int32)), (.int (0 : Int32)), (.int (0 : Int32))] (.int (0 : Int32)) := Arv.set Ar11 q11 S11 M11 H11 G11 rfl W11 2 rfl (Nat.le_of_ble_eq_true rfl)
  have N11 := Fr.snoc X11 N8 g_b2
  have go12 : ∀ t, Steps p.tables e below (T11.setTop (mkF m 15 #[.val (.int p1), .val (.int p2), .val (.int p3), .val (.int p4), .val (.int p5), .unset, .unset, .unset, .unset] [(.ref b2)])) t → Steps p.tables e below (s₁.setTop (entryFrame m #[(.int p1), (.int p2), (.int p3), (.int p4), (.int p5)] maxLocals)) t := fun t k => go10 t (st11 t k)
  have go13 : ∀ t, Steps p.tables e below (T11.setTop (mkF m 18 #[.val (.int p1), .val (.int p2), .val (.int p3), .val (.int p4), .val (.int p5), .unset, .unset, .unset, .unset] [(.int (3 : Int32)), (.int (3 : Int32)), (.ref b2), (.ref b2)])) t → Steps p.tables e below (s₁.setTop (entryFrame m #[(.int p1), (.int p2), (.int p3), (.int p4), (.int p5)] maxLocals)) t := fun t k => go12 t (by
    show Steps p.tables e below (T11.setTop (mkF m 15 #[.val (.int p1), .val (.int p2), .val (.int p3), .val (.int p4), .val (.int p5), .unset, .unset, .unset, .unset] [(.ref b2)])) _
    refine XS.dup X11.here hx rfl (hb hby at_15) rfl rfl ?_
    show Steps p.tables e below (T11.setTop (mkF m 16 #[.val (.int p1), .val (.int p2), .val (.int p3), .val (.int p4), .val (.int p5), .unset, .unset, .unset, .unset] [(.ref b2), (.ref b2)])) _
    refine XS.iconst X11.here hx rfl (hb hby at_16) ?_
    show Steps p.tables e below (T11.setTop (mkF m 17 #[.val (.int p1), .val (.int p2), .val (.int p3), .val (.int p4), .val (.int p5), .unset, .unset, .unset, .unset] [(.int (3 : Int32)), (.ref b2), (.ref b2)])) _
    refine XS.iconst X11.here hx rfl (hb hby at_17) ?_
    exact k)
  obtain ⟨cl14, Ar14, q14, S14, M14, H14, G14⟩ := id V11
  obtain ⟨T14, h14, X14, e14, W14, st14⟩ := stI X11 hx hZ e11 Ar14 (j := (3 : Int32)) (inb_of S14 ⟨by decide, by decide⟩) (g := (mkF m 18 #[.val (.int p1), .val (.int p2), .val (.int p3), .val (.int p4), .val (.int p5), .unset, .unset, .unset, .unset] [(.int (3 : Int32)), (.int (3 : Int32)), (.ref b2), (.ref b2)])) rfl rfl (hb hby at_18)
  have V14 : Arv Z h14 b2 k2 .int (5 : Int32) [(.int (0 : Int32)), (.int (1 : Int32)), (.int (2 : Int32)), (.int (3 : Int32)), (.int (0 : Int32))] (.int (0 : Int32)) := Arv.set Ar14 q14 S14 M14 H14 G14 rfl W14 3 rfl (Nat.le_of_ble_eq_true rfl)
  have N14 := Fr.snoc X14 N11 g_b2
  have go15 : ∀ t, Steps p.tables e below (T14.setTop (mkF m 19 #[.val (.int p1), .val (.int p2), .val (.int p3), .val (.int p4), .val (.int p5), .unset, .unset, .unset, .unset] [(.ref b2)])) t → Steps p.tables e below (s₁.setTop (entryFrame m #[(.int p1), (.int p2), (.int p3), (.int p4), (.int p5)] maxLocals)) t := fun t k => go13 t (st14 t k)
  have go16 : ∀ t, Steps p.tables e below (T14.setTop (mkF m 22 #[.val (.int p1), .val (.int p2), .val (.int p3), .val (.int p4), .val (.int p5), .unset, .unset, .unset, .unset] [(.int (4 : Int32)), (.int (4 : Int32)), (.ref b2), (.ref b2)])) t → Steps p.tables e below (s₁.setTop (entryFrame m #[(.int p1), (.int p2), (.int p3), (.int p4), (.int p5)] maxLocals)) t := fun t k => go15 t (by
    show Steps p.tables e below (T14.setTop (mkF m 19 #[.val (.int p1), .val (.int p2), .val (.int p3), .val (.int p4), .val (.int p5), .unset, .unset, .unset, .unset] [(.ref b2)])) _
    refine XS.dup X14.here hx rfl (hb hby at_19) rfl rfl ?_
    show Steps p.tables e below (T14.setTop (mkF m 20 #[.val (.int p1), .val (.int p2), .val (.int p3), .val (.int p4), .val (.int p5), .unset, .unset, .unset, .unset] [(.ref b2), (.ref b2)])) _
    refine XS.iconst X14.here hx rfl (hb hby at_20) ?_
    show Steps p.tables e below (T14.setTop (mkF m 21 #[.val (.int p1), .val (.int p2), .val (.int p3), .val (.int p4), .val (.int p5), .unset, .unset, .unset, .unset] [(.int (4 : Int32)), (.ref b2), (.ref b2)])) _
    refine XS.iconst X14.here hx rfl (hb hby at_21) ?_
    exact k)
  obtain ⟨cl17, Ar17, q17, S17, M17, H17, G17⟩ := id V14
  obtain ⟨T17, h17, X17, e17, W17, st17⟩ := stI X14 hx hZ e14 Ar17 (j := (4 : Int32)) (inb_of S17 ⟨by decide, by decide⟩) (g := (mkF m 22 #[.val (.int p1), .val (.int p2), .val (.int p3), .val (.int p4), .val (.int p5), .unset, .unset, .unset, .unset] [(.int (4 : Int32)), (.int (4 : Int32)), (.ref b2), (.ref b2)])) rfl rfl (hb hby at_22)
  have V17 : Arv Z h17 b2 k2 .int (5 : Int32) [(.int (0 : Int32)), (.int (1 : Int32)), (.int (2 : Int32)), (.int (3 : Int32)), (.int (4 : Int32))] (.int (0 : Int32)) := Arv.set Ar17 q17 S17 M17 H17 G17 rfl W17 4 rfl (Nat.le_of_ble_eq_true rfl)
  have N17 := Fr.snoc X17 N14 g_b2
  have go18 : ∀ t, Steps p.tables e below (T17.setTop (mkF m 23 #[.val (.int p1), .val (.int p2), .val (.int p3), .val (.int p4), .val (.int p5), .unset, .unset, .unset, .unset] [(.ref b2)])) t → Steps p.tables e below (s₁.setTop (entryFrame m #[(.int p1), (.int p2), (.int p3), (.int p4), (.int p5)] maxLocals)) t := fun t k => go16 t (st17 t k)
  have go19 : ∀ t, Steps p.tables e below (T17.setTop (mkF m 25 #[.val (.int p1), .val (.int p2), .val (.int p3), .val (.int p4), .val (.int p5), .val (.ref b2), .unset, .unset, .unset] [])) t → Steps p.tables e below (s₁.setTop (entryFrame m #[(.int p1), (.int p2), (.int p3), (.int p4), (.int p5)] maxLocals)) t := fun t k => go18 t (by
    show Steps p.tables e below (T17.setTop (mkF m 23 #[.val (.int p1), .val (.int p2), .val (.int p3), .val (.int p4), .val (.int p5), .unset, .unset, .unset, .unset] [(.ref b2)])) _
    refine XS.astore X17.here hx rfl (hb hby at_23) rfl rfl (l' := #[.val (.int p1), .val (.int p2), .val (.int p3), .val (.int p4), .val (.int p5), .val (.ref b2), .unset, .unset, .unset]) rfl ?_
    exact k)
  obtain ⟨T20, h20, X20, e20, E20, A20, D20, -, st20⟩ := newO X17 hx hZ hown (hw _ (List.mem_of_getElem? (i := 1) rfl)) (hw _ (List.mem_of_getElem? (i := 2) rfl)) (hw _ (List.mem_of_getElem? (i := 3) rfl)) e17 (g := (mkF m 25 #[.val (.int p1), .val (.int p2), .val (.int p3), .val (.int p4), .val (.int p5), .val (.ref b2), .unset, .unset, .unset] [])) rfl (hb hby at_25) (by decide) (by decide)
  obtain ⟨b20, g20⟩ : ∃ z, z = h17.size := ⟨_, rfl⟩
  rw [← g20] at A20 D20 st20
  have g_b20 : n0 ≤ b20 := Nat.le_trans (Nat.le_trans (Nat.le_trans (Nat.le_trans (Nat.le_trans (Nat.le_trans (Nat.le_trans Z0 E2.1) (Keep.of_wr W5).1) (Keep.of_wr W8).1) (Keep.of_wr W11).1) (Keep.of_wr W14).1) (Keep.of_wr W17).1) (Nat.le_of_eq g20.symm)
  have ne_b2_b20 : b2 ≠ b20 := Nat.ne_of_lt (Nat.lt_of_lt_of_le V17.lt (Nat.le_of_eq g20.symm))
  have f21 := V17.ext E20
  have F20_parent : Fld Z h20 b20 "com/example/subsumption/subsumption/reasoner/Links" "parent" "[I" .null := D20 (Or.inr (hw _ (List.mem_of_getElem? (i := 11) rfl))) (ty := (.array .int)) (by decide)
  have go22 : ∀ t, Steps p.tables e below (T20.setTop (mkF m 28 #[.val (.int p1), .val (.int p2), .val (.int p3), .val (.int p4), .val (.int p5), .val (.ref b2), .unset, .unset, .unset] [(.ref b20)])) t → Steps p.tables e below (s₁.setTop (entryFrame m #[(.int p1), (.int p2), (.int p3), (.int p4), (.int p5)] maxLocals)) t := fun t k => go19 t (st20 t k)
  have go23 : ∀ t, Steps p.tables e below (T20.setTop (mkF m 30 #[.val (.int p1), .val (.int p2), .val (.int p3), .val (.int p4), .val (.int p5), .val (.ref b2), .unset, .unset, .unset] [(.int (5 : Int32)), (.ref b20), (.ref b20)])) t → Steps p.tables e below (s₁.setTop (entryFrame m #[(.int p1), (.int p2), (.int p3), (.int p4), (.int p5)] maxLocals)) t := fun t k => go22 t (by
    show Steps p.tables e below (T20.setTop (mkF m 28 #[.val (.int p1), .val (.int p2), .val (.int p3), .val (.int p4), .val (.int p5), .val (.ref b2), .unset, .unset, .unset] [(.ref b20)])) _
    refine XS.dup X20.here hx rfl (hb hby at_28) rfl rfl ?_
    show Steps p.tables e below (T20.setTop (mkF m 29 #[.val (.int p1), .val (.int p2), .val (.int p3), .val (.int p4), .val (.int p5), .val (.ref b2), .unset, .unset, .unset] [(.ref b20), (.ref b20)])) _
    refine XS.iconst X20.here hx rfl (hb hby at_29) ?_
    exact k)
  obtain ⟨_, _, ⟨T24, L24, k24, n24⟩, -, X24, ⟨Lc24, hQ24, l24, y24, z24⟩, st24⟩ := X20.specialBack hx (y := (⟨"com/example/subsumption/subsumption/reasoner/Links", "<init>", "(I)V"⟩ : MethodName)) rfl hown (mvT hZ (hw _ (List.mem_of_getElem? (i := 4) rfl))) (mvT hZ (hw _ (List.mem_of_getElem? (i := 5) rfl))) (mvT hZ (hw _ (List.mem_of_getElem? (i := 6) rfl))) (by decide) (backOf (W := 1) (rm_ini l Z a0 hw [] b20 _ h20 n0 (Nat.le_trans (Nat.le_trans (Nat.le_trans (Nat.le_trans (Nat.le_trans (Nat.le_trans (Nat.le_trans Z0 E2.1) (Keep.of_wr W5).1) (Keep.of_wr W8).1) (Keep.of_wr W11).1) (Keep.of_wr W14).1) (Keep.of_wr W17).1) E20.1) A20 F20_parent g_b20) hZ (hw _ (List.mem_of_getElem? (i := 6) rfl)) (hw _ (List.mem_of_getElem? (i := 3) rfl)) (by decide) (by decide)) (g := (mkF m 30 #[.val (.int p1), .val (.int p2), .val (.int p3), .val (.int p4), .val (.int p5), .val (.ref b2), .unset, .unset, .unset] [(.int (5 : Int32)), (.ref b20), (.ref b20)])) rfl (by rw [hml]; rfl) (Steps.refl _) (a := b20) (argsL := [(.int (5 : Int32))]) (rest := [(.ref b20)]) (lenOf pd_3 rfl) rfl (by show 2 * 0 + _ ≤ _; exact Nat.le_of_eq rfl) (hb hby at_30) (fun _ _ => ⟨rfl, e20, (by decide : 2 + 1 ≤ _), (by decide : 6 + 5 ≤ _)⟩)
  dsimp only [Pt.U, Pt.locs, Pt.cells, Pt.slots] at X24 l24 y24 z24 st24 hQ24
  subst l24 y24 z24
  obtain ⟨h24, e24⟩ : ∃ z, T24.heap = z := ⟨_, rfl⟩
  rw [e24] at hQ24
  obtain ⟨rfl, N24q, K24, b24, k24, g24, s24, ne24, F24, V24⟩ := hQ24
  have N24 := Fr.app N17 N24q
  have go25 : ∀ t, Steps p.tables e below (T24.setTop (mkF m 33 #[.val (.int p1), .val (.int p2), .val (.int p3), .val (.int p4), .val (.int p5), .val (.ref b2), .unset, .unset, .unset] [(.ref b20)])) t → Steps p.tables e below (s₁.setTop (entryFrame m #[(.int p1), (.int p2), (.int p3), (.int p4), (.int p5)] maxLocals)) t := fun t k => go23 t (st24.trans k)
  have ne_b2_b24 : b2 ≠ b24 := Nat.ne_of_lt (Nat.lt_of_lt_of_le f21.lt s24)
  have f26 := f21.keep K24 (ninS ne_b2_b20 nin0)
  have f27 := A20.keep K24
  have V24q : Arv Z h24 b24 k24 .int (5 : Int32) (own_pv [0, 1, 2, 3, 4]) (.int (0 : Int32)) := V24
  have L24q : Arv Z h24 b2 k2 .int (5 : Int32) (own_pv (own_labs [0, 1, 2, 3, 4])) (.int (0 : Int32)) := by rw [show own_labs [0, 1, 2, 3, 4] = [0, 1, 2, 3, 4] from by decide]; exact f26
  have go28 : ∀ t, Steps p.tables e below (T24.setTop (mkF m 40 #[.val (.int p1), .val (.int p2), .val (.int p3), .val (.int p4), .val (.int p5), .val (.ref b2), .val (.ref b20), .unset, .unset] [(.int p1), (.ref b2), (.ref b20)])) t → Steps p.tables e below (s₁.setTop (entryFrame m #[(.int p1), (.int p2), (.int p3), (.int p4), (.int p5)] maxLocals)) t := fun t k => go25 t (by
    show Steps p.tables e below (T24.setTop (mkF m 33 #[.val (.int p1), .val (.int p2), .val (.int p3), .val (.int p4), .val (.int p5), .val (.ref b2), .unset, .unset, .unset] [(.ref b20)])) _
    refine XS.astore X24.here hx rfl (hb hby at_33) rfl rfl (l' := #[.val (.int p1), .val (.int p2), .val (.int p3), .val (.int p4), .val (.int p5), .val (.ref b2), .val (.ref b20), .unset, .unset]) rfl ?_
    show Steps p.tables e below (T24.setTop (mkF m 35 #[.val (.int p1), .val (.int p2), .val (.int p3), .val (.int p4), .val (.int p5), .val (.ref b2), .val (.ref b20), .unset, .unset] [])) _
    refine XS.aload X24.here hx rfl (hb hby at_35) rfl rfl ?_
    show Steps p.tables e below (T24.setTop (mkF m 37 #[.val (.int p1), .val (.int p2), .val (.int p3), .val (.int p4), .val (.int p5), .val (.ref b2), .val (.ref b20), .unset, .unset] [(.ref b20)])) _
    refine XS.aload X24.here hx rfl (hb hby at_37) rfl rfl ?_
    show Steps p.tables e below (T24.setTop (mkF m 39 #[.val (.int p1), .val (.int p2), .val (.int p3), .val (.int p4), .val (.int p5), .val (.ref b2), .val (.ref b20), .unset, .unset] [(.ref b2), (.ref b20)])) _
    refine XS.iloadN X24.here hx rfl (hb hby at_39) rfl ?_
    exact k)
  obtain ⟨_, _, ⟨T29, L29, k29, n29⟩, -, X29, ⟨Lc29, hQ29, l29, y29, z29⟩, st29⟩ := Jvm.LawKit.callS X24 hx (y := (⟨"com/example/subsumption/subsumption/reasoner/LinksRootPinLaw", "step", "(Lcom/example/subsumption/subsumption/reasoner/Links;[II)V"⟩ : MethodName)) hown (mvT hZ (hw _ (List.mem_of_getElem? (i := 12) rfl))) (mvT hZ (hw _ (List.mem_of_getElem? (i := 13) rfl))) (mvT hZ (hw _ (List.mem_of_getElem? (i := 14) rfl))) (mvT hZ (hw _ (List.mem_of_getElem? (i := 15) rfl))) (by decide) (backOf (W := 0) (rm_sp l Z a0 hw [] b20 b2 p1 b24 k24 [0, 1, 2, 3, 4] k2 h24 n0 (Nat.le_trans (Nat.le_trans (Nat.le_trans (Nat.le_trans (Nat.le_trans (Nat.le_trans (Nat.le_trans (Nat.le_trans Z0 E2.1) (Keep.of_wr W5).1) (Keep.of_wr W8).1) (Keep.of_wr W11).1) (Keep.of_wr W14).1) (Keep.of_wr W17).1) E20.1) K24.1) f27 F24 V24q (show [0, 1, 2, 3, 4] ∈ own_all from by decide) g24 ne24 L24q g_b2 (Ne.symm ne_b2_b20) (Ne.symm ne_b2_b24)) hZ (hw _ (List.mem_of_getElem? (i := 15) rfl)) (hw _ (List.mem_of_getElem? (i := 14) rfl)) (by decide) (by decide)) (g := (mkF m 40 #[.val (.int p1), .val (.int p2), .val (.int p3), .val (.int p4), .val (.int p5), .val (.ref b2), .val (.ref b20), .unset, .unset] [(.int p1), (.ref b2), (.ref b20)])) rfl (by rw [hml]; rfl) (argsL := [(.ref b20), (.ref b2), (.int p1)]) (rest := []) (lenOf pd_4 rfl) rfl (by show 2 * 0 + _ ≤ _; exact Nat.le_of_eq rfl) (hb hby at_40) (fun _ _ => ⟨rfl, e24, (by decide : 3 + 0 ≤ _), (by decide : 11 + 0 ≤ _)⟩)
  dsimp only [Pt.U, Pt.locs, Pt.cells, Pt.slots] at X29 l29 y29 z29 st29 hQ29
  subst l29 y29 z29
  obtain ⟨h29, e29⟩ : ∃ z, T29.heap = z := ⟨_, rfl⟩
  rw [e29] at hQ29
  obtain ⟨rfl, N29q, K29, P29, hP29, V29, L29q⟩ := hQ29
  have N29 := Fr.app N24 N29q
  have go30 : ∀ t, Steps p.tables e below (T29.setTop (mkF m 43 #[.val (.int p1), .val (.int p2), .val (.int p3), .val (.int p4), .val (.int p5), .val (.ref b2), .val (.ref b20), .unset, .unset] [])) t → Steps p.tables e below (s₁.setTop (entryFrame m #[(.int p1), (.int p2), (.int p3), (.int p4), (.int p5)] maxLocals)) t := fun t k => go28 t (st29 t k)
  have f31 := f27.keep K29
  have f32 := F24.keep K29 (ninS ne24 (ninS (Ne.symm ne_b2_b20) nin0))
  have go33 : ∀ t, Steps p.tables e below (T29.setTop (mkF m 48 #[.val (.int p1), .val (.int p2), .val (.int p3), .val (.int p4), .val (.int p5), .val (.ref b2), .val (.ref b20), .unset, .unset] [(.int p2), (.ref b2), (.ref b20)])) t → Steps p.tables e below (s₁.setTop (entryFrame m #[(.int p1), (.int p2), (.int p3), (.int p4), (.int p5)] maxLocals)) t := fun t k => go30 t (by
    show Steps p.tables e below (T29.setTop (mkF m 43 #[.val (.int p1), .val (.int p2), .val (.int p3), .val (.int p4), .val (.int p5), .val (.ref b2), .val (.ref b20), .unset, .unset] [])) _
    refine XS.aload X29.here hx rfl (hb hby at_43) rfl rfl ?_
    show Steps p.tables e below (T29.setTop (mkF m 45 #[.val (.int p1), .val (.int p2), .val (.int p3), .val (.int p4), .val (.int p5), .val (.ref b2), .val (.ref b20), .unset, .unset] [(.ref b20)])) _
    refine XS.aload X29.here hx rfl (hb hby at_45) rfl rfl ?_
    show Steps p.tables e below (T29.setTop (mkF m 47 #[.val (.int p1), .val (.int p2), .val (.int p3), .val (.int p4), .val (.int p5), .val (.ref b2), .val (.ref b20), .unset, .unset] [(.ref b2), (.ref b20)])) _
    refine XS.iloadN X29.here hx rfl (hb hby at_47) rfl ?_
    exact k)
  obtain ⟨_, _, ⟨T34, L34, k34, n34⟩, -, X34, ⟨Lc34, hQ34, l34, y34, z34⟩, st34⟩ := Jvm.LawKit.callS X29 hx (y := (⟨"com/example/subsumption/subsumption/reasoner/LinksRootPinLaw", "step", "(Lcom/example/subsumption/subsumption/reasoner/Links;[II)V"⟩ : MethodName)) hown (mvT hZ (hw _ (List.mem_of_getElem? (i := 12) rfl))) (mvT hZ (hw _ (List.mem_of_getElem? (i := 13) rfl))) (mvT hZ (hw _ (List.mem_of_getElem? (i := 14) rfl))) (mvT hZ (hw _ (List.mem_of_getElem? (i := 15) rfl))) (by decide) (backOf (W := 0) (rm_sp l Z a0 hw [] b20 b2 p2 b24 k24 P29 k2 h29 n0 (Nat.le_trans (Nat.le_trans (Nat.le_trans (Nat.le_trans (Nat.le_trans (Nat.le_trans (Nat.le_trans (Nat.le_trans (Nat.le_trans Z0 E2.1) (Keep.of_wr W5).1) (Keep.of_wr W8).1) (Keep.of_wr W11).1) (Keep.of_wr W14).1) (Keep.of_wr W17).1) E20.1) K24.1) K29.1) f31 f32 V29 hP29 g24 ne24 L29q g_b2 (Ne.symm ne_b2_b20) (Ne.symm ne_b2_b24)) hZ (hw _ (List.mem_of_getElem? (i := 15) rfl)) (hw _ (List.mem_of_getElem? (i := 14) rfl)) (by decide) (by decide)) (g := (mkF m 48 #[.val (.int p1), .val (.int p2), .val (.int p3), .val (.int p4), .val (.int p5), .val (.ref b2), .val (.ref b20), .unset, .unset] [(.int p2), (.ref b2), (.ref b20)])) rfl (by rw [hml]; rfl) (argsL := [(.ref b20), (.ref b2), (.int p2)]) (rest := []) (lenOf pd_4 rfl) rfl (by show 2 * 0 + _ ≤ _; exact Nat.le_of_eq rfl) (hb hby at_48) (fun _ _ => ⟨rfl, e29, (by decide : 3 + 0 ≤ _), (by decide : 11 + 0 ≤ _)⟩)
  dsimp only [Pt.U, Pt.locs, Pt.cells, Pt.slots] at X34 l34 y34 z34 st34 hQ34
  subst l34 y34 z34
  obtain ⟨h34, e34⟩ : ∃ z, T34.heap = z := ⟨_, rfl⟩
  rw [e34] at hQ34
  obtain ⟨rfl, N34q, K34, P34, hP34, V34, L34q⟩ := hQ34
  have N34 := Fr.app N29 N34q
  have go35 : ∀ t, Steps p.tables e below (T34.setTop (mkF m 51 #[.val (.int p1), .val (.int p2), .val (.int p3), .val (.int p4), .val (.int p5), .val (.ref b2), .val (.ref b20), .unset, .unset] [])) t → Steps p.tables e below (s₁.setTop (entryFrame m #[(.int p1), (.int p2), (.int p3), (.int p4), (.int p5)] maxLocals)) t := fun t k => go33 t (st34 t k)
  have f36 := f31.keep K34
  have f37 := f32.keep K34 (ninS ne24 (ninS (Ne.symm ne_b2_b20) nin0))
  have go38 : ∀ t, Steps p.tables e below (T34.setTop (mkF m 56 #[.val (.int p1), .val (.int p2), .val (.int p3), .val (.int p4), .val (.int p5), .val (.ref b2), .val (.ref b20), .unset, .unset] [(.int p3), (.ref b2), (.ref b20)])) t → Steps p.tables e below (s₁.setTop (entryFrame m #[(.int p1), (.int p2), (.int p3), (.int p4), (.int p5)] maxLocals)) t := fun t k => go35 t (by
    show Steps p.tables e below (T34.setTop (mkF m 51 #[.val (.int p1), .val (.int p2), .val (.int p3), .val (.int p4), .val (.int p5), .val (.ref b2), .val (.ref b20), .unset, .unset] [])) _
    refine XS.aload X34.here hx rfl (hb hby at_51) rfl rfl ?_
    show Steps p.tables e below (T34.setTop (mkF m 53 #[.val (.int p1), .val (.int p2), .val (.int p3), .val (.int p4), .val (.int p5), .val (.ref b2), .val (.ref b20), .unset, .unset] [(.ref b20)])) _
    refine XS.aload X34.here hx rfl (hb hby at_53) rfl rfl ?_
    show Steps p.tables e below (T34.setTop (mkF m 55 #[.val (.int p1), .val (.int p2), .val (.int p3), .val (.int p4), .val (.int p5), .val (.ref b2), .val (.ref b20), .unset, .unset] [(.ref b2), (.ref b20)])) _
    refine XS.iloadN X34.here hx rfl (hb hby at_55) rfl ?_
    exact k)
  obtain ⟨_, _, ⟨T39, L39, k39, n39⟩, -, X39, ⟨Lc39, hQ39, l39, y39, z39⟩, st39⟩ := Jvm.LawKit.callS X34 hx (y := (⟨"com/example/subsumption/subsumption/reasoner/LinksRootPinLaw", "step", "(Lcom/example/subsumption/subsumption/reasoner/Links;[II)V"⟩ : MethodName)) hown (mvT hZ (hw _ (List.mem_of_getElem? (i := 12) rfl))) (mvT hZ (hw _ (List.mem_of_getElem? (i := 13) rfl))) (mvT hZ (hw _ (List.mem_of_getElem? (i := 14) rfl))) (mvT hZ (hw _ (List.mem_of_getElem? (i := 15) rfl))) (by decide) (backOf (W := 0) (rm_sp l Z a0 hw [] b20 b2 p3 b24 k24 P34 k2 h34 n0 (Nat.le_trans (Nat.le_trans (Nat.le_trans (Nat.le_trans (Nat.le_trans (Nat.le_trans (Nat.le_trans (Nat.le_trans (Nat.le_trans (Nat.le_trans Z0 E2.1) (Keep.of_wr W5).1) (Keep.of_wr W8).1) (Keep.of_wr W11).1) (Keep.of_wr W14).1) (Keep.of_wr W17).1) E20.1) K24.1) K29.1) K34.1) f36 f37 V34 hP34 g24 ne24 L34q g_b2 (Ne.symm ne_b2_b20) (Ne.symm ne_b2_b24)) hZ (hw _ (List.mem_of_getElem? (i := 15) rfl)) (hw _ (List.mem_of_getElem? (i := 14) rfl)) (by decide) (by decide)) (g := (mkF m 56 #[.val (.int p1), .val (.int p2), .val (.int p3), .val (.int p4), .val (.int p5), .val (.ref b2), .val (.ref b20), .unset, .unset] [(.int p3), (.ref b2), (.ref b20)])) rfl (by rw [hml]; rfl) (argsL := [(.ref b20), (.ref b2), (.int p3)]) (rest := []) (lenOf pd_4 rfl) rfl (by show 2 * 0 + _ ≤ _; exact Nat.le_of_eq rfl) (hb hby at_56) (fun _ _ => ⟨rfl, e34, (by decide : 3 + 0 ≤ _), (by decide : 11 + 0 ≤ _)⟩)
  dsimp only [Pt.U, Pt.locs, Pt.cells, Pt.slots] at X39 l39 y39 z39 st39 hQ39
  subst l39 y39 z39
  obtain ⟨h39, e39⟩ : ∃ z, T39.heap = z := ⟨_, rfl⟩
  rw [e39] at hQ39
  obtain ⟨rfl, N39q, K39, P39, hP39, V39, L39q⟩ := hQ39
  have N39 := Fr.app N34 N39q
  have go40 : ∀ t, Steps p.tables e below (T39.setTop (mkF m 59 #[.val (.int p1), .val (.int p2), .val (.int p3), .val (.int p4), .val (.int p5), .val (.ref b2), .val (.ref b20), .unset, .unset] [])) t → Steps p.tables e below (s₁.setTop (entryFrame m #[(.int p1), (.int p2), (.int p3), (.int p4), (.int p5)] maxLocals)) t := fun t k => go38 t (st39 t k)
  have f41 := f36.keep K39
  have f42 := f37.keep K39 (ninS ne24 (ninS (Ne.symm ne_b2_b20) nin0))
  have go43 : ∀ t, Steps p.tables e below (T39.setTop (mkF m 64 #[.val (.int p1), .val (.int p2), .val (.int p3), .val (.int p4), .val (.int p5), .val (.ref b2), .val (.ref b20), .unset, .unset] [(.int p4), (.ref b2), (.ref b20)])) t → Steps p.tables e below (s₁.setTop (entryFrame m #[(.int p1), (.int p2), (.int p3), (.int p4), (.int p5)] maxLocals)) t := fun t k => go40 t (by
    show Steps p.tables e below (T39.setTop (mkF m 59 #[.val (.int p1), .val (.int p2), .val (.int p3), .val (.int p4), .val (.int p5), .val (.ref b2), .val (.ref b20), .unset, .unset] [])) _
    refine XS.aload X39.here hx rfl (hb hby at_59) rfl rfl ?_
    show Steps p.tables e below (T39.setTop (mkF m 61 #[.val (.int p1), .val (.int p2), .val (.int p3), .val (.int p4), .val (.int p5), .val (.ref b2), .val (.ref b20), .unset, .unset] [(.ref b20)])) _
    refine XS.aload X39.here hx rfl (hb hby at_61) rfl rfl ?_
    show Steps p.tables e below (T39.setTop (mkF m 63 #[.val (.int p1), .val (.int p2), .val (.int p3), .val (.int p4), .val (.int p5), .val (.ref b2), .val (.ref b20), .unset, .unset] [(.ref b2), (.ref b20)])) _
    refine XS.iloadN X39.here hx rfl (hb hby at_63) rfl ?_
    exact k)
  obtain ⟨_, _, ⟨T44, L44, k44, n44⟩, -, X44, ⟨Lc44, hQ44, l44, y44, z44⟩, st44⟩ := Jvm.LawKit.callS X39 hx (y := (⟨"com/example/subsumption/subsumption/reasoner/LinksRootPinLaw", "step", "(Lcom/example/subsumption/subsumption/reasoner/Links;[II)V"⟩ : MethodName)) hown (mvT hZ (hw _ (List.mem_of_getElem? (i := 12) rfl))) (mvT hZ (hw _ (List.mem_of_getElem? (i := 13) rfl))) (mvT hZ (hw _ (List.mem_of_getElem? (i := 14) rfl))) (mvT hZ (hw _ (List.mem_of_getElem? (i := 15) rfl))) (by decide) (backOf (W := 0) (rm_sp l Z a0 hw [] b20 b2 p4 b24 k24 P39 k2 h39 n0 (Nat.le_trans (Nat.le_trans (Nat.le_trans (Nat.le_trans (Nat.le_trans (Nat.le_trans (Nat.le_trans (Nat.le_trans (Nat.le_trans (Nat.le_trans (Nat.le_trans Z0 E2.1) (Keep.of_wr W5).1) (Keep.of_wr W8).1) (Keep.of_wr W11).1) (Keep.of_wr W14).1) (Keep.of_wr W17).1) E20.1) K24.1) K29.1) K34.1) K39.1) f41 f42 V39 hP39 g24 ne24 L39q g_b2 (Ne.symm ne_b2_b20) (Ne.symm ne_b2_b24)) hZ (hw _ (List.mem_of_getElem? (i := 15) rfl)) (hw _ (List.mem_of_getElem? (i := 14) rfl)) (by decide) (by decide)) (g := (mkF m 64 #[.val (.int p1), .val (.int p2), .val (.int p3), .val (.int p4), .val (.int p5), .val (.ref b2), .val (.ref b20), .unset, .unset] [(.int p4), (.ref b2), (.ref b20)])) rfl (by rw [hml]; rfl) (argsL := [(.ref b20), (.ref b2), (.int p4)]) (rest := []) (lenOf pd_4 rfl) rfl (by show 2 * 0 + _ ≤ _; exact Nat.le_of_eq rfl) (hb hby at_64) (fun _ _ => ⟨rfl, e39, (by decide : 3 + 0 ≤ _), (by decide : 11 + 0 ≤ _)⟩)
  dsimp only [Pt.U, Pt.locs, Pt.cells, Pt.slots] at X44 l44 y44 z44 st44 hQ44
  subst l44 y44 z44
  obtain ⟨h44, e44⟩ : ∃ z, T44.heap = z := ⟨_, rfl⟩
  rw [e44] at hQ44
  obtain ⟨rfl, N44q, K44, P44, hP44, V44, L44q⟩ := hQ44
  have N44 := Fr.app N39 N44q
  have go45 : ∀ t, Steps p.tables e below (T44.setTop (mkF m 67 #[.val (.int p1), .val (.int p2), .val (.int p3), .val (.int p4), .val (.int p5), .val (.ref b2), .val (.ref b20), .unset, .unset] [])) t → Steps p.tables e below (s₁.setTop (entryFrame m #[(.int p1), (.int p2), (.int p3), (.int p4), (.int p5)] maxLocals)) t := fun t k => go43 t (st44 t k)
  have f46 := f41.keep K44
  have f47 := f42.keep K44 (ninS ne24 (ninS (Ne.symm ne_b2_b20) nin0))
  have go48 : ∀ t, Steps p.tables e below (T44.setTop (mkF m 76 #[.val (.int p1), .val (.int p2), .val (.int p3), .val (.int p4), .val (.int p5), .val (.ref b2), .val (.ref b20), .val (.int ((p5 &&& (2147483647 : Int32)) % (5 : Int32))), .unset] [])) t → Steps p.tables e below (s₁.setTop (entryFrame m #[(.int p1), (.int p2), (.int p3), (.int p4), (.int p5)] maxLocals)) t := fun t k => go45 t (by
    show Steps p.tables e below (T44.setTop (mkF m 67 #[.val (.int p1), .val (.int p2), .val (.int p3), .val (.int p4), .val (.int p5), .val (.ref b2), .val (.ref b20), .unset, .unset] [])) _
    refine XS.iload X44.here hx rfl (hb hby at_67) rfl ?_
    show Steps p.tables e below (T44.setTop (mkF m 69 #[.val (.int p1), .val (.int p2), .val (.int p3), .val (.int p4), .val (.int p5), .val (.ref b2), .val (.ref b20), .unset, .unset] [(.int p5)])) _
    refine X44.ldcI hx hown (mvT hZ (hw _ (List.mem_of_getElem? (i := 36) rfl))) rfl (hb hby at_69) ?_
    show Steps p.tables e below (T44.setTop (mkF m 71 #[.val (.int p1), .val (.int p2), .val (.int p3), .val (.int p4), .val (.int p5), .val (.ref b2), .val (.ref b20), .unset, .unset] [(.int (2147483647 : Int32)), (.int p5)])) _
    refine XS.iand X44.here hx rfl (hb hby at_71) rfl ?_
    show Steps p.tables e below (T44.setTop (mkF m 72 #[.val (.int p1), .val (.int p2), .val (.int p3), .val (.int p4), .val (.int p5), .val (.ref b2), .val (.ref b20), .unset, .unset] [(.int (p5 &&& (2147483647 : Int32)))])) _
    refine XS.iconst X44.here hx rfl (hb hby at_72) ?_
    show Steps p.tables e below (T44.setTop (mkF m 73 #[.val (.int p1), .val (.int p2), .val (.int p3), .val (.int p4), .val (.int p5), .val (.ref b2), .val (.ref b20), .unset, .unset] [(.int (5 : Int32)), (.int (p5 &&& (2147483647 : Int32)))])) _
    refine iremM X44 hx rfl (hb hby at_73) rfl (by decide) ?_
    show Steps p.tables e below (T44.setTop (mkF m 74 #[.val (.int p1), .val (.int p2), .val (.int p3), .val (.int p4), .val (.int p5), .val (.ref b2), .val (.ref b20), .unset, .unset] [(.int ((p5 &&& (2147483647 : Int32)) % (5 : Int32)))])) _
    refine XS.istore X44.here hx rfl (hb hby at_74) rfl (l' := #[.val (.int p1), .val (.int p2), .val (.int p3), .val (.int p4), .val (.int p5), .val (.ref b2), .val (.ref b20), .val (.int ((p5 &&& (2147483647 : Int32)) % (5 : Int32))), .unset]) rfl ?_
    exact k)
  obtain ⟨e1, he1, hq1⟩ := own_mod (p5 &&& (2147483647 : Int32)) (own_and _ _ (by decide))
  rw [hq1] at go48
  have go49 : ∀ t, Steps p.tables e below (T44.setTop (mkF m 80 #[.val (.int p1), .val (.int p2), .val (.int p3), .val (.int p4), .val (.int p5), .val (.ref b2), .val (.ref b20), .val (.int (Int32.ofNat e1)), .unset] [(.int (Int32.ofNat e1)), (.ref b20)])) t → Steps p.tables e below (s₁.setTop (entryFrame m #[(.int p1), (.int p2), (.int p3), (.int p4), (.int p5)] maxLocals)) t := fun t k => go48 t (by
    show Steps p.tables e below (T44.setTop (mkF m 76 #[.val (.int p1), .val (.int p2), .val (.int p3), .val (.int p4), .val (.int p5), .val (.ref b2), .val (.ref b20), .val (.int (Int32.ofNat e1)), .unset] [])) _
    refine XS.aload X44.here hx rfl (hb hby at_76) rfl rfl ?_
    show Steps p.tables e below (T44.setTop (mkF m 78 #[.val (.int p1), .val (.int p2), .val (.int p3), .val (.int p4), .val (.int p5), .val (.ref b2), .val (.ref b20), .val (.int (Int32.ofNat e1)), .unset] [(.ref b20)])) _
    refine XS.iload X44.here hx rfl (hb hby at_78) rfl ?_
    exact k)
  obtain ⟨cq50, kq50, q50a, q50b, q50c⟩ := isOf hZ e44 f46
  obtain ⟨_, _, ⟨T50, L50, k50, n50⟩, -, X50, ⟨Lc50, hQ50, l50, y50, z50⟩, st50⟩ := X44.virtualBack hx (y := (⟨"com/example/subsumption/subsumption/reasoner/Links", "root", "(I)I"⟩ : MethodName)) (z := (⟨"com/example/subsumption/subsumption/reasoner/Links", "root", "(I)I"⟩ : MethodName)) hown (mvT hZ (hw _ (List.mem_of_getElem? (i := 37) rfl))) (mvT hZ (hw _ (List.mem_of_getElem? (i := 23) rfl))) (notFace_of_selects (args := #[]) (mvT hZ (hw _ (List.mem_of_getElem? (i := 25) rfl)))) (mvT hZ (hw _ (List.mem_of_getElem? (i := 25) rfl))) (mvT hZ (hw _ (List.mem_of_getElem? (i := 24) rfl))) (by decide) (backOf (W := 0) (rm_rt l Z a0 hw [] b20 e1 b24 k24 P44 h44 n0 (Nat.le_trans (Nat.le_trans (Nat.le_trans (Nat.le_trans (Nat.le_trans (Nat.le_trans (Nat.le_trans (Nat.le_trans (Nat.le_trans (Nat.le_trans (Nat.le_trans (Nat.le_trans Z0 E2.1) (Keep.of_wr W5).1) (Keep.of_wr W8).1) (Keep.of_wr W11).1) (Keep.of_wr W14).1) (Keep.of_wr W17).1) E20.1) K24.1) K29.1) K34.1) K39.1) K44.1) f47 V44 hP44 g24 ne24 he1) hZ (hw _ (List.mem_of_getElem? (i := 26) rfl)) (hw _ (List.mem_of_getElem? (i := 3) rfl)) (by decide) (by decide)) q50a q50c (g := (mkF m 80 #[.val (.int p1), .val (.int p2), .val (.int p3), .val (.int p4), .val (.int p5), .val (.ref b2), .val (.ref b20), .val (.int (Int32.ofNat e1)), .unset] [(.int (Int32.ofNat e1)), (.ref b20)])) rfl (by rw [hml]; rfl) (Steps.refl _) (argsL := [(.int (Int32.ofNat e1))]) (rest := []) (lenOf pd_0 rfl) rfl (by show 2 * 0 + _ ≤ _; exact Nat.le_of_eq rfl) (hb hby at_80) (fun _ _ => ⟨rfl, e44, (by decide : 3 + 0 ≤ _), (by decide : 11 + 0 ≤ _)⟩)
  dsimp only [Pt.U, Pt.locs, Pt.cells, Pt.slots] at X50 l50 y50 z50 st50 hQ50
  subst l50 y50 z50
  obtain ⟨h50, e50⟩ : ∃ z, T50.heap = z := ⟨_, rfl⟩
  rw [e50] at hQ50
  obtain ⟨rfl, N50q, K50, P50, S50, V50⟩ := hQ50
  have N50 := Fr.app N44 N50q
  have go51 : ∀ t, Steps p.tables e below (T50.setTop (mkF m 83 #[.val (.int p1), .val (.int p2), .val (.int p3), .val (.int p4), .val (.int p5), .val (.ref b2), .val (.ref b20), .val (.int (Int32.ofNat e1)), .unset] [(.int (Int32.ofNat (own_r P44 e1)))])) t → Steps p.tables e below (s₁.setTop (entryFrame m #[(.int p1), (.int p2), (.int p3), (.int p4), (.int p5)] maxLocals)) t := fun t k => go49 t (st50.trans k)
  have f52 := f46.keep K50
  have f53 := f47.keep K50 (ninS ne24 nin0)
  have f54 := L44q.keep K50 (ninS ne_b2_b24 nin0)
  have cS50 := own_same_trans (own_same_refl hP44) S50
  have go56 : ∀ t, Steps p.tables e below (T50.setTop (mkF m 87 #[.val (.int p1), .val (.int p2), .val (.int p3), .val (.int p4), .val (.int p5), .val (.ref b2), .val (.ref b20), .val (.int (Int32.ofNat e1)), .unset] [(.int (Int32.ofNat e1)), (.ref b2), (.int (Int32.ofNat (own_r P44 e1)))])) t → Steps p.tables e below (s₁.setTop (entryFrame m #[(.int p1), (.int p2), (.int p3), (.int p4), (.int p5)] maxLocals)) t := fun t k => go51 t (by
    show Steps p.tables e below (T50.setTop (mkF m 83 #[.val (.int p1), .val (.int p2), .val (.int p3), .val (.int p4), .val (.int p5), .val (.ref b2), .val (.ref b20), .val (.int (Int32.ofNat e1)), .unset] [(.int (Int32.ofNat (own_r P44 e1)))])) _
    refine XS.aload X50.here hx rfl (hb hby at_83) rfl rfl ?_
    show Steps p.tables e below (T50.setTop (mkF m 85 #[.val (.int p1), .val (.int p2), .val (.int p3), .val (.int p4), .val (.int p5), .val (.ref b2), .val (.ref b20), .val (.int (Int32.ofNat e1)), .unset] [(.ref b2), (.int (Int32.ofNat (own_r P44 e1)))])) _
    refine XS.iload X50.here hx rfl (hb hby at_85) rfl ?_
    exact k)
  obtain ⟨cl55, Ar55, q55, S55, M55, H55, G55⟩ := id f54
  have go57 : ∀ t, Steps p.tables e below (T50.setTop (mkF m 88 #[.val (.int p1), .val (.int p2), .val (.int p3), .val (.int p4), .val (.int p5), .val (.ref b2), .val (.ref b20), .val (.int (Int32.ofNat e1)), .unset] [(.int (Int32.ofNat (own_g (own_labs P44) e1))), (.int (Int32.ofNat (own_r P44 e1)))])) t → Steps p.tables e below (s₁.setTop (entryFrame m #[(.int p1), (.int p2), (.int p3), (.int p4), (.int p5)] maxLocals)) t := fun t k => go56 t (by
    show Steps p.tables e below (T50.setTop (mkF m 87 #[.val (.int p1), .val (.int p2), .val (.int p3), .val (.int p4), .val (.int p5), .val (.ref b2), .val (.ref b20), .val (.int (Int32.ofNat e1)), .unset] [(.int (Int32.ofNat e1)), (.ref b2), (.int (Int32.ofNat (own_r P44 e1)))])) _
    refine X50.iaload hx (j := (Int32.ofNat e1)) (v := (.int (Int32.ofNat (own_g (own_labs P44) e1)))) (by rw [e50]; exact Ar55.1) (State.isArrayOf_alike hZ.alike Ar55.2.1) Ar55.2.2 (inb_of S55 (own_ix he1)) (H55.at (inb_of S55 (own_ix he1)) (own_at (own_labs P44) he1)) (g := (mkF m 87 #[.val (.int p1), .val (.int p2), .val (.int p3), .val (.int p4), .val (.int p5), .val (.ref b2), .val (.ref b20), .val (.int (Int32.ofNat e1)), .unset] [(.int (Int32.ofNat e1)), (.ref b2), (.int (Int32.ofNat (own_r P44 e1)))])) rfl rfl (hb hby at_87) _ ?_
    exact k)
  have go58 : ∀ t, Steps p.tables e below (T50.setTop (mkF m 103 #[.val (.int p1), .val (.int p2), .val (.int p3), .val (.int p4), .val (.int p5), .val (.ref b2), .val (.ref b20), .val (.int (Int32.ofNat e1)), .val (.int (1 : Int32))] [(.int (4 : Int32)), (.ref b20), (.int (1 : Int32))])) t → Steps p.tables e below (s₁.setTop (entryFrame m #[(.int p1), (.int p2), (.int p3), (.int p4), (.int p5)] maxLocals)) t := fun t k => go57 t (by
    show Steps p.tables e below (T50.setTop (mkF m 88 #[.val (.int p1), .val (.int p2), .val (.int p3), .val (.int p4), .val (.int p5), .val (.ref b2), .val (.ref b20), .val (.int (Int32.ofNat e1)), .unset] [(.int (Int32.ofNat (own_g (own_labs P44) e1))), (.int (Int32.ofNat (own_r P44 e1)))])) _
    refine XS.icmpNo X50.here hx rfl (hb hby at_88) rfl (teq (congrArg Int32.ofNat (((own_same_refl hP44).2 e1 he1).trans (own_lg P44 he1).symm))).2 ?_
    show Steps p.tables e below (T50.setTop (mkF m 91 #[.val (.int p1), .val (.int p2), .val (.int p3), .val (.int p4), .val (.int p5), .val (.ref b2), .val (.ref b20), .val (.int (Int32.ofNat e1)), .unset] [])) _
    refine XS.iconst X50.here hx rfl (hb hby at_91) ?_
    show Steps p.tables e below (T50.setTop (mkF m 92 #[.val (.int p1), .val (.int p2), .val (.int p3), .val (.int p4), .val (.int p5), .val (.ref b2), .val (.ref b20), .val (.int (Int32.ofNat e1)), .unset] [(.int (1 : Int32))])) _
    refine XS.goto X50.here hx rfl (pc0 := 92) (pc' := 96) rfl (hb hby at_92) (by decide) (by decide) ?_
    show Steps p.tables e below (T50.setTop (mkF m 96 #[.val (.int p1), .val (.int p2), .val (.int p3), .val (.int p4), .val (.int p5), .val (.ref b2), .val (.ref b20), .val (.int (Int32.ofNat e1)), .unset] [(.int (1 : Int32))])) _
    refine XS.istore X50.here hx rfl (hb hby at_96) rfl (l' := #[.val (.int p1), .val (.int p2), .val (.int p3), .val (.int p4), .val (.int p5), .val (.ref b2), .val (.ref b20), .val (.int (Int32.ofNat e1)), .val (.int (1 : Int32))]) rfl ?_
    show Steps p.tables e below (T50.setTop (mkF m 98 #[.val (.int p1), .val (.int p2), .val (.int p3), .val (.int p4), .val (.int p5), .val (.ref b2), .val (.ref b20), .val (.int (Int32.ofNat e1)), .val (.int (1 : Int32))] [])) _
    refine XS.iload X50.here hx rfl (hb hby at_98) rfl ?_
    show Steps p.tables e below (T50.setTop (mkF m 100 #[.val (.int p1), .val (.int p2), .val (.int p3), .val (.int p4), .val (.int p5), .val (.ref b2), .val (.ref b20), .val (.int (Int32.ofNat e1)), .val (.int (1 : Int32))] [(.int (1 : Int32))])) _
    refine XS.aload X50.here hx rfl (hb hby at_100) rfl rfl ?_
    show Steps p.tables e below (T50.setTop (mkF m 102 #[.val (.int p1), .val (.int p2), .val (.int p3), .val (.int p4), .val (.int p5), .val (.ref b2), .val (.ref b20), .val (.int (Int32.ofNat e1)), .val (.int (1 : Int32))] [(.ref b20), (.int (1 : Int32))])) _
    refine XS.iconst X50.here hx rfl (hb hby at_102) ?_
    exact k)
  obtain ⟨cq59, kq59, q59a, q59b, q59c⟩ := isOf hZ e50 f52
  obtain ⟨_, _, ⟨T59, L59, k59, n59⟩, -, X59, ⟨Lc59, hQ59, l59, y59, z59⟩, st59⟩ := X50.virtualBack hx (y := (⟨"com/example/subsumption/subsumption/reasoner/Links", "root", "(I)I"⟩ : MethodName)) (z := (⟨"com/example/subsumption/subsumption/reasoner/Links", "root", "(I)I"⟩ : MethodName)) hown (mvT hZ (hw _ (List.mem_of_getElem? (i := 37) rfl))) (mvT hZ (hw _ (List.mem_of_getElem? (i := 23) rfl))) (notFace_of_selects (args := #[]) (mvT hZ (hw _ (List.mem_of_getElem? (i := 25) rfl)))) (mvT hZ (hw _ (List.mem_of_getElem? (i := 25) rfl))) (mvT hZ (hw _ (List.mem_of_getElem? (i := 24) rfl))) (by decide) (backOf (W := 1) (rm_rt l Z a0 hw [] b20 4 b24 k24 P50 h50 n0 (Nat.le_trans (Nat.le_trans (Nat.le_trans (Nat.le_trans (Nat.le_trans (Nat.le_trans (Nat.le_trans (Nat.le_trans (Nat.le_trans (Nat.le_trans (Nat.le_trans (Nat.le_trans (Nat.le_trans Z0 E2.1) (Keep.of_wr W5).1) (Keep.of_wr W8).1) (Keep.of_wr W11).1) (Keep.of_wr W14).1) (Keep.of_wr W17).1) E20.1) K24.1) K29.1) K34.1) K39.1) K44.1) K50.1) f53 V50 S50.1 g24 ne24 (show 4 < 5 from by decide)) hZ (hw _ (List.mem_of_getElem? (i := 26) rfl)) (hw _ (List.mem_of_getElem? (i := 3) rfl)) (by decide) (by decide)) q59a q59c (g := (mkF m 103 #[.val (.int p1), .val (.int p2), .val (.int p3), .val (.int p4), .val (.int p5), .val (.ref b2), .val (.ref b20), .val (.int (Int32.ofNat e1)), .val (.int (1 : Int32))] [(.int (4 : Int32)), (.ref b20), (.int (1 : Int32))])) rfl (by rw [hml]; rfl) (Steps.refl _) (argsL := [(.int (4 : Int32))]) (rest := [(.int (1 : Int32))]) (lenOf pd_0 rfl) rfl (by show 2 * 0 + _ ≤ _; exact Nat.le_of_eq rfl) (hb hby at_103) (fun _ _ => ⟨rfl, e50, (by decide : 3 + 0 ≤ _), (by decide : 11 + 0 ≤ _)⟩)
  dsimp only [Pt.U, Pt.locs, Pt.cells, Pt.slots] at X59 l59 y59 z59 st59 hQ59
  subst l59 y59 z59
  obtain ⟨h59, e59⟩ : ∃ z, T59.heap = z := ⟨_, rfl⟩
  rw [e59] at hQ59
  obtain ⟨rfl, N59q, K59, P59, S59, V59⟩ := hQ59
  have N59 := Fr.app N50 N59q
  have go60 : ∀ t, Steps p.tables e below (T59.setTop (mkF m 106 #[.val (.int p1), .val (.int p2), .val (.int p3), .val (.int p4), .val (.int p5), .val (.ref b2), .val (.ref b20), .val (.int (Int32.ofNat e1)), .val (.int (1 : Int32))] [(.int (Int32.ofNat (own_r P50 4))), (.int (1 : Int32))])) t → Steps p.tables e below (s₁.setTop (entryFrame m #[(.int p1), (.int p2), (.int p3), (.int p4), (.int p5)] maxLocals)) t := fun t k => go58 t (st59.trans k)
  have f61 := f52.keep K59
  have f62 := f53.keep K59 (ninS ne24 nin0)
  have f63 := f54.keep K59 (ninS ne_b2_b24 nin0)
  have cS59 := own_same_trans cS50 S59
  have go65 : ∀ t, Steps p.tables e below (T59.setTop (mkF m 109 #[.val (.int p1), .val (.int p2), .val (.int p3), .val (.int p4), .val (.int p5), .val (.ref b2), .val (.ref b20), .val (.int (Int32.ofNat e1)), .val (.int (1 : Int32))] [(.int (4 : Int32)), (.ref b2), (.int (Int32.ofNat (own_r P50 4))), (.int (1 : Int32))])) t → Steps p.tables e below (s₁.setTop (entryFrame m #[(.int p1), (.int p2), (.int p3), (.int p4), (.int p5)] maxLocals)) t := fun t k => go60 t (by
    show Steps p.tables e below (T59.setTop (mkF m 106 #[.val (.int p1), .val (.int p2), .val (.int p3), .val (.int p4), .val (.int p5), .val (.ref b2), .val (.ref b20), .val (.int (Int32.ofNat e1)), .val (.int (1 : Int32))] [(.int (Int32.ofNat (own_r P50 4))), (.int (1 : Int32))])) _
    refine XS.aload X59.here hx rfl (hb hby at_106) rfl rfl ?_
    show Steps p.tables e below (T59.setTop (mkF m 108 #[.val (.int p1), .val (.int p2), .val (.int p3), .val (.int p4), .val (.int p5), .val (.ref b2), .val (.ref b20), .val (.int (Int32.ofNat e1)), .val (.int (1 : Int32))] [(.ref b2), (.int (Int32.ofNat (own_r P50 4))), (.int (1 : Int32))])) _
    refine XS.iconst X59.here hx rfl (hb hby at_108) ?_
    exact k)
  obtain ⟨cl64, Ar64, q64, S64, M64, H64, G64⟩ := id f63
  have go66 : ∀ t, Steps p.tables e below (T59.setTop (mkF m 110 #[.val (.int p1), .val (.int p2), .val (.int p3), .val (.int p4), .val (.int p5), .val (.ref b2), .val (.ref b20), .val (.int (Int32.ofNat e1)), .val (.int (1 : Int32))] [(.int (Int32.ofNat (own_g (own_labs P44) 4))), (.int (Int32.ofNat (own_r P50 4))), (.int (1 : Int32))])) t → Steps p.tables e below (s₁.setTop (entryFrame m #[(.int p1), (.int p2), (.int p3), (.int p4), (.int p5)] maxLocals)) t := fun t k => go65 t (by
    show Steps p.tables e below (T59.setTop (mkF m 109 #[.val (.int p1), .val (.int p2), .val (.int p3), .val (.int p4), .val (.int p5), .val (.ref b2), .val (.ref b20), .val (.int (Int32.ofNat e1)), .val (.int (1 : Int32))] [(.int (4 : Int32)), (.ref b2), (.int (Int32.ofNat (own_r P50 4))), (.int (1 : Int32))])) _
    refine X59.iaload hx (j := (Int32.ofNat 4)) (v := (.int (Int32.ofNat (own_g (own_labs P44) 4)))) (by rw [e59]; exact Ar64.1) (State.isArrayOf_alike hZ.alike Ar64.2.1) Ar64.2.2 (inb_of S64 (own_ix (show 4 < 5 from by decide))) (H64.at (inb_of S64 (own_ix (show 4 < 5 from by decide))) (own_at (own_labs P44) (show 4 < 5 from by decide))) (g := (mkF m 109 #[.val (.int p1), .val (.int p2), .val (.int p3), .val (.int p4), .val (.int p5), .val (.ref b2), .val (.ref b20), .val (.int (Int32.ofNat e1)), .val (.int (1 : Int32))] [(.int (4 : Int32)), (.ref b2), (.int (Int32.ofNat (own_r P50 4))), (.int (1 : Int32))])) rfl rfl (hb hby at_109) _ ?_
    exact k)
  have go67 : ∀ t, Steps p.tables e below (T59.setTop (mkF m 126 #[.val (.int p1), .val (.int p2), .val (.int p3), .val (.int p4), .val (.int p5), .val (.ref b2), .val (.ref b20), .val (.int (Int32.ofNat e1)), .val (.int (1 : Int32))] [(.int (3 : Int32)), (.ref b20), (.int (1 : Int32))])) t → Steps p.tables e below (s₁.setTop (entryFrame m #[(.int p1), (.int p2), (.int p3), (.int p4), (.int p5)] maxLocals)) t := fun t k => go66 t (by
    show Steps p.tables e below (T59.setTop (mkF m 110 #[.val (.int p1), .val (.int p2), .val (.int p3), .val (.int p4), .val (.int p5), .val (.ref b2), .val (.ref b20), .val (.int (Int32.ofNat e1)), .val (.int (1 : Int32))] [(.int (Int32.ofNat (own_g (own_labs P44) 4))), (.int (Int32.ofNat (own_r P50 4))), (.int (1 : Int32))])) _
    refine XS.icmpNo X59.here hx rfl (hb hby at_110) rfl (teq (congrArg Int32.ofNat ((cS50.2 4 (show 4 < 5 from by decide)).trans (own_lg P44 (show 4 < 5 from by decide)).symm))).2 ?_
    show Steps p.tables e below (T59.setTop (mkF m 113 #[.val (.int p1), .val (.int p2), .val (.int p3), .val (.int p4), .val (.int p5), .val (.ref b2), .val (.ref b20), .val (.int (Int32.ofNat e1)), .val (.int (1 : Int32))] [(.int (1 : Int32))])) _
    refine XS.iconst X59.here hx rfl (hb hby at_113) ?_
    show Steps p.tables e below (T59.setTop (mkF m 114 #[.val (.int p1), .val (.int p2), .val (.int p3), .val (.int p4), .val (.int p5), .val (.ref b2), .val (.ref b20), .val (.int (Int32.ofNat e1)), .val (.int (1 : Int32))] [(.int (1 : Int32)), (.int (1 : Int32))])) _
    refine XS.goto X59.here hx rfl (pc0 := 114) (pc' := 118) rfl (hb hby at_114) (by decide) (by decide) ?_
    show Steps p.tables e below (T59.setTop (mkF m 118 #[.val (.int p1), .val (.int p2), .val (.int p3), .val (.int p4), .val (.int p5), .val (.ref b2), .val (.ref b20), .val (.int (Int32.ofNat e1)), .val (.int (1 : Int32))] [(.int (1 : Int32)), (.int (1 : Int32))])) _
    refine XS.iand X59.here hx rfl (hb hby at_118) rfl ?_
    show Steps p.tables e below (T59.setTop (mkF m 119 #[.val (.int p1), .val (.int p2), .val (.int p3), .val (.int p4), .val (.int p5), .val (.ref b2), .val (.ref b20), .val (.int (Int32.ofNat e1)), .val (.int (1 : Int32))] [(.int (1 : Int32))])) _
    refine XS.istore X59.here hx rfl (hb hby at_119) rfl (l' := #[.val (.int p1), .val (.int p2), .val (.int p3), .val (.int p4), .val (.int p5), .val (.ref b2), .val (.ref b20), .val (.int (Int32.ofNat e1)), .val (.int (1 : Int32))]) rfl ?_
    show Steps p.tables e below (T59.setTop (mkF m 121 #[.val (.int p1), .val (.int p2), .val (.int p3), .val (.int p4), .val (.int p5), .val (.ref b2), .val (.ref b20), .val (.int (Int32.ofNat e1)), .val (.int (1 : Int32))] [])) _
    refine XS.iload X59.here hx rfl (hb hby at_121) rfl ?_
    show Steps p.tables e below (T59.setTop (mkF m 123 #[.val (.int p1), .val (.int p2), .val (.int p3), .val (.int p4), .val (.int p5), .val (.ref b2), .val (.ref b20), .val (.int (Int32.ofNat e1)), .val (.int (1 : Int32))] [(.int (1 : Int32))])) _
    refine XS.aload X59.here hx rfl (hb hby at_123) rfl rfl ?_
    show Steps p.tables e below (T59.setTop (mkF m 125 #[.val (.int p1), .val (.int p2), .val (.int p3), .val (.int p4), .val (.int p5), .val (.ref b2), .val (.ref b20), .val (.int (Int32.ofNat e1)), .val (.int (1 : Int32))] [(.ref b20), (.int (1 : Int32))])) _
    refine XS.iconst X59.here hx rfl (hb hby at_125) ?_
    exact k)
  obtain ⟨cq68, kq68, q68a, q68b, q68c⟩ := isOf hZ e59 f61
  obtain ⟨_, _, ⟨T68, L68, k68, n68⟩, -, X68, ⟨Lc68, hQ68, l68, y68, z68⟩, st68⟩ := X59.virtualBack hx (y := (⟨"com/example/subsumption/subsumption/reasoner/Links", "root", "(I)I"⟩ : MethodName)) (z := (⟨"com/example/subsumption/subsumption/reasoner/Links", "root", "(I)I"⟩ : MethodName)) hown (mvT hZ (hw _ (List.mem_of_getElem? (i := 37) rfl))) (mvT hZ (hw _ (List.mem_of_getElem? (i := 23) rfl))) (notFace_of_selects (args := #[]) (mvT hZ (hw _ (List.mem_of_getElem? (i := 25) rfl)))) (mvT hZ (hw _ (List.mem_of_getElem? (i := 25) rfl))) (mvT hZ (hw _ (List.mem_of_getElem? (i := 24) rfl))) (by decide) (backOf (W := 1) (rm_rt l Z a0 hw [] b20 3 b24 k24 P59 h59 n0 (Nat.le_trans (Nat.le_trans (Nat.le_trans (Nat.le_trans (Nat.le_trans (Nat.le_trans (Nat.le_trans (Nat.le_trans (Nat.le_trans (Nat.le_trans (Nat.le_trans (Nat.le_trans (Nat.le_trans (Nat.le_trans Z0 E2.1) (Keep.of_wr W5).1) (Keep.of_wr W8).1) (Keep.of_wr W11).1) (Keep.of_wr W14).1) (Keep.of_wr W17).1) E20.1) K24.1) K29.1) K34.1) K39.1) K44.1) K50.1) K59.1) f62 V59 S59.1 g24 ne24 (show 3 < 5 from by decide)) hZ (hw _ (List.mem_of_getElem? (i := 26) rfl)) (hw _ (List.mem_of_getElem? (i := 3) rfl)) (by decide) (by decide)) q68a q68c (g := (mkF m 126 #[.val (.int p1), .val (.int p2), .val (.int p3), .val (.int p4), .val (.int p5), .val (.ref b2), .val (.ref b20), .val (.int (Int32.ofNat e1)), .val (.int (1 : Int32))] [(.int (3 : Int32)), (.ref b20), (.int (1 : Int32))])) rfl (by rw [hml]; rfl) (Steps.refl _) (argsL := [(.int (3 : Int32))]) (rest := [(.int (1 : Int32))]) (lenOf pd_0 rfl) rfl (by show 2 * 0 + _ ≤ _; exact Nat.le_of_eq rfl) (hb hby at_126) (fun _ _ => ⟨rfl, e59, (by decide : 3 + 0 ≤ _), (by decide : 11 + 0 ≤ _)⟩)
  dsimp only [Pt.U, Pt.locs, Pt.cells, Pt.slots] at X68 l68 y68 z68 st68 hQ68
  subst l68 y68 z68
  obtain ⟨h68, e68⟩ : ∃ z, T68.heap = z := ⟨_, rfl⟩
  rw [e68] at hQ68
  obtain ⟨rfl, N68q, K68, P68, S68, V68⟩ := hQ68
  have N68 := Fr.app N59 N68q
  have go69 : ∀ t, Steps p.tables e below (T68.setTop (mkF m 129 #[.val (.int p1), .val (.int p2), .val (.int p3), .val (.int p4), .val (.int p5), .val (.ref b2), .val (.ref b20), .val (.int (Int32.ofNat e1)), .val (.int (1 : Int32))] [(.int (Int32.ofNat (own_r P59 3))), (.int (1 : Int32))])) t → Steps p.tables e below (s₁.setTop (entryFrame m #[(.int p1), (.int p2), (.int p3), (.int p4), (.int p5)] maxLocals)) t := fun t k => go67 t (st68.trans k)
  have f70 := f61.keep K68
  have f71 := f62.keep K68 (ninS ne24 nin0)
  have f72 := f63.keep K68 (ninS ne_b2_b24 nin0)
  have cS68 := own_same_trans cS59 S68
  have go74 : ∀ t, Steps p.tables e below (T68.setTop (mkF m 132 #[.val (.int p1), .val (.int p2), .val (.int p3), .val (.int p4), .val (.int p5), .val (.ref b2), .val (.ref b20), .val (.int (Int32.ofNat e1)), .val (.int (1 : Int32))] [(.int (3 : Int32)), (.ref b2), (.int (Int32.ofNat (own_r P59 3))), (.int (1 : Int32))])) t → Steps p.tables e below (s₁.setTop (entryFrame m #[(.int p1), (.int p2), (.int p3), (.int p4), (.int p5)] maxLocals)) t := fun t k => go69 t (by
    show Steps p.tables e below (T68.setTop (mkF m 129 #[.val (.int p1), .val (.int p2), .val (.int p3), .val (.int p4), .val (.int p5), .val (.ref b2), .val (.ref b20), .val (.int (Int32.ofNat e1)), .val (.int (1 : Int32))] [(.int (Int32.ofNat (own_r P59 3))), (.int (1 : Int32))])) _
    refine XS.aload X68.here hx rfl (hb hby at_129) rfl rfl ?_
    show Steps p.tables e below (T68.setTop (mkF m 131 #[.val (.int p1), .val (.int p2), .val (.int p3), .val (.int p4), .val (.int p5), .val (.ref b2), .val (.ref b20), .val (.int (Int32.ofNat e1)), .val (.int (1 : Int32))] [(.ref b2), (.int (Int32.ofNat (own_r P59 3))), (.int (1 : Int32))])) _
    refine XS.iconst X68.here hx rfl (hb hby at_131) ?_
    exact k)
  obtain ⟨cl73, Ar73, q73, S73, M73, H73, G73⟩ := id f72
  have go75 : ∀ t, Steps p.tables e below (T68.setTop (mkF m 133 #[.val (.int p1), .val (.int p2), .val (.int p3), .val (.int p4), .val (.int p5), .val (.ref b2), .val (.ref b20), .val (.int (Int32.ofNat e1)), .val (.int (1 : Int32))] [(.int (Int32.ofNat (own_g (own_labs P44) 3))), (.int (Int32.ofNat (own_r P59 3))), (.int (1 : Int32))])) t → Steps p.tables e below (s₁.setTop (entryFrame m #[(.int p1), (.int p2), (.int p3), (.int p4), (.int p5)] maxLocals)) t := fun t k => go74 t (by
    show Steps p.tables e below (T68.setTop (mkF m 132 #[.val (.int p1), .val (.int p2), .val (.int p3), .val (.int p4), .val (.int p5), .val (.ref b2), .val (.ref b20), .val (.int (Int32.ofNat e1)), .val (.int (1 : Int32))] [(.int (3 : Int32)), (.ref b2), (.int (Int32.ofNat (own_r P59 3))), (.int (1 : Int32))])) _
    refine X68.iaload hx (j := (Int32.ofNat 3)) (v := (.int (Int32.ofNat (own_g (own_labs P44) 3)))) (by rw [e68]; exact Ar73.1) (State.isArrayOf_alike hZ.alike Ar73.2.1) Ar73.2.2 (inb_of S73 (own_ix (show 3 < 5 from by decide))) (H73.at (inb_of S73 (own_ix (show 3 < 5 from by decide))) (own_at (own_labs P44) (show 3 < 5 from by decide))) (g := (mkF m 132 #[.val (.int p1), .val (.int p2), .val (.int p3), .val (.int p4), .val (.int p5), .val (.ref b2), .val (.ref b20), .val (.int (Int32.ofNat e1)), .val (.int (1 : Int32))] [(.int (3 : Int32)), (.ref b2), (.int (Int32.ofNat (own_r P59 3))), (.int (1 : Int32))])) rfl rfl (hb hby at_132) _ ?_
    exact k)
  have go76 : ∀ t, Steps p.tables e below (T68.setTop (mkF m 149 #[.val (.int p1), .val (.int p2), .val (.int p3), .val (.int p4), .val (.int p5), .val (.ref b2), .val (.ref b20), .val (.int (Int32.ofNat e1)), .val (.int (1 : Int32))] [(.int (2 : Int32)), (.ref b20), (.int (1 : Int32))])) t → Steps p.tables e below (s₁.setTop (entryFrame m #[(.int p1), (.int p2), (.int p3), (.int p4), (.int p5)] maxLocals)) t := fun t k => go75 t (by
    show Steps p.tables e below (T68.setTop (mkF m 133 #[.val (.int p1), .val (.int p2), .val (.int p3), .val (.int p4), .val (.int p5), .val (.ref b2), .val (.ref b20), .val (.int (Int32.ofNat e1)), .val (.int (1 : Int32))] [(.int (Int32.ofNat (own_g (own_labs P44) 3))), (.int (Int32.ofNat (own_r P59 3))), (.int (1 : Int32))])) _
    refine XS.icmpNo X68.here hx rfl (hb hby at_133) rfl (teq (congrArg Int32.ofNat ((cS59.2 3 (show 3 < 5 from by decide)).trans (own_lg P44 (show 3 < 5 from by decide)).symm))).2 ?_
    show Steps p.tables e below (T68.setTop (mkF m 136 #[.val (.int p1), .val (.int p2), .val (.int p3), .val (.int p4), .val (.int p5), .val (.ref b2), .val (.ref b20), .val (.int (Int32.ofNat e1)), .val (.int (1 : Int32))] [(.int (1 : Int32))])) _
    refine XS.iconst X68.here hx rfl (hb hby at_136) ?_
    show Steps p.tables e below (T68.setTop (mkF m 137 #[.val (.int p1), .val (.int p2), .val (.int p3), .val (.int p4), .val (.int p5), .val (.ref b2), .val (.ref b20), .val (.int (Int32.ofNat e1)), .val (.int (1 : Int32))] [(.int (1 : Int32)), (.int (1 : Int32))])) _
    refine XS.goto X68.here hx rfl (pc0 := 137) (pc' := 141) rfl (hb hby at_137) (by decide) (by decide) ?_
    show Steps p.tables e below (T68.setTop (mkF m 141 #[.val (.int p1), .val (.int p2), .val (.int p3), .val (.int p4), .val (.int p5), .val (.ref b2), .val (.ref b20), .val (.int (Int32.ofNat e1)), .val (.int (1 : Int32))] [(.int (1 : Int32)), (.int (1 : Int32))])) _
    refine XS.iand X68.here hx rfl (hb hby at_141) rfl ?_
    show Steps p.tables e below (T68.setTop (mkF m 142 #[.val (.int p1), .val (.int p2), .val (.int p3), .val (.int p4), .val (.int p5), .val (.ref b2), .val (.ref b20), .val (.int (Int32.ofNat e1)), .val (.int (1 : Int32))] [(.int (1 : Int32))])) _
    refine XS.istore X68.here hx rfl (hb hby at_142) rfl (l' := #[.val (.int p1), .val (.int p2), .val (.int p3), .val (.int p4), .val (.int p5), .val (.ref b2), .val (.ref b20), .val (.int (Int32.ofNat e1)), .val (.int (1 : Int32))]) rfl ?_
    show Steps p.tables e below (T68.setTop (mkF m 144 #[.val (.int p1), .val (.int p2), .val (.int p3), .val (.int p4), .val (.int p5), .val (.ref b2), .val (.ref b20), .val (.int (Int32.ofNat e1)), .val (.int (1 : Int32))] [])) _
    refine XS.iload X68.here hx rfl (hb hby at_144) rfl ?_
    show Steps p.tables e below (T68.setTop (mkF m 146 #[.val (.int p1), .val (.int p2), .val (.int p3), .val (.int p4), .val (.int p5), .val (.ref b2), .val (.ref b20), .val (.int (Int32.ofNat e1)), .val (.int (1 : Int32))] [(.int (1 : Int32))])) _
    refine XS.aload X68.here hx rfl (hb hby at_146) rfl rfl ?_
    show Steps p.tables e below (T68.setTop (mkF m 148 #[.val (.int p1), .val (.int p2), .val (.int p3), .val (.int p4), .val (.int p5), .val (.ref b2), .val (.ref b20), .val (.int (Int32.ofNat e1)), .val (.int (1 : Int32))] [(.ref b20), (.int (1 : Int32))])) _
    refine XS.iconst X68.here hx rfl (hb hby at_148) ?_
    exact k)
  obtain ⟨cq77, kq77, q77a, q77b, q77c⟩ := isOf hZ e68 f70
  obtain ⟨_, _, ⟨T77, L77, k77, n77⟩, -, X77, ⟨Lc77, hQ77, l77, y77, z77⟩, st77⟩ := X68.virtualBack hx (y := (⟨"com/example/subsumption/subsumption/reasoner/Links", "root", "(I)I"⟩ : MethodName)) (z := (⟨"com/example/subsumption/subsumption/reasoner/Links", "root", "(I)I"⟩ : MethodName)) hown (mvT hZ (hw _ (List.mem_of_getElem? (i := 37) rfl))) (mvT hZ (hw _ (List.mem_of_getElem? (i := 23) rfl))) (notFace_of_selects (args := #[]) (mvT hZ (hw _ (List.mem_of_getElem? (i := 25) rfl)))) (mvT hZ (hw _ (List.mem_of_getElem? (i := 25) rfl))) (mvT hZ (hw _ (List.mem_of_getElem? (i := 24) rfl))) (by decide) (backOf (W := 1) (rm_rt l Z a0 hw [] b20 2 b24 k24 P68 h68 n0 (Nat.le_trans (Nat.le_trans (Nat.le_trans (Nat.le_trans (Nat.le_trans (Nat.le_trans (Nat.le_trans (Nat.le_trans (Nat.le_trans (Nat.le_trans (Nat.le_trans (Nat.le_trans (Nat.le_trans (Nat.le_trans (Nat.le_trans Z0 E2.1) (Keep.of_wr W5).1) (Keep.of_wr W8).1) (Keep.of_wr W11).1) (Keep.of_wr W14).1) (Keep.of_wr W17).1) E20.1) K24.1) K29.1) K34.1) K39.1) K44.1) K50.1) K59.1) K68.1) f71 V68 S68.1 g24 ne24 (show 2 < 5 from by decide)) hZ (hw _ (List.mem_of_getElem? (i := 26) rfl)) (hw _ (List.mem_of_getElem? (i := 3) rfl)) (by decide) (by decide)) q77a q77c (g := (mkF m 149 #[.val (.int p1), .val (.int p2), .val (.int p3), .val (.int p4), .val (.int p5), .val (.ref b2), .val (.ref b20), .val (.int (Int32.ofNat e1)), .val (.int (1 : Int32))] [(.int (2 : Int32)), (.ref b20), (.int (1 : Int32))])) rfl (by rw [hml]; rfl) (Steps.refl _) (argsL := [(.int (2 : Int32))]) (rest := [(.int (1 : Int32))]) (lenOf pd_0 rfl) rfl (by show 2 * 0 + _ ≤ _; exact Nat.le_of_eq rfl) (hb hby at_149) (fun _ _ => ⟨rfl, e68, (by decide : 3 + 0 ≤ _), (by decide : 11 + 0 ≤ _)⟩)
  dsimp only [Pt.U, Pt.locs, Pt.cells, Pt.slots] at X77 l77 y77 z77 st77 hQ77
  subst l77 y77 z77
  obtain ⟨h77, e77⟩ : ∃ z, T77.heap = z := ⟨_, rfl⟩
  rw [e77] at hQ77
  obtain ⟨rfl, N77q, K77, P77, S77, V77⟩ := hQ77
  have N77 := Fr.app N68 N77q
  have go78 : ∀ t, Steps p.tables e below (T77.setTop (mkF m 152 #[.val (.int p1), .val (.int p2), .val (.int p3), .val (.int p4), .val (.int p5), .val (.ref b2), .val (.ref b20), .val (.int (Int32.ofNat e1)), .val (.int (1 : Int32))] [(.int (Int32.ofNat (own_r P68 2))), (.int (1 : Int32))])) t → Steps p.tables e below (s₁.setTop (entryFrame m #[(.int p1), (.int p2), (.int p3), (.int p4), (.int p5)] maxLocals)) t := fun t k => go76 t (st77.trans k)
  have f79 := f70.keep K77
  have f80 := f71.keep K77 (ninS ne24 nin0)
  have f81 := f72.keep K77 (ninS ne_b2_b24 nin0)
  have cS77 := own_same_trans cS68 S77
  have go83 : ∀ t, Steps p.tables e below (T77.setTop (mkF m 155 #[.val (.int p1), .val (.int p2), .val (.int p3), .val (.int p4), .val (.int p5), .val (.ref b2), .val (.ref b20), .val (.int (Int32.ofNat e1)), .val (.int (1 : Int32))] [(.int (2 : Int32)), (.ref b2), (.int (Int32.ofNat (own_r P68 2))), (.int (1 : Int32))])) t → Steps p.tables e below (s₁.setTop (entryFrame m #[(.int p1), (.int p2), (.int p3), (.int p4), (.int p5)] maxLocals)) t := fun t k => go78 t (by
    show Steps p.tables e below (T77.setTop (mkF m 152 #[.val (.int p1), .val (.int p2), .val (.int p3), .val (.int p4), .val (.int p5), .val (.ref b2), .val (.ref b20), .val (.int (Int32.ofNat e1)), .val (.int (1 : Int32))] [(.int (Int32.ofNat (own_r P68 2))), (.int (1 : Int32))])) _
    refine XS.aload X77.here hx rfl (hb hby at_152) rfl rfl ?_
    show Steps p.tables e below (T77.setTop (mkF m 154 #[.val (.int p1), .val (.int p2), .val (.int p3), .val (.int p4), .val (.int p5), .val (.ref b2), .val (.ref b20), .val (.int (Int32.ofNat e1)), .val (.int (1 : Int32))] [(.ref b2), (.int (Int32.ofNat (own_r P68 2))), (.int (1 : Int32))])) _
    refine XS.iconst X77.here hx rfl (hb hby at_154) ?_
    exact k)
  obtain ⟨cl82, Ar82, q82, S82, M82, H82, G82⟩ := id f81
  have go84 : ∀ t, Steps p.tables e below (T77.setTop (mkF m 156 #[.val (.int p1), .val (.int p2), .val (.int p3), .val (.int p4), .val (.int p5), .val (.ref b2), .val (.ref b20), .val (.int (Int32.ofNat e1)), .val (.int (1 : Int32))] [(.int (Int32.ofNat (own_g (own_labs P44) 2))), (.int (Int32.ofNat (own_r P68 2))), (.int (1 : Int32))])) t → Steps p.tables e below (s₁.setTop (entryFrame m #[(.int p1), (.int p2), (.int p3), (.int p4), (.int p5)] maxLocals)) t := fun t k => go83 t (by
    show Steps p.tables e below (T77.setTop (mkF m 155 #[.val (.int p1), .val (.int p2), .val (.int p3), .val (.int p4), .val (.int p5), .val (.ref b2), .val (.ref b20), .val (.int (Int32.ofNat e1)), .val (.int (1 : Int32))] [(.int (2 : Int32)), (.ref b2), (.int (Int32.ofNat (own_r P68 2))), (.int (1 : Int32))])) _
    refine X77.iaload hx (j := (Int32.ofNat 2)) (v := (.int (Int32.ofNat (own_g (own_labs P44) 2)))) (by rw [e77]; exact Ar82.1) (State.isArrayOf_alike hZ.alike Ar82.2.1) Ar82.2.2 (inb_of S82 (own_ix (show 2 < 5 from by decide))) (H82.at (inb_of S82 (own_ix (show 2 < 5 from by decide))) (own_at (own_labs P44) (show 2 < 5 from by decide))) (g := (mkF m 155 #[.val (.int p1), .val (.int p2), .val (.int p3), .val (.int p4), .val (.int p5), .val (.ref b2), .val (.ref b20), .val (.int (Int32.ofNat e1)), .val (.int (1 : Int32))] [(.int (2 : Int32)), (.ref b2), (.int (Int32.ofNat (own_r P68 2))), (.int (1 : Int32))])) rfl rfl (hb hby at_155) _ ?_
    exact k)
  have go85 : ∀ t, Steps p.tables e below (T77.setTop (mkF m 172 #[.val (.int p1), .val (.int p2), .val (.int p3), .val (.int p4), .val (.int p5), .val (.ref b2), .val (.ref b20), .val (.int (Int32.ofNat e1)), .val (.int (1 : Int32))] [(.int (1 : Int32)), (.ref b20), (.int (1 : Int32))])) t → Steps p.tables e below (s₁.setTop (entryFrame m #[(.int p1), (.int p2), (.int p3), (.int p4), (.int p5)] maxLocals)) t := fun t k => go84 t (by
    show Steps p.tables e below (T77.setTop (mkF m 156 #[.val (.int p1), .val (.int p2), .val (.int p3), .val (.int p4), .val (.int p5), .val (.ref b2), .val (.ref b20), .val (.int (Int32.ofNat e1)), .val (.int (1 : Int32))] [(.int (Int32.ofNat (own_g (own_labs P44) 2))), (.int (Int32.ofNat (own_r P68 2))), (.int (1 : Int32))])) _
    refine XS.icmpNo X77.here hx rfl (hb hby at_156) rfl (teq (congrArg Int32.ofNat ((cS68.2 2 (show 2 < 5 from by decide)).trans (own_lg P44 (show 2 < 5 from by decide)).symm))).2 ?_
    show Steps p.tables e below (T77.setTop (mkF m 159 #[.val (.int p1), .val (.int p2), .val (.int p3), .val (.int p4), .val (.int p5), .val (.ref b2), .val (.ref b20), .val (.int (Int32.ofNat e1)), .val (.int (1 : Int32))] [(.int (1 : Int32))])) _
    refine XS.iconst X77.here hx rfl (hb hby at_159) ?_
    show Steps p.tables e below (T77.setTop (mkF m 160 #[.val (.int p1), .val (.int p2), .val (.int p3), .val (.int p4), .val (.int p5), .val (.ref b2), .val (.ref b20), .val (.int (Int32.ofNat e1)), .val (.int (1 : Int32))] [(.int (1 : Int32)), (.int (1 : Int32))])) _
    refine XS.goto X77.here hx rfl (pc0 := 160) (pc' := 164) rfl (hb hby at_160) (by decide) (by decide) ?_
    show Steps p.tables e below (T77.setTop (mkF m 164 #[.val (.int p1), .val (.int p2), .val (.int p3), .val (.int p4), .val (.int p5), .val (.ref b2), .val (.ref b20), .val (.int (Int32.ofNat e1)), .val (.int (1 : Int32))] [(.int (1 : Int32)), (.int (1 : Int32))])) _
    refine XS.iand X77.here hx rfl (hb hby at_164) rfl ?_
    show Steps p.tables e below (T77.setTop (mkF m 165 #[.val (.int p1), .val (.int p2), .val (.int p3), .val (.int p4), .val (.int p5), .val (.ref b2), .val (.ref b20), .val (.int (Int32.ofNat e1)), .val (.int (1 : Int32))] [(.int (1 : Int32))])) _
    refine XS.istore X77.here hx rfl (hb hby at_165) rfl (l' := #[.val (.int p1), .val (.int p2), .val (.int p3), .val (.int p4), .val (.int p5), .val (.ref b2), .val (.ref b20), .val (.int (Int32.ofNat e1)), .val (.int (1 : Int32))]) rfl ?_
    show Steps p.tables e below (T77.setTop (mkF m 167 #[.val (.int p1), .val (.int p2), .val (.int p3), .val (.int p4), .val (.int p5), .val (.ref b2), .val (.ref b20), .val (.int (Int32.ofNat e1)), .val (.int (1 : Int32))] [])) _
    refine XS.iload X77.here hx rfl (hb hby at_167) rfl ?_
    show Steps p.tables e below (T77.setTop (mkF m 169 #[.val (.int p1), .val (.int p2), .val (.int p3), .val (.int p4), .val (.int p5), .val (.ref b2), .val (.ref b20), .val (.int (Int32.ofNat e1)), .val (.int (1 : Int32))] [(.int (1 : Int32))])) _
    refine XS.aload X77.here hx rfl (hb hby at_169) rfl rfl ?_
    show Steps p.tables e below (T77.setTop (mkF m 171 #[.val (.int p1), .val (.int p2), .val (.int p3), .val (.int p4), .val (.int p5), .val (.ref b2), .val (.ref b20), .val (.int (Int32.ofNat e1)), .val (.int (1 : Int32))] [(.ref b20), (.int (1 : Int32))])) _
    refine XS.iconst X77.here hx rfl (hb hby at_171) ?_
    exact k)
  obtain ⟨cq86, kq86, q86a, q86b, q86c⟩ := isOf hZ e77 f79
  obtain ⟨_, _, ⟨T86, L86, k86, n86⟩, -, X86, ⟨Lc86, hQ86, l86, y86, z86⟩, st86⟩ := X77.virtualBack hx (y := (⟨"com/example/subsumption/subsumption/reasoner/Links", "root", "(I)I"⟩ : MethodName)) (z := (⟨"com/example/subsumption/subsumption/reasoner/Links", "root", "(I)I"⟩ : MethodName)) hown (mvT hZ (hw _ (List.mem_of_getElem? (i := 37) rfl))) (mvT hZ (hw _ (List.mem_of_getElem? (i := 23) rfl))) (notFace_of_selects (args := #[]) (mvT hZ (hw _ (List.mem_of_getElem? (i := 25) rfl)))) (mvT hZ (hw _ (List.mem_of_getElem? (i := 25) rfl))) (mvT hZ (hw _ (List.mem_of_getElem? (i := 24) rfl))) (by decide) (backOf (W := 1) (rm_rt l Z a0 hw [] b20 1 b24 k24 P77 h77 n0 (Nat.le_trans (Nat.le_trans (Nat.le_trans (Nat.le_trans (Nat.le_trans (Nat.le_trans (Nat.le_trans (Nat.le_trans (Nat.le_trans (Nat.le_trans (Nat.le_trans (Nat.le_trans (Nat.le_trans (Nat.le_trans (Nat.le_trans (Nat.le_trans Z0 E2.1) (Keep.of_wr W5).1) (Keep.of_wr W8).1) (Keep.of_wr W11).1) (Keep.of_wr W14).1) (Keep.of_wr W17).1) E20.1) K24.1) K29.1) K34.1) K39.1) K44.1) K50.1) K59.1) K68.1) K77.1) f80 V77 S77.1 g24 ne24 (show 1 < 5 from by decide)) hZ (hw _ (List.mem_of_getElem? (i := 26) rfl)) (hw _ (List.mem_of_getElem? (i := 3) rfl)) (by decide) (by decide)) q86a q86c (g := (mkF m 172 #[.val (.int p1), .val (.int p2), .val (.int p3), .val (.int p4), .val (.int p5), .val (.ref b2), .val (.ref b20), .val (.int (Int32.ofNat e1)), .val (.int (1 : Int32))] [(.int (1 : Int32)), (.ref b20), (.int (1 : Int32))])) rfl (by rw [hml]; rfl) (Steps.refl _) (argsL := [(.int (1 : Int32))]) (rest := [(.int (1 : Int32))]) (lenOf pd_0 rfl) rfl (by show 2 * 0 + _ ≤ _; exact Nat.le_of_eq rfl) (hb hby at_172) (fun _ _ => ⟨rfl, e77, (by decide : 3 + 0 ≤ _), (by decide : 11 + 0 ≤ _)⟩)
  dsimp only [Pt.U, Pt.locs, Pt.cells, Pt.slots] at X86 l86 y86 z86 st86 hQ86
  subst l86 y86 z86
  obtain ⟨h86, e86⟩ : ∃ z, T86.heap = z := ⟨_, rfl⟩
  rw [e86] at hQ86
  obtain ⟨rfl, N86q, K86, P86, S86, V86⟩ := hQ86
  have N86 := Fr.app N77 N86q
  have go87 : ∀ t, Steps p.tables e below (T86.setTop (mkF m 175 #[.val (.int p1), .val (.int p2), .val (.int p3), .val (.int p4), .val (.int p5), .val (.ref b2), .val (.ref b20), .val (.int (Int32.ofNat e1)), .val (.int (1 : Int32))] [(.int (Int32.ofNat (own_r P77 1))), (.int (1 : Int32))])) t → Steps p.tables e below (s₁.setTop (entryFrame m #[(.int p1), (.int p2), (.int p3), (.int p4), (.int p5)] maxLocals)) t := fun t k => go85 t (st86.trans k)
  have f88 := f79.keep K86
  have f89 := f80.keep K86 (ninS ne24 nin0)
  have f90 := f81.keep K86 (ninS ne_b2_b24 nin0)
  have cS86 := own_same_trans cS77 S86
  have go92 : ∀ t, Steps p.tables e below (T86.setTop (mkF m 178 #[.val (.int p1), .val (.int p2), .val (.int p3), .val (.int p4), .val (.int p5), .val (.ref b2), .val (.ref b20), .val (.int (Int32.ofNat e1)), .val (.int (1 : Int32))] [(.int (1 : Int32)), (.ref b2), (.int (Int32.ofNat (own_r P77 1))), (.int (1 : Int32))])) t → Steps p.tables e below (s₁.setTop (entryFrame m #[(.int p1), (.int p2), (.int p3), (.int p4), (.int p5)] maxLocals)) t := fun t k => go87 t (by
    show Steps p.tables e below (T86.setTop (mkF m 175 #[.val (.int p1), .val (.int p2), .val (.int p3), .val (.int p4), .val (.int p5), .val (.ref b2), .val (.ref b20), .val (.int (Int32.ofNat e1)), .val (.int (1 : Int32))] [(.int (Int32.ofNat (own_r P77 1))), (.int (1 : Int32))])) _
    refine XS.aload X86.here hx rfl (hb hby at_175) rfl rfl ?_
    show Steps p.tables e below (T86.setTop (mkF m 177 #[.val (.int p1), .val (.int p2), .val (.int p3), .val (.int p4), .val (.int p5), .val (.ref b2), .val (.ref b20), .val (.int (Int32.ofNat e1)), .val (.int (1 : Int32))] [(.ref b2), (.int (Int32.ofNat (own_r P77 1))), (.int (1 : Int32))])) _
    refine XS.iconst X86.here hx rfl (hb hby at_177) ?_
    exact k)
  obtain ⟨cl91, Ar91, q91, S91, M91, H91, G91⟩ := id f90
  have go93 : ∀ t, Steps p.tables e below (T86.setTop (mkF m 179 #[.val (.int p1), .val (.int p2), .val (.int p3), .val (.int p4), .val (.int p5), .val (.ref b2), .val (.ref b20), .val (.int (Int32.ofNat e1)), .val (.int (1 : Int32))] [(.int (Int32.ofNat (own_g (own_labs P44) 1))), (.int (Int32.ofNat (own_r P77 1))), (.int (1 : Int32))])) t → Steps p.tables e below (s₁.setTop (entryFrame m #[(.int p1), (.int p2), (.int p3), (.int p4), (.int p5)] maxLocals)) t := fun t k => go92 t (by
    show Steps p.tables e below (T86.setTop (mkF m 178 #[.val (.int p1), .val (.int p2), .val (.int p3), .val (.int p4), .val (.int p5), .val (.ref b2), .val (.ref b20), .val (.int (Int32.ofNat e1)), .val (.int (1 : Int32))] [(.int (1 : Int32)), (.ref b2), (.int (Int32.ofNat (own_r P77 1))), (.int (1 : Int32))])) _
    refine X86.iaload hx (j := (Int32.ofNat 1)) (v := (.int (Int32.ofNat (own_g (own_labs P44) 1)))) (by rw [e86]; exact Ar91.1) (State.isArrayOf_alike hZ.alike Ar91.2.1) Ar91.2.2 (inb_of S91 (own_ix (show 1 < 5 from by decide))) (H91.at (inb_of S91 (own_ix (show 1 < 5 from by decide))) (own_at (own_labs P44) (show 1 < 5 from by decide))) (g := (mkF m 178 #[.val (.int p1), .val (.int p2), .val (.int p3), .val (.int p4), .val (.int p5), .val (.ref b2), .val (.ref b20), .val (.int (Int32.ofNat e1)), .val (.int (1 : Int32))] [(.int (1 : Int32)), (.ref b2), (.int (Int32.ofNat (own_r P77 1))), (.int (1 : Int32))])) rfl rfl (hb hby at_178) _ ?_
    exact k)
  have go94 : ∀ t, Steps p.tables e below (T86.setTop (mkF m 195 #[.val (.int p1), .val (.int p2), .val (.int p3), .val (.int p4), .val (.int p5), .val (.ref b2), .val (.ref b20), .val (.int (Int32.ofNat e1)), .val (.int (1 : Int32))] [(.int (0 : Int32)), (.ref b20), (.int (1 : Int32))])) t → Steps p.tables e below (s₁.setTop (entryFrame m #[(.int p1), (.int p2), (.int p3), (.int p4), (.int p5)] maxLocals)) t := fun t k => go93 t (by
    show Steps p.tables e below (T86.setTop (mkF m 179 #[.val (.int p1), .val (.int p2), .val (.int p3), .val (.int p4), .val (.int p5), .val (.ref b2), .val (.ref b20), .val (.int (Int32.ofNat e1)), .val (.int (1 : Int32))] [(.int (Int32.ofNat (own_g (own_labs P44) 1))), (.int (Int32.ofNat (own_r P77 1))), (.int (1 : Int32))])) _
    refine XS.icmpNo X86.here hx rfl (hb hby at_179) rfl (teq (congrArg Int32.ofNat ((cS77.2 1 (show 1 < 5 from by decide)).trans (own_lg P44 (show 1 < 5 from by decide)).symm))).2 ?_
    show Steps p.tables e below (T86.setTop (mkF m 182 #[.val (.int p1), .val (.int p2), .val (.int p3), .val (.int p4), .val (.int p5), .val (.ref b2), .val (.ref b20), .val (.int (Int32.ofNat e1)), .val (.int (1 : Int32))] [(.int (1 : Int32))])) _
    refine XS.iconst X86.here hx rfl (hb hby at_182) ?_
    show Steps p.tables e below (T86.setTop (mkF m 183 #[.val (.int p1), .val (.int p2), .val (.int p3), .val (.int p4), .val (.int p5), .val (.ref b2), .val (.ref b20), .val (.int (Int32.ofNat e1)), .val (.int (1 : Int32))] [(.int (1 : Int32)), (.int (1 : Int32))])) _
    refine XS.goto X86.here hx rfl (pc0 := 183) (pc' := 187) rfl (hb hby at_183) (by decide) (by decide) ?_
    show Steps p.tables e below (T86.setTop (mkF m 187 #[.val (.int p1), .val (.int p2), .val (.int p3), .val (.int p4), .val (.int p5), .val (.ref b2), .val (.ref b20), .val (.int (Int32.ofNat e1)), .val (.int (1 : Int32))] [(.int (1 : Int32)), (.int (1 : Int32))])) _
    refine XS.iand X86.here hx rfl (hb hby at_187) rfl ?_
    show Steps p.tables e below (T86.setTop (mkF m 188 #[.val (.int p1), .val (.int p2), .val (.int p3), .val (.int p4), .val (.int p5), .val (.ref b2), .val (.ref b20), .val (.int (Int32.ofNat e1)), .val (.int (1 : Int32))] [(.int (1 : Int32))])) _
    refine XS.istore X86.here hx rfl (hb hby at_188) rfl (l' := #[.val (.int p1), .val (.int p2), .val (.int p3), .val (.int p4), .val (.int p5), .val (.ref b2), .val (.ref b20), .val (.int (Int32.ofNat e1)), .val (.int (1 : Int32))]) rfl ?_
    show Steps p.tables e below (T86.setTop (mkF m 190 #[.val (.int p1), .val (.int p2), .val (.int p3), .val (.int p4), .val (.int p5), .val (.ref b2), .val (.ref b20), .val (.int (Int32.ofNat e1)), .val (.int (1 : Int32))] [])) _
    refine XS.iload X86.here hx rfl (hb hby at_190) rfl ?_
    show Steps p.tables e below (T86.setTop (mkF m 192 #[.val (.int p1), .val (.int p2), .val (.int p3), .val (.int p4), .val (.int p5), .val (.ref b2), .val (.ref b20), .val (.int (Int32.ofNat e1)), .val (.int (1 : Int32))] [(.int (1 : Int32))])) _
    refine XS.aload X86.here hx rfl (hb hby at_192) rfl rfl ?_
    show Steps p.tables e below (T86.setTop (mkF m 194 #[.val (.int p1), .val (.int p2), .val (.int p3), .val (.int p4), .val (.int p5), .val (.ref b2), .val (.ref b20), .val (.int (Int32.ofNat e1)), .val (.int (1 : Int32))] [(.ref b20), (.int (1 : Int32))])) _
    refine XS.iconst X86.here hx rfl (hb hby at_194) ?_
    exact k)
  obtain ⟨cq95, kq95, q95a, q95b, q95c⟩ := isOf hZ e86 f88
  obtain ⟨_, _, ⟨T95, L95, k95, n95⟩, -, X95, ⟨Lc95, hQ95, l95, y95, z95⟩, st95⟩ := X86.virtualBack hx (y := (⟨"com/example/subsumption/subsumption/reasoner/Links", "root", "(I)I"⟩ : MethodName)) (z := (⟨"com/example/subsumption/subsumption/reasoner/Links", "root", "(I)I"⟩ : MethodName)) hown (mvT hZ (hw _ (List.mem_of_getElem? (i := 37) rfl))) (mvT hZ (hw _ (List.mem_of_getElem? (i := 23) rfl))) (notFace_of_selects (args := #[]) (mvT hZ (hw _ (List.mem_of_getElem? (i := 25) rfl)))) (mvT hZ (hw _ (List.mem_of_getElem? (i := 25) rfl))) (mvT hZ (hw _ (List.mem_of_getElem? (i := 24) rfl))) (by decide) (backOf (W := 1) (rm_rt l Z a0 hw [] b20 0 b24 k24 P86 h86 n0 (Nat.le_trans (Nat.le_trans (Nat.le_trans (Nat.le_trans (Nat.le_trans (Nat.le_trans (Nat.le_trans (Nat.le_trans (Nat.le_trans (Nat.le_trans (Nat.le_trans (Nat.le_trans (Nat.le_trans (Nat.le_trans (Nat.le_trans (Nat.le_trans (Nat.le_trans Z0 E2.1) (Keep.of_wr W5).1) (Keep.of_wr W8).1) (Keep.of_wr W11).1) (Keep.of_wr W14).1) (Keep.of_wr W17).1) E20.1) K24.1) K29.1) K34.1) K39.1) K44.1) K50.1) K59.1) K68.1) K77.1) K86.1) f89 V86 S86.1 g24 ne24 (show 0 < 5 from by decide)) hZ (hw _ (List.mem_of_getElem? (i := 26) rfl)) (hw _ (List.mem_of_getElem? (i := 3) rfl)) (by decide) (by decide)) q95a q95c (g := (mkF m 195 #[.val (.int p1), .val (.int p2), .val (.int p3), .val (.int p4), .val (.int p5), .val (.ref b2), .val (.ref b20), .val (.int (Int32.ofNat e1)), .val (.int (1 : Int32))] [(.int (0 : Int32)), (.ref b20), (.int (1 : Int32))])) rfl (by rw [hml]; rfl) (Steps.refl _) (argsL := [(.int (0 : Int32))]) (rest := [(.int (1 : Int32))]) (lenOf pd_0 rfl) rfl (by show 2 * 0 + _ ≤ _; exact Nat.le_of_eq rfl) (hb hby at_195) (fun _ _ => ⟨rfl, e86, (by decide : 3 + 0 ≤ _), (by decide : 11 + 0 ≤ _)⟩)
  dsimp only [Pt.U, Pt.locs, Pt.cells, Pt.slots] at X95 l95 y95 z95 st95 hQ95
  subst l95 y95 z95
  obtain ⟨h95, e95⟩ : ∃ z, T95.heap = z := ⟨_, rfl⟩
  rw [e95] at hQ95
  obtain ⟨rfl, N95q, K95, P95, S95, V95⟩ := hQ95
  have N95 := Fr.app N86 N95q
  have go96 : ∀ t, Steps p.tables e below (T95.setTop (mkF m 198 #[.val (.int p1), .val (.int p2), .val (.int p3), .val (.int p4), .val (.int p5), .val (.ref b2), .val (.ref b20), .val (.int (Int32.ofNat e1)), .val (.int (1 : Int32))] [(.int (Int32.ofNat (own_r P86 0))), (.int (1 : Int32))])) t → Steps p.tables e below (s₁.setTop (entryFrame m #[(.int p1), (.int p2), (.int p3), (.int p4), (.int p5)] maxLocals)) t := fun t k => go94 t (st95.trans k)
  have f97 := f88.keep K95
  have f98 := f89.keep K95 (ninS ne24 nin0)
  have f99 := f90.keep K95 (ninS ne_b2_b24 nin0)
  have cS95 := own_same_trans cS86 S95
  have go101 : ∀ t, Steps p.tables e below (T95.setTop (mkF m 201 #[.val (.int p1), .val (.int p2), .val (.int p3), .val (.int p4), .val (.int p5), .val (.ref b2), .val (.ref b20), .val (.int (Int32.ofNat e1)), .val (.int (1 : Int32))] [(.int (0 : Int32)), (.ref b2), (.int (Int32.ofNat (own_r P86 0))), (.int (1 : Int32))])) t → Steps p.tables e below (s₁.setTop (entryFrame m #[(.int p1), (.int p2), (.int p3), (.int p4), (.int p5)] maxLocals)) t := fun t k => go96 t (by
    show Steps p.tables e below (T95.setTop (mkF m 198 #[.val (.int p1), .val (.int p2), .val (.int p3), .val (.int p4), .val (.int p5), .val (.ref b2), .val (.ref b20), .val (.int (Int32.ofNat e1)), .val (.int (1 : Int32))] [(.int (Int32.ofNat (own_r P86 0))), (.int (1 : Int32))])) _
    refine XS.aload X95.here hx rfl (hb hby at_198) rfl rfl ?_
    show Steps p.tables e below (T95.setTop (mkF m 200 #[.val (.int p1), .val (.int p2), .val (.int p3), .val (.int p4), .val (.int p5), .val (.ref b2), .val (.ref b20), .val (.int (Int32.ofNat e1)), .val (.int (1 : Int32))] [(.ref b2), (.int (Int32.ofNat (own_r P86 0))), (.int (1 : Int32))])) _
    refine XS.iconst X95.here hx rfl (hb hby at_200) ?_
    exact k)
  obtain ⟨cl100, Ar100, q100, S100, M100, H100, G100⟩ := id f99
  have go102 : ∀ t, Steps p.tables e below (T95.setTop (mkF m 202 #[.val (.int p1), .val (.int p2), .val (.int p3), .val (.int p4), .val (.int p5), .val (.ref b2), .val (.ref b20), .val (.int (Int32.ofNat e1)), .val (.int (1 : Int32))] [(.int (Int32.ofNat (own_g (own_labs P44) 0))), (.int (Int32.ofNat (own_r P86 0))), (.int (1 : Int32))])) t → Steps p.tables e below (s₁.setTop (entryFrame m #[(.int p1), (.int p2), (.int p3), (.int p4), (.int p5)] maxLocals)) t := fun t k => go101 t (by
    show Steps p.tables e below (T95.setTop (mkF m 201 #[.val (.int p1), .val (.int p2), .val (.int p3), .val (.int p4), .val (.int p5), .val (.ref b2), .val (.ref b20), .val (.int (Int32.ofNat e1)), .val (.int (1 : Int32))] [(.int (0 : Int32)), (.ref b2), (.int (Int32.ofNat (own_r P86 0))), (.int (1 : Int32))])) _
    refine X95.iaload hx (j := (Int32.ofNat 0)) (v := (.int (Int32.ofNat (own_g (own_labs P44) 0)))) (by rw [e95]; exact Ar100.1) (State.isArrayOf_alike hZ.alike Ar100.2.1) Ar100.2.2 (inb_of S100 (own_ix (show 0 < 5 from by decide))) (H100.at (inb_of S100 (own_ix (show 0 < 5 from by decide))) (own_at (own_labs P44) (show 0 < 5 from by decide))) (g := (mkF m 201 #[.val (.int p1), .val (.int p2), .val (.int p3), .val (.int p4), .val (.int p5), .val (.ref b2), .val (.ref b20), .val (.int (Int32.ofNat e1)), .val (.int (1 : Int32))] [(.int (0 : Int32)), (.ref b2), (.int (Int32.ofNat (own_r P86 0))), (.int (1 : Int32))])) rfl rfl (hb hby at_201) _ ?_
    exact k)
  have go103 : ∀ t, Steps p.tables e below (T95.setTop (mkF m 215 #[.val (.int p1), .val (.int p2), .val (.int p3), .val (.int p4), .val (.int p5), .val (.ref b2), .val (.ref b20), .val (.int (Int32.ofNat e1)), .val (.int (1 : Int32))] [(.int (1 : Int32))])) t → Steps p.tables e below (s₁.setTop (entryFrame m #[(.int p1), (.int p2), (.int p3), (.int p4), (.int p5)] maxLocals)) t := fun t k => go102 t (by
    show Steps p.tables e below (T95.setTop (mkF m 202 #[.val (.int p1), .val (.int p2), .val (.int p3), .val (.int p4), .val (.int p5), .val (.ref b2), .val (.ref b20), .val (.int (Int32.ofNat e1)), .val (.int (1 : Int32))] [(.int (Int32.ofNat (own_g (own_labs P44) 0))), (.int (Int32.ofNat (own_r P86 0))), (.int (1 : Int32))])) _
    refine XS.icmpNo X95.here hx rfl (hb hby at_202) rfl (teq (congrArg Int32.ofNat ((cS86.2 0 (show 0 < 5 from by decide)).trans (own_lg P44 (show 0 < 5 from by decide)).symm))).2 ?_
    show Steps p.tables e below (T95.setTop (mkF m 205 #[.val (.int p1), .val (.int p2), .val (.int p3), .val (.int p4), .val (.int p5), .val (.ref b2), .val (.ref b20), .val (.int (Int32.ofNat e1)), .val (.int (1 : Int32))] [(.int (1 : Int32))])) _
    refine XS.iconst X95.here hx rfl (hb hby at_205) ?_
    show Steps p.tables e below (T95.setTop (mkF m 206 #[.val (.int p1), .val (.int p2), .val (.int p3), .val (.int p4), .val (.int p5), .val (.ref b2), .val (.ref b20), .val (.int (Int32.ofNat e1)), .val (.int (1 : Int32))] [(.int (1 : Int32)), (.int (1 : Int32))])) _
    refine XS.goto X95.here hx rfl (pc0 := 206) (pc' := 210) rfl (hb hby at_206) (by decide) (by decide) ?_
    show Steps p.tables e below (T95.setTop (mkF m 210 #[.val (.int p1), .val (.int p2), .val (.int p3), .val (.int p4), .val (.int p5), .val (.ref b2), .val (.ref b20), .val (.int (Int32.ofNat e1)), .val (.int (1 : Int32))] [(.int (1 : Int32)), (.int (1 : Int32))])) _
    refine XS.iand X95.here hx rfl (hb hby at_210) rfl ?_
    show Steps p.tables e below (T95.setTop (mkF m 211 #[.val (.int p1), .val (.int p2), .val (.int p3), .val (.int p4), .val (.int p5), .val (.ref b2), .val (.ref b20), .val (.int (Int32.ofNat e1)), .val (.int (1 : Int32))] [(.int (1 : Int32))])) _
    refine XS.istore X95.here hx rfl (hb hby at_211) rfl (l' := #[.val (.int p1), .val (.int p2), .val (.int p3), .val (.int p4), .val (.int p5), .val (.ref b2), .val (.ref b20), .val (.int (Int32.ofNat e1)), .val (.int (1 : Int32))]) rfl ?_
    show Steps p.tables e below (T95.setTop (mkF m 213 #[.val (.int p1), .val (.int p2), .val (.int p3), .val (.int p4), .val (.int p5), .val (.ref b2), .val (.ref b20), .val (.int (Int32.ofNat e1)), .val (.int (1 : Int32))] [])) _
    refine XS.iload X95.here hx rfl (hb hby at_213) rfl ?_
    exact k)
  obtain ⟨fs, hr, hrun, hended, hW, hsame⟩ := X95.leave (v := some (.int (1 : Int32))) (fun h => by rw [Bd.returns] at h; cases h)
  refine ⟨_, _, go103 _ ?_, hrun, hended, _, _, rfl, ?_, ⟨_, rfl⟩, hW, hsame.mono (by decide) (by decide)⟩
  · exact retN X95 hx (t := .boolean) Bd.returns (by simp) (hb hby at_215) hr
  · show QL n0 _ T95.heap _
    rw [e95]
    exact ⟨rfl, N95⟩
set_option maxRecDepth 65536 in
set_option maxHeartbeats 40000000 in
theorem comes_1 {Post : Tables → Env → Array Value → State → Outcome → State → Prop} (hpost : ∀ tb e args s v u, (limb_1_1.after args s (.returned v) u = true ∧ limb_1_2.after args s (.returned v) u = true ∧ True) → FrameEnd s (.returned v) u (Jvm.fieldLocs frame_1_writes args s ++ Jvm.arrayLocs frame_1_arrays args s ++ Jvm.staticLocs frame_1_statics s) 16 128 → Post tb e args s (.returned v) u) :
    ArmFor flags0 classFile x code maxLocals ret World_1 tables_1 room_1 Calls_1 rest_1 Pre_1 Post := by
  intro l hfl _ _ p e ha hc hk s m args below hf hA hF happ hP
  obtain ⟨hcalls, hrest, hpre⟩ := hP
  obtain ⟨-, -, -, hnamed, -, -, -, hat⟩ := (Spec.applies_iff hf).mp happ
  obtain ⟨hg, hn⟩ := and_e (Cond.before_iff.mp (show (Jvm.Cond.and given_1 narrow_1).before args s = true from hpre))
  obtain ⟨g1, g2⟩ := and_e hg
  obtain ⟨g3, g4⟩ := and_e g2
  obtain ⟨g5, g6⟩ := and_e g4
  obtain ⟨g7, g8⟩ := and_e g6
  obtain ⟨g9, g10⟩ := and_e g8
  obtain ⟨w0, w1, w2, w3, w4, rfl⟩ : ∃ w0 w1 w2 w3 w4 : Value, args = #[w0, w1, w2, w3, w4] := by
    have hs : args.size = 5 := by simpa [Cond.value, given_1] using g1
    obtain ⟨L⟩ := args
    match L, hs with
    | [w0, w1, w2, w3, w4], _ => exact ⟨w0, w1, w2, w3, w4, rfl⟩
  have hw := fun d (hd : d ∈ tables_1) => atoms_spec (ws := Jvm.Cond.code x code maxLocals ret :: tables_1) hat d (List.mem_cons_of_mem _ hd)
  obtain ⟨i0, ei0⟩ := is_v g3
  obtain rfl : w0 = (.int i0) := Option.some.inj ei0
  obtain ⟨i1, ei1⟩ := is_v g5
  obtain rfl : w1 = (.int i1) := Option.some.inj ei1
  obtain ⟨i2, ei2⟩ := is_v g7
  obtain rfl : w2 = (.int i2) := Option.some.inj ei2
  obtain ⟨i3, ei3⟩ := is_v g9
  obtain rfl : w3 = (.int i3) := Option.some.inj ei3
  obtain ⟨i4, ei4⟩ := is_v g10
  obtain rfl : w4 = (.int i4) := Option.some.inj ei4
  obtain ⟨n, o, h1, h2, h3, _, L, rfl, ⟨rfl, N⟩, hq⟩ := rm_law l s _ hw tables_1 i0 i1 i2 i3 i4 s.heap s.heap.size (Nat.le_refl _)  p e ha hc hk s m _ below hf ((Spec.applies_iff_loose hf).mp happ).1 ⟨rfl, State.Warmed39.refl s, rfl⟩ trivial
  refine ⟨n, _, h1, h2, h3, hpost _ _ _ _ _ _ ⟨Cond.after_iff.mpr rfl, Cond.after_iff.mpr (eq_i res_at (Term.int_eval (1)) rfl), trivial⟩ ⟨hq.1, hq.2.1, (hq.2.2.sift fun y hy => Or.inr (N y hy)).mono (by decide) (by decide)⟩⟩
theorem main_1_1 : Claimed_1_1 := comes_1 fun _ _ _ _ _ _ h hF => ⟨h.1, hF⟩
theorem main_1_2 : Claimed_1_2 := comes_1 fun _ _ _ _ _ _ h hF => ⟨h.2.1, hF⟩
end Jvm.Pilot.@@N@@
namespace Jvm.Pilot.@@N@@
open Jvm Jvm.ClassFile Sem Op Lib Jvm.Free Jvm.Stand Jvm.Pilot.@@N@@.Jvm.D
/-! MADE BY PROGRAM (witnessworld.py) out of the Statement's table words and the real class files: 10 classes; the members and pool entries that the words name. The judged class is class 1, her method 1. -/
namespace start1
open Jvm.ClassFile
def u (s : String) : CpInfo := .utf8 (stringToUtf16 s)
/-- a pool by its gaps: so many unusable entries, then the entry; so many at the end -/
def gap : Nat → List CpInfo → List CpInfo
  | 0, r => r
  | n + 1, r => .unusable :: gap n r
def poolList (es : List (Nat × CpInfo)) (last : Nat) : List CpInfo := es.foldr (fun e r => gap e.1 (e.2 :: r)) (gap last [])
def pool (es : List (Nat × CpInfo)) (last : Nat) : Array CpInfo := ⟨poolList es last⟩
def fileOf (pool : Array CpInfo) (this : Nat) (attrs : Array Attribute := #[]) (ms : Array MethodInfo := #[]) (fl : Nat := 33) (sup : Nat := 0) (ifs : Array Nat := #[]) (fds : Array FieldInfo := #[]) : ClassFile where
  minorVersion := 0
  majorVersion := 65
  constantPool := pool
  accessFlags := fl
  thisClass := this
  superClass := sup
  interfaces := ifs
  fields := fds
  methods := ms
  attributes := attrs
def plain (name : String) (sup : Option ClassId) : Class where
  name := name
  kind := .ordinary
  loader := none
  accessFlags := 33
  super := sup
  interfaces := #[]
  cf := none
  fields := #[]
  methods := #[]
  instanceTypes := #[]
  staticTypes := #[]
  resolved := #[]
  callSites := []
  init := .initialized
  statics := none
  mirror := none

def pool0 : Array CpInfo := pool [(5, u "<init>"), (0, u "()V"), (1, .class_ 10), (1, u "java/lang/Object")] 113

def k0c0 : Code := { maxStack := 0, maxLocals := 1, code := object_method_1_code, exceptionTable := #[], attributes := #[] }
def k0m0 : Method := { name := "<init>", desc := "()V", sig := { parameters := [], returnType := none }, accessFlags := 1, code := some k0c0 }
/-- java/lang/Object -/
def k0 : Class := { plain "java/lang/Object" none with
  accessFlags := 33
  interfaces := #[]
  cf := some (fileOf pool0 8 #[] #[{ accessFlags := 1, nameIndex := 5, descriptorIndex := 6, attributes := #[] }] 33 0 #[] #[])
  fields := #[]
  methods := #[k0m0]
  instanceTypes := #[]
  staticTypes := #[]
  resolved := Array.replicate 124 none
  statics := none }

def pool1 : Array CpInfo := pool [(2, .class_ 4), (1, u "java/lang/Object"), (0, u "<init>"), (0, u "()V"), (0, .class_ 8), (0, u "com/example/subsumption/subsumption/reasoner/Links"), (0, .methodref 7 10), (0, .nameAndType 5 11), (0, u "(I)V"), (0, .methodref 13 14), (0, .class_ 15), (0, .nameAndType 16 17), (0, u "com/example/subsumption/subsumption/reasoner/LinksRootPinLaw"), (0, u "step"), (0, u "(Lcom/example/subsumption/subsumption/reasoner/Links;[II)V"), (0, .integer 2147483647), (0, .methodref 7 20), (0, .nameAndType 21 22), (0, u "root"), (0, u "(I)I"), (0, .integer 65535), (0, .methodref 7 25), (0, .nameAndType 26 27), (0, u "link"), (0, u "(II)V"), (0, .methodref 29 30), (0, .class_ 31), (0, .nameAndType 32 33), (0, u "java/lang/Math"), (0, u "min"), (0, u "(II)I"), (0, .methodref 29 35), (0, .nameAndType 36 33), (0, u "max"), (2, u "law"), (0, u "(IIIII)Z")] 5

def k1m0 : Method := { name := "<init>", desc := "()V", sig := { parameters := [], returnType := none }, accessFlags := 1, code := none }
def k1c1 : Code := { maxStack := 4, maxLocals := 9, code := code, exceptionTable := #[], attributes := #[] }
def k1m1 : Method := { name := "law", desc := "(IIIII)Z", sig := { parameters := [.int, .int, .int, .int, .int], returnType := some .boolean }, accessFlags := 9, code := some k1c1 }
def k1c2 : Code := { maxStack := 4, maxLocals := 9, code := method_3_code, exceptionTable := #[], attributes := #[] }
def k1m2 : Method := { name := "step", desc := "(Lcom/example/subsumption/subsumption/reasoner/Links;[II)V", sig := { parameters := [(.object "com/example/subsumption/subsumption/reasoner/Links"), (.array .int), .int], returnType := none }, accessFlags := 10, code := some k1c2 }
/-- com/example/subsumption/subsumption/reasoner/LinksRootPinLaw -/
def k1 : Class := { plain "com/example/subsumption/subsumption/reasoner/LinksRootPinLaw" (some 0) with
  accessFlags := 49
  interfaces := #[]
  cf := some (fileOf pool1 13 #[] #[{ accessFlags := 1, nameIndex := 5, descriptorIndex := 6, attributes := #[] }, { accessFlags := 9, nameIndex := 39, descriptorIndex := 40, attributes := #[] }, { accessFlags := 10, nameIndex := 16, descriptorIndex := 17, attributes := #[] }] 49 2 #[] #[])
  fields := #[]
  methods := #[k1m0, k1m1, k1m2]
  instanceTypes := #[]
  staticTypes := #[]
  resolved := Array.replicate 46 none
  statics := none }

def pool2 : Array CpInfo := pool [(1, .methodref 2 3), (0, .class_ 4), (0, .nameAndType 5 6), (0, u "java/lang/Object"), (0, u "<init>"), (0, u "()V"), (0, .fieldref 8 9), (0, .class_ 10), (0, .nameAndType 11 12), (0, u "com/example/subsumption/subsumption/reasoner/Links"), (0, u "parent"), (0, u "[I"), (0, .methodref 8 14), (0, .nameAndType 15 16), (0, u "root"), (0, u "(I)I"), (0, .methodref 18 19), (0, .class_ 20), (0, .nameAndType 21 22), (0, u "java/lang/Math"), (0, u "max"), (0, u "(II)I"), (0, .methodref 18 24), (0, .nameAndType 25 22), (0, u "min"), (0, u "(I)V"), (3, u "link"), (0, u "(II)V")] 2

def k2c0 : Code := { maxStack := 3, maxLocals := 3, code := prog_73_method_1_code, exceptionTable := #[], attributes := #[] }
def k2m0 : Method := { name := "<init>", desc := "(I)V", sig := { parameters := [.int], returnType := none }, accessFlags := 0, code := some k2c0 }
def k2c1 : Code := { maxStack := 4, maxLocals := 5, code := prog_73_method_2_code, exceptionTable := #[], attributes := #[] }
def k2m1 : Method := { name := "link", desc := "(II)V", sig := { parameters := [.int, .int], returnType := none }, accessFlags := 0, code := some k2c1 }
def k2c2 : Code := { maxStack := 5, maxLocals := 3, code := prog_73_method_3_code, exceptionTable := #[], attributes := #[] }
def k2m2 : Method := { name := "root", desc := "(I)I", sig := { parameters := [.int], returnType := some .int }, accessFlags := 0, code := some k2c2 }
/-- com/example/subsumption/subsumption/reasoner/Links -/
def k2 : Class := { plain "com/example/subsumption/subsumption/reasoner/Links" (some 0) with
  accessFlags := 48
  interfaces := #[]
  cf := some (fileOf pool2 8 #[] #[{ accessFlags := 0, nameIndex := 5, descriptorIndex := 26, attributes := #[] }, { accessFlags := 0, nameIndex := 30, descriptorIndex := 31, attributes := #[] }, { accessFlags := 0, nameIndex := 15, descriptorIndex := 16, attributes := #[] }] 48 2 #[] #[{ accessFlags := 18, nameIndex := 11, descriptorIndex := 12, attributes := #[] }])
  fields := #[{ name := "parent", type := (.array .int), accessFlags := 18, slot := 0, constantValue := 0 }]
  methods := #[k2m0, k2m1, k2m2]
  instanceTypes := #[(.array .int)]
  staticTypes := #[]
  resolved := Array.replicate 34 none
  statics := none }

def pool3 : Array CpInfo := pool [(1, .class_ 2), (0, u "java/lang/Math"), (1, .class_ 6), (1, u "java/lang/Object"), (0, u "<init>"), (0, u "()V"), (89, .class_ 100), (1, u "java/lang/Math$RandomNumberGeneratorHolder"), (71, u "negativeZeroFloatBits"), (0, u "J"), (2, u "negativeZeroDoubleBits"), (21, u "max"), (2, u "min"), (43, u "$assertionsDisabled"), (0, u "Z"), (88, u "(II)I"), (2, u "twoToTheDoubleScaleDown"), (0, u "D"), (4, u "twoToTheDoubleScaleUp"), (9, u "E"), (3, u "PI"), (2, u "TAU"), (2, u "DEGREES_TO_RADIANS"), (0, u "RADIANS_TO_DEGREES")] 94

def k3m0 : Method := { name := "<init>", desc := "()V", sig := { parameters := [], returnType := none }, accessFlags := 2, code := none }
def k3c1 : Code := { maxStack := 2, maxLocals := 2, code := jdk_29_method_65_code, exceptionTable := #[], attributes := #[] }
def k3m1 : Method := { name := "max", desc := "(II)I", sig := { parameters := [.int, .int], returnType := some .int }, accessFlags := 9, code := some k3c1 }
def k3c2 : Code := { maxStack := 2, maxLocals := 2, code := jdk_29_method_69_code, exceptionTable := #[], attributes := #[] }
def k3m2 : Method := { name := "min", desc := "(II)I", sig := { parameters := [.int, .int], returnType := some .int }, accessFlags := 9, code := some k3c2 }
/-- java/lang/Math -/
def k3 : Class := { plain "java/lang/Math" (some 0) with
  accessFlags := 49
  interfaces := #[]
  cf := some (fileOf pool3 1 #[.nestMembers #[98]] #[{ accessFlags := 2, nameIndex := 7, descriptorIndex := 8, attributes := #[] }, { accessFlags := 9, nameIndex := 198, descriptorIndex := 335, attributes := #[] }, { accessFlags := 9, nameIndex := 201, descriptorIndex := 335, attributes := #[] }] 49 4 #[] #[{ accessFlags := 25, nameIndex := 354, descriptorIndex := 339, attributes := #[] }, { accessFlags := 25, nameIndex := 358, descriptorIndex := 339, attributes := #[] }, { accessFlags := 25, nameIndex := 361, descriptorIndex := 339, attributes := #[] }, { accessFlags := 26, nameIndex := 364, descriptorIndex := 339, attributes := #[] }, { accessFlags := 26, nameIndex := 365, descriptorIndex := 339, attributes := #[] }, { accessFlags := 26, nameIndex := 172, descriptorIndex := 173, attributes := #[] }, { accessFlags := 26, nameIndex := 176, descriptorIndex := 173, attributes := #[] }, { accessFlags := 8, nameIndex := 344, descriptorIndex := 339, attributes := #[] }, { accessFlags := 8, nameIndex := 338, descriptorIndex := 339, attributes := #[] }, { accessFlags := 4120, nameIndex := 245, descriptorIndex := 246, attributes := #[] }])
  fields := #[{ name := "E", type := .double, accessFlags := 25, slot := 0, constantValue := 0 }, { name := "PI", type := .double, accessFlags := 25, slot := 1, constantValue := 0 }, { name := "TAU", type := .double, accessFlags := 25, slot := 2, constantValue := 0 }, { name := "DEGREES_TO_RADIANS", type := .double, accessFlags := 26, slot := 3, constantValue := 0 }, { name := "RADIANS_TO_DEGREES", type := .double, accessFlags := 26, slot := 4, constantValue := 0 }, { name := "negativeZeroFloatBits", type := .long, accessFlags := 26, slot := 5, constantValue := 0 }, { name := "negativeZeroDoubleBits", type := .long, accessFlags := 26, slot := 6, constantValue := 0 }, { name := "twoToTheDoubleScaleUp", type := .double, accessFlags := 8, slot := 7, constantValue := 0 }, { name := "twoToTheDoubleScaleDown", type := .double, accessFlags := 8, slot := 8, constantValue := 0 }, { name := "$assertionsDisabled", type := .boolean, accessFlags := 4120, slot := 9, constantValue := 0 }]
  methods := #[k3m0, k3m1, k3m2]
  instanceTypes := #[]
  staticTypes := #[.double, .double, .double, .double, .double, .long, .long, .double, .double, .boolean]
  resolved := Array.replicate 460 none
  statics := none }

def pool4 : Array CpInfo := pool [(1, u "java/lang/Cloneable"), (0, .class_ 1), (0, u "java/lang/Object"), (0, .class_ 3)] 3

/-- java/lang/Cloneable -/
def k4 : Class := { plain "java/lang/Cloneable" (some 0) with
  accessFlags := 1537
  interfaces := #[]
  cf := some (fileOf pool4 2 #[] #[] 1537 4 #[] #[])
  fields := #[]
  methods := #[]
  instanceTypes := #[]
  staticTypes := #[]
  resolved := Array.replicate 8 none
  statics := none }

def pool5 : Array CpInfo := pool [(1, u "java/io/Serializable"), (0, .class_ 1), (0, u "java/lang/Object"), (0, .class_ 3)] 3

/-- java/io/Serializable -/
def k5 : Class := { plain "java/io/Serializable" (some 0) with
  accessFlags := 1537
  interfaces := #[]
  cf := some (fileOf pool5 2 #[] #[] 1537 4 #[] #[])
  fields := #[]
  methods := #[]
  instanceTypes := #[]
  staticTypes := #[]
  resolved := Array.replicate 8 none
  statics := none }

/-- the primitive byte -/
def k6 : Class := { plain "byte" none with kind := .primitive 'B', accessFlags := 0x411 }
/-- [B -/
def k7 : Class := { plain "[B" (some 0) with kind := .array 6 .byte, interfaces := #[4, 5], accessFlags := 1041 }

/-- the primitive int -/
def k8 : Class := { plain "int" none with kind := .primitive 'I', accessFlags := 0x411 }
/-- [I -/
def k9 : Class := { plain "[I" (some 0) with kind := .array 8 .int, interfaces := #[4, 5], accessFlags := 1041 }

def heap : Heap := #[]
def classes : Array Class := #[k0, k1, k2, k3, k4, k5, k6, k7, k8, k9]
def interned : List (Array UInt16 × Addr) := []
def slotsUsed : Nat := 0
def theMethod : MethodId := ⟨1, 1⟩
def args0 : Array Value := #[.int 65537, .int 2, .int 3, .int 4, .int 5]
def aboutOver (below : List Frame) : State where
  vm := { classes := classes, interned := interned.toArray }
  heap := heap
  slotsUsed := slotsUsed
  threads := #[{ frames := .invoking theMethod args0 :: below }]
def below0 : List Frame := [.native { method := ⟨0, 0⟩, args := #[] }]
def about1 : State := aboutOver below0
def p0 : Program := .bare "" "" ""
def e0 : Env := launch0.env 0 0 0
theorem w_frames : about1.frames = Frame.invoking theMethod args0 :: below0 := rfl
set_option maxRecDepth 65536 in
theorem w_args : argsFit about1.vm theMethod args0 = true := by decide +kernel
set_option maxRecDepth 65536 in
theorem w_heap : heapFits about1 = true := by decide +kernel
set_option maxRecDepth 65536 in
theorem w_runnable : about1.curStatus? = some .runnable := by decide +kernel
set_option maxRecDepth 65536 in
theorem w_alone : about1.alone = true := by decide +kernel
set_option maxRecDepth 65536 in
theorem w_named : about1.methodNamed? x = some theMethod := by decide +kernel
set_option maxRecDepth 65536 in
theorem w_hears : about1.hears theMethod below0 = true := by decide +kernel
set_option maxRecDepth 65536 in
theorem w_ripe : about1.ripe theMethod args0 below0 = true := by decide +kernel
theorem w_running : about1.status = .running := rfl
set_option maxRecDepth 65536 in
theorem w_room : about1.hasRoom e0.platform room_1 = true :=
  launch0.hasRoom_least _ room_1 (by decide +kernel) (by decide +kernel) (by decide +kernel) (by decide +kernel) (by decide +kernel) (by decide +kernel)
theorem allAtoms_all (ts : List Jvm.Cond) (a : Array Jvm.Value) (st : Jvm.State) : (allAtoms ts).before a st = ts.all (fun c => c.before a st) := by
  induction ts with
  | nil => rfl
  | cons c t ih =>
    show (Jvm.Cond.and c (allAtoms t)).before a st = _
    rw [Jvm.Cond.before_and, ih, List.all_cons]
def words1 : List Jvm.Cond := Jvm.Cond.code x code maxLocals ret :: tables_1
/-- a 'code' word, met by the world's own term for the bytes: nothing is compared byte by byte -/
theorem code_word {y : MethodName} {bytes : ByteArray} {mx : Nat} {rt : Option FieldType} {a : Array Value} {s : State} {m : MethodId} {meth : Method} {c : Code} (h1 : s.methodNamed? y = some m) (h2 : s.vm.method? m = some meth) (h3 : meth.code = some c) (h4 : c.code = bytes)
    (h5 : (c.maxLocals == mx && c.exceptionTable.isEmpty && decide (c.maxStack ≤ mostOperands) && decide (meth.sig.returnType = rt) && !meth.locks && decide (parseMethodDescriptor y.desc = some meth.sig)) = true) : (Jvm.Cond.code y bytes mx rt).before a s = true := by
  simp only [Bool.and_eq_true, beq_iff_eq, Bool.not_eq_true', decide_eq_true_eq] at h5
  obtain ⟨⟨⟨⟨⟨g1, g2⟩, g3⟩, g4⟩, g5⟩, g6⟩ := h5
  simp [Cond.before, Cond.holds, Cond.value, h1, h2, h3, h4, g1, g2, g3, g4, g5, g6]
def isCode : Jvm.Cond → Bool
  | .code _ _ _ _ => true
  | _ => false
theorem all_split {L : List Jvm.Cond} {P : Jvm.Cond → Bool} (h1 : L.all (fun c => isCode c || P c) = true) (h2 : ∀ c ∈ L.filter isCode, P c = true) : L.all P = true := by
  refine List.all_eq_true.mpr fun c hc => ?_
  have h := List.all_eq_true.mp h1 c hc
  rcases Bool.eq_false_or_eq_true (isCode c) with hi | hi
  · exact h2 c (List.mem_filter.mpr ⟨hc, hi⟩)
  · simpa [hi] using h
set_option maxRecDepth 65536 in
theorem w_c0 : (Jvm.Cond.code x code maxLocals ret).before args0 about1 = true := code_word (m := ⟨1, 1⟩) (meth := k1m1) (c := k1c1) (by decide +kernel) rfl rfl rfl (by decide +kernel)
set_option maxRecDepth 65536 in
theorem w_c1 : (Jvm.Cond.code ({ cls := "com/example/subsumption/subsumption/reasoner/Links", name := "<init>", desc := "(I)V" } : Jvm.MethodName) prog_73_method_1_code (3 : Nat) (Option.none : Option Jvm.ClassFile.FieldType)).before args0 about1 = true := code_word (m := ⟨2, 0⟩) (meth := k2m0) (c := k2c0) (by decide +kernel) rfl rfl rfl (by decide +kernel)
set_option maxRecDepth 65536 in
theorem w_c2 : (Jvm.Cond.code ({ cls := "java/lang/Object", name := "<init>", desc := "()V" } : Jvm.MethodName) object_method_1_code (1 : Nat) (Option.none : Option Jvm.ClassFile.FieldType)).before args0 about1 = true := code_word (m := ⟨0, 0⟩) (meth := k0m0) (c := k0c0) (by decide +kernel) rfl rfl rfl (by decide +kernel)
set_option maxRecDepth 65536 in
theorem w_c3 : (Jvm.Cond.code ({ cls := "com/example/subsumption/subsumption/reasoner/LinksRootPinLaw", name := "step", desc := "(Lcom/example/subsumption/subsumption/reasoner/Links;[II)V" } : Jvm.MethodName) method_3_code (9 : Nat) (Option.none : Option Jvm.ClassFile.FieldType)).before args0 about1 = true := code_word (m := ⟨1, 2⟩) (meth := k1m2) (c := k1c2) (by decide +kernel) rfl rfl rfl (by decide +kernel)
set_option maxRecDepth 65536 in
theorem w_c4 : (Jvm.Cond.code ({ cls := "com/example/subsumption/subsumption/reasoner/Links", name := "link", desc := "(II)V" } : Jvm.MethodName) prog_73_method_2_code (5 : Nat) (Option.none : Option Jvm.ClassFile.FieldType)).before args0 about1 = true := code_word (m := ⟨2, 1⟩) (meth := k2m1) (c := k2c1) (by decide +kernel) rfl rfl rfl (by decide +kernel)
set_option maxRecDepth 65536 in
theorem w_c5 : (Jvm.Cond.code ({ cls := "com/example/subsumption/subsumption/reasoner/Links", name := "root", desc := "(I)I" } : Jvm.MethodName) prog_73_method_3_code (3 : Nat) (Option.some Jvm.ClassFile.FieldType.int)).before args0 about1 = true := code_word (m := ⟨2, 2⟩) (meth := k2m2) (c := k2c2) (by decide +kernel) rfl rfl rfl (by decide +kernel)
set_option maxRecDepth 65536 in
theorem w_c6 : (Jvm.Cond.code ({ cls := "java/lang/Math", name := "max", desc := "(II)I" } : Jvm.MethodName) jdk_29_method_65_code (2 : Nat) (Option.some Jvm.ClassFile.FieldType.int)).before args0 about1 = true := code_word (m := ⟨3, 1⟩) (meth := k3m1) (c := k3c1) (by decide +kernel) rfl rfl rfl (by decide +kernel)
set_option maxRecDepth 65536 in
theorem w_c7 : (Jvm.Cond.code ({ cls := "java/lang/Math", name := "min", desc := "(II)I" } : Jvm.MethodName) jdk_29_method_69_code (2 : Nat) (Option.some Jvm.ClassFile.FieldType.int)).before args0 about1 = true := code_word (m := ⟨3, 2⟩) (meth := k3m2) (c := k3c2) (by decide +kernel) rfl rfl rfl (by decide +kernel)
def codes1 : List Jvm.Cond := [Jvm.Cond.code x code maxLocals ret, Jvm.Cond.code ({ cls := "com/example/subsumption/subsumption/reasoner/Links", name := "<init>", desc := "(I)V" } : Jvm.MethodName) prog_73_method_1_code (3 : Nat) (Option.none : Option Jvm.ClassFile.FieldType), Jvm.Cond.code ({ cls := "java/lang/Object", name := "<init>", desc := "()V" } : Jvm.MethodName) object_method_1_code (1 : Nat) (Option.none : Option Jvm.ClassFile.FieldType), Jvm.Cond.code ({ cls := "com/example/subsumption/subsumption/reasoner/LinksRootPinLaw", name := "step", desc := "(Lcom/example/subsumption/subsumption/reasoner/Links;[II)V" } : Jvm.MethodName) method_3_code (9 : Nat) (Option.none : Option Jvm.ClassFile.FieldType), Jvm.Cond.code ({ cls := "com/example/subsumption/subsumption/reasoner/Links", name := "link", desc := "(II)V" } : Jvm.MethodName) prog_73_method_2_code (5 : Nat) (Option.none : Option Jvm.ClassFile.FieldType), Jvm.Cond.code ({ cls := "com/example/subsumption/subsumption/reasoner/Links", name := "root", desc := "(I)I" } : Jvm.MethodName) prog_73_method_3_code (3 : Nat) (Option.some Jvm.ClassFile.FieldType.int), Jvm.Cond.code ({ cls := "java/lang/Math", name := "max", desc := "(II)I" } : Jvm.MethodName) jdk_29_method_65_code (2 : Nat) (Option.some Jvm.ClassFile.FieldType.int), Jvm.Cond.code ({ cls := "java/lang/Math", name := "min", desc := "(II)I" } : Jvm.MethodName) jdk_29_method_69_code (2 : Nat) (Option.some Jvm.ClassFile.FieldType.int)]
set_option maxRecDepth 65536 in
theorem codes_eq : words1.filter isCode = codes1 := rfl
theorem w_codes : ∀ c ∈ words1.filter isCode, c.before args0 about1 = true := by
  rw [codes_eq]
  intro c hc
  simp only [codes1, List.mem_cons, List.not_mem_nil, or_false] at hc
  rcases hc with rfl | rfl | rfl | rfl | rfl | rfl | rfl | rfl
  · exact w_c0
  · exact w_c1
  · exact w_c2
  · exact w_c3
  · exact w_c4
  · exact w_c5
  · exact w_c6
  · exact w_c7
set_option maxRecDepth 65536 in
theorem w_t1 : (words1.take 24).all (fun c => isCode c || c.before args0 about1) = true := by decide +kernel
set_option maxRecDepth 65536 in
theorem w_t2 : (words1.drop 24).all (fun c => isCode c || c.before args0 about1) = true := by decide +kernel
theorem w_tables : (allAtoms (Jvm.Cond.code x code maxLocals ret :: tables_1)).before args0 about1 = true := by
  rw [allAtoms_all]
  show words1.all (fun c => c.before args0 about1) = true
  refine all_split ?_ w_codes
  rw [← List.take_append_drop 24 words1, List.all_append, w_t1, w_t2]
  rfl
set_option maxRecDepth 65536 in
theorem w_case : (Jvm.Cond.and given_1 narrow_1).before args0 about1 = true := by decide +kernel
theorem w_applies : (headSpec (Jvm.Cond.code x code maxLocals ret :: tables_1) room_1).applies x e0.platform about1 = true :=
  (Spec.applies_iff w_frames).mpr ⟨w_running, w_runnable, w_alone, w_named, w_hears, w_ripe, w_room, w_tables⟩
theorem atStart : AtStart classFile x code maxLocals ret World_1 tables_1 room_1 Calls_1 rest_1 Pre_1 launch0 p0 e0 about1 theMethod args0 below0 :=
  ⟨lists_1, trivial, launch0.admits_env _ _ _, launch0.least_env, fairChoices_fair.cas, fairChoices_fair.clock, w_frames, w_args, w_heap, w_applies, trivial, trivial, w_case⟩
end start1
theorem witness_1 : WitnessClaimed_1 := ⟨start1.p0, start1.e0, start1.about1, start1.theMethod, start1.args0, start1.below0, start1.atStart⟩
end Jvm.Pilot.@@N@@
