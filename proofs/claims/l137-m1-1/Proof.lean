import JvmDerived
import JvmDerived.Pilot.@@N@@Statement
import JvmDerived.Pilot.@@N@@Code
set_option linter.unusedVariables false
set_option linter.unusedSimpArgs false
namespace Jvm.RoadKit
open Sem ClassFile Op Lib Jvm.Stand Jvm.Free Jvm.LawKit
section New
variable {p : Program} {l : Launch} {e : Env} {R : Room} {s : State} {m : MethodId} {args : Array Value} {below : List Frame} {meth : Method} {c : Code} {T : State} {locs : List Loc} {cells slots : Nat}
theorem retI (X : Stand p l e R s m args below meth c T locs cells slots) (hx : p.tables.exec = Jvm.exec) {pc : Nat} {Ls : Array Slot} {z : Int32} {rest : List Value} (hret : meth.sig.returnType = some .int) (hd : decode c.code pc = .ok (.ireturn, 1)) {fs : List Frame}
    (hl : ∀ (f : JFrame) (acts : List Action), f.method = m → f.locked = none → f.entered = [] → (doReturn e (T.setTop f) acts (some (.int z))).1 = T.setFrames fs) : Steps p.tables e below (T.setTop (mkF m pc Ls (.int z :: rest))) (T.setFrames fs) := by
  have hm' : T.vm.method? m = some meth := X.method'
  have hn : narrow .int (.int z) = .int z := rfl
  show Steps p.tables e below (T.setTop { method := m, pc := pc, locals := Ls, stack := _ :: rest, locked := none }) _
  jvm_step X.here [X.here.top, hx, hd, hm', hret, hn]
  first | (intro acts; rw [hl _ acts rfl rfl rfl]) | rw [hl _ _ rfl rfl rfl]
  exact Steps.refl _
end New
end Jvm.RoadKit
namespace Jvm.Pilot.@@N@@
open Jvm Jvm.ClassFile Sem Op Lib Jvm.Free Jvm.Stand Jvm.LawKit Jvm.RoadKit Bundle Jvm.Pilot.@@N@@.Jvm.D
def QP (r : Option Value) (h0 : Heap) (n0 : Nat) (v : Option Value) (h : Heap) (L : List Loc) : Prop := v = r ∧ Fr n0 L ∧ h = h0
def Q0 (n0 : Nat) (v : Option Value) (L : List Loc) : Prop := v = some (.int 1) ∧ Fr n0 L
theorem d1_0 : decode method_2_code 0 = .ok (.iload_n 2, 1) := by decide +kernel
theorem d1_1 : decode method_2_code 1 = .ok (.iconst 3, 1) := by decide +kernel
theorem d1_2 : decode method_2_code 2 = .ok (.iand, 1) := by decide +kernel
theorem d1_3 : decode method_2_code 3 = .ok (.istore_n 3, 1) := by decide +kernel
theorem d1_4 : decode method_2_code 4 = .ok (.iload_n 3, 1) := by decide +kernel
theorem d1_5 : decode method_2_code 5 = .ok (.iconst 1, 1) := by decide +kernel
theorem d1_6 : decode method_2_code 6 = .ok (.if_icmp .ne 13, 3) := by decide +kernel
theorem d1_9 : decode method_2_code 9 = .ok (.ldc2_w 9, 3) := by decide +kernel
theorem d1_12 : decode method_2_code 12 = .ok (.lload_n 0, 1) := by decide +kernel
theorem d1_13 : decode method_2_code 13 = .ok (.ldc2_w 11, 3) := by decide +kernel
theorem d1_16 : decode method_2_code 16 = .ok (.land, 1) := by decide +kernel
theorem d1_17 : decode method_2_code 17 = .ok (.ladd, 1) := by decide +kernel
theorem d1_18 : decode method_2_code 18 = .ok (.lreturn, 1) := by decide +kernel
theorem pn_1 : plainName "io/watchring/service/ForwardAllowanceBetweenPinLaw" = true := by first | (simp [plainName, overriddenIn]; done) | decide +kernel
theorem ef_1 (m : MethodId) (x0 : Int64) (x1 : Int32) : entryFrame m #[(.long x0), (.int x1)] 4 = mkF m 0 #[.val (.long x0), .second, .val (.int x1), .unset] [] := by first | (simp [entryFrame, mkF, argsToLocals, Value.category]; done) | rfl
set_option maxRecDepth 65536 in
set_option maxHeartbeats 40000000 in
theorem rm1_0 (l : Launch) (Z : State) (a0 : Array Value) (hw : ∀ d ∈ tables_1, d.before a0 Z = true) (ws : List Jvm.Cond) (q1 : Int64) (p2 : Int32) (h0 : Heap) (n0 : Nat) (Z0 : n0 ≤ h0.size) (hc6 : (p2 &&& (3 : Int32)) = (1 : Int32)) :
    MetFree l (⟨"io/watchring/service/ForwardAllowanceBetweenPinLaw", "pick", "(JI)J"⟩ : MethodName) (head1 (Jvm.Cond.code (⟨"io/watchring/service/ForwardAllowanceBetweenPinLaw", "pick", "(JI)J"⟩ : MethodName) method_2_code 4 (some .long) :: ws) ({ frames := 0, cells := 0, slots := 0, locals := 0 } : Room)) (fun a U => a = #[(.long q1), (.int p2)] ∧ Z.Warmed39 U.vm ∧ U.heap = h0) (fun _ _ _ _ _ => True) (fun _ U o U' => ∃ v L, o = .returned v ∧ QP (some (.long ((-9223372036854775808 : Int64) + (q1 &&& (255 : Int64))))) h0 n0 v U'.heap L ∧ FrameEnd U o U' L ({ frames := 0, cells := 0, slots := 0, locals := 0 } : Room).cells ({ frames := 0, cells := 0, slots := 0, locals := 0 } : Room).slots) := by
  refine MetFree.of_bodySF (plainFor_of_name pn_1) hisR ?_
  intro p e s m args below meth c s₁ Bd hml0 hP hK
  obtain ⟨rfl, hZ, hh⟩ := hP
  have hx := Bd.exec
  have hby := Bd.bytes
  have hml : c.maxLocals = 4 := hml0
  have hown : s.vm.findClass "io/watchring/service/ForwardAllowanceBetweenPinLaw" = some m.cls := findClass_of_methodNamed Bd.named
  have hnm := (name_of_methodNamed Bd.named Bd.method).1
  have X0 : Stand p l e ({ frames := 0, cells := 0, slots := 0, locals := 0 } : Room) s m #[(.long q1), (.int p2)] below meth c s₁ [] 0 0 := Stand.of_body Bd
  have e0 : s₁.heap = h0 := by rw [← hh, Bd.state]; rfl
  have N0 := Fr.nil n0
  have pre0 : ∀ t, Steps p.tables e below (s₁.setTop (mkF m 0 #[.val (.long q1), .second, .val (.int p2), .unset] [])) t → Steps p.tables e below (s₁.setTop (entryFrame m #[(.long q1), (.int p2)] 4)) t := fun t k => castTop (ef_1 m q1 p2) k
  obtain ⟨fs, hr, hrun, hended, hW, hsame⟩ := X0.leave (v := some (.long ((-9223372036854775808 : Int64) + (q1 &&& (255 : Int64))))) (fun h => by rw [Bd.returns] at h; cases h)
  refine ⟨_, _, pre0 _ ?_, hrun, hended, _, _, rfl, ?_, ⟨_, rfl⟩, hW, hsame.mono (by decide) (by decide)⟩
  · show Steps p.tables e below (s₁.setTop (mkF m 0 #[.val (.long q1), .second, .val (.int p2), .unset] [])) _
    refine XS.iloadN X0.here hx rfl (hb hby d1_0) rfl ?_
    show Steps p.tables e below (s₁.setTop (mkF m 1 #[.val (.long q1), .second, .val (.int p2), .unset] [(.int p2)])) _
    refine XS.iconst X0.here hx rfl (hb hby d1_1) ?_
    show Steps p.tables e below (s₁.setTop (mkF m 2 #[.val (.long q1), .second, .val (.int p2), .unset] [(.int (3 : Int32)), (.int p2)])) _
    refine XS.iand X0.here hx rfl (hb hby d1_2) rfl ?_
    show Steps p.tables e below (s₁.setTop (mkF m 3 #[.val (.long q1), .second, .val (.int p2), .unset] [(.int (p2 &&& (3 : Int32)))])) _
    refine XS.istoreN X0.here hx rfl (hb hby d1_3) rfl (l' := #[.val (.long q1), .second, .val (.int p2), .val (.int (p2 &&& (3 : Int32)))]) rfl ?_
    show Steps p.tables e below (s₁.setTop (mkF m 4 #[.val (.long q1), .second, .val (.int p2), .val (.int (p2 &&& (3 : Int32)))] [])) _
    refine XS.iloadN X0.here hx rfl (hb hby d1_4) rfl ?_
    show Steps p.tables e below (s₁.setTop (mkF m 5 #[.val (.long q1), .second, .val (.int p2), .val (.int (p2 &&& (3 : Int32)))] [(.int (p2 &&& (3 : Int32)))])) _
    refine XS.iconst X0.here hx rfl (hb hby d1_5) ?_
    show Steps p.tables e below (s₁.setTop (mkF m 6 #[.val (.long q1), .second, .val (.int p2), .val (.int (p2 &&& (3 : Int32)))] [(.int (1 : Int32)), (.int (p2 &&& (3 : Int32)))])) _
    refine XS.icmpNo X0.here hx rfl (hb hby d1_6) rfl (teq hc6).2 ?_
    show Steps p.tables e below (s₁.setTop (mkF m 9 #[.val (.long q1), .second, .val (.int p2), .val (.int (p2 &&& (3 : Int32)))] [])) _
    refine X0.ldc2Long hx hown (mvT hZ (hw _ (List.mem_of_getElem? (i := 10) rfl))) (g := (mkF m 9 #[.val (.long q1), .second, .val (.int p2), .val (.int (p2 &&& (3 : Int32)))] [])) rfl (hb hby d1_9) _ ?_
    show Steps p.tables e below (s₁.setTop (mkF m 12 #[.val (.long q1), .second, .val (.int p2), .val (.int (p2 &&& (3 : Int32)))] [(.long (-9223372036854775808 : Int64))])) _
    refine XS.lloadN X0.here hx rfl (hb hby d1_12) rfl ?_
    show Steps p.tables e below (s₁.setTop (mkF m 13 #[.val (.long q1), .second, .val (.int p2), .val (.int (p2 &&& (3 : Int32)))] [(.long q1), (.long (-9223372036854775808 : Int64))])) _
    refine X0.ldc2Long hx hown (mvT hZ (hw _ (List.mem_of_getElem? (i := 8) rfl))) (g := (mkF m 13 #[.val (.long q1), .second, .val (.int p2), .val (.int (p2 &&& (3 : Int32)))] [(.long q1), (.long (-9223372036854775808 : Int64))])) rfl (hb hby d1_13) _ ?_
    show Steps p.tables e below (s₁.setTop (mkF m 16 #[.val (.long q1), .second, .val (.int p2), .val (.int (p2 &&& (3 : Int32)))] [(.long (255 : Int64)), (.long q1), (.long (-9223372036854775808 : Int64))])) _
    refine XS.land X0.here hx rfl (hb hby d1_16) rfl ?_
    show Steps p.tables e below (s₁.setTop (mkF m 17 #[.val (.long q1), .second, .val (.int p2), .val (.int (p2 &&& (3 : Int32)))] [(.long (q1 &&& (255 : Int64))), (.long (-9223372036854775808 : Int64))])) _
    refine XS.ladd X0.here hx rfl (hb hby d1_17) rfl ?_
    show Steps p.tables e below (s₁.setTop (mkF m 18 #[.val (.long q1), .second, .val (.int p2), .val (.int (p2 &&& (3 : Int32)))] [(.long ((-9223372036854775808 : Int64) + (q1 &&& (255 : Int64))))])) _
    jvm_step X0.here [X0.here.top, hx, (hb hby d1_18), X0.method', Bd.returns, narrow]
    first | (intro acts; rw [hr _ acts rfl rfl rfl]) | rw [hr _ _ rfl rfl rfl]
    exact Steps.refl _
  · show QP (some (.long ((-9223372036854775808 : Int64) + (q1 &&& (255 : Int64))))) h0 n0 _ s₁.heap _
    rw [e0]
    exact ⟨rfl, N0, rfl⟩
theorem d1_19 : decode method_2_code 19 = .ok (.iload_n 3, 1) := by decide +kernel
theorem d1_20 : decode method_2_code 20 = .ok (.iconst 2, 1) := by decide +kernel
theorem d1_21 : decode method_2_code 21 = .ok (.if_icmp .ne 13, 3) := by decide +kernel
theorem d1_24 : decode method_2_code 24 = .ok (.ldc2_w 13, 3) := by decide +kernel
theorem d1_27 : decode method_2_code 27 = .ok (.lload_n 0, 1) := by decide +kernel
theorem d1_28 : decode method_2_code 28 = .ok (.ldc2_w 11, 3) := by decide +kernel
theorem d1_31 : decode method_2_code 31 = .ok (.land, 1) := by decide +kernel
theorem d1_32 : decode method_2_code 32 = .ok (.lsub, 1) := by decide +kernel
theorem d1_33 : decode method_2_code 33 = .ok (.lreturn, 1) := by decide +kernel
set_option maxRecDepth 65536 in
set_option maxHeartbeats 40000000 in
theorem rm1_1 (l : Launch) (Z : State) (a0 : Array Value) (hw : ∀ d ∈ tables_1, d.before a0 Z = true) (ws : List Jvm.Cond) (q1 : Int64) (p2 : Int32) (h0 : Heap) (n0 : Nat) (Z0 : n0 ≤ h0.size) (hc6 : ¬ ((p2 &&& (3 : Int32)) = (1 : Int32))) (hc21 : (p2 &&& (3 : Int32)) = (2 : Int32)) :
    MetFree l (⟨"io/watchring/service/ForwardAllowanceBetweenPinLaw", "pick", "(JI)J"⟩ : MethodName) (head1 (Jvm.Cond.code (⟨"io/watchring/service/ForwardAllowanceBetweenPinLaw", "pick", "(JI)J"⟩ : MethodName) method_2_code 4 (some .long) :: ws) ({ frames := 0, cells := 0, slots := 0, locals := 0 } : Room)) (fun a U => a = #[(.long q1), (.int p2)] ∧ Z.Warmed39 U.vm ∧ U.heap = h0) (fun _ _ _ _ _ => True) (fun _ U o U' => ∃ v L, o = .returned v ∧ QP (some (.long ((9223372036854775807 : Int64) - (q1 &&& (255 : Int64))))) h0 n0 v U'.heap L ∧ FrameEnd U o U' L ({ frames := 0, cells := 0, slots := 0, locals := 0 } : Room).cells ({ frames := 0, cells := 0, slots := 0, locals := 0 } : Room).slots) := by
  refine MetFree.of_bodySF (plainFor_of_name pn_1) hisR ?_
  intro p e s m args below meth c s₁ Bd hml0 hP hK
  obtain ⟨rfl, hZ, hh⟩ := hP
  have hx := Bd.exec
  have hby := Bd.bytes
  have hml : c.maxLocals = 4 := hml0
  have hown : s.vm.findClass "io/watchring/service/ForwardAllowanceBetweenPinLaw" = some m.cls := findClass_of_methodNamed Bd.named
  have hnm := (name_of_methodNamed Bd.named Bd.method).1
  have X0 : Stand p l e ({ frames := 0, cells := 0, slots := 0, locals := 0 } : Room) s m #[(.long q1), (.int p2)] below meth c s₁ [] 0 0 := Stand.of_body Bd
  have e0 : s₁.heap = h0 := by rw [← hh, Bd.state]; rfl
  have N0 := Fr.nil n0
  have pre0 : ∀ t, Steps p.tables e below (s₁.setTop (mkF m 0 #[.val (.long q1), .second, .val (.int p2), .unset] [])) t → Steps p.tables e below (s₁.setTop (entryFrame m #[(.long q1), (.int p2)] 4)) t := fun t k => castTop (ef_1 m q1 p2) k
  obtain ⟨fs, hr, hrun, hended, hW, hsame⟩ := X0.leave (v := some (.long ((9223372036854775807 : Int64) - (q1 &&& (255 : Int64))))) (fun h => by rw [Bd.returns] at h; cases h)
  refine ⟨_, _, pre0 _ ?_, hrun, hended, _, _, rfl, ?_, ⟨_, rfl⟩, hW, hsame.mono (by decide) (by decide)⟩
  · show Steps p.tables e below (s₁.setTop (mkF m 0 #[.val (.long q1), .second, .val (.int p2), .unset] [])) _
    refine XS.iloadN X0.here hx rfl (hb hby d1_0) rfl ?_
    show Steps p.tables e below (s₁.setTop (mkF m 1 #[.val (.long q1), .second, .val (.int p2), .unset] [(.int p2)])) _
    refine XS.iconst X0.here hx rfl (hb hby d1_1) ?_
    show Steps p.tables e below (s₁.setTop (mkF m 2 #[.val (.long q1), .second, .val (.int p2), .unset] [(.int (3 : Int32)), (.int p2)])) _
    refine XS.iand X0.here hx rfl (hb hby d1_2) rfl ?_
    show Steps p.tables e below (s₁.setTop (mkF m 3 #[.val (.long q1), .second, .val (.int p2), .unset] [(.int (p2 &&& (3 : Int32)))])) _
    refine XS.istoreN X0.here hx rfl (hb hby d1_3) rfl (l' := #[.val (.long q1), .second, .val (.int p2), .val (.int (p2 &&& (3 : Int32)))]) rfl ?_
    show Steps p.tables e below (s₁.setTop (mkF m 4 #[.val (.long q1), .second, .val (.int p2), .val (.int (p2 &&& (3 : Int32)))] [])) _
    refine XS.iloadN X0.here hx rfl (hb hby d1_4) rfl ?_
    show Steps p.tables e below (s₁.setTop (mkF m 5 #[.val (.long q1), .second, .val (.int p2), .val (.int (p2 &&& (3 : Int32)))] [(.int (p2 &&& (3 : Int32)))])) _
    refine XS.iconst X0.here hx rfl (hb hby d1_5) ?_
    show Steps p.tables e below (s₁.setTop (mkF m 6 #[.val (.long q1), .second, .val (.int p2), .val (.int (p2 &&& (3 : Int32)))] [(.int (1 : Int32)), (.int (p2 &&& (3 : Int32)))])) _
    refine XS.icmpYes X0.here hx rfl (pc0 := 6) (pc' := 19) rfl (hb hby d1_6) rfl (feq hc6).2 (by decide) (by decide) ?_
    show Steps p.tables e below (s₁.setTop (mkF m 19 #[.val (.long q1), .second, .val (.int p2), .val (.int (p2 &&& (3 : Int32)))] [])) _
    refine XS.iloadN X0.here hx rfl (hb hby d1_19) rfl ?_
    show Steps p.tables e below (s₁.setTop (mkF m 20 #[.val (.long q1), .second, .val (.int p2), .val (.int (p2 &&& (3 : Int32)))] [(.int (p2 &&& (3 : Int32)))])) _
    refine XS.iconst X0.here hx rfl (hb hby d1_20) ?_
    show Steps p.tables e below (s₁.setTop (mkF m 21 #[.val (.long q1), .second, .val (.int p2), .val (.int (p2 &&& (3 : Int32)))] [(.int (2 : Int32)), (.int (p2 &&& (3 : Int32)))])) _
    refine XS.icmpNo X0.here hx rfl (hb hby d1_21) rfl (teq hc21).2 ?_
    show Steps p.tables e below (s₁.setTop (mkF m 24 #[.val (.long q1), .second, .val (.int p2), .val (.int (p2 &&& (3 : Int32)))] [])) _
    refine X0.ldc2Long hx hown (mvT hZ (hw _ (List.mem_of_getElem? (i := 11) rfl))) (g := (mkF m 24 #[.val (.long q1), .second, .val (.int p2), .val (.int (p2 &&& (3 : Int32)))] [])) rfl (hb hby d1_24) _ ?_
    show Steps p.tables e below (s₁.setTop (mkF m 27 #[.val (.long q1), .second, .val (.int p2), .val (.int (p2 &&& (3 : Int32)))] [(.long (9223372036854775807 : Int64))])) _
    refine XS.lloadN X0.here hx rfl (hb hby d1_27) rfl ?_
    show Steps p.tables e below (s₁.setTop (mkF m 28 #[.val (.long q1), .second, .val (.int p2), .val (.int (p2 &&& (3 : Int32)))] [(.long q1), (.long (9223372036854775807 : Int64))])) _
    refine X0.ldc2Long hx hown (mvT hZ (hw _ (List.mem_of_getElem? (i := 8) rfl))) (g := (mkF m 28 #[.val (.long q1), .second, .val (.int p2), .val (.int (p2 &&& (3 : Int32)))] [(.long q1), (.long (9223372036854775807 : Int64))])) rfl (hb hby d1_28) _ ?_
    show Steps p.tables e below (s₁.setTop (mkF m 31 #[.val (.long q1), .second, .val (.int p2), .val (.int (p2 &&& (3 : Int32)))] [(.long (255 : Int64)), (.long q1), (.long (9223372036854775807 : Int64))])) _
    refine XS.land X0.here hx rfl (hb hby d1_31) rfl ?_
    show Steps p.tables e below (s₁.setTop (mkF m 32 #[.val (.long q1), .second, .val (.int p2), .val (.int (p2 &&& (3 : Int32)))] [(.long (q1 &&& (255 : Int64))), (.long (9223372036854775807 : Int64))])) _
    refine XS.lsub X0.here hx rfl (hb hby d1_32) rfl ?_
    show Steps p.tables e below (s₁.setTop (mkF m 33 #[.val (.long q1), .second, .val (.int p2), .val (.int (p2 &&& (3 : Int32)))] [(.long ((9223372036854775807 : Int64) - (q1 &&& (255 : Int64))))])) _
    jvm_step X0.here [X0.here.top, hx, (hb hby d1_33), X0.method', Bd.returns, narrow]
    first | (intro acts; rw [hr _ acts rfl rfl rfl]) | rw [hr _ _ rfl rfl rfl]
    exact Steps.refl _
  · show QP (some (.long ((9223372036854775807 : Int64) - (q1 &&& (255 : Int64))))) h0 n0 _ s₁.heap _
    rw [e0]
    exact ⟨rfl, N0, rfl⟩
theorem d1_34 : decode method_2_code 34 = .ok (.iload_n 3, 1) := by decide +kernel
theorem d1_35 : decode method_2_code 35 = .ok (.iconst 3, 1) := by decide +kernel
theorem d1_36 : decode method_2_code 36 = .ok (.if_icmp .ne 13, 3) := by decide +kernel
theorem d1_39 : decode method_2_code 39 = .ok (.lload_n 0, 1) := by decide +kernel
theorem d1_40 : decode method_2_code 40 = .ok (.ldc2_w 11, 3) := by decide +kernel
theorem d1_43 : decode method_2_code 43 = .ok (.land, 1) := by decide +kernel
theorem d1_44 : decode method_2_code 44 = .ok (.ldc2_w 15, 3) := by decide +kernel
theorem d1_47 : decode method_2_code 47 = .ok (.lsub, 1) := by decide +kernel
theorem d1_48 : decode method_2_code 48 = .ok (.lreturn, 1) := by decide +kernel
set_option maxRecDepth 65536 in
set_option maxHeartbeats 40000000 in
theorem rm1_2 (l : Launch) (Z : State) (a0 : Array Value) (hw : ∀ d ∈ tables_1, d.before a0 Z = true) (ws : List Jvm.Cond) (q1 : Int64) (p2 : Int32) (h0 : Heap) (n0 : Nat) (Z0 : n0 ≤ h0.size) (hc6 : ¬ ((p2 &&& (3 : Int32)) = (1 : Int32))) (hc21 : ¬ ((p2 &&& (3 : Int32)) = (2 : Int32))) (hc36 : (p2 &&& (3 : Int32)) = (3 : Int32)) :
    MetFree l (⟨"io/watchring/service/ForwardAllowanceBetweenPinLaw", "pick", "(JI)J"⟩ : MethodName) (head1 (Jvm.Cond.code (⟨"io/watchring/service/ForwardAllowanceBetweenPinLaw", "pick", "(JI)J"⟩ : MethodName) method_2_code 4 (some .long) :: ws) ({ frames := 0, cells := 0, slots := 0, locals := 0 } : Room)) (fun a U => a = #[(.long q1), (.int p2)] ∧ Z.Warmed39 U.vm ∧ U.heap = h0) (fun _ _ _ _ _ => True) (fun _ U o U' => ∃ v L, o = .returned v ∧ QP (some (.long ((q1 &&& (255 : Int64)) - (128 : Int64)))) h0 n0 v U'.heap L ∧ FrameEnd U o U' L ({ frames := 0, cells := 0, slots := 0, locals := 0 } : Room).cells ({ frames := 0, cells := 0, slots := 0, locals := 0 } : Room).slots) := by
  refine MetFree.of_bodySF (plainFor_of_name pn_1) hisR ?_
  intro p e s m args below meth c s₁ Bd hml0 hP hK
  obtain ⟨rfl, hZ, hh⟩ := hP
  have hx := Bd.exec
  have hby := Bd.bytes
  have hml : c.maxLocals = 4 := hml0
  have hown : s.vm.findClass "io/watchring/service/ForwardAllowanceBetweenPinLaw" = some m.cls := findClass_of_methodNamed Bd.named
  have hnm := (name_of_methodNamed Bd.named Bd.method).1
  have X0 : Stand p l e ({ frames := 0, cells := 0, slots := 0, locals := 0 } : Room) s m #[(.long q1), (.int p2)] below meth c s₁ [] 0 0 := Stand.of_body Bd
  have e0 : s₁.heap = h0 := by rw [← hh, Bd.state]; rfl
  have N0 := Fr.nil n0
  have pre0 : ∀ t, Steps p.tables e below (s₁.setTop (mkF m 0 #[.val (.long q1), .second, .val (.int p2), .unset] [])) t → Steps p.tables e below (s₁.setTop (entryFrame m #[(.long q1), (.int p2)] 4)) t := fun t k => castTop (ef_1 m q1 p2) k
  obtain ⟨fs, hr, hrun, hended, hW, hsame⟩ := X0.leave (v := some (.long ((q1 &&& (255 : Int64)) - (128 : Int64)))) (fun h => by rw [Bd.returns] at h; cases h)
  refine ⟨_, _, pre0 _ ?_, hrun, hended, _, _, rfl, ?_, ⟨_, rfl⟩, hW, hsame.mono (by decide) (by decide)⟩
  · show Steps p.tables e below (s₁.setTop (mkF m 0 #[.val (.long q1), .second, .val (.int p2), .unset] [])) _
    refine XS.iloadN X0.here hx rfl (hb hby d1_0) rfl ?_
    show Steps p.tables e below (s₁.setTop (mkF m 1 #[.val (.long q1), .second, .val (.int p2), .unset] [(.int p2)])) _
    refine XS.iconst X0.here hx rfl (hb hby d1_1) ?_
    show Steps p.tables e below (s₁.setTop (mkF m 2 #[.val (.long q1), .second, .val (.int p2), .unset] [(.int (3 : Int32)), (.int p2)])) _
    refine XS.iand X0.here hx rfl (hb hby d1_2) rfl ?_
    show Steps p.tables e below (s₁.setTop (mkF m 3 #[.val (.long q1), .second, .val (.int p2), .unset] [(.int (p2 &&& (3 : Int32)))])) _
    refine XS.istoreN X0.here hx rfl (hb hby d1_3) rfl (l' := #[.val (.long q1), .second, .val (.int p2), .val (.int (p2 &&& (3 : Int32)))]) rfl ?_
    show Steps p.tables e below (s₁.setTop (mkF m 4 #[.val (.long q1), .second, .val (.int p2), .val (.int (p2 &&& (3 : Int32)))] [])) _
    refine XS.iloadN X0.here hx rfl (hb hby d1_4) rfl ?_
    show Steps p.tables e below (s₁.setTop (mkF m 5 #[.val (.long q1), .second, .val (.int p2), .val (.int (p2 &&& (3 : Int32)))] [(.int (p2 &&& (3 : Int32)))])) _
    refine XS.iconst X0.here hx rfl (hb hby d1_5) ?_
    show Steps p.tables e below (s₁.setTop (mkF m 6 #[.val (.long q1), .second, .val (.int p2), .val (.int (p2 &&& (3 : Int32)))] [(.int (1 : Int32)), (.int (p2 &&& (3 : Int32)))])) _
    refine XS.icmpYes X0.here hx rfl (pc0 := 6) (pc' := 19) rfl (hb hby d1_6) rfl (feq hc6).2 (by decide) (by decide) ?_
    show Steps p.tables e below (s₁.setTop (mkF m 19 #[.val (.long q1), .second, .val (.int p2), .val (.int (p2 &&& (3 : Int32)))] [])) _
    refine XS.iloadN X0.here hx rfl (hb hby d1_19) rfl ?_
    show Steps p.tables e below (s₁.setTop (mkF m 20 #[.val (.long q1), .second, .val (.int p2), .val (.int (p2 &&& (3 : Int32)))] [(.int (p2 &&& (3 : Int32)))])) _
    refine XS.iconst X0.here hx rfl (hb hby d1_20) ?_
    show Steps p.tables e below (s₁.setTop (mkF m 21 #[.val (.long q1), .second, .val (.int p2), .val (.int (p2 &&& (3 : Int32)))] [(.int (2 : Int32)), (.int (p2 &&& (3 : Int32)))])) _
    refine XS.icmpYes X0.here hx rfl (pc0 := 21) (pc' := 34) rfl (hb hby d1_21) rfl (feq hc21).2 (by decide) (by decide) ?_
    show Steps p.tables e below (s₁.setTop (mkF m 34 #[.val (.long q1), .second, .val (.int p2), .val (.int (p2 &&& (3 : Int32)))] [])) _
    refine XS.iloadN X0.here hx rfl (hb hby d1_34) rfl ?_
    show Steps p.tables e below (s₁.setTop (mkF m 35 #[.val (.long q1), .second, .val (.int p2), .val (.int (p2 &&& (3 : Int32)))] [(.int (p2 &&& (3 : Int32)))])) _
    refine XS.iconst X0.here hx rfl (hb hby d1_35) ?_
    show Steps p.tables e below (s₁.setTop (mkF m 36 #[.val (.long q1), .second, .val (.int p2), .val (.int (p2 &&& (3 : Int32)))] [(.int (3 : Int32)), (.int (p2 &&& (3 : Int32)))])) _
    refine XS.icmpNo X0.here hx rfl (hb hby d1_36) rfl (teq hc36).2 ?_
    show Steps p.tables e below (s₁.setTop (mkF m 39 #[.val (.long q1), .second, .val (.int p2), .val (.int (p2 &&& (3 : Int32)))] [])) _
    refine XS.lloadN X0.here hx rfl (hb hby d1_39) rfl ?_
    show Steps p.tables e below (s₁.setTop (mkF m 40 #[.val (.long q1), .second, .val (.int p2), .val (.int (p2 &&& (3 : Int32)))] [(.long q1)])) _
    refine X0.ldc2Long hx hown (mvT hZ (hw _ (List.mem_of_getElem? (i := 8) rfl))) (g := (mkF m 40 #[.val (.long q1), .second, .val (.int p2), .val (.int (p2 &&& (3 : Int32)))] [(.long q1)])) rfl (hb hby d1_40) _ ?_
    show Steps p.tables e below (s₁.setTop (mkF m 43 #[.val (.long q1), .second, .val (.int p2), .val (.int (p2 &&& (3 : Int32)))] [(.long (255 : Int64)), (.long q1)])) _
    refine XS.land X0.here hx rfl (hb hby d1_43) rfl ?_
    show Steps p.tables e below (s₁.setTop (mkF m 44 #[.val (.long q1), .second, .val (.int p2), .val (.int (p2 &&& (3 : Int32)))] [(.long (q1 &&& (255 : Int64)))])) _
    refine X0.ldc2Long hx hown (mvT hZ (hw _ (List.mem_of_getElem? (i := 9) rfl))) (g := (mkF m 44 #[.val (.long q1), .second, .val (.int p2), .val (.int (p2 &&& (3 : Int32)))] [(.long (q1 &&& (255 : Int64)))])) rfl (hb hby d1_44) _ ?_
    show Steps p.tables e below (s₁.setTop (mkF m 47 #[.val (.long q1), .second, .val (.int p2), .val (.int (p2 &&& (3 : Int32)))] [(.long (128 : Int64)), (.long (q1 &&& (255 : Int64)))])) _
    refine XS.lsub X0.here hx rfl (hb hby d1_47) rfl ?_
    show Steps p.tables e below (s₁.setTop (mkF m 48 #[.val (.long q1), .second, .val (.int p2), .val (.int (p2 &&& (3 : Int32)))] [(.long ((q1 &&& (255 : Int64)) - (128 : Int64)))])) _
    jvm_step X0.here [X0.here.top, hx, (hb hby d1_48), X0.method', Bd.returns, narrow]
    first | (intro acts; rw [hr _ acts rfl rfl rfl]) | rw [hr _ _ rfl rfl rfl]
    exact Steps.refl _
  · show QP (some (.long ((q1 &&& (255 : Int64)) - (128 : Int64)))) h0 n0 _ s₁.heap _
    rw [e0]
    exact ⟨rfl, N0, rfl⟩
theorem d1_49 : decode method_2_code 49 = .ok (.lload_n 0, 1) := by decide +kernel
theorem d1_50 : decode method_2_code 50 = .ok (.lreturn, 1) := by decide +kernel
set_option maxRecDepth 65536 in
set_option maxHeartbeats 40000000 in
theorem rm1_3 (l : Launch) (Z : State) (a0 : Array Value) (hw : ∀ d ∈ tables_1, d.before a0 Z = true) (ws : List Jvm.Cond) (q1 : Int64) (p2 : Int32) (h0 : Heap) (n0 : Nat) (Z0 : n0 ≤ h0.size) (hc6 : ¬ ((p2 &&& (3 : Int32)) = (1 : Int32))) (hc21 : ¬ ((p2 &&& (3 : Int32)) = (2 : Int32))) (hc36 : ¬ ((p2 &&& (3 : Int32)) = (3 : Int32))) :
    MetFree l (⟨"io/watchring/service/ForwardAllowanceBetweenPinLaw", "pick", "(JI)J"⟩ : MethodName) (head1 (Jvm.Cond.code (⟨"io/watchring/service/ForwardAllowanceBetweenPinLaw", "pick", "(JI)J"⟩ : MethodName) method_2_code 4 (some .long) :: ws) ({ frames := 0, cells := 0, slots := 0, locals := 0 } : Room)) (fun a U => a = #[(.long q1), (.int p2)] ∧ Z.Warmed39 U.vm ∧ U.heap = h0) (fun _ _ _ _ _ => True) (fun _ U o U' => ∃ v L, o = .returned v ∧ QP (some (.long q1)) h0 n0 v U'.heap L ∧ FrameEnd U o U' L ({ frames := 0, cells := 0, slots := 0, locals := 0 } : Room).cells ({ frames := 0, cells := 0, slots := 0, locals := 0 } : Room).slots) := by
  refine MetFree.of_bodySF (plainFor_of_name pn_1) hisR ?_
  intro p e s m args below meth c s₁ Bd hml0 hP hK
  obtain ⟨rfl, hZ, hh⟩ := hP
  have hx := Bd.exec
  have hby := Bd.bytes
  have hml : c.maxLocals = 4 := hml0
  have hown : s.vm.findClass "io/watchring/service/ForwardAllowanceBetweenPinLaw" = some m.cls := findClass_of_methodNamed Bd.named
  have hnm := (name_of_methodNamed Bd.named Bd.method).1
  have X0 : Stand p l e ({ frames := 0, cells := 0, slots := 0, locals := 0 } : Room) s m #[(.long q1), (.int p2)] below meth c s₁ [] 0 0 := Stand.of_body Bd
  have e0 : s₁.heap = h0 := by rw [← hh, Bd.state]; rfl
  have N0 := Fr.nil n0
  have pre0 : ∀ t, Steps p.tables e below (s₁.setTop (mkF m 0 #[.val (.long q1), .second, .val (.int p2), .unset] [])) t → Steps p.tables e below (s₁.setTop (entryFrame m #[(.long q1), (.int p2)] 4)) t := fun t k => castTop (ef_1 m q1 p2) k
  obtain ⟨fs, hr, hrun, hended, hW, hsame⟩ := X0.leave (v := some (.long q1)) (fun h => by rw [Bd.returns] at h; cases h)
  refine ⟨_, _, pre0 _ ?_, hrun, hended, _, _, rfl, ?_, ⟨_, rfl⟩, hW, hsame.mono (by decide) (by decide)⟩
  · show Steps p.tables e below (s₁.setTop (mkF m 0 #[.val (.long q1), .second, .val (.int p2), .unset] [])) _
    refine XS.iloadN X0.here hx rfl (hb hby d1_0) rfl ?_
    show Steps p.tables e below (s₁.setTop (mkF m 1 #[.val (.long q1), .second, .val (.int p2), .unset] [(.int p2)])) _
    refine XS.iconst X0.here hx rfl (hb hby d1_1) ?_
    show Steps p.tables e below (s₁.setTop (mkF m 2 #[.val (.long q1), .second, .val (.int p2), .unset] [(.int (3 : Int32)), (.int p2)])) _
    refine XS.iand X0.here hx rfl (hb hby d1_2) rfl ?_
    show Steps p.tables e below (s₁.setTop (mkF m 3 #[.val (.long q1), .second, .val (.int p2), .unset] [(.int (p2 &&& (3 : Int32)))])) _
    refine XS.istoreN X0.here hx rfl (hb hby d1_3) rfl (l' := #[.val (.long q1), .second, .val (.int p2), .val (.int (p2 &&& (3 : Int32)))]) rfl ?_
    show Steps p.tables e below (s₁.setTop (mkF m 4 #[.val (.long q1), .second, .val (.int p2), .val (.int (p2 &&& (3 : Int32)))] [])) _
    refine XS.iloadN X0.here hx rfl (hb hby d1_4) rfl ?_
    show Steps p.tables e below (s₁.setTop (mkF m 5 #[.val (.long q1), .second, .val (.int p2), .val (.int (p2 &&& (3 : Int32)))] [(.int (p2 &&& (3 : Int32)))])) _
    refine XS.iconst X0.here hx rfl (hb hby d1_5) ?_
    show Steps p.tables e below (s₁.setTop (mkF m 6 #[.val (.long q1), .second, .val (.int p2), .val (.int (p2 &&& (3 : Int32)))] [(.int (1 : Int32)), (.int (p2 &&& (3 : Int32)))])) _
    refine XS.icmpYes X0.here hx rfl (pc0 := 6) (pc' := 19) rfl (hb hby d1_6) rfl (feq hc6).2 (by decide) (by decide) ?_
    show Steps p.tables e below (s₁.setTop (mkF m 19 #[.val (.long q1), .second, .val (.int p2), .val (.int (p2 &&& (3 : Int32)))] [])) _
    refine XS.iloadN X0.here hx rfl (hb hby d1_19) rfl ?_
    show Steps p.tables e below (s₁.setTop (mkF m 20 #[.val (.long q1), .second, .val (.int p2), .val (.int (p2 &&& (3 : Int32)))] [(.int (p2 &&& (3 : Int32)))])) _
    refine XS.iconst X0.here hx rfl (hb hby d1_20) ?_
    show Steps p.tables e below (s₁.setTop (mkF m 21 #[.val (.long q1), .second, .val (.int p2), .val (.int (p2 &&& (3 : Int32)))] [(.int (2 : Int32)), (.int (p2 &&& (3 : Int32)))])) _
    refine XS.icmpYes X0.here hx rfl (pc0 := 21) (pc' := 34) rfl (hb hby d1_21) rfl (feq hc21).2 (by decide) (by decide) ?_
    show Steps p.tables e below (s₁.setTop (mkF m 34 #[.val (.long q1), .second, .val (.int p2), .val (.int (p2 &&& (3 : Int32)))] [])) _
    refine XS.iloadN X0.here hx rfl (hb hby d1_34) rfl ?_
    show Steps p.tables e below (s₁.setTop (mkF m 35 #[.val (.long q1), .second, .val (.int p2), .val (.int (p2 &&& (3 : Int32)))] [(.int (p2 &&& (3 : Int32)))])) _
    refine XS.iconst X0.here hx rfl (hb hby d1_35) ?_
    show Steps p.tables e below (s₁.setTop (mkF m 36 #[.val (.long q1), .second, .val (.int p2), .val (.int (p2 &&& (3 : Int32)))] [(.int (3 : Int32)), (.int (p2 &&& (3 : Int32)))])) _
    refine XS.icmpYes X0.here hx rfl (pc0 := 36) (pc' := 49) rfl (hb hby d1_36) rfl (feq hc36).2 (by decide) (by decide) ?_
    show Steps p.tables e below (s₁.setTop (mkF m 49 #[.val (.long q1), .second, .val (.int p2), .val (.int (p2 &&& (3 : Int32)))] [])) _
    refine XS.lloadN X0.here hx rfl (hb hby d1_49) rfl ?_
    show Steps p.tables e below (s₁.setTop (mkF m 50 #[.val (.long q1), .second, .val (.int p2), .val (.int (p2 &&& (3 : Int32)))] [(.long q1)])) _
    jvm_step X0.here [X0.here.top, hx, (hb hby d1_50), X0.method', Bd.returns, narrow]
    first | (intro acts; rw [hr _ acts rfl rfl rfl]) | rw [hr _ _ rfl rfl rfl]
    exact Steps.refl _
  · show QP (some (.long q1)) h0 n0 _ s₁.heap _
    rw [e0]
    exact ⟨rfl, N0, rfl⟩
theorem rm1 (l : Launch) (Z : State) (a0 : Array Value) (hw : ∀ d ∈ tables_1, d.before a0 Z = true) (ws : List Jvm.Cond) (q1 : Int64) (p2 : Int32) (z : Int64) (h0 : Heap) (n0 : Nat) (Z0 : n0 ≤ h0.size) (hr : ((p2 &&& (3 : Int32)) = (0 : Int32) ∧ z = q1) ∨ ((p2 &&& (3 : Int32)) = (1 : Int32) ∧ z = ((-9223372036854775808 : Int64) + (q1 &&& (255 : Int64)))) ∨ ((p2 &&& (3 : Int32)) = (2 : Int32) ∧ z = ((9223372036854775807 : Int64) - (q1 &&& (255 : Int64)))) ∨ ((p2 &&& (3 : Int32)) = (3 : Int32) ∧ z = ((q1 &&& (255 : Int64)) - (128 : Int64)))) :
    MetFree l (⟨"io/watchring/service/ForwardAllowanceBetweenPinLaw", "pick", "(JI)J"⟩ : MethodName) (head1 (Jvm.Cond.code (⟨"io/watchring/service/ForwardAllowanceBetweenPinLaw", "pick", "(JI)J"⟩ : MethodName) method_2_code 4 (some .long) :: ws) ({ frames := 0, cells := 0, slots := 0, locals := 0 } : Room)) (fun a U => a = #[(.long q1), (.int p2)] ∧ Z.Warmed39 U.vm ∧ U.heap = h0) (fun _ _ _ _ _ => True) (fun _ U o U' => ∃ v L, o = .returned v ∧ QP (some (.long z)) h0 n0 v U'.heap L ∧ FrameEnd U o U' L ({ frames := 0, cells := 0, slots := 0, locals := 0 } : Room).cells ({ frames := 0, cells := 0, slots := 0, locals := 0 } : Room).slots) := by
  rcases hr with ⟨h, hz⟩ | ⟨h, hz⟩ | ⟨h, hz⟩ | ⟨h, hz⟩
  · rw [hz]; exact rm1_3 l Z a0 hw ws q1 p2 h0 n0 Z0 (by rw [h] <;> decide) (by rw [h] <;> decide) (by rw [h] <;> decide)
  · rw [hz]; exact rm1_0 l Z a0 hw ws q1 p2 h0 n0 Z0 (by rw [h] <;> decide)
  · rw [hz]; exact rm1_1 l Z a0 hw ws q1 p2 h0 n0 Z0 (by rw [h] <;> decide) (by rw [h] <;> decide)
  · rw [hz]; exact rm1_2 l Z a0 hw ws q1 p2 h0 n0 Z0 (by rw [h] <;> decide) (by rw [h] <;> decide) (by rw [h] <;> decide)
theorem d2_0 : decode prog_89_method_18_code 0 = .ok (.lload_n 2, 1) := by decide +kernel
theorem d2_1 : decode prog_89_method_18_code 1 = .ok (.lload_n 0, 1) := by decide +kernel
theorem d2_2 : decode prog_89_method_18_code 2 = .ok (.lsub, 1) := by decide +kernel
theorem d2_3 : decode prog_89_method_18_code 3 = .ok (.lstore 4, 2) := by decide +kernel
theorem d2_5 : decode prog_89_method_18_code 5 = .ok (.lload_n 2, 1) := by decide +kernel
theorem d2_6 : decode prog_89_method_18_code 6 = .ok (.lload_n 0, 1) := by decide +kernel
theorem d2_7 : decode prog_89_method_18_code 7 = .ok (.lxor, 1) := by decide +kernel
theorem d2_8 : decode prog_89_method_18_code 8 = .ok (.lload_n 2, 1) := by decide +kernel
theorem d2_9 : decode prog_89_method_18_code 9 = .ok (.lload 4, 2) := by decide +kernel
theorem d2_11 : decode prog_89_method_18_code 11 = .ok (.lxor, 1) := by decide +kernel
theorem d2_12 : decode prog_89_method_18_code 12 = .ok (.land, 1) := by decide +kernel
theorem d2_13 : decode prog_89_method_18_code 13 = .ok (.lconst 0, 1) := by decide +kernel
theorem d2_14 : decode prog_89_method_18_code 14 = .ok (.lcmp, 1) := by decide +kernel
theorem d2_15 : decode prog_89_method_18_code 15 = .ok (.ifCond .ge 7, 3) := by decide +kernel
theorem d2_22 : decode prog_89_method_18_code 22 = .ok (.iconst 0, 1) := by decide +kernel
theorem d2_23 : decode prog_89_method_18_code 23 = .ok (.istore 6, 2) := by decide +kernel
theorem d2_25 : decode prog_89_method_18_code 25 = .ok (.iload 6, 2) := by decide +kernel
theorem d2_27 : decode prog_89_method_18_code 27 = .ok (.ifCond .eq 19, 3) := by decide +kernel
theorem d2_46 : decode prog_89_method_18_code 46 = .ok (.lload 4, 2) := by decide +kernel
theorem d2_48 : decode prog_89_method_18_code 48 = .ok (.lreturn, 1) := by decide +kernel
theorem pn_2 : plainName "io/watchring/service/ForwardAllowance" = true := by first | (simp [plainName, overriddenIn]; done) | decide +kernel
theorem ef_2 (m : MethodId) (x0 : Int64) (x1 : Int64) : entryFrame m #[(.long x0), (.long x1)] 7 = mkF m 0 #[.val (.long x0), .second, .val (.long x1), .second, .unset, .unset, .unset] [] := by first | (simp [entryFrame, mkF, argsToLocals, Value.category]; done) | rfl
set_option maxRecDepth 65536 in
set_option maxHeartbeats 40000000 in
theorem rm2_tt (l : Launch) (Z : State) (a0 : Array Value) (hw : ∀ d ∈ tables_1, d.before a0 Z = true) (ws : List Jvm.Cond) (q1 : Int64) (q2 : Int64) (h0 : Heap) (n0 : Nat) (Z0 : n0 ≤ h0.size) (hc15 : ¬ ((lcmpW ((q2 ^^^ q1) &&& (q2 ^^^ (q2 - q1))) (0 : Int64)) < (0 : Int32))) :
    MetFree l (⟨"io/watchring/service/ForwardAllowance", "between", "(JJ)J"⟩ : MethodName) (head1 (Jvm.Cond.code (⟨"io/watchring/service/ForwardAllowance", "between", "(JJ)J"⟩ : MethodName) prog_89_method_18_code 7 (some .long) :: ws) ({ frames := 0, cells := 0, slots := 0, locals := 0 } : Room)) (fun a U => a = #[(.long q1), (.long q2)] ∧ Z.Warmed39 U.vm ∧ U.heap = h0) (fun _ _ _ _ _ => True) (fun _ U o U' => ∃ v L, o = .returned v ∧ QP (some (.long (q2 - q1))) h0 n0 v U'.heap L ∧ FrameEnd U o U' L ({ frames := 0, cells := 0, slots := 0, locals := 0 } : Room).cells ({ frames := 0, cells := 0, slots := 0, locals := 0 } : Room).slots) := by
  refine MetFree.of_bodySF (plainFor_of_name pn_2) hisR ?_
  intro p e s m args below meth c s₁ Bd hml0 hP hK
  obtain ⟨rfl, hZ, hh⟩ := hP
  have hx := Bd.exec
  have hby := Bd.bytes
  have hml : c.maxLocals = 7 := hml0
  have hown : s.vm.findClass "io/watchring/service/ForwardAllowance" = some m.cls := findClass_of_methodNamed Bd.named
  have hnm := (name_of_methodNamed Bd.named Bd.method).1
  have X0 : Stand p l e ({ frames := 0, cells := 0, slots := 0, locals := 0 } : Room) s m #[(.long q1), (.long q2)] below meth c s₁ [] 0 0 := Stand.of_body Bd
  have e0 : s₁.heap = h0 := by rw [← hh, Bd.state]; rfl
  have N0 := Fr.nil n0
  have pre0 : ∀ t, Steps p.tables e below (s₁.setTop (mkF m 0 #[.val (.long q1), .second, .val (.long q2), .second, .unset, .unset, .unset] [])) t → Steps p.tables e below (s₁.setTop (entryFrame m #[(.long q1), (.long q2)] 7)) t := fun t k => castTop (ef_2 m q1 q2) k
  obtain ⟨fs, hr, hrun, hended, hW, hsame⟩ := X0.leave (v := some (.long (q2 - q1))) (fun h => by rw [Bd.returns] at h; cases h)
  refine ⟨_, _, pre0 _ ?_, hrun, hended, _, _, rfl, ?_, ⟨_, rfl⟩, hW, hsame.mono (by decide) (by decide)⟩
  · show Steps p.tables e below (s₁.setTop (mkF m 0 #[.val (.long q1), .second, .val (.long q2), .second, .unset, .unset, .unset] [])) _
    refine XS.lloadN X0.here hx rfl (hb hby d2_0) rfl ?_
    show Steps p.tables e below (s₁.setTop (mkF m 1 #[.val (.long q1), .second, .val (.long q2), .second, .unset, .unset, .unset] [(.long q2)])) _
    refine XS.lloadN X0.here hx rfl (hb hby d2_1) rfl ?_
    show Steps p.tables e below (s₁.setTop (mkF m 2 #[.val (.long q1), .second, .val (.long q2), .second, .unset, .unset, .unset] [(.long q1), (.long q2)])) _
    refine XS.lsub X0.here hx rfl (hb hby d2_2) rfl ?_
    show Steps p.tables e below (s₁.setTop (mkF m 3 #[.val (.long q1), .second, .val (.long q2), .second, .unset, .unset, .unset] [(.long (q2 - q1))])) _
    refine XS.lstore X0.here hx rfl (hb hby d2_3) rfl (l' := #[.val (.long q1), .second, .val (.long q2), .second, .val (.long (q2 - q1)), .second, .unset]) rfl ?_
    show Steps p.tables e below (s₁.setTop (mkF m 5 #[.val (.long q1), .second, .val (.long q2), .second, .val (.long (q2 - q1)), .second, .unset] [])) _
    refine XS.lloadN X0.here hx rfl (hb hby d2_5) rfl ?_
    show Steps p.tables e below (s₁.setTop (mkF m 6 #[.val (.long q1), .second, .val (.long q2), .second, .val (.long (q2 - q1)), .second, .unset] [(.long q2)])) _
    refine XS.lloadN X0.here hx rfl (hb hby d2_6) rfl ?_
    show Steps p.tables e below (s₁.setTop (mkF m 7 #[.val (.long q1), .second, .val (.long q2), .second, .val (.long (q2 - q1)), .second, .unset] [(.long q1), (.long q2)])) _
    refine XS.lxor X0.here hx rfl (hb hby d2_7) rfl ?_
    show Steps p.tables e below (s₁.setTop (mkF m 8 #[.val (.long q1), .second, .val (.long q2), .second, .val (.long (q2 - q1)), .second, .unset] [(.long (q2 ^^^ q1))])) _
    refine XS.lloadN X0.here hx rfl (hb hby d2_8) rfl ?_
    show Steps p.tables e below (s₁.setTop (mkF m 9 #[.val (.long q1), .second, .val (.long q2), .second, .val (.long (q2 - q1)), .second, .unset] [(.long q2), (.long (q2 ^^^ q1))])) _
    refine XS.lload X0.here hx rfl (hb hby d2_9) rfl ?_
    show Steps p.tables e below (s₁.setTop (mkF m 11 #[.val (.long q1), .second, .val (.long q2), .second, .val (.long (q2 - q1)), .second, .unset] [(.long (q2 - q1)), (.long q2), (.long (q2 ^^^ q1))])) _
    refine XS.lxor X0.here hx rfl (hb hby d2_11) rfl ?_
    show Steps p.tables e below (s₁.setTop (mkF m 12 #[.val (.long q1), .second, .val (.long q2), .second, .val (.long (q2 - q1)), .second, .unset] [(.long (q2 ^^^ (q2 - q1))), (.long (q2 ^^^ q1))])) _
    refine XS.land X0.here hx rfl (hb hby d2_12) rfl ?_
    show Steps p.tables e below (s₁.setTop (mkF m 13 #[.val (.long q1), .second, .val (.long q2), .second, .val (.long (q2 - q1)), .second, .unset] [(.long ((q2 ^^^ q1) &&& (q2 ^^^ (q2 - q1))))])) _
    refine XS.lconst X0.here hx rfl (hb hby d2_13) ?_
    show Steps p.tables e below (s₁.setTop (mkF m 14 #[.val (.long q1), .second, .val (.long q2), .second, .val (.long (q2 - q1)), .second, .unset] [(.long (0 : Int64)), (.long ((q2 ^^^ q1) &&& (q2 ^^^ (q2 - q1))))])) _
    refine XS.lcmp X0.here hx rfl (hb hby d2_14) rfl ?_
    show Steps p.tables e below (s₁.setTop (mkF m 15 #[.val (.long q1), .second, .val (.long q2), .second, .val (.long (q2 - q1)), .second, .unset] [(.int (lcmpW ((q2 ^^^ q1) &&& (q2 ^^^ (q2 - q1))) (0 : Int64)))])) _
    refine XS.ifYes X0.here hx rfl (pc0 := 15) (pc' := 22) rfl (hb hby d2_15) rfl ((if0 _ _).trans (flt hc15).2.1) (by decide) (by decide) ?_
    show Steps p.tables e below (s₁.setTop (mkF m 22 #[.val (.long q1), .second, .val (.long q2), .second, .val (.long (q2 - q1)), .second, .unset] [])) _
    refine XS.iconst X0.here hx rfl (hb hby d2_22) ?_
    show Steps p.tables e below (s₁.setTop (mkF m 23 #[.val (.long q1), .second, .val (.long q2), .second, .val (.long (q2 - q1)), .second, .unset] [(.int (0 : Int32))])) _
    refine XS.istore X0.here hx rfl (hb hby d2_23) rfl (l' := #[.val (.long q1), .second, .val (.long q2), .second, .val (.long (q2 - q1)), .second, .val (.int (0 : Int32))]) rfl ?_
    show Steps p.tables e below (s₁.setTop (mkF m 25 #[.val (.long q1), .second, .val (.long q2), .second, .val (.long (q2 - q1)), .second, .val (.int (0 : Int32))] [])) _
    refine XS.iload X0.here hx rfl (hb hby d2_25) rfl ?_
    show Steps p.tables e below (s₁.setTop (mkF m 27 #[.val (.long q1), .second, .val (.long q2), .second, .val (.long (q2 - q1)), .second, .val (.int (0 : Int32))] [(.int (0 : Int32))])) _
    refine XS.ifYes X0.here hx rfl (pc0 := 27) (pc' := 46) rfl (hb hby d2_27) rfl ((if0 _ _).trans (teq (rfl : (0 : Int32) = (0 : Int32))).1) (by decide) (by decide) ?_
    show Steps p.tables e below (s₁.setTop (mkF m 46 #[.val (.long q1), .second, .val (.long q2), .second, .val (.long (q2 - q1)), .second, .val (.int (0 : Int32))] [])) _
    refine XS.lload X0.here hx rfl (hb hby d2_46) rfl ?_
    show Steps p.tables e below (s₁.setTop (mkF m 48 #[.val (.long q1), .second, .val (.long q2), .second, .val (.long (q2 - q1)), .second, .val (.int (0 : Int32))] [(.long (q2 - q1))])) _
    jvm_step X0.here [X0.here.top, hx, (hb hby d2_48), X0.method', Bd.returns, narrow]
    first | (intro acts; rw [hr _ acts rfl rfl rfl]) | rw [hr _ _ rfl rfl rfl]
    exact Steps.refl _
  · show QP (some (.long (q2 - q1))) h0 n0 _ s₁.heap _
    rw [e0]
    exact ⟨rfl, N0, rfl⟩
theorem d2_18 : decode prog_89_method_18_code 18 = .ok (.iconst 1, 1) := by decide +kernel
theorem d2_19 : decode prog_89_method_18_code 19 = .ok (.goto 4, 3) := by decide +kernel
theorem d2_30 : decode prog_89_method_18_code 30 = .ok (.lload_n 2, 1) := by decide +kernel
theorem d2_31 : decode prog_89_method_18_code 31 = .ok (.lload_n 0, 1) := by decide +kernel
theorem d2_32 : decode prog_89_method_18_code 32 = .ok (.lcmp, 1) := by decide +kernel
theorem d2_33 : decode prog_89_method_18_code 33 = .ok (.ifCond .ge 9, 3) := by decide +kernel
theorem d2_36 : decode prog_89_method_18_code 36 = .ok (.ldc2_w 228, 3) := by decide +kernel
theorem d2_39 : decode prog_89_method_18_code 39 = .ok (.goto 6, 3) := by decide +kernel
theorem d2_45 : decode prog_89_method_18_code 45 = .ok (.lreturn, 1) := by decide +kernel
set_option maxRecDepth 65536 in
set_option maxHeartbeats 40000000 in
theorem rm2_fff (l : Launch) (Z : State) (a0 : Array Value) (hw : ∀ d ∈ tables_1, d.before a0 Z = true) (ws : List Jvm.Cond) (q1 : Int64) (q2 : Int64) (h0 : Heap) (n0 : Nat) (Z0 : n0 ≤ h0.size) (hc15 : (lcmpW ((q2 ^^^ q1) &&& (q2 ^^^ (q2 - q1))) (0 : Int64)) < (0 : Int32)) (hc27 : ¬ ((1 : Int32) = (0 : Int32))) (hc33 : (lcmpW q2 q1) < (0 : Int32)) :
    MetFree l (⟨"io/watchring/service/ForwardAllowance", "between", "(JJ)J"⟩ : MethodName) (head1 (Jvm.Cond.code (⟨"io/watchring/service/ForwardAllowance", "between", "(JJ)J"⟩ : MethodName) prog_89_method_18_code 7 (some .long) :: ws) ({ frames := 0, cells := 0, slots := 0, locals := 0 } : Room)) (fun a U => a = #[(.long q1), (.long q2)] ∧ Z.Warmed39 U.vm ∧ U.heap = h0) (fun _ _ _ _ _ => True) (fun _ U o U' => ∃ v L, o = .returned v ∧ QP (some (.long (-9223372036854775808 : Int64))) h0 n0 v U'.heap L ∧ FrameEnd U o U' L ({ frames := 0, cells := 0, slots := 0, locals := 0 } : Room).cells ({ frames := 0, cells := 0, slots := 0, locals := 0 } : Room).slots) := by
  refine MetFree.of_bodySF (plainFor_of_name pn_2) hisR ?_
  intro p e s m args below meth c s₁ Bd hml0 hP hK
  obtain ⟨rfl, hZ, hh⟩ := hP
  have hx := Bd.exec
  have hby := Bd.bytes
  have hml : c.maxLocals = 7 := hml0
  have hown : s.vm.findClass "io/watchring/service/ForwardAllowance" = some m.cls := findClass_of_methodNamed Bd.named
  have hnm := (name_of_methodNamed Bd.named Bd.method).1
  have X0 : Stand p l e ({ frames := 0, cells := 0, slots := 0, locals := 0 } : Room) s m #[(.long q1), (.long q2)] below meth c s₁ [] 0 0 := Stand.of_body Bd
  have e0 : s₁.heap = h0 := by rw [← hh, Bd.state]; rfl
  have N0 := Fr.nil n0
  have pre0 : ∀ t, Steps p.tables e below (s₁.setTop (mkF m 0 #[.val (.long q1), .second, .val (.long q2), .second, .unset, .unset, .unset] [])) t → Steps p.tables e below (s₁.setTop (entryFrame m #[(.long q1), (.long q2)] 7)) t := fun t k => castTop (ef_2 m q1 q2) k
  obtain ⟨fs, hr, hrun, hended, hW, hsame⟩ := X0.leave (v := some (.long (-9223372036854775808 : Int64))) (fun h => by rw [Bd.returns] at h; cases h)
  refine ⟨_, _, pre0 _ ?_, hrun, hended, _, _, rfl, ?_, ⟨_, rfl⟩, hW, hsame.mono (by decide) (by decide)⟩
  · show Steps p.tables e below (s₁.setTop (mkF m 0 #[.val (.long q1), .second, .val (.long q2), .second, .unset, .unset, .unset] [])) _
    refine XS.lloadN X0.here hx rfl (hb hby d2_0) rfl ?_
    show Steps p.tables e below (s₁.setTop (mkF m 1 #[.val (.long q1), .second, .val (.long q2), .second, .unset, .unset, .unset] [(.long q2)])) _
    refine XS.lloadN X0.here hx rfl (hb hby d2_1) rfl ?_
    show Steps p.tables e below (s₁.setTop (mkF m 2 #[.val (.long q1), .second, .val (.long q2), .second, .unset, .unset, .unset] [(.long q1), (.long q2)])) _
    refine XS.lsub X0.here hx rfl (hb hby d2_2) rfl ?_
    show Steps p.tables e below (s₁.setTop (mkF m 3 #[.val (.long q1), .second, .val (.long q2), .second, .unset, .unset, .unset] [(.long (q2 - q1))])) _
    refine XS.lstore X0.here hx rfl (hb hby d2_3) rfl (l' := #[.val (.long q1), .second, .val (.long q2), .second, .val (.long (q2 - q1)), .second, .unset]) rfl ?_
    show Steps p.tables e below (s₁.setTop (mkF m 5 #[.val (.long q1), .second, .val (.long q2), .second, .val (.long (q2 - q1)), .second, .unset] [])) _
    refine XS.lloadN X0.here hx rfl (hb hby d2_5) rfl ?_
    show Steps p.tables e below (s₁.setTop (mkF m 6 #[.val (.long q1), .second, .val (.long q2), .second, .val (.long (q2 - q1)), .second, .unset] [(.long q2)])) _
    refine XS.lloadN X0.here hx rfl (hb hby d2_6) rfl ?_
    show Steps p.tables e below (s₁.setTop (mkF m 7 #[.val (.long q1), .second, .val (.long q2), .second, .val (.long (q2 - q1)), .second, .unset] [(.long q1), (.long q2)])) _
    refine XS.lxor X0.here hx rfl (hb hby d2_7) rfl ?_
    show Steps p.tables e below (s₁.setTop (mkF m 8 #[.val (.long q1), .second, .val (.long q2), .second, .val (.long (q2 - q1)), .second, .unset] [(.long (q2 ^^^ q1))])) _
    refine XS.lloadN X0.here hx rfl (hb hby d2_8) rfl ?_
    show Steps p.tables e below (s₁.setTop (mkF m 9 #[.val (.long q1), .second, .val (.long q2), .second, .val (.long (q2 - q1)), .second, .unset] [(.long q2), (.long (q2 ^^^ q1))])) _
    refine XS.lload X0.here hx rfl (hb hby d2_9) rfl ?_
    show Steps p.tables e below (s₁.setTop (mkF m 11 #[.val (.long q1), .second, .val (.long q2), .second, .val (.long (q2 - q1)), .second, .unset] [(.long (q2 - q1)), (.long q2), (.long (q2 ^^^ q1))])) _
    refine XS.lxor X0.here hx rfl (hb hby d2_11) rfl ?_
    show Steps p.tables e below (s₁.setTop (mkF m 12 #[.val (.long q1), .second, .val (.long q2), .second, .val (.long (q2 - q1)), .second, .unset] [(.long (q2 ^^^ (q2 - q1))), (.long (q2 ^^^ q1))])) _
    refine XS.land X0.here hx rfl (hb hby d2_12) rfl ?_
    show Steps p.tables e below (s₁.setTop (mkF m 13 #[.val (.long q1), .second, .val (.long q2), .second, .val (.long (q2 - q1)), .second, .unset] [(.long ((q2 ^^^ q1) &&& (q2 ^^^ (q2 - q1))))])) _
    refine XS.lconst X0.here hx rfl (hb hby d2_13) ?_
    show Steps p.tables e below (s₁.setTop (mkF m 14 #[.val (.long q1), .second, .val (.long q2), .second, .val (.long (q2 - q1)), .second, .unset] [(.long (0 : Int64)), (.long ((q2 ^^^ q1) &&& (q2 ^^^ (q2 - q1))))])) _
    refine XS.lcmp X0.here hx rfl (hb hby d2_14) rfl ?_
    show Steps p.tables e below (s₁.setTop (mkF m 15 #[.val (.long q1), .second, .val (.long q2), .second, .val (.long (q2 - q1)), .second, .unset] [(.int (lcmpW ((q2 ^^^ q1) &&& (q2 ^^^ (q2 - q1))) (0 : Int64)))])) _
    refine XS.ifNo X0.here hx rfl (hb hby d2_15) rfl ((if0 _ _).trans (tlt hc15).2.1) ?_
    show Steps p.tables e below (s₁.setTop (mkF m 18 #[.val (.long q1), .second, .val (.long q2), .second, .val (.long (q2 - q1)), .second, .unset] [])) _
    refine XS.iconst X0.here hx rfl (hb hby d2_18) ?_
    show Steps p.tables e below (s₁.setTop (mkF m 19 #[.val (.long q1), .second, .val (.long q2), .second, .val (.long (q2 - q1)), .second, .unset] [(.int (1 : Int32))])) _
    refine XS.goto X0.here hx rfl (pc0 := 19) (pc' := 23) rfl (hb hby d2_19) (by decide) (by decide) ?_
    show Steps p.tables e below (s₁.setTop (mkF m 23 #[.val (.long q1), .second, .val (.long q2), .second, .val (.long (q2 - q1)), .second, .unset] [(.int (1 : Int32))])) _
    refine XS.istore X0.here hx rfl (hb hby d2_23) rfl (l' := #[.val (.long q1), .second, .val (.long q2), .second, .val (.long (q2 - q1)), .second, .val (.int (1 : Int32))]) rfl ?_
    show Steps p.tables e below (s₁.setTop (mkF m 25 #[.val (.long q1), .second, .val (.long q2), .second, .val (.long (q2 - q1)), .second, .val (.int (1 : Int32))] [])) _
    refine XS.iload X0.here hx rfl (hb hby d2_25) rfl ?_
    show Steps p.tables e below (s₁.setTop (mkF m 27 #[.val (.long q1), .second, .val (.long q2), .second, .val (.long (q2 - q1)), .second, .val (.int (1 : Int32))] [(.int (1 : Int32))])) _
    refine XS.ifNo X0.here hx rfl (hb hby d2_27) rfl ((if0 _ _).trans (feq hc27).1) ?_
    show Steps p.tables e below (s₁.setTop (mkF m 30 #[.val (.long q1), .second, .val (.long q2), .second, .val (.long (q2 - q1)), .second, .val (.int (1 : Int32))] [])) _
    refine XS.lloadN X0.here hx rfl (hb hby d2_30) rfl ?_
    show Steps p.tables e below (s₁.setTop (mkF m 31 #[.val (.long q1), .second, .val (.long q2), .second, .val (.long (q2 - q1)), .second, .val (.int (1 : Int32))] [(.long q2)])) _
    refine XS.lloadN X0.here hx rfl (hb hby d2_31) rfl ?_
    show Steps p.tables e below (s₁.setTop (mkF m 32 #[.val (.long q1), .second, .val (.long q2), .second, .val (.long (q2 - q1)), .second, .val (.int (1 : Int32))] [(.long q1), (.long q2)])) _
    refine XS.lcmp X0.here hx rfl (hb hby d2_32) rfl ?_
    show Steps p.tables e below (s₁.setTop (mkF m 33 #[.val (.long q1), .second, .val (.long q2), .second, .val (.long (q2 - q1)), .second, .val (.int (1 : Int32))] [(.int (lcmpW q2 q1))])) _
    refine XS.ifNo X0.here hx rfl (hb hby d2_33) rfl ((if0 _ _).trans (tlt hc33).2.1) ?_
    show Steps p.tables e below (s₁.setTop (mkF m 36 #[.val (.long q1), .second, .val (.long q2), .second, .val (.long (q2 - q1)), .second, .val (.int (1 : Int32))] [])) _
    refine X0.ldc2Long hx hown (mvT hZ (hw _ (List.mem_of_getElem? (i := 13) rfl))) (g := (mkF m 36 #[.val (.long q1), .second, .val (.long q2), .second, .val (.long (q2 - q1)), .second, .val (.int (1 : Int32))] [])) rfl (hb hby d2_36) _ ?_
    show Steps p.tables e below (s₁.setTop (mkF m 39 #[.val (.long q1), .second, .val (.long q2), .second, .val (.long (q2 - q1)), .second, .val (.int (1 : Int32))] [(.long (-9223372036854775808 : Int64))])) _
    refine XS.goto X0.here hx rfl (pc0 := 39) (pc' := 45) rfl (hb hby d2_39) (by decide) (by decide) ?_
    show Steps p.tables e below (s₁.setTop (mkF m 45 #[.val (.long q1), .second, .val (.long q2), .second, .val (.long (q2 - q1)), .second, .val (.int (1 : Int32))] [(.long (-9223372036854775808 : Int64))])) _
    jvm_step X0.here [X0.here.top, hx, (hb hby d2_45), X0.method', Bd.returns, narrow]
    first | (intro acts; rw [hr _ acts rfl rfl rfl]) | rw [hr _ _ rfl rfl rfl]
    exact Steps.refl _
  · show QP (some (.long (-9223372036854775808 : Int64))) h0 n0 _ s₁.heap _
    rw [e0]
    exact ⟨rfl, N0, rfl⟩
theorem d2_42 : decode prog_89_method_18_code 42 = .ok (.ldc2_w 230, 3) := by decide +kernel
set_option maxRecDepth 65536 in
set_option maxHeartbeats 40000000 in
theorem rm2_fft (l : Launch) (Z : State) (a0 : Array Value) (hw : ∀ d ∈ tables_1, d.before a0 Z = true) (ws : List Jvm.Cond) (q1 : Int64) (q2 : Int64) (h0 : Heap) (n0 : Nat) (Z0 : n0 ≤ h0.size) (hc15 : (lcmpW ((q2 ^^^ q1) &&& (q2 ^^^ (q2 - q1))) (0 : Int64)) < (0 : Int32)) (hc27 : ¬ ((1 : Int32) = (0 : Int32))) (hc33 : ¬ ((lcmpW q2 q1) < (0 : Int32))) :
    MetFree l (⟨"io/watchring/service/ForwardAllowance", "between", "(JJ)J"⟩ : MethodName) (head1 (Jvm.Cond.code (⟨"io/watchring/service/ForwardAllowance", "between", "(JJ)J"⟩ : MethodName) prog_89_method_18_code 7 (some .long) :: ws) ({ frames := 0, cells := 0, slots := 0, locals := 0 } : Room)) (fun a U => a = #[(.long q1), (.long q2)] ∧ Z.Warmed39 U.vm ∧ U.heap = h0) (fun _ _ _ _ _ => True) (fun _ U o U' => ∃ v L, o = .returned v ∧ QP (some (.long (9223372036854775807 : Int64))) h0 n0 v U'.heap L ∧ FrameEnd U o U' L ({ frames := 0, cells := 0, slots := 0, locals := 0 } : Room).cells ({ frames := 0, cells := 0, slots := 0, locals := 0 } : Room).slots) := by
  refine MetFree.of_bodySF (plainFor_of_name pn_2) hisR ?_
  intro p e s m args below meth c s₁ Bd hml0 hP hK
  obtain ⟨rfl, hZ, hh⟩ := hP
  have hx := Bd.exec
  have hby := Bd.bytes
  have hml : c.maxLocals = 7 := hml0
  have hown : s.vm.findClass "io/watchring/service/ForwardAllowance" = some m.cls := findClass_of_methodNamed Bd.named
  have hnm := (name_of_methodNamed Bd.named Bd.method).1
  have X0 : Stand p l e ({ frames := 0, cells := 0, slots := 0, locals := 0 } : Room) s m #[(.long q1), (.long q2)] below meth c s₁ [] 0 0 := Stand.of_body Bd
  have e0 : s₁.heap = h0 := by rw [← hh, Bd.state]; rfl
  have N0 := Fr.nil n0
  have pre0 : ∀ t, Steps p.tables e below (s₁.setTop (mkF m 0 #[.val (.long q1), .second, .val (.long q2), .second, .unset, .unset, .unset] [])) t → Steps p.tables e below (s₁.setTop (entryFrame m #[(.long q1), (.long q2)] 7)) t := fun t k => castTop (ef_2 m q1 q2) k
  obtain ⟨fs, hr, hrun, hended, hW, hsame⟩ := X0.leave (v := some (.long (9223372036854775807 : Int64))) (fun h => by rw [Bd.returns] at h; cases h)
  refine ⟨_, _, pre0 _ ?_, hrun, hended, _, _, rfl, ?_, ⟨_, rfl⟩, hW, hsame.mono (by decide) (by decide)⟩
  · show Steps p.tables e below (s₁.setTop (mkF m 0 #[.val (.long q1), .second, .val (.long q2), .second, .unset, .unset, .unset] [])) _
    refine XS.lloadN X0.here hx rfl (hb hby d2_0) rfl ?_
    show Steps p.tables e below (s₁.setTop (mkF m 1 #[.val (.long q1), .second, .val (.long q2), .second, .unset, .unset, .unset] [(.long q2)])) _
    refine XS.lloadN X0.here hx rfl (hb hby d2_1) rfl ?_
    show Steps p.tables e below (s₁.setTop (mkF m 2 #[.val (.long q1), .second, .val (.long q2), .second, .unset, .unset, .unset] [(.long q1), (.long q2)])) _
    refine XS.lsub X0.here hx rfl (hb hby d2_2) rfl ?_
    show Steps p.tables e below (s₁.setTop (mkF m 3 #[.val (.long q1), .second, .val (.long q2), .second, .unset, .unset, .unset] [(.long (q2 - q1))])) _
    refine XS.lstore X0.here hx rfl (hb hby d2_3) rfl (l' := #[.val (.long q1), .second, .val (.long q2), .second, .val (.long (q2 - q1)), .second, .unset]) rfl ?_
    show Steps p.tables e below (s₁.setTop (mkF m 5 #[.val (.long q1), .second, .val (.long q2), .second, .val (.long (q2 - q1)), .second, .unset] [])) _
    refine XS.lloadN X0.here hx rfl (hb hby d2_5) rfl ?_
    show Steps p.tables e below (s₁.setTop (mkF m 6 #[.val (.long q1), .second, .val (.long q2), .second, .val (.long (q2 - q1)), .second, .unset] [(.long q2)])) _
    refine XS.lloadN X0.here hx rfl (hb hby d2_6) rfl ?_
    show Steps p.tables e below (s₁.setTop (mkF m 7 #[.val (.long q1), .second, .val (.long q2), .second, .val (.long (q2 - q1)), .second, .unset] [(.long q1), (.long q2)])) _
    refine XS.lxor X0.here hx rfl (hb hby d2_7) rfl ?_
    show Steps p.tables e below (s₁.setTop (mkF m 8 #[.val (.long q1), .second, .val (.long q2), .second, .val (.long (q2 - q1)), .second, .unset] [(.long (q2 ^^^ q1))])) _
    refine XS.lloadN X0.here hx rfl (hb hby d2_8) rfl ?_
    show Steps p.tables e below (s₁.setTop (mkF m 9 #[.val (.long q1), .second, .val (.long q2), .second, .val (.long (q2 - q1)), .second, .unset] [(.long q2), (.long (q2 ^^^ q1))])) _
    refine XS.lload X0.here hx rfl (hb hby d2_9) rfl ?_
    show Steps p.tables e below (s₁.setTop (mkF m 11 #[.val (.long q1), .second, .val (.long q2), .second, .val (.long (q2 - q1)), .second, .unset] [(.long (q2 - q1)), (.long q2), (.long (q2 ^^^ q1))])) _
    refine XS.lxor X0.here hx rfl (hb hby d2_11) rfl ?_
    show Steps p.tables e below (s₁.setTop (mkF m 12 #[.val (.long q1), .second, .val (.long q2), .second, .val (.long (q2 - q1)), .second, .unset] [(.long (q2 ^^^ (q2 - q1))), (.long (q2 ^^^ q1))])) _
    refine XS.land X0.here hx rfl (hb hby d2_12) rfl ?_
    show Steps p.tables e below (s₁.setTop (mkF m 13 #[.val (.long q1), .second, .val (.long q2), .second, .val (.long (q2 - q1)), .second, .unset] [(.long ((q2 ^^^ q1) &&& (q2 ^^^ (q2 - q1))))])) _
    refine XS.lconst X0.here hx rfl (hb hby d2_13) ?_
    show Steps p.tables e below (s₁.setTop (mkF m 14 #[.val (.long q1), .second, .val (.long q2), .second, .val (.long (q2 - q1)), .second, .unset] [(.long (0 : Int64)), (.long ((q2 ^^^ q1) &&& (q2 ^^^ (q2 - q1))))])) _
    refine XS.lcmp X0.here hx rfl (hb hby d2_14) rfl ?_
    show Steps p.tables e below (s₁.setTop (mkF m 15 #[.val (.long q1), .second, .val (.long q2), .second, .val (.long (q2 - q1)), .second, .unset] [(.int (lcmpW ((q2 ^^^ q1) &&& (q2 ^^^ (q2 - q1))) (0 : Int64)))])) _
    refine XS.ifNo X0.here hx rfl (hb hby d2_15) rfl ((if0 _ _).trans (tlt hc15).2.1) ?_
    show Steps p.tables e below (s₁.setTop (mkF m 18 #[.val (.long q1), .second, .val (.long q2), .second, .val (.long (q2 - q1)), .second, .unset] [])) _
    refine XS.iconst X0.here hx rfl (hb hby d2_18) ?_
    show Steps p.tables e below (s₁.setTop (mkF m 19 #[.val (.long q1), .second, .val (.long q2), .second, .val (.long (q2 - q1)), .second, .unset] [(.int (1 : Int32))])) _
    refine XS.goto X0.here hx rfl (pc0 := 19) (pc' := 23) rfl (hb hby d2_19) (by decide) (by decide) ?_
    show Steps p.tables e below (s₁.setTop (mkF m 23 #[.val (.long q1), .second, .val (.long q2), .second, .val (.long (q2 - q1)), .second, .unset] [(.int (1 : Int32))])) _
    refine XS.istore X0.here hx rfl (hb hby d2_23) rfl (l' := #[.val (.long q1), .second, .val (.long q2), .second, .val (.long (q2 - q1)), .second, .val (.int (1 : Int32))]) rfl ?_
    show Steps p.tables e below (s₁.setTop (mkF m 25 #[.val (.long q1), .second, .val (.long q2), .second, .val (.long (q2 - q1)), .second, .val (.int (1 : Int32))] [])) _
    refine XS.iload X0.here hx rfl (hb hby d2_25) rfl ?_
    show Steps p.tables e below (s₁.setTop (mkF m 27 #[.val (.long q1), .second, .val (.long q2), .second, .val (.long (q2 - q1)), .second, .val (.int (1 : Int32))] [(.int (1 : Int32))])) _
    refine XS.ifNo X0.here hx rfl (hb hby d2_27) rfl ((if0 _ _).trans (feq hc27).1) ?_
    show Steps p.tables e below (s₁.setTop (mkF m 30 #[.val (.long q1), .second, .val (.long q2), .second, .val (.long (q2 - q1)), .second, .val (.int (1 : Int32))] [])) _
    refine XS.lloadN X0.here hx rfl (hb hby d2_30) rfl ?_
    show Steps p.tables e below (s₁.setTop (mkF m 31 #[.val (.long q1), .second, .val (.long q2), .second, .val (.long (q2 - q1)), .second, .val (.int (1 : Int32))] [(.long q2)])) _
    refine XS.lloadN X0.here hx rfl (hb hby d2_31) rfl ?_
    show Steps p.tables e below (s₁.setTop (mkF m 32 #[.val (.long q1), .second, .val (.long q2), .second, .val (.long (q2 - q1)), .second, .val (.int (1 : Int32))] [(.long q1), (.long q2)])) _
    refine XS.lcmp X0.here hx rfl (hb hby d2_32) rfl ?_
    show Steps p.tables e below (s₁.setTop (mkF m 33 #[.val (.long q1), .second, .val (.long q2), .second, .val (.long (q2 - q1)), .second, .val (.int (1 : Int32))] [(.int (lcmpW q2 q1))])) _
    refine XS.ifYes X0.here hx rfl (pc0 := 33) (pc' := 42) rfl (hb hby d2_33) rfl ((if0 _ _).trans (flt hc33).2.1) (by decide) (by decide) ?_
    show Steps p.tables e below (s₁.setTop (mkF m 42 #[.val (.long q1), .second, .val (.long q2), .second, .val (.long (q2 - q1)), .second, .val (.int (1 : Int32))] [])) _
    refine X0.ldc2Long hx hown (mvT hZ (hw _ (List.mem_of_getElem? (i := 12) rfl))) (g := (mkF m 42 #[.val (.long q1), .second, .val (.long q2), .second, .val (.long (q2 - q1)), .second, .val (.int (1 : Int32))] [])) rfl (hb hby d2_42) _ ?_
    show Steps p.tables e below (s₁.setTop (mkF m 45 #[.val (.long q1), .second, .val (.long q2), .second, .val (.long (q2 - q1)), .second, .val (.int (1 : Int32))] [(.long (9223372036854775807 : Int64))])) _
    jvm_step X0.here [X0.here.top, hx, (hb hby d2_45), X0.method', Bd.returns, narrow]
    first | (intro acts; rw [hr _ acts rfl rfl rfl]) | rw [hr _ _ rfl rfl rfl]
    exact Steps.refl _
  · show QP (some (.long (9223372036854775807 : Int64))) h0 n0 _ s₁.heap _
    rw [e0]
    exact ⟨rfl, N0, rfl⟩
theorem rm2 (l : Launch) (Z : State) (a0 : Array Value) (hw : ∀ d ∈ tables_1, d.before a0 Z = true) (ws : List Jvm.Cond) (q1 : Int64) (q2 : Int64) (z : Int64) (h0 : Heap) (n0 : Nat) (Z0 : n0 ≤ h0.size) (hz : (¬ ((q2 ^^^ q1) &&& (q2 ^^^ (q2 - q1))) < 0 ∧ z = q2 - q1) ∨ (((q2 ^^^ q1) &&& (q2 ^^^ (q2 - q1))) < 0 ∧ q2 < q1 ∧ z = (-9223372036854775808 : Int64)) ∨ (((q2 ^^^ q1) &&& (q2 ^^^ (q2 - q1))) < 0 ∧ ¬ q2 < q1 ∧ z = (9223372036854775807 : Int64))) :
    MetFree l (⟨"io/watchring/service/ForwardAllowance", "between", "(JJ)J"⟩ : MethodName) (head1 (Jvm.Cond.code (⟨"io/watchring/service/ForwardAllowance", "between", "(JJ)J"⟩ : MethodName) prog_89_method_18_code 7 (some .long) :: ws) ({ frames := 0, cells := 0, slots := 0, locals := 0 } : Room)) (fun a U => a = #[(.long q1), (.long q2)] ∧ Z.Warmed39 U.vm ∧ U.heap = h0) (fun _ _ _ _ _ => True) (fun _ U o U' => ∃ v L, o = .returned v ∧ QP (some (.long z)) h0 n0 v U'.heap L ∧ FrameEnd U o U' L ({ frames := 0, cells := 0, slots := 0, locals := 0 } : Room).cells ({ frames := 0, cells := 0, slots := 0, locals := 0 } : Room).slots) := by
  rcases hz with ⟨h, hz⟩ | ⟨h, h', hz⟩ | ⟨h, h', hz⟩
  · rw [hz]; exact rm2_tt l Z a0 hw ws q1 q2 h0 n0 Z0 (fun q => h ((lw_lt _ _).mp q))
  · rw [hz]; exact rm2_fff l Z a0 hw ws q1 q2 h0 n0 Z0 ((lw_lt _ _).mpr h) (by decide) ((lw_lt _ _).mpr h')
  · rw [hz]; exact rm2_fft l Z a0 hw ws q1 q2 h0 n0 Z0 ((lw_lt _ _).mpr h) (by decide) (fun q => h' ((lw_lt _ _).mp q))
theorem pn_0 : plainName "io/watchring/service/ForwardAllowanceBetweenPinLaw" = true := by first | (simp [plainName, overriddenIn]; done) | decide +kernel
theorem pd_0_0 : parseMethodDescriptor "(JI)J" = some ⟨[.long, .int], some .long⟩ := by decide +kernel
theorem pd_0_1 : parseMethodDescriptor "(JJ)J" = some ⟨[.long, .long], some .long⟩ := by decide +kernel
theorem ef_0 (m : MethodId) (x0 : Int64) (x1 : Int64) (x2 : Int32) : entryFrame m #[(.long x0), (.long x1), (.int x2)] maxLocals = mkF m 0 #[.val (.long x0), .second, .val (.long x1), .second, .val (.int x2), .unset, .unset, .unset, .unset, .unset, .unset, .unset, .unset] [] := by first | (simp [entryFrame, mkF, argsToLocals, Value.category, maxLocals]; done) | rfl
set_option maxRecDepth 65536 in
set_option maxHeartbeats 40000000 in
theorem rm0_a (l : Launch) (Z : State) (a0 : Array Value) (hw : ∀ d ∈ tables_1, d.before a0 Z = true) (ws : List Jvm.Cond) (q1 : Int64) (q2 : Int64) (p3 : Int32) (z1 z2 : Int64) (h0 : Heap) (n0 : Nat) (Z0 : n0 ≤ h0.size) (hr1 : ((p3 &&& (3 : Int32)) = (0 : Int32) ∧ z1 = q1) ∨ ((p3 &&& (3 : Int32)) = (1 : Int32) ∧ z1 = ((-9223372036854775808 : Int64) + (q1 &&& (255 : Int64)))) ∨ ((p3 &&& (3 : Int32)) = (2 : Int32) ∧ z1 = ((9223372036854775807 : Int64) - (q1 &&& (255 : Int64)))) ∨ ((p3 &&& (3 : Int32)) = (3 : Int32) ∧ z1 = ((q1 &&& (255 : Int64)) - (128 : Int64)))) (hr2 : (((p3 >>> ((2 : Int32) &&& 31)) &&& (3 : Int32)) = (0 : Int32) ∧ z2 = q2) ∨ (((p3 >>> ((2 : Int32) &&& 31)) &&& (3 : Int32)) = (1 : Int32) ∧ z2 = ((-9223372036854775808 : Int64) + (q2 &&& (255 : Int64)))) ∨ (((p3 >>> ((2 : Int32) &&& 31)) &&& (3 : Int32)) = (2 : Int32) ∧ z2 = ((9223372036854775807 : Int64) - (q2 &&& (255 : Int64)))) ∨ (((p3 >>> ((2 : Int32) &&& 31)) &&& (3 : Int32)) = (3 : Int32) ∧ z2 = ((q2 &&& (255 : Int64)) - (128 : Int64)))) (hz : (¬ ((z2 ^^^ z1) &&& (z2 ^^^ (z2 - z1))) < 0 ∧ (z2 - z1) = z2 - z1) ∨ (((z2 ^^^ z1) &&& (z2 ^^^ (z2 - z1))) < 0 ∧ z2 < z1 ∧ (z2 - z1) = (-9223372036854775808 : Int64)) ∨ (((z2 ^^^ z1) &&& (z2 ^^^ (z2 - z1))) < 0 ∧ ¬ z2 < z1 ∧ (z2 - z1) = (9223372036854775807 : Int64))) (hc30 : ¬ ((lcmpW z2 z1) < (0 : Int32))) (hc37 : ¬ ((lcmpW (z2 - z1) (0 : Int64)) < (0 : Int32))) (hc80 : (lcmpW (z2 - z1) (z2 - z1)) = (0 : Int32)) :
    MetFree l x (head1 (Jvm.Cond.code x code maxLocals ret :: ws) room_1) (fun a U => a = #[(.long q1), (.long q2), (.int p3)] ∧ Z.Warmed39 U.vm ∧ U.heap = h0) (fun _ _ _ _ _ => True) (fun _ U o U' => ∃ v L, o = .returned v ∧ Q0 n0 v L ∧ FrameEnd U o U' L 0 0) := by
  refine MetFree.of_bodySF (plainFor_of_name pn_0) hisR ?_
  intro p e s m args below meth c s₁ Bd hml0 hP hK
  obtain ⟨rfl, hZ, hh⟩ := hP
  have hx := Bd.exec
  have hby := Bd.bytes
  have hml : c.maxLocals = 13 := hml0
  have hown : s.vm.findClass "io/watchring/service/ForwardAllowanceBetweenPinLaw" = some m.cls := findClass_of_methodNamed Bd.named
  have hnm := (name_of_methodNamed Bd.named Bd.method).1
  have X0 : Stand p l e room_1 s m #[(.long q1), (.long q2), (.int p3)] below meth c s₁ [] 0 0 := Stand.of_body Bd
  have e0 : s₁.heap = h0 := by rw [← hh, Bd.state]; rfl
  have N0 := Fr.nil n0
  have pre0 : ∀ t, Steps p.tables e below (s₁.setTop (mkF m 0 #[.val (.long q1), .second, .val (.long q2), .second, .val (.int p3), .unset, .unset, .unset, .unset, .unset, .unset, .unset, .unset] [])) t → Steps p.tables e below (s₁.setTop (entryFrame m #[(.long q1), (.long q2), (.int p3)] maxLocals)) t := fun t k => castTop (ef_0 m q1 q2 p3) k
  obtain ⟨_, _, ⟨T4, L4, k4, n4⟩, -, X4, ⟨Lc4, hQ4, l4, y4, z4⟩, st4⟩ := Jvm.LawKit.callS X0 hx (y := (⟨"io/watchring/service/ForwardAllowanceBetweenPinLaw", "pick", "(JI)J"⟩ : MethodName)) hown (mvT hZ (hw _ (List.mem_of_getElem? (i := 0) rfl))) (mvT hZ (hw _ (List.mem_of_getElem? (i := 1) rfl))) (mvT hZ (hw _ (List.mem_of_getElem? (i := 2) rfl))) (mvT hZ (hw _ (List.mem_of_getElem? (i := 3) rfl))) (by decide) (backOf (W := 0) (rm1 l Z a0 hw [] q1 p3 z1 h0 n0 Z0 hr1) hZ (hw _ (List.mem_of_getElem? (i := 3) rfl)) (hw _ (List.mem_of_getElem? (i := 2) rfl)) (by decide) (by decide)) (g := (mkF m 3 #[.val (.long q1), .second, .val (.long q2), .second, .val (.int p3), .unset, .unset, .unset, .unset, .unset, .unset, .unset, .unset] [(.int p3), (.long q1)])) rfl (by rw [hml]; rfl) (argsL := [(.long q1), (.int p3)]) (rest := []) (lenOf pd_0_0 rfl) rfl (by show 2 * 0 + _ ≤ _; exact Nat.le_of_eq rfl) (hb hby at_3) (fun _ _ => ⟨rfl, e0, (by decide : 0 + 0 ≤ _), (by decide : 0 + 0 ≤ _)⟩)
  dsimp only [Pt.U, Pt.locs, Pt.cells, Pt.slots] at X4 l4 y4 z4 st4 hQ4
  subst l4 y4 z4
  obtain ⟨rfl, N4q, e4⟩ := hQ4
  have N4 := Fr.app N0 N4q
  obtain ⟨_, _, ⟨T5, L5, k5, n5⟩, -, X5, ⟨Lc5, hQ5, l5, y5, z5⟩, st5⟩ := Jvm.LawKit.callS X4 hx (y := (⟨"io/watchring/service/ForwardAllowanceBetweenPinLaw", "pick", "(JI)J"⟩ : MethodName)) hown (mvT hZ (hw _ (List.mem_of_getElem? (i := 0) rfl))) (mvT hZ (hw _ (List.mem_of_getElem? (i := 1) rfl))) (mvT hZ (hw _ (List.mem_of_getElem? (i := 2) rfl))) (mvT hZ (hw _ (List.mem_of_getElem? (i := 3) rfl))) (by decide) (backOf (W := 0) (rm1 l Z a0 hw [] q2 (p3 >>> ((2 : Int32) &&& 31)) z2 h0 n0 Z0 hr2) hZ (hw _ (List.mem_of_getElem? (i := 3) rfl)) (hw _ (List.mem_of_getElem? (i := 2) rfl)) (by decide) (by decide)) (g := (mkF m 13 #[.val (.long q1), .second, .val (.long q2), .second, .val (.int p3), .val (.long z1), .second, .unset, .unset, .unset, .unset, .unset, .unset] [(.int (p3 >>> ((2 : Int32) &&& 31))), (.long q2)])) rfl (by rw [hml]; rfl) (argsL := [(.long q2), (.int (p3 >>> ((2 : Int32) &&& 31)))]) (rest := []) (lenOf pd_0_0 rfl) rfl (by show 2 * 0 + _ ≤ _; exact Nat.le_of_eq rfl) (hb hby at_13) (fun _ _ => ⟨rfl, e4, (by decide : 0 + 0 ≤ _), (by decide : 0 + 0 ≤ _)⟩)
  dsimp only [Pt.U, Pt.locs, Pt.cells, Pt.slots] at X5 l5 y5 z5 st5 hQ5
  subst l5 y5 z5
  obtain ⟨rfl, N5q, e5⟩ := hQ5
  have N5 := Fr.app N4 N5q
  obtain ⟨_, _, ⟨T6, L6, k6, n6⟩, -, X6, ⟨Lc6, hQ6, l6, y6, z6⟩, st6⟩ := Jvm.LawKit.callS X5 hx (y := (⟨"io/watchring/service/ForwardAllowance", "between", "(JJ)J"⟩ : MethodName)) hown (mvT hZ (hw _ (List.mem_of_getElem? (i := 4) rfl))) (mvT hZ (hw _ (List.mem_of_getElem? (i := 5) rfl))) (mvT hZ (hw _ (List.mem_of_getElem? (i := 6) rfl))) (mvT hZ (hw _ (List.mem_of_getElem? (i := 7) rfl))) (by decide) (backOf (W := 0) (rm2 l Z a0 hw [] z1 z2 (z2 - z1) h0 n0 Z0 hz) hZ (hw _ (List.mem_of_getElem? (i := 7) rfl)) (hw _ (List.mem_of_getElem? (i := 6) rfl)) (by decide) (by decide)) (g := (mkF m 74 #[.val (.long q1), .second, .val (.long q2), .second, .val (.int p3), .val (.long z1), .second, .val (.long z2), .second, .val (.long (z2 - z1)), .second, .val (.long (z2 - z1)), .second] [(.long z2), (.long z1)])) rfl (by rw [hml]; rfl) (argsL := [(.long z1), (.long z2)]) (rest := []) (lenOf pd_0_1 rfl) rfl (by show 2 * 0 + _ ≤ _; exact Nat.le_of_eq rfl) (hb hby at_74) (fun _ _ => ⟨rfl, e5, (by decide : 0 + 0 ≤ _), (by decide : 0 + 0 ≤ _)⟩)
  dsimp only [Pt.U, Pt.locs, Pt.cells, Pt.slots] at X6 l6 y6 z6 st6 hQ6
  subst l6 y6 z6
  obtain ⟨rfl, N6q, e6⟩ := hQ6
  have N6 := Fr.app N5 N6q
  obtain ⟨fs, hr, hrun, hended, hW, hsame⟩ := X6.leave (v := some (.int (1 : Int32))) (fun h => by rw [Bd.returns] at h; cases h)
  refine ⟨_, _, pre0 _ ?_, hrun, hended, _, _, rfl, ?_, ⟨_, rfl⟩, hW, hsame.mono (by decide) (by decide)⟩
  · show Steps p.tables e below (s₁.setTop (mkF m 0 #[.val (.long q1), .second, .val (.long q2), .second, .val (.int p3), .unset, .unset, .unset, .unset, .unset, .unset, .unset, .unset] [])) _
    refine XS.lloadN X0.here hx rfl (hb hby at_0) rfl ?_
    show Steps p.tables e below (s₁.setTop (mkF m 1 #[.val (.long q1), .second, .val (.long q2), .second, .val (.int p3), .unset, .unset, .unset, .unset, .unset, .unset, .unset, .unset] [(.long q1)])) _
    refine XS.iload X0.here hx rfl (hb hby at_1) rfl ?_
    show Steps p.tables e below (s₁.setTop (mkF m 3 #[.val (.long q1), .second, .val (.long q2), .second, .val (.int p3), .unset, .unset, .unset, .unset, .unset, .unset, .unset, .unset] [(.int p3), (.long q1)])) _
    refine st4 _ ?_
    show Steps p.tables e below (T4.setTop (mkF m 6 #[.val (.long q1), .second, .val (.long q2), .second, .val (.int p3), .unset, .unset, .unset, .unset, .unset, .unset, .unset, .unset] [(.long z1)])) _
    refine XS.lstore X4.here hx rfl (hb hby at_6) rfl (l' := #[.val (.long q1), .second, .val (.long q2), .second, .val (.int p3), .val (.long z1), .second, .unset, .unset, .unset, .unset, .unset, .unset]) rfl ?_
    show Steps p.tables e below (T4.setTop (mkF m 8 #[.val (.long q1), .second, .val (.long q2), .second, .val (.int p3), .val (.long z1), .second, .unset, .unset, .unset, .unset, .unset, .unset] [])) _
    refine XS.lloadN X4.here hx rfl (hb hby at_8) rfl ?_
    show Steps p.tables e below (T4.setTop (mkF m 9 #[.val (.long q1), .second, .val (.long q2), .second, .val (.int p3), .val (.long z1), .second, .unset, .unset, .unset, .unset, .unset, .unset] [(.long q2)])) _
    refine XS.iload X4.here hx rfl (hb hby at_9) rfl ?_
    show Steps p.tables e below (T4.setTop (mkF m 11 #[.val (.long q1), .second, .val (.long q2), .second, .val (.int p3), .val (.long z1), .second, .unset, .unset, .unset, .unset, .unset, .unset] [(.int p3), (.long q2)])) _
    refine XS.iconst X4.here hx rfl (hb hby at_11) ?_
    show Steps p.tables e below (T4.setTop (mkF m 12 #[.val (.long q1), .second, .val (.long q2), .second, .val (.int p3), .val (.long z1), .second, .unset, .unset, .unset, .unset, .unset, .unset] [(.int (2 : Int32)), (.int p3), (.long q2)])) _
    refine XS.ishr X4.here hx rfl (hb hby at_12) rfl ?_
    show Steps p.tables e below (T4.setTop (mkF m 13 #[.val (.long q1), .second, .val (.long q2), .second, .val (.int p3), .val (.long z1), .second, .unset, .unset, .unset, .unset, .unset, .unset] [(.int (p3 >>> ((2 : Int32) &&& 31))), (.long q2)])) _
    refine st5 _ ?_
    show Steps p.tables e below (T5.setTop (mkF m 16 #[.val (.long q1), .second, .val (.long q2), .second, .val (.int p3), .val (.long z1), .second, .unset, .unset, .unset, .unset, .unset, .unset] [(.long z2)])) _
    refine XS.lstore X5.here hx rfl (hb hby at_16) rfl (l' := #[.val (.long q1), .second, .val (.long q2), .second, .val (.int p3), .val (.long z1), .second, .val (.long z2), .second, .unset, .unset, .unset, .unset]) rfl ?_
    show Steps p.tables e below (T5.setTop (mkF m 18 #[.val (.long q1), .second, .val (.long q2), .second, .val (.int p3), .val (.long z1), .second, .val (.long z2), .second, .unset, .unset, .unset, .unset] [])) _
    refine XS.lload X5.here hx rfl (hb hby at_18) rfl ?_
    show Steps p.tables e below (T5.setTop (mkF m 20 #[.val (.long q1), .second, .val (.long q2), .second, .val (.int p3), .val (.long z1), .second, .val (.long z2), .second, .unset, .unset, .unset, .unset] [(.long z2)])) _
    refine XS.lload X5.here hx rfl (hb hby at_20) rfl ?_
    show Steps p.tables e below (T5.setTop (mkF m 22 #[.val (.long q1), .second, .val (.long q2), .second, .val (.int p3), .val (.long z1), .second, .val (.long z2), .second, .unset, .unset, .unset, .unset] [(.long z1), (.long z2)])) _
    refine XS.lsub X5.here hx rfl (hb hby at_22) rfl ?_
    show Steps p.tables e below (T5.setTop (mkF m 23 #[.val (.long q1), .second, .val (.long q2), .second, .val (.int p3), .val (.long z1), .second, .val (.long z2), .second, .unset, .unset, .unset, .unset] [(.long (z2 - z1))])) _
    refine XS.lstore X5.here hx rfl (hb hby at_23) rfl (l' := #[.val (.long q1), .second, .val (.long q2), .second, .val (.int p3), .val (.long z1), .second, .val (.long z2), .second, .val (.long (z2 - z1)), .second, .unset, .unset]) rfl ?_
    show Steps p.tables e below (T5.setTop (mkF m 25 #[.val (.long q1), .second, .val (.long q2), .second, .val (.int p3), .val (.long z1), .second, .val (.long z2), .second, .val (.long (z2 - z1)), .second, .unset, .unset] [])) _
    refine XS.lload X5.here hx rfl (hb hby at_25) rfl ?_
    show Steps p.tables e below (T5.setTop (mkF m 27 #[.val (.long q1), .second, .val (.long q2), .second, .val (.int p3), .val (.long z1), .second, .val (.long z2), .second, .val (.long (z2 - z1)), .second, .unset, .unset] [(.long z2)])) _
    refine XS.lload X5.here hx rfl (hb hby at_27) rfl ?_
    show Steps p.tables e below (T5.setTop (mkF m 29 #[.val (.long q1), .second, .val (.long q2), .second, .val (.int p3), .val (.long z1), .second, .val (.long z2), .second, .val (.long (z2 - z1)), .second, .unset, .unset] [(.long z1), (.long z2)])) _
    refine XS.lcmp X5.here hx rfl (hb hby at_29) rfl ?_
    show Steps p.tables e below (T5.setTop (mkF m 30 #[.val (.long q1), .second, .val (.long q2), .second, .val (.int p3), .val (.long z1), .second, .val (.long z2), .second, .val (.long (z2 - z1)), .second, .unset, .unset] [(.int (lcmpW z2 z1))])) _
    refine XS.ifNo X5.here hx rfl (hb hby at_30) rfl ((if0 _ _).trans (flt hc30).1) ?_
    show Steps p.tables e below (T5.setTop (mkF m 33 #[.val (.long q1), .second, .val (.long q2), .second, .val (.int p3), .val (.long z1), .second, .val (.long z2), .second, .val (.long (z2 - z1)), .second, .unset, .unset] [])) _
    refine XS.lload X5.here hx rfl (hb hby at_33) rfl ?_
    show Steps p.tables e below (T5.setTop (mkF m 35 #[.val (.long q1), .second, .val (.long q2), .second, .val (.int p3), .val (.long z1), .second, .val (.long z2), .second, .val (.long (z2 - z1)), .second, .unset, .unset] [(.long (z2 - z1))])) _
    refine XS.lconst X5.here hx rfl (hb hby at_35) ?_
    show Steps p.tables e below (T5.setTop (mkF m 36 #[.val (.long q1), .second, .val (.long q2), .second, .val (.int p3), .val (.long z1), .second, .val (.long z2), .second, .val (.long (z2 - z1)), .second, .unset, .unset] [(.long (0 : Int64)), (.long (z2 - z1))])) _
    refine XS.lcmp X5.here hx rfl (hb hby at_36) rfl ?_
    show Steps p.tables e below (T5.setTop (mkF m 37 #[.val (.long q1), .second, .val (.long q2), .second, .val (.int p3), .val (.long z1), .second, .val (.long z2), .second, .val (.long (z2 - z1)), .second, .unset, .unset] [(.int (lcmpW (z2 - z1) (0 : Int64)))])) _
    refine XS.ifNo X5.here hx rfl (hb hby at_37) rfl ((if0 _ _).trans (flt hc37).1) ?_
    show Steps p.tables e below (T5.setTop (mkF m 40 #[.val (.long q1), .second, .val (.long q2), .second, .val (.int p3), .val (.long z1), .second, .val (.long z2), .second, .val (.long (z2 - z1)), .second, .unset, .unset] [])) _
    refine XS.lload X5.here hx rfl (hb hby at_40) rfl ?_
    show Steps p.tables e below (T5.setTop (mkF m 42 #[.val (.long q1), .second, .val (.long q2), .second, .val (.int p3), .val (.long z1), .second, .val (.long z2), .second, .val (.long (z2 - z1)), .second, .unset, .unset] [(.long (z2 - z1))])) _
    refine XS.goto X5.here hx rfl (pc0 := 42) (pc' := 48) rfl (hb hby at_42) (by decide) (by decide) ?_
    show Steps p.tables e below (T5.setTop (mkF m 48 #[.val (.long q1), .second, .val (.long q2), .second, .val (.int p3), .val (.long z1), .second, .val (.long z2), .second, .val (.long (z2 - z1)), .second, .unset, .unset] [(.long (z2 - z1))])) _
    refine XS.lstore X5.here hx rfl (hb hby at_48) rfl (l' := #[.val (.long q1), .second, .val (.long q2), .second, .val (.int p3), .val (.long z1), .second, .val (.long z2), .second, .val (.long (z2 - z1)), .second, .val (.long (z2 - z1)), .second]) rfl ?_
    show Steps p.tables e below (T5.setTop (mkF m 50 #[.val (.long q1), .second, .val (.long q2), .second, .val (.int p3), .val (.long z1), .second, .val (.long z2), .second, .val (.long (z2 - z1)), .second, .val (.long (z2 - z1)), .second] [])) _
    refine XS.goto X5.here hx rfl (pc0 := 50) (pc' := 70) rfl (hb hby at_50) (by decide) (by decide) ?_
    show Steps p.tables e below (T5.setTop (mkF m 70 #[.val (.long q1), .second, .val (.long q2), .second, .val (.int p3), .val (.long z1), .second, .val (.long z2), .second, .val (.long (z2 - z1)), .second, .val (.long (z2 - z1)), .second] [])) _
    refine XS.lload X5.here hx rfl (hb hby at_70) rfl ?_
    show Steps p.tables e below (T5.setTop (mkF m 72 #[.val (.long q1), .second, .val (.long q2), .second, .val (.int p3), .val (.long z1), .second, .val (.long z2), .second, .val (.long (z2 - z1)), .second, .val (.long (z2 - z1)), .second] [(.long z1)])) _
    refine XS.lload X5.here hx rfl (hb hby at_72) rfl ?_
    show Steps p.tables e below (T5.setTop (mkF m 74 #[.val (.long q1), .second, .val (.long q2), .second, .val (.int p3), .val (.long z1), .second, .val (.long z2), .second, .val (.long (z2 - z1)), .second, .val (.long (z2 - z1)), .second] [(.long z2), (.long z1)])) _
    refine st6 _ ?_
    show Steps p.tables e below (T6.setTop (mkF m 77 #[.val (.long q1), .second, .val (.long q2), .second, .val (.int p3), .val (.long z1), .second, .val (.long z2), .second, .val (.long (z2 - z1)), .second, .val (.long (z2 - z1)), .second] [(.long (z2 - z1))])) _
    refine XS.lload X6.here hx rfl (hb hby at_77) rfl ?_
    show Steps p.tables e below (T6.setTop (mkF m 79 #[.val (.long q1), .second, .val (.long q2), .second, .val (.int p3), .val (.long z1), .second, .val (.long z2), .second, .val (.long (z2 - z1)), .second, .val (.long (z2 - z1)), .second] [(.long (z2 - z1)), (.long (z2 - z1))])) _
    refine XS.lcmp X6.here hx rfl (hb hby at_79) rfl ?_
    show Steps p.tables e below (T6.setTop (mkF m 80 #[.val (.long q1), .second, .val (.long q2), .second, .val (.int p3), .val (.long z1), .second, .val (.long z2), .second, .val (.long (z2 - z1)), .second, .val (.long (z2 - z1)), .second] [(.int (lcmpW (z2 - z1) (z2 - z1)))])) _
    refine XS.ifNo X6.here hx rfl (hb hby at_80) rfl ((if0 _ _).trans (teq hc80).2) ?_
    show Steps p.tables e below (T6.setTop (mkF m 83 #[.val (.long q1), .second, .val (.long q2), .second, .val (.int p3), .val (.long z1), .second, .val (.long z2), .second, .val (.long (z2 - z1)), .second, .val (.long (z2 - z1)), .second] [])) _
    refine XS.iconst X6.here hx rfl (hb hby at_83) ?_
    show Steps p.tables e below (T6.setTop (mkF m 84 #[.val (.long q1), .second, .val (.long q2), .second, .val (.int p3), .val (.long z1), .second, .val (.long z2), .second, .val (.long (z2 - z1)), .second, .val (.long (z2 - z1)), .second] [(.int (1 : Int32))])) _
    refine XS.goto X6.here hx rfl (pc0 := 84) (pc' := 88) rfl (hb hby at_84) (by decide) (by decide) ?_
    show Steps p.tables e below (T6.setTop (mkF m 88 #[.val (.long q1), .second, .val (.long q2), .second, .val (.int p3), .val (.long z1), .second, .val (.long z2), .second, .val (.long (z2 - z1)), .second, .val (.long (z2 - z1)), .second] [(.int (1 : Int32))])) _
    exact retN X6 hx (t := .boolean) Bd.returns (by simp) (hb hby at_88) hr
  · show Q0 n0 _ _
    exact ⟨rfl, N6⟩
set_option maxRecDepth 65536 in
set_option maxHeartbeats 40000000 in
theorem rm0_b (l : Launch) (Z : State) (a0 : Array Value) (hw : ∀ d ∈ tables_1, d.before a0 Z = true) (ws : List Jvm.Cond) (q1 : Int64) (q2 : Int64) (p3 : Int32) (z1 z2 : Int64) (h0 : Heap) (n0 : Nat) (Z0 : n0 ≤ h0.size) (hr1 : ((p3 &&& (3 : Int32)) = (0 : Int32) ∧ z1 = q1) ∨ ((p3 &&& (3 : Int32)) = (1 : Int32) ∧ z1 = ((-9223372036854775808 : Int64) + (q1 &&& (255 : Int64)))) ∨ ((p3 &&& (3 : Int32)) = (2 : Int32) ∧ z1 = ((9223372036854775807 : Int64) - (q1 &&& (255 : Int64)))) ∨ ((p3 &&& (3 : Int32)) = (3 : Int32) ∧ z1 = ((q1 &&& (255 : Int64)) - (128 : Int64)))) (hr2 : (((p3 >>> ((2 : Int32) &&& 31)) &&& (3 : Int32)) = (0 : Int32) ∧ z2 = q2) ∨ (((p3 >>> ((2 : Int32) &&& 31)) &&& (3 : Int32)) = (1 : Int32) ∧ z2 = ((-9223372036854775808 : Int64) + (q2 &&& (255 : Int64)))) ∨ (((p3 >>> ((2 : Int32) &&& 31)) &&& (3 : Int32)) = (2 : Int32) ∧ z2 = ((9223372036854775807 : Int64) - (q2 &&& (255 : Int64)))) ∨ (((p3 >>> ((2 : Int32) &&& 31)) &&& (3 : Int32)) = (3 : Int32) ∧ z2 = ((q2 &&& (255 : Int64)) - (128 : Int64)))) (hz : (¬ ((z2 ^^^ z1) &&& (z2 ^^^ (z2 - z1))) < 0 ∧ (9223372036854775807 : Int64) = z2 - z1) ∨ (((z2 ^^^ z1) &&& (z2 ^^^ (z2 - z1))) < 0 ∧ z2 < z1 ∧ (9223372036854775807 : Int64) = (-9223372036854775808 : Int64)) ∨ (((z2 ^^^ z1) &&& (z2 ^^^ (z2 - z1))) < 0 ∧ ¬ z2 < z1 ∧ (9223372036854775807 : Int64) = (9223372036854775807 : Int64))) (hc30 : ¬ ((lcmpW z2 z1) < (0 : Int32))) (hc37 : (lcmpW (z2 - z1) (0 : Int64)) < (0 : Int32)) (hc80 : (lcmpW (9223372036854775807 : Int64) (9223372036854775807 : Int64)) = (0 : Int32)) :
    MetFree l x (head1 (Jvm.Cond.code x code maxLocals ret :: ws) room_1) (fun a U => a = #[(.long q1), (.long q2), (.int p3)] ∧ Z.Warmed39 U.vm ∧ U.heap = h0) (fun _ _ _ _ _ => True) (fun _ U o U' => ∃ v L, o = .returned v ∧ Q0 n0 v L ∧ FrameEnd U o U' L 0 0) := by
  refine MetFree.of_bodySF (plainFor_of_name pn_0) hisR ?_
  intro p e s m args below meth c s₁ Bd hml0 hP hK
  obtain ⟨rfl, hZ, hh⟩ := hP
  have hx := Bd.exec
  have hby := Bd.bytes
  have hml : c.maxLocals = 13 := hml0
  have hown : s.vm.findClass "io/watchring/service/ForwardAllowanceBetweenPinLaw" = some m.cls := findClass_of_methodNamed Bd.named
  have hnm := (name_of_methodNamed Bd.named Bd.method).1
  have X0 : Stand p l e room_1 s m #[(.long q1), (.long q2), (.int p3)] below meth c s₁ [] 0 0 := Stand.of_body Bd
  have e0 : s₁.heap = h0 := by rw [← hh, Bd.state]; rfl
  have N0 := Fr.nil n0
  have pre0 : ∀ t, Steps p.tables e below (s₁.setTop (mkF m 0 #[.val (.long q1), .second, .val (.long q2), .second, .val (.int p3), .unset, .unset, .unset, .unset, .unset, .unset, .unset, .unset] [])) t → Steps p.tables e below (s₁.setTop (entryFrame m #[(.long q1), (.long q2), (.int p3)] maxLocals)) t := fun t k => castTop (ef_0 m q1 q2 p3) k
  obtain ⟨_, _, ⟨T4, L4, k4, n4⟩, -, X4, ⟨Lc4, hQ4, l4, y4, z4⟩, st4⟩ := Jvm.LawKit.callS X0 hx (y := (⟨"io/watchring/service/ForwardAllowanceBetweenPinLaw", "pick", "(JI)J"⟩ : MethodName)) hown (mvT hZ (hw _ (List.mem_of_getElem? (i := 0) rfl))) (mvT hZ (hw _ (List.mem_of_getElem? (i := 1) rfl))) (mvT hZ (hw _ (List.mem_of_getElem? (i := 2) rfl))) (mvT hZ (hw _ (List.mem_of_getElem? (i := 3) rfl))) (by decide) (backOf (W := 0) (rm1 l Z a0 hw [] q1 p3 z1 h0 n0 Z0 hr1) hZ (hw _ (List.mem_of_getElem? (i := 3) rfl)) (hw _ (List.mem_of_getElem? (i := 2) rfl)) (by decide) (by decide)) (g := (mkF m 3 #[.val (.long q1), .second, .val (.long q2), .second, .val (.int p3), .unset, .unset, .unset, .unset, .unset, .unset, .unset, .unset] [(.int p3), (.long q1)])) rfl (by rw [hml]; rfl) (argsL := [(.long q1), (.int p3)]) (rest := []) (lenOf pd_0_0 rfl) rfl (by show 2 * 0 + _ ≤ _; exact Nat.le_of_eq rfl) (hb hby at_3) (fun _ _ => ⟨rfl, e0, (by decide : 0 + 0 ≤ _), (by decide : 0 + 0 ≤ _)⟩)
  dsimp only [Pt.U, Pt.locs, Pt.cells, Pt.slots] at X4 l4 y4 z4 st4 hQ4
  subst l4 y4 z4
  obtain ⟨rfl, N4q, e4⟩ := hQ4
  have N4 := Fr.app N0 N4q
  obtain ⟨_, _, ⟨T5, L5, k5, n5⟩, -, X5, ⟨Lc5, hQ5, l5, y5, z5⟩, st5⟩ := Jvm.LawKit.callS X4 hx (y := (⟨"io/watchring/service/ForwardAllowanceBetweenPinLaw", "pick", "(JI)J"⟩ : MethodName)) hown (mvT hZ (hw _ (List.mem_of_getElem? (i := 0) rfl))) (mvT hZ (hw _ (List.mem_of_getElem? (i := 1) rfl))) (mvT hZ (hw _ (List.mem_of_getElem? (i := 2) rfl))) (mvT hZ (hw _ (List.mem_of_getElem? (i := 3) rfl))) (by decide) (backOf (W := 0) (rm1 l Z a0 hw [] q2 (p3 >>> ((2 : Int32) &&& 31)) z2 h0 n0 Z0 hr2) hZ (hw _ (List.mem_of_getElem? (i := 3) rfl)) (hw _ (List.mem_of_getElem? (i := 2) rfl)) (by decide) (by decide)) (g := (mkF m 13 #[.val (.long q1), .second, .val (.long q2), .second, .val (.int p3), .val (.long z1), .second, .unset, .unset, .unset, .unset, .unset, .unset] [(.int (p3 >>> ((2 : Int32) &&& 31))), (.long q2)])) rfl (by rw [hml]; rfl) (argsL := [(.long q2), (.int (p3 >>> ((2 : Int32) &&& 31)))]) (rest := []) (lenOf pd_0_0 rfl) rfl (by show 2 * 0 + _ ≤ _; exact Nat.le_of_eq rfl) (hb hby at_13) (fun _ _ => ⟨rfl, e4, (by decide : 0 + 0 ≤ _), (by decide : 0 + 0 ≤ _)⟩)
  dsimp only [Pt.U, Pt.locs, Pt.cells, Pt.slots] at X5 l5 y5 z5 st5 hQ5
  subst l5 y5 z5
  obtain ⟨rfl, N5q, e5⟩ := hQ5
  have N5 := Fr.app N4 N5q
  obtain ⟨_, _, ⟨T6, L6, k6, n6⟩, -, X6, ⟨Lc6, hQ6, l6, y6, z6⟩, st6⟩ := Jvm.LawKit.callS X5 hx (y := (⟨"io/watchring/service/ForwardAllowance", "between", "(JJ)J"⟩ : MethodName)) hown (mvT hZ (hw _ (List.mem_of_getElem? (i := 4) rfl))) (mvT hZ (hw _ (List.mem_of_getElem? (i := 5) rfl))) (mvT hZ (hw _ (List.mem_of_getElem? (i := 6) rfl))) (mvT hZ (hw _ (List.mem_of_getElem? (i := 7) rfl))) (by decide) (backOf (W := 0) (rm2 l Z a0 hw [] z1 z2 (9223372036854775807 : Int64) h0 n0 Z0 hz) hZ (hw _ (List.mem_of_getElem? (i := 7) rfl)) (hw _ (List.mem_of_getElem? (i := 6) rfl)) (by decide) (by decide)) (g := (mkF m 74 #[.val (.long q1), .second, .val (.long q2), .second, .val (.int p3), .val (.long z1), .second, .val (.long z2), .second, .val (.long (z2 - z1)), .second, .val (.long (9223372036854775807 : Int64)), .second] [(.long z2), (.long z1)])) rfl (by rw [hml]; rfl) (argsL := [(.long z1), (.long z2)]) (rest := []) (lenOf pd_0_1 rfl) rfl (by show 2 * 0 + _ ≤ _; exact Nat.le_of_eq rfl) (hb hby at_74) (fun _ _ => ⟨rfl, e5, (by decide : 0 + 0 ≤ _), (by decide : 0 + 0 ≤ _)⟩)
  dsimp only [Pt.U, Pt.locs, Pt.cells, Pt.slots] at X6 l6 y6 z6 st6 hQ6
  subst l6 y6 z6
  obtain ⟨rfl, N6q, e6⟩ := hQ6
  have N6 := Fr.app N5 N6q
  obtain ⟨fs, hr, hrun, hended, hW, hsame⟩ := X6.leave (v := some (.int (1 : Int32))) (fun h => by rw [Bd.returns] at h; cases h)
  refine ⟨_, _, pre0 _ ?_, hrun, hended, _, _, rfl, ?_, ⟨_, rfl⟩, hW, hsame.mono (by decide) (by decide)⟩
  · show Steps p.tables e below (s₁.setTop (mkF m 0 #[.val (.long q1), .second, .val (.long q2), .second, .val (.int p3), .unset, .unset, .unset, .unset, .unset, .unset, .unset, .unset] [])) _
    refine XS.lloadN X0.here hx rfl (hb hby at_0) rfl ?_
    show Steps p.tables e below (s₁.setTop (mkF m 1 #[.val (.long q1), .second, .val (.long q2), .second, .val (.int p3), .unset, .unset, .unset, .unset, .unset, .unset, .unset, .unset] [(.long q1)])) _
    refine XS.iload X0.here hx rfl (hb hby at_1) rfl ?_
    show Steps p.tables e below (s₁.setTop (mkF m 3 #[.val (.long q1), .second, .val (.long q2), .second, .val (.int p3), .unset, .unset, .unset, .unset, .unset, .unset, .unset, .unset] [(.int p3), (.long q1)])) _
    refine st4 _ ?_
    show Steps p.tables e below (T4.setTop (mkF m 6 #[.val (.long q1), .second, .val (.long q2), .second, .val (.int p3), .unset, .unset, .unset, .unset, .unset, .unset, .unset, .unset] [(.long z1)])) _
    refine XS.lstore X4.here hx rfl (hb hby at_6) rfl (l' := #[.val (.long q1), .second, .val (.long q2), .second, .val (.int p3), .val (.long z1), .second, .unset, .unset, .unset, .unset, .unset, .unset]) rfl ?_
    show Steps p.tables e below (T4.setTop (mkF m 8 #[.val (.long q1), .second, .val (.long q2), .second, .val (.int p3), .val (.long z1), .second, .unset, .unset, .unset, .unset, .unset, .unset] [])) _
    refine XS.lloadN X4.here hx rfl (hb hby at_8) rfl ?_
    show Steps p.tables e below (T4.setTop (mkF m 9 #[.val (.long q1), .second, .val (.long q2), .second, .val (.int p3), .val (.long z1), .second, .unset, .unset, .unset, .unset, .unset, .unset] [(.long q2)])) _
    refine XS.iload X4.here hx rfl (hb hby at_9) rfl ?_
    show Steps p.tables e below (T4.setTop (mkF m 11 #[.val (.long q1), .second, .val (.long q2), .second, .val (.int p3), .val (.long z1), .second, .unset, .unset, .unset, .unset, .unset, .unset] [(.int p3), (.long q2)])) _
    refine XS.iconst X4.here hx rfl (hb hby at_11) ?_
    show Steps p.tables e below (T4.setTop (mkF m 12 #[.val (.long q1), .second, .val (.long q2), .second, .val (.int p3), .val (.long z1), .second, .unset, .unset, .unset, .unset, .unset, .unset] [(.int (2 : Int32)), (.int p3), (.long q2)])) _
    refine XS.ishr X4.here hx rfl (hb hby at_12) rfl ?_
    show Steps p.tables e below (T4.setTop (mkF m 13 #[.val (.long q1), .second, .val (.long q2), .second, .val (.int p3), .val (.long z1), .second, .unset, .unset, .unset, .unset, .unset, .unset] [(.int (p3 >>> ((2 : Int32) &&& 31))), (.long q2)])) _
    refine st5 _ ?_
    show Steps p.tables e below (T5.setTop (mkF m 16 #[.val (.long q1), .second, .val (.long q2), .second, .val (.int p3), .val (.long z1), .second, .unset, .unset, .unset, .unset, .unset, .unset] [(.long z2)])) _
    refine XS.lstore X5.here hx rfl (hb hby at_16) rfl (l' := #[.val (.long q1), .second, .val (.long q2), .second, .val (.int p3), .val (.long z1), .second, .val (.long z2), .second, .unset, .unset, .unset, .unset]) rfl ?_
    show Steps p.tables e below (T5.setTop (mkF m 18 #[.val (.long q1), .second, .val (.long q2), .second, .val (.int p3), .val (.long z1), .second, .val (.long z2), .second, .unset, .unset, .unset, .unset] [])) _
    refine XS.lload X5.here hx rfl (hb hby at_18) rfl ?_
    show Steps p.tables e below (T5.setTop (mkF m 20 #[.val (.long q1), .second, .val (.long q2), .second, .val (.int p3), .val (.long z1), .second, .val (.long z2), .second, .unset, .unset, .unset, .unset] [(.long z2)])) _
    refine XS.lload X5.here hx rfl (hb hby at_20) rfl ?_
    show Steps p.tables e below (T5.setTop (mkF m 22 #[.val (.long q1), .second, .val (.long q2), .second, .val (.int p3), .val (.long z1), .second, .val (.long z2), .second, .unset, .unset, .unset, .unset] [(.long z1), (.long z2)])) _
    refine XS.lsub X5.here hx rfl (hb hby at_22) rfl ?_
    show Steps p.tables e below (T5.setTop (mkF m 23 #[.val (.long q1), .second, .val (.long q2), .second, .val (.int p3), .val (.long z1), .second, .val (.long z2), .second, .unset, .unset, .unset, .unset] [(.long (z2 - z1))])) _
    refine XS.lstore X5.here hx rfl (hb hby at_23) rfl (l' := #[.val (.long q1), .second, .val (.long q2), .second, .val (.int p3), .val (.long z1), .second, .val (.long z2), .second, .val (.long (z2 - z1)), .second, .unset, .unset]) rfl ?_
    show Steps p.tables e below (T5.setTop (mkF m 25 #[.val (.long q1), .second, .val (.long q2), .second, .val (.int p3), .val (.long z1), .second, .val (.long z2), .second, .val (.long (z2 - z1)), .second, .unset, .unset] [])) _
    refine XS.lload X5.here hx rfl (hb hby at_25) rfl ?_
    show Steps p.tables e below (T5.setTop (mkF m 27 #[.val (.long q1), .second, .val (.long q2), .second, .val (.int p3), .val (.long z1), .second, .val (.long z2), .second, .val (.long (z2 - z1)), .second, .unset, .unset] [(.long z2)])) _
    refine XS.lload X5.here hx rfl (hb hby at_27) rfl ?_
    show Steps p.tables e below (T5.setTop (mkF m 29 #[.val (.long q1), .second, .val (.long q2), .second, .val (.int p3), .val (.long z1), .second, .val (.long z2), .second, .val (.long (z2 - z1)), .second, .unset, .unset] [(.long z1), (.long z2)])) _
    refine XS.lcmp X5.here hx rfl (hb hby at_29) rfl ?_
    show Steps p.tables e below (T5.setTop (mkF m 30 #[.val (.long q1), .second, .val (.long q2), .second, .val (.int p3), .val (.long z1), .second, .val (.long z2), .second, .val (.long (z2 - z1)), .second, .unset, .unset] [(.int (lcmpW z2 z1))])) _
    refine XS.ifNo X5.here hx rfl (hb hby at_30) rfl ((if0 _ _).trans (flt hc30).1) ?_
    show Steps p.tables e below (T5.setTop (mkF m 33 #[.val (.long q1), .second, .val (.long q2), .second, .val (.int p3), .val (.long z1), .second, .val (.long z2), .second, .val (.long (z2 - z1)), .second, .unset, .unset] [])) _
    refine XS.lload X5.here hx rfl (hb hby at_33) rfl ?_
    show Steps p.tables e below (T5.setTop (mkF m 35 #[.val (.long q1), .second, .val (.long q2), .second, .val (.int p3), .val (.long z1), .second, .val (.long z2), .second, .val (.long (z2 - z1)), .second, .unset, .unset] [(.long (z2 - z1))])) _
    refine XS.lconst X5.here hx rfl (hb hby at_35) ?_
    show Steps p.tables e below (T5.setTop (mkF m 36 #[.val (.long q1), .second, .val (.long q2), .second, .val (.int p3), .val (.long z1), .second, .val (.long z2), .second, .val (.long (z2 - z1)), .second, .unset, .unset] [(.long (0 : Int64)), (.long (z2 - z1))])) _
    refine XS.lcmp X5.here hx rfl (hb hby at_36) rfl ?_
    show Steps p.tables e below (T5.setTop (mkF m 37 #[.val (.long q1), .second, .val (.long q2), .second, .val (.int p3), .val (.long z1), .second, .val (.long z2), .second, .val (.long (z2 - z1)), .second, .unset, .unset] [(.int (lcmpW (z2 - z1) (0 : Int64)))])) _
    refine XS.ifYes X5.here hx rfl (pc0 := 37) (pc' := 45) rfl (hb hby at_37) rfl ((if0 _ _).trans (tlt hc37).1) (by decide) (by decide) ?_
    show Steps p.tables e below (T5.setTop (mkF m 45 #[.val (.long q1), .second, .val (.long q2), .second, .val (.int p3), .val (.long z1), .second, .val (.long z2), .second, .val (.long (z2 - z1)), .second, .unset, .unset] [])) _
    refine X5.ldc2Long hx hown (mvT hZ (hw _ (List.mem_of_getElem? (i := 11) rfl))) (g := (mkF m 45 #[.val (.long q1), .second, .val (.long q2), .second, .val (.int p3), .val (.long z1), .second, .val (.long z2), .second, .val (.long (z2 - z1)), .second, .unset, .unset] [])) rfl (hb hby at_45) _ ?_
    show Steps p.tables e below (T5.setTop (mkF m 48 #[.val (.long q1), .second, .val (.long q2), .second, .val (.int p3), .val (.long z1), .second, .val (.long z2), .second, .val (.long (z2 - z1)), .second, .unset, .unset] [(.long (9223372036854775807 : Int64))])) _
    refine XS.lstore X5.here hx rfl (hb hby at_48) rfl (l' := #[.val (.long q1), .second, .val (.long q2), .second, .val (.int p3), .val (.long z1), .second, .val (.long z2), .second, .val (.long (z2 - z1)), .second, .val (.long (9223372036854775807 : Int64)), .second]) rfl ?_
    show Steps p.tables e below (T5.setTop (mkF m 50 #[.val (.long q1), .second, .val (.long q2), .second, .val (.int p3), .val (.long z1), .second, .val (.long z2), .second, .val (.long (z2 - z1)), .second, .val (.long (9223372036854775807 : Int64)), .second] [])) _
    refine XS.goto X5.here hx rfl (pc0 := 50) (pc' := 70) rfl (hb hby at_50) (by decide) (by decide) ?_
    show Steps p.tables e below (T5.setTop (mkF m 70 #[.val (.long q1), .second, .val (.long q2), .second, .val (.int p3), .val (.long z1), .second, .val (.long z2), .second, .val (.long (z2 - z1)), .second, .val (.long (9223372036854775807 : Int64)), .second] [])) _
    refine XS.lload X5.here hx rfl (hb hby at_70) rfl ?_
    show Steps p.tables e below (T5.setTop (mkF m 72 #[.val (.long q1), .second, .val (.long q2), .second, .val (.int p3), .val (.long z1), .second, .val (.long z2), .second, .val (.long (z2 - z1)), .second, .val (.long (9223372036854775807 : Int64)), .second] [(.long z1)])) _
    refine XS.lload X5.here hx rfl (hb hby at_72) rfl ?_
    show Steps p.tables e below (T5.setTop (mkF m 74 #[.val (.long q1), .second, .val (.long q2), .second, .val (.int p3), .val (.long z1), .second, .val (.long z2), .second, .val (.long (z2 - z1)), .second, .val (.long (9223372036854775807 : Int64)), .second] [(.long z2), (.long z1)])) _
    refine st6 _ ?_
    show Steps p.tables e below (T6.setTop (mkF m 77 #[.val (.long q1), .second, .val (.long q2), .second, .val (.int p3), .val (.long z1), .second, .val (.long z2), .second, .val (.long (z2 - z1)), .second, .val (.long (9223372036854775807 : Int64)), .second] [(.long (9223372036854775807 : Int64))])) _
    refine XS.lload X6.here hx rfl (hb hby at_77) rfl ?_
    show Steps p.tables e below (T6.setTop (mkF m 79 #[.val (.long q1), .second, .val (.long q2), .second, .val (.int p3), .val (.long z1), .second, .val (.long z2), .second, .val (.long (z2 - z1)), .second, .val (.long (9223372036854775807 : Int64)), .second] [(.long (9223372036854775807 : Int64)), (.long (9223372036854775807 : Int64))])) _
    refine XS.lcmp X6.here hx rfl (hb hby at_79) rfl ?_
    show Steps p.tables e below (T6.setTop (mkF m 80 #[.val (.long q1), .second, .val (.long q2), .second, .val (.int p3), .val (.long z1), .second, .val (.long z2), .second, .val (.long (z2 - z1)), .second, .val (.long (9223372036854775807 : Int64)), .second] [(.int (lcmpW (9223372036854775807 : Int64) (9223372036854775807 : Int64)))])) _
    refine XS.ifNo X6.here hx rfl (hb hby at_80) rfl ((if0 _ _).trans (teq hc80).2) ?_
    show Steps p.tables e below (T6.setTop (mkF m 83 #[.val (.long q1), .second, .val (.long q2), .second, .val (.int p3), .val (.long z1), .second, .val (.long z2), .second, .val (.long (z2 - z1)), .second, .val (.long (9223372036854775807 : Int64)), .second] [])) _
    refine XS.iconst X6.here hx rfl (hb hby at_83) ?_
    show Steps p.tables e below (T6.setTop (mkF m 84 #[.val (.long q1), .second, .val (.long q2), .second, .val (.int p3), .val (.long z1), .second, .val (.long z2), .second, .val (.long (z2 - z1)), .second, .val (.long (9223372036854775807 : Int64)), .second] [(.int (1 : Int32))])) _
    refine XS.goto X6.here hx rfl (pc0 := 84) (pc' := 88) rfl (hb hby at_84) (by decide) (by decide) ?_
    show Steps p.tables e below (T6.setTop (mkF m 88 #[.val (.long q1), .second, .val (.long q2), .second, .val (.int p3), .val (.long z1), .second, .val (.long z2), .second, .val (.long (z2 - z1)), .second, .val (.long (9223372036854775807 : Int64)), .second] [(.int (1 : Int32))])) _
    exact retN X6 hx (t := .boolean) Bd.returns (by simp) (hb hby at_88) hr
  · show Q0 n0 _ _
    exact ⟨rfl, N6⟩
set_option maxRecDepth 65536 in
set_option maxHeartbeats 40000000 in
theorem rm0_c (l : Launch) (Z : State) (a0 : Array Value) (hw : ∀ d ∈ tables_1, d.before a0 Z = true) (ws : List Jvm.Cond) (q1 : Int64) (q2 : Int64) (p3 : Int32) (z1 z2 : Int64) (h0 : Heap) (n0 : Nat) (Z0 : n0 ≤ h0.size) (hr1 : ((p3 &&& (3 : Int32)) = (0 : Int32) ∧ z1 = q1) ∨ ((p3 &&& (3 : Int32)) = (1 : Int32) ∧ z1 = ((-9223372036854775808 : Int64) + (q1 &&& (255 : Int64)))) ∨ ((p3 &&& (3 : Int32)) = (2 : Int32) ∧ z1 = ((9223372036854775807 : Int64) - (q1 &&& (255 : Int64)))) ∨ ((p3 &&& (3 : Int32)) = (3 : Int32) ∧ z1 = ((q1 &&& (255 : Int64)) - (128 : Int64)))) (hr2 : (((p3 >>> ((2 : Int32) &&& 31)) &&& (3 : Int32)) = (0 : Int32) ∧ z2 = q2) ∨ (((p3 >>> ((2 : Int32) &&& 31)) &&& (3 : Int32)) = (1 : Int32) ∧ z2 = ((-9223372036854775808 : Int64) + (q2 &&& (255 : Int64)))) ∨ (((p3 >>> ((2 : Int32) &&& 31)) &&& (3 : Int32)) = (2 : Int32) ∧ z2 = ((9223372036854775807 : Int64) - (q2 &&& (255 : Int64)))) ∨ (((p3 >>> ((2 : Int32) &&& 31)) &&& (3 : Int32)) = (3 : Int32) ∧ z2 = ((q2 &&& (255 : Int64)) - (128 : Int64)))) (hz : (¬ ((z2 ^^^ z1) &&& (z2 ^^^ (z2 - z1))) < 0 ∧ (z2 - z1) = z2 - z1) ∨ (((z2 ^^^ z1) &&& (z2 ^^^ (z2 - z1))) < 0 ∧ z2 < z1 ∧ (z2 - z1) = (-9223372036854775808 : Int64)) ∨ (((z2 ^^^ z1) &&& (z2 ^^^ (z2 - z1))) < 0 ∧ ¬ z2 < z1 ∧ (z2 - z1) = (9223372036854775807 : Int64))) (hc30 : (lcmpW z2 z1) < (0 : Int32)) (hc57 : (lcmpW (z2 - z1) (0 : Int64)) < (0 : Int32)) (hc80 : (lcmpW (z2 - z1) (z2 - z1)) = (0 : Int32)) :
    MetFree l x (head1 (Jvm.Cond.code x code maxLocals ret :: ws) room_1) (fun a U => a = #[(.long q1), (.long q2), (.int p3)] ∧ Z.Warmed39 U.vm ∧ U.heap = h0) (fun _ _ _ _ _ => True) (fun _ U o U' => ∃ v L, o = .returned v ∧ Q0 n0 v L ∧ FrameEnd U o U' L 0 0) := by
  refine MetFree.of_bodySF (plainFor_of_name pn_0) hisR ?_
  intro p e s m args below meth c s₁ Bd hml0 hP hK
  obtain ⟨rfl, hZ, hh⟩ := hP
  have hx := Bd.exec
  have hby := Bd.bytes
  have hml : c.maxLocals = 13 := hml0
  have hown : s.vm.findClass "io/watchring/service/ForwardAllowanceBetweenPinLaw" = some m.cls := findClass_of_methodNamed Bd.named
  have hnm := (name_of_methodNamed Bd.named Bd.method).1
  have X0 : Stand p l e room_1 s m #[(.long q1), (.long q2), (.int p3)] below meth c s₁ [] 0 0 := Stand.of_body Bd
  have e0 : s₁.heap = h0 := by rw [← hh, Bd.state]; rfl
  have N0 := Fr.nil n0
  have pre0 : ∀ t, Steps p.tables e below (s₁.setTop (mkF m 0 #[.val (.long q1), .second, .val (.long q2), .second, .val (.int p3), .unset, .unset, .unset, .unset, .unset, .unset, .unset, .unset] [])) t → Steps p.tables e below (s₁.setTop (entryFrame m #[(.long q1), (.long q2), (.int p3)] maxLocals)) t := fun t k => castTop (ef_0 m q1 q2 p3) k
  obtain ⟨_, _, ⟨T4, L4, k4, n4⟩, -, X4, ⟨Lc4, hQ4, l4, y4, z4⟩, st4⟩ := Jvm.LawKit.callS X0 hx (y := (⟨"io/watchring/service/ForwardAllowanceBetweenPinLaw", "pick", "(JI)J"⟩ : MethodName)) hown (mvT hZ (hw _ (List.mem_of_getElem? (i := 0) rfl))) (mvT hZ (hw _ (List.mem_of_getElem? (i := 1) rfl))) (mvT hZ (hw _ (List.mem_of_getElem? (i := 2) rfl))) (mvT hZ (hw _ (List.mem_of_getElem? (i := 3) rfl))) (by decide) (backOf (W := 0) (rm1 l Z a0 hw [] q1 p3 z1 h0 n0 Z0 hr1) hZ (hw _ (List.mem_of_getElem? (i := 3) rfl)) (hw _ (List.mem_of_getElem? (i := 2) rfl)) (by decide) (by decide)) (g := (mkF m 3 #[.val (.long q1), .second, .val (.long q2), .second, .val (.int p3), .unset, .unset, .unset, .unset, .unset, .unset, .unset, .unset] [(.int p3), (.long q1)])) rfl (by rw [hml]; rfl) (argsL := [(.long q1), (.int p3)]) (rest := []) (lenOf pd_0_0 rfl) rfl (by show 2 * 0 + _ ≤ _; exact Nat.le_of_eq rfl) (hb hby at_3) (fun _ _ => ⟨rfl, e0, (by decide : 0 + 0 ≤ _), (by decide : 0 + 0 ≤ _)⟩)
  dsimp only [Pt.U, Pt.locs, Pt.cells, Pt.slots] at X4 l4 y4 z4 st4 hQ4
  subst l4 y4 z4
  obtain ⟨rfl, N4q, e4⟩ := hQ4
  have N4 := Fr.app N0 N4q
  obtain ⟨_, _, ⟨T5, L5, k5, n5⟩, -, X5, ⟨Lc5, hQ5, l5, y5, z5⟩, st5⟩ := Jvm.LawKit.callS X4 hx (y := (⟨"io/watchring/service/ForwardAllowanceBetweenPinLaw", "pick", "(JI)J"⟩ : MethodName)) hown (mvT hZ (hw _ (List.mem_of_getElem? (i := 0) rfl))) (mvT hZ (hw _ (List.mem_of_getElem? (i := 1) rfl))) (mvT hZ (hw _ (List.mem_of_getElem? (i := 2) rfl))) (mvT hZ (hw _ (List.mem_of_getElem? (i := 3) rfl))) (by decide) (backOf (W := 0) (rm1 l Z a0 hw [] q2 (p3 >>> ((2 : Int32) &&& 31)) z2 h0 n0 Z0 hr2) hZ (hw _ (List.mem_of_getElem? (i := 3) rfl)) (hw _ (List.mem_of_getElem? (i := 2) rfl)) (by decide) (by decide)) (g := (mkF m 13 #[.val (.long q1), .second, .val (.long q2), .second, .val (.int p3), .val (.long z1), .second, .unset, .unset, .unset, .unset, .unset, .unset] [(.int (p3 >>> ((2 : Int32) &&& 31))), (.long q2)])) rfl (by rw [hml]; rfl) (argsL := [(.long q2), (.int (p3 >>> ((2 : Int32) &&& 31)))]) (rest := []) (lenOf pd_0_0 rfl) rfl (by show 2 * 0 + _ ≤ _; exact Nat.le_of_eq rfl) (hb hby at_13) (fun _ _ => ⟨rfl, e4, (by decide : 0 + 0 ≤ _), (by decide : 0 + 0 ≤ _)⟩)
  dsimp only [Pt.U, Pt.locs, Pt.cells, Pt.slots] at X5 l5 y5 z5 st5 hQ5
  subst l5 y5 z5
  obtain ⟨rfl, N5q, e5⟩ := hQ5
  have N5 := Fr.app N4 N5q
  obtain ⟨_, _, ⟨T6, L6, k6, n6⟩, -, X6, ⟨Lc6, hQ6, l6, y6, z6⟩, st6⟩ := Jvm.LawKit.callS X5 hx (y := (⟨"io/watchring/service/ForwardAllowance", "between", "(JJ)J"⟩ : MethodName)) hown (mvT hZ (hw _ (List.mem_of_getElem? (i := 4) rfl))) (mvT hZ (hw _ (List.mem_of_getElem? (i := 5) rfl))) (mvT hZ (hw _ (List.mem_of_getElem? (i := 6) rfl))) (mvT hZ (hw _ (List.mem_of_getElem? (i := 7) rfl))) (by decide) (backOf (W := 0) (rm2 l Z a0 hw [] z1 z2 (z2 - z1) h0 n0 Z0 hz) hZ (hw _ (List.mem_of_getElem? (i := 7) rfl)) (hw _ (List.mem_of_getElem? (i := 6) rfl)) (by decide) (by decide)) (g := (mkF m 74 #[.val (.long q1), .second, .val (.long q2), .second, .val (.int p3), .val (.long z1), .second, .val (.long z2), .second, .val (.long (z2 - z1)), .second, .val (.long (z2 - z1)), .second] [(.long z2), (.long z1)])) rfl (by rw [hml]; rfl) (argsL := [(.long z1), (.long z2)]) (rest := []) (lenOf pd_0_1 rfl) rfl (by show 2 * 0 + _ ≤ _; exact Nat.le_of_eq rfl) (hb hby at_74) (fun _ _ => ⟨rfl, e5, (by decide : 0 + 0 ≤ _), (by decide : 0 + 0 ≤ _)⟩)
  dsimp only [Pt.U, Pt.locs, Pt.cells, Pt.slots] at X6 l6 y6 z6 st6 hQ6
  subst l6 y6 z6
  obtain ⟨rfl, N6q, e6⟩ := hQ6
  have N6 := Fr.app N5 N6q
  obtain ⟨fs, hr, hrun, hended, hW, hsame⟩ := X6.leave (v := some (.int (1 : Int32))) (fun h => by rw [Bd.returns] at h; cases h)
  refine ⟨_, _, pre0 _ ?_, hrun, hended, _, _, rfl, ?_, ⟨_, rfl⟩, hW, hsame.mono (by decide) (by decide)⟩
  · show Steps p.tables e below (s₁.setTop (mkF m 0 #[.val (.long q1), .second, .val (.long q2), .second, .val (.int p3), .unset, .unset, .unset, .unset, .unset, .unset, .unset, .unset] [])) _
    refine XS.lloadN X0.here hx rfl (hb hby at_0) rfl ?_
    show Steps p.tables e below (s₁.setTop (mkF m 1 #[.val (.long q1), .second, .val (.long q2), .second, .val (.int p3), .unset, .unset, .unset, .unset, .unset, .unset, .unset, .unset] [(.long q1)])) _
    refine XS.iload X0.here hx rfl (hb hby at_1) rfl ?_
    show Steps p.tables e below (s₁.setTop (mkF m 3 #[.val (.long q1), .second, .val (.long q2), .second, .val (.int p3), .unset, .unset, .unset, .unset, .unset, .unset, .unset, .unset] [(.int p3), (.long q1)])) _
    refine st4 _ ?_
    show Steps p.tables e below (T4.setTop (mkF m 6 #[.val (.long q1), .second, .val (.long q2), .second, .val (.int p3), .unset, .unset, .unset, .unset, .unset, .unset, .unset, .unset] [(.long z1)])) _
    refine XS.lstore X4.here hx rfl (hb hby at_6) rfl (l' := #[.val (.long q1), .second, .val (.long q2), .second, .val (.int p3), .val (.long z1), .second, .unset, .unset, .unset, .unset, .unset, .unset]) rfl ?_
    show Steps p.tables e below (T4.setTop (mkF m 8 #[.val (.long q1), .second, .val (.long q2), .second, .val (.int p3), .val (.long z1), .second, .unset, .unset, .unset, .unset, .unset, .unset] [])) _
    refine XS.lloadN X4.here hx rfl (hb hby at_8) rfl ?_
    show Steps p.tables e below (T4.setTop (mkF m 9 #[.val (.long q1), .second, .val (.long q2), .second, .val (.int p3), .val (.long z1), .second, .unset, .unset, .unset, .unset, .unset, .unset] [(.long q2)])) _
    refine XS.iload X4.here hx rfl (hb hby at_9) rfl ?_
    show Steps p.tables e below (T4.setTop (mkF m 11 #[.val (.long q1), .second, .val (.long q2), .second, .val (.int p3), .val (.long z1), .second, .unset, .unset, .unset, .unset, .unset, .unset] [(.int p3), (.long q2)])) _
    refine XS.iconst X4.here hx rfl (hb hby at_11) ?_
    show Steps p.tables e below (T4.setTop (mkF m 12 #[.val (.long q1), .second, .val (.long q2), .second, .val (.int p3), .val (.long z1), .second, .unset, .unset, .unset, .unset, .unset, .unset] [(.int (2 : Int32)), (.int p3), (.long q2)])) _
    refine XS.ishr X4.here hx rfl (hb hby at_12) rfl ?_
    show Steps p.tables e below (T4.setTop (mkF m 13 #[.val (.long q1), .second, .val (.long q2), .second, .val (.int p3), .val (.long z1), .second, .unset, .unset, .unset, .unset, .unset, .unset] [(.int (p3 >>> ((2 : Int32) &&& 31))), (.long q2)])) _
    refine st5 _ ?_
    show Steps p.tables e below (T5.setTop (mkF m 16 #[.val (.long q1), .second, .val (.long q2), .second, .val (.int p3), .val (.long z1), .second, .unset, .unset, .unset, .unset, .unset, .unset] [(.long z2)])) _
    refine XS.lstore X5.here hx rfl (hb hby at_16) rfl (l' := #[.val (.long q1), .second, .val (.long q2), .second, .val (.int p3), .val (.long z1), .second, .val (.long z2), .second, .unset, .unset, .unset, .unset]) rfl ?_
    show Steps p.tables e below (T5.setTop (mkF m 18 #[.val (.long q1), .second, .val (.long q2), .second, .val (.int p3), .val (.long z1), .second, .val (.long z2), .second, .unset, .unset, .unset, .unset] [])) _
    refine XS.lload X5.here hx rfl (hb hby at_18) rfl ?_
    show Steps p.tables e below (T5.setTop (mkF m 20 #[.val (.long q1), .second, .val (.long q2), .second, .val (.int p3), .val (.long z1), .second, .val (.long z2), .second, .unset, .unset, .unset, .unset] [(.long z2)])) _
    refine XS.lload X5.here hx rfl (hb hby at_20) rfl ?_
    show Steps p.tables e below (T5.setTop (mkF m 22 #[.val (.long q1), .second, .val (.long q2), .second, .val (.int p3), .val (.long z1), .second, .val (.long z2), .second, .unset, .unset, .unset, .unset] [(.long z1), (.long z2)])) _
    refine XS.lsub X5.here hx rfl (hb hby at_22) rfl ?_
    show Steps p.tables e below (T5.setTop (mkF m 23 #[.val (.long q1), .second, .val (.long q2), .second, .val (.int p3), .val (.long z1), .second, .val (.long z2), .second, .unset, .unset, .unset, .unset] [(.long (z2 - z1))])) _
    refine XS.lstore X5.here hx rfl (hb hby at_23) rfl (l' := #[.val (.long q1), .second, .val (.long q2), .second, .val (.int p3), .val (.long z1), .second, .val (.long z2), .second, .val (.long (z2 - z1)), .second, .unset, .unset]) rfl ?_
    show Steps p.tables e below (T5.setTop (mkF m 25 #[.val (.long q1), .second, .val (.long q2), .second, .val (.int p3), .val (.long z1), .second, .val (.long z2), .second, .val (.long (z2 - z1)), .second, .unset, .unset] [])) _
    refine XS.lload X5.here hx rfl (hb hby at_25) rfl ?_
    show Steps p.tables e below (T5.setTop (mkF m 27 #[.val (.long q1), .second, .val (.long q2), .second, .val (.int p3), .val (.long z1), .second, .val (.long z2), .second, .val (.long (z2 - z1)), .second, .unset, .unset] [(.long z2)])) _
    refine XS.lload X5.here hx rfl (hb hby at_27) rfl ?_
    show Steps p.tables e below (T5.setTop (mkF m 29 #[.val (.long q1), .second, .val (.long q2), .second, .val (.int p3), .val (.long z1), .second, .val (.long z2), .second, .val (.long (z2 - z1)), .second, .unset, .unset] [(.long z1), (.long z2)])) _
    refine XS.lcmp X5.here hx rfl (hb hby at_29) rfl ?_
    show Steps p.tables e below (T5.setTop (mkF m 30 #[.val (.long q1), .second, .val (.long q2), .second, .val (.int p3), .val (.long z1), .second, .val (.long z2), .second, .val (.long (z2 - z1)), .second, .unset, .unset] [(.int (lcmpW z2 z1))])) _
    refine XS.ifYes X5.here hx rfl (pc0 := 30) (pc' := 53) rfl (hb hby at_30) rfl ((if0 _ _).trans (tlt hc30).1) (by decide) (by decide) ?_
    show Steps p.tables e below (T5.setTop (mkF m 53 #[.val (.long q1), .second, .val (.long q2), .second, .val (.int p3), .val (.long z1), .second, .val (.long z2), .second, .val (.long (z2 - z1)), .second, .unset, .unset] [])) _
    refine XS.lload X5.here hx rfl (hb hby at_53) rfl ?_
    show Steps p.tables e below (T5.setTop (mkF m 55 #[.val (.long q1), .second, .val (.long q2), .second, .val (.int p3), .val (.long z1), .second, .val (.long z2), .second, .val (.long (z2 - z1)), .second, .unset, .unset] [(.long (z2 - z1))])) _
    refine XS.lconst X5.here hx rfl (hb hby at_55) ?_
    show Steps p.tables e below (T5.setTop (mkF m 56 #[.val (.long q1), .second, .val (.long q2), .second, .val (.int p3), .val (.long z1), .second, .val (.long z2), .second, .val (.long (z2 - z1)), .second, .unset, .unset] [(.long (0 : Int64)), (.long (z2 - z1))])) _
    refine XS.lcmp X5.here hx rfl (hb hby at_56) rfl ?_
    show Steps p.tables e below (T5.setTop (mkF m 57 #[.val (.long q1), .second, .val (.long q2), .second, .val (.int p3), .val (.long z1), .second, .val (.long z2), .second, .val (.long (z2 - z1)), .second, .unset, .unset] [(.int (lcmpW (z2 - z1) (0 : Int64)))])) _
    refine XS.ifNo X5.here hx rfl (hb hby at_57) rfl ((if0 _ _).trans (tlt hc57).2.1) ?_
    show Steps p.tables e below (T5.setTop (mkF m 60 #[.val (.long q1), .second, .val (.long q2), .second, .val (.int p3), .val (.long z1), .second, .val (.long z2), .second, .val (.long (z2 - z1)), .second, .unset, .unset] [])) _
    refine XS.lload X5.here hx rfl (hb hby at_60) rfl ?_
    show Steps p.tables e below (T5.setTop (mkF m 62 #[.val (.long q1), .second, .val (.long q2), .second, .val (.int p3), .val (.long z1), .second, .val (.long z2), .second, .val (.long (z2 - z1)), .second, .unset, .unset] [(.long (z2 - z1))])) _
    refine XS.goto X5.here hx rfl (pc0 := 62) (pc' := 68) rfl (hb hby at_62) (by decide) (by decide) ?_
    show Steps p.tables e below (T5.setTop (mkF m 68 #[.val (.long q1), .second, .val (.long q2), .second, .val (.int p3), .val (.long z1), .second, .val (.long z2), .second, .val (.long (z2 - z1)), .second, .unset, .unset] [(.long (z2 - z1))])) _
    refine XS.lstore X5.here hx rfl (hb hby at_68) rfl (l' := #[.val (.long q1), .second, .val (.long q2), .second, .val (.int p3), .val (.long z1), .second, .val (.long z2), .second, .val (.long (z2 - z1)), .second, .val (.long (z2 - z1)), .second]) rfl ?_
    show Steps p.tables e below (T5.setTop (mkF m 70 #[.val (.long q1), .second, .val (.long q2), .second, .val (.int p3), .val (.long z1), .second, .val (.long z2), .second, .val (.long (z2 - z1)), .second, .val (.long (z2 - z1)), .second] [])) _
    refine XS.lload X5.here hx rfl (hb hby at_70) rfl ?_
    show Steps p.tables e below (T5.setTop (mkF m 72 #[.val (.long q1), .second, .val (.long q2), .second, .val (.int p3), .val (.long z1), .second, .val (.long z2), .second, .val (.long (z2 - z1)), .second, .val (.long (z2 - z1)), .second] [(.long z1)])) _
    refine XS.lload X5.here hx rfl (hb hby at_72) rfl ?_
    show Steps p.tables e below (T5.setTop (mkF m 74 #[.val (.long q1), .second, .val (.long q2), .second, .val (.int p3), .val (.long z1), .second, .val (.long z2), .second, .val (.long (z2 - z1)), .second, .val (.long (z2 - z1)), .second] [(.long z2), (.long z1)])) _
    refine st6 _ ?_
    show Steps p.tables e below (T6.setTop (mkF m 77 #[.val (.long q1), .second, .val (.long q2), .second, .val (.int p3), .val (.long z1), .second, .val (.long z2), .second, .val (.long (z2 - z1)), .second, .val (.long (z2 - z1)), .second] [(.long (z2 - z1))])) _
    refine XS.lload X6.here hx rfl (hb hby at_77) rfl ?_
    show Steps p.tables e below (T6.setTop (mkF m 79 #[.val (.long q1), .second, .val (.long q2), .second, .val (.int p3), .val (.long z1), .second, .val (.long z2), .second, .val (.long (z2 - z1)), .second, .val (.long (z2 - z1)), .second] [(.long (z2 - z1)), (.long (z2 - z1))])) _
    refine XS.lcmp X6.here hx rfl (hb hby at_79) rfl ?_
    show Steps p.tables e below (T6.setTop (mkF m 80 #[.val (.long q1), .second, .val (.long q2), .second, .val (.int p3), .val (.long z1), .second, .val (.long z2), .second, .val (.long (z2 - z1)), .second, .val (.long (z2 - z1)), .second] [(.int (lcmpW (z2 - z1) (z2 - z1)))])) _
    refine XS.ifNo X6.here hx rfl (hb hby at_80) rfl ((if0 _ _).trans (teq hc80).2) ?_
    show Steps p.tables e below (T6.setTop (mkF m 83 #[.val (.long q1), .second, .val (.long q2), .second, .val (.int p3), .val (.long z1), .second, .val (.long z2), .second, .val (.long (z2 - z1)), .second, .val (.long (z2 - z1)), .second] [])) _
    refine XS.iconst X6.here hx rfl (hb hby at_83) ?_
    show Steps p.tables e below (T6.setTop (mkF m 84 #[.val (.long q1), .second, .val (.long q2), .second, .val (.int p3), .val (.long z1), .second, .val (.long z2), .second, .val (.long (z2 - z1)), .second, .val (.long (z2 - z1)), .second] [(.int (1 : Int32))])) _
    refine XS.goto X6.here hx rfl (pc0 := 84) (pc' := 88) rfl (hb hby at_84) (by decide) (by decide) ?_
    show Steps p.tables e below (T6.setTop (mkF m 88 #[.val (.long q1), .second, .val (.long q2), .second, .val (.int p3), .val (.long z1), .second, .val (.long z2), .second, .val (.long (z2 - z1)), .second, .val (.long (z2 - z1)), .second] [(.int (1 : Int32))])) _
    exact retN X6 hx (t := .boolean) Bd.returns (by simp) (hb hby at_88) hr
  · show Q0 n0 _ _
    exact ⟨rfl, N6⟩
set_option maxRecDepth 65536 in
set_option maxHeartbeats 40000000 in
theorem rm0_d (l : Launch) (Z : State) (a0 : Array Value) (hw : ∀ d ∈ tables_1, d.before a0 Z = true) (ws : List Jvm.Cond) (q1 : Int64) (q2 : Int64) (p3 : Int32) (z1 z2 : Int64) (h0 : Heap) (n0 : Nat) (Z0 : n0 ≤ h0.size) (hr1 : ((p3 &&& (3 : Int32)) = (0 : Int32) ∧ z1 = q1) ∨ ((p3 &&& (3 : Int32)) = (1 : Int32) ∧ z1 = ((-9223372036854775808 : Int64) + (q1 &&& (255 : Int64)))) ∨ ((p3 &&& (3 : Int32)) = (2 : Int32) ∧ z1 = ((9223372036854775807 : Int64) - (q1 &&& (255 : Int64)))) ∨ ((p3 &&& (3 : Int32)) = (3 : Int32) ∧ z1 = ((q1 &&& (255 : Int64)) - (128 : Int64)))) (hr2 : (((p3 >>> ((2 : Int32) &&& 31)) &&& (3 : Int32)) = (0 : Int32) ∧ z2 = q2) ∨ (((p3 >>> ((2 : Int32) &&& 31)) &&& (3 : Int32)) = (1 : Int32) ∧ z2 = ((-9223372036854775808 : Int64) + (q2 &&& (255 : Int64)))) ∨ (((p3 >>> ((2 : Int32) &&& 31)) &&& (3 : Int32)) = (2 : Int32) ∧ z2 = ((9223372036854775807 : Int64) - (q2 &&& (255 : Int64)))) ∨ (((p3 >>> ((2 : Int32) &&& 31)) &&& (3 : Int32)) = (3 : Int32) ∧ z2 = ((q2 &&& (255 : Int64)) - (128 : Int64)))) (hz : (¬ ((z2 ^^^ z1) &&& (z2 ^^^ (z2 - z1))) < 0 ∧ (-9223372036854775808 : Int64) = z2 - z1) ∨ (((z2 ^^^ z1) &&& (z2 ^^^ (z2 - z1))) < 0 ∧ z2 < z1 ∧ (-9223372036854775808 : Int64) = (-9223372036854775808 : Int64)) ∨ (((z2 ^^^ z1) &&& (z2 ^^^ (z2 - z1))) < 0 ∧ ¬ z2 < z1 ∧ (-9223372036854775808 : Int64) = (9223372036854775807 : Int64))) (hc30 : (lcmpW z2 z1) < (0 : Int32)) (hc57 : ¬ ((lcmpW (z2 - z1) (0 : Int64)) < (0 : Int32))) (hc80 : (lcmpW (-9223372036854775808 : Int64) (-9223372036854775808 : Int64)) = (0 : Int32)) :
    MetFree l x (head1 (Jvm.Cond.code x code maxLocals ret :: ws) room_1) (fun a U => a = #[(.long q1), (.long q2), (.int p3)] ∧ Z.Warmed39 U.vm ∧ U.heap = h0) (fun _ _ _ _ _ => True) (fun _ U o U' => ∃ v L, o = .returned v ∧ Q0 n0 v L ∧ FrameEnd U o U' L 0 0) := by
  refine MetFree.of_bodySF (plainFor_of_name pn_0) hisR ?_
  intro p e s m args below meth c s₁ Bd hml0 hP hK
  obtain ⟨rfl, hZ, hh⟩ := hP
  have hx := Bd.exec
  have hby := Bd.bytes
  have hml : c.maxLocals = 13 := hml0
  have hown : s.vm.findClass "io/watchring/service/ForwardAllowanceBetweenPinLaw" = some m.cls := findClass_of_methodNamed Bd.named
  have hnm := (name_of_methodNamed Bd.named Bd.method).1
  have X0 : Stand p l e room_1 s m #[(.long q1), (.long q2), (.int p3)] below meth c s₁ [] 0 0 := Stand.of_body Bd
  have e0 : s₁.heap = h0 := by rw [← hh, Bd.state]; rfl
  have N0 := Fr.nil n0
  have pre0 : ∀ t, Steps p.tables e below (s₁.setTop (mkF m 0 #[.val (.long q1), .second, .val (.long q2), .second, .val (.int p3), .unset, .unset, .unset, .unset, .unset, .unset, .unset, .unset] [])) t → Steps p.tables e below (s₁.setTop (entryFrame m #[(.long q1), (.long q2), (.int p3)] maxLocals)) t := fun t k => castTop (ef_0 m q1 q2 p3) k
  obtain ⟨_, _, ⟨T4, L4, k4, n4⟩, -, X4, ⟨Lc4, hQ4, l4, y4, z4⟩, st4⟩ := Jvm.LawKit.callS X0 hx (y := (⟨"io/watchring/service/ForwardAllowanceBetweenPinLaw", "pick", "(JI)J"⟩ : MethodName)) hown (mvT hZ (hw _ (List.mem_of_getElem? (i := 0) rfl))) (mvT hZ (hw _ (List.mem_of_getElem? (i := 1) rfl))) (mvT hZ (hw _ (List.mem_of_getElem? (i := 2) rfl))) (mvT hZ (hw _ (List.mem_of_getElem? (i := 3) rfl))) (by decide) (backOf (W := 0) (rm1 l Z a0 hw [] q1 p3 z1 h0 n0 Z0 hr1) hZ (hw _ (List.mem_of_getElem? (i := 3) rfl)) (hw _ (List.mem_of_getElem? (i := 2) rfl)) (by decide) (by decide)) (g := (mkF m 3 #[.val (.long q1), .second, .val (.long q2), .second, .val (.int p3), .unset, .unset, .unset, .unset, .unset, .unset, .unset, .unset] [(.int p3), (.long q1)])) rfl (by rw [hml]; rfl) (argsL := [(.long q1), (.int p3)]) (rest := []) (lenOf pd_0_0 rfl) rfl (by show 2 * 0 + _ ≤ _; exact Nat.le_of_eq rfl) (hb hby at_3) (fun _ _ => ⟨rfl, e0, (by decide : 0 + 0 ≤ _), (by decide : 0 + 0 ≤ _)⟩)
  dsimp only [Pt.U, Pt.locs, Pt.cells, Pt.slots] at X4 l4 y4 z4 st4 hQ4
  subst l4 y4 z4
  obtain ⟨rfl, N4q, e4⟩ := hQ4
  have N4 := Fr.app N0 N4q
  obtain ⟨_, _, ⟨T5, L5, k5, n5⟩, -, X5, ⟨Lc5, hQ5, l5, y5, z5⟩, st5⟩ := Jvm.LawKit.callS X4 hx (y := (⟨"io/watchring/service/ForwardAllowanceBetweenPinLaw", "pick", "(JI)J"⟩ : MethodName)) hown (mvT hZ (hw _ (List.mem_of_getElem? (i := 0) rfl))) (mvT hZ (hw _ (List.mem_of_getElem? (i := 1) rfl))) (mvT hZ (hw _ (List.mem_of_getElem? (i := 2) rfl))) (mvT hZ (hw _ (List.mem_of_getElem? (i := 3) rfl))) (by decide) (backOf (W := 0) (rm1 l Z a0 hw [] q2 (p3 >>> ((2 : Int32) &&& 31)) z2 h0 n0 Z0 hr2) hZ (hw _ (List.mem_of_getElem? (i := 3) rfl)) (hw _ (List.mem_of_getElem? (i := 2) rfl)) (by decide) (by decide)) (g := (mkF m 13 #[.val (.long q1), .second, .val (.long q2), .second, .val (.int p3), .val (.long z1), .second, .unset, .unset, .unset, .unset, .unset, .unset] [(.int (p3 >>> ((2 : Int32) &&& 31))), (.long q2)])) rfl (by rw [hml]; rfl) (argsL := [(.long q2), (.int (p3 >>> ((2 : Int32) &&& 31)))]) (rest := []) (lenOf pd_0_0 rfl) rfl (by show 2 * 0 + _ ≤ _; exact Nat.le_of_eq rfl) (hb hby at_13) (fun _ _ => ⟨rfl, e4, (by decide : 0 + 0 ≤ _), (by decide : 0 + 0 ≤ _)⟩)
  dsimp only [Pt.U, Pt.locs, Pt.cells, Pt.slots] at X5 l5 y5 z5 st5 hQ5
  subst l5 y5 z5
  obtain ⟨rfl, N5q, e5⟩ := hQ5
  have N5 := Fr.app N4 N5q
  obtain ⟨_, _, ⟨T6, L6, k6, n6⟩, -, X6, ⟨Lc6, hQ6, l6, y6, z6⟩, st6⟩ := Jvm.LawKit.callS X5 hx (y := (⟨"io/watchring/service/ForwardAllowance", "between", "(JJ)J"⟩ : MethodName)) hown (mvT hZ (hw _ (List.mem_of_getElem? (i := 4) rfl))) (mvT hZ (hw _ (List.mem_of_getElem? (i := 5) rfl))) (mvT hZ (hw _ (List.mem_of_getElem? (i := 6) rfl))) (mvT hZ (hw _ (List.mem_of_getElem? (i := 7) rfl))) (by decide) (backOf (W := 0) (rm2 l Z a0 hw [] z1 z2 (-9223372036854775808 : Int64) h0 n0 Z0 hz) hZ (hw _ (List.mem_of_getElem? (i := 7) rfl)) (hw _ (List.mem_of_getElem? (i := 6) rfl)) (by decide) (by decide)) (g := (mkF m 74 #[.val (.long q1), .second, .val (.long q2), .second, .val (.int p3), .val (.long z1), .second, .val (.long z2), .second, .val (.long (z2 - z1)), .second, .val (.long (-9223372036854775808 : Int64)), .second] [(.long z2), (.long z1)])) rfl (by rw [hml]; rfl) (argsL := [(.long z1), (.long z2)]) (rest := []) (lenOf pd_0_1 rfl) rfl (by show 2 * 0 + _ ≤ _; exact Nat.le_of_eq rfl) (hb hby at_74) (fun _ _ => ⟨rfl, e5, (by decide : 0 + 0 ≤ _), (by decide : 0 + 0 ≤ _)⟩)
  dsimp only [Pt.U, Pt.locs, Pt.cells, Pt.slots] at X6 l6 y6 z6 st6 hQ6
  subst l6 y6 z6
  obtain ⟨rfl, N6q, e6⟩ := hQ6
  have N6 := Fr.app N5 N6q
  obtain ⟨fs, hr, hrun, hended, hW, hsame⟩ := X6.leave (v := some (.int (1 : Int32))) (fun h => by rw [Bd.returns] at h; cases h)
  refine ⟨_, _, pre0 _ ?_, hrun, hended, _, _, rfl, ?_, ⟨_, rfl⟩, hW, hsame.mono (by decide) (by decide)⟩
  · show Steps p.tables e below (s₁.setTop (mkF m 0 #[.val (.long q1), .second, .val (.long q2), .second, .val (.int p3), .unset, .unset, .unset, .unset, .unset, .unset, .unset, .unset] [])) _
    refine XS.lloadN X0.here hx rfl (hb hby at_0) rfl ?_
    show Steps p.tables e below (s₁.setTop (mkF m 1 #[.val (.long q1), .second, .val (.long q2), .second, .val (.int p3), .unset, .unset, .unset, .unset, .unset, .unset, .unset, .unset] [(.long q1)])) _
    refine XS.iload X0.here hx rfl (hb hby at_1) rfl ?_
    show Steps p.tables e below (s₁.setTop (mkF m 3 #[.val (.long q1), .second, .val (.long q2), .second, .val (.int p3), .unset, .unset, .unset, .unset, .unset, .unset, .unset, .unset] [(.int p3), (.long q1)])) _
    refine st4 _ ?_
    show Steps p.tables e below (T4.setTop (mkF m 6 #[.val (.long q1), .second, .val (.long q2), .second, .val (.int p3), .unset, .unset, .unset, .unset, .unset, .unset, .unset, .unset] [(.long z1)])) _
    refine XS.lstore X4.here hx rfl (hb hby at_6) rfl (l' := #[.val (.long q1), .second, .val (.long q2), .second, .val (.int p3), .val (.long z1), .second, .unset, .unset, .unset, .unset, .unset, .unset]) rfl ?_
    show Steps p.tables e below (T4.setTop (mkF m 8 #[.val (.long q1), .second, .val (.long q2), .second, .val (.int p3), .val (.long z1), .second, .unset, .unset, .unset, .unset, .unset, .unset] [])) _
    refine XS.lloadN X4.here hx rfl (hb hby at_8) rfl ?_
    show Steps p.tables e below (T4.setTop (mkF m 9 #[.val (.long q1), .second, .val (.long q2), .second, .val (.int p3), .val (.long z1), .second, .unset, .unset, .unset, .unset, .unset, .unset] [(.long q2)])) _
    refine XS.iload X4.here hx rfl (hb hby at_9) rfl ?_
    show Steps p.tables e below (T4.setTop (mkF m 11 #[.val (.long q1), .second, .val (.long q2), .second, .val (.int p3), .val (.long z1), .second, .unset, .unset, .unset, .unset, .unset, .unset] [(.int p3), (.long q2)])) _
    refine XS.iconst X4.here hx rfl (hb hby at_11) ?_
    show Steps p.tables e below (T4.setTop (mkF m 12 #[.val (.long q1), .second, .val (.long q2), .second, .val (.int p3), .val (.long z1), .second, .unset, .unset, .unset, .unset, .unset, .unset] [(.int (2 : Int32)), (.int p3), (.long q2)])) _
    refine XS.ishr X4.here hx rfl (hb hby at_12) rfl ?_
    show Steps p.tables e below (T4.setTop (mkF m 13 #[.val (.long q1), .second, .val (.long q2), .second, .val (.int p3), .val (.long z1), .second, .unset, .unset, .unset, .unset, .unset, .unset] [(.int (p3 >>> ((2 : Int32) &&& 31))), (.long q2)])) _
    refine st5 _ ?_
    show Steps p.tables e below (T5.setTop (mkF m 16 #[.val (.long q1), .second, .val (.long q2), .second, .val (.int p3), .val (.long z1), .second, .unset, .unset, .unset, .unset, .unset, .unset] [(.long z2)])) _
    refine XS.lstore X5.here hx rfl (hb hby at_16) rfl (l' := #[.val (.long q1), .second, .val (.long q2), .second, .val (.int p3), .val (.long z1), .second, .val (.long z2), .second, .unset, .unset, .unset, .unset]) rfl ?_
    show Steps p.tables e below (T5.setTop (mkF m 18 #[.val (.long q1), .second, .val (.long q2), .second, .val (.int p3), .val (.long z1), .second, .val (.long z2), .second, .unset, .unset, .unset, .unset] [])) _
    refine XS.lload X5.here hx rfl (hb hby at_18) rfl ?_
    show Steps p.tables e below (T5.setTop (mkF m 20 #[.val (.long q1), .second, .val (.long q2), .second, .val (.int p3), .val (.long z1), .second, .val (.long z2), .second, .unset, .unset, .unset, .unset] [(.long z2)])) _
    refine XS.lload X5.here hx rfl (hb hby at_20) rfl ?_
    show Steps p.tables e below (T5.setTop (mkF m 22 #[.val (.long q1), .second, .val (.long q2), .second, .val (.int p3), .val (.long z1), .second, .val (.long z2), .second, .unset, .unset, .unset, .unset] [(.long z1), (.long z2)])) _
    refine XS.lsub X5.here hx rfl (hb hby at_22) rfl ?_
    show Steps p.tables e below (T5.setTop (mkF m 23 #[.val (.long q1), .second, .val (.long q2), .second, .val (.int p3), .val (.long z1), .second, .val (.long z2), .second, .unset, .unset, .unset, .unset] [(.long (z2 - z1))])) _
    refine XS.lstore X5.here hx rfl (hb hby at_23) rfl (l' := #[.val (.long q1), .second, .val (.long q2), .second, .val (.int p3), .val (.long z1), .second, .val (.long z2), .second, .val (.long (z2 - z1)), .second, .unset, .unset]) rfl ?_
    show Steps p.tables e below (T5.setTop (mkF m 25 #[.val (.long q1), .second, .val (.long q2), .second, .val (.int p3), .val (.long z1), .second, .val (.long z2), .second, .val (.long (z2 - z1)), .second, .unset, .unset] [])) _
    refine XS.lload X5.here hx rfl (hb hby at_25) rfl ?_
    show Steps p.tables e below (T5.setTop (mkF m 27 #[.val (.long q1), .second, .val (.long q2), .second, .val (.int p3), .val (.long z1), .second, .val (.long z2), .second, .val (.long (z2 - z1)), .second, .unset, .unset] [(.long z2)])) _
    refine XS.lload X5.here hx rfl (hb hby at_27) rfl ?_
    show Steps p.tables e below (T5.setTop (mkF m 29 #[.val (.long q1), .second, .val (.long q2), .second, .val (.int p3), .val (.long z1), .second, .val (.long z2), .second, .val (.long (z2 - z1)), .second, .unset, .unset] [(.long z1), (.long z2)])) _
    refine XS.lcmp X5.here hx rfl (hb hby at_29) rfl ?_
    show Steps p.tables e below (T5.setTop (mkF m 30 #[.val (.long q1), .second, .val (.long q2), .second, .val (.int p3), .val (.long z1), .second, .val (.long z2), .second, .val (.long (z2 - z1)), .second, .unset, .unset] [(.int (lcmpW z2 z1))])) _
    refine XS.ifYes X5.here hx rfl (pc0 := 30) (pc' := 53) rfl (hb hby at_30) rfl ((if0 _ _).trans (tlt hc30).1) (by decide) (by decide) ?_
    show Steps p.tables e below (T5.setTop (mkF m 53 #[.val (.long q1), .second, .val (.long q2), .second, .val (.int p3), .val (.long z1), .second, .val (.long z2), .second, .val (.long (z2 - z1)), .second, .unset, .unset] [])) _
    refine XS.lload X5.here hx rfl (hb hby at_53) rfl ?_
    show Steps p.tables e below (T5.setTop (mkF m 55 #[.val (.long q1), .second, .val (.long q2), .second, .val (.int p3), .val (.long z1), .second, .val (.long z2), .second, .val (.long (z2 - z1)), .second, .unset, .unset] [(.long (z2 - z1))])) _
    refine XS.lconst X5.here hx rfl (hb hby at_55) ?_
    show Steps p.tables e below (T5.setTop (mkF m 56 #[.val (.long q1), .second, .val (.long q2), .second, .val (.int p3), .val (.long z1), .second, .val (.long z2), .second, .val (.long (z2 - z1)), .second, .unset, .unset] [(.long (0 : Int64)), (.long (z2 - z1))])) _
    refine XS.lcmp X5.here hx rfl (hb hby at_56) rfl ?_
    show Steps p.tables e below (T5.setTop (mkF m 57 #[.val (.long q1), .second, .val (.long q2), .second, .val (.int p3), .val (.long z1), .second, .val (.long z2), .second, .val (.long (z2 - z1)), .second, .unset, .unset] [(.int (lcmpW (z2 - z1) (0 : Int64)))])) _
    refine XS.ifYes X5.here hx rfl (pc0 := 57) (pc' := 65) rfl (hb hby at_57) rfl ((if0 _ _).trans (flt hc57).2.1) (by decide) (by decide) ?_
    show Steps p.tables e below (T5.setTop (mkF m 65 #[.val (.long q1), .second, .val (.long q2), .second, .val (.int p3), .val (.long z1), .second, .val (.long z2), .second, .val (.long (z2 - z1)), .second, .unset, .unset] [])) _
    refine X5.ldc2Long hx hown (mvT hZ (hw _ (List.mem_of_getElem? (i := 10) rfl))) (g := (mkF m 65 #[.val (.long q1), .second, .val (.long q2), .second, .val (.int p3), .val (.long z1), .second, .val (.long z2), .second, .val (.long (z2 - z1)), .second, .unset, .unset] [])) rfl (hb hby at_65) _ ?_
    show Steps p.tables e below (T5.setTop (mkF m 68 #[.val (.long q1), .second, .val (.long q2), .second, .val (.int p3), .val (.long z1), .second, .val (.long z2), .second, .val (.long (z2 - z1)), .second, .unset, .unset] [(.long (-9223372036854775808 : Int64))])) _
    refine XS.lstore X5.here hx rfl (hb hby at_68) rfl (l' := #[.val (.long q1), .second, .val (.long q2), .second, .val (.int p3), .val (.long z1), .second, .val (.long z2), .second, .val (.long (z2 - z1)), .second, .val (.long (-9223372036854775808 : Int64)), .second]) rfl ?_
    show Steps p.tables e below (T5.setTop (mkF m 70 #[.val (.long q1), .second, .val (.long q2), .second, .val (.int p3), .val (.long z1), .second, .val (.long z2), .second, .val (.long (z2 - z1)), .second, .val (.long (-9223372036854775808 : Int64)), .second] [])) _
    refine XS.lload X5.here hx rfl (hb hby at_70) rfl ?_
    show Steps p.tables e below (T5.setTop (mkF m 72 #[.val (.long q1), .second, .val (.long q2), .second, .val (.int p3), .val (.long z1), .second, .val (.long z2), .second, .val (.long (z2 - z1)), .second, .val (.long (-9223372036854775808 : Int64)), .second] [(.long z1)])) _
    refine XS.lload X5.here hx rfl (hb hby at_72) rfl ?_
    show Steps p.tables e below (T5.setTop (mkF m 74 #[.val (.long q1), .second, .val (.long q2), .second, .val (.int p3), .val (.long z1), .second, .val (.long z2), .second, .val (.long (z2 - z1)), .second, .val (.long (-9223372036854775808 : Int64)), .second] [(.long z2), (.long z1)])) _
    refine st6 _ ?_
    show Steps p.tables e below (T6.setTop (mkF m 77 #[.val (.long q1), .second, .val (.long q2), .second, .val (.int p3), .val (.long z1), .second, .val (.long z2), .second, .val (.long (z2 - z1)), .second, .val (.long (-9223372036854775808 : Int64)), .second] [(.long (-9223372036854775808 : Int64))])) _
    refine XS.lload X6.here hx rfl (hb hby at_77) rfl ?_
    show Steps p.tables e below (T6.setTop (mkF m 79 #[.val (.long q1), .second, .val (.long q2), .second, .val (.int p3), .val (.long z1), .second, .val (.long z2), .second, .val (.long (z2 - z1)), .second, .val (.long (-9223372036854775808 : Int64)), .second] [(.long (-9223372036854775808 : Int64)), (.long (-9223372036854775808 : Int64))])) _
    refine XS.lcmp X6.here hx rfl (hb hby at_79) rfl ?_
    show Steps p.tables e below (T6.setTop (mkF m 80 #[.val (.long q1), .second, .val (.long q2), .second, .val (.int p3), .val (.long z1), .second, .val (.long z2), .second, .val (.long (z2 - z1)), .second, .val (.long (-9223372036854775808 : Int64)), .second] [(.int (lcmpW (-9223372036854775808 : Int64) (-9223372036854775808 : Int64)))])) _
    refine XS.ifNo X6.here hx rfl (hb hby at_80) rfl ((if0 _ _).trans (teq hc80).2) ?_
    show Steps p.tables e below (T6.setTop (mkF m 83 #[.val (.long q1), .second, .val (.long q2), .second, .val (.int p3), .val (.long z1), .second, .val (.long z2), .second, .val (.long (z2 - z1)), .second, .val (.long (-9223372036854775808 : Int64)), .second] [])) _
    refine XS.iconst X6.here hx rfl (hb hby at_83) ?_
    show Steps p.tables e below (T6.setTop (mkF m 84 #[.val (.long q1), .second, .val (.long q2), .second, .val (.int p3), .val (.long z1), .second, .val (.long z2), .second, .val (.long (z2 - z1)), .second, .val (.long (-9223372036854775808 : Int64)), .second] [(.int (1 : Int32))])) _
    refine XS.goto X6.here hx rfl (pc0 := 84) (pc' := 88) rfl (hb hby at_84) (by decide) (by decide) ?_
    show Steps p.tables e below (T6.setTop (mkF m 88 #[.val (.long q1), .second, .val (.long q2), .second, .val (.int p3), .val (.long z1), .second, .val (.long z2), .second, .val (.long (z2 - z1)), .second, .val (.long (-9223372036854775808 : Int64)), .second] [(.int (1 : Int32))])) _
    exact retN X6 hx (t := .boolean) Bd.returns (by simp) (hb hby at_88) hr
  · show Q0 n0 _ _
    exact ⟨rfl, N6⟩
theorem own_mask (p : Int32) : (p &&& (3 : Int32)) = (0 : Int32) ∨ (p &&& (3 : Int32)) = (1 : Int32) ∨ (p &&& (3 : Int32)) = (2 : Int32) ∨ (p &&& (3 : Int32)) = (3 : Int32) := by
  have e1 : (p &&& (3 : Int32)).toInt = p.toInt % (2 ^ 2 : Nat) := c_mask p _ 2 (by decide) (by decide)
  have h : (p &&& (3 : Int32)).toInt = 0 ∨ (p &&& (3 : Int32)).toInt = 1 ∨ (p &&& (3 : Int32)).toInt = 2 ∨ (p &&& (3 : Int32)).toInt = 3 := by omega
  rcases h with h | h | h | h
  · exact Or.inl (Int32.toInt_inj.mp (h.trans (by decide)))
  · exact Or.inr (Or.inl (Int32.toInt_inj.mp (h.trans (by decide))))
  · exact Or.inr (Or.inr (Or.inl (Int32.toInt_inj.mp (h.trans (by decide)))))
  · exact Or.inr (Or.inr (Or.inr ((Int32.toInt_inj.mp (h.trans (by decide))))))
theorem own_pick (x : Int64) (p : Int32) : ∃ z, ((p &&& (3 : Int32)) = (0 : Int32) ∧ z = x) ∨ ((p &&& (3 : Int32)) = (1 : Int32) ∧ z = ((-9223372036854775808 : Int64) + (x &&& (255 : Int64)))) ∨ ((p &&& (3 : Int32)) = (2 : Int32) ∧ z = ((9223372036854775807 : Int64) - (x &&& (255 : Int64)))) ∨ ((p &&& (3 : Int32)) = (3 : Int32) ∧ z = ((x &&& (255 : Int64)) - (128 : Int64))) := by
  rcases own_mask p with h | h | h | h
  · exact ⟨_, (Or.inl ⟨h, rfl⟩)⟩
  · exact ⟨_, (Or.inr (Or.inl ⟨h, rfl⟩))⟩
  · exact ⟨_, (Or.inr (Or.inr (Or.inl ⟨h, rfl⟩)))⟩
  · exact ⟨_, (Or.inr (Or.inr (Or.inr (⟨h, rfl⟩))))⟩
theorem own_signs (x y : Int64) : (¬ y < x → ¬ (y - x) < 0 → ¬ ((y ^^^ x) &&& (y ^^^ (y - x))) < 0) ∧ (¬ y < x → (y - x) < 0 → ((y ^^^ x) &&& (y ^^^ (y - x))) < 0) ∧ (y < x → (y - x) < 0 → ¬ ((y ^^^ x) &&& (y ^^^ (y - x))) < 0) ∧ (y < x → ¬ (y - x) < 0 → ((y ^^^ x) &&& (y ^^^ (y - x))) < 0) := by
  have hd := c_lsub y x
  have r1 := rng64 x
  have r2 := rng64 y
  have r3 := rng64 (y - x)
  have a1 := c_xorSL y x
  have a2 := c_xorSL y (y - x)
  have a3 := c_andSL (y ^^^ x) (y ^^^ (y - x))
  have z0 : (0 : Int64).toInt = 0 := by decide
  simp only [Int64.lt_iff_toInt_lt, z0]
  generalize (y - x).toInt = d at *
  generalize ((y ^^^ x) &&& (y ^^^ (y - x))).toInt = w at *
  generalize (y ^^^ x).toInt = u at *
  generalize (y ^^^ (y - x)).toInt = v at *
  generalize x.toInt = X at *
  generalize y.toInt = Y at *
  obtain ⟨b1, b2, b3, b4⟩ := a1
  obtain ⟨c1, c2, c3, c4⟩ := a2
  obtain ⟨e1, e2, e3⟩ := a3
  refine ⟨fun p q => ?_, fun p q => ?_, fun p q => ?_, fun p q => ?_⟩
  all_goals
    rcases Int.lt_or_le X 0 with x0 | x0 <;> rcases Int.lt_or_le Y 0 with y0 | y0 <;> omega
theorem rm0 (l : Launch) (Z : State) (a0 : Array Value) (hw : ∀ d ∈ tables_1, d.before a0 Z = true) (ws : List Jvm.Cond) (q1 : Int64) (q2 : Int64) (p3 : Int32) (h0 : Heap) (n0 : Nat) (Z0 : n0 ≤ h0.size)  :
    MetFree l x (head1 (Jvm.Cond.code x code maxLocals ret :: ws) room_1) (fun a U => a = #[(.long q1), (.long q2), (.int p3)] ∧ Z.Warmed39 U.vm ∧ U.heap = h0) (fun _ _ _ _ _ => True) (fun _ U o U' => ∃ v L, o = .returned v ∧ Q0 n0 v L ∧ FrameEnd U o U' L 0 0) := by
  obtain ⟨z1, hr1⟩ := own_pick q1 p3
  obtain ⟨z2, hr2⟩ := own_pick q2 (p3 >>> ((2 : Int32) &&& 31))
  obtain ⟨s1, s2, s3, s4⟩ := own_signs z1 z2
  by_cases h : z2 < z1 <;> by_cases h' : (z2 - z1) < 0
  · exact rm0_c l Z a0 hw ws q1 q2 p3 z1 z2 h0 n0 Z0 hr1 hr2 (Or.inl ⟨s3 h h', rfl⟩) ((lw_lt _ _).mpr h) ((lw_lt _ _).mpr h') ((lw_eq _ _).mpr rfl)
  · exact rm0_d l Z a0 hw ws q1 q2 p3 z1 z2 h0 n0 Z0 hr1 hr2 (Or.inr (Or.inl ⟨s4 h h', h, rfl⟩)) ((lw_lt _ _).mpr h) (fun q => h' ((lw_lt _ _).mp q)) ((lw_eq _ _).mpr rfl)
  · exact rm0_b l Z a0 hw ws q1 q2 p3 z1 z2 h0 n0 Z0 hr1 hr2 (Or.inr (Or.inr ⟨s2 h h', h, rfl⟩)) (fun q => h ((lw_lt _ _).mp q)) ((lw_lt _ _).mpr h') ((lw_eq _ _).mpr rfl)
  · exact rm0_a l Z a0 hw ws q1 q2 p3 z1 z2 h0 n0 Z0 hr1 hr2 (Or.inl ⟨s1 h h', rfl⟩) (fun q => h ((lw_lt _ _).mp q)) (fun q => h' ((lw_lt _ _).mp q)) ((lw_eq _ _).mpr rfl)
set_option maxRecDepth 65536 in
set_option maxHeartbeats 40000000 in
theorem comes_1 {Post : Tables → Env → Array Value → State → Outcome → State → Prop} (hpost : ∀ tb e args s v u, (limb_1_1.after args s (.returned v) u = true ∧ limb_1_2.after args s (.returned v) u = true ∧ True) → FrameEnd s (.returned v) u (Jvm.fieldLocs frame_1_writes args s ++ Jvm.arrayLocs frame_1_arrays args s ++ Jvm.staticLocs frame_1_statics s) 0 0 → Post tb e args s (.returned v) u) :
    ArmFor flags0 classFile x code maxLocals ret World_1 tables_1 room_1 Calls_1 rest_1 Pre_1 Post := by
  intro l hfl _ _ p e ha hc hk s m args below hf hA hF happ hP
  obtain ⟨hcalls, hrest, hpre⟩ := hP
  obtain ⟨-, -, -, hnamed, -, -, -, hat⟩ := (Spec.applies_iff hf).mp happ
  obtain ⟨hg, hn⟩ := and_e (Cond.before_iff.mp (show (Jvm.Cond.and given_1 narrow_1).before args s = true from hpre))
  obtain ⟨g1, g2⟩ := and_e hg
  obtain ⟨g3, g4⟩ := and_e g2
  obtain ⟨g5, g6⟩ := and_e g4
  obtain ⟨w0, w1, w2, rfl⟩ : ∃ w0 w1 w2 : Value, args = #[w0, w1, w2] := by
    have hs : args.size = 3 := by simpa [Cond.value, given_1] using g1
    obtain ⟨L⟩ := args
    match L, hs with
    | [w0, w1, w2], _ => exact ⟨w0, w1, w2, rfl⟩
  have hw := fun d (hd : d ∈ tables_1) => atoms_spec (ws := Jvm.Cond.code x code maxLocals ret :: tables_1) hat d (List.mem_cons_of_mem _ hd)
  have hfit : Fit s := fun {y c} hc i hi => by
    obtain ⟨ha, rfl⟩ := Array.getElem?_eq_some_iff.mp hc
    have q := List.all_eq_true.mp ((Array.all_eq_true_iff_forall_mem.mp hF) _ (Array.getElem_mem ha)) i (List.mem_range.mpr hi)
    simpa [Array.getElem?_eq_getElem hi] using q
  obtain ⟨i0, ei0⟩ := isL_v g3
  obtain rfl : w0 = (.long i0) := Option.some.inj ei0
  obtain ⟨i1, ei1⟩ := isL_v g5
  obtain rfl : w1 = (.long i1) := Option.some.inj ei1
  obtain ⟨i2, ei2⟩ := is_v g6
  obtain rfl : w2 = (.int i2) := Option.some.inj ei2
  obtain ⟨n, o, h1, h2, h3, _, L, rfl, ⟨rfl, N⟩, hq⟩ := rm0 l s _ hw tables_1 i0 i1 i2 s.heap s.heap.size (Nat.le_refl _) p e ha hc hk s m _ below hf ((Spec.applies_iff_loose hf).mp happ).1 ⟨rfl, State.Warmed39.refl s, rfl⟩ trivial
  refine ⟨n, _, h1, h2, h3, hpost _ _ _ _ _ _ ⟨Cond.after_iff.mpr rfl, Cond.after_iff.mpr (eq_i res_at (Term.int_eval (1)) rfl), trivial⟩ ⟨hq.1, hq.2.1, (hq.2.2.sift fun y hy => Or.inr (N y hy)).mono (by decide) (by decide)⟩⟩
theorem main_1_1 : Claimed_1_1 := comes_1 fun _ _ _ _ _ _ h hF => ⟨h.1, hF⟩
theorem main_1_2 : Claimed_1_2 := comes_1 fun _ _ _ _ _ _ h hF => ⟨h.2.1, hF⟩
end Jvm.Pilot.@@N@@
namespace Jvm.Pilot.@@N@@
open Jvm Jvm.ClassFile Sem Op Lib Jvm.Free Jvm.Stand Jvm.Pilot.@@N@@.Jvm.D
/-! MADE BY PROGRAM (witnessworld.py) out of the Statement's table words and the real class files: 9 classes; the members and pool entries that the words name. The judged class is class 1, her method 2. -/
namespace start1
open Jvm.ClassFile
def u (s : String) : CpInfo := .utf8 (stringToUtf16 s)
/-- a pool by its gaps: so many unusable entries, then the entry; so many at the end -/
def gap : Nat → List CpInfo → List CpInfo
  | 0, r => r
  | n + 1, r => .unusable :: gap n r
def poolList (es : List (Nat × CpInfo)) (last : Nat) : List CpInfo := es.foldr (fun e r => gap e.1 (e.2 :: r)) (gap last [])
def pool (es : List (Nat × CpInfo)) (last : Nat) : Array CpInfo := ⟨poolList es last⟩
def fileOf (pool : Array CpInfo) (this : Nat) (attrs : Array Attribute := #[]) (ms : Array MethodInfo := #[]) (fl : Nat := 33) (sup : Nat := 0) (ifs : Array Nat := #[]) (fds : Array FieldInfo := #[]) : ClassFile where
  minorVersion := 0
  majorVersion := 65
  constantPool := pool
  accessFlags := fl
  thisClass := this
  superClass := sup
  interfaces := ifs
  fields := fds
  methods := ms
  attributes := attrs
def plain (name : String) (sup : Option ClassId) : Class where
  name := name
  kind := .ordinary
  loader := none
  accessFlags := 33
  super := sup
  interfaces := #[]
  cf := none
  fields := #[]
  methods := #[]
  instanceTypes := #[]
  staticTypes := #[]
  resolved := #[]
  callSites := []
  init := .initialized
  statics := none
  mirror := none

def pool0 : Array CpInfo := pool [(5, u "<init>"), (0, u "()V"), (1, .class_ 10), (1, u "java/lang/Object")] 113

def k0m0 : Method := { name := "<init>", desc := "()V", sig := { parameters := [], returnType := none }, accessFlags := 1, code := none }
/-- java/lang/Object -/
def k0 : Class := { plain "java/lang/Object" none with
  accessFlags := 33
  interfaces := #[]
  cf := some (fileOf pool0 8 #[] #[{ accessFlags := 1, nameIndex := 5, descriptorIndex := 6, attributes := #[] }] 33 0 #[] #[])
  fields := #[]
  methods := #[k0m0]
  instanceTypes := #[]
  staticTypes := #[]
  resolved := Array.replicate 124 none
  statics := none }

def pool1 : Array CpInfo := pool [(2, .class_ 4), (1, u "java/lang/Object"), (0, u "<init>"), (0, u "()V"), (2, .long 9223372036854775808), (1, .long 255), (1, .long 9223372036854775807), (1, .long 128), (1, .methodref 18 19), (0, .class_ 20), (0, .nameAndType 21 22), (0, u "io/watchring/service/ForwardAllowanceBetweenPinLaw"), (0, u "pick"), (0, u "(JI)J"), (0, .methodref 24 25), (0, .class_ 26), (0, .nameAndType 27 28), (0, u "io/watchring/service/ForwardAllowance"), (0, u "between"), (0, u "(JJ)J"), (3, u "law"), (0, u "(JJI)Z")] 2

def k1m0 : Method := { name := "<init>", desc := "()V", sig := { parameters := [], returnType := none }, accessFlags := 2, code := none }
def k1c1 : Code := { maxStack := 6, maxLocals := 4, code := method_2_code, exceptionTable := #[], attributes := #[] }
def k1m1 : Method := { name := "pick", desc := "(JI)J", sig := { parameters := [.long, .int], returnType := some .long }, accessFlags := 10, code := some k1c1 }
def k1c2 : Code := { maxStack := 4, maxLocals := 13, code := code, exceptionTable := #[], attributes := #[] }
def k1m2 : Method := { name := "law", desc := "(JJI)Z", sig := { parameters := [.long, .long, .int], returnType := some .boolean }, accessFlags := 9, code := some k1c2 }
/-- io/watchring/service/ForwardAllowanceBetweenPinLaw -/
def k1 : Class := { plain "io/watchring/service/ForwardAllowanceBetweenPinLaw" (some 0) with
  accessFlags := 49
  interfaces := #[]
  cf := some (fileOf pool1 18 #[] #[{ accessFlags := 2, nameIndex := 5, descriptorIndex := 6, attributes := #[] }, { accessFlags := 10, nameIndex := 21, descriptorIndex := 22, attributes := #[] }, { accessFlags := 9, nameIndex := 32, descriptorIndex := 33, attributes := #[] }] 49 2 #[] #[])
  fields := #[]
  methods := #[k1m0, k1m1, k1m2]
  instanceTypes := #[]
  staticTypes := #[]
  resolved := Array.replicate 36 none
  statics := none }

def pool2 : Array CpInfo := pool [(4, .class_ 6), (1, u "java/lang/Object"), (3, .class_ 12), (1, u "io/watchring/service/ForwardAllowance"), (0, u "ring"), (0, u "Lio/watchring/service/Ring;"), (2, u "timing"), (0, u "Lio/watchring/service/Timing;"), (2, u "environment"), (0, u "Lio/watchring/service/Environment;"), (2, u "aliveQuestions"), (0, u "Lio/watchring/service/AliveQuestions;"), (33, u "between"), (0, u "(JJ)J"), (166, .long 9223372036854775808), (1, .long 9223372036854775807), (1, u "MOST_RESENDS_BY_ROUTING"), (0, u "I")] 43

def k2c0 : Code := { maxStack := 6, maxLocals := 7, code := prog_89_method_18_code, exceptionTable := #[], attributes := #[] }
def k2m0 : Method := { name := "between", desc := "(JJ)J", sig := { parameters := [.long, .long], returnType := some .long }, accessFlags := 8, code := some k2c0 }
/-- io/watchring/service/ForwardAllowance -/
def k2 : Class := { plain "io/watchring/service/ForwardAllowance" (some 0) with
  accessFlags := 48
  interfaces := #[]
  cf := some (fileOf pool2 10 #[] #[{ accessFlags := 8, nameIndex := 60, descriptorIndex := 61, attributes := #[] }] 48 4 #[] #[{ accessFlags := 26, nameIndex := 232, descriptorIndex := 233, attributes := #[] }, { accessFlags := 18, nameIndex := 13, descriptorIndex := 14, attributes := #[] }, { accessFlags := 18, nameIndex := 17, descriptorIndex := 18, attributes := #[] }, { accessFlags := 18, nameIndex := 21, descriptorIndex := 22, attributes := #[] }, { accessFlags := 18, nameIndex := 25, descriptorIndex := 26, attributes := #[] }])
  fields := #[{ name := "MOST_RESENDS_BY_ROUTING", type := .int, accessFlags := 26, slot := 0, constantValue := 0 }, { name := "ring", type := (.object "io/watchring/service/Ring"), accessFlags := 18, slot := 0, constantValue := 0 }, { name := "timing", type := (.object "io/watchring/service/Timing"), accessFlags := 18, slot := 1, constantValue := 0 }, { name := "environment", type := (.object "io/watchring/service/Environment"), accessFlags := 18, slot := 2, constantValue := 0 }, { name := "aliveQuestions", type := (.object "io/watchring/service/AliveQuestions"), accessFlags := 18, slot := 3, constantValue := 0 }]
  methods := #[k2m0]
  instanceTypes := #[(.object "io/watchring/service/Ring"), (.object "io/watchring/service/Timing"), (.object "io/watchring/service/Environment"), (.object "io/watchring/service/AliveQuestions")]
  staticTypes := #[.int]
  resolved := Array.replicate 277 none
  statics := none }

def pool3 : Array CpInfo := pool [(1, u "java/lang/Cloneable"), (0, .class_ 1), (0, u "java/lang/Object"), (0, .class_ 3)] 3

/-- java/lang/Cloneable -/
def k3 : Class := { plain "java/lang/Cloneable" (some 0) with
  accessFlags := 1537
  interfaces := #[]
  cf := some (fileOf pool3 2 #[] #[] 1537 4 #[] #[])
  fields := #[]
  methods := #[]
  instanceTypes := #[]
  staticTypes := #[]
  resolved := Array.replicate 8 none
  statics := none }

def pool4 : Array CpInfo := pool [(1, u "java/io/Serializable"), (0, .class_ 1), (0, u "java/lang/Object"), (0, .class_ 3)] 3

/-- java/io/Serializable -/
def k4 : Class := { plain "java/io/Serializable" (some 0) with
  accessFlags := 1537
  interfaces := #[]
  cf := some (fileOf pool4 2 #[] #[] 1537 4 #[] #[])
  fields := #[]
  methods := #[]
  instanceTypes := #[]
  staticTypes := #[]
  resolved := Array.replicate 8 none
  statics := none }

/-- the primitive byte -/
def k5 : Class := { plain "byte" none with kind := .primitive 'B', accessFlags := 0x411 }
/-- [B -/
def k6 : Class := { plain "[B" (some 0) with kind := .array 5 .byte, interfaces := #[3, 4], accessFlags := 1041 }

/-- the primitive int -/
def k7 : Class := { plain "int" none with kind := .primitive 'I', accessFlags := 0x411 }
/-- [I -/
def k8 : Class := { plain "[I" (some 0) with kind := .array 7 .int, interfaces := #[3, 4], accessFlags := 1041 }

def heap : Heap := #[]
def classes : Array Class := #[k0, k1, k2, k3, k4, k5, k6, k7, k8]
def interned : List (Array UInt16 × Addr) := []
def slotsUsed : Nat := 0
def theMethod : MethodId := ⟨1, 2⟩
def args0 : Array Value := #[.long 5, .long 9, .int 0]
def aboutOver (below : List Frame) : State where
  vm := { classes := classes, interned := interned.toArray }
  heap := heap
  slotsUsed := slotsUsed
  threads := #[{ frames := .invoking theMethod args0 :: below }]
def below0 : List Frame := [.native { method := ⟨0, 0⟩, args := #[] }]
def about1 : State := aboutOver below0
def p0 : Program := .bare "" "" ""
def e0 : Env := launch0.env 0 0 0
theorem w_frames : about1.frames = Frame.invoking theMethod args0 :: below0 := rfl
set_option maxRecDepth 65536 in
theorem w_args : argsFit about1.vm theMethod args0 = true := by decide +kernel
set_option maxRecDepth 65536 in
theorem w_heap : heapFits about1 = true := by decide +kernel
set_option maxRecDepth 65536 in
theorem w_runnable : about1.curStatus? = some .runnable := by decide +kernel
set_option maxRecDepth 65536 in
theorem w_alone : about1.alone = true := by decide +kernel
set_option maxRecDepth 65536 in
theorem w_named : about1.methodNamed? x = some theMethod := by decide +kernel
set_option maxRecDepth 65536 in
theorem w_hears : about1.hears theMethod below0 = true := by decide +kernel
set_option maxRecDepth 65536 in
theorem w_ripe : about1.ripe theMethod args0 below0 = true := by decide +kernel
theorem w_running : about1.status = .running := rfl
set_option maxRecDepth 65536 in
theorem w_room : about1.hasRoom e0.platform room_1 = true :=
  launch0.hasRoom_least _ room_1 (by decide +kernel) (by decide +kernel) (by decide +kernel) (by decide +kernel) (by decide +kernel) (by decide +kernel)
theorem allAtoms_all (ts : List Jvm.Cond) (a : Array Jvm.Value) (st : Jvm.State) : (allAtoms ts).before a st = ts.all (fun c => c.before a st) := by
  induction ts with
  | nil => rfl
  | cons c t ih =>
    show (Jvm.Cond.and c (allAtoms t)).before a st = _
    rw [Jvm.Cond.before_and, ih, List.all_cons]
def words1 : List Jvm.Cond := Jvm.Cond.code x code maxLocals ret :: tables_1
/-- a 'code' word, met by the world's own term for the bytes: nothing is compared byte by byte -/
theorem code_word {y : MethodName} {bytes : ByteArray} {mx : Nat} {rt : Option FieldType} {a : Array Value} {s : State} {m : MethodId} {meth : Method} {c : Code} (h1 : s.methodNamed? y = some m) (h2 : s.vm.method? m = some meth) (h3 : meth.code = some c) (h4 : c.code = bytes)
    (h5 : (c.maxLocals == mx && c.exceptionTable.isEmpty && decide (c.maxStack ≤ mostOperands) && decide (meth.sig.returnType = rt) && !meth.locks && decide (parseMethodDescriptor y.desc = some meth.sig)) = true) : (Jvm.Cond.code y bytes mx rt).before a s = true := by
  simp only [Bool.and_eq_true, beq_iff_eq, Bool.not_eq_true', decide_eq_true_eq] at h5
  obtain ⟨⟨⟨⟨⟨g1, g2⟩, g3⟩, g4⟩, g5⟩, g6⟩ := h5
  simp [Cond.before, Cond.holds, Cond.value, h1, h2, h3, h4, g1, g2, g3, g4, g5, g6]
def isCode : Jvm.Cond → Bool
  | .code _ _ _ _ => true
  | _ => false
theorem all_split {L : List Jvm.Cond} {P : Jvm.Cond → Bool} (h1 : L.all (fun c => isCode c || P c) = true) (h2 : ∀ c ∈ L.filter isCode, P c = true) : L.all P = true := by
  refine List.all_eq_true.mpr fun c hc => ?_
  have h := List.all_eq_true.mp h1 c hc
  rcases Bool.eq_false_or_eq_true (isCode c) with hi | hi
  · exact h2 c (List.mem_filter.mpr ⟨hc, hi⟩)
  · simpa [hi] using h
set_option maxRecDepth 65536 in
theorem w_c0 : (Jvm.Cond.code x code maxLocals ret).before args0 about1 = true := code_word (m := ⟨1, 2⟩) (meth := k1m2) (c := k1c2) (by decide +kernel) rfl rfl rfl (by decide +kernel)
set_option maxRecDepth 65536 in
theorem w_c1 : (Jvm.Cond.code ({ cls := "io/watchring/service/ForwardAllowanceBetweenPinLaw", name := "pick", desc := "(JI)J" } : Jvm.MethodName) method_2_code (4 : Nat) (Option.some Jvm.ClassFile.FieldType.long)).before args0 about1 = true := code_word (m := ⟨1, 1⟩) (meth := k1m1) (c := k1c1) (by decide +kernel) rfl rfl rfl (by decide +kernel)
set_option maxRecDepth 65536 in
theorem w_c2 : (Jvm.Cond.code ({ cls := "io/watchring/service/ForwardAllowance", name := "between", desc := "(JJ)J" } : Jvm.MethodName) prog_89_method_18_code (7 : Nat) (Option.some Jvm.ClassFile.FieldType.long)).before args0 about1 = true := code_word (m := ⟨2, 0⟩) (meth := k2m0) (c := k2c0) (by decide +kernel) rfl rfl rfl (by decide +kernel)
def codes1 : List Jvm.Cond := [Jvm.Cond.code x code maxLocals ret, Jvm.Cond.code ({ cls := "io/watchring/service/ForwardAllowanceBetweenPinLaw", name := "pick", desc := "(JI)J" } : Jvm.MethodName) method_2_code (4 : Nat) (Option.some Jvm.ClassFile.FieldType.long), Jvm.Cond.code ({ cls := "io/watchring/service/ForwardAllowance", name := "between", desc := "(JJ)J" } : Jvm.MethodName) prog_89_method_18_code (7 : Nat) (Option.some Jvm.ClassFile.FieldType.long)]
set_option maxRecDepth 65536 in
theorem codes_eq : words1.filter isCode = codes1 := rfl
theorem w_codes : ∀ c ∈ words1.filter isCode, c.before args0 about1 = true := by
  rw [codes_eq]
  intro c hc
  simp only [codes1, List.mem_cons, List.not_mem_nil, or_false] at hc
  rcases hc with rfl | rfl | rfl
  · exact w_c0
  · exact w_c1
  · exact w_c2
set_option maxRecDepth 65536 in
theorem w_t1 : words1.all (fun c => isCode c || c.before args0 about1) = true := by decide +kernel
theorem w_tables : (allAtoms (Jvm.Cond.code x code maxLocals ret :: tables_1)).before args0 about1 = true := by
  rw [allAtoms_all]
  show words1.all (fun c => c.before args0 about1) = true
  refine all_split ?_ w_codes
  rw [w_t1]
set_option maxRecDepth 65536 in
theorem w_case : (Jvm.Cond.and given_1 narrow_1).before args0 about1 = true := by decide +kernel
theorem w_applies : (headSpec (Jvm.Cond.code x code maxLocals ret :: tables_1) room_1).applies x e0.platform about1 = true :=
  (Spec.applies_iff w_frames).mpr ⟨w_running, w_runnable, w_alone, w_named, w_hears, w_ripe, w_room, w_tables⟩
theorem atStart : AtStart classFile x code maxLocals ret World_1 tables_1 room_1 Calls_1 rest_1 Pre_1 launch0 p0 e0 about1 theMethod args0 below0 :=
  ⟨lists_1, trivial, launch0.admits_env _ _ _, launch0.least_env, fairChoices_fair.cas, fairChoices_fair.clock, w_frames, w_args, w_heap, w_applies, trivial, trivial, w_case⟩
end start1
theorem witness_1 : WitnessClaimed_1 := ⟨start1.p0, start1.e0, start1.about1, start1.theMethod, start1.args0, start1.below0, start1.atStart⟩
end Jvm.Pilot.@@N@@
