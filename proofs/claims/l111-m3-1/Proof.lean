import JvmDerived
import JvmDerived.Pilot.@@N@@Statement
import JvmDerived.Pilot.@@N@@Code
set_option linter.unusedVariables false
set_option linter.unusedSimpArgs false
namespace Jvm.RoadKit
open Sem ClassFile Op Lib Jvm.Stand Jvm.Free Jvm.LawKit
section New
variable {p : Program} {l : Launch} {e : Env} {R : Room} {s : State} {m : MethodId} {args : Array Value} {below : List Frame} {meth : Method} {c : Code} {T : State} {locs : List Loc} {cells slots : Nat}
theorem retI (X : Stand p l e R s m args below meth c T locs cells slots) (hx : p.tables.exec = Jvm.exec) {pc : Nat} {Ls : Array Slot} {z : Int32} {rest : List Value} (hret : meth.sig.returnType = some .int) (hd : decode c.code pc = .ok (.ireturn, 1)) {fs : List Frame}
    (hl : ∀ (f : JFrame) (acts : List Action), f.method = m → f.locked = none → f.entered = [] → (doReturn e (T.setTop f) acts (some (.int z))).1 = T.setFrames fs) : Steps p.tables e below (T.setTop (mkF m pc Ls (.int z :: rest))) (T.setFrames fs) := by
  have hm' : T.vm.method? m = some meth := X.method'
  have hn : narrow .int (.int z) = .int z := rfl
  show Steps p.tables e below (T.setTop { method := m, pc := pc, locals := Ls, stack := _ :: rest, locked := none }) _
  jvm_step X.here [X.here.top, hx, hd, hm', hret, hn]
  first | (intro acts; rw [hl _ acts rfl rfl rfl]) | rw [hl _ _ rfl rfl rfl]
  exact Steps.refl _
end New
end Jvm.RoadKit
namespace Jvm.Pilot.@@N@@
open Jvm Jvm.ClassFile Sem Op Lib Jvm.Free Jvm.Stand Jvm.LawKit Jvm.RoadKit Bundle Jvm.Pilot.@@N@@.Jvm.D
def QP (r : Option Value) (h0 : Heap) (n0 : Nat) (v : Option Value) (h : Heap) (L : List Loc) : Prop := v = r ∧ Fr n0 L ∧ h = h0
def Q0 (n0 : Nat) (v : Option Value) (L : List Loc) : Prop := v = some (.int 1) ∧ Fr n0 L
theorem own_static {args : Array Value} {s : State} {C n d K : String} (h1 : (Jvm.Cond.exactly (Term.static C n d) K).value args s none s [] = some true) (hi : (Jvm.Cond.initialized C).before args s = true) (hl : (Jvm.Cond.laysStatic C n d).before args s = true) :
    ∃ w, (Term.static C n d).eval args s none [] s = some (.ref w) ∧ Sta s s.heap C n d (.ref w) ∧ Exa s s.heap w K := by
  obtain ⟨w, ev⟩ := exa_v h1
  exact ⟨w, ev, Sta.start ev (Or.inr ⟨hi, hl⟩), Exa.start ev h1⟩
theorem own_fld {args : Array Value} {s : State} {t : Term} {C n d : String} {w : Addr} {k : Int32} (ev : t.eval args s none [] s = some (.ref w)) (h : (Jvm.Cond.eq (Term.field t C n d) (Term.int k)).value args s none s [] = some true) : s.fieldOf? w C n d = some (.int k) := by
  obtain ⟨x, y, hx, hy, -, hk⟩ := cmp_v (Or.inl h)
  obtain rfl : Value.int k = y := Option.some.inj ((Term.int_eval k).symm.trans hy)
  obtain ⟨z, rfl⟩ := hk
  obtain rfl : z = k := gotT (Jvm.Cond.eq_ints hx (Term.int_eval k)) h
  rw [← fld_at ev]; exact hx
theorem own_ne {s : State} {C n d : String} {w w' : Addr} {k k' : Int32} (h1 : s.fieldOf? w C n d = some (.int k)) (h2 : s.fieldOf? w' C n d = some (.int k')) (hk : k ≠ k') : ¬ w = w' := fun e => hk (by subst e; rw [h1] at h2; injection h2 with q; injection q)
def Ws (Z : State) (h : Heap) (w_INVOICE_NUMBER w_INVOICE_DATE w_CUSTOMER_REFERENCE w_VAT_NUMBER w_VAT_DATE w_VAT_PERIOD w_VAT_DETAILS w_IMPORT_TAX w_CONDITIONS : Addr) : Prop := Sta Z h "com/example/rappen/rappen/bill/S1Key" "INVOICE_NUMBER" "Lcom/example/rappen/rappen/bill/S1Key;" (.ref w_INVOICE_NUMBER) ∧ Sta Z h "com/example/rappen/rappen/bill/S1Key" "INVOICE_DATE" "Lcom/example/rappen/rappen/bill/S1Key;" (.ref w_INVOICE_DATE) ∧ Sta Z h "com/example/rappen/rappen/bill/S1Key" "CUSTOMER_REFERENCE" "Lcom/example/rappen/rappen/bill/S1Key;" (.ref w_CUSTOMER_REFERENCE) ∧ Sta Z h "com/example/rappen/rappen/bill/S1Key" "VAT_NUMBER" "Lcom/example/rappen/rappen/bill/S1Key;" (.ref w_VAT_NUMBER) ∧ Sta Z h "com/example/rappen/rappen/bill/S1Key" "VAT_DATE" "Lcom/example/rappen/rappen/bill/S1Key;" (.ref w_VAT_DATE) ∧ Sta Z h "com/example/rappen/rappen/bill/S1Key" "VAT_PERIOD" "Lcom/example/rappen/rappen/bill/S1Key;" (.ref w_VAT_PERIOD) ∧ Sta Z h "com/example/rappen/rappen/bill/S1Key" "VAT_DETAILS" "Lcom/example/rappen/rappen/bill/S1Key;" (.ref w_VAT_DETAILS) ∧ Sta Z h "com/example/rappen/rappen/bill/S1Key" "IMPORT_TAX" "Lcom/example/rappen/rappen/bill/S1Key;" (.ref w_IMPORT_TAX) ∧ Sta Z h "com/example/rappen/rappen/bill/S1Key" "CONDITIONS" "Lcom/example/rappen/rappen/bill/S1Key;" (.ref w_CONDITIONS) ∧ Exa Z h w_INVOICE_NUMBER "com/example/rappen/rappen/bill/S1Key" ∧ Exa Z h w_INVOICE_DATE "com/example/rappen/rappen/bill/S1Key" ∧ Exa Z h w_CUSTOMER_REFERENCE "com/example/rappen/rappen/bill/S1Key" ∧ Exa Z h w_VAT_NUMBER "com/example/rappen/rappen/bill/S1Key" ∧ Exa Z h w_VAT_DATE "com/example/rappen/rappen/bill/S1Key" ∧ Exa Z h w_VAT_PERIOD "com/example/rappen/rappen/bill/S1Key" ∧ Exa Z h w_VAT_DETAILS "com/example/rappen/rappen/bill/S1Key" ∧ Exa Z h w_IMPORT_TAX "com/example/rappen/rappen/bill/S1Key" ∧ Exa Z h w_CONDITIONS "com/example/rappen/rappen/bill/S1Key" ∧ ¬ w_INVOICE_NUMBER = w_VAT_DETAILS ∧ ¬ w_INVOICE_DATE = w_VAT_DETAILS ∧ ¬ w_CUSTOMER_REFERENCE = w_VAT_DETAILS ∧ ¬ w_VAT_NUMBER = w_VAT_DETAILS ∧ ¬ w_VAT_DATE = w_VAT_DETAILS ∧ ¬ w_VAT_PERIOD = w_VAT_DETAILS ∧ ¬ w_VAT_DETAILS = w_IMPORT_TAX ∧ ¬ w_VAT_DETAILS = w_CONDITIONS
theorem d1_0 : decode method_2_code 0 = .ok (.iload_n 0, 1) := by decide +kernel
theorem d1_1 : decode method_2_code 1 = .ok (.ifCond .ne 7, 3) := by decide +kernel
theorem d1_4 : decode method_2_code 4 = .ok (.getstatic 7, 3) := by decide +kernel
theorem d1_7 : decode method_2_code 7 = .ok (.areturn, 1) := by decide +kernel
theorem pn_1 : plainName "com/example/rappen/rappen/bill/S1KeyLastPartOptionalAlonePinLaw" = true := by first | (simp [plainName, overriddenIn]; done) | decide +kernel
theorem ef_1 (m : MethodId) (x0 : Int32) : entryFrame m #[(.int x0)] 1 = mkF m 0 #[.val (.int x0)] [] := by first | (simp [entryFrame, mkF, argsToLocals, Value.category]; done) | rfl
set_option maxRecDepth 65536 in
set_option maxHeartbeats 40000000 in
theorem rm1_0 (l : Launch) (Z : State) (a0 : Array Value) (hw : ∀ d ∈ tables_1, d.before a0 Z = true) (ws : List Jvm.Cond) (p1 : Int32) (w_INVOICE_NUMBER w_INVOICE_DATE w_CUSTOMER_REFERENCE w_VAT_NUMBER w_VAT_DATE w_VAT_PERIOD w_VAT_DETAILS w_IMPORT_TAX w_CONDITIONS : Addr) (h0 : Heap) (n0 : Nat) (Z0 : n0 ≤ h0.size) (W : Ws Z h0 w_INVOICE_NUMBER w_INVOICE_DATE w_CUSTOMER_REFERENCE w_VAT_NUMBER w_VAT_DATE w_VAT_PERIOD w_VAT_DETAILS w_IMPORT_TAX w_CONDITIONS) (hc1 : p1 = (0 : Int32)) :
    MetFree l (⟨"com/example/rappen/rappen/bill/S1KeyLastPartOptionalAlonePinLaw", "pick", "(I)Lcom/example/rappen/rappen/bill/S1Key;"⟩ : MethodName) (head1 (Jvm.Cond.code (⟨"com/example/rappen/rappen/bill/S1KeyLastPartOptionalAlonePinLaw", "pick", "(I)Lcom/example/rappen/rappen/bill/S1Key;"⟩ : MethodName) method_2_code 1 (some (.object "com/example/rappen/rappen/bill/S1Key")) :: ws) ({ frames := 0, cells := 0, slots := 0, locals := 0 } : Room)) (fun a U => a = #[(.int p1)] ∧ Z.Warmed39 U.vm ∧ U.heap = h0) (fun _ _ _ _ _ => True) (fun _ U o U' => ∃ v L, o = .returned v ∧ QP (some (.ref w_INVOICE_NUMBER)) h0 n0 v U'.heap L ∧ FrameEnd U o U' L ({ frames := 0, cells := 0, slots := 0, locals := 0 } : Room).cells ({ frames := 0, cells := 0, slots := 0, locals := 0 } : Room).slots) := by
  refine MetFree.of_bodySF (plainFor_of_name pn_1) hisR ?_
  intro p e s m args below meth c s₁ Bd hml0 hP hK
  obtain ⟨rfl, hZ, hh⟩ := hP
  have hx := Bd.exec
  have hby := Bd.bytes
  have hml : c.maxLocals = 1 := hml0
  have hown : s.vm.findClass "com/example/rappen/rappen/bill/S1KeyLastPartOptionalAlonePinLaw" = some m.cls := findClass_of_methodNamed Bd.named
  have hnm := (name_of_methodNamed Bd.named Bd.method).1
  have X0 : Stand p l e ({ frames := 0, cells := 0, slots := 0, locals := 0 } : Room) s m #[(.int p1)] below meth c s₁ [] 0 0 := Stand.of_body Bd
  have e0 : s₁.heap = h0 := by rw [← hh, Bd.state]; rfl
  have N0 := Fr.nil n0
  have pre0 : ∀ t, Steps p.tables e below (s₁.setTop (mkF m 0 #[.val (.int p1)] [])) t → Steps p.tables e below (s₁.setTop (entryFrame m #[(.int p1)] 1)) t := fun t k => castTop (ef_1 m p1) k
  obtain ⟨S_INVOICE_NUMBER, S_INVOICE_DATE, S_CUSTOMER_REFERENCE, S_VAT_NUMBER, S_VAT_DATE, S_VAT_PERIOD, S_VAT_DETAILS, S_IMPORT_TAX, S_CONDITIONS, E_w_INVOICE_NUMBER, E_w_INVOICE_DATE, E_w_CUSTOMER_REFERENCE, E_w_VAT_NUMBER, E_w_VAT_DATE, E_w_VAT_PERIOD, E_w_VAT_DETAILS, E_w_IMPORT_TAX, E_w_CONDITIONS, n_INVOICE_NUMBER_VAT_DETAILS, n_INVOICE_DATE_VAT_DETAILS, n_CUSTOMER_REFERENCE_VAT_DETAILS, n_VAT_NUMBER_VAT_DETAILS, n_VAT_DATE_VAT_DETAILS, n_VAT_PERIOD_VAT_DETAILS, n_VAT_DETAILS_IMPORT_TAX, n_VAT_DETAILS_CONDITIONS⟩ := W
  obtain ⟨T2, X2, e2, st2⟩ := getS2 X0 hx hZ hown (host := "") (Or.inl (hw _ (List.mem_of_getElem? (i := 5) rfl))) Via.refl e0 S_INVOICE_NUMBER (g := (mkF m 4 #[.val (.int p1)] [])) rfl (hb hby d1_4)
  obtain ⟨fs, hr, hrun, hended, hW, hsame⟩ := X2.leave (v := some (.ref w_INVOICE_NUMBER)) (fun h => by rw [Bd.returns] at h; cases h)
  refine ⟨_, _, pre0 _ ?_, hrun, hended, _, _, rfl, ?_, ⟨_, rfl⟩, hW, hsame.mono (by decide) (by decide)⟩
  · show Steps p.tables e below (s₁.setTop (mkF m 0 #[.val (.int p1)] [])) _
    refine XS.iloadN X0.here hx rfl (hb hby d1_0) rfl ?_
    show Steps p.tables e below (s₁.setTop (mkF m 1 #[.val (.int p1)] [(.int p1)])) _
    refine XS.ifNo X0.here hx rfl (hb hby d1_1) rfl ((if0 _ _).trans (teq hc1).2) ?_
    show Steps p.tables e below (s₁.setTop (mkF m 4 #[.val (.int p1)] [])) _
    refine st2 _ ?_
    show Steps p.tables e below (T2.setTop (mkF m 7 #[.val (.int p1)] [(.ref w_INVOICE_NUMBER)])) _
    jvm_step X2.here [X2.here.top, hx, (hb hby d1_7), X2.method', Bd.returns, Value.isRef, FieldType.isReference]
    first | (intro acts; rw [hr _ acts rfl rfl rfl]) | rw [hr _ _ rfl rfl rfl]
    exact Steps.refl _
  · show QP (some (.ref w_INVOICE_NUMBER)) h0 n0 _ T2.heap _
    rw [e2]
    exact ⟨rfl, N0, rfl⟩
theorem d1_8 : decode method_2_code 8 = .ok (.iload_n 0, 1) := by decide +kernel
theorem d1_9 : decode method_2_code 9 = .ok (.iconst 1, 1) := by decide +kernel
theorem d1_10 : decode method_2_code 10 = .ok (.if_icmp .ne 7, 3) := by decide +kernel
theorem d1_13 : decode method_2_code 13 = .ok (.getstatic 13, 3) := by decide +kernel
theorem d1_16 : decode method_2_code 16 = .ok (.areturn, 1) := by decide +kernel
set_option maxRecDepth 65536 in
set_option maxHeartbeats 40000000 in
theorem rm1_1 (l : Launch) (Z : State) (a0 : Array Value) (hw : ∀ d ∈ tables_1, d.before a0 Z = true) (ws : List Jvm.Cond) (p1 : Int32) (w_INVOICE_NUMBER w_INVOICE_DATE w_CUSTOMER_REFERENCE w_VAT_NUMBER w_VAT_DATE w_VAT_PERIOD w_VAT_DETAILS w_IMPORT_TAX w_CONDITIONS : Addr) (h0 : Heap) (n0 : Nat) (Z0 : n0 ≤ h0.size) (W : Ws Z h0 w_INVOICE_NUMBER w_INVOICE_DATE w_CUSTOMER_REFERENCE w_VAT_NUMBER w_VAT_DATE w_VAT_PERIOD w_VAT_DETAILS w_IMPORT_TAX w_CONDITIONS) (hc1 : ¬ (p1 = (0 : Int32))) (hc10 : p1 = (1 : Int32)) :
    MetFree l (⟨"com/example/rappen/rappen/bill/S1KeyLastPartOptionalAlonePinLaw", "pick", "(I)Lcom/example/rappen/rappen/bill/S1Key;"⟩ : MethodName) (head1 (Jvm.Cond.code (⟨"com/example/rappen/rappen/bill/S1KeyLastPartOptionalAlonePinLaw", "pick", "(I)Lcom/example/rappen/rappen/bill/S1Key;"⟩ : MethodName) method_2_code 1 (some (.object "com/example/rappen/rappen/bill/S1Key")) :: ws) ({ frames := 0, cells := 0, slots := 0, locals := 0 } : Room)) (fun a U => a = #[(.int p1)] ∧ Z.Warmed39 U.vm ∧ U.heap = h0) (fun _ _ _ _ _ => True) (fun _ U o U' => ∃ v L, o = .returned v ∧ QP (some (.ref w_INVOICE_DATE)) h0 n0 v U'.heap L ∧ FrameEnd U o U' L ({ frames := 0, cells := 0, slots := 0, locals := 0 } : Room).cells ({ frames := 0, cells := 0, slots := 0, locals := 0 } : Room).slots) := by
  refine MetFree.of_bodySF (plainFor_of_name pn_1) hisR ?_
  intro p e s m args below meth c s₁ Bd hml0 hP hK
  obtain ⟨rfl, hZ, hh⟩ := hP
  have hx := Bd.exec
  have hby := Bd.bytes
  have hml : c.maxLocals = 1 := hml0
  have hown : s.vm.findClass "com/example/rappen/rappen/bill/S1KeyLastPartOptionalAlonePinLaw" = some m.cls := findClass_of_methodNamed Bd.named
  have hnm := (name_of_methodNamed Bd.named Bd.method).1
  have X0 : Stand p l e ({ frames := 0, cells := 0, slots := 0, locals := 0 } : Room) s m #[(.int p1)] below meth c s₁ [] 0 0 := Stand.of_body Bd
  have e0 : s₁.heap = h0 := by rw [← hh, Bd.state]; rfl
  have N0 := Fr.nil n0
  have pre0 : ∀ t, Steps p.tables e below (s₁.setTop (mkF m 0 #[.val (.int p1)] [])) t → Steps p.tables e below (s₁.setTop (entryFrame m #[(.int p1)] 1)) t := fun t k => castTop (ef_1 m p1) k
  obtain ⟨S_INVOICE_NUMBER, S_INVOICE_DATE, S_CUSTOMER_REFERENCE, S_VAT_NUMBER, S_VAT_DATE, S_VAT_PERIOD, S_VAT_DETAILS, S_IMPORT_TAX, S_CONDITIONS, E_w_INVOICE_NUMBER, E_w_INVOICE_DATE, E_w_CUSTOMER_REFERENCE, E_w_VAT_NUMBER, E_w_VAT_DATE, E_w_VAT_PERIOD, E_w_VAT_DETAILS, E_w_IMPORT_TAX, E_w_CONDITIONS, n_INVOICE_NUMBER_VAT_DETAILS, n_INVOICE_DATE_VAT_DETAILS, n_CUSTOMER_REFERENCE_VAT_DETAILS, n_VAT_NUMBER_VAT_DETAILS, n_VAT_DATE_VAT_DETAILS, n_VAT_PERIOD_VAT_DETAILS, n_VAT_DETAILS_IMPORT_TAX, n_VAT_DETAILS_CONDITIONS⟩ := W
  obtain ⟨T2, X2, e2, st2⟩ := getS2 X0 hx hZ hown (host := "") (Or.inl (hw _ (List.mem_of_getElem? (i := 26) rfl))) Via.refl e0 S_INVOICE_DATE (g := (mkF m 13 #[.val (.int p1)] [])) rfl (hb hby d1_13)
  obtain ⟨fs, hr, hrun, hended, hW, hsame⟩ := X2.leave (v := some (.ref w_INVOICE_DATE)) (fun h => by rw [Bd.returns] at h; cases h)
  refine ⟨_, _, pre0 _ ?_, hrun, hended, _, _, rfl, ?_, ⟨_, rfl⟩, hW, hsame.mono (by decide) (by decide)⟩
  · show Steps p.tables e below (s₁.setTop (mkF m 0 #[.val (.int p1)] [])) _
    refine XS.iloadN X0.here hx rfl (hb hby d1_0) rfl ?_
    show Steps p.tables e below (s₁.setTop (mkF m 1 #[.val (.int p1)] [(.int p1)])) _
    refine XS.ifYes X0.here hx rfl (pc0 := 1) (pc' := 8) rfl (hb hby d1_1) rfl ((if0 _ _).trans (feq hc1).2) (by decide) (by decide) ?_
    show Steps p.tables e below (s₁.setTop (mkF m 8 #[.val (.int p1)] [])) _
    refine XS.iloadN X0.here hx rfl (hb hby d1_8) rfl ?_
    show Steps p.tables e below (s₁.setTop (mkF m 9 #[.val (.int p1)] [(.int p1)])) _
    refine XS.iconst X0.here hx rfl (hb hby d1_9) ?_
    show Steps p.tables e below (s₁.setTop (mkF m 10 #[.val (.int p1)] [(.int (1 : Int32)), (.int p1)])) _
    refine XS.icmpNo X0.here hx rfl (hb hby d1_10) rfl (teq hc10).2 ?_
    show Steps p.tables e below (s₁.setTop (mkF m 13 #[.val (.int p1)] [])) _
    refine st2 _ ?_
    show Steps p.tables e below (T2.setTop (mkF m 16 #[.val (.int p1)] [(.ref w_INVOICE_DATE)])) _
    jvm_step X2.here [X2.here.top, hx, (hb hby d1_16), X2.method', Bd.returns, Value.isRef, FieldType.isReference]
    first | (intro acts; rw [hr _ acts rfl rfl rfl]) | rw [hr _ _ rfl rfl rfl]
    exact Steps.refl _
  · show QP (some (.ref w_INVOICE_DATE)) h0 n0 _ T2.heap _
    rw [e2]
    exact ⟨rfl, N0, rfl⟩
theorem d1_17 : decode method_2_code 17 = .ok (.iload_n 0, 1) := by decide +kernel
theorem d1_18 : decode method_2_code 18 = .ok (.iconst 2, 1) := by decide +kernel
theorem d1_19 : decode method_2_code 19 = .ok (.if_icmp .ne 7, 3) := by decide +kernel
theorem d1_22 : decode method_2_code 22 = .ok (.getstatic 16, 3) := by decide +kernel
theorem d1_25 : decode method_2_code 25 = .ok (.areturn, 1) := by decide +kernel
set_option maxRecDepth 65536 in
set_option maxHeartbeats 40000000 in
theorem rm1_2 (l : Launch) (Z : State) (a0 : Array Value) (hw : ∀ d ∈ tables_1, d.before a0 Z = true) (ws : List Jvm.Cond) (p1 : Int32) (w_INVOICE_NUMBER w_INVOICE_DATE w_CUSTOMER_REFERENCE w_VAT_NUMBER w_VAT_DATE w_VAT_PERIOD w_VAT_DETAILS w_IMPORT_TAX w_CONDITIONS : Addr) (h0 : Heap) (n0 : Nat) (Z0 : n0 ≤ h0.size) (W : Ws Z h0 w_INVOICE_NUMBER w_INVOICE_DATE w_CUSTOMER_REFERENCE w_VAT_NUMBER w_VAT_DATE w_VAT_PERIOD w_VAT_DETAILS w_IMPORT_TAX w_CONDITIONS) (hc1 : ¬ (p1 = (0 : Int32))) (hc10 : ¬ (p1 = (1 : Int32))) (hc19 : p1 = (2 : Int32)) :
    MetFree l (⟨"com/example/rappen/rappen/bill/S1KeyLastPartOptionalAlonePinLaw", "pick", "(I)Lcom/example/rappen/rappen/bill/S1Key;"⟩ : MethodName) (head1 (Jvm.Cond.code (⟨"com/example/rappen/rappen/bill/S1KeyLastPartOptionalAlonePinLaw", "pick", "(I)Lcom/example/rappen/rappen/bill/S1Key;"⟩ : MethodName) method_2_code 1 (some (.object "com/example/rappen/rappen/bill/S1Key")) :: ws) ({ frames := 0, cells := 0, slots := 0, locals := 0 } : Room)) (fun a U => a = #[(.int p1)] ∧ Z.Warmed39 U.vm ∧ U.heap = h0) (fun _ _ _ _ _ => True) (fun _ U o U' => ∃ v L, o = .returned v ∧ QP (some (.ref w_CUSTOMER_REFERENCE)) h0 n0 v U'.heap L ∧ FrameEnd U o U' L ({ frames := 0, cells := 0, slots := 0, locals := 0 } : Room).cells ({ frames := 0, cells := 0, slots := 0, locals := 0 } : Room).slots) := by
  refine MetFree.of_bodySF (plainFor_of_name pn_1) hisR ?_
  intro p e s m args below meth c s₁ Bd hml0 hP hK
  obtain ⟨rfl, hZ, hh⟩ := hP
  have hx := Bd.exec
  have hby := Bd.bytes
  have hml : c.maxLocals = 1 := hml0
  have hown : s.vm.findClass "com/example/rappen/rappen/bill/S1KeyLastPartOptionalAlonePinLaw" = some m.cls := findClass_of_methodNamed Bd.named
  have hnm := (name_of_methodNamed Bd.named Bd.method).1
  have X0 : Stand p l e ({ frames := 0, cells := 0, slots := 0, locals := 0 } : Room) s m #[(.int p1)] below meth c s₁ [] 0 0 := Stand.of_body Bd
  have e0 : s₁.heap = h0 := by rw [← hh, Bd.state]; rfl
  have N0 := Fr.nil n0
  have pre0 : ∀ t, Steps p.tables e below (s₁.setTop (mkF m 0 #[.val (.int p1)] [])) t → Steps p.tables e below (s₁.setTop (entryFrame m #[(.int p1)] 1)) t := fun t k => castTop (ef_1 m p1) k
  obtain ⟨S_INVOICE_NUMBER, S_INVOICE_DATE, S_CUSTOMER_REFERENCE, S_VAT_NUMBER, S_VAT_DATE, S_VAT_PERIOD, S_VAT_DETAILS, S_IMPORT_TAX, S_CONDITIONS, E_w_INVOICE_NUMBER, E_w_INVOICE_DATE, E_w_CUSTOMER_REFERENCE, E_w_VAT_NUMBER, E_w_VAT_DATE, E_w_VAT_PERIOD, E_w_VAT_DETAILS, E_w_IMPORT_TAX, E_w_CONDITIONS, n_INVOICE_NUMBER_VAT_DETAILS, n_INVOICE_DATE_VAT_DETAILS, n_CUSTOMER_REFERENCE_VAT_DETAILS, n_VAT_NUMBER_VAT_DETAILS, n_VAT_DATE_VAT_DETAILS, n_VAT_PERIOD_VAT_DETAILS, n_VAT_DETAILS_IMPORT_TAX, n_VAT_DETAILS_CONDITIONS⟩ := W
  obtain ⟨T2, X2, e2, st2⟩ := getS2 X0 hx hZ hown (host := "") (Or.inl (hw _ (List.mem_of_getElem? (i := 24) rfl))) Via.refl e0 S_CUSTOMER_REFERENCE (g := (mkF m 22 #[.val (.int p1)] [])) rfl (hb hby d1_22)
  obtain ⟨fs, hr, hrun, hended, hW, hsame⟩ := X2.leave (v := some (.ref w_CUSTOMER_REFERENCE)) (fun h => by rw [Bd.returns] at h; cases h)
  refine ⟨_, _, pre0 _ ?_, hrun, hended, _, _, rfl, ?_, ⟨_, rfl⟩, hW, hsame.mono (by decide) (by decide)⟩
  · show Steps p.tables e below (s₁.setTop (mkF m 0 #[.val (.int p1)] [])) _
    refine XS.iloadN X0.here hx rfl (hb hby d1_0) rfl ?_
    show Steps p.tables e below (s₁.setTop (mkF m 1 #[.val (.int p1)] [(.int p1)])) _
    refine XS.ifYes X0.here hx rfl (pc0 := 1) (pc' := 8) rfl (hb hby d1_1) rfl ((if0 _ _).trans (feq hc1).2) (by decide) (by decide) ?_
    show Steps p.tables e below (s₁.setTop (mkF m 8 #[.val (.int p1)] [])) _
    refine XS.iloadN X0.here hx rfl (hb hby d1_8) rfl ?_
    show Steps p.tables e below (s₁.setTop (mkF m 9 #[.val (.int p1)] [(.int p1)])) _
    refine XS.iconst X0.here hx rfl (hb hby d1_9) ?_
    show Steps p.tables e below (s₁.setTop (mkF m 10 #[.val (.int p1)] [(.int (1 : Int32)), (.int p1)])) _
    refine XS.icmpYes X0.here hx rfl (pc0 := 10) (pc' := 17) rfl (hb hby d1_10) rfl (feq hc10).2 (by decide) (by decide) ?_
    show Steps p.tables e below (s₁.setTop (mkF m 17 #[.val (.int p1)] [])) _
    refine XS.iloadN X0.here hx rfl (hb hby d1_17) rfl ?_
    show Steps p.tables e below (s₁.setTop (mkF m 18 #[.val (.int p1)] [(.int p1)])) _
    refine XS.iconst X0.here hx rfl (hb hby d1_18) ?_
    show Steps p.tables e below (s₁.setTop (mkF m 19 #[.val (.int p1)] [(.int (2 : Int32)), (.int p1)])) _
    refine XS.icmpNo X0.here hx rfl (hb hby d1_19) rfl (teq hc19).2 ?_
    show Steps p.tables e below (s₁.setTop (mkF m 22 #[.val (.int p1)] [])) _
    refine st2 _ ?_
    show Steps p.tables e below (T2.setTop (mkF m 25 #[.val (.int p1)] [(.ref w_CUSTOMER_REFERENCE)])) _
    jvm_step X2.here [X2.here.top, hx, (hb hby d1_25), X2.method', Bd.returns, Value.isRef, FieldType.isReference]
    first | (intro acts; rw [hr _ acts rfl rfl rfl]) | rw [hr _ _ rfl rfl rfl]
    exact Steps.refl _
  · show QP (some (.ref w_CUSTOMER_REFERENCE)) h0 n0 _ T2.heap _
    rw [e2]
    exact ⟨rfl, N0, rfl⟩
theorem d1_26 : decode method_2_code 26 = .ok (.iload_n 0, 1) := by decide +kernel
theorem d1_27 : decode method_2_code 27 = .ok (.iconst 3, 1) := by decide +kernel
theorem d1_28 : decode method_2_code 28 = .ok (.if_icmp .ne 7, 3) := by decide +kernel
theorem d1_31 : decode method_2_code 31 = .ok (.getstatic 19, 3) := by decide +kernel
theorem d1_34 : decode method_2_code 34 = .ok (.areturn, 1) := by decide +kernel
set_option maxRecDepth 65536 in
set_option maxHeartbeats 40000000 in
theorem rm1_3 (l : Launch) (Z : State) (a0 : Array Value) (hw : ∀ d ∈ tables_1, d.before a0 Z = true) (ws : List Jvm.Cond) (p1 : Int32) (w_INVOICE_NUMBER w_INVOICE_DATE w_CUSTOMER_REFERENCE w_VAT_NUMBER w_VAT_DATE w_VAT_PERIOD w_VAT_DETAILS w_IMPORT_TAX w_CONDITIONS : Addr) (h0 : Heap) (n0 : Nat) (Z0 : n0 ≤ h0.size) (W : Ws Z h0 w_INVOICE_NUMBER w_INVOICE_DATE w_CUSTOMER_REFERENCE w_VAT_NUMBER w_VAT_DATE w_VAT_PERIOD w_VAT_DETAILS w_IMPORT_TAX w_CONDITIONS) (hc1 : ¬ (p1 = (0 : Int32))) (hc10 : ¬ (p1 = (1 : Int32))) (hc19 : ¬ (p1 = (2 : Int32))) (hc28 : p1 = (3 : Int32)) :
    MetFree l (⟨"com/example/rappen/rappen/bill/S1KeyLastPartOptionalAlonePinLaw", "pick", "(I)Lcom/example/rappen/rappen/bill/S1Key;"⟩ : MethodName) (head1 (Jvm.Cond.code (⟨"com/example/rappen/rappen/bill/S1KeyLastPartOptionalAlonePinLaw", "pick", "(I)Lcom/example/rappen/rappen/bill/S1Key;"⟩ : MethodName) method_2_code 1 (some (.object "com/example/rappen/rappen/bill/S1Key")) :: ws) ({ frames := 0, cells := 0, slots := 0, locals := 0 } : Room)) (fun a U => a = #[(.int p1)] ∧ Z.Warmed39 U.vm ∧ U.heap = h0) (fun _ _ _ _ _ => True) (fun _ U o U' => ∃ v L, o = .returned v ∧ QP (some (.ref w_VAT_NUMBER)) h0 n0 v U'.heap L ∧ FrameEnd U o U' L ({ frames := 0, cells := 0, slots := 0, locals := 0 } : Room).cells ({ frames := 0, cells := 0, slots := 0, locals := 0 } : Room).slots) := by
  refine MetFree.of_bodySF (plainFor_of_name pn_1) hisR ?_
  intro p e s m args below meth c s₁ Bd hml0 hP hK
  obtain ⟨rfl, hZ, hh⟩ := hP
  have hx := Bd.exec
  have hby := Bd.bytes
  have hml : c.maxLocals = 1 := hml0
  have hown : s.vm.findClass "com/example/rappen/rappen/bill/S1KeyLastPartOptionalAlonePinLaw" = some m.cls := findClass_of_methodNamed Bd.named
  have hnm := (name_of_methodNamed Bd.named Bd.method).1
  have X0 : Stand p l e ({ frames := 0, cells := 0, slots := 0, locals := 0 } : Room) s m #[(.int p1)] below meth c s₁ [] 0 0 := Stand.of_body Bd
  have e0 : s₁.heap = h0 := by rw [← hh, Bd.state]; rfl
  have N0 := Fr.nil n0
  have pre0 : ∀ t, Steps p.tables e below (s₁.setTop (mkF m 0 #[.val (.int p1)] [])) t → Steps p.tables e below (s₁.setTop (entryFrame m #[(.int p1)] 1)) t := fun t k => castTop (ef_1 m p1) k
  obtain ⟨S_INVOICE_NUMBER, S_INVOICE_DATE, S_CUSTOMER_REFERENCE, S_VAT_NUMBER, S_VAT_DATE, S_VAT_PERIOD, S_VAT_DETAILS, S_IMPORT_TAX, S_CONDITIONS, E_w_INVOICE_NUMBER, E_w_INVOICE_DATE, E_w_CUSTOMER_REFERENCE, E_w_VAT_NUMBER, E_w_VAT_DATE, E_w_VAT_PERIOD, E_w_VAT_DETAILS, E_w_IMPORT_TAX, E_w_CONDITIONS, n_INVOICE_NUMBER_VAT_DETAILS, n_INVOICE_DATE_VAT_DETAILS, n_CUSTOMER_REFERENCE_VAT_DETAILS, n_VAT_NUMBER_VAT_DETAILS, n_VAT_DATE_VAT_DETAILS, n_VAT_PERIOD_VAT_DETAILS, n_VAT_DETAILS_IMPORT_TAX, n_VAT_DETAILS_CONDITIONS⟩ := W
  obtain ⟨T2, X2, e2, st2⟩ := getS2 X0 hx hZ hown (host := "") (Or.inl (hw _ (List.mem_of_getElem? (i := 22) rfl))) Via.refl e0 S_VAT_NUMBER (g := (mkF m 31 #[.val (.int p1)] [])) rfl (hb hby d1_31)
  obtain ⟨fs, hr, hrun, hended, hW, hsame⟩ := X2.leave (v := some (.ref w_VAT_NUMBER)) (fun h => by rw [Bd.returns] at h; cases h)
  refine ⟨_, _, pre0 _ ?_, hrun, hended, _, _, rfl, ?_, ⟨_, rfl⟩, hW, hsame.mono (by decide) (by decide)⟩
  · show Steps p.tables e below (s₁.setTop (mkF m 0 #[.val (.int p1)] [])) _
    refine XS.iloadN X0.here hx rfl (hb hby d1_0) rfl ?_
    show Steps p.tables e below (s₁.setTop (mkF m 1 #[.val (.int p1)] [(.int p1)])) _
    refine XS.ifYes X0.here hx rfl (pc0 := 1) (pc' := 8) rfl (hb hby d1_1) rfl ((if0 _ _).trans (feq hc1).2) (by decide) (by decide) ?_
    show Steps p.tables e below (s₁.setTop (mkF m 8 #[.val (.int p1)] [])) _
    refine XS.iloadN X0.here hx rfl (hb hby d1_8) rfl ?_
    show Steps p.tables e below (s₁.setTop (mkF m 9 #[.val (.int p1)] [(.int p1)])) _
    refine XS.iconst X0.here hx rfl (hb hby d1_9) ?_
    show Steps p.tables e below (s₁.setTop (mkF m 10 #[.val (.int p1)] [(.int (1 : Int32)), (.int p1)])) _
    refine XS.icmpYes X0.here hx rfl (pc0 := 10) (pc' := 17) rfl (hb hby d1_10) rfl (feq hc10).2 (by decide) (by decide) ?_
    show Steps p.tables e below (s₁.setTop (mkF m 17 #[.val (.int p1)] [])) _
    refine XS.iloadN X0.here hx rfl (hb hby d1_17) rfl ?_
    show Steps p.tables e below (s₁.setTop (mkF m 18 #[.val (.int p1)] [(.int p1)])) _
    refine XS.iconst X0.here hx rfl (hb hby d1_18) ?_
    show Steps p.tables e below (s₁.setTop (mkF m 19 #[.val (.int p1)] [(.int (2 : Int32)), (.int p1)])) _
    refine XS.icmpYes X0.here hx rfl (pc0 := 19) (pc' := 26) rfl (hb hby d1_19) rfl (feq hc19).2 (by decide) (by decide) ?_
    show Steps p.tables e below (s₁.setTop (mkF m 26 #[.val (.int p1)] [])) _
    refine XS.iloadN X0.here hx rfl (hb hby d1_26) rfl ?_
    show Steps p.tables e below (s₁.setTop (mkF m 27 #[.val (.int p1)] [(.int p1)])) _
    refine XS.iconst X0.here hx rfl (hb hby d1_27) ?_
    show Steps p.tables e below (s₁.setTop (mkF m 28 #[.val (.int p1)] [(.int (3 : Int32)), (.int p1)])) _
    refine XS.icmpNo X0.here hx rfl (hb hby d1_28) rfl (teq hc28).2 ?_
    show Steps p.tables e below (s₁.setTop (mkF m 31 #[.val (.int p1)] [])) _
    refine st2 _ ?_
    show Steps p.tables e below (T2.setTop (mkF m 34 #[.val (.int p1)] [(.ref w_VAT_NUMBER)])) _
    jvm_step X2.here [X2.here.top, hx, (hb hby d1_34), X2.method', Bd.returns, Value.isRef, FieldType.isReference]
    first | (intro acts; rw [hr _ acts rfl rfl rfl]) | rw [hr _ _ rfl rfl rfl]
    exact Steps.refl _
  · show QP (some (.ref w_VAT_NUMBER)) h0 n0 _ T2.heap _
    rw [e2]
    exact ⟨rfl, N0, rfl⟩
theorem d1_35 : decode method_2_code 35 = .ok (.iload_n 0, 1) := by decide +kernel
theorem d1_36 : decode method_2_code 36 = .ok (.iconst 4, 1) := by decide +kernel
theorem d1_37 : decode method_2_code 37 = .ok (.if_icmp .ne 7, 3) := by decide +kernel
theorem d1_40 : decode method_2_code 40 = .ok (.getstatic 22, 3) := by decide +kernel
theorem d1_43 : decode method_2_code 43 = .ok (.areturn, 1) := by decide +kernel
set_option maxRecDepth 65536 in
set_option maxHeartbeats 40000000 in
theorem rm1_4 (l : Launch) (Z : State) (a0 : Array Value) (hw : ∀ d ∈ tables_1, d.before a0 Z = true) (ws : List Jvm.Cond) (p1 : Int32) (w_INVOICE_NUMBER w_INVOICE_DATE w_CUSTOMER_REFERENCE w_VAT_NUMBER w_VAT_DATE w_VAT_PERIOD w_VAT_DETAILS w_IMPORT_TAX w_CONDITIONS : Addr) (h0 : Heap) (n0 : Nat) (Z0 : n0 ≤ h0.size) (W : Ws Z h0 w_INVOICE_NUMBER w_INVOICE_DATE w_CUSTOMER_REFERENCE w_VAT_NUMBER w_VAT_DATE w_VAT_PERIOD w_VAT_DETAILS w_IMPORT_TAX w_CONDITIONS) (hc1 : ¬ (p1 = (0 : Int32))) (hc10 : ¬ (p1 = (1 : Int32))) (hc19 : ¬ (p1 = (2 : Int32))) (hc28 : ¬ (p1 = (3 : Int32))) (hc37 : p1 = (4 : Int32)) :
    MetFree l (⟨"com/example/rappen/rappen/bill/S1KeyLastPartOptionalAlonePinLaw", "pick", "(I)Lcom/example/rappen/rappen/bill/S1Key;"⟩ : MethodName) (head1 (Jvm.Cond.code (⟨"com/example/rappen/rappen/bill/S1KeyLastPartOptionalAlonePinLaw", "pick", "(I)Lcom/example/rappen/rappen/bill/S1Key;"⟩ : MethodName) method_2_code 1 (some (.object "com/example/rappen/rappen/bill/S1Key")) :: ws) ({ frames := 0, cells := 0, slots := 0, locals := 0 } : Room)) (fun a U => a = #[(.int p1)] ∧ Z.Warmed39 U.vm ∧ U.heap = h0) (fun _ _ _ _ _ => True) (fun _ U o U' => ∃ v L, o = .returned v ∧ QP (some (.ref w_VAT_DATE)) h0 n0 v U'.heap L ∧ FrameEnd U o U' L ({ frames := 0, cells := 0, slots := 0, locals := 0 } : Room).cells ({ frames := 0, cells := 0, slots := 0, locals := 0 } : Room).slots) := by
  refine MetFree.of_bodySF (plainFor_of_name pn_1) hisR ?_
  intro p e s m args below meth c s₁ Bd hml0 hP hK
  obtain ⟨rfl, hZ, hh⟩ := hP
  have hx := Bd.exec
  have hby := Bd.bytes
  have hml : c.maxLocals = 1 := hml0
  have hown : s.vm.findClass "com/example/rappen/rappen/bill/S1KeyLastPartOptionalAlonePinLaw" = some m.cls := findClass_of_methodNamed Bd.named
  have hnm := (name_of_methodNamed Bd.named Bd.method).1
  have X0 : Stand p l e ({ frames := 0, cells := 0, slots := 0, locals := 0 } : Room) s m #[(.int p1)] below meth c s₁ [] 0 0 := Stand.of_body Bd
  have e0 : s₁.heap = h0 := by rw [← hh, Bd.state]; rfl
  have N0 := Fr.nil n0
  have pre0 : ∀ t, Steps p.tables e below (s₁.setTop (mkF m 0 #[.val (.int p1)] [])) t → Steps p.tables e below (s₁.setTop (entryFrame m #[(.int p1)] 1)) t := fun t k => castTop (ef_1 m p1) k
  obtain ⟨S_INVOICE_NUMBER, S_INVOICE_DATE, S_CUSTOMER_REFERENCE, S_VAT_NUMBER, S_VAT_DATE, S_VAT_PERIOD, S_VAT_DETAILS, S_IMPORT_TAX, S_CONDITIONS, E_w_INVOICE_NUMBER, E_w_INVOICE_DATE, E_w_CUSTOMER_REFERENCE, E_w_VAT_NUMBER, E_w_VAT_DATE, E_w_VAT_PERIOD, E_w_VAT_DETAILS, E_w_IMPORT_TAX, E_w_CONDITIONS, n_INVOICE_NUMBER_VAT_DETAILS, n_INVOICE_DATE_VAT_DETAILS, n_CUSTOMER_REFERENCE_VAT_DETAILS, n_VAT_NUMBER_VAT_DETAILS, n_VAT_DATE_VAT_DETAILS, n_VAT_PERIOD_VAT_DETAILS, n_VAT_DETAILS_IMPORT_TAX, n_VAT_DETAILS_CONDITIONS⟩ := W
  obtain ⟨T2, X2, e2, st2⟩ := getS2 X0 hx hZ hown (host := "") (Or.inl (hw _ (List.mem_of_getElem? (i := 30) rfl))) Via.refl e0 S_VAT_DATE (g := (mkF m 40 #[.val (.int p1)] [])) rfl (hb hby d1_40)
  obtain ⟨fs, hr, hrun, hended, hW, hsame⟩ := X2.leave (v := some (.ref w_VAT_DATE)) (fun h => by rw [Bd.returns] at h; cases h)
  refine ⟨_, _, pre0 _ ?_, hrun, hended, _, _, rfl, ?_, ⟨_, rfl⟩, hW, hsame.mono (by decide) (by decide)⟩
  · show Steps p.tables e below (s₁.setTop (mkF m 0 #[.val (.int p1)] [])) _
    refine XS.iloadN X0.here hx rfl (hb hby d1_0) rfl ?_
    show Steps p.tables e below (s₁.setTop (mkF m 1 #[.val (.int p1)] [(.int p1)])) _
    refine XS.ifYes X0.here hx rfl (pc0 := 1) (pc' := 8) rfl (hb hby d1_1) rfl ((if0 _ _).trans (feq hc1).2) (by decide) (by decide) ?_
    show Steps p.tables e below (s₁.setTop (mkF m 8 #[.val (.int p1)] [])) _
    refine XS.iloadN X0.here hx rfl (hb hby d1_8) rfl ?_
    show Steps p.tables e below (s₁.setTop (mkF m 9 #[.val (.int p1)] [(.int p1)])) _
    refine XS.iconst X0.here hx rfl (hb hby d1_9) ?_
    show Steps p.tables e below (s₁.setTop (mkF m 10 #[.val (.int p1)] [(.int (1 : Int32)), (.int p1)])) _
    refine XS.icmpYes X0.here hx rfl (pc0 := 10) (pc' := 17) rfl (hb hby d1_10) rfl (feq hc10).2 (by decide) (by decide) ?_
    show Steps p.tables e below (s₁.setTop (mkF m 17 #[.val (.int p1)] [])) _
    refine XS.iloadN X0.here hx rfl (hb hby d1_17) rfl ?_
    show Steps p.tables e below (s₁.setTop (mkF m 18 #[.val (.int p1)] [(.int p1)])) _
    refine XS.iconst X0.here hx rfl (hb hby d1_18) ?_
    show Steps p.tables e below (s₁.setTop (mkF m 19 #[.val (.int p1)] [(.int (2 : Int32)), (.int p1)])) _
    refine XS.icmpYes X0.here hx rfl (pc0 := 19) (pc' := 26) rfl (hb hby d1_19) rfl (feq hc19).2 (by decide) (by decide) ?_
    show Steps p.tables e below (s₁.setTop (mkF m 26 #[.val (.int p1)] [])) _
    refine XS.iloadN X0.here hx rfl (hb hby d1_26) rfl ?_
    show Steps p.tables e below (s₁.setTop (mkF m 27 #[.val (.int p1)] [(.int p1)])) _
    refine XS.iconst X0.here hx rfl (hb hby d1_27) ?_
    show Steps p.tables e below (s₁.setTop (mkF m 28 #[.val (.int p1)] [(.int (3 : Int32)), (.int p1)])) _
    refine XS.icmpYes X0.here hx rfl (pc0 := 28) (pc' := 35) rfl (hb hby d1_28) rfl (feq hc28).2 (by decide) (by decide) ?_
    show Steps p.tables e below (s₁.setTop (mkF m 35 #[.val (.int p1)] [])) _
    refine XS.iloadN X0.here hx rfl (hb hby d1_35) rfl ?_
    show Steps p.tables e below (s₁.setTop (mkF m 36 #[.val (.int p1)] [(.int p1)])) _
    refine XS.iconst X0.here hx rfl (hb hby d1_36) ?_
    show Steps p.tables e below (s₁.setTop (mkF m 37 #[.val (.int p1)] [(.int (4 : Int32)), (.int p1)])) _
    refine XS.icmpNo X0.here hx rfl (hb hby d1_37) rfl (teq hc37).2 ?_
    show Steps p.tables e below (s₁.setTop (mkF m 40 #[.val (.int p1)] [])) _
    refine st2 _ ?_
    show Steps p.tables e below (T2.setTop (mkF m 43 #[.val (.int p1)] [(.ref w_VAT_DATE)])) _
    jvm_step X2.here [X2.here.top, hx, (hb hby d1_43), X2.method', Bd.returns, Value.isRef, FieldType.isReference]
    first | (intro acts; rw [hr _ acts rfl rfl rfl]) | rw [hr _ _ rfl rfl rfl]
    exact Steps.refl _
  · show QP (some (.ref w_VAT_DATE)) h0 n0 _ T2.heap _
    rw [e2]
    exact ⟨rfl, N0, rfl⟩
theorem d1_44 : decode method_2_code 44 = .ok (.iload_n 0, 1) := by decide +kernel
theorem d1_45 : decode method_2_code 45 = .ok (.iconst 5, 1) := by decide +kernel
theorem d1_46 : decode method_2_code 46 = .ok (.if_icmp .ne 7, 3) := by decide +kernel
theorem d1_49 : decode method_2_code 49 = .ok (.getstatic 25, 3) := by decide +kernel
theorem d1_52 : decode method_2_code 52 = .ok (.areturn, 1) := by decide +kernel
set_option maxRecDepth 65536 in
set_option maxHeartbeats 40000000 in
theorem rm1_5 (l : Launch) (Z : State) (a0 : Array Value) (hw : ∀ d ∈ tables_1, d.before a0 Z = true) (ws : List Jvm.Cond) (p1 : Int32) (w_INVOICE_NUMBER w_INVOICE_DATE w_CUSTOMER_REFERENCE w_VAT_NUMBER w_VAT_DATE w_VAT_PERIOD w_VAT_DETAILS w_IMPORT_TAX w_CONDITIONS : Addr) (h0 : Heap) (n0 : Nat) (Z0 : n0 ≤ h0.size) (W : Ws Z h0 w_INVOICE_NUMBER w_INVOICE_DATE w_CUSTOMER_REFERENCE w_VAT_NUMBER w_VAT_DATE w_VAT_PERIOD w_VAT_DETAILS w_IMPORT_TAX w_CONDITIONS) (hc1 : ¬ (p1 = (0 : Int32))) (hc10 : ¬ (p1 = (1 : Int32))) (hc19 : ¬ (p1 = (2 : Int32))) (hc28 : ¬ (p1 = (3 : Int32))) (hc37 : ¬ (p1 = (4 : Int32))) (hc46 : p1 = (5 : Int32)) :
    MetFree l (⟨"com/example/rappen/rappen/bill/S1KeyLastPartOptionalAlonePinLaw", "pick", "(I)Lcom/example/rappen/rappen/bill/S1Key;"⟩ : MethodName) (head1 (Jvm.Cond.code (⟨"com/example/rappen/rappen/bill/S1KeyLastPartOptionalAlonePinLaw", "pick", "(I)Lcom/example/rappen/rappen/bill/S1Key;"⟩ : MethodName) method_2_code 1 (some (.object "com/example/rappen/rappen/bill/S1Key")) :: ws) ({ frames := 0, cells := 0, slots := 0, locals := 0 } : Room)) (fun a U => a = #[(.int p1)] ∧ Z.Warmed39 U.vm ∧ U.heap = h0) (fun _ _ _ _ _ => True) (fun _ U o U' => ∃ v L, o = .returned v ∧ QP (some (.ref w_VAT_PERIOD)) h0 n0 v U'.heap L ∧ FrameEnd U o U' L ({ frames := 0, cells := 0, slots := 0, locals := 0 } : Room).cells ({ frames := 0, cells := 0, slots := 0, locals := 0 } : Room).slots) := by
  refine MetFree.of_bodySF (plainFor_of_name pn_1) hisR ?_
  intro p e s m args below meth c s₁ Bd hml0 hP hK
  obtain ⟨rfl, hZ, hh⟩ := hP
  have hx := Bd.exec
  have hby := Bd.bytes
  have hml : c.maxLocals = 1 := hml0
  have hown : s.vm.findClass "com/example/rappen/rappen/bill/S1KeyLastPartOptionalAlonePinLaw" = some m.cls := findClass_of_methodNamed Bd.named
  have hnm := (name_of_methodNamed Bd.named Bd.method).1
  have X0 : Stand p l e ({ frames := 0, cells := 0, slots := 0, locals := 0 } : Room) s m #[(.int p1)] below meth c s₁ [] 0 0 := Stand.of_body Bd
  have e0 : s₁.heap = h0 := by rw [← hh, Bd.state]; rfl
  have N0 := Fr.nil n0
  have pre0 : ∀ t, Steps p.tables e below (s₁.setTop (mkF m 0 #[.val (.int p1)] [])) t → Steps p.tables e below (s₁.setTop (entryFrame m #[(.int p1)] 1)) t := fun t k => castTop (ef_1 m p1) k
  obtain ⟨S_INVOICE_NUMBER, S_INVOICE_DATE, S_CUSTOMER_REFERENCE, S_VAT_NUMBER, S_VAT_DATE, S_VAT_PERIOD, S_VAT_DETAILS, S_IMPORT_TAX, S_CONDITIONS, E_w_INVOICE_NUMBER, E_w_INVOICE_DATE, E_w_CUSTOMER_REFERENCE, E_w_VAT_NUMBER, E_w_VAT_DATE, E_w_VAT_PERIOD, E_w_VAT_DETAILS, E_w_IMPORT_TAX, E_w_CONDITIONS, n_INVOICE_NUMBER_VAT_DETAILS, n_INVOICE_DATE_VAT_DETAILS, n_CUSTOMER_REFERENCE_VAT_DETAILS, n_VAT_NUMBER_VAT_DETAILS, n_VAT_DATE_VAT_DETAILS, n_VAT_PERIOD_VAT_DETAILS, n_VAT_DETAILS_IMPORT_TAX, n_VAT_DETAILS_CONDITIONS⟩ := W
  obtain ⟨T2, X2, e2, st2⟩ := getS2 X0 hx hZ hown (host := "") (Or.inl (hw _ (List.mem_of_getElem? (i := 35) rfl))) Via.refl e0 S_VAT_PERIOD (g := (mkF m 49 #[.val (.int p1)] [])) rfl (hb hby d1_49)
  obtain ⟨fs, hr, hrun, hended, hW, hsame⟩ := X2.leave (v := some (.ref w_VAT_PERIOD)) (fun h => by rw [Bd.returns] at h; cases h)
  refine ⟨_, _, pre0 _ ?_, hrun, hended, _, _, rfl, ?_, ⟨_, rfl⟩, hW, hsame.mono (by decide) (by decide)⟩
  · show Steps p.tables e below (s₁.setTop (mkF m 0 #[.val (.int p1)] [])) _
    refine XS.iloadN X0.here hx rfl (hb hby d1_0) rfl ?_
    show Steps p.tables e below (s₁.setTop (mkF m 1 #[.val (.int p1)] [(.int p1)])) _
    refine XS.ifYes X0.here hx rfl (pc0 := 1) (pc' := 8) rfl (hb hby d1_1) rfl ((if0 _ _).trans (feq hc1).2) (by decide) (by decide) ?_
    show Steps p.tables e below (s₁.setTop (mkF m 8 #[.val (.int p1)] [])) _
    refine XS.iloadN X0.here hx rfl (hb hby d1_8) rfl ?_
    show Steps p.tables e below (s₁.setTop (mkF m 9 #[.val (.int p1)] [(.int p1)])) _
    refine XS.iconst X0.here hx rfl (hb hby d1_9) ?_
    show Steps p.tables e below (s₁.setTop (mkF m 10 #[.val (.int p1)] [(.int (1 : Int32)), (.int p1)])) _
    refine XS.icmpYes X0.here hx rfl (pc0 := 10) (pc' := 17) rfl (hb hby d1_10) rfl (feq hc10).2 (by decide) (by decide) ?_
    show Steps p.tables e below (s₁.setTop (mkF m 17 #[.val (.int p1)] [])) _
    refine XS.iloadN X0.here hx rfl (hb hby d1_17) rfl ?_
    show Steps p.tables e below (s₁.setTop (mkF m 18 #[.val (.int p1)] [(.int p1)])) _
    refine XS.iconst X0.here hx rfl (hb hby d1_18) ?_
    show Steps p.tables e below (s₁.setTop (mkF m 19 #[.val (.int p1)] [(.int (2 : Int32)), (.int p1)])) _
    refine XS.icmpYes X0.here hx rfl (pc0 := 19) (pc' := 26) rfl (hb hby d1_19) rfl (feq hc19).2 (by decide) (by decide) ?_
    show Steps p.tables e below (s₁.setTop (mkF m 26 #[.val (.int p1)] [])) _
    refine XS.iloadN X0.here hx rfl (hb hby d1_26) rfl ?_
    show Steps p.tables e below (s₁.setTop (mkF m 27 #[.val (.int p1)] [(.int p1)])) _
    refine XS.iconst X0.here hx rfl (hb hby d1_27) ?_
    show Steps p.tables e below (s₁.setTop (mkF m 28 #[.val (.int p1)] [(.int (3 : Int32)), (.int p1)])) _
    refine XS.icmpYes X0.here hx rfl (pc0 := 28) (pc' := 35) rfl (hb hby d1_28) rfl (feq hc28).2 (by decide) (by decide) ?_
    show Steps p.tables e below (s₁.setTop (mkF m 35 #[.val (.int p1)] [])) _
    refine XS.iloadN X0.here hx rfl (hb hby d1_35) rfl ?_
    show Steps p.tables e below (s₁.setTop (mkF m 36 #[.val (.int p1)] [(.int p1)])) _
    refine XS.iconst X0.here hx rfl (hb hby d1_36) ?_
    show Steps p.tables e below (s₁.setTop (mkF m 37 #[.val (.int p1)] [(.int (4 : Int32)), (.int p1)])) _
    refine XS.icmpYes X0.here hx rfl (pc0 := 37) (pc' := 44) rfl (hb hby d1_37) rfl (feq hc37).2 (by decide) (by decide) ?_
    show Steps p.tables e below (s₁.setTop (mkF m 44 #[.val (.int p1)] [])) _
    refine XS.iloadN X0.here hx rfl (hb hby d1_44) rfl ?_
    show Steps p.tables e below (s₁.setTop (mkF m 45 #[.val (.int p1)] [(.int p1)])) _
    refine XS.iconst X0.here hx rfl (hb hby d1_45) ?_
    show Steps p.tables e below (s₁.setTop (mkF m 46 #[.val (.int p1)] [(.int (5 : Int32)), (.int p1)])) _
    refine XS.icmpNo X0.here hx rfl (hb hby d1_46) rfl (teq hc46).2 ?_
    show Steps p.tables e below (s₁.setTop (mkF m 49 #[.val (.int p1)] [])) _
    refine st2 _ ?_
    show Steps p.tables e below (T2.setTop (mkF m 52 #[.val (.int p1)] [(.ref w_VAT_PERIOD)])) _
    jvm_step X2.here [X2.here.top, hx, (hb hby d1_52), X2.method', Bd.returns, Value.isRef, FieldType.isReference]
    first | (intro acts; rw [hr _ acts rfl rfl rfl]) | rw [hr _ _ rfl rfl rfl]
    exact Steps.refl _
  · show QP (some (.ref w_VAT_PERIOD)) h0 n0 _ T2.heap _
    rw [e2]
    exact ⟨rfl, N0, rfl⟩
theorem d1_53 : decode method_2_code 53 = .ok (.iload_n 0, 1) := by decide +kernel
theorem d1_54 : decode method_2_code 54 = .ok (.bipush 6, 2) := by decide +kernel
theorem d1_56 : decode method_2_code 56 = .ok (.if_icmp .ne 7, 3) := by decide +kernel
theorem d1_59 : decode method_2_code 59 = .ok (.getstatic 28, 3) := by decide +kernel
theorem d1_62 : decode method_2_code 62 = .ok (.areturn, 1) := by decide +kernel
set_option maxRecDepth 65536 in
set_option maxHeartbeats 40000000 in
theorem rm1_6 (l : Launch) (Z : State) (a0 : Array Value) (hw : ∀ d ∈ tables_1, d.before a0 Z = true) (ws : List Jvm.Cond) (p1 : Int32) (w_INVOICE_NUMBER w_INVOICE_DATE w_CUSTOMER_REFERENCE w_VAT_NUMBER w_VAT_DATE w_VAT_PERIOD w_VAT_DETAILS w_IMPORT_TAX w_CONDITIONS : Addr) (h0 : Heap) (n0 : Nat) (Z0 : n0 ≤ h0.size) (W : Ws Z h0 w_INVOICE_NUMBER w_INVOICE_DATE w_CUSTOMER_REFERENCE w_VAT_NUMBER w_VAT_DATE w_VAT_PERIOD w_VAT_DETAILS w_IMPORT_TAX w_CONDITIONS) (hc1 : ¬ (p1 = (0 : Int32))) (hc10 : ¬ (p1 = (1 : Int32))) (hc19 : ¬ (p1 = (2 : Int32))) (hc28 : ¬ (p1 = (3 : Int32))) (hc37 : ¬ (p1 = (4 : Int32))) (hc46 : ¬ (p1 = (5 : Int32))) (hc56 : p1 = (6 : Int32)) :
    MetFree l (⟨"com/example/rappen/rappen/bill/S1KeyLastPartOptionalAlonePinLaw", "pick", "(I)Lcom/example/rappen/rappen/bill/S1Key;"⟩ : MethodName) (head1 (Jvm.Cond.code (⟨"com/example/rappen/rappen/bill/S1KeyLastPartOptionalAlonePinLaw", "pick", "(I)Lcom/example/rappen/rappen/bill/S1Key;"⟩ : MethodName) method_2_code 1 (some (.object "com/example/rappen/rappen/bill/S1Key")) :: ws) ({ frames := 0, cells := 0, slots := 0, locals := 0 } : Room)) (fun a U => a = #[(.int p1)] ∧ Z.Warmed39 U.vm ∧ U.heap = h0) (fun _ _ _ _ _ => True) (fun _ U o U' => ∃ v L, o = .returned v ∧ QP (some (.ref w_VAT_DETAILS)) h0 n0 v U'.heap L ∧ FrameEnd U o U' L ({ frames := 0, cells := 0, slots := 0, locals := 0 } : Room).cells ({ frames := 0, cells := 0, slots := 0, locals := 0 } : Room).slots) := by
  refine MetFree.of_bodySF (plainFor_of_name pn_1) hisR ?_
  intro p e s m args below meth c s₁ Bd hml0 hP hK
  obtain ⟨rfl, hZ, hh⟩ := hP
  have hx := Bd.exec
  have hby := Bd.bytes
  have hml : c.maxLocals = 1 := hml0
  have hown : s.vm.findClass "com/example/rappen/rappen/bill/S1KeyLastPartOptionalAlonePinLaw" = some m.cls := findClass_of_methodNamed Bd.named
  have hnm := (name_of_methodNamed Bd.named Bd.method).1
  have X0 : Stand p l e ({ frames := 0, cells := 0, slots := 0, locals := 0 } : Room) s m #[(.int p1)] below meth c s₁ [] 0 0 := Stand.of_body Bd
  have e0 : s₁.heap = h0 := by rw [← hh, Bd.state]; rfl
  have N0 := Fr.nil n0
  have pre0 : ∀ t, Steps p.tables e below (s₁.setTop (mkF m 0 #[.val (.int p1)] [])) t → Steps p.tables e below (s₁.setTop (entryFrame m #[(.int p1)] 1)) t := fun t k => castTop (ef_1 m p1) k
  obtain ⟨S_INVOICE_NUMBER, S_INVOICE_DATE, S_CUSTOMER_REFERENCE, S_VAT_NUMBER, S_VAT_DATE, S_VAT_PERIOD, S_VAT_DETAILS, S_IMPORT_TAX, S_CONDITIONS, E_w_INVOICE_NUMBER, E_w_INVOICE_DATE, E_w_CUSTOMER_REFERENCE, E_w_VAT_NUMBER, E_w_VAT_DATE, E_w_VAT_PERIOD, E_w_VAT_DETAILS, E_w_IMPORT_TAX, E_w_CONDITIONS, n_INVOICE_NUMBER_VAT_DETAILS, n_INVOICE_DATE_VAT_DETAILS, n_CUSTOMER_REFERENCE_VAT_DETAILS, n_VAT_NUMBER_VAT_DETAILS, n_VAT_DATE_VAT_DETAILS, n_VAT_PERIOD_VAT_DETAILS, n_VAT_DETAILS_IMPORT_TAX, n_VAT_DETAILS_CONDITIONS⟩ := W
  obtain ⟨T2, X2, e2, st2⟩ := getS2 X0 hx hZ hown (host := "") (Or.inl (hw _ (List.mem_of_getElem? (i := 34) rfl))) Via.refl e0 S_VAT_DETAILS (g := (mkF m 59 #[.val (.int p1)] [])) rfl (hb hby d1_59)
  obtain ⟨fs, hr, hrun, hended, hW, hsame⟩ := X2.leave (v := some (.ref w_VAT_DETAILS)) (fun h => by rw [Bd.returns] at h; cases h)
  refine ⟨_, _, pre0 _ ?_, hrun, hended, _, _, rfl, ?_, ⟨_, rfl⟩, hW, hsame.mono (by decide) (by decide)⟩
  · show Steps p.tables e below (s₁.setTop (mkF m 0 #[.val (.int p1)] [])) _
    refine XS.iloadN X0.here hx rfl (hb hby d1_0) rfl ?_
    show Steps p.tables e below (s₁.setTop (mkF m 1 #[.val (.int p1)] [(.int p1)])) _
    refine XS.ifYes X0.here hx rfl (pc0 := 1) (pc' := 8) rfl (hb hby d1_1) rfl ((if0 _ _).trans (feq hc1).2) (by decide) (by decide) ?_
    show Steps p.tables e below (s₁.setTop (mkF m 8 #[.val (.int p1)] [])) _
    refine XS.iloadN X0.here hx rfl (hb hby d1_8) rfl ?_
    show Steps p.tables e below (s₁.setTop (mkF m 9 #[.val (.int p1)] [(.int p1)])) _
    refine XS.iconst X0.here hx rfl (hb hby d1_9) ?_
    show Steps p.tables e below (s₁.setTop (mkF m 10 #[.val (.int p1)] [(.int (1 : Int32)), (.int p1)])) _
    refine XS.icmpYes X0.here hx rfl (pc0 := 10) (pc' := 17) rfl (hb hby d1_10) rfl (feq hc10).2 (by decide) (by decide) ?_
    show Steps p.tables e below (s₁.setTop (mkF m 17 #[.val (.int p1)] [])) _
    refine XS.iloadN X0.here hx rfl (hb hby d1_17) rfl ?_
    show Steps p.tables e below (s₁.setTop (mkF m 18 #[.val (.int p1)] [(.int p1)])) _
    refine XS.iconst X0.here hx rfl (hb hby d1_18) ?_
    show Steps p.tables e below (s₁.setTop (mkF m 19 #[.val (.int p1)] [(.int (2 : Int32)), (.int p1)])) _
    refine XS.icmpYes X0.here hx rfl (pc0 := 19) (pc' := 26) rfl (hb hby d1_19) rfl (feq hc19).2 (by decide) (by decide) ?_
    show Steps p.tables e below (s₁.setTop (mkF m 26 #[.val (.int p1)] [])) _
    refine XS.iloadN X0.here hx rfl (hb hby d1_26) rfl ?_
    show Steps p.tables e below (s₁.setTop (mkF m 27 #[.val (.int p1)] [(.int p1)])) _
    refine XS.iconst X0.here hx rfl (hb hby d1_27) ?_
    show Steps p.tables e below (s₁.setTop (mkF m 28 #[.val (.int p1)] [(.int (3 : Int32)), (.int p1)])) _
    refine XS.icmpYes X0.here hx rfl (pc0 := 28) (pc' := 35) rfl (hb hby d1_28) rfl (feq hc28).2 (by decide) (by decide) ?_
    show Steps p.tables e below (s₁.setTop (mkF m 35 #[.val (.int p1)] [])) _
    refine XS.iloadN X0.here hx rfl (hb hby d1_35) rfl ?_
    show Steps p.tables e below (s₁.setTop (mkF m 36 #[.val (.int p1)] [(.int p1)])) _
    refine XS.iconst X0.here hx rfl (hb hby d1_36) ?_
    show Steps p.tables e below (s₁.setTop (mkF m 37 #[.val (.int p1)] [(.int (4 : Int32)), (.int p1)])) _
    refine XS.icmpYes X0.here hx rfl (pc0 := 37) (pc' := 44) rfl (hb hby d1_37) rfl (feq hc37).2 (by decide) (by decide) ?_
    show Steps p.tables e below (s₁.setTop (mkF m 44 #[.val (.int p1)] [])) _
    refine XS.iloadN X0.here hx rfl (hb hby d1_44) rfl ?_
    show Steps p.tables e below (s₁.setTop (mkF m 45 #[.val (.int p1)] [(.int p1)])) _
    refine XS.iconst X0.here hx rfl (hb hby d1_45) ?_
    show Steps p.tables e below (s₁.setTop (mkF m 46 #[.val (.int p1)] [(.int (5 : Int32)), (.int p1)])) _
    refine XS.icmpYes X0.here hx rfl (pc0 := 46) (pc' := 53) rfl (hb hby d1_46) rfl (feq hc46).2 (by decide) (by decide) ?_
    show Steps p.tables e below (s₁.setTop (mkF m 53 #[.val (.int p1)] [])) _
    refine XS.iloadN X0.here hx rfl (hb hby d1_53) rfl ?_
    show Steps p.tables e below (s₁.setTop (mkF m 54 #[.val (.int p1)] [(.int p1)])) _
    refine XS.bipush X0.here hx rfl (hb hby d1_54) ?_
    show Steps p.tables e below (s₁.setTop (mkF m 56 #[.val (.int p1)] [(.int (6 : Int32)), (.int p1)])) _
    refine XS.icmpNo X0.here hx rfl (hb hby d1_56) rfl (teq hc56).2 ?_
    show Steps p.tables e below (s₁.setTop (mkF m 59 #[.val (.int p1)] [])) _
    refine st2 _ ?_
    show Steps p.tables e below (T2.setTop (mkF m 62 #[.val (.int p1)] [(.ref w_VAT_DETAILS)])) _
    jvm_step X2.here [X2.here.top, hx, (hb hby d1_62), X2.method', Bd.returns, Value.isRef, FieldType.isReference]
    first | (intro acts; rw [hr _ acts rfl rfl rfl]) | rw [hr _ _ rfl rfl rfl]
    exact Steps.refl _
  · show QP (some (.ref w_VAT_DETAILS)) h0 n0 _ T2.heap _
    rw [e2]
    exact ⟨rfl, N0, rfl⟩
theorem d1_63 : decode method_2_code 63 = .ok (.iload_n 0, 1) := by decide +kernel
theorem d1_64 : decode method_2_code 64 = .ok (.bipush 7, 2) := by decide +kernel
theorem d1_66 : decode method_2_code 66 = .ok (.if_icmp .ne 7, 3) := by decide +kernel
theorem d1_69 : decode method_2_code 69 = .ok (.getstatic 31, 3) := by decide +kernel
theorem d1_72 : decode method_2_code 72 = .ok (.areturn, 1) := by decide +kernel
set_option maxRecDepth 65536 in
set_option maxHeartbeats 40000000 in
theorem rm1_7 (l : Launch) (Z : State) (a0 : Array Value) (hw : ∀ d ∈ tables_1, d.before a0 Z = true) (ws : List Jvm.Cond) (p1 : Int32) (w_INVOICE_NUMBER w_INVOICE_DATE w_CUSTOMER_REFERENCE w_VAT_NUMBER w_VAT_DATE w_VAT_PERIOD w_VAT_DETAILS w_IMPORT_TAX w_CONDITIONS : Addr) (h0 : Heap) (n0 : Nat) (Z0 : n0 ≤ h0.size) (W : Ws Z h0 w_INVOICE_NUMBER w_INVOICE_DATE w_CUSTOMER_REFERENCE w_VAT_NUMBER w_VAT_DATE w_VAT_PERIOD w_VAT_DETAILS w_IMPORT_TAX w_CONDITIONS) (hc1 : ¬ (p1 = (0 : Int32))) (hc10 : ¬ (p1 = (1 : Int32))) (hc19 : ¬ (p1 = (2 : Int32))) (hc28 : ¬ (p1 = (3 : Int32))) (hc37 : ¬ (p1 = (4 : Int32))) (hc46 : ¬ (p1 = (5 : Int32))) (hc56 : ¬ (p1 = (6 : Int32))) (hc66 : p1 = (7 : Int32)) :
    MetFree l (⟨"com/example/rappen/rappen/bill/S1KeyLastPartOptionalAlonePinLaw", "pick", "(I)Lcom/example/rappen/rappen/bill/S1Key;"⟩ : MethodName) (head1 (Jvm.Cond.code (⟨"com/example/rappen/rappen/bill/S1KeyLastPartOptionalAlonePinLaw", "pick", "(I)Lcom/example/rappen/rappen/bill/S1Key;"⟩ : MethodName) method_2_code 1 (some (.object "com/example/rappen/rappen/bill/S1Key")) :: ws) ({ frames := 0, cells := 0, slots := 0, locals := 0 } : Room)) (fun a U => a = #[(.int p1)] ∧ Z.Warmed39 U.vm ∧ U.heap = h0) (fun _ _ _ _ _ => True) (fun _ U o U' => ∃ v L, o = .returned v ∧ QP (some (.ref w_IMPORT_TAX)) h0 n0 v U'.heap L ∧ FrameEnd U o U' L ({ frames := 0, cells := 0, slots := 0, locals := 0 } : Room).cells ({ frames := 0, cells := 0, slots := 0, locals := 0 } : Room).slots) := by
  refine MetFree.of_bodySF (plainFor_of_name pn_1) hisR ?_
  intro p e s m args below meth c s₁ Bd hml0 hP hK
  obtain ⟨rfl, hZ, hh⟩ := hP
  have hx := Bd.exec
  have hby := Bd.bytes
  have hml : c.maxLocals = 1 := hml0
  have hown : s.vm.findClass "com/example/rappen/rappen/bill/S1KeyLastPartOptionalAlonePinLaw" = some m.cls := findClass_of_methodNamed Bd.named
  have hnm := (name_of_methodNamed Bd.named Bd.method).1
  have X0 : Stand p l e ({ frames := 0, cells := 0, slots := 0, locals := 0 } : Room) s m #[(.int p1)] below meth c s₁ [] 0 0 := Stand.of_body Bd
  have e0 : s₁.heap = h0 := by rw [← hh, Bd.state]; rfl
  have N0 := Fr.nil n0
  have pre0 : ∀ t, Steps p.tables e below (s₁.setTop (mkF m 0 #[.val (.int p1)] [])) t → Steps p.tables e below (s₁.setTop (entryFrame m #[(.int p1)] 1)) t := fun t k => castTop (ef_1 m p1) k
  obtain ⟨S_INVOICE_NUMBER, S_INVOICE_DATE, S_CUSTOMER_REFERENCE, S_VAT_NUMBER, S_VAT_DATE, S_VAT_PERIOD, S_VAT_DETAILS, S_IMPORT_TAX, S_CONDITIONS, E_w_INVOICE_NUMBER, E_w_INVOICE_DATE, E_w_CUSTOMER_REFERENCE, E_w_VAT_NUMBER, E_w_VAT_DATE, E_w_VAT_PERIOD, E_w_VAT_DETAILS, E_w_IMPORT_TAX, E_w_CONDITIONS, n_INVOICE_NUMBER_VAT_DETAILS, n_INVOICE_DATE_VAT_DETAILS, n_CUSTOMER_REFERENCE_VAT_DETAILS, n_VAT_NUMBER_VAT_DETAILS, n_VAT_DATE_VAT_DETAILS, n_VAT_PERIOD_VAT_DETAILS, n_VAT_DETAILS_IMPORT_TAX, n_VAT_DETAILS_CONDITIONS⟩ := W
  obtain ⟨T2, X2, e2, st2⟩ := getS2 X0 hx hZ hown (host := "") (Or.inl (hw _ (List.mem_of_getElem? (i := 28) rfl))) Via.refl e0 S_IMPORT_TAX (g := (mkF m 69 #[.val (.int p1)] [])) rfl (hb hby d1_69)
  obtain ⟨fs, hr, hrun, hended, hW, hsame⟩ := X2.leave (v := some (.ref w_IMPORT_TAX)) (fun h => by rw [Bd.returns] at h; cases h)
  refine ⟨_, _, pre0 _ ?_, hrun, hended, _, _, rfl, ?_, ⟨_, rfl⟩, hW, hsame.mono (by decide) (by decide)⟩
  · show Steps p.tables e below (s₁.setTop (mkF m 0 #[.val (.int p1)] [])) _
    refine XS.iloadN X0.here hx rfl (hb hby d1_0) rfl ?_
    show Steps p.tables e below (s₁.setTop (mkF m 1 #[.val (.int p1)] [(.int p1)])) _
    refine XS.ifYes X0.here hx rfl (pc0 := 1) (pc' := 8) rfl (hb hby d1_1) rfl ((if0 _ _).trans (feq hc1).2) (by decide) (by decide) ?_
    show Steps p.tables e below (s₁.setTop (mkF m 8 #[.val (.int p1)] [])) _
    refine XS.iloadN X0.here hx rfl (hb hby d1_8) rfl ?_
    show Steps p.tables e below (s₁.setTop (mkF m 9 #[.val (.int p1)] [(.int p1)])) _
    refine XS.iconst X0.here hx rfl (hb hby d1_9) ?_
    show Steps p.tables e below (s₁.setTop (mkF m 10 #[.val (.int p1)] [(.int (1 : Int32)), (.int p1)])) _
    refine XS.icmpYes X0.here hx rfl (pc0 := 10) (pc' := 17) rfl (hb hby d1_10) rfl (feq hc10).2 (by decide) (by decide) ?_
    show Steps p.tables e below (s₁.setTop (mkF m 17 #[.val (.int p1)] [])) _
    refine XS.iloadN X0.here hx rfl (hb hby d1_17) rfl ?_
    show Steps p.tables e below (s₁.setTop (mkF m 18 #[.val (.int p1)] [(.int p1)])) _
    refine XS.iconst X0.here hx rfl (hb hby d1_18) ?_
    show Steps p.tables e below (s₁.setTop (mkF m 19 #[.val (.int p1)] [(.int (2 : Int32)), (.int p1)])) _
    refine XS.icmpYes X0.here hx rfl (pc0 := 19) (pc' := 26) rfl (hb hby d1_19) rfl (feq hc19).2 (by decide) (by decide) ?_
    show Steps p.tables e below (s₁.setTop (mkF m 26 #[.val (.int p1)] [])) _
    refine XS.iloadN X0.here hx rfl (hb hby d1_26) rfl ?_
    show Steps p.tables e below (s₁.setTop (mkF m 27 #[.val (.int p1)] [(.int p1)])) _
    refine XS.iconst X0.here hx rfl (hb hby d1_27) ?_
    show Steps p.tables e below (s₁.setTop (mkF m 28 #[.val (.int p1)] [(.int (3 : Int32)), (.int p1)])) _
    refine XS.icmpYes X0.here hx rfl (pc0 := 28) (pc' := 35) rfl (hb hby d1_28) rfl (feq hc28).2 (by decide) (by decide) ?_
    show Steps p.tables e below (s₁.setTop (mkF m 35 #[.val (.int p1)] [])) _
    refine XS.iloadN X0.here hx rfl (hb hby d1_35) rfl ?_
    show Steps p.tables e below (s₁.setTop (mkF m 36 #[.val (.int p1)] [(.int p1)])) _
    refine XS.iconst X0.here hx rfl (hb hby d1_36) ?_
    show Steps p.tables e below (s₁.setTop (mkF m 37 #[.val (.int p1)] [(.int (4 : Int32)), (.int p1)])) _
    refine XS.icmpYes X0.here hx rfl (pc0 := 37) (pc' := 44) rfl (hb hby d1_37) rfl (feq hc37).2 (by decide) (by decide) ?_
    show Steps p.tables e below (s₁.setTop (mkF m 44 #[.val (.int p1)] [])) _
    refine XS.iloadN X0.here hx rfl (hb hby d1_44) rfl ?_
    show Steps p.tables e below (s₁.setTop (mkF m 45 #[.val (.int p1)] [(.int p1)])) _
    refine XS.iconst X0.here hx rfl (hb hby d1_45) ?_
    show Steps p.tables e below (s₁.setTop (mkF m 46 #[.val (.int p1)] [(.int (5 : Int32)), (.int p1)])) _
    refine XS.icmpYes X0.here hx rfl (pc0 := 46) (pc' := 53) rfl (hb hby d1_46) rfl (feq hc46).2 (by decide) (by decide) ?_
    show Steps p.tables e below (s₁.setTop (mkF m 53 #[.val (.int p1)] [])) _
    refine XS.iloadN X0.here hx rfl (hb hby d1_53) rfl ?_
    show Steps p.tables e below (s₁.setTop (mkF m 54 #[.val (.int p1)] [(.int p1)])) _
    refine XS.bipush X0.here hx rfl (hb hby d1_54) ?_
    show Steps p.tables e below (s₁.setTop (mkF m 56 #[.val (.int p1)] [(.int (6 : Int32)), (.int p1)])) _
    refine XS.icmpYes X0.here hx rfl (pc0 := 56) (pc' := 63) rfl (hb hby d1_56) rfl (feq hc56).2 (by decide) (by decide) ?_
    show Steps p.tables e below (s₁.setTop (mkF m 63 #[.val (.int p1)] [])) _
    refine XS.iloadN X0.here hx rfl (hb hby d1_63) rfl ?_
    show Steps p.tables e below (s₁.setTop (mkF m 64 #[.val (.int p1)] [(.int p1)])) _
    refine XS.bipush X0.here hx rfl (hb hby d1_64) ?_
    show Steps p.tables e below (s₁.setTop (mkF m 66 #[.val (.int p1)] [(.int (7 : Int32)), (.int p1)])) _
    refine XS.icmpNo X0.here hx rfl (hb hby d1_66) rfl (teq hc66).2 ?_
    show Steps p.tables e below (s₁.setTop (mkF m 69 #[.val (.int p1)] [])) _
    refine st2 _ ?_
    show Steps p.tables e below (T2.setTop (mkF m 72 #[.val (.int p1)] [(.ref w_IMPORT_TAX)])) _
    jvm_step X2.here [X2.here.top, hx, (hb hby d1_72), X2.method', Bd.returns, Value.isRef, FieldType.isReference]
    first | (intro acts; rw [hr _ acts rfl rfl rfl]) | rw [hr _ _ rfl rfl rfl]
    exact Steps.refl _
  · show QP (some (.ref w_IMPORT_TAX)) h0 n0 _ T2.heap _
    rw [e2]
    exact ⟨rfl, N0, rfl⟩
theorem d1_73 : decode method_2_code 73 = .ok (.getstatic 34, 3) := by decide +kernel
theorem d1_76 : decode method_2_code 76 = .ok (.areturn, 1) := by decide +kernel
set_option maxRecDepth 65536 in
set_option maxHeartbeats 40000000 in
theorem rm1_8 (l : Launch) (Z : State) (a0 : Array Value) (hw : ∀ d ∈ tables_1, d.before a0 Z = true) (ws : List Jvm.Cond) (p1 : Int32) (w_INVOICE_NUMBER w_INVOICE_DATE w_CUSTOMER_REFERENCE w_VAT_NUMBER w_VAT_DATE w_VAT_PERIOD w_VAT_DETAILS w_IMPORT_TAX w_CONDITIONS : Addr) (h0 : Heap) (n0 : Nat) (Z0 : n0 ≤ h0.size) (W : Ws Z h0 w_INVOICE_NUMBER w_INVOICE_DATE w_CUSTOMER_REFERENCE w_VAT_NUMBER w_VAT_DATE w_VAT_PERIOD w_VAT_DETAILS w_IMPORT_TAX w_CONDITIONS) (hc1 : ¬ (p1 = (0 : Int32))) (hc10 : ¬ (p1 = (1 : Int32))) (hc19 : ¬ (p1 = (2 : Int32))) (hc28 : ¬ (p1 = (3 : Int32))) (hc37 : ¬ (p1 = (4 : Int32))) (hc46 : ¬ (p1 = (5 : Int32))) (hc56 : ¬ (p1 = (6 : Int32))) (hc66 : ¬ (p1 = (7 : Int32))) :
    MetFree l (⟨"com/example/rappen/rappen/bill/S1KeyLastPartOptionalAlonePinLaw", "pick", "(I)Lcom/example/rappen/rappen/bill/S1Key;"⟩ : MethodName) (head1 (Jvm.Cond.code (⟨"com/example/rappen/rappen/bill/S1KeyLastPartOptionalAlonePinLaw", "pick", "(I)Lcom/example/rappen/rappen/bill/S1Key;"⟩ : MethodName) method_2_code 1 (some (.object "com/example/rappen/rappen/bill/S1Key")) :: ws) ({ frames := 0, cells := 0, slots := 0, locals := 0 } : Room)) (fun a U => a = #[(.int p1)] ∧ Z.Warmed39 U.vm ∧ U.heap = h0) (fun _ _ _ _ _ => True) (fun _ U o U' => ∃ v L, o = .returned v ∧ QP (some (.ref w_CONDITIONS)) h0 n0 v U'.heap L ∧ FrameEnd U o U' L ({ frames := 0, cells := 0, slots := 0, locals := 0 } : Room).cells ({ frames := 0, cells := 0, slots := 0, locals := 0 } : Room).slots) := by
  refine MetFree.of_bodySF (plainFor_of_name pn_1) hisR ?_
  intro p e s m args below meth c s₁ Bd hml0 hP hK
  obtain ⟨rfl, hZ, hh⟩ := hP
  have hx := Bd.exec
  have hby := Bd.bytes
  have hml : c.maxLocals = 1 := hml0
  have hown : s.vm.findClass "com/example/rappen/rappen/bill/S1KeyLastPartOptionalAlonePinLaw" = some m.cls := findClass_of_methodNamed Bd.named
  have hnm := (name_of_methodNamed Bd.named Bd.method).1
  have X0 : Stand p l e ({ frames := 0, cells := 0, slots := 0, locals := 0 } : Room) s m #[(.int p1)] below meth c s₁ [] 0 0 := Stand.of_body Bd
  have e0 : s₁.heap = h0 := by rw [← hh, Bd.state]; rfl
  have N0 := Fr.nil n0
  have pre0 : ∀ t, Steps p.tables e below (s₁.setTop (mkF m 0 #[.val (.int p1)] [])) t → Steps p.tables e below (s₁.setTop (entryFrame m #[(.int p1)] 1)) t := fun t k => castTop (ef_1 m p1) k
  obtain ⟨S_INVOICE_NUMBER, S_INVOICE_DATE, S_CUSTOMER_REFERENCE, S_VAT_NUMBER, S_VAT_DATE, S_VAT_PERIOD, S_VAT_DETAILS, S_IMPORT_TAX, S_CONDITIONS, E_w_INVOICE_NUMBER, E_w_INVOICE_DATE, E_w_CUSTOMER_REFERENCE, E_w_VAT_NUMBER, E_w_VAT_DATE, E_w_VAT_PERIOD, E_w_VAT_DETAILS, E_w_IMPORT_TAX, E_w_CONDITIONS, n_INVOICE_NUMBER_VAT_DETAILS, n_INVOICE_DATE_VAT_DETAILS, n_CUSTOMER_REFERENCE_VAT_DETAILS, n_VAT_NUMBER_VAT_DETAILS, n_VAT_DATE_VAT_DETAILS, n_VAT_PERIOD_VAT_DETAILS, n_VAT_DETAILS_IMPORT_TAX, n_VAT_DETAILS_CONDITIONS⟩ := W
  obtain ⟨T2, X2, e2, st2⟩ := getS2 X0 hx hZ hown (host := "") (Or.inl (hw _ (List.mem_of_getElem? (i := 32) rfl))) Via.refl e0 S_CONDITIONS (g := (mkF m 73 #[.val (.int p1)] [])) rfl (hb hby d1_73)
  obtain ⟨fs, hr, hrun, hended, hW, hsame⟩ := X2.leave (v := some (.ref w_CONDITIONS)) (fun h => by rw [Bd.returns] at h; cases h)
  refine ⟨_, _, pre0 _ ?_, hrun, hended, _, _, rfl, ?_, ⟨_, rfl⟩, hW, hsame.mono (by decide) (by decide)⟩
  · show Steps p.tables e below (s₁.setTop (mkF m 0 #[.val (.int p1)] [])) _
    refine XS.iloadN X0.here hx rfl (hb hby d1_0) rfl ?_
    show Steps p.tables e below (s₁.setTop (mkF m 1 #[.val (.int p1)] [(.int p1)])) _
    refine XS.ifYes X0.here hx rfl (pc0 := 1) (pc' := 8) rfl (hb hby d1_1) rfl ((if0 _ _).trans (feq hc1).2) (by decide) (by decide) ?_
    show Steps p.tables e below (s₁.setTop (mkF m 8 #[.val (.int p1)] [])) _
    refine XS.iloadN X0.here hx rfl (hb hby d1_8) rfl ?_
    show Steps p.tables e below (s₁.setTop (mkF m 9 #[.val (.int p1)] [(.int p1)])) _
    refine XS.iconst X0.here hx rfl (hb hby d1_9) ?_
    show Steps p.tables e below (s₁.setTop (mkF m 10 #[.val (.int p1)] [(.int (1 : Int32)), (.int p1)])) _
    refine XS.icmpYes X0.here hx rfl (pc0 := 10) (pc' := 17) rfl (hb hby d1_10) rfl (feq hc10).2 (by decide) (by decide) ?_
    show Steps p.tables e below (s₁.setTop (mkF m 17 #[.val (.int p1)] [])) _
    refine XS.iloadN X0.here hx rfl (hb hby d1_17) rfl ?_
    show Steps p.tables e below (s₁.setTop (mkF m 18 #[.val (.int p1)] [(.int p1)])) _
    refine XS.iconst X0.here hx rfl (hb hby d1_18) ?_
    show Steps p.tables e below (s₁.setTop (mkF m 19 #[.val (.int p1)] [(.int (2 : Int32)), (.int p1)])) _
    refine XS.icmpYes X0.here hx rfl (pc0 := 19) (pc' := 26) rfl (hb hby d1_19) rfl (feq hc19).2 (by decide) (by decide) ?_
    show Steps p.tables e below (s₁.setTop (mkF m 26 #[.val (.int p1)] [])) _
    refine XS.iloadN X0.here hx rfl (hb hby d1_26) rfl ?_
    show Steps p.tables e below (s₁.setTop (mkF m 27 #[.val (.int p1)] [(.int p1)])) _
    refine XS.iconst X0.here hx rfl (hb hby d1_27) ?_
    show Steps p.tables e below (s₁.setTop (mkF m 28 #[.val (.int p1)] [(.int (3 : Int32)), (.int p1)])) _
    refine XS.icmpYes X0.here hx rfl (pc0 := 28) (pc' := 35) rfl (hb hby d1_28) rfl (feq hc28).2 (by decide) (by decide) ?_
    show Steps p.tables e below (s₁.setTop (mkF m 35 #[.val (.int p1)] [])) _
    refine XS.iloadN X0.here hx rfl (hb hby d1_35) rfl ?_
    show Steps p.tables e below (s₁.setTop (mkF m 36 #[.val (.int p1)] [(.int p1)])) _
    refine XS.iconst X0.here hx rfl (hb hby d1_36) ?_
    show Steps p.tables e below (s₁.setTop (mkF m 37 #[.val (.int p1)] [(.int (4 : Int32)), (.int p1)])) _
    refine XS.icmpYes X0.here hx rfl (pc0 := 37) (pc' := 44) rfl (hb hby d1_37) rfl (feq hc37).2 (by decide) (by decide) ?_
    show Steps p.tables e below (s₁.setTop (mkF m 44 #[.val (.int p1)] [])) _
    refine XS.iloadN X0.here hx rfl (hb hby d1_44) rfl ?_
    show Steps p.tables e below (s₁.setTop (mkF m 45 #[.val (.int p1)] [(.int p1)])) _
    refine XS.iconst X0.here hx rfl (hb hby d1_45) ?_
    show Steps p.tables e below (s₁.setTop (mkF m 46 #[.val (.int p1)] [(.int (5 : Int32)), (.int p1)])) _
    refine XS.icmpYes X0.here hx rfl (pc0 := 46) (pc' := 53) rfl (hb hby d1_46) rfl (feq hc46).2 (by decide) (by decide) ?_
    show Steps p.tables e below (s₁.setTop (mkF m 53 #[.val (.int p1)] [])) _
    refine XS.iloadN X0.here hx rfl (hb hby d1_53) rfl ?_
    show Steps p.tables e below (s₁.setTop (mkF m 54 #[.val (.int p1)] [(.int p1)])) _
    refine XS.bipush X0.here hx rfl (hb hby d1_54) ?_
    show Steps p.tables e below (s₁.setTop (mkF m 56 #[.val (.int p1)] [(.int (6 : Int32)), (.int p1)])) _
    refine XS.icmpYes X0.here hx rfl (pc0 := 56) (pc' := 63) rfl (hb hby d1_56) rfl (feq hc56).2 (by decide) (by decide) ?_
    show Steps p.tables e below (s₁.setTop (mkF m 63 #[.val (.int p1)] [])) _
    refine XS.iloadN X0.here hx rfl (hb hby d1_63) rfl ?_
    show Steps p.tables e below (s₁.setTop (mkF m 64 #[.val (.int p1)] [(.int p1)])) _
    refine XS.bipush X0.here hx rfl (hb hby d1_64) ?_
    show Steps p.tables e below (s₁.setTop (mkF m 66 #[.val (.int p1)] [(.int (7 : Int32)), (.int p1)])) _
    refine XS.icmpYes X0.here hx rfl (pc0 := 66) (pc' := 73) rfl (hb hby d1_66) rfl (feq hc66).2 (by decide) (by decide) ?_
    show Steps p.tables e below (s₁.setTop (mkF m 73 #[.val (.int p1)] [])) _
    refine st2 _ ?_
    show Steps p.tables e below (T2.setTop (mkF m 76 #[.val (.int p1)] [(.ref w_CONDITIONS)])) _
    jvm_step X2.here [X2.here.top, hx, (hb hby d1_76), X2.method', Bd.returns, Value.isRef, FieldType.isReference]
    first | (intro acts; rw [hr _ acts rfl rfl rfl]) | rw [hr _ _ rfl rfl rfl]
    exact Steps.refl _
  · show QP (some (.ref w_CONDITIONS)) h0 n0 _ T2.heap _
    rw [e2]
    exact ⟨rfl, N0, rfl⟩
theorem rm1 (l : Launch) (Z : State) (a0 : Array Value) (hw : ∀ d ∈ tables_1, d.before a0 Z = true) (ws : List Jvm.Cond) (p1 : Int32) (r : Addr) (w_INVOICE_NUMBER w_INVOICE_DATE w_CUSTOMER_REFERENCE w_VAT_NUMBER w_VAT_DATE w_VAT_PERIOD w_VAT_DETAILS w_IMPORT_TAX w_CONDITIONS : Addr) (h0 : Heap) (n0 : Nat) (Z0 : n0 ≤ h0.size) (W : Ws Z h0 w_INVOICE_NUMBER w_INVOICE_DATE w_CUSTOMER_REFERENCE w_VAT_NUMBER w_VAT_DATE w_VAT_PERIOD w_VAT_DETAILS w_IMPORT_TAX w_CONDITIONS) (hr : (p1 = (0 : Int32) ∧ r = w_INVOICE_NUMBER) ∨ (p1 = (1 : Int32) ∧ r = w_INVOICE_DATE) ∨ (p1 = (2 : Int32) ∧ r = w_CUSTOMER_REFERENCE) ∨ (p1 = (3 : Int32) ∧ r = w_VAT_NUMBER) ∨ (p1 = (4 : Int32) ∧ r = w_VAT_DATE) ∨ (p1 = (5 : Int32) ∧ r = w_VAT_PERIOD) ∨ (p1 = (6 : Int32) ∧ r = w_VAT_DETAILS) ∨ (p1 = (7 : Int32) ∧ r = w_IMPORT_TAX) ∨ (p1 = (8 : Int32) ∧ r = w_CONDITIONS)) :
    MetFree l (⟨"com/example/rappen/rappen/bill/S1KeyLastPartOptionalAlonePinLaw", "pick", "(I)Lcom/example/rappen/rappen/bill/S1Key;"⟩ : MethodName) (head1 (Jvm.Cond.code (⟨"com/example/rappen/rappen/bill/S1KeyLastPartOptionalAlonePinLaw", "pick", "(I)Lcom/example/rappen/rappen/bill/S1Key;"⟩ : MethodName) method_2_code 1 (some (.object "com/example/rappen/rappen/bill/S1Key")) :: ws) ({ frames := 0, cells := 0, slots := 0, locals := 0 } : Room)) (fun a U => a = #[(.int p1)] ∧ Z.Warmed39 U.vm ∧ U.heap = h0) (fun _ _ _ _ _ => True) (fun _ U o U' => ∃ v L, o = .returned v ∧ QP (some (.ref r)) h0 n0 v U'.heap L ∧ FrameEnd U o U' L ({ frames := 0, cells := 0, slots := 0, locals := 0 } : Room).cells ({ frames := 0, cells := 0, slots := 0, locals := 0 } : Room).slots) := by
  rcases hr with ⟨rfl, h⟩ | ⟨rfl, h⟩ | ⟨rfl, h⟩ | ⟨rfl, h⟩ | ⟨rfl, h⟩ | ⟨rfl, h⟩ | ⟨rfl, h⟩ | ⟨rfl, h⟩ | ⟨rfl, h⟩
  · rw [h]; exact rm1_0 l Z a0 hw ws _ w_INVOICE_NUMBER w_INVOICE_DATE w_CUSTOMER_REFERENCE w_VAT_NUMBER w_VAT_DATE w_VAT_PERIOD w_VAT_DETAILS w_IMPORT_TAX w_CONDITIONS h0 n0 Z0 W (by decide)
  · rw [h]; exact rm1_1 l Z a0 hw ws _ w_INVOICE_NUMBER w_INVOICE_DATE w_CUSTOMER_REFERENCE w_VAT_NUMBER w_VAT_DATE w_VAT_PERIOD w_VAT_DETAILS w_IMPORT_TAX w_CONDITIONS h0 n0 Z0 W (by decide) (by decide)
  · rw [h]; exact rm1_2 l Z a0 hw ws _ w_INVOICE_NUMBER w_INVOICE_DATE w_CUSTOMER_REFERENCE w_VAT_NUMBER w_VAT_DATE w_VAT_PERIOD w_VAT_DETAILS w_IMPORT_TAX w_CONDITIONS h0 n0 Z0 W (by decide) (by decide) (by decide)
  · rw [h]; exact rm1_3 l Z a0 hw ws _ w_INVOICE_NUMBER w_INVOICE_DATE w_CUSTOMER_REFERENCE w_VAT_NUMBER w_VAT_DATE w_VAT_PERIOD w_VAT_DETAILS w_IMPORT_TAX w_CONDITIONS h0 n0 Z0 W (by decide) (by decide) (by decide) (by decide)
  · rw [h]; exact rm1_4 l Z a0 hw ws _ w_INVOICE_NUMBER w_INVOICE_DATE w_CUSTOMER_REFERENCE w_VAT_NUMBER w_VAT_DATE w_VAT_PERIOD w_VAT_DETAILS w_IMPORT_TAX w_CONDITIONS h0 n0 Z0 W (by decide) (by decide) (by decide) (by decide) (by decide)
  · rw [h]; exact rm1_5 l Z a0 hw ws _ w_INVOICE_NUMBER w_INVOICE_DATE w_CUSTOMER_REFERENCE w_VAT_NUMBER w_VAT_DATE w_VAT_PERIOD w_VAT_DETAILS w_IMPORT_TAX w_CONDITIONS h0 n0 Z0 W (by decide) (by decide) (by decide) (by decide) (by decide) (by decide)
  · rw [h]; exact rm1_6 l Z a0 hw ws _ w_INVOICE_NUMBER w_INVOICE_DATE w_CUSTOMER_REFERENCE w_VAT_NUMBER w_VAT_DATE w_VAT_PERIOD w_VAT_DETAILS w_IMPORT_TAX w_CONDITIONS h0 n0 Z0 W (by decide) (by decide) (by decide) (by decide) (by decide) (by decide) (by decide)
  · rw [h]; exact rm1_7 l Z a0 hw ws _ w_INVOICE_NUMBER w_INVOICE_DATE w_CUSTOMER_REFERENCE w_VAT_NUMBER w_VAT_DATE w_VAT_PERIOD w_VAT_DETAILS w_IMPORT_TAX w_CONDITIONS h0 n0 Z0 W (by decide) (by decide) (by decide) (by decide) (by decide) (by decide) (by decide) (by decide)
  · rw [h]; exact rm1_8 l Z a0 hw ws _ w_INVOICE_NUMBER w_INVOICE_DATE w_CUSTOMER_REFERENCE w_VAT_NUMBER w_VAT_DATE w_VAT_PERIOD w_VAT_DETAILS w_IMPORT_TAX w_CONDITIONS h0 n0 Z0 W (by decide) (by decide) (by decide) (by decide) (by decide) (by decide) (by decide) (by decide)
theorem d2_0 : decode prog_14_method_4_code 0 = .ok (.aload_n 0, 1) := by decide +kernel
theorem d2_1 : decode prog_14_method_4_code 1 = .ok (.getfield 50, 3) := by decide +kernel
theorem d2_4 : decode prog_14_method_4_code 4 = .ok (.ireturn, 1) := by decide +kernel
theorem pn_2 : plainName "com/example/rappen/rappen/bill/S1Key" = true := by first | (simp [plainName, overriddenIn]; done) | decide +kernel
theorem ef_2 (m : MethodId) (x0 : Addr) : entryFrame m #[(.ref x0)] 1 = mkF m 0 #[.val (.ref x0)] [] := by first | (simp [entryFrame, mkF, argsToLocals, Value.category]; done) | rfl
set_option maxRecDepth 65536 in
set_option maxHeartbeats 40000000 in
theorem rm2 (l : Launch) (Z : State) (a0 : Array Value) (hw : ∀ d ∈ tables_1, d.before a0 Z = true) (ws : List Jvm.Cond) (a1 : Addr) (w2 : Int32) (h0 : Heap) (n0 : Nat) (Z0 : n0 ≤ h0.size) (F_tag_a1 : Fld Z h0 a1 "com/example/rappen/rappen/bill/S1Key" "tag" "I" (.int w2)) :
    MetFree l (⟨"com/example/rappen/rappen/bill/S1Key", "tag", "()I"⟩ : MethodName) (head1 (Jvm.Cond.code (⟨"com/example/rappen/rappen/bill/S1Key", "tag", "()I"⟩ : MethodName) prog_14_method_4_code 1 (some .int) :: ws) ({ frames := 0, cells := 0, slots := 0, locals := 0 } : Room)) (fun a U => a = #[(.ref a1)] ∧ Z.Warmed39 U.vm ∧ U.heap = h0) (fun _ _ _ _ _ => True) (fun _ U o U' => ∃ v L, o = .returned v ∧ QP (some (.int w2)) h0 n0 v U'.heap L ∧ FrameEnd U o U' L ({ frames := 0, cells := 0, slots := 0, locals := 0 } : Room).cells ({ frames := 0, cells := 0, slots := 0, locals := 0 } : Room).slots) := by
  refine MetFree.of_bodySF (plainFor_of_name pn_2) hisR ?_
  intro p e s m args below meth c s₁ Bd hml0 hP hK
  obtain ⟨rfl, hZ, hh⟩ := hP
  have hx := Bd.exec
  have hby := Bd.bytes
  have hml : c.maxLocals = 1 := hml0
  have hown : s.vm.findClass "com/example/rappen/rappen/bill/S1Key" = some m.cls := findClass_of_methodNamed Bd.named
  have hnm := (name_of_methodNamed Bd.named Bd.method).1
  have X0 : Stand p l e ({ frames := 0, cells := 0, slots := 0, locals := 0 } : Room) s m #[(.ref a1)] below meth c s₁ [] 0 0 := Stand.of_body Bd
  have e0 : s₁.heap = h0 := by rw [← hh, Bd.state]; rfl
  have N0 := Fr.nil n0
  have pre0 : ∀ t, Steps p.tables e below (s₁.setTop (mkF m 0 #[.val (.ref a1)] [])) t → Steps p.tables e below (s₁.setTop (entryFrame m #[(.ref a1)] 1)) t := fun t k => castTop (ef_2 m a1) k
  obtain ⟨T3, X3, e3, st3⟩ := getF X0 hx hZ hown (host := "") (Or.inl (hw _ (List.mem_of_getElem? (i := 13) rfl))) Via.refl e0 F_tag_a1 (g := (mkF m 1 #[.val (.ref a1)] [(.ref a1)])) rfl rfl (hb hby d2_1)
  obtain ⟨fs, hr, hrun, hended, hW, hsame⟩ := X3.leave (v := some (.int w2)) (fun h => by rw [Bd.returns] at h; cases h)
  refine ⟨_, _, pre0 _ ?_, hrun, hended, _, _, rfl, ?_, ⟨_, rfl⟩, hW, hsame.mono (by decide) (by decide)⟩
  · show Steps p.tables e below (s₁.setTop (mkF m 0 #[.val (.ref a1)] [])) _
    refine XS.aloadN X0.here hx rfl (hb hby d2_0) rfl rfl ?_
    show Steps p.tables e below (s₁.setTop (mkF m 1 #[.val (.ref a1)] [(.ref a1)])) _
    refine st3 _ ?_
    show Steps p.tables e below (T3.setTop (mkF m 4 #[.val (.ref a1)] [(.int w2)])) _
    exact retI X3 hx Bd.returns (hb hby d2_4) hr
  · show QP (some (.int w2)) h0 n0 _ T3.heap _
    rw [e3]
    exact ⟨rfl, N0, rfl⟩
theorem d3_0 : decode prog_14_method_9_code 0 = .ok (.aload_n 0, 1) := by decide +kernel
theorem d3_1 : decode prog_14_method_9_code 1 = .ok (.getstatic 22, 3) := by decide +kernel
theorem d3_4 : decode prog_14_method_9_code 4 = .ok (.if_acmp .ne 7, 3) := by decide +kernel
theorem d3_7 : decode prog_14_method_9_code 7 = .ok (.iconst 1, 1) := by decide +kernel
theorem d3_8 : decode prog_14_method_9_code 8 = .ok (.goto 4, 3) := by decide +kernel
theorem d3_12 : decode prog_14_method_9_code 12 = .ok (.ireturn, 1) := by decide +kernel
theorem pn_3 : plainName "com/example/rappen/rappen/bill/S1Key" = true := by first | (simp [plainName, overriddenIn]; done) | decide +kernel
theorem ef_3 (m : MethodId) (x0 : Addr) : entryFrame m #[(.ref x0)] 1 = mkF m 0 #[.val (.ref x0)] [] := by first | (simp [entryFrame, mkF, argsToLocals, Value.category]; done) | rfl
set_option maxRecDepth 65536 in
set_option maxHeartbeats 40000000 in
theorem rm3_f (l : Launch) (Z : State) (a0 : Array Value) (hw : ∀ d ∈ tables_1, d.before a0 Z = true) (ws : List Jvm.Cond) (a1 : Addr) (w_INVOICE_NUMBER w_INVOICE_DATE w_CUSTOMER_REFERENCE w_VAT_NUMBER w_VAT_DATE w_VAT_PERIOD w_VAT_DETAILS w_IMPORT_TAX w_CONDITIONS : Addr) (h0 : Heap) (n0 : Nat) (Z0 : n0 ≤ h0.size) (W : Ws Z h0 w_INVOICE_NUMBER w_INVOICE_DATE w_CUSTOMER_REFERENCE w_VAT_NUMBER w_VAT_DATE w_VAT_PERIOD w_VAT_DETAILS w_IMPORT_TAX w_CONDITIONS) (ha4 : a1 = w_VAT_DETAILS) :
    MetFree l (⟨"com/example/rappen/rappen/bill/S1Key", "lastPartOptionalAlone", "()Z"⟩ : MethodName) (head1 (Jvm.Cond.code (⟨"com/example/rappen/rappen/bill/S1Key", "lastPartOptionalAlone", "()Z"⟩ : MethodName) prog_14_method_9_code 1 (some .boolean) :: ws) ({ frames := 0, cells := 0, slots := 0, locals := 0 } : Room)) (fun a U => a = #[(.ref a1)] ∧ Z.Warmed39 U.vm ∧ U.heap = h0) (fun _ _ _ _ _ => True) (fun _ U o U' => ∃ v L, o = .returned v ∧ QP (some (.int (1 : Int32))) h0 n0 v U'.heap L ∧ FrameEnd U o U' L ({ frames := 0, cells := 0, slots := 0, locals := 0 } : Room).cells ({ frames := 0, cells := 0, slots := 0, locals := 0 } : Room).slots) := by
  refine MetFree.of_bodySF (plainFor_of_name pn_3) hisR ?_
  intro p e s m args below meth c s₁ Bd hml0 hP hK
  obtain ⟨rfl, hZ, hh⟩ := hP
  have hx := Bd.exec
  have hby := Bd.bytes
  have hml : c.maxLocals = 1 := hml0
  have hown : s.vm.findClass "com/example/rappen/rappen/bill/S1Key" = some m.cls := findClass_of_methodNamed Bd.named
  have hnm := (name_of_methodNamed Bd.named Bd.method).1
  have X0 : Stand p l e ({ frames := 0, cells := 0, slots := 0, locals := 0 } : Room) s m #[(.ref a1)] below meth c s₁ [] 0 0 := Stand.of_body Bd
  have e0 : s₁.heap = h0 := by rw [← hh, Bd.state]; rfl
  have N0 := Fr.nil n0
  have pre0 : ∀ t, Steps p.tables e below (s₁.setTop (mkF m 0 #[.val (.ref a1)] [])) t → Steps p.tables e below (s₁.setTop (entryFrame m #[(.ref a1)] 1)) t := fun t k => castTop (ef_3 m a1) k
  obtain ⟨S_INVOICE_NUMBER, S_INVOICE_DATE, S_CUSTOMER_REFERENCE, S_VAT_NUMBER, S_VAT_DATE, S_VAT_PERIOD, S_VAT_DETAILS, S_IMPORT_TAX, S_CONDITIONS, E_w_INVOICE_NUMBER, E_w_INVOICE_DATE, E_w_CUSTOMER_REFERENCE, E_w_VAT_NUMBER, E_w_VAT_DATE, E_w_VAT_PERIOD, E_w_VAT_DETAILS, E_w_IMPORT_TAX, E_w_CONDITIONS, n_INVOICE_NUMBER_VAT_DETAILS, n_INVOICE_DATE_VAT_DETAILS, n_CUSTOMER_REFERENCE_VAT_DETAILS, n_VAT_NUMBER_VAT_DETAILS, n_VAT_DATE_VAT_DETAILS, n_VAT_PERIOD_VAT_DETAILS, n_VAT_DETAILS_IMPORT_TAX, n_VAT_DETAILS_CONDITIONS⟩ := W
  obtain ⟨T2, X2, e2, st2⟩ := getS2 X0 hx hZ hown (host := "") (Or.inl (hw _ (List.mem_of_getElem? (i := 20) rfl))) Via.refl e0 S_VAT_DETAILS (g := (mkF m 1 #[.val (.ref a1)] [(.ref a1)])) rfl (hb hby d3_1)
  obtain ⟨fs, hr, hrun, hended, hW, hsame⟩ := X2.leave (v := some (.int (1 : Int32))) (fun h => by rw [Bd.returns] at h; cases h)
  refine ⟨_, _, pre0 _ ?_, hrun, hended, _, _, rfl, ?_, ⟨_, rfl⟩, hW, hsame.mono (by decide) (by decide)⟩
  · show Steps p.tables e below (s₁.setTop (mkF m 0 #[.val (.ref a1)] [])) _
    refine XS.aloadN X0.here hx rfl (hb hby d3_0) rfl rfl ?_
    show Steps p.tables e below (s₁.setTop (mkF m 1 #[.val (.ref a1)] [(.ref a1)])) _
    refine st2 _ ?_
    show Steps p.tables e below (T2.setTop (mkF m 4 #[.val (.ref a1)] [(.ref w_VAT_DETAILS), (.ref a1)])) _
    refine Jvm.RoadKit.acmp (g := (mkF m 4 #[.val (.ref a1)] [(.ref w_VAT_DETAILS), (.ref a1)])) X2 hx rfl rfl rfl (pc0 := 4) (pc' := 7) (same := true) rfl (hb hby d3_4) rfl (decide_eq_true (congrArg Value.ref ha4)) (by decide) (by decide) ?_
    show Steps p.tables e below (T2.setTop (mkF m 7 #[.val (.ref a1)] [])) _
    refine XS.iconst X2.here hx rfl (hb hby d3_7) ?_
    show Steps p.tables e below (T2.setTop (mkF m 8 #[.val (.ref a1)] [(.int (1 : Int32))])) _
    refine XS.goto X2.here hx rfl (pc0 := 8) (pc' := 12) rfl (hb hby d3_8) (by decide) (by decide) ?_
    show Steps p.tables e below (T2.setTop (mkF m 12 #[.val (.ref a1)] [(.int (1 : Int32))])) _
    exact retN X2 hx (t := .boolean) Bd.returns (by simp) (hb hby d3_12) hr
  · show QP (some (.int (1 : Int32))) h0 n0 _ T2.heap _
    rw [e2]
    exact ⟨rfl, N0, rfl⟩
theorem d3_11 : decode prog_14_method_9_code 11 = .ok (.iconst 0, 1) := by decide +kernel
set_option maxRecDepth 65536 in
set_option maxHeartbeats 40000000 in
theorem rm3_t (l : Launch) (Z : State) (a0 : Array Value) (hw : ∀ d ∈ tables_1, d.before a0 Z = true) (ws : List Jvm.Cond) (a1 : Addr) (w_INVOICE_NUMBER w_INVOICE_DATE w_CUSTOMER_REFERENCE w_VAT_NUMBER w_VAT_DATE w_VAT_PERIOD w_VAT_DETAILS w_IMPORT_TAX w_CONDITIONS : Addr) (h0 : Heap) (n0 : Nat) (Z0 : n0 ≤ h0.size) (W : Ws Z h0 w_INVOICE_NUMBER w_INVOICE_DATE w_CUSTOMER_REFERENCE w_VAT_NUMBER w_VAT_DATE w_VAT_PERIOD w_VAT_DETAILS w_IMPORT_TAX w_CONDITIONS) (ha4 : ¬ (a1 = w_VAT_DETAILS)) :
    MetFree l (⟨"com/example/rappen/rappen/bill/S1Key", "lastPartOptionalAlone", "()Z"⟩ : MethodName) (head1 (Jvm.Cond.code (⟨"com/example/rappen/rappen/bill/S1Key", "lastPartOptionalAlone", "()Z"⟩ : MethodName) prog_14_method_9_code 1 (some .boolean) :: ws) ({ frames := 0, cells := 0, slots := 0, locals := 0 } : Room)) (fun a U => a = #[(.ref a1)] ∧ Z.Warmed39 U.vm ∧ U.heap = h0) (fun _ _ _ _ _ => True) (fun _ U o U' => ∃ v L, o = .returned v ∧ QP (some (.int (0 : Int32))) h0 n0 v U'.heap L ∧ FrameEnd U o U' L ({ frames := 0, cells := 0, slots := 0, locals := 0 } : Room).cells ({ frames := 0, cells := 0, slots := 0, locals := 0 } : Room).slots) := by
  refine MetFree.of_bodySF (plainFor_of_name pn_3) hisR ?_
  intro p e s m args below meth c s₁ Bd hml0 hP hK
  obtain ⟨rfl, hZ, hh⟩ := hP
  have hx := Bd.exec
  have hby := Bd.bytes
  have hml : c.maxLocals = 1 := hml0
  have hown : s.vm.findClass "com/example/rappen/rappen/bill/S1Key" = some m.cls := findClass_of_methodNamed Bd.named
  have hnm := (name_of_methodNamed Bd.named Bd.method).1
  have X0 : Stand p l e ({ frames := 0, cells := 0, slots := 0, locals := 0 } : Room) s m #[(.ref a1)] below meth c s₁ [] 0 0 := Stand.of_body Bd
  have e0 : s₁.heap = h0 := by rw [← hh, Bd.state]; rfl
  have N0 := Fr.nil n0
  have pre0 : ∀ t, Steps p.tables e below (s₁.setTop (mkF m 0 #[.val (.ref a1)] [])) t → Steps p.tables e below (s₁.setTop (entryFrame m #[(.ref a1)] 1)) t := fun t k => castTop (ef_3 m a1) k
  obtain ⟨S_INVOICE_NUMBER, S_INVOICE_DATE, S_CUSTOMER_REFERENCE, S_VAT_NUMBER, S_VAT_DATE, S_VAT_PERIOD, S_VAT_DETAILS, S_IMPORT_TAX, S_CONDITIONS, E_w_INVOICE_NUMBER, E_w_INVOICE_DATE, E_w_CUSTOMER_REFERENCE, E_w_VAT_NUMBER, E_w_VAT_DATE, E_w_VAT_PERIOD, E_w_VAT_DETAILS, E_w_IMPORT_TAX, E_w_CONDITIONS, n_INVOICE_NUMBER_VAT_DETAILS, n_INVOICE_DATE_VAT_DETAILS, n_CUSTOMER_REFERENCE_VAT_DETAILS, n_VAT_NUMBER_VAT_DETAILS, n_VAT_DATE_VAT_DETAILS, n_VAT_PERIOD_VAT_DETAILS, n_VAT_DETAILS_IMPORT_TAX, n_VAT_DETAILS_CONDITIONS⟩ := W
  obtain ⟨T2, X2, e2, st2⟩ := getS2 X0 hx hZ hown (host := "") (Or.inl (hw _ (List.mem_of_getElem? (i := 20) rfl))) Via.refl e0 S_VAT_DETAILS (g := (mkF m 1 #[.val (.ref a1)] [(.ref a1)])) rfl (hb hby d3_1)
  obtain ⟨fs, hr, hrun, hended, hW, hsame⟩ := X2.leave (v := some (.int (0 : Int32))) (fun h => by rw [Bd.returns] at h; cases h)
  refine ⟨_, _, pre0 _ ?_, hrun, hended, _, _, rfl, ?_, ⟨_, rfl⟩, hW, hsame.mono (by decide) (by decide)⟩
  · show Steps p.tables e below (s₁.setTop (mkF m 0 #[.val (.ref a1)] [])) _
    refine XS.aloadN X0.here hx rfl (hb hby d3_0) rfl rfl ?_
    show Steps p.tables e below (s₁.setTop (mkF m 1 #[.val (.ref a1)] [(.ref a1)])) _
    refine st2 _ ?_
    show Steps p.tables e below (T2.setTop (mkF m 4 #[.val (.ref a1)] [(.ref w_VAT_DETAILS), (.ref a1)])) _
    refine Jvm.RoadKit.acmp (g := (mkF m 4 #[.val (.ref a1)] [(.ref w_VAT_DETAILS), (.ref a1)])) X2 hx rfl rfl rfl (pc0 := 4) (pc' := 11) (same := false) rfl (hb hby d3_4) rfl (decide_eq_false fun q => ha4 (Value.ref.inj q)) (by decide) (by decide) ?_
    show Steps p.tables e below (T2.setTop (mkF m 11 #[.val (.ref a1)] [])) _
    refine XS.iconst X2.here hx rfl (hb hby d3_11) ?_
    show Steps p.tables e below (T2.setTop (mkF m 12 #[.val (.ref a1)] [(.int (0 : Int32))])) _
    exact retN X2 hx (t := .boolean) Bd.returns (by simp) (hb hby d3_12) hr
  · show QP (some (.int (0 : Int32))) h0 n0 _ T2.heap _
    rw [e2]
    exact ⟨rfl, N0, rfl⟩
theorem pn_0 : plainName "com/example/rappen/rappen/bill/S1KeyLastPartOptionalAlonePinLaw" = true := by first | (simp [plainName, overriddenIn]; done) | decide +kernel
theorem pd_0_0 : parseMethodDescriptor "(I)Lcom/example/rappen/rappen/bill/S1Key;" = some ⟨[.int], some (.object "com/example/rappen/rappen/bill/S1Key")⟩ := by decide +kernel
theorem pd_0_1 : parseMethodDescriptor "()I" = some ⟨[], some .int⟩ := by decide +kernel
theorem pd_0_2 : parseMethodDescriptor "()Z" = some ⟨[], some .boolean⟩ := by decide +kernel
theorem ef_0 (m : MethodId) (x0 : Int32) : entryFrame m #[(.int x0)] maxLocals = mkF m 0 #[.val (.int x0), .unset, .unset, .unset] [] := by first | (simp [entryFrame, mkF, argsToLocals, Value.category, maxLocals]; done) | rfl
set_option maxRecDepth 65536 in
set_option maxHeartbeats 40000000 in
theorem rm0_a (l : Launch) (Z : State) (a0 : Array Value) (hw : ∀ d ∈ tables_1, d.before a0 Z = true) (ws : List Jvm.Cond) (p1 : Int32) (r : Addr) (tg : Int32) (w_INVOICE_NUMBER w_INVOICE_DATE w_CUSTOMER_REFERENCE w_VAT_NUMBER w_VAT_DATE w_VAT_PERIOD w_VAT_DETAILS w_IMPORT_TAX w_CONDITIONS : Addr) (h0 : Heap) (n0 : Nat) (Z0 : n0 ≤ h0.size) (W : Ws Z h0 w_INVOICE_NUMBER w_INVOICE_DATE w_CUSTOMER_REFERENCE w_VAT_NUMBER w_VAT_DATE w_VAT_PERIOD w_VAT_DETAILS w_IMPORT_TAX w_CONDITIONS) (hr1 : (((p1 &&& (2147483647 : Int32)) % (9 : Int32)) = (0 : Int32) ∧ r = w_INVOICE_NUMBER) ∨ (((p1 &&& (2147483647 : Int32)) % (9 : Int32)) = (1 : Int32) ∧ r = w_INVOICE_DATE) ∨ (((p1 &&& (2147483647 : Int32)) % (9 : Int32)) = (2 : Int32) ∧ r = w_CUSTOMER_REFERENCE) ∨ (((p1 &&& (2147483647 : Int32)) % (9 : Int32)) = (3 : Int32) ∧ r = w_VAT_NUMBER) ∨ (((p1 &&& (2147483647 : Int32)) % (9 : Int32)) = (4 : Int32) ∧ r = w_VAT_DATE) ∨ (((p1 &&& (2147483647 : Int32)) % (9 : Int32)) = (5 : Int32) ∧ r = w_VAT_PERIOD) ∨ (((p1 &&& (2147483647 : Int32)) % (9 : Int32)) = (6 : Int32) ∧ r = w_VAT_DETAILS) ∨ (((p1 &&& (2147483647 : Int32)) % (9 : Int32)) = (7 : Int32) ∧ r = w_IMPORT_TAX) ∨ (((p1 &&& (2147483647 : Int32)) % (9 : Int32)) = (8 : Int32) ∧ r = w_CONDITIONS)) (hF : Fld Z h0 r "com/example/rappen/rappen/bill/S1Key" "tag" "I" (.int tg)) (hd : r = w_VAT_DETAILS) (E_r : Exa Z h0 r "com/example/rappen/rappen/bill/S1Key") (hc19 : tg = (32 : Int32)) :
    MetFree l x (head1 (Jvm.Cond.code x code maxLocals ret :: ws) room_1) (fun a U => a = #[(.int p1)] ∧ Z.Warmed39 U.vm ∧ U.heap = h0) (fun _ _ _ _ _ => True) (fun _ U o U' => ∃ v L, o = .returned v ∧ Q0 n0 v L ∧ FrameEnd U o U' L 0 0) := by
  refine MetFree.of_bodySF (plainFor_of_name pn_0) hisR ?_
  intro p e s m args below meth c s₁ Bd hml0 hP hK
  obtain ⟨rfl, hZ, hh⟩ := hP
  have hx := Bd.exec
  have hby := Bd.bytes
  have hml : c.maxLocals = 4 := hml0
  have hown : s.vm.findClass "com/example/rappen/rappen/bill/S1KeyLastPartOptionalAlonePinLaw" = some m.cls := findClass_of_methodNamed Bd.named
  have hnm := (name_of_methodNamed Bd.named Bd.method).1
  have X0 : Stand p l e room_1 s m #[(.int p1)] below meth c s₁ [] 0 0 := Stand.of_body Bd
  have e0 : s₁.heap = h0 := by rw [← hh, Bd.state]; rfl
  have N0 := Fr.nil n0
  have pre0 : ∀ t, Steps p.tables e below (s₁.setTop (mkF m 0 #[.val (.int p1), .unset, .unset, .unset] [])) t → Steps p.tables e below (s₁.setTop (entryFrame m #[(.int p1)] maxLocals)) t := fun t k => castTop (ef_0 m p1) k
  obtain ⟨_, _, ⟨T2, L2, k2, n2⟩, -, X2, ⟨Lc2, hQ2, l2, y2, z2⟩, st2⟩ := Jvm.LawKit.callS X0 hx (y := (⟨"com/example/rappen/rappen/bill/S1KeyLastPartOptionalAlonePinLaw", "pick", "(I)Lcom/example/rappen/rappen/bill/S1Key;"⟩ : MethodName)) hown (mvT hZ (hw _ (List.mem_of_getElem? (i := 1) rfl))) (mvT hZ (hw _ (List.mem_of_getElem? (i := 2) rfl))) (mvT hZ (hw _ (List.mem_of_getElem? (i := 3) rfl))) (mvT hZ (hw _ (List.mem_of_getElem? (i := 4) rfl))) (by decide) (backOf (W := 0) (rm1 l Z a0 hw [] ((p1 &&& (2147483647 : Int32)) % (9 : Int32)) r w_INVOICE_NUMBER w_INVOICE_DATE w_CUSTOMER_REFERENCE w_VAT_NUMBER w_VAT_DATE w_VAT_PERIOD w_VAT_DETAILS w_IMPORT_TAX w_CONDITIONS h0 n0 Z0 W hr1) hZ (hw _ (List.mem_of_getElem? (i := 4) rfl)) (hw _ (List.mem_of_getElem? (i := 3) rfl)) (by decide) (by decide)) (g := (mkF m 9 #[.val (.int p1), .val (.int ((p1 &&& (2147483647 : Int32)) % (9 : Int32))), .unset, .unset] [(.int ((p1 &&& (2147483647 : Int32)) % (9 : Int32)))])) rfl (by rw [hml]; rfl) (argsL := [(.int ((p1 &&& (2147483647 : Int32)) % (9 : Int32)))]) (rest := []) (lenOf pd_0_0 rfl) rfl (by show 2 * 0 + _ ≤ _; exact Nat.le_of_eq rfl) (hb hby at_9) (fun _ _ => ⟨rfl, e0, (by decide : 0 + 0 ≤ _), (by decide : 0 + 0 ≤ _)⟩)
  dsimp only [Pt.U, Pt.locs, Pt.cells, Pt.slots] at X2 l2 y2 z2 st2 hQ2
  subst l2 y2 z2
  obtain ⟨rfl, N2q, e2⟩ := hQ2
  have N2 := Fr.app N0 N2q
  obtain ⟨cq3, kq3, q3a, q3b, q3c⟩ := isOf hZ e2 E_r
  obtain ⟨_, _, ⟨T3, L3, k3, n3⟩, -, X3, ⟨Lc3, hQ3, l3, y3, z3⟩, st3⟩ := X2.virtualBack hx (y := (⟨"com/example/rappen/rappen/bill/S1Key", "tag", "()I"⟩ : MethodName)) (z := (⟨"com/example/rappen/rappen/bill/S1Key", "tag", "()I"⟩ : MethodName)) hown (mvT hZ (hw _ (List.mem_of_getElem? (i := 8) rfl))) (mvT hZ (hw _ (List.mem_of_getElem? (i := 9) rfl))) (notFace_of_selects (args := #[]) (mvT hZ (hw _ (List.mem_of_getElem? (i := 11) rfl)))) (mvT hZ (hw _ (List.mem_of_getElem? (i := 11) rfl))) (mvT hZ (hw _ (List.mem_of_getElem? (i := 10) rfl))) (by decide) (backOf (W := 0) (rm2 l Z a0 hw [] r tg h0 n0 Z0 hF) hZ (hw _ (List.mem_of_getElem? (i := 12) rfl)) (hw _ (List.mem_of_getElem? (i := 6) rfl)) (by decide) (by decide)) q3a q3c (g := (mkF m 14 #[.val (.int p1), .val (.int ((p1 &&& (2147483647 : Int32)) % (9 : Int32))), .val (.ref r), .unset] [(.ref r)])) rfl (by rw [hml]; rfl) (Steps.refl _) (argsL := []) (rest := []) (lenOf pd_0_1 rfl) rfl (by show 2 * 0 + _ ≤ _; exact Nat.le_of_eq rfl) (hb hby at_14) (fun _ _ => ⟨rfl, e2, (by decide : 0 + 0 ≤ _), (by decide : 0 + 0 ≤ _)⟩)
  dsimp only [Pt.U, Pt.locs, Pt.cells, Pt.slots] at X3 l3 y3 z3 st3 hQ3
  subst l3 y3 z3
  obtain ⟨rfl, N3q, e3⟩ := hQ3
  have N3 := Fr.app N2 N3q
  obtain ⟨cq4, kq4, q4a, q4b, q4c⟩ := isOf hZ e3 E_r
  obtain ⟨_, _, ⟨T4, L4, k4, n4⟩, -, X4, ⟨Lc4, hQ4, l4, y4, z4⟩, st4⟩ := X3.virtualBack hx (y := (⟨"com/example/rappen/rappen/bill/S1Key", "lastPartOptionalAlone", "()Z"⟩ : MethodName)) (z := (⟨"com/example/rappen/rappen/bill/S1Key", "lastPartOptionalAlone", "()Z"⟩ : MethodName)) hown (mvT hZ (hw _ (List.mem_of_getElem? (i := 15) rfl))) (mvT hZ (hw _ (List.mem_of_getElem? (i := 16) rfl))) (notFace_of_selects (args := #[]) (mvT hZ (hw _ (List.mem_of_getElem? (i := 18) rfl)))) (mvT hZ (hw _ (List.mem_of_getElem? (i := 18) rfl))) (mvT hZ (hw _ (List.mem_of_getElem? (i := 17) rfl))) (by decide) (backOf (W := 0) (rm3_f l Z a0 hw [] r w_INVOICE_NUMBER w_INVOICE_DATE w_CUSTOMER_REFERENCE w_VAT_NUMBER w_VAT_DATE w_VAT_PERIOD w_VAT_DETAILS w_IMPORT_TAX w_CONDITIONS h0 n0 Z0 W hd) hZ (hw _ (List.mem_of_getElem? (i := 19) rfl)) (hw _ (List.mem_of_getElem? (i := 6) rfl)) (by decide) (by decide)) q4a q4c (g := (mkF m 29 #[.val (.int p1), .val (.int ((p1 &&& (2147483647 : Int32)) % (9 : Int32))), .val (.ref r), .val (.int (1 : Int32))] [(.ref r)])) rfl (by rw [hml]; rfl) (Steps.refl _) (argsL := []) (rest := []) (lenOf pd_0_2 rfl) rfl (by show 2 * 0 + _ ≤ _; exact Nat.le_of_eq rfl) (hb hby at_29) (fun _ _ => ⟨rfl, e3, (by decide : 0 + 0 ≤ _), (by decide : 0 + 0 ≤ _)⟩)
  dsimp only [Pt.U, Pt.locs, Pt.cells, Pt.slots] at X4 l4 y4 z4 st4 hQ4
  subst l4 y4 z4
  obtain ⟨rfl, N4q, e4⟩ := hQ4
  have N4 := Fr.app N3 N4q
  obtain ⟨fs, hr, hrun, hended, hW, hsame⟩ := X4.leave (v := some (.int (1 : Int32))) (fun h => by rw [Bd.returns] at h; cases h)
  refine ⟨_, _, pre0 _ ?_, hrun, hended, _, _, rfl, ?_, ⟨_, rfl⟩, hW, hsame.mono (by decide) (by decide)⟩
  · show Steps p.tables e below (s₁.setTop (mkF m 0 #[.val (.int p1), .unset, .unset, .unset] [])) _
    refine XS.iloadN X0.here hx rfl (hb hby at_0) rfl ?_
    show Steps p.tables e below (s₁.setTop (mkF m 1 #[.val (.int p1), .unset, .unset, .unset] [(.int p1)])) _
    refine X0.ldcInt hx hown (mvT hZ (hw _ (List.mem_of_getElem? (i := 0) rfl))) (g := (mkF m 1 #[.val (.int p1), .unset, .unset, .unset] [(.int p1)])) rfl (hb hby at_1) _ ?_
    show Steps p.tables e below (s₁.setTop (mkF m 3 #[.val (.int p1), .unset, .unset, .unset] [(.int (2147483647 : Int32)), (.int p1)])) _
    refine XS.iand X0.here hx rfl (hb hby at_3) rfl ?_
    show Steps p.tables e below (s₁.setTop (mkF m 4 #[.val (.int p1), .unset, .unset, .unset] [(.int (p1 &&& (2147483647 : Int32)))])) _
    refine XS.bipush X0.here hx rfl (hb hby at_4) ?_
    show Steps p.tables e below (s₁.setTop (mkF m 6 #[.val (.int p1), .unset, .unset, .unset] [(.int (9 : Int32)), (.int (p1 &&& (2147483647 : Int32)))])) _
    refine iremM X0 hx rfl (hb hby at_6) rfl (by decide) ?_
    show Steps p.tables e below (s₁.setTop (mkF m 7 #[.val (.int p1), .unset, .unset, .unset] [(.int ((p1 &&& (2147483647 : Int32)) % (9 : Int32)))])) _
    refine XS.istoreN X0.here hx rfl (hb hby at_7) rfl (l' := #[.val (.int p1), .val (.int ((p1 &&& (2147483647 : Int32)) % (9 : Int32))), .unset, .unset]) rfl ?_
    show Steps p.tables e below (s₁.setTop (mkF m 8 #[.val (.int p1), .val (.int ((p1 &&& (2147483647 : Int32)) % (9 : Int32))), .unset, .unset] [])) _
    refine XS.iloadN X0.here hx rfl (hb hby at_8) rfl ?_
    show Steps p.tables e below (s₁.setTop (mkF m 9 #[.val (.int p1), .val (.int ((p1 &&& (2147483647 : Int32)) % (9 : Int32))), .unset, .unset] [(.int ((p1 &&& (2147483647 : Int32)) % (9 : Int32)))])) _
    refine st2 _ ?_
    show Steps p.tables e below (T2.setTop (mkF m 12 #[.val (.int p1), .val (.int ((p1 &&& (2147483647 : Int32)) % (9 : Int32))), .unset, .unset] [(.ref r)])) _
    refine XS.astoreN X2.here hx rfl (hb hby at_12) rfl rfl (l' := #[.val (.int p1), .val (.int ((p1 &&& (2147483647 : Int32)) % (9 : Int32))), .val (.ref r), .unset]) rfl ?_
    show Steps p.tables e below (T2.setTop (mkF m 13 #[.val (.int p1), .val (.int ((p1 &&& (2147483647 : Int32)) % (9 : Int32))), .val (.ref r), .unset] [])) _
    refine XS.aloadN X2.here hx rfl (hb hby at_13) rfl rfl ?_
    show Steps p.tables e below (T2.setTop (mkF m 14 #[.val (.int p1), .val (.int ((p1 &&& (2147483647 : Int32)) % (9 : Int32))), .val (.ref r), .unset] [(.ref r)])) _
    refine st3.trans ?_
    show Steps p.tables e below (T3.setTop (mkF m 17 #[.val (.int p1), .val (.int ((p1 &&& (2147483647 : Int32)) % (9 : Int32))), .val (.ref r), .unset] [(.int tg)])) _
    refine XS.bipush X3.here hx rfl (hb hby at_17) ?_
    show Steps p.tables e below (T3.setTop (mkF m 19 #[.val (.int p1), .val (.int ((p1 &&& (2147483647 : Int32)) % (9 : Int32))), .val (.ref r), .unset] [(.int (32 : Int32)), (.int tg)])) _
    refine XS.icmpNo X3.here hx rfl (hb hby at_19) rfl (teq hc19).2 ?_
    show Steps p.tables e below (T3.setTop (mkF m 22 #[.val (.int p1), .val (.int ((p1 &&& (2147483647 : Int32)) % (9 : Int32))), .val (.ref r), .unset] [])) _
    refine XS.iconst X3.here hx rfl (hb hby at_22) ?_
    show Steps p.tables e below (T3.setTop (mkF m 23 #[.val (.int p1), .val (.int ((p1 &&& (2147483647 : Int32)) % (9 : Int32))), .val (.ref r), .unset] [(.int (1 : Int32))])) _
    refine XS.goto X3.here hx rfl (pc0 := 23) (pc' := 27) rfl (hb hby at_23) (by decide) (by decide) ?_
    show Steps p.tables e below (T3.setTop (mkF m 27 #[.val (.int p1), .val (.int ((p1 &&& (2147483647 : Int32)) % (9 : Int32))), .val (.ref r), .unset] [(.int (1 : Int32))])) _
    refine XS.istoreN X3.here hx rfl (hb hby at_27) rfl (l' := #[.val (.int p1), .val (.int ((p1 &&& (2147483647 : Int32)) % (9 : Int32))), .val (.ref r), .val (.int (1 : Int32))]) rfl ?_
    show Steps p.tables e below (T3.setTop (mkF m 28 #[.val (.int p1), .val (.int ((p1 &&& (2147483647 : Int32)) % (9 : Int32))), .val (.ref r), .val (.int (1 : Int32))] [])) _
    refine XS.aloadN X3.here hx rfl (hb hby at_28) rfl rfl ?_
    show Steps p.tables e below (T3.setTop (mkF m 29 #[.val (.int p1), .val (.int ((p1 &&& (2147483647 : Int32)) % (9 : Int32))), .val (.ref r), .val (.int (1 : Int32))] [(.ref r)])) _
    refine st4.trans ?_
    show Steps p.tables e below (T4.setTop (mkF m 32 #[.val (.int p1), .val (.int ((p1 &&& (2147483647 : Int32)) % (9 : Int32))), .val (.ref r), .val (.int (1 : Int32))] [(.int (1 : Int32))])) _
    refine XS.iloadN X4.here hx rfl (hb hby at_32) rfl ?_
    show Steps p.tables e below (T4.setTop (mkF m 33 #[.val (.int p1), .val (.int ((p1 &&& (2147483647 : Int32)) % (9 : Int32))), .val (.ref r), .val (.int (1 : Int32))] [(.int (1 : Int32)), (.int (1 : Int32))])) _
    refine XS.icmpNo X4.here hx rfl (hb hby at_33) rfl (teq (rfl : (1 : Int32) = (1 : Int32))).2 ?_
    show Steps p.tables e below (T4.setTop (mkF m 36 #[.val (.int p1), .val (.int ((p1 &&& (2147483647 : Int32)) % (9 : Int32))), .val (.ref r), .val (.int (1 : Int32))] [])) _
    refine XS.iconst X4.here hx rfl (hb hby at_36) ?_
    show Steps p.tables e below (T4.setTop (mkF m 37 #[.val (.int p1), .val (.int ((p1 &&& (2147483647 : Int32)) % (9 : Int32))), .val (.ref r), .val (.int (1 : Int32))] [(.int (1 : Int32))])) _
    refine XS.goto X4.here hx rfl (pc0 := 37) (pc' := 41) rfl (hb hby at_37) (by decide) (by decide) ?_
    show Steps p.tables e below (T4.setTop (mkF m 41 #[.val (.int p1), .val (.int ((p1 &&& (2147483647 : Int32)) % (9 : Int32))), .val (.ref r), .val (.int (1 : Int32))] [(.int (1 : Int32))])) _
    exact retN X4 hx (t := .boolean) Bd.returns (by simp) (hb hby at_41) hr
  · show Q0 n0 _ _
    exact ⟨rfl, N4⟩
set_option maxRecDepth 65536 in
set_option maxHeartbeats 40000000 in
theorem rm0_b (l : Launch) (Z : State) (a0 : Array Value) (hw : ∀ d ∈ tables_1, d.before a0 Z = true) (ws : List Jvm.Cond) (p1 : Int32) (r : Addr) (tg : Int32) (w_INVOICE_NUMBER w_INVOICE_DATE w_CUSTOMER_REFERENCE w_VAT_NUMBER w_VAT_DATE w_VAT_PERIOD w_VAT_DETAILS w_IMPORT_TAX w_CONDITIONS : Addr) (h0 : Heap) (n0 : Nat) (Z0 : n0 ≤ h0.size) (W : Ws Z h0 w_INVOICE_NUMBER w_INVOICE_DATE w_CUSTOMER_REFERENCE w_VAT_NUMBER w_VAT_DATE w_VAT_PERIOD w_VAT_DETAILS w_IMPORT_TAX w_CONDITIONS) (hr1 : (((p1 &&& (2147483647 : Int32)) % (9 : Int32)) = (0 : Int32) ∧ r = w_INVOICE_NUMBER) ∨ (((p1 &&& (2147483647 : Int32)) % (9 : Int32)) = (1 : Int32) ∧ r = w_INVOICE_DATE) ∨ (((p1 &&& (2147483647 : Int32)) % (9 : Int32)) = (2 : Int32) ∧ r = w_CUSTOMER_REFERENCE) ∨ (((p1 &&& (2147483647 : Int32)) % (9 : Int32)) = (3 : Int32) ∧ r = w_VAT_NUMBER) ∨ (((p1 &&& (2147483647 : Int32)) % (9 : Int32)) = (4 : Int32) ∧ r = w_VAT_DATE) ∨ (((p1 &&& (2147483647 : Int32)) % (9 : Int32)) = (5 : Int32) ∧ r = w_VAT_PERIOD) ∨ (((p1 &&& (2147483647 : Int32)) % (9 : Int32)) = (6 : Int32) ∧ r = w_VAT_DETAILS) ∨ (((p1 &&& (2147483647 : Int32)) % (9 : Int32)) = (7 : Int32) ∧ r = w_IMPORT_TAX) ∨ (((p1 &&& (2147483647 : Int32)) % (9 : Int32)) = (8 : Int32) ∧ r = w_CONDITIONS)) (hF : Fld Z h0 r "com/example/rappen/rappen/bill/S1Key" "tag" "I" (.int tg)) (hd : ¬ r = w_VAT_DETAILS) (E_r : Exa Z h0 r "com/example/rappen/rappen/bill/S1Key") (hc19 : ¬ (tg = (32 : Int32))) :
    MetFree l x (head1 (Jvm.Cond.code x code maxLocals ret :: ws) room_1) (fun a U => a = #[(.int p1)] ∧ Z.Warmed39 U.vm ∧ U.heap = h0) (fun _ _ _ _ _ => True) (fun _ U o U' => ∃ v L, o = .returned v ∧ Q0 n0 v L ∧ FrameEnd U o U' L 0 0) := by
  refine MetFree.of_bodySF (plainFor_of_name pn_0) hisR ?_
  intro p e s m args below meth c s₁ Bd hml0 hP hK
  obtain ⟨rfl, hZ, hh⟩ := hP
  have hx := Bd.exec
  have hby := Bd.bytes
  have hml : c.maxLocals = 4 := hml0
  have hown : s.vm.findClass "com/example/rappen/rappen/bill/S1KeyLastPartOptionalAlonePinLaw" = some m.cls := findClass_of_methodNamed Bd.named
  have hnm := (name_of_methodNamed Bd.named Bd.method).1
  have X0 : Stand p l e room_1 s m #[(.int p1)] below meth c s₁ [] 0 0 := Stand.of_body Bd
  have e0 : s₁.heap = h0 := by rw [← hh, Bd.state]; rfl
  have N0 := Fr.nil n0
  have pre0 : ∀ t, Steps p.tables e below (s₁.setTop (mkF m 0 #[.val (.int p1), .unset, .unset, .unset] [])) t → Steps p.tables e below (s₁.setTop (entryFrame m #[(.int p1)] maxLocals)) t := fun t k => castTop (ef_0 m p1) k
  obtain ⟨_, _, ⟨T2, L2, k2, n2⟩, -, X2, ⟨Lc2, hQ2, l2, y2, z2⟩, st2⟩ := Jvm.LawKit.callS X0 hx (y := (⟨"com/example/rappen/rappen/bill/S1KeyLastPartOptionalAlonePinLaw", "pick", "(I)Lcom/example/rappen/rappen/bill/S1Key;"⟩ : MethodName)) hown (mvT hZ (hw _ (List.mem_of_getElem? (i := 1) rfl))) (mvT hZ (hw _ (List.mem_of_getElem? (i := 2) rfl))) (mvT hZ (hw _ (List.mem_of_getElem? (i := 3) rfl))) (mvT hZ (hw _ (List.mem_of_getElem? (i := 4) rfl))) (by decide) (backOf (W := 0) (rm1 l Z a0 hw [] ((p1 &&& (2147483647 : Int32)) % (9 : Int32)) r w_INVOICE_NUMBER w_INVOICE_DATE w_CUSTOMER_REFERENCE w_VAT_NUMBER w_VAT_DATE w_VAT_PERIOD w_VAT_DETAILS w_IMPORT_TAX w_CONDITIONS h0 n0 Z0 W hr1) hZ (hw _ (List.mem_of_getElem? (i := 4) rfl)) (hw _ (List.mem_of_getElem? (i := 3) rfl)) (by decide) (by decide)) (g := (mkF m 9 #[.val (.int p1), .val (.int ((p1 &&& (2147483647 : Int32)) % (9 : Int32))), .unset, .unset] [(.int ((p1 &&& (2147483647 : Int32)) % (9 : Int32)))])) rfl (by rw [hml]; rfl) (argsL := [(.int ((p1 &&& (2147483647 : Int32)) % (9 : Int32)))]) (rest := []) (lenOf pd_0_0 rfl) rfl (by show 2 * 0 + _ ≤ _; exact Nat.le_of_eq rfl) (hb hby at_9) (fun _ _ => ⟨rfl, e0, (by decide : 0 + 0 ≤ _), (by decide : 0 + 0 ≤ _)⟩)
  dsimp only [Pt.U, Pt.locs, Pt.cells, Pt.slots] at X2 l2 y2 z2 st2 hQ2
  subst l2 y2 z2
  obtain ⟨rfl, N2q, e2⟩ := hQ2
  have N2 := Fr.app N0 N2q
  obtain ⟨cq3, kq3, q3a, q3b, q3c⟩ := isOf hZ e2 E_r
  obtain ⟨_, _, ⟨T3, L3, k3, n3⟩, -, X3, ⟨Lc3, hQ3, l3, y3, z3⟩, st3⟩ := X2.virtualBack hx (y := (⟨"com/example/rappen/rappen/bill/S1Key", "tag", "()I"⟩ : MethodName)) (z := (⟨"com/example/rappen/rappen/bill/S1Key", "tag", "()I"⟩ : MethodName)) hown (mvT hZ (hw _ (List.mem_of_getElem? (i := 8) rfl))) (mvT hZ (hw _ (List.mem_of_getElem? (i := 9) rfl))) (notFace_of_selects (args := #[]) (mvT hZ (hw _ (List.mem_of_getElem? (i := 11) rfl)))) (mvT hZ (hw _ (List.mem_of_getElem? (i := 11) rfl))) (mvT hZ (hw _ (List.mem_of_getElem? (i := 10) rfl))) (by decide) (backOf (W := 0) (rm2 l Z a0 hw [] r tg h0 n0 Z0 hF) hZ (hw _ (List.mem_of_getElem? (i := 12) rfl)) (hw _ (List.mem_of_getElem? (i := 6) rfl)) (by decide) (by decide)) q3a q3c (g := (mkF m 14 #[.val (.int p1), .val (.int ((p1 &&& (2147483647 : Int32)) % (9 : Int32))), .val (.ref r), .unset] [(.ref r)])) rfl (by rw [hml]; rfl) (Steps.refl _) (argsL := []) (rest := []) (lenOf pd_0_1 rfl) rfl (by show 2 * 0 + _ ≤ _; exact Nat.le_of_eq rfl) (hb hby at_14) (fun _ _ => ⟨rfl, e2, (by decide : 0 + 0 ≤ _), (by decide : 0 + 0 ≤ _)⟩)
  dsimp only [Pt.U, Pt.locs, Pt.cells, Pt.slots] at X3 l3 y3 z3 st3 hQ3
  subst l3 y3 z3
  obtain ⟨rfl, N3q, e3⟩ := hQ3
  have N3 := Fr.app N2 N3q
  obtain ⟨cq4, kq4, q4a, q4b, q4c⟩ := isOf hZ e3 E_r
  obtain ⟨_, _, ⟨T4, L4, k4, n4⟩, -, X4, ⟨Lc4, hQ4, l4, y4, z4⟩, st4⟩ := X3.virtualBack hx (y := (⟨"com/example/rappen/rappen/bill/S1Key", "lastPartOptionalAlone", "()Z"⟩ : MethodName)) (z := (⟨"com/example/rappen/rappen/bill/S1Key", "lastPartOptionalAlone", "()Z"⟩ : MethodName)) hown (mvT hZ (hw _ (List.mem_of_getElem? (i := 15) rfl))) (mvT hZ (hw _ (List.mem_of_getElem? (i := 16) rfl))) (notFace_of_selects (args := #[]) (mvT hZ (hw _ (List.mem_of_getElem? (i := 18) rfl)))) (mvT hZ (hw _ (List.mem_of_getElem? (i := 18) rfl))) (mvT hZ (hw _ (List.mem_of_getElem? (i := 17) rfl))) (by decide) (backOf (W := 0) (rm3_t l Z a0 hw [] r w_INVOICE_NUMBER w_INVOICE_DATE w_CUSTOMER_REFERENCE w_VAT_NUMBER w_VAT_DATE w_VAT_PERIOD w_VAT_DETAILS w_IMPORT_TAX w_CONDITIONS h0 n0 Z0 W hd) hZ (hw _ (List.mem_of_getElem? (i := 19) rfl)) (hw _ (List.mem_of_getElem? (i := 6) rfl)) (by decide) (by decide)) q4a q4c (g := (mkF m 29 #[.val (.int p1), .val (.int ((p1 &&& (2147483647 : Int32)) % (9 : Int32))), .val (.ref r), .val (.int (0 : Int32))] [(.ref r)])) rfl (by rw [hml]; rfl) (Steps.refl _) (argsL := []) (rest := []) (lenOf pd_0_2 rfl) rfl (by show 2 * 0 + _ ≤ _; exact Nat.le_of_eq rfl) (hb hby at_29) (fun _ _ => ⟨rfl, e3, (by decide : 0 + 0 ≤ _), (by decide : 0 + 0 ≤ _)⟩)
  dsimp only [Pt.U, Pt.locs, Pt.cells, Pt.slots] at X4 l4 y4 z4 st4 hQ4
  subst l4 y4 z4
  obtain ⟨rfl, N4q, e4⟩ := hQ4
  have N4 := Fr.app N3 N4q
  obtain ⟨fs, hr, hrun, hended, hW, hsame⟩ := X4.leave (v := some (.int (1 : Int32))) (fun h => by rw [Bd.returns] at h; cases h)
  refine ⟨_, _, pre0 _ ?_, hrun, hended, _, _, rfl, ?_, ⟨_, rfl⟩, hW, hsame.mono (by decide) (by decide)⟩
  · show Steps p.tables e below (s₁.setTop (mkF m 0 #[.val (.int p1), .unset, .unset, .unset] [])) _
    refine XS.iloadN X0.here hx rfl (hb hby at_0) rfl ?_
    show Steps p.tables e below (s₁.setTop (mkF m 1 #[.val (.int p1), .unset, .unset, .unset] [(.int p1)])) _
    refine X0.ldcInt hx hown (mvT hZ (hw _ (List.mem_of_getElem? (i := 0) rfl))) (g := (mkF m 1 #[.val (.int p1), .unset, .unset, .unset] [(.int p1)])) rfl (hb hby at_1) _ ?_
    show Steps p.tables e below (s₁.setTop (mkF m 3 #[.val (.int p1), .unset, .unset, .unset] [(.int (2147483647 : Int32)), (.int p1)])) _
    refine XS.iand X0.here hx rfl (hb hby at_3) rfl ?_
    show Steps p.tables e below (s₁.setTop (mkF m 4 #[.val (.int p1), .unset, .unset, .unset] [(.int (p1 &&& (2147483647 : Int32)))])) _
    refine XS.bipush X0.here hx rfl (hb hby at_4) ?_
    show Steps p.tables e below (s₁.setTop (mkF m 6 #[.val (.int p1), .unset, .unset, .unset] [(.int (9 : Int32)), (.int (p1 &&& (2147483647 : Int32)))])) _
    refine iremM X0 hx rfl (hb hby at_6) rfl (by decide) ?_
    show Steps p.tables e below (s₁.setTop (mkF m 7 #[.val (.int p1), .unset, .unset, .unset] [(.int ((p1 &&& (2147483647 : Int32)) % (9 : Int32)))])) _
    refine XS.istoreN X0.here hx rfl (hb hby at_7) rfl (l' := #[.val (.int p1), .val (.int ((p1 &&& (2147483647 : Int32)) % (9 : Int32))), .unset, .unset]) rfl ?_
    show Steps p.tables e below (s₁.setTop (mkF m 8 #[.val (.int p1), .val (.int ((p1 &&& (2147483647 : Int32)) % (9 : Int32))), .unset, .unset] [])) _
    refine XS.iloadN X0.here hx rfl (hb hby at_8) rfl ?_
    show Steps p.tables e below (s₁.setTop (mkF m 9 #[.val (.int p1), .val (.int ((p1 &&& (2147483647 : Int32)) % (9 : Int32))), .unset, .unset] [(.int ((p1 &&& (2147483647 : Int32)) % (9 : Int32)))])) _
    refine st2 _ ?_
    show Steps p.tables e below (T2.setTop (mkF m 12 #[.val (.int p1), .val (.int ((p1 &&& (2147483647 : Int32)) % (9 : Int32))), .unset, .unset] [(.ref r)])) _
    refine XS.astoreN X2.here hx rfl (hb hby at_12) rfl rfl (l' := #[.val (.int p1), .val (.int ((p1 &&& (2147483647 : Int32)) % (9 : Int32))), .val (.ref r), .unset]) rfl ?_
    show Steps p.tables e below (T2.setTop (mkF m 13 #[.val (.int p1), .val (.int ((p1 &&& (2147483647 : Int32)) % (9 : Int32))), .val (.ref r), .unset] [])) _
    refine XS.aloadN X2.here hx rfl (hb hby at_13) rfl rfl ?_
    show Steps p.tables e below (T2.setTop (mkF m 14 #[.val (.int p1), .val (.int ((p1 &&& (2147483647 : Int32)) % (9 : Int32))), .val (.ref r), .unset] [(.ref r)])) _
    refine st3.trans ?_
    show Steps p.tables e below (T3.setTop (mkF m 17 #[.val (.int p1), .val (.int ((p1 &&& (2147483647 : Int32)) % (9 : Int32))), .val (.ref r), .unset] [(.int tg)])) _
    refine XS.bipush X3.here hx rfl (hb hby at_17) ?_
    show Steps p.tables e below (T3.setTop (mkF m 19 #[.val (.int p1), .val (.int ((p1 &&& (2147483647 : Int32)) % (9 : Int32))), .val (.ref r), .unset] [(.int (32 : Int32)), (.int tg)])) _
    refine XS.icmpYes X3.here hx rfl (pc0 := 19) (pc' := 26) rfl (hb hby at_19) rfl (feq hc19).2 (by decide) (by decide) ?_
    show Steps p.tables e below (T3.setTop (mkF m 26 #[.val (.int p1), .val (.int ((p1 &&& (2147483647 : Int32)) % (9 : Int32))), .val (.ref r), .unset] [])) _
    refine XS.iconst X3.here hx rfl (hb hby at_26) ?_
    show Steps p.tables e below (T3.setTop (mkF m 27 #[.val (.int p1), .val (.int ((p1 &&& (2147483647 : Int32)) % (9 : Int32))), .val (.ref r), .unset] [(.int (0 : Int32))])) _
    refine XS.istoreN X3.here hx rfl (hb hby at_27) rfl (l' := #[.val (.int p1), .val (.int ((p1 &&& (2147483647 : Int32)) % (9 : Int32))), .val (.ref r), .val (.int (0 : Int32))]) rfl ?_
    show Steps p.tables e below (T3.setTop (mkF m 28 #[.val (.int p1), .val (.int ((p1 &&& (2147483647 : Int32)) % (9 : Int32))), .val (.ref r), .val (.int (0 : Int32))] [])) _
    refine XS.aloadN X3.here hx rfl (hb hby at_28) rfl rfl ?_
    show Steps p.tables e below (T3.setTop (mkF m 29 #[.val (.int p1), .val (.int ((p1 &&& (2147483647 : Int32)) % (9 : Int32))), .val (.ref r), .val (.int (0 : Int32))] [(.ref r)])) _
    refine st4.trans ?_
    show Steps p.tables e below (T4.setTop (mkF m 32 #[.val (.int p1), .val (.int ((p1 &&& (2147483647 : Int32)) % (9 : Int32))), .val (.ref r), .val (.int (0 : Int32))] [(.int (0 : Int32))])) _
    refine XS.iloadN X4.here hx rfl (hb hby at_32) rfl ?_
    show Steps p.tables e below (T4.setTop (mkF m 33 #[.val (.int p1), .val (.int ((p1 &&& (2147483647 : Int32)) % (9 : Int32))), .val (.ref r), .val (.int (0 : Int32))] [(.int (0 : Int32)), (.int (0 : Int32))])) _
    refine XS.icmpNo X4.here hx rfl (hb hby at_33) rfl (teq (rfl : (0 : Int32) = (0 : Int32))).2 ?_
    show Steps p.tables e below (T4.setTop (mkF m 36 #[.val (.int p1), .val (.int ((p1 &&& (2147483647 : Int32)) % (9 : Int32))), .val (.ref r), .val (.int (0 : Int32))] [])) _
    refine XS.iconst X4.here hx rfl (hb hby at_36) ?_
    show Steps p.tables e below (T4.setTop (mkF m 37 #[.val (.int p1), .val (.int ((p1 &&& (2147483647 : Int32)) % (9 : Int32))), .val (.ref r), .val (.int (0 : Int32))] [(.int (1 : Int32))])) _
    refine XS.goto X4.here hx rfl (pc0 := 37) (pc' := 41) rfl (hb hby at_37) (by decide) (by decide) ?_
    show Steps p.tables e below (T4.setTop (mkF m 41 #[.val (.int p1), .val (.int ((p1 &&& (2147483647 : Int32)) % (9 : Int32))), .val (.ref r), .val (.int (0 : Int32))] [(.int (1 : Int32))])) _
    exact retN X4 hx (t := .boolean) Bd.returns (by simp) (hb hby at_41) hr
  · show Q0 n0 _ _
    exact ⟨rfl, N4⟩
theorem own_mod (p : Int32) : ((p &&& (2147483647 : Int32)) % (9 : Int32)) = (0 : Int32) ∨ ((p &&& (2147483647 : Int32)) % (9 : Int32)) = (1 : Int32) ∨ ((p &&& (2147483647 : Int32)) % (9 : Int32)) = (2 : Int32) ∨ ((p &&& (2147483647 : Int32)) % (9 : Int32)) = (3 : Int32) ∨ ((p &&& (2147483647 : Int32)) % (9 : Int32)) = (4 : Int32) ∨ ((p &&& (2147483647 : Int32)) % (9 : Int32)) = (5 : Int32) ∨ ((p &&& (2147483647 : Int32)) % (9 : Int32)) = (6 : Int32) ∨ ((p &&& (2147483647 : Int32)) % (9 : Int32)) = (7 : Int32) ∨ ((p &&& (2147483647 : Int32)) % (9 : Int32)) = (8 : Int32) := by
  have e1 : (p &&& (2147483647 : Int32)).toInt = p.toInt % (2 ^ 31 : Nat) := c_mask p _ 31 (by decide) (by decide)
  have e2 := (c_irem (p &&& (2147483647 : Int32)) (9 : Int32) 9 (by decide)).1 (by omega)
  have h : ((p &&& (2147483647 : Int32)) % (9 : Int32)).toInt = 0 ∨ ((p &&& (2147483647 : Int32)) % (9 : Int32)).toInt = 1 ∨ ((p &&& (2147483647 : Int32)) % (9 : Int32)).toInt = 2 ∨ ((p &&& (2147483647 : Int32)) % (9 : Int32)).toInt = 3 ∨ ((p &&& (2147483647 : Int32)) % (9 : Int32)).toInt = 4 ∨ ((p &&& (2147483647 : Int32)) % (9 : Int32)).toInt = 5 ∨ ((p &&& (2147483647 : Int32)) % (9 : Int32)).toInt = 6 ∨ ((p &&& (2147483647 : Int32)) % (9 : Int32)).toInt = 7 ∨ ((p &&& (2147483647 : Int32)) % (9 : Int32)).toInt = 8 := by omega
  rcases h with h | h | h | h | h | h | h | h | h
  · exact Or.inl (Int32.toInt_inj.mp (h.trans (by decide)))
  · exact Or.inr (Or.inl (Int32.toInt_inj.mp (h.trans (by decide))))
  · exact Or.inr (Or.inr (Or.inl (Int32.toInt_inj.mp (h.trans (by decide)))))
  · exact Or.inr (Or.inr (Or.inr (Or.inl (Int32.toInt_inj.mp (h.trans (by decide))))))
  · exact Or.inr (Or.inr (Or.inr (Or.inr (Or.inl (Int32.toInt_inj.mp (h.trans (by decide)))))))
  · exact Or.inr (Or.inr (Or.inr (Or.inr (Or.inr (Or.inl (Int32.toInt_inj.mp (h.trans (by decide))))))))
  · exact Or.inr (Or.inr (Or.inr (Or.inr (Or.inr (Or.inr (Or.inl (Int32.toInt_inj.mp (h.trans (by decide)))))))))
  · exact Or.inr (Or.inr (Or.inr (Or.inr (Or.inr (Or.inr (Or.inr (Or.inl (Int32.toInt_inj.mp (h.trans (by decide))))))))))
  · exact Or.inr (Or.inr (Or.inr (Or.inr (Or.inr (Or.inr (Or.inr (Or.inr ((Int32.toInt_inj.mp (h.trans (by decide)))))))))))
theorem rm0 (l : Launch) (Z : State) (a0 : Array Value) (hw : ∀ d ∈ tables_1, d.before a0 Z = true) (ws : List Jvm.Cond) (p1 : Int32) (w_INVOICE_NUMBER w_INVOICE_DATE w_CUSTOMER_REFERENCE w_VAT_NUMBER w_VAT_DATE w_VAT_PERIOD w_VAT_DETAILS w_IMPORT_TAX w_CONDITIONS : Addr) (h0 : Heap) (n0 : Nat) (Z0 : n0 ≤ h0.size) (W : Ws Z h0 w_INVOICE_NUMBER w_INVOICE_DATE w_CUSTOMER_REFERENCE w_VAT_NUMBER w_VAT_DATE w_VAT_PERIOD w_VAT_DETAILS w_IMPORT_TAX w_CONDITIONS) (F_INVOICE_NUMBER : Fld Z h0 w_INVOICE_NUMBER "com/example/rappen/rappen/bill/S1Key" "tag" "I" (.int (10 : Int32))) (F_INVOICE_DATE : Fld Z h0 w_INVOICE_DATE "com/example/rappen/rappen/bill/S1Key" "tag" "I" (.int (11 : Int32))) (F_CUSTOMER_REFERENCE : Fld Z h0 w_CUSTOMER_REFERENCE "com/example/rappen/rappen/bill/S1Key" "tag" "I" (.int (20 : Int32))) (F_VAT_NUMBER : Fld Z h0 w_VAT_NUMBER "com/example/rappen/rappen/bill/S1Key" "tag" "I" (.int (30 : Int32))) (F_VAT_DATE : Fld Z h0 w_VAT_DATE "com/example/rappen/rappen/bill/S1Key" "tag" "I" (.int (31 : Int32))) (F_VAT_PERIOD : Fld Z h0 w_VAT_PERIOD "com/example/rappen/rappen/bill/S1Key" "tag" "I" (.int (31 : Int32))) (F_VAT_DETAILS : Fld Z h0 w_VAT_DETAILS "com/example/rappen/rappen/bill/S1Key" "tag" "I" (.int (32 : Int32))) (F_IMPORT_TAX : Fld Z h0 w_IMPORT_TAX "com/example/rappen/rappen/bill/S1Key" "tag" "I" (.int (33 : Int32))) (F_CONDITIONS : Fld Z h0 w_CONDITIONS "com/example/rappen/rappen/bill/S1Key" "tag" "I" (.int (40 : Int32))) :
    MetFree l x (head1 (Jvm.Cond.code x code maxLocals ret :: ws) room_1) (fun a U => a = #[(.int p1)] ∧ Z.Warmed39 U.vm ∧ U.heap = h0) (fun _ _ _ _ _ => True) (fun _ U o U' => ∃ v L, o = .returned v ∧ Q0 n0 v L ∧ FrameEnd U o U' L 0 0) := by
  obtain ⟨S_INVOICE_NUMBER, S_INVOICE_DATE, S_CUSTOMER_REFERENCE, S_VAT_NUMBER, S_VAT_DATE, S_VAT_PERIOD, S_VAT_DETAILS, S_IMPORT_TAX, S_CONDITIONS, E_w_INVOICE_NUMBER, E_w_INVOICE_DATE, E_w_CUSTOMER_REFERENCE, E_w_VAT_NUMBER, E_w_VAT_DATE, E_w_VAT_PERIOD, E_w_VAT_DETAILS, E_w_IMPORT_TAX, E_w_CONDITIONS, n_INVOICE_NUMBER_VAT_DETAILS, n_INVOICE_DATE_VAT_DETAILS, n_CUSTOMER_REFERENCE_VAT_DETAILS, n_VAT_NUMBER_VAT_DETAILS, n_VAT_DATE_VAT_DETAILS, n_VAT_PERIOD_VAT_DETAILS, n_VAT_DETAILS_IMPORT_TAX, n_VAT_DETAILS_CONDITIONS⟩ := id W
  rcases own_mod p1 with h | h | h | h | h | h | h | h | h
  · exact rm0_b l Z a0 hw ws p1 w_INVOICE_NUMBER 10 w_INVOICE_NUMBER w_INVOICE_DATE w_CUSTOMER_REFERENCE w_VAT_NUMBER w_VAT_DATE w_VAT_PERIOD w_VAT_DETAILS w_IMPORT_TAX w_CONDITIONS h0 n0 Z0 W (Or.inl ⟨h, rfl⟩) F_INVOICE_NUMBER n_INVOICE_NUMBER_VAT_DETAILS E_w_INVOICE_NUMBER (by decide)
  · exact rm0_b l Z a0 hw ws p1 w_INVOICE_DATE 11 w_INVOICE_NUMBER w_INVOICE_DATE w_CUSTOMER_REFERENCE w_VAT_NUMBER w_VAT_DATE w_VAT_PERIOD w_VAT_DETAILS w_IMPORT_TAX w_CONDITIONS h0 n0 Z0 W (Or.inr (Or.inl ⟨h, rfl⟩)) F_INVOICE_DATE n_INVOICE_DATE_VAT_DETAILS E_w_INVOICE_DATE (by decide)
  · exact rm0_b l Z a0 hw ws p1 w_CUSTOMER_REFERENCE 20 w_INVOICE_NUMBER w_INVOICE_DATE w_CUSTOMER_REFERENCE w_VAT_NUMBER w_VAT_DATE w_VAT_PERIOD w_VAT_DETAILS w_IMPORT_TAX w_CONDITIONS h0 n0 Z0 W (Or.inr (Or.inr (Or.inl ⟨h, rfl⟩))) F_CUSTOMER_REFERENCE n_CUSTOMER_REFERENCE_VAT_DETAILS E_w_CUSTOMER_REFERENCE (by decide)
  · exact rm0_b l Z a0 hw ws p1 w_VAT_NUMBER 30 w_INVOICE_NUMBER w_INVOICE_DATE w_CUSTOMER_REFERENCE w_VAT_NUMBER w_VAT_DATE w_VAT_PERIOD w_VAT_DETAILS w_IMPORT_TAX w_CONDITIONS h0 n0 Z0 W (Or.inr (Or.inr (Or.inr (Or.inl ⟨h, rfl⟩)))) F_VAT_NUMBER n_VAT_NUMBER_VAT_DETAILS E_w_VAT_NUMBER (by decide)
  · exact rm0_b l Z a0 hw ws p1 w_VAT_DATE 31 w_INVOICE_NUMBER w_INVOICE_DATE w_CUSTOMER_REFERENCE w_VAT_NUMBER w_VAT_DATE w_VAT_PERIOD w_VAT_DETAILS w_IMPORT_TAX w_CONDITIONS h0 n0 Z0 W (Or.inr (Or.inr (Or.inr (Or.inr (Or.inl ⟨h, rfl⟩))))) F_VAT_DATE n_VAT_DATE_VAT_DETAILS E_w_VAT_DATE (by decide)
  · exact rm0_b l Z a0 hw ws p1 w_VAT_PERIOD 31 w_INVOICE_NUMBER w_INVOICE_DATE w_CUSTOMER_REFERENCE w_VAT_NUMBER w_VAT_DATE w_VAT_PERIOD w_VAT_DETAILS w_IMPORT_TAX w_CONDITIONS h0 n0 Z0 W (Or.inr (Or.inr (Or.inr (Or.inr (Or.inr (Or.inl ⟨h, rfl⟩)))))) F_VAT_PERIOD n_VAT_PERIOD_VAT_DETAILS E_w_VAT_PERIOD (by decide)
  · exact rm0_a l Z a0 hw ws p1 w_VAT_DETAILS 32 w_INVOICE_NUMBER w_INVOICE_DATE w_CUSTOMER_REFERENCE w_VAT_NUMBER w_VAT_DATE w_VAT_PERIOD w_VAT_DETAILS w_IMPORT_TAX w_CONDITIONS h0 n0 Z0 W (Or.inr (Or.inr (Or.inr (Or.inr (Or.inr (Or.inr (Or.inl ⟨h, rfl⟩))))))) F_VAT_DETAILS rfl E_w_VAT_DETAILS (by decide)
  · exact rm0_b l Z a0 hw ws p1 w_IMPORT_TAX 33 w_INVOICE_NUMBER w_INVOICE_DATE w_CUSTOMER_REFERENCE w_VAT_NUMBER w_VAT_DATE w_VAT_PERIOD w_VAT_DETAILS w_IMPORT_TAX w_CONDITIONS h0 n0 Z0 W (Or.inr (Or.inr (Or.inr (Or.inr (Or.inr (Or.inr (Or.inr (Or.inl ⟨h, rfl⟩)))))))) F_IMPORT_TAX (Ne.symm n_VAT_DETAILS_IMPORT_TAX) E_w_IMPORT_TAX (by decide)
  · exact rm0_b l Z a0 hw ws p1 w_CONDITIONS 40 w_INVOICE_NUMBER w_INVOICE_DATE w_CUSTOMER_REFERENCE w_VAT_NUMBER w_VAT_DATE w_VAT_PERIOD w_VAT_DETAILS w_IMPORT_TAX w_CONDITIONS h0 n0 Z0 W (Or.inr (Or.inr (Or.inr (Or.inr (Or.inr (Or.inr (Or.inr (Or.inr (⟨h, rfl⟩))))))))) F_CONDITIONS (Ne.symm n_VAT_DETAILS_CONDITIONS) E_w_CONDITIONS (by decide)
set_option maxRecDepth 65536 in
set_option maxHeartbeats 40000000 in
theorem comes_1 {Post : Tables → Env → Array Value → State → Outcome → State → Prop} (hpost : ∀ tb e args s v u, (limb_1_1.after args s (.returned v) u = true ∧ limb_1_2.after args s (.returned v) u = true ∧ True) → FrameEnd s (.returned v) u (Jvm.fieldLocs frame_1_writes args s ++ Jvm.arrayLocs frame_1_arrays args s ++ Jvm.staticLocs frame_1_statics s) 0 0 → Post tb e args s (.returned v) u) :
    ArmFor flags0 classFile x code maxLocals ret World_1 tables_1 room_1 Calls_1 rest_1 Pre_1 Post := by
  intro l hfl _ _ p e ha hc hk s m args below hf hA hF happ hP
  obtain ⟨hcalls, hrest, hpre⟩ := hP
  obtain ⟨-, -, -, hnamed, -, -, -, hat⟩ := (Spec.applies_iff hf).mp happ
  obtain ⟨hg, hn⟩ := and_e (Cond.before_iff.mp (show (Jvm.Cond.and given_1 narrow_1).before args s = true from hpre))
  obtain ⟨g1, g2⟩ := and_e hg
  obtain ⟨w0, rfl⟩ : ∃ w0 : Value, args = #[w0] := by
    have hs : args.size = 1 := by simpa [Cond.value, given_1] using g1
    obtain ⟨L⟩ := args
    match L, hs with
    | [w0], _ => exact ⟨w0, rfl⟩
  have hw := fun d (hd : d ∈ tables_1) => atoms_spec (ws := Jvm.Cond.code x code maxLocals ret :: tables_1) hat d (List.mem_cons_of_mem _ hd)
  have hfit : Fit s := fun {y c} hc i hi => by
    obtain ⟨ha, rfl⟩ := Array.getElem?_eq_some_iff.mp hc
    have q := List.all_eq_true.mp ((Array.all_eq_true_iff_forall_mem.mp hF) _ (Array.getElem_mem ha)) i (List.mem_range.mpr hi)
    simpa [Array.getElem?_eq_getElem hi] using q
  obtain ⟨i0, ei0⟩ := is_v g2
  obtain rfl : w0 = (.int i0) := Option.some.inj ei0
  obtain ⟨k1a, k1b⟩ := and_e hn
  obtain ⟨k2a, k2b⟩ := and_e k1b
  obtain ⟨k3a, k3b⟩ := and_e k2b
  obtain ⟨k4a, k4b⟩ := and_e k3b
  obtain ⟨k5a, k5b⟩ := and_e k4b
  obtain ⟨k6a, k6b⟩ := and_e k5b
  obtain ⟨k7a, k7b⟩ := and_e k6b
  obtain ⟨k8a, k8b⟩ := and_e k7b
  obtain ⟨k9a, k9b⟩ := and_e k8b
  obtain ⟨k10a, k10b⟩ := and_e k9b
  obtain ⟨k11a, k11b⟩ := and_e k10b
  obtain ⟨k12a, k12b⟩ := and_e k11b
  obtain ⟨k13a, k13b⟩ := and_e k12b
  obtain ⟨k14a, k14b⟩ := and_e k13b
  obtain ⟨k15a, k15b⟩ := and_e k14b
  obtain ⟨k16a, k16b⟩ := and_e k15b
  obtain ⟨k17a, k17b⟩ := and_e k16b
  obtain ⟨k18a, k18b⟩ := and_e k17b
  obtain ⟨k19a, k19b⟩ := and_e k18b
  obtain ⟨k20a, k20b⟩ := and_e k19b
  obtain ⟨k21a, k21b⟩ := and_e k20b
  obtain ⟨k22a, k22b⟩ := and_e k21b
  obtain ⟨k23a, k23b⟩ := and_e k22b
  obtain ⟨k24a, k24b⟩ := and_e k23b
  obtain ⟨k25a, k25b⟩ := and_e k24b
  obtain ⟨k26a, k26b⟩ := and_e k25b
  obtain ⟨w_INVOICE_NUMBER, ev_INVOICE_NUMBER, S_INVOICE_NUMBER, E_INVOICE_NUMBER⟩ := own_static k1a (hw _ (List.mem_of_getElem? (i := 6) rfl)) (hw _ (List.mem_of_getElem? (i := 7) rfl))
  obtain ⟨w_VAT_DETAILS, ev_VAT_DETAILS, S_VAT_DETAILS, E_VAT_DETAILS⟩ := own_static k3a (hw _ (List.mem_of_getElem? (i := 6) rfl)) (hw _ (List.mem_of_getElem? (i := 21) rfl))
  obtain ⟨w_VAT_NUMBER, ev_VAT_NUMBER, S_VAT_NUMBER, E_VAT_NUMBER⟩ := own_static k6a (hw _ (List.mem_of_getElem? (i := 6) rfl)) (hw _ (List.mem_of_getElem? (i := 23) rfl))
  obtain ⟨w_CUSTOMER_REFERENCE, ev_CUSTOMER_REFERENCE, S_CUSTOMER_REFERENCE, E_CUSTOMER_REFERENCE⟩ := own_static k9a (hw _ (List.mem_of_getElem? (i := 6) rfl)) (hw _ (List.mem_of_getElem? (i := 25) rfl))
  obtain ⟨w_INVOICE_DATE, ev_INVOICE_DATE, S_INVOICE_DATE, E_INVOICE_DATE⟩ := own_static k12a (hw _ (List.mem_of_getElem? (i := 6) rfl)) (hw _ (List.mem_of_getElem? (i := 27) rfl))
  obtain ⟨w_IMPORT_TAX, ev_IMPORT_TAX, S_IMPORT_TAX, E_IMPORT_TAX⟩ := own_static k15a (hw _ (List.mem_of_getElem? (i := 6) rfl)) (hw _ (List.mem_of_getElem? (i := 29) rfl))
  obtain ⟨w_VAT_DATE, ev_VAT_DATE, S_VAT_DATE, E_VAT_DATE⟩ := own_static k18a (hw _ (List.mem_of_getElem? (i := 6) rfl)) (hw _ (List.mem_of_getElem? (i := 31) rfl))
  obtain ⟨w_CONDITIONS, ev_CONDITIONS, S_CONDITIONS, E_CONDITIONS⟩ := own_static k21a (hw _ (List.mem_of_getElem? (i := 6) rfl)) (hw _ (List.mem_of_getElem? (i := 33) rfl))
  obtain ⟨w_VAT_PERIOD, ev_VAT_PERIOD, S_VAT_PERIOD, E_VAT_PERIOD⟩ := own_static k25a (hw _ (List.mem_of_getElem? (i := 6) rfl)) (hw _ (List.mem_of_getElem? (i := 36) rfl))
  have o_INVOICE_NUMBER := own_fld ev_INVOICE_NUMBER k4a
  have o_VAT_DETAILS := own_fld ev_VAT_DETAILS k5a
  have o_VAT_NUMBER := own_fld ev_VAT_NUMBER k8a
  have o_CUSTOMER_REFERENCE := own_fld ev_CUSTOMER_REFERENCE k11a
  have o_INVOICE_DATE := own_fld ev_INVOICE_DATE k14a
  have o_IMPORT_TAX := own_fld ev_IMPORT_TAX k17a
  have o_VAT_DATE := own_fld ev_VAT_DATE k20a
  have o_CONDITIONS := own_fld ev_CONDITIONS k23a
  have o_VAT_PERIOD := own_fld ev_VAT_PERIOD k26b
  have W : Ws s s.heap w_INVOICE_NUMBER w_INVOICE_DATE w_CUSTOMER_REFERENCE w_VAT_NUMBER w_VAT_DATE w_VAT_PERIOD w_VAT_DETAILS w_IMPORT_TAX w_CONDITIONS := ⟨S_INVOICE_NUMBER, S_INVOICE_DATE, S_CUSTOMER_REFERENCE, S_VAT_NUMBER, S_VAT_DATE, S_VAT_PERIOD, S_VAT_DETAILS, S_IMPORT_TAX, S_CONDITIONS, E_INVOICE_NUMBER, E_INVOICE_DATE, E_CUSTOMER_REFERENCE, E_VAT_NUMBER, E_VAT_DATE, E_VAT_PERIOD, E_VAT_DETAILS, E_IMPORT_TAX, E_CONDITIONS, own_ne o_INVOICE_NUMBER o_VAT_DETAILS (by decide), own_ne o_INVOICE_DATE o_VAT_DETAILS (by decide), own_ne o_CUSTOMER_REFERENCE o_VAT_DETAILS (by decide), own_ne o_VAT_NUMBER o_VAT_DETAILS (by decide), own_ne o_VAT_DATE o_VAT_DETAILS (by decide), own_ne o_VAT_PERIOD o_VAT_DETAILS (by decide), own_ne o_VAT_DETAILS o_IMPORT_TAX (by decide), own_ne o_VAT_DETAILS o_CONDITIONS (by decide)⟩
  have F_INVOICE_NUMBER := Fld.start (own_fld ev_INVOICE_NUMBER k2a)
  have F_VAT_NUMBER := Fld.start (own_fld ev_VAT_NUMBER k7a)
  have F_CUSTOMER_REFERENCE := Fld.start (own_fld ev_CUSTOMER_REFERENCE k10a)
  have F_INVOICE_DATE := Fld.start (own_fld ev_INVOICE_DATE k13a)
  have F_IMPORT_TAX := Fld.start (own_fld ev_IMPORT_TAX k16a)
  have F_VAT_DATE := Fld.start (own_fld ev_VAT_DATE k19a)
  have F_CONDITIONS := Fld.start (own_fld ev_CONDITIONS k22a)
  have F_VAT_DETAILS := Fld.start (own_fld ev_VAT_DETAILS k24a)
  have F_VAT_PERIOD := Fld.start (own_fld ev_VAT_PERIOD k26a)
  obtain ⟨n, o, h1, h2, h3, _, L, rfl, ⟨rfl, N⟩, hq⟩ := rm0 l s _ hw tables_1 i0 w_INVOICE_NUMBER w_INVOICE_DATE w_CUSTOMER_REFERENCE w_VAT_NUMBER w_VAT_DATE w_VAT_PERIOD w_VAT_DETAILS w_IMPORT_TAX w_CONDITIONS s.heap s.heap.size (Nat.le_refl _) W F_INVOICE_NUMBER F_INVOICE_DATE F_CUSTOMER_REFERENCE F_VAT_NUMBER F_VAT_DATE F_VAT_PERIOD F_VAT_DETAILS F_IMPORT_TAX F_CONDITIONS p e ha hc hk s m _ below hf ((Spec.applies_iff_loose hf).mp happ).1 ⟨rfl, State.Warmed39.refl s, rfl⟩ trivial
  refine ⟨n, _, h1, h2, h3, hpost _ _ _ _ _ _ ⟨Cond.after_iff.mpr rfl, Cond.after_iff.mpr (eq_i res_at (Term.int_eval (1)) rfl), trivial⟩ ⟨hq.1, hq.2.1, (hq.2.2.sift fun y hy => Or.inr (N y hy)).mono (by decide) (by decide)⟩⟩
theorem main_1_1 : Claimed_1_1 := comes_1 fun _ _ _ _ _ _ h hF => ⟨h.1, hF⟩
theorem main_1_2 : Claimed_1_2 := comes_1 fun _ _ _ _ _ _ h hF => ⟨h.2.1, hF⟩
end Jvm.Pilot.@@N@@
namespace Jvm.Pilot.@@N@@
open Jvm Jvm.ClassFile Sem Op Lib Jvm.Free Jvm.Stand Jvm.Pilot.@@N@@.Jvm.D
/-! MADE BY PROGRAM (witnessworld.py) out of the Statement's table words and the real class files: 10 classes; the members and pool entries that the words name. The judged class is class 1, her method 2. -/
namespace start1
open Jvm.ClassFile
def u (s : String) : CpInfo := .utf8 (stringToUtf16 s)
/-- a pool by its gaps: so many unusable entries, then the entry; so many at the end -/
def gap : Nat → List CpInfo → List CpInfo
  | 0, r => r
  | n + 1, r => .unusable :: gap n r
def poolList (es : List (Nat × CpInfo)) (last : Nat) : List CpInfo := es.foldr (fun e r => gap e.1 (e.2 :: r)) (gap last [])
def pool (es : List (Nat × CpInfo)) (last : Nat) : Array CpInfo := ⟨poolList es last⟩
def fileOf (pool : Array CpInfo) (this : Nat) (attrs : Array Attribute := #[]) (ms : Array MethodInfo := #[]) (fl : Nat := 33) (sup : Nat := 0) (ifs : Array Nat := #[]) (fds : Array FieldInfo := #[]) : ClassFile where
  minorVersion := 0
  majorVersion := 65
  constantPool := pool
  accessFlags := fl
  thisClass := this
  superClass := sup
  interfaces := ifs
  fields := fds
  methods := ms
  attributes := attrs
def plain (name : String) (sup : Option ClassId) : Class where
  name := name
  kind := .ordinary
  loader := none
  accessFlags := 33
  super := sup
  interfaces := #[]
  cf := none
  fields := #[]
  methods := #[]
  instanceTypes := #[]
  staticTypes := #[]
  resolved := #[]
  callSites := []
  init := .initialized
  statics := none
  mirror := none

def pool0 : Array CpInfo := pool [(5, u "<init>"), (0, u "()V"), (1, .class_ 10), (1, u "java/lang/Object")] 113

def k0m0 : Method := { name := "<init>", desc := "()V", sig := { parameters := [], returnType := none }, accessFlags := 1, code := none }
/-- java/lang/Object -/
def k0 : Class := { plain "java/lang/Object" none with
  accessFlags := 33
  interfaces := #[]
  cf := some (fileOf pool0 8 #[] #[{ accessFlags := 1, nameIndex := 5, descriptorIndex := 6, attributes := #[] }] 33 0 #[] #[])
  fields := #[]
  methods := #[k0m0]
  instanceTypes := #[]
  staticTypes := #[]
  resolved := Array.replicate 124 none
  statics := none }

def pool1 : Array CpInfo := pool [(2, .class_ 4), (1, u "java/lang/Object"), (0, u "<init>"), (0, u "()V"), (0, .fieldref 8 9), (0, .class_ 10), (0, .nameAndType 11 12), (0, u "com/example/rappen/rappen/bill/S1Key"), (0, u "INVOICE_NUMBER"), (0, u "Lcom/example/rappen/rappen/bill/S1Key;"), (0, .fieldref 8 14), (0, .nameAndType 15 12), (0, u "INVOICE_DATE"), (0, .fieldref 8 17), (0, .nameAndType 18 12), (0, u "CUSTOMER_REFERENCE"), (0, .fieldref 8 20), (0, .nameAndType 21 12), (0, u "VAT_NUMBER"), (0, .fieldref 8 23), (0, .nameAndType 24 12), (0, u "VAT_DATE"), (0, .fieldref 8 26), (0, .nameAndType 27 12), (0, u "VAT_PERIOD"), (0, .fieldref 8 29), (0, .nameAndType 30 12), (0, u "VAT_DETAILS"), (0, .fieldref 8 32), (0, .nameAndType 33 12), (0, u "IMPORT_TAX"), (0, .fieldref 8 35), (0, .nameAndType 36 12), (0, u "CONDITIONS"), (0, .integer 2147483647), (0, .methodref 39 40), (0, .class_ 41), (0, .nameAndType 42 43), (0, u "com/example/rappen/rappen/bill/S1KeyLastPartOptionalAlonePinLaw"), (0, u "pick"), (0, u "(I)Lcom/example/rappen/rappen/bill/S1Key;"), (0, .methodref 8 45), (0, .nameAndType 46 47), (0, u "tag"), (0, u "()I"), (0, .methodref 8 49), (0, .nameAndType 50 51), (0, u "lastPartOptionalAlone"), (0, u "()Z"), (3, u "law"), (0, u "(I)Z")] 2

def k1m0 : Method := { name := "<init>", desc := "()V", sig := { parameters := [], returnType := none }, accessFlags := 1, code := none }
def k1c1 : Code := { maxStack := 2, maxLocals := 1, code := method_2_code, exceptionTable := #[], attributes := #[] }
def k1m1 : Method := { name := "pick", desc := "(I)Lcom/example/rappen/rappen/bill/S1Key;", sig := { parameters := [.int], returnType := some (.object "com/example/rappen/rappen/bill/S1Key") }, accessFlags := 10, code := some k1c1 }
def k1c2 : Code := { maxStack := 2, maxLocals := 4, code := code, exceptionTable := #[], attributes := #[] }
def k1m2 : Method := { name := "law", desc := "(I)Z", sig := { parameters := [.int], returnType := some .boolean }, accessFlags := 9, code := some k1c2 }
/-- com/example/rappen/rappen/bill/S1KeyLastPartOptionalAlonePinLaw -/
def k1 : Class := { plain "com/example/rappen/rappen/bill/S1KeyLastPartOptionalAlonePinLaw" (some 0) with
  accessFlags := 49
  interfaces := #[]
  cf := some (fileOf pool1 39 #[] #[{ accessFlags := 1, nameIndex := 5, descriptorIndex := 6, attributes := #[] }, { accessFlags := 10, nameIndex := 42, descriptorIndex := 43, attributes := #[] }, { accessFlags := 9, nameIndex := 55, descriptorIndex := 56, attributes := #[] }] 49 2 #[] #[])
  fields := #[]
  methods := #[k1m0, k1m1, k1m2]
  instanceTypes := #[]
  staticTypes := #[]
  resolved := Array.replicate 59 none
  statics := none }

def pool2 : Array CpInfo := pool [(1, .class_ 2), (0, u "java/lang/constant/Constable"), (0, .class_ 4), (0, u "java/lang/Object")] 6

/-- java/lang/constant/Constable -/
def k2 : Class := { plain "java/lang/constant/Constable" (some 0) with
  accessFlags := 1537
  interfaces := #[]
  cf := some (fileOf pool2 1 #[] #[] 1537 3 #[] #[])
  fields := #[]
  methods := #[]
  instanceTypes := #[]
  staticTypes := #[]
  resolved := Array.replicate 11 none
  statics := none }

def pool3 : Array CpInfo := pool [(1, .class_ 2), (0, u "java/lang/Comparable"), (0, .class_ 4), (0, u "java/lang/Object")] 7

/-- java/lang/Comparable -/
def k3 : Class := { plain "java/lang/Comparable" (some 0) with
  accessFlags := 1537
  interfaces := #[]
  cf := some (fileOf pool3 1 #[] #[] 1537 3 #[] #[])
  fields := #[]
  methods := #[]
  instanceTypes := #[]
  staticTypes := #[]
  resolved := Array.replicate 12 none
  statics := none }

def pool4 : Array CpInfo := pool [(1, .class_ 2), (0, u "java/io/Serializable"), (0, .class_ 4), (0, u "java/lang/Object")] 2

/-- java/io/Serializable -/
def k4 : Class := { plain "java/io/Serializable" (some 0) with
  accessFlags := 1537
  interfaces := #[]
  cf := some (fileOf pool4 1 #[] #[] 1537 3 #[] #[])
  fields := #[]
  methods := #[]
  instanceTypes := #[]
  staticTypes := #[]
  resolved := Array.replicate 7 none
  statics := none }

def pool5 : Array CpInfo := pool [(2, .class_ 4), (1, u "java/lang/Enum"), (0, u "name"), (0, u "Ljava/lang/String;"), (2, u "ordinal"), (0, u "I"), (1, .class_ 14), (1, u "java/lang/Object"), (4, u "hash"), (86, .class_ 108), (1, u "java/lang/Enum$EnumDesc"), (2, .class_ 112), (0, u "java/lang/constant/Constable"), (0, .class_ 114), (0, u "java/lang/Comparable"), (0, .class_ 116), (0, u "java/io/Serializable")] 87

/-- java/lang/Enum -/
def k5 : Class := { plain "java/lang/Enum" (some 0) with
  accessFlags := 1057
  interfaces := #[2, 3, 4]
  cf := some (fileOf pool5 2 #[.nestMembers #[106]] #[] 1057 12 #[111, 113, 115] #[{ accessFlags := 18, nameIndex := 5, descriptorIndex := 6, attributes := #[] }, { accessFlags := 18, nameIndex := 9, descriptorIndex := 10, attributes := #[] }, { accessFlags := 2, nameIndex := 19, descriptorIndex := 10, attributes := #[] }])
  fields := #[{ name := "name", type := (.object "java/lang/String"), accessFlags := 18, slot := 0, constantValue := 0 }, { name := "ordinal", type := .int, accessFlags := 18, slot := 1, constantValue := 0 }, { name := "hash", type := .int, accessFlags := 2, slot := 2, constantValue := 0 }]
  methods := #[]
  instanceTypes := #[(.object "java/lang/String"), .int, .int]
  staticTypes := #[]
  resolved := Array.replicate 204 none
  statics := none }

def pool6 : Array CpInfo := pool [(1, .class_ 2), (0, u "com/example/rappen/rappen/bill/S1Key"), (2, u "INVOICE_NUMBER"), (0, u "Lcom/example/rappen/rappen/bill/S1Key;"), (2, u "INVOICE_DATE"), (2, u "CUSTOMER_REFERENCE"), (2, u "VAT_NUMBER"), (2, u "VAT_DATE"), (2, u "VAT_PERIOD"), (0, .fieldref 1 23), (0, .nameAndType 24 6), (0, u "VAT_DETAILS"), (2, u "IMPORT_TAX"), (2, u "CONDITIONS"), (2, u "$VALUES"), (0, u "[Lcom/example/rappen/rappen/bill/S1Key;"), (6, .class_ 43), (1, u "java/lang/Enum"), (6, .fieldref 1 51), (0, .nameAndType 52 53), (0, u "tag"), (0, u "I"), (2, u "key"), (0, u "Ljava/lang/String;"), (2, u "list"), (0, u "Z"), (2, u "separator"), (8, u "parts"), (0, u "Ljava/util/List;"), (5, .class_ 81), (0, u "com/example/rappen/rappen/bill/S1Key$Part"), (1, .class_ 85), (1, u "com/example/rappen/rappen/bill/S1Key$Kind"), (66, u "()I"), (1, u "()Z"), (2, u "lastPartOptionalAlone")] 10

def k6c0 : Code := { maxStack := 1, maxLocals := 1, code := prog_14_method_4_code, exceptionTable := #[], attributes := #[] }
def k6m0 : Method := { name := "tag", desc := "()I", sig := { parameters := [], returnType := some .int }, accessFlags := 1, code := some k6c0 }
def k6c1 : Code := { maxStack := 2, maxLocals := 1, code := prog_14_method_9_code, exceptionTable := #[], attributes := #[] }
def k6m1 : Method := { name := "lastPartOptionalAlone", desc := "()Z", sig := { parameters := [], returnType := some .boolean }, accessFlags := 1, code := some k6c1 }
/-- com/example/rappen/rappen/bill/S1Key -/
def k6 : Class := { plain "com/example/rappen/rappen/bill/S1Key" (some 5) with
  accessFlags := 16433
  interfaces := #[]
  cf := some (fileOf pool6 1 #[.nestMembers #[80, 83]] #[{ accessFlags := 1, nameIndex := 52, descriptorIndex := 152, attributes := #[] }, { accessFlags := 1, nameIndex := 157, descriptorIndex := 154, attributes := #[] }] 16433 41 #[] #[{ accessFlags := 16409, nameIndex := 5, descriptorIndex := 6, attributes := #[] }, { accessFlags := 16409, nameIndex := 9, descriptorIndex := 6, attributes := #[] }, { accessFlags := 16409, nameIndex := 12, descriptorIndex := 6, attributes := #[] }, { accessFlags := 16409, nameIndex := 15, descriptorIndex := 6, attributes := #[] }, { accessFlags := 16409, nameIndex := 18, descriptorIndex := 6, attributes := #[] }, { accessFlags := 16409, nameIndex := 21, descriptorIndex := 6, attributes := #[] }, { accessFlags := 16409, nameIndex := 24, descriptorIndex := 6, attributes := #[] }, { accessFlags := 16409, nameIndex := 27, descriptorIndex := 6, attributes := #[] }, { accessFlags := 16409, nameIndex := 30, descriptorIndex := 6, attributes := #[] }, { accessFlags := 18, nameIndex := 52, descriptorIndex := 53, attributes := #[] }, { accessFlags := 18, nameIndex := 56, descriptorIndex := 57, attributes := #[] }, { accessFlags := 18, nameIndex := 60, descriptorIndex := 61, attributes := #[] }, { accessFlags := 18, nameIndex := 64, descriptorIndex := 57, attributes := #[] }, { accessFlags := 18, nameIndex := 73, descriptorIndex := 74, attributes := #[] }, { accessFlags := 4122, nameIndex := 33, descriptorIndex := 34, attributes := #[] }])
  fields := #[{ name := "INVOICE_NUMBER", type := (.object "com/example/rappen/rappen/bill/S1Key"), accessFlags := 16409, slot := 0, constantValue := 0 }, { name := "INVOICE_DATE", type := (.object "com/example/rappen/rappen/bill/S1Key"), accessFlags := 16409, slot := 1, constantValue := 0 }, { name := "CUSTOMER_REFERENCE", type := (.object "com/example/rappen/rappen/bill/S1Key"), accessFlags := 16409, slot := 2, constantValue := 0 }, { name := "VAT_NUMBER", type := (.object "com/example/rappen/rappen/bill/S1Key"), accessFlags := 16409, slot := 3, constantValue := 0 }, { name := "VAT_DATE", type := (.object "com/example/rappen/rappen/bill/S1Key"), accessFlags := 16409, slot := 4, constantValue := 0 }, { name := "VAT_PERIOD", type := (.object "com/example/rappen/rappen/bill/S1Key"), accessFlags := 16409, slot := 5, constantValue := 0 }, { name := "VAT_DETAILS", type := (.object "com/example/rappen/rappen/bill/S1Key"), accessFlags := 16409, slot := 6, constantValue := 0 }, { name := "IMPORT_TAX", type := (.object "com/example/rappen/rappen/bill/S1Key"), accessFlags := 16409, slot := 7, constantValue := 0 }, { name := "CONDITIONS", type := (.object "com/example/rappen/rappen/bill/S1Key"), accessFlags := 16409, slot := 8, constantValue := 0 }, { name := "tag", type := .int, accessFlags := 18, slot := 3, constantValue := 0 }, { name := "key", type := (.object "java/lang/String"), accessFlags := 18, slot := 4, constantValue := 0 }, { name := "list", type := .boolean, accessFlags := 18, slot := 5, constantValue := 0 }, { name := "separator", type := (.object "java/lang/String"), accessFlags := 18, slot := 6, constantValue := 0 }, { name := "parts", type := (.object "java/util/List"), accessFlags := 18, slot := 7, constantValue := 0 }, { name := "$VALUES", type := (.array (.object "com/example/rappen/rappen/bill/S1Key")), accessFlags := 4122, slot := 9, constantValue := 0 }]
  methods := #[k6m0, k6m1]
  instanceTypes := #[(.object "java/lang/String"), .int, .int, .int, (.object "java/lang/String"), .boolean, (.object "java/lang/String"), (.object "java/util/List")]
  staticTypes := #[(.object "com/example/rappen/rappen/bill/S1Key"), (.object "com/example/rappen/rappen/bill/S1Key"), (.object "com/example/rappen/rappen/bill/S1Key"), (.object "com/example/rappen/rappen/bill/S1Key"), (.object "com/example/rappen/rappen/bill/S1Key"), (.object "com/example/rappen/rappen/bill/S1Key"), (.object "com/example/rappen/rappen/bill/S1Key"), (.object "com/example/rappen/rappen/bill/S1Key"), (.object "com/example/rappen/rappen/bill/S1Key"), (.array (.object "com/example/rappen/rappen/bill/S1Key"))]
  resolved := Array.replicate 168 none
  statics := some 0 }

def pool7 : Array CpInfo := pool [(1, u "java/lang/Cloneable"), (0, .class_ 1), (0, u "java/lang/Object"), (0, .class_ 3)] 3

/-- java/lang/Cloneable -/
def k7 : Class := { plain "java/lang/Cloneable" (some 0) with
  accessFlags := 1537
  interfaces := #[]
  cf := some (fileOf pool7 2 #[] #[] 1537 4 #[] #[])
  fields := #[]
  methods := #[]
  instanceTypes := #[]
  staticTypes := #[]
  resolved := Array.replicate 8 none
  statics := none }

/-- the primitive byte -/
def k8 : Class := { plain "byte" none with kind := .primitive 'B', accessFlags := 0x411 }
/-- [B -/
def k9 : Class := { plain "[B" (some 0) with kind := .array 8 .byte, interfaces := #[7, 4], accessFlags := 1041 }

def heap : Heap := #[{ cls := 6, slots := #[.ref 1, .ref 2, .ref 3, .ref 4, .ref 5, .ref 6, .ref 7, .ref 8, .ref 9, .null], vm := .statics 6 },
  { cls := 6, slots := #[.null, .int 0, .int 0, .int 10, .null, .int 0, .null, .null], vm := .none },
  { cls := 6, slots := #[.null, .int 1, .int 0, .int 11, .null, .int 0, .null, .null], vm := .none },
  { cls := 6, slots := #[.null, .int 2, .int 0, .int 20, .null, .int 0, .null, .null], vm := .none },
  { cls := 6, slots := #[.null, .int 3, .int 0, .int 30, .null, .int 0, .null, .null], vm := .none },
  { cls := 6, slots := #[.null, .int 4, .int 0, .int 31, .null, .int 0, .null, .null], vm := .none },
  { cls := 6, slots := #[.null, .int 5, .int 0, .int 31, .null, .int 0, .null, .null], vm := .none },
  { cls := 6, slots := #[.null, .int 6, .int 0, .int 32, .null, .int 0, .null, .null], vm := .none },
  { cls := 6, slots := #[.null, .int 7, .int 0, .int 33, .null, .int 0, .null, .null], vm := .none },
  { cls := 6, slots := #[.null, .int 8, .int 0, .int 40, .null, .int 0, .null, .null], vm := .none }]
def classes : Array Class := #[k0, k1, k2, k3, k4, k5, k6, k7, k8, k9]
def interned : List (Array UInt16 × Addr) := []
def slotsUsed : Nat := 82
def theMethod : MethodId := ⟨1, 2⟩
def args0 : Array Value := #[.int 5]
def aboutOver (below : List Frame) : State where
  vm := { classes := classes, interned := interned.toArray }
  heap := heap
  slotsUsed := slotsUsed
  threads := #[{ frames := .invoking theMethod args0 :: below }]
def below0 : List Frame := [.native { method := ⟨0, 0⟩, args := #[] }]
def about1 : State := aboutOver below0
def p0 : Program := .bare "" "" ""
def e0 : Env := launch0.env 0 0 0
theorem w_frames : about1.frames = Frame.invoking theMethod args0 :: below0 := rfl
set_option maxRecDepth 65536 in
theorem w_args : argsFit about1.vm theMethod args0 = true := by decide +kernel
set_option maxRecDepth 65536 in
theorem w_heap : heapFits about1 = true := by decide +kernel
set_option maxRecDepth 65536 in
theorem w_runnable : about1.curStatus? = some .runnable := by decide +kernel
set_option maxRecDepth 65536 in
theorem w_alone : about1.alone = true := by decide +kernel
set_option maxRecDepth 65536 in
theorem w_named : about1.methodNamed? x = some theMethod := by decide +kernel
set_option maxRecDepth 65536 in
theorem w_hears : about1.hears theMethod below0 = true := by decide +kernel
set_option maxRecDepth 65536 in
theorem w_ripe : about1.ripe theMethod args0 below0 = true := by decide +kernel
theorem w_running : about1.status = .running := rfl
set_option maxRecDepth 65536 in
theorem w_room : about1.hasRoom e0.platform room_1 = true :=
  launch0.hasRoom_least _ room_1 (by decide +kernel) (by decide +kernel) (by decide +kernel) (by decide +kernel) (by decide +kernel) (by decide +kernel)
theorem allAtoms_all (ts : List Jvm.Cond) (a : Array Jvm.Value) (st : Jvm.State) : (allAtoms ts).before a st = ts.all (fun c => c.before a st) := by
  induction ts with
  | nil => rfl
  | cons c t ih =>
    show (Jvm.Cond.and c (allAtoms t)).before a st = _
    rw [Jvm.Cond.before_and, ih, List.all_cons]
def words1 : List Jvm.Cond := Jvm.Cond.code x code maxLocals ret :: tables_1
/-- a 'code' word, met by the world's own term for the bytes: nothing is compared byte by byte -/
theorem code_word {y : MethodName} {bytes : ByteArray} {mx : Nat} {rt : Option FieldType} {a : Array Value} {s : State} {m : MethodId} {meth : Method} {c : Code} (h1 : s.methodNamed? y = some m) (h2 : s.vm.method? m = some meth) (h3 : meth.code = some c) (h4 : c.code = bytes)
    (h5 : (c.maxLocals == mx && c.exceptionTable.isEmpty && decide (c.maxStack ≤ mostOperands) && decide (meth.sig.returnType = rt) && !meth.locks && decide (parseMethodDescriptor y.desc = some meth.sig)) = true) : (Jvm.Cond.code y bytes mx rt).before a s = true := by
  simp only [Bool.and_eq_true, beq_iff_eq, Bool.not_eq_true', decide_eq_true_eq] at h5
  obtain ⟨⟨⟨⟨⟨g1, g2⟩, g3⟩, g4⟩, g5⟩, g6⟩ := h5
  simp [Cond.before, Cond.holds, Cond.value, h1, h2, h3, h4, g1, g2, g3, g4, g5, g6]
def isCode : Jvm.Cond → Bool
  | .code _ _ _ _ => true
  | _ => false
theorem all_split {L : List Jvm.Cond} {P : Jvm.Cond → Bool} (h1 : L.all (fun c => isCode c || P c) = true) (h2 : ∀ c ∈ L.filter isCode, P c = true) : L.all P = true := by
  refine List.all_eq_true.mpr fun c hc => ?_
  have h := List.all_eq_true.mp h1 c hc
  rcases Bool.eq_false_or_eq_true (isCode c) with hi | hi
  · exact h2 c (List.mem_filter.mpr ⟨hc, hi⟩)
  · simpa [hi] using h
set_option maxRecDepth 65536 in
theorem w_c0 : (Jvm.Cond.code x code maxLocals ret).before args0 about1 = true := code_word (m := ⟨1, 2⟩) (meth := k1m2) (c := k1c2) (by decide +kernel) rfl rfl rfl (by decide +kernel)
set_option maxRecDepth 65536 in
theorem w_c1 : (Jvm.Cond.code ({ cls := "com/example/rappen/rappen/bill/S1KeyLastPartOptionalAlonePinLaw", name := "pick", desc := "(I)Lcom/example/rappen/rappen/bill/S1Key;" } : Jvm.MethodName) method_2_code (1 : Nat) (Option.some (Jvm.ClassFile.FieldType.object "com/example/rappen/rappen/bill/S1Key"))).before args0 about1 = true := code_word (m := ⟨1, 1⟩) (meth := k1m1) (c := k1c1) (by decide +kernel) rfl rfl rfl (by decide +kernel)
set_option maxRecDepth 65536 in
theorem w_c2 : (Jvm.Cond.code ({ cls := "com/example/rappen/rappen/bill/S1Key", name := "tag", desc := "()I" } : Jvm.MethodName) prog_14_method_4_code (1 : Nat) (Option.some Jvm.ClassFile.FieldType.int)).before args0 about1 = true := code_word (m := ⟨6, 0⟩) (meth := k6m0) (c := k6c0) (by decide +kernel) rfl rfl rfl (by decide +kernel)
set_option maxRecDepth 65536 in
theorem w_c3 : (Jvm.Cond.code ({ cls := "com/example/rappen/rappen/bill/S1Key", name := "lastPartOptionalAlone", desc := "()Z" } : Jvm.MethodName) prog_14_method_9_code (1 : Nat) (Option.some Jvm.ClassFile.FieldType.boolean)).before args0 about1 = true := code_word (m := ⟨6, 1⟩) (meth := k6m1) (c := k6c1) (by decide +kernel) rfl rfl rfl (by decide +kernel)
def codes1 : List Jvm.Cond := [Jvm.Cond.code x code maxLocals ret, Jvm.Cond.code ({ cls := "com/example/rappen/rappen/bill/S1KeyLastPartOptionalAlonePinLaw", name := "pick", desc := "(I)Lcom/example/rappen/rappen/bill/S1Key;" } : Jvm.MethodName) method_2_code (1 : Nat) (Option.some (Jvm.ClassFile.FieldType.object "com/example/rappen/rappen/bill/S1Key")), Jvm.Cond.code ({ cls := "com/example/rappen/rappen/bill/S1Key", name := "tag", desc := "()I" } : Jvm.MethodName) prog_14_method_4_code (1 : Nat) (Option.some Jvm.ClassFile.FieldType.int), Jvm.Cond.code ({ cls := "com/example/rappen/rappen/bill/S1Key", name := "lastPartOptionalAlone", desc := "()Z" } : Jvm.MethodName) prog_14_method_9_code (1 : Nat) (Option.some Jvm.ClassFile.FieldType.boolean)]
set_option maxRecDepth 65536 in
theorem codes_eq : words1.filter isCode = codes1 := rfl
theorem w_codes : ∀ c ∈ words1.filter isCode, c.before args0 about1 = true := by
  rw [codes_eq]
  intro c hc
  simp only [codes1, List.mem_cons, List.not_mem_nil, or_false] at hc
  rcases hc with rfl | rfl | rfl | rfl
  · exact w_c0
  · exact w_c1
  · exact w_c2
  · exact w_c3
set_option maxRecDepth 65536 in
theorem w_t1 : (words1.take 24).all (fun c => isCode c || c.before args0 about1) = true := by decide +kernel
set_option maxRecDepth 65536 in
theorem w_t2 : (words1.drop 24).all (fun c => isCode c || c.before args0 about1) = true := by decide +kernel
theorem w_tables : (allAtoms (Jvm.Cond.code x code maxLocals ret :: tables_1)).before args0 about1 = true := by
  rw [allAtoms_all]
  show words1.all (fun c => c.before args0 about1) = true
  refine all_split ?_ w_codes
  rw [← List.take_append_drop 24 words1, List.all_append, w_t1, w_t2]
  rfl
set_option maxRecDepth 65536 in
theorem w_case : (Jvm.Cond.and given_1 narrow_1).before args0 about1 = true := by decide +kernel
theorem w_applies : (headSpec (Jvm.Cond.code x code maxLocals ret :: tables_1) room_1).applies x e0.platform about1 = true :=
  (Spec.applies_iff w_frames).mpr ⟨w_running, w_runnable, w_alone, w_named, w_hears, w_ripe, w_room, w_tables⟩
theorem atStart : AtStart classFile x code maxLocals ret World_1 tables_1 room_1 Calls_1 rest_1 Pre_1 launch0 p0 e0 about1 theMethod args0 below0 :=
  ⟨lists_1, trivial, launch0.admits_env _ _ _, launch0.least_env, fairChoices_fair.cas, fairChoices_fair.clock, w_frames, w_args, w_heap, w_applies, trivial, trivial, w_case⟩
end start1
theorem witness_1 : WitnessClaimed_1 := ⟨start1.p0, start1.e0, start1.about1, start1.theMethod, start1.args0, start1.below0, start1.atStart⟩
end Jvm.Pilot.@@N@@
