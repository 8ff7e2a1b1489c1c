import JvmDerived
import JvmDerived.Pilot.@@N@@Statement
import JvmDerived.Pilot.@@N@@Code
set_option linter.unusedVariables false
set_option linter.unusedSimpArgs false
namespace Jvm.RoadKit
open Sem ClassFile Op Lib Jvm.Stand Jvm.Free Jvm.LawKit
section New
variable {p : Program} {l : Launch} {e : Env} {R : Room} {s : State} {m : MethodId} {args : Array Value} {below : List Frame} {meth : Method} {c : Code} {T : State} {locs : List Loc} {cells slots : Nat}
theorem retI (X : Stand p l e R s m args below meth c T locs cells slots) (hx : p.tables.exec = Jvm.exec) {pc : Nat} {Ls : Array Slot} {z : Int32} {rest : List Value} (hret : meth.sig.returnType = some .int) (hd : decode c.code pc = .ok (.ireturn, 1)) {fs : List Frame}
    (hl : ∀ (f : JFrame) (acts : List Action), f.method = m → f.locked = none → f.entered = [] → (doReturn e (T.setTop f) acts (some (.int z))).1 = T.setFrames fs) : Steps p.tables e below (T.setTop (mkF m pc Ls (.int z :: rest))) (T.setFrames fs) := by
  have hm' : T.vm.method? m = some meth := X.method'
  have hn : narrow .int (.int z) = .int z := rfl
  show Steps p.tables e below (T.setTop { method := m, pc := pc, locals := Ls, stack := _ :: rest, locked := none }) _
  jvm_step X.here [X.here.top, hx, hd, hm', hret, hn]
  first | (intro acts; rw [hl _ acts rfl rfl rfl]) | rw [hl _ _ rfl rfl rfl]
  exact Steps.refl _
end New
end Jvm.RoadKit
namespace Jvm.Pilot.@@N@@
open Jvm Jvm.ClassFile Sem Op Lib Jvm.Free Jvm.Stand Jvm.LawKit Jvm.RoadKit Bundle Jvm.Pilot.@@N@@.Jvm.D
def QP (r : Option Value) (h0 : Heap) (n0 : Nat) (v : Option Value) (h : Heap) (L : List Loc) : Prop := v = r ∧ Fr n0 L ∧ h = h0
def Q0 (n0 : Nat) (v : Option Value) (L : List Loc) : Prop := v = some (.int 1) ∧ Fr n0 L
section Own
variable {p : Program} {l : Launch} {e : Env} {R : Room} {s : State} {m : MethodId} {args : Array Value} {below : List Frame} {meth : Method} {c : Code} {T : State} {locs : List Loc} {cells slots : Nat} {Z : State} {h : Heap} {b : Addr} {k : ClassId} {z : Int32} {vs : List Value} {dv : Value} {ty : FieldType}
theorem own_stB (X : Stand p l e R s m args below meth c T locs cells slots) (hx : p.tables.exec = Jvm.exec) (hZ : Z.Warmed39 s.vm) (eT : T.heap = h) (V : Arv Z h b k .byte z vs dv) {j x : Int32} (hin : ¬ j < 0 ∧ j < z) (i : Nat) (hj : j.toNatClampNeg = i) (hi : i < vs.length) {g : JFrame} (hg : g.method = m) {rest : List Value} (hs : g.stack = .int x :: .int j :: .ref b :: rest) (hd : decode c.code g.pc = .ok (.bastore, 1)) :
    ∃ T' h', Stand p l e R s m args below meth c T' (locs ++ [⟨b, j.toNatClampNeg⟩]) cells slots ∧ T'.heap = h' ∧ Wr h h' b j.toNatClampNeg (.int x.toInt8.toInt32) ∧ Arv Z h' b k .byte z (vs.set i (.int x.toInt8.toInt32)) dv ∧ ∀ target, Steps p.tables e below (T'.setTop { g with pc := g.pc + 1, stack := rest }) target → Steps p.tables e below (T.setTop g) target := by
  obtain ⟨cl, A, q, S, N, H, G⟩ := V
  obtain ⟨T', h', X', e', W, st⟩ := stB X hx hZ eT A (j := j) (inb_of S hin) hg hs hd
  exact ⟨T', h', X', e', W, Arv.set A q S N H G (fits_nar_byte _) W i hj hi, st⟩
theorem own_psB (X : Stand p l e R s m args below meth c T locs cells slots) (hx : p.tables.exec = Jvm.exec) (hZ : Z.Warmed39 s.vm) (eT : T.heap = h) (V : Arv Z h b k .byte z vs dv) {j x : Int32} (hin : ¬ j < 0 ∧ j < z) (hj : j.toNatClampNeg = vs.length) {g : JFrame} (hg : g.method = m) {rest : List Value} (hs : g.stack = .int x :: .int j :: .ref b :: rest) (hd : decode c.code g.pc = .ok (.bastore, 1)) :
    ∃ T' h', Stand p l e R s m args below meth c T' (locs ++ [⟨b, j.toNatClampNeg⟩]) cells slots ∧ T'.heap = h' ∧ Wr h h' b j.toNatClampNeg (.int x.toInt8.toInt32) ∧ Arv Z h' b k .byte z (vs ++ [.int x.toInt8.toInt32]) dv ∧ ∀ target, Steps p.tables e below (T'.setTop { g with pc := g.pc + 1, stack := rest }) target → Steps p.tables e below (T.setTop g) target := by
  obtain ⟨T', h', X', e', W, V', st⟩ := own_stB X hx hZ eT (V.pad (pad_rep vs dv 1)) hin vs.length hj (by simp) hg hs hd
  have q : (vs ++ List.replicate 1 dv).set vs.length (.int x.toInt8.toInt32) = vs ++ [.int x.toInt8.toInt32] := by simp
  rw [q] at V'
  exact ⟨T', h', X', e', W, V', st⟩
theorem own_stC (X : Stand p l e R s m args below meth c T locs cells slots) (hx : p.tables.exec = Jvm.exec) (hZ : Z.Warmed39 s.vm) (eT : T.heap = h) (V : Arv Z h b k .char z vs dv) {j x : Int32} (hin : ¬ j < 0 ∧ j < z) (i : Nat) (hj : j.toNatClampNeg = i) (hi : i < vs.length) {g : JFrame} (hg : g.method = m) {rest : List Value} (hs : g.stack = .int x :: .int j :: .ref b :: rest) (hd : decode c.code g.pc = .ok (.castore, 1)) :
    ∃ T' h', Stand p l e R s m args below meth c T' (locs ++ [⟨b, j.toNatClampNeg⟩]) cells slots ∧ T'.heap = h' ∧ Wr h h' b j.toNatClampNeg (.int x.toUInt32.toUInt16.toUInt32.toInt32) ∧ Arv Z h' b k .char z (vs.set i (.int x.toUInt32.toUInt16.toUInt32.toInt32)) dv ∧ ∀ target, Steps p.tables e below (T'.setTop { g with pc := g.pc + 1, stack := rest }) target → Steps p.tables e below (T.setTop g) target := by
  obtain ⟨cl, A, q, S, N, H, G⟩ := V
  obtain ⟨T', h', X', e', W, st⟩ := stC X hx hZ eT A (j := j) (inb_of S hin) hg hs hd
  exact ⟨T', h', X', e', W, Arv.set A q S N H G (fits_nar_char _) W i hj hi, st⟩
theorem own_ldB (X : Stand p l e R s m args below meth c T locs cells slots) (hx : p.tables.exec = Jvm.exec) (hZ : Z.Warmed39 s.vm) (eT : T.heap = h) (V : Arv Z h b k .byte z vs dv) {j : Int32} {v : Value} (hin : ¬ j < 0 ∧ j < z) (u : vs.getD j.toNatClampNeg dv = v) {g : JFrame} (hg : g.method = m) {rest : List Value} (hs : g.stack = .int j :: .ref b :: rest) (hd : decode c.code g.pc = .ok (.baload, 1)) (target : State)
    (hr : Steps p.tables e below (T.setTop { g with pc := g.pc + 1, stack := v :: rest }) target) : Steps p.tables e below (T.setTop g) target := by
  obtain ⟨cl, A, q, S, N, H, G⟩ := V
  exact X.baloadBytes hx (by rw [eT]; exact A.1) (State.isArrayOf_alike hZ.alike A.2.1) A.2.2 (inb_of S hin) (H.at (inb_of S hin) u) hg hs hd target hr
theorem own_ldC (X : Stand p l e R s m args below meth c T locs cells slots) (hx : p.tables.exec = Jvm.exec) (hZ : Z.Warmed39 s.vm) (eT : T.heap = h) (V : Arv Z h b k .char z vs dv) {j : Int32} {v : Value} (hin : ¬ j < 0 ∧ j < z) (u : vs.getD j.toNatClampNeg dv = v) {g : JFrame} (hg : g.method = m) {rest : List Value} (hs : g.stack = .int j :: .ref b :: rest) (hd : decode c.code g.pc = .ok (.caload, 1)) (target : State)
    (hr : Steps p.tables e below (T.setTop { g with pc := g.pc + 1, stack := v :: rest }) target) : Steps p.tables e below (T.setTop g) target := by
  obtain ⟨cl, A, q, S, N, H, G⟩ := V
  exact X.caload hx (by rw [eT]; exact A.1) (State.isArrayOf_alike hZ.alike A.2.1) A.2.2 (inb_of S hin) (H.at (inb_of S hin) u) hg hs hd target hr
theorem own_len (X : Stand p l e R s m args below meth c T locs cells slots) (hx : p.tables.exec = Jvm.exec) (hZ : Z.Warmed39 s.vm) (eT : T.heap = h) (V : Arv Z h b k ty z vs dv) {g : JFrame} (hg : g.method = m) {rest : List Value} (hs : g.stack = .ref b :: rest) (hd : decode c.code g.pc = .ok (.arraylength, 1)) (target : State)
    (hr : Steps p.tables e below (T.setTop { g with pc := g.pc + 1, stack := .int z :: rest }) target) : Steps p.tables e below (T.setTop g) target := by
  obtain ⟨cl, A, q, S, N, H, G⟩ := V
  exact X.arraylength hx (by rw [eT]; exact A.1) (State.isArrayOf_alike hZ.alike A.2.1) hg hs hd target (by rw [len_of S N]; exact hr)
end Own
theorem own_selects {args : Array Value} {s : State} {y : MethodName} {n : Nat} (hp : (Jvm.Cond.privateMethod y).before args s = true) (hi : (Jvm.Cond.instanceMethod y).before args s = true) (hn : (Jvm.Cond.instantiable y.cls n).before args s = true) (hy : y.cls ≠ "java/lang/invoke/MethodHandle" ∧ y.cls ≠ "java/lang/invoke/VarHandle") : (Jvm.Cond.selects y.cls y y).before args s = true := by
  obtain ⟨m, meth, hm, hmeth, -, -⟩ := Jvm.Cond.instanceMethod_spec hi
  obtain ⟨c, k, hc, hk, -, hif, -, -⟩ := Jvm.Cond.instantiable_spec hn
  have hpr := Jvm.Cond.privateMethod_at hp m meth hm hmeth
  have hf := State.methodFound?_of_named hm hy
  cases hc.symm.trans (findClass_of_methodNamed hm)
  simp only [Bool.or_eq_false_iff] at hif
  simp [Jvm.Cond.before, Jvm.Cond.holds, Jvm.Cond.value, hc, hf, hm, selectMethod_private hmeth hpr, hk, hif.1]
def OutS (Z : State) (h : Heap) (a b : Addr) (k : ClassId) (n : Int32) (vs : List Value) : Prop := Exa Z h a "com/example/periodica/periodica/ledger/StoredFields$Out" ∧ Fld Z h a "com/example/periodica/periodica/ledger/StoredFields$Out" "bytes" "[B" (.ref b) ∧ Fld Z h a "com/example/periodica/periodica/ledger/StoredFields$Out" "size" "I" (.int n) ∧ Arv Z h b k .byte 128 vs (.int (0 : Int32)) ∧ a ≠ b
def by0 (x : Int32) : Int32 := x.toInt8.toInt32
def byK (x q : Int32) : Int32 := ((x.toUInt32 >>> (q &&& 31).toUInt32).toInt32).toInt8.toInt32
theorem own_b2 (x : Int32) : x.toInt8.toInt32.toInt8.toInt32 = x.toInt8.toInt32 := by simp
def b4 (x : Int32) : List Value := [.int (byK x 24), .int (byK x 16), .int (byK x 8), .int (by0 x)]
theorem own_rng (vs : List Value) (d : Value) : ((List.range vs.length).map fun i => vs.getD i d) = vs := by
  apply List.ext_getElem
  · simp
  · intro i h1 h2
    simp [List.getD_eq_getElem?_getD, h2]
def QI (Z : State) (a : Addr) (n0 : Nat) (v : Option Value) (h : Heap) (L : List Loc) : Prop := v = none ∧ Fr n0 L ∧ ∃ (b : Addr) (k : ClassId), n0 ≤ b ∧ OutS Z h a b k 0 []
def QO (Z : State) (a b : Addr) (k : ClassId) (n : Int32) (vs : List Value) (h0 : Heap) (n0 : Nat) (v : Option Value) (h : Heap) (L : List Loc) : Prop := v = none ∧ Fr n0 L ∧ Keep h0 h [a, b] ∧ OutS Z h a b k n vs
def QA (Z : State) (n : Int32) (vs : List Value) (h0 : Heap) (n0 : Nat) (v : Option Value) (h : Heap) (L : List Loc) : Prop := ∃ (r : Addr) (k : ClassId), v = some (.ref r) ∧ Fr n0 L ∧ Keep h0 h [] ∧ h0.size ≤ r ∧ Arv Z h r k .byte n vs (.int (0 : Int32))
theorem d1_0 : decode prog_53_method_1_code 0 = .ok (.aload_n 0, 1) := by decide +kernel
theorem d1_1 : decode prog_53_method_1_code 1 = .ok (.invokespecial 1, 3) := by decide +kernel
theorem d1_4 : decode prog_53_method_1_code 4 = .ok (.aload_n 0, 1) := by decide +kernel
theorem d1_5 : decode prog_53_method_1_code 5 = .ok (.sipush 128, 3) := by decide +kernel
theorem d1_8 : decode prog_53_method_1_code 8 = .ok (.newarray .byte, 2) := by decide +kernel
theorem d1_10 : decode prog_53_method_1_code 10 = .ok (.putfield 7, 3) := by decide +kernel
theorem d1_13 : decode prog_53_method_1_code 13 = .ok (.return_, 1) := by decide +kernel
theorem pn_1 : plainName "com/example/periodica/periodica/ledger/StoredFields$Out" = true := by first | (simp [plainName, overriddenIn]; done) | decide +kernel
theorem ef_1 (m : MethodId) (x0 : Addr) : entryFrame m #[(.ref x0)] 1 = mkF m 0 #[.val (.ref x0)] [] := by first | (simp [entryFrame, mkF, argsToLocals, Value.category]; done) | rfl
set_option maxRecDepth 65536 in
set_option maxHeartbeats 40000000 in
theorem rm1 (l : Launch) (Z : State) (a0 : Array Value) (hw : ∀ d ∈ tables_1, d.before a0 Z = true) (ws : List Jvm.Cond) (a1 : Addr) (u_bytes_a1 : Value) (h0 : Heap) (n0 : Nat) (Z0 : n0 ≤ h0.size) (E_a1 : Exa Z h0 a1 "com/example/periodica/periodica/ledger/StoredFields$Out") (F_bytes_a1 : Fld Z h0 a1 "com/example/periodica/periodica/ledger/StoredFields$Out" "bytes" "[B" u_bytes_a1) (F_size_a1 : Fld Z h0 a1 "com/example/periodica/periodica/ledger/StoredFields$Out" "size" "I" (.int (0 : Int32))) (g_a1 : n0 ≤ a1) :
    MetFree l (⟨"com/example/periodica/periodica/ledger/StoredFields$Out", "<init>", "()V"⟩ : MethodName) (head1 (Jvm.Cond.code (⟨"com/example/periodica/periodica/ledger/StoredFields$Out", "<init>", "()V"⟩ : MethodName) prog_53_method_1_code 1 none :: ws) ({ frames := 1, cells := 1, slots := 128, locals := 12 } : Room)) (fun a U => a = #[(.ref a1)] ∧ Z.Warmed39 U.vm ∧ U.heap = h0) (fun _ _ _ _ _ => True) (fun _ U o U' => ∃ v L, o = .returned v ∧ QI Z a1 n0 v U'.heap L ∧ FrameEnd U o U' L ({ frames := 1, cells := 1, slots := 128, locals := 12 } : Room).cells ({ frames := 1, cells := 1, slots := 128, locals := 12 } : Room).slots) := by
  refine MetFree.of_bodySF (plainFor_of_name pn_1) hisR ?_
  intro p e s m args below meth c s₁ Bd hml0 hP hK
  obtain ⟨rfl, hZ, hh⟩ := hP
  have hx := Bd.exec
  have hby := Bd.bytes
  have hml : c.maxLocals = 1 := hml0
  have hown : s.vm.findClass "com/example/periodica/periodica/ledger/StoredFields$Out" = some m.cls := findClass_of_methodNamed Bd.named
  have hnm := (name_of_methodNamed Bd.named Bd.method).1
  have X0 : Stand p l e ({ frames := 1, cells := 1, slots := 128, locals := 12 } : Room) s m #[(.ref a1)] below meth c s₁ [] 0 0 := Stand.of_body Bd
  have e0 : s₁.heap = h0 := by rw [← hh, Bd.state]; rfl
  have N0 := Fr.nil n0
  have pre0 : ∀ t, Steps p.tables e below (s₁.setTop (mkF m 0 #[.val (.ref a1)] [])) t → Steps p.tables e below (s₁.setTop (entryFrame m #[(.ref a1)] 1)) t := fun t k => castTop (ef_1 m a1) k
  obtain ⟨T2, X2, e2, st2⟩ := initO X0 hx hZ hown (hw _ (List.mem_of_getElem? (i := 6) rfl)) (hw _ (List.mem_of_getElem? (i := 7) rfl)) (hw _ (List.mem_of_getElem? (i := 8) rfl)) e0 (g := (mkF m 1 #[.val (.ref a1)] [(.ref a1)])) rfl (by rw [hml]; rfl) rfl (hb hby d1_1) (by decide) (W := 0) (by show 2 * 0 + _ ≤ _; exact Nat.le_of_eq rfl) (by decide)
  obtain ⟨T3, h3, k3, X3, e3, E3, A3, st3⟩ := newP X2 hx hZ (hw _ (List.mem_of_getElem? (i := 9) rfl)) e2 (g := (mkF m 8 #[.val (.ref a1)] [(.int (128 : Int32)), (.ref a1)])) rfl (hb hby d1_8) rfl (by decide) (cap := 128) (by decide) (by decide) (by decide) (by decide)
  obtain ⟨b3, g3⟩ : ∃ z, z = h0.size := ⟨_, rfl⟩
  rw [← g3] at A3 st3
  have V_b3 := Arv.new A3 (by decide)
  have g_b3 : n0 ≤ b3 := Nat.le_trans Z0 (Nat.le_of_eq g3.symm)
  have sz_b3 : h0.size ≤ b3 := (Nat.le_trans (Keep.refl h0 [a1]).1 (Nat.le_of_eq g3.symm))
  have K3 : Keep h0 h3 [a1] := (Keep.refl h0 [a1]).ext E3
  obtain ⟨T4, h4, X4, e4, W4, st4⟩ := putF X3 hx hZ hown (host := "") (Or.inl (hw _ (List.mem_of_getElem? (i := 10) rfl))) Via.refl e3 (F_bytes_a1.ext E3) (E_a1.ext E3) (Or.inl (hw _ (List.mem_of_getElem? (i := 11) rfl))) (hw _ (List.mem_of_getElem? (i := 1) rfl)) (ty := (.array .byte)) (by decide) rfl rfl (g := (mkF m 10 #[.val (.ref a1)] [(.ref b3), (.ref a1)])) rfl rfl (hb hby d1_10)
  have Fw4 := (F_bytes_a1.ext E3).same W4
  have K4 : Keep h0 h4 [a1] := K3.wr W4 (Or.inl (List.mem_of_getElem? (i := 0) rfl))
  have N4 := Fr.snoc X4 N0 g_a1
  have ne_ab : a1 ≠ b3 := (Nat.ne_of_lt (Nat.lt_of_lt_of_le F_size_a1.lt (Nat.le_of_eq g3.symm)))
  obtain ⟨fs, hr, hrun, hended, hW, hsame⟩ := X4.leave (v := none) (fun _ => rfl)
  refine ⟨_, _, pre0 _ ?_, hrun, hended, _, _, rfl, ?_, ⟨_, rfl⟩, hW, hsame.mono (by decide) (by decide)⟩
  · show Steps p.tables e below (s₁.setTop (mkF m 0 #[.val (.ref a1)] [])) _
    refine XS.aloadN X0.here hx rfl (hb hby d1_0) rfl rfl ?_
    show Steps p.tables e below (s₁.setTop (mkF m 1 #[.val (.ref a1)] [(.ref a1)])) _
    refine st2 _ ?_
    show Steps p.tables e below (T2.setTop (mkF m 4 #[.val (.ref a1)] [])) _
    refine XS.aloadN X2.here hx rfl (hb hby d1_4) rfl rfl ?_
    show Steps p.tables e below (T2.setTop (mkF m 5 #[.val (.ref a1)] [(.ref a1)])) _
    refine XS.sipush X2.here hx rfl (hb hby d1_5) ?_
    show Steps p.tables e below (T2.setTop (mkF m 8 #[.val (.ref a1)] [(.int (128 : Int32)), (.ref a1)])) _
    refine st3 _ ?_
    show Steps p.tables e below (T3.setTop (mkF m 10 #[.val (.ref a1)] [(.ref b3), (.ref a1)])) _
    refine st4 _ ?_
    show Steps p.tables e below (T4.setTop (mkF m 13 #[.val (.ref a1)] [])) _
    exact X4.returnOut hx Bd.returns (hb hby d1_13) hr
  · show QI Z a1 n0 _ T4.heap _
    rw [e4]
    exact ⟨rfl, N4, b3, _, g_b3, ((E_a1.ext E3).wr W4), Fw4, ((F_size_a1.ext E3).other W4 (Or.inr (slot_ne (Or.inl (hw _ (List.mem_of_getElem? (i := 18) rfl))) (Or.inl (hw _ (List.mem_of_getElem? (i := 11) rfl))) (by decide) (t := .int) (t' := (.array .byte)) (by decide) (by decide)))), (V_b3.other W4 (Ne.symm (Nat.ne_of_lt (Nat.lt_of_lt_of_le F_size_a1.lt (Nat.le_of_eq g3.symm))))), ne_ab⟩
theorem d7_0 : decode prog_53_method_10_code 0 = .ok (.aload_n 0, 1) := by decide +kernel
theorem d7_1 : decode prog_53_method_10_code 1 = .ok (.getfield 17, 3) := by decide +kernel
theorem d7_4 : decode prog_53_method_10_code 4 = .ok (.iload_n 1, 1) := by decide +kernel
theorem d7_5 : decode prog_53_method_10_code 5 = .ok (.iadd, 1) := by decide +kernel
theorem d7_6 : decode prog_53_method_10_code 6 = .ok (.aload_n 0, 1) := by decide +kernel
theorem d7_7 : decode prog_53_method_10_code 7 = .ok (.getfield 7, 3) := by decide +kernel
theorem d7_10 : decode prog_53_method_10_code 10 = .ok (.arraylength, 1) := by decide +kernel
theorem d7_11 : decode prog_53_method_10_code 11 = .ok (.if_icmp .le 30, 3) := by decide +kernel
theorem d7_41 : decode prog_53_method_10_code 41 = .ok (.return_, 1) := by decide +kernel
theorem pn_7 : plainName "com/example/periodica/periodica/ledger/StoredFields$Out" = true := by first | (simp [plainName, overriddenIn]; done) | decide +kernel
theorem ef_7 (m : MethodId) (x0 : Addr) (x1 : Int32) : entryFrame m #[(.ref x0), (.int x1)] 2 = mkF m 0 #[.val (.ref x0), .val (.int x1)] [] := by first | (simp [entryFrame, mkF, argsToLocals, Value.category]; done) | rfl
set_option maxRecDepth 65536 in
set_option maxHeartbeats 40000000 in
theorem rm7 (l : Launch) (Z : State) (a0 : Array Value) (hw : ∀ d ∈ tables_1, d.before a0 Z = true) (ws : List Jvm.Cond) (a1 : Addr) (p2 : Int32) (b : Addr) (k : ClassId) (n : Int32) (vs : List Value) (h0 : Heap) (n0 : Nat) (Z0 : n0 ≤ h0.size) (hO : OutS Z h0 a1 b k n vs) (hc11 : ¬ ((128 : Int32) < (n + p2))) :
    MetFree l (⟨"com/example/periodica/periodica/ledger/StoredFields$Out", "room", "(I)V"⟩ : MethodName) (head1 (Jvm.Cond.code (⟨"com/example/periodica/periodica/ledger/StoredFields$Out", "room", "(I)V"⟩ : MethodName) prog_53_method_10_code 2 none :: ws) ({ frames := 0, cells := 0, slots := 0, locals := 0 } : Room)) (fun a U => a = #[(.ref a1), (.int p2)] ∧ Z.Warmed39 U.vm ∧ U.heap = h0) (fun _ _ _ _ _ => True) (fun _ U o U' => ∃ v L, o = .returned v ∧ QP (none) h0 n0 v U'.heap L ∧ FrameEnd U o U' L ({ frames := 0, cells := 0, slots := 0, locals := 0 } : Room).cells ({ frames := 0, cells := 0, slots := 0, locals := 0 } : Room).slots) := by
  refine MetFree.of_bodySF (plainFor_of_name pn_7) hisR ?_
  intro p e s m args below meth c s₁ Bd hml0 hP hK
  obtain ⟨rfl, hZ, hh⟩ := hP
  have hx := Bd.exec
  have hby := Bd.bytes
  have hml : c.maxLocals = 2 := hml0
  have hown : s.vm.findClass "com/example/periodica/periodica/ledger/StoredFields$Out" = some m.cls := findClass_of_methodNamed Bd.named
  have hnm := (name_of_methodNamed Bd.named Bd.method).1
  have X0 : Stand p l e ({ frames := 0, cells := 0, slots := 0, locals := 0 } : Room) s m #[(.ref a1), (.int p2)] below meth c s₁ [] 0 0 := Stand.of_body Bd
  have e0 : s₁.heap = h0 := by rw [← hh, Bd.state]; rfl
  have N0 := Fr.nil n0
  have pre0 : ∀ t, Steps p.tables e below (s₁.setTop (mkF m 0 #[.val (.ref a1), .val (.int p2)] [])) t → Steps p.tables e below (s₁.setTop (entryFrame m #[(.ref a1), (.int p2)] 2)) t := fun t k => castTop (ef_7 m a1 p2) k
  obtain ⟨T3, X3, e3, st3⟩ := getF X0 hx hZ hown (host := "") (Or.inl (hw _ (List.mem_of_getElem? (i := 17) rfl))) Via.refl e0 hO.2.2.1 (g := (mkF m 1 #[.val (.ref a1), .val (.int p2)] [(.ref a1)])) rfl rfl (hb hby d7_1)
  obtain ⟨T4, X4, e4, st4⟩ := getF X3 hx hZ hown (host := "") (Or.inl (hw _ (List.mem_of_getElem? (i := 10) rfl))) Via.refl e3 hO.2.1 (g := (mkF m 7 #[.val (.ref a1), .val (.int p2)] [(.ref a1), (.int (n + p2))])) rfl rfl (hb hby d7_7)
  obtain ⟨fs, hr, hrun, hended, hW, hsame⟩ := X4.leave (v := none) (fun _ => rfl)
  refine ⟨_, _, pre0 _ ?_, hrun, hended, _, _, rfl, ?_, ⟨_, rfl⟩, hW, hsame.mono (by decide) (by decide)⟩
  · show Steps p.tables e below (s₁.setTop (mkF m 0 #[.val (.ref a1), .val (.int p2)] [])) _
    refine XS.aloadN X0.here hx rfl (hb hby d7_0) rfl rfl ?_
    show Steps p.tables e below (s₁.setTop (mkF m 1 #[.val (.ref a1), .val (.int p2)] [(.ref a1)])) _
    refine st3 _ ?_
    show Steps p.tables e below (T3.setTop (mkF m 4 #[.val (.ref a1), .val (.int p2)] [(.int n)])) _
    refine XS.iloadN X3.here hx rfl (hb hby d7_4) rfl ?_
    show Steps p.tables e below (T3.setTop (mkF m 5 #[.val (.ref a1), .val (.int p2)] [(.int p2), (.int n)])) _
    refine XS.iadd X3.here hx rfl (hb hby d7_5) rfl ?_
    show Steps p.tables e below (T3.setTop (mkF m 6 #[.val (.ref a1), .val (.int p2)] [(.int (n + p2))])) _
    refine XS.aloadN X3.here hx rfl (hb hby d7_6) rfl rfl ?_
    show Steps p.tables e below (T3.setTop (mkF m 7 #[.val (.ref a1), .val (.int p2)] [(.ref a1), (.int (n + p2))])) _
    refine st4 _ ?_
    show Steps p.tables e below (T4.setTop (mkF m 10 #[.val (.ref a1), .val (.int p2)] [(.ref b), (.int (n + p2))])) _
    refine own_len X4 hx hZ e4 hO.2.2.2.1 (g := (mkF m 10 #[.val (.ref a1), .val (.int p2)] [(.ref b), (.int (n + p2))])) rfl rfl (hb hby d7_10) _ ?_
    show Steps p.tables e below (T4.setTop (mkF m 11 #[.val (.ref a1), .val (.int p2)] [(.int (128 : Int32)), (.int (n + p2))])) _
    refine XS.icmpYes X4.here hx rfl (pc0 := 11) (pc' := 41) rfl (hb hby d7_11) rfl (flt hc11).2.2.2 (by decide) (by decide) ?_
    show Steps p.tables e below (T4.setTop (mkF m 41 #[.val (.ref a1), .val (.int p2)] [])) _
    exact X4.returnOut hx Bd.returns (hb hby d7_41) hr
  · show QP (none) h0 n0 _ T4.heap _
    rw [e4]
    exact ⟨rfl, N0, rfl⟩
theorem d6_0 : decode prog_53_method_3_code 0 = .ok (.aload_n 0, 1) := by decide +kernel
theorem d6_1 : decode prog_53_method_3_code 1 = .ok (.iconst 1, 1) := by decide +kernel
theorem d6_2 : decode prog_53_method_3_code 2 = .ok (.invokevirtual 13, 3) := by decide +kernel
theorem d6_5 : decode prog_53_method_3_code 5 = .ok (.aload_n 0, 1) := by decide +kernel
theorem d6_6 : decode prog_53_method_3_code 6 = .ok (.getfield 7, 3) := by decide +kernel
theorem d6_9 : decode prog_53_method_3_code 9 = .ok (.aload_n 0, 1) := by decide +kernel
theorem d6_10 : decode prog_53_method_3_code 10 = .ok (.dup, 1) := by decide +kernel
theorem d6_11 : decode prog_53_method_3_code 11 = .ok (.getfield 17, 3) := by decide +kernel
theorem d6_14 : decode prog_53_method_3_code 14 = .ok (.dup_x1, 1) := by decide +kernel
theorem d6_15 : decode prog_53_method_3_code 15 = .ok (.iconst 1, 1) := by decide +kernel
theorem d6_16 : decode prog_53_method_3_code 16 = .ok (.iadd, 1) := by decide +kernel
theorem d6_17 : decode prog_53_method_3_code 17 = .ok (.putfield 17, 3) := by decide +kernel
theorem d6_20 : decode prog_53_method_3_code 20 = .ok (.iload_n 1, 1) := by decide +kernel
theorem d6_21 : decode prog_53_method_3_code 21 = .ok (.i2b, 1) := by decide +kernel
theorem d6_22 : decode prog_53_method_3_code 22 = .ok (.bastore, 1) := by decide +kernel
theorem d6_23 : decode prog_53_method_3_code 23 = .ok (.return_, 1) := by decide +kernel
theorem pn_6 : plainName "com/example/periodica/periodica/ledger/StoredFields$Out" = true := by first | (simp [plainName, overriddenIn]; done) | decide +kernel
theorem pd_6_5 : parseMethodDescriptor "(I)V" = some ⟨[.int], none⟩ := by decide +kernel
theorem ef_6 (m : MethodId) (x0 : Addr) (x1 : Int32) : entryFrame m #[(.ref x0), (.int x1)] 2 = mkF m 0 #[.val (.ref x0), .val (.int x1)] [] := by first | (simp [entryFrame, mkF, argsToLocals, Value.category]; done) | rfl
set_option maxRecDepth 65536 in
set_option maxHeartbeats 40000000 in
theorem rm6 (l : Launch) (Z : State) (a0 : Array Value) (hw : ∀ d ∈ tables_1, d.before a0 Z = true) (ws : List Jvm.Cond) (a1 : Addr) (p2 : Int32) (b : Addr) (k : ClassId) (n : Int32) (vs : List Value) (n' : Int32) (h0 : Heap) (n0 : Nat) (Z0 : n0 ≤ h0.size) (hO : OutS Z h0 a1 b k n vs) (hn' : n' = (n + (1 : Int32))) (g_a1 : n0 ≤ a1) (g_b : n0 ≤ b) (hroom : ¬ ((128 : Int32) < (n + (1 : Int32)))) (hin22 : ¬ n < 0 ∧ n < (128 : Int32)) (hl22 : (n).toNatClampNeg = vs.length + 0) :
    MetFree l (⟨"com/example/periodica/periodica/ledger/StoredFields$Out", "writeByte", "(I)V"⟩ : MethodName) (head1 (Jvm.Cond.code (⟨"com/example/periodica/periodica/ledger/StoredFields$Out", "writeByte", "(I)V"⟩ : MethodName) prog_53_method_3_code 2 none :: ws) ({ frames := 1, cells := 0, slots := 0, locals := 30 } : Room)) (fun a U => a = #[(.ref a1), (.int p2)] ∧ Z.Warmed39 U.vm ∧ U.heap = h0) (fun _ _ _ _ _ => True) (fun _ U o U' => ∃ v L, o = .returned v ∧ QO Z a1 b k n' (vs ++ [.int (by0 p2)]) h0 n0 v U'.heap L ∧ FrameEnd U o U' L ({ frames := 1, cells := 0, slots := 0, locals := 30 } : Room).cells ({ frames := 1, cells := 0, slots := 0, locals := 30 } : Room).slots) := by
  refine MetFree.of_bodySF (plainFor_of_name pn_6) hisR ?_
  intro p e s m args below meth c s₁ Bd hml0 hP hK
  obtain ⟨rfl, hZ, hh⟩ := hP
  have hx := Bd.exec
  have hby := Bd.bytes
  have hml : c.maxLocals = 2 := hml0
  have hown : s.vm.findClass "com/example/periodica/periodica/ledger/StoredFields$Out" = some m.cls := findClass_of_methodNamed Bd.named
  have hnm := (name_of_methodNamed Bd.named Bd.method).1
  have X0 : Stand p l e ({ frames := 1, cells := 0, slots := 0, locals := 30 } : Room) s m #[(.ref a1), (.int p2)] below meth c s₁ [] 0 0 := Stand.of_body Bd
  have e0 : s₁.heap = h0 := by rw [← hh, Bd.state]; rfl
  have N0 := Fr.nil n0
  have pre0 : ∀ t, Steps p.tables e below (s₁.setTop (mkF m 0 #[.val (.ref a1), .val (.int p2)] [])) t → Steps p.tables e below (s₁.setTop (entryFrame m #[(.ref a1), (.int p2)] 2)) t := fun t k => castTop (ef_6 m a1 p2) k
  obtain ⟨cq3, q3, q3'⟩ := hO.1.cell
  obtain ⟨_, _, ⟨T3, L3, k3, n3⟩, -, X3, ⟨Lc3, hQ3, l3, y3, z3⟩, st3⟩ := X0.privateBack hx (y := (⟨"com/example/periodica/periodica/ledger/StoredFields$Out", "room", "(I)V"⟩ : MethodName)) hown (mvT hZ (hw _ (List.mem_of_getElem? (i := 36) rfl))) (mvT hZ (hw _ (List.mem_of_getElem? (i := 37) rfl))) (mvT hZ (own_selects (hw _ (List.mem_of_getElem? (i := 38) rfl)) (hw _ (List.mem_of_getElem? (i := 37) rfl)) (hw _ (List.mem_of_getElem? (i := 1) rfl)) (by decide))) (Cond.privateMethod_at (mvP hZ (hw _ (List.mem_of_getElem? (i := 38) rfl)) (args := #[]))) (mvT hZ (hw _ (List.mem_of_getElem? (i := 39) rfl))) (by decide) (backOf (W := 0) (rm7 l Z a0 hw [] a1 (1 : Int32) b k n vs h0 n0 Z0 hO hroom) hZ (hw _ (List.mem_of_getElem? (i := 39) rfl)) (hw _ (List.mem_of_getElem? (i := 2) rfl)) (by decide) (by decide)) (g := (mkF m 2 #[.val (.ref a1), .val (.int p2)] [(.int (1 : Int32)), (.ref a1)])) rfl (by rw [hml]; rfl) (Steps.refl _) (a := a1) (by rw [e0]; exact q3) q3' (argsL := [(.int (1 : Int32))]) (rest := []) (lenOf pd_6_5 rfl) rfl (by show 2 * 0 + _ ≤ _; exact Nat.le_of_eq rfl) (hb hby d6_2) (fun _ _ => ⟨rfl, e0, (by decide : 0 + 0 ≤ _), (by decide : 0 + 0 ≤ _)⟩)
  dsimp only [Pt.U, Pt.locs, Pt.cells, Pt.slots] at X3 l3 y3 z3 st3 hQ3
  subst l3 y3 z3
  obtain ⟨rfl, N3q, e3⟩ := hQ3
  have N3 := Fr.app N0 N3q
  obtain ⟨T4, X4, e4, st4⟩ := getF X3 hx hZ hown (host := "") (Or.inl (hw _ (List.mem_of_getElem? (i := 10) rfl))) Via.refl e3 hO.2.1 (g := (mkF m 6 #[.val (.ref a1), .val (.int p2)] [(.ref a1)])) rfl rfl (hb hby d6_6)
  obtain ⟨T5, X5, e5, st5⟩ := getF X4 hx hZ hown (host := "") (Or.inl (hw _ (List.mem_of_getElem? (i := 17) rfl))) Via.refl e4 hO.2.2.1 (g := (mkF m 11 #[.val (.ref a1), .val (.int p2)] [(.ref a1), (.ref a1), (.ref b)])) rfl rfl (hb hby d6_11)
  obtain ⟨T6, h6, X6, e6, W6, st6⟩ := putF X5 hx hZ hown (host := "") (Or.inl (hw _ (List.mem_of_getElem? (i := 17) rfl))) Via.refl e5 hO.2.2.1 hO.1 (Or.inl (hw _ (List.mem_of_getElem? (i := 18) rfl))) (hw _ (List.mem_of_getElem? (i := 1) rfl)) (ty := .int) (by decide) rfl rfl (g := (mkF m 17 #[.val (.ref a1), .val (.int p2)] [(.int (n + (1 : Int32))), (.ref a1), (.int n), (.ref b)])) rfl rfl (hb hby d6_17)
  have Fw6 := hO.2.2.1.same W6
  have K6 : Keep h0 h6 [a1, b] := (Keep.refl h0 [a1, b]).wr W6 (Or.inl (List.mem_of_getElem? (i := 0) rfl))
  have N6 := Fr.snoc X6 N3 g_a1
  obtain ⟨T7, h7, X7, e7, W7, V7, st7⟩ := own_psB X6 hx hZ e6 (hO.2.2.2.1.other W6 (Ne.symm hO.2.2.2.2)) (j := n) (x := (p2.toInt8.toInt32)) hin22 (by simpa using hl22) (g := (mkF m 22 #[.val (.ref a1), .val (.int p2)] [(.int (p2.toInt8.toInt32)), (.int n), (.ref b)])) rfl rfl (hb hby d6_22)
  have K7 : Keep h0 h7 [a1, b] := K6.wr W7 (Or.inl (List.mem_of_getElem? (i := 1) rfl))
  have N7 := Fr.snoc X7 N6 g_b
  obtain ⟨fs, hr, hrun, hended, hW, hsame⟩ := X7.leave (v := none) (fun _ => rfl)
  refine ⟨_, _, pre0 _ ?_, hrun, hended, _, _, rfl, ?_, ⟨_, rfl⟩, hW, hsame.mono (by decide) (by decide)⟩
  · show Steps p.tables e below (s₁.setTop (mkF m 0 #[.val (.ref a1), .val (.int p2)] [])) _
    refine XS.aloadN X0.here hx rfl (hb hby d6_0) rfl rfl ?_
    show Steps p.tables e below (s₁.setTop (mkF m 1 #[.val (.ref a1), .val (.int p2)] [(.ref a1)])) _
    refine XS.iconst X0.here hx rfl (hb hby d6_1) ?_
    show Steps p.tables e below (s₁.setTop (mkF m 2 #[.val (.ref a1), .val (.int p2)] [(.int (1 : Int32)), (.ref a1)])) _
    refine st3.trans ?_
    show Steps p.tables e below (T3.setTop (mkF m 5 #[.val (.ref a1), .val (.int p2)] [])) _
    refine XS.aloadN X3.here hx rfl (hb hby d6_5) rfl rfl ?_
    show Steps p.tables e below (T3.setTop (mkF m 6 #[.val (.ref a1), .val (.int p2)] [(.ref a1)])) _
    refine st4 _ ?_
    show Steps p.tables e below (T4.setTop (mkF m 9 #[.val (.ref a1), .val (.int p2)] [(.ref b)])) _
    refine XS.aloadN X4.here hx rfl (hb hby d6_9) rfl rfl ?_
    show Steps p.tables e below (T4.setTop (mkF m 10 #[.val (.ref a1), .val (.int p2)] [(.ref a1), (.ref b)])) _
    refine XS.dup X4.here hx rfl (hb hby d6_10) rfl rfl ?_
    show Steps p.tables e below (T4.setTop (mkF m 11 #[.val (.ref a1), .val (.int p2)] [(.ref a1), (.ref a1), (.ref b)])) _
    refine st5 _ ?_
    show Steps p.tables e below (T5.setTop (mkF m 14 #[.val (.ref a1), .val (.int p2)] [(.int n), (.ref a1), (.ref b)])) _
    refine XS.dupX1 X5.here hx rfl (hb hby d6_14) rfl rfl rfl ?_
    show Steps p.tables e below (T5.setTop (mkF m 15 #[.val (.ref a1), .val (.int p2)] [(.int n), (.ref a1), (.int n), (.ref b)])) _
    refine XS.iconst X5.here hx rfl (hb hby d6_15) ?_
    show Steps p.tables e below (T5.setTop (mkF m 16 #[.val (.ref a1), .val (.int p2)] [(.int (1 : Int32)), (.int n), (.ref a1), (.int n), (.ref b)])) _
    refine XS.iadd X5.here hx rfl (hb hby d6_16) rfl ?_
    show Steps p.tables e below (T5.setTop (mkF m 17 #[.val (.ref a1), .val (.int p2)] [(.int (n + (1 : Int32))), (.ref a1), (.int n), (.ref b)])) _
    refine st6 _ ?_
    show Steps p.tables e below (T6.setTop (mkF m 20 #[.val (.ref a1), .val (.int p2)] [(.int n), (.ref b)])) _
    refine XS.iloadN X6.here hx rfl (hb hby d6_20) rfl ?_
    show Steps p.tables e below (T6.setTop (mkF m 21 #[.val (.ref a1), .val (.int p2)] [(.int p2), (.int n), (.ref b)])) _
    refine XS.i2b X6.here hx rfl (hb hby d6_21) rfl ?_
    show Steps p.tables e below (T6.setTop (mkF m 22 #[.val (.ref a1), .val (.int p2)] [(.int (p2.toInt8.toInt32)), (.int n), (.ref b)])) _
    refine st7 _ ?_
    show Steps p.tables e below (T7.setTop (mkF m 23 #[.val (.ref a1), .val (.int p2)] [])) _
    exact X7.returnOut hx Bd.returns (hb hby d6_23) hr
  · show QO Z a1 b k n' (vs ++ [.int (by0 p2)]) h0 n0 _ T7.heap _
    rw [e7]
    exact ⟨rfl, N7, K7, by have q : OutS _ _ _ _ _ _ _ := ⟨((hO.1.wr W6).wr W7), ((hO.2.1.other W6 (Or.inr (slot_ne (Or.inl (hw _ (List.mem_of_getElem? (i := 11) rfl))) (Or.inl (hw _ (List.mem_of_getElem? (i := 18) rfl))) (by decide) (t := (.array .byte)) (t' := .int) (by decide) (by decide)))).other W7 (Or.inl hO.2.2.2.2)), (Fw6.other W7 (Or.inl hO.2.2.2.2)), V7, hO.2.2.2.2⟩; rw [hn']; simpa [own_b2, by0, byK, b4] using q⟩
theorem d8_0 : decode prog_53_method_2_code 0 = .ok (.aload_n 0, 1) := by decide +kernel
theorem d8_1 : decode prog_53_method_2_code 1 = .ok (.iconst 4, 1) := by decide +kernel
theorem d8_2 : decode prog_53_method_2_code 2 = .ok (.invokevirtual 13, 3) := by decide +kernel
theorem d8_5 : decode prog_53_method_2_code 5 = .ok (.aload_n 0, 1) := by decide +kernel
theorem d8_6 : decode prog_53_method_2_code 6 = .ok (.getfield 7, 3) := by decide +kernel
theorem d8_9 : decode prog_53_method_2_code 9 = .ok (.aload_n 0, 1) := by decide +kernel
theorem d8_10 : decode prog_53_method_2_code 10 = .ok (.dup, 1) := by decide +kernel
theorem d8_11 : decode prog_53_method_2_code 11 = .ok (.getfield 17, 3) := by decide +kernel
theorem d8_14 : decode prog_53_method_2_code 14 = .ok (.dup_x1, 1) := by decide +kernel
theorem d8_15 : decode prog_53_method_2_code 15 = .ok (.iconst 1, 1) := by decide +kernel
theorem d8_16 : decode prog_53_method_2_code 16 = .ok (.iadd, 1) := by decide +kernel
theorem d8_17 : decode prog_53_method_2_code 17 = .ok (.putfield 17, 3) := by decide +kernel
theorem d8_20 : decode prog_53_method_2_code 20 = .ok (.iload_n 1, 1) := by decide +kernel
theorem d8_21 : decode prog_53_method_2_code 21 = .ok (.bipush 24, 2) := by decide +kernel
theorem d8_23 : decode prog_53_method_2_code 23 = .ok (.iushr, 1) := by decide +kernel
theorem d8_24 : decode prog_53_method_2_code 24 = .ok (.i2b, 1) := by decide +kernel
theorem d8_25 : decode prog_53_method_2_code 25 = .ok (.bastore, 1) := by decide +kernel
theorem d8_26 : decode prog_53_method_2_code 26 = .ok (.aload_n 0, 1) := by decide +kernel
theorem d8_27 : decode prog_53_method_2_code 27 = .ok (.getfield 7, 3) := by decide +kernel
theorem d8_30 : decode prog_53_method_2_code 30 = .ok (.aload_n 0, 1) := by decide +kernel
theorem d8_31 : decode prog_53_method_2_code 31 = .ok (.dup, 1) := by decide +kernel
theorem d8_32 : decode prog_53_method_2_code 32 = .ok (.getfield 17, 3) := by decide +kernel
theorem d8_35 : decode prog_53_method_2_code 35 = .ok (.dup_x1, 1) := by decide +kernel
theorem d8_36 : decode prog_53_method_2_code 36 = .ok (.iconst 1, 1) := by decide +kernel
theorem d8_37 : decode prog_53_method_2_code 37 = .ok (.iadd, 1) := by decide +kernel
theorem d8_38 : decode prog_53_method_2_code 38 = .ok (.putfield 17, 3) := by decide +kernel
theorem d8_41 : decode prog_53_method_2_code 41 = .ok (.iload_n 1, 1) := by decide +kernel
theorem d8_42 : decode prog_53_method_2_code 42 = .ok (.bipush 16, 2) := by decide +kernel
theorem d8_44 : decode prog_53_method_2_code 44 = .ok (.iushr, 1) := by decide +kernel
theorem d8_45 : decode prog_53_method_2_code 45 = .ok (.i2b, 1) := by decide +kernel
theorem d8_46 : decode prog_53_method_2_code 46 = .ok (.bastore, 1) := by decide +kernel
theorem d8_47 : decode prog_53_method_2_code 47 = .ok (.aload_n 0, 1) := by decide +kernel
theorem d8_48 : decode prog_53_method_2_code 48 = .ok (.getfield 7, 3) := by decide +kernel
theorem d8_51 : decode prog_53_method_2_code 51 = .ok (.aload_n 0, 1) := by decide +kernel
theorem d8_52 : decode prog_53_method_2_code 52 = .ok (.dup, 1) := by decide +kernel
theorem d8_53 : decode prog_53_method_2_code 53 = .ok (.getfield 17, 3) := by decide +kernel
theorem d8_56 : decode prog_53_method_2_code 56 = .ok (.dup_x1, 1) := by decide +kernel
theorem d8_57 : decode prog_53_method_2_code 57 = .ok (.iconst 1, 1) := by decide +kernel
theorem d8_58 : decode prog_53_method_2_code 58 = .ok (.iadd, 1) := by decide +kernel
theorem d8_59 : decode prog_53_method_2_code 59 = .ok (.putfield 17, 3) := by decide +kernel
theorem d8_62 : decode prog_53_method_2_code 62 = .ok (.iload_n 1, 1) := by decide +kernel
theorem d8_63 : decode prog_53_method_2_code 63 = .ok (.bipush 8, 2) := by decide +kernel
theorem d8_65 : decode prog_53_method_2_code 65 = .ok (.iushr, 1) := by decide +kernel
theorem d8_66 : decode prog_53_method_2_code 66 = .ok (.i2b, 1) := by decide +kernel
theorem d8_67 : decode prog_53_method_2_code 67 = .ok (.bastore, 1) := by decide +kernel
theorem d8_68 : decode prog_53_method_2_code 68 = .ok (.aload_n 0, 1) := by decide +kernel
theorem d8_69 : decode prog_53_method_2_code 69 = .ok (.getfield 7, 3) := by decide +kernel
theorem d8_72 : decode prog_53_method_2_code 72 = .ok (.aload_n 0, 1) := by decide +kernel
theorem d8_73 : decode prog_53_method_2_code 73 = .ok (.dup, 1) := by decide +kernel
theorem d8_74 : decode prog_53_method_2_code 74 = .ok (.getfield 17, 3) := by decide +kernel
theorem d8_77 : decode prog_53_method_2_code 77 = .ok (.dup_x1, 1) := by decide +kernel
theorem d8_78 : decode prog_53_method_2_code 78 = .ok (.iconst 1, 1) := by decide +kernel
theorem d8_79 : decode prog_53_method_2_code 79 = .ok (.iadd, 1) := by decide +kernel
theorem d8_80 : decode prog_53_method_2_code 80 = .ok (.putfield 17, 3) := by decide +kernel
theorem d8_83 : decode prog_53_method_2_code 83 = .ok (.iload_n 1, 1) := by decide +kernel
theorem d8_84 : decode prog_53_method_2_code 84 = .ok (.i2b, 1) := by decide +kernel
theorem d8_85 : decode prog_53_method_2_code 85 = .ok (.bastore, 1) := by decide +kernel
theorem d8_86 : decode prog_53_method_2_code 86 = .ok (.return_, 1) := by decide +kernel
theorem pn_8 : plainName "com/example/periodica/periodica/ledger/StoredFields$Out" = true := by first | (simp [plainName, overriddenIn]; done) | decide +kernel
theorem pd_8_5 : parseMethodDescriptor "(I)V" = some ⟨[.int], none⟩ := by decide +kernel
theorem ef_8 (m : MethodId) (x0 : Addr) (x1 : Int32) : entryFrame m #[(.ref x0), (.int x1)] 2 = mkF m 0 #[.val (.ref x0), .val (.int x1)] [] := by first | (simp [entryFrame, mkF, argsToLocals, Value.category]; done) | rfl
set_option maxRecDepth 65536 in
set_option maxHeartbeats 40000000 in
theorem rm8 (l : Launch) (Z : State) (a0 : Array Value) (hw : ∀ d ∈ tables_1, d.before a0 Z = true) (ws : List Jvm.Cond) (a1 : Addr) (p2 : Int32) (b : Addr) (k : ClassId) (n : Int32) (vs : List Value) (n' : Int32) (h0 : Heap) (n0 : Nat) (Z0 : n0 ≤ h0.size) (hO : OutS Z h0 a1 b k n vs) (hn' : n' = ((((n + (1 : Int32)) + (1 : Int32)) + (1 : Int32)) + (1 : Int32))) (g_a1 : n0 ≤ a1) (g_b : n0 ≤ b) (hroom : ¬ ((128 : Int32) < (n + (4 : Int32)))) (hin25 : ¬ n < 0 ∧ n < (128 : Int32)) (hl25 : (n).toNatClampNeg = vs.length + 0) (hin46 : ¬ (n + (1 : Int32)) < 0 ∧ (n + (1 : Int32)) < (128 : Int32)) (hl46 : ((n + (1 : Int32))).toNatClampNeg = vs.length + 1) (hin67 : ¬ ((n + (1 : Int32)) + (1 : Int32)) < 0 ∧ ((n + (1 : Int32)) + (1 : Int32)) < (128 : Int32)) (hl67 : (((n + (1 : Int32)) + (1 : Int32))).toNatClampNeg = vs.length + 2) (hin85 : ¬ (((n + (1 : Int32)) + (1 : Int32)) + (1 : Int32)) < 0 ∧ (((n + (1 : Int32)) + (1 : Int32)) + (1 : Int32)) < (128 : Int32)) (hl85 : ((((n + (1 : Int32)) + (1 : Int32)) + (1 : Int32))).toNatClampNeg = vs.length + 3) :
    MetFree l (⟨"com/example/periodica/periodica/ledger/StoredFields$Out", "writeInt", "(I)V"⟩ : MethodName) (head1 (Jvm.Cond.code (⟨"com/example/periodica/periodica/ledger/StoredFields$Out", "writeInt", "(I)V"⟩ : MethodName) prog_53_method_2_code 2 none :: ws) ({ frames := 1, cells := 0, slots := 0, locals := 30 } : Room)) (fun a U => a = #[(.ref a1), (.int p2)] ∧ Z.Warmed39 U.vm ∧ U.heap = h0) (fun _ _ _ _ _ => True) (fun _ U o U' => ∃ v L, o = .returned v ∧ QO Z a1 b k n' (vs ++ b4 p2) h0 n0 v U'.heap L ∧ FrameEnd U o U' L ({ frames := 1, cells := 0, slots := 0, locals := 30 } : Room).cells ({ frames := 1, cells := 0, slots := 0, locals := 30 } : Room).slots) := by
  refine MetFree.of_bodySF (plainFor_of_name pn_8) hisR ?_
  intro p e s m args below meth c s₁ Bd hml0 hP hK
  obtain ⟨rfl, hZ, hh⟩ := hP
  have hx := Bd.exec
  have hby := Bd.bytes
  have hml : c.maxLocals = 2 := hml0
  have hown : s.vm.findClass "com/example/periodica/periodica/ledger/StoredFields$Out" = some m.cls := findClass_of_methodNamed Bd.named
  have hnm := (name_of_methodNamed Bd.named Bd.method).1
  have X0 : Stand p l e ({ frames := 1, cells := 0, slots := 0, locals := 30 } : Room) s m #[(.ref a1), (.int p2)] below meth c s₁ [] 0 0 := Stand.of_body Bd
  have e0 : s₁.heap = h0 := by rw [← hh, Bd.state]; rfl
  have N0 := Fr.nil n0
  have pre0 : ∀ t, Steps p.tables e below (s₁.setTop (mkF m 0 #[.val (.ref a1), .val (.int p2)] [])) t → Steps p.tables e below (s₁.setTop (entryFrame m #[(.ref a1), (.int p2)] 2)) t := fun t k => castTop (ef_8 m a1 p2) k
  obtain ⟨cq3, q3, q3'⟩ := hO.1.cell
  obtain ⟨_, _, ⟨T3, L3, k3, n3⟩, -, X3, ⟨Lc3, hQ3, l3, y3, z3⟩, st3⟩ := X0.privateBack hx (y := (⟨"com/example/periodica/periodica/ledger/StoredFields$Out", "room", "(I)V"⟩ : MethodName)) hown (mvT hZ (hw _ (List.mem_of_getElem? (i := 36) rfl))) (mvT hZ (hw _ (List.mem_of_getElem? (i := 37) rfl))) (mvT hZ (own_selects (hw _ (List.mem_of_getElem? (i := 38) rfl)) (hw _ (List.mem_of_getElem? (i := 37) rfl)) (hw _ (List.mem_of_getElem? (i := 1) rfl)) (by decide))) (Cond.privateMethod_at (mvP hZ (hw _ (List.mem_of_getElem? (i := 38) rfl)) (args := #[]))) (mvT hZ (hw _ (List.mem_of_getElem? (i := 39) rfl))) (by decide) (backOf (W := 0) (rm7 l Z a0 hw [] a1 (4 : Int32) b k n vs h0 n0 Z0 hO hroom) hZ (hw _ (List.mem_of_getElem? (i := 39) rfl)) (hw _ (List.mem_of_getElem? (i := 2) rfl)) (by decide) (by decide)) (g := (mkF m 2 #[.val (.ref a1), .val (.int p2)] [(.int (4 : Int32)), (.ref a1)])) rfl (by rw [hml]; rfl) (Steps.refl _) (a := a1) (by rw [e0]; exact q3) q3' (argsL := [(.int (4 : Int32))]) (rest := []) (lenOf pd_8_5 rfl) rfl (by show 2 * 0 + _ ≤ _; exact Nat.le_of_eq rfl) (hb hby d8_2) (fun _ _ => ⟨rfl, e0, (by decide : 0 + 0 ≤ _), (by decide : 0 + 0 ≤ _)⟩)
  dsimp only [Pt.U, Pt.locs, Pt.cells, Pt.slots] at X3 l3 y3 z3 st3 hQ3
  subst l3 y3 z3
  obtain ⟨rfl, N3q, e3⟩ := hQ3
  have N3 := Fr.app N0 N3q
  obtain ⟨T4, X4, e4, st4⟩ := getF X3 hx hZ hown (host := "") (Or.inl (hw _ (List.mem_of_getElem? (i := 10) rfl))) Via.refl e3 hO.2.1 (g := (mkF m 6 #[.val (.ref a1), .val (.int p2)] [(.ref a1)])) rfl rfl (hb hby d8_6)
  obtain ⟨T5, X5, e5, st5⟩ := getF X4 hx hZ hown (host := "") (Or.inl (hw _ (List.mem_of_getElem? (i := 17) rfl))) Via.refl e4 hO.2.2.1 (g := (mkF m 11 #[.val (.ref a1), .val (.int p2)] [(.ref a1), (.ref a1), (.ref b)])) rfl rfl (hb hby d8_11)
  obtain ⟨T6, h6, X6, e6, W6, st6⟩ := putF X5 hx hZ hown (host := "") (Or.inl (hw _ (List.mem_of_getElem? (i := 17) rfl))) Via.refl e5 hO.2.2.1 hO.1 (Or.inl (hw _ (List.mem_of_getElem? (i := 18) rfl))) (hw _ (List.mem_of_getElem? (i := 1) rfl)) (ty := .int) (by decide) rfl rfl (g := (mkF m 17 #[.val (.ref a1), .val (.int p2)] [(.int (n + (1 : Int32))), (.ref a1), (.int n), (.ref b)])) rfl rfl (hb hby d8_17)
  have Fw6 := hO.2.2.1.same W6
  have K6 : Keep h0 h6 [a1, b] := (Keep.refl h0 [a1, b]).wr W6 (Or.inl (List.mem_of_getElem? (i := 0) rfl))
  have N6 := Fr.snoc X6 N3 g_a1
  obtain ⟨T7, h7, X7, e7, W7, V7, st7⟩ := own_psB X6 hx hZ e6 (hO.2.2.2.1.other W6 (Ne.symm hO.2.2.2.2)) (j := n) (x := (((p2.toUInt32 >>> ((24 : Int32) &&& 31).toUInt32).toInt32).toInt8.toInt32)) hin25 (by simpa using hl25) (g := (mkF m 25 #[.val (.ref a1), .val (.int p2)] [(.int (((p2.toUInt32 >>> ((24 : Int32) &&& 31).toUInt32).toInt32).toInt8.toInt32)), (.int n), (.ref b)])) rfl rfl (hb hby d8_25)
  have K7 : Keep h0 h7 [a1, b] := K6.wr W7 (Or.inl (List.mem_of_getElem? (i := 1) rfl))
  have N7 := Fr.snoc X7 N6 g_b
  obtain ⟨T8, X8, e8, st8⟩ := getF X7 hx hZ hown (host := "") (Or.inl (hw _ (List.mem_of_getElem? (i := 10) rfl))) Via.refl e7 ((hO.2.1.other W6 (Or.inr (slot_ne (Or.inl (hw _ (List.mem_of_getElem? (i := 11) rfl))) (Or.inl (hw _ (List.mem_of_getElem? (i := 18) rfl))) (by decide) (t := (.array .byte)) (t' := .int) (by decide) (by decide)))).other W7 (Or.inl hO.2.2.2.2)) (g := (mkF m 27 #[.val (.ref a1), .val (.int p2)] [(.ref a1)])) rfl rfl (hb hby d8_27)
  obtain ⟨T9, X9, e9, st9⟩ := getF X8 hx hZ hown (host := "") (Or.inl (hw _ (List.mem_of_getElem? (i := 17) rfl))) Via.refl e8 (Fw6.other W7 (Or.inl hO.2.2.2.2)) (g := (mkF m 32 #[.val (.ref a1), .val (.int p2)] [(.ref a1), (.ref a1), (.ref b)])) rfl rfl (hb hby d8_32)
  obtain ⟨T10, h10, X10, e10, W10, st10⟩ := putF X9 hx hZ hown (host := "") (Or.inl (hw _ (List.mem_of_getElem? (i := 17) rfl))) Via.refl e9 (Fw6.other W7 (Or.inl hO.2.2.2.2)) ((hO.1.wr W6).wr W7) (Or.inl (hw _ (List.mem_of_getElem? (i := 18) rfl))) (hw _ (List.mem_of_getElem? (i := 1) rfl)) (ty := .int) (by decide) rfl rfl (g := (mkF m 38 #[.val (.ref a1), .val (.int p2)] [(.int ((n + (1 : Int32)) + (1 : Int32))), (.ref a1), (.int (n + (1 : Int32))), (.ref b)])) rfl rfl (hb hby d8_38)
  have Fw10 := (Fw6.other W7 (Or.inl hO.2.2.2.2)).same W10
  have K10 : Keep h0 h10 [a1, b] := K7.wr W10 (Or.inl (List.mem_of_getElem? (i := 0) rfl))
  have N10 := Fr.snoc X10 N7 g_a1
  obtain ⟨T11, h11, X11, e11, W11, V11, st11⟩ := own_psB X10 hx hZ e10 (V7.other W10 (Ne.symm hO.2.2.2.2)) (j := (n + (1 : Int32))) (x := (((p2.toUInt32 >>> ((16 : Int32) &&& 31).toUInt32).toInt32).toInt8.toInt32)) hin46 (by simpa using hl46) (g := (mkF m 46 #[.val (.ref a1), .val (.int p2)] [(.int (((p2.toUInt32 >>> ((16 : Int32) &&& 31).toUInt32).toInt32).toInt8.toInt32)), (.int (n + (1 : Int32))), (.ref b)])) rfl rfl (hb hby d8_46)
  have K11 : Keep h0 h11 [a1, b] := K10.wr W11 (Or.inl (List.mem_of_getElem? (i := 1) rfl))
  have N11 := Fr.snoc X11 N10 g_b
  obtain ⟨T12, X12, e12, st12⟩ := getF X11 hx hZ hown (host := "") (Or.inl (hw _ (List.mem_of_getElem? (i := 10) rfl))) Via.refl e11 ((((hO.2.1.other W6 (Or.inr (slot_ne (Or.inl (hw _ (List.mem_of_getElem? (i := 11) rfl))) (Or.inl (hw _ (List.mem_of_getElem? (i := 18) rfl))) (by decide) (t := (.array .byte)) (t' := .int) (by decide) (by decide)))).other W7 (Or.inl hO.2.2.2.2)).other W10 (Or.inr (slot_ne (Or.inl (hw _ (List.mem_of_getElem? (i := 11) rfl))) (Or.inl (hw _ (List.mem_of_getElem? (i := 18) rfl))) (by decide) (t := (.array .byte)) (t' := .int) (by decide) (by decide)))).other W11 (Or.inl hO.2.2.2.2)) (g := (mkF m 48 #[.val (.ref a1), .val (.int p2)] [(.ref a1)])) rfl rfl (hb hby d8_48)
  obtain ⟨T13, X13, e13, st13⟩ := getF X12 hx hZ hown (host := "") (Or.inl (hw _ (List.mem_of_getElem? (i := 17) rfl))) Via.refl e12 (Fw10.other W11 (Or.inl hO.2.2.2.2)) (g := (mkF m 53 #[.val (.ref a1), .val (.int p2)] [(.ref a1), (.ref a1), (.ref b)])) rfl rfl (hb hby d8_53)
  obtain ⟨T14, h14, X14, e14, W14, st14⟩ := putF X13 hx hZ hown (host := "") (Or.inl (hw _ (List.mem_of_getElem? (i := 17) rfl))) Via.refl e13 (Fw10.other W11 (Or.inl hO.2.2.2.2)) ((((hO.1.wr W6).wr W7).wr W10).wr W11) (Or.inl (hw _ (List.mem_of_getElem? (i := 18) rfl))) (hw _ (List.mem_of_getElem? (i := 1) rfl)) (ty := .int) (by decide) rfl rfl (g := (mkF m 59 #[.val (.ref a1), .val (.int p2)] [(.int (((n + (1 : Int32)) + (1 : Int32)) + (1 : Int32))), (.ref a1), (.int ((n + (1 : Int32)) + (1 : Int32))), (.ref b)])) rfl rfl (hb hby d8_59)
  have Fw14 := (Fw10.other W11 (Or.inl hO.2.2.2.2)).same W14
  have K14 : Keep h0 h14 [a1, b] := K11.wr W14 (Or.inl (List.mem_of_getElem? (i := 0) rfl))
  have N14 := Fr.snoc X14 N11 g_a1
  obtain ⟨T15, h15, X15, e15, W15, V15, st15⟩ := own_psB X14 hx hZ e14 (V11.other W14 (Ne.symm hO.2.2.2.2)) (j := ((n + (1 : Int32)) + (1 : Int32))) (x := (((p2.toUInt32 >>> ((8 : Int32) &&& 31).toUInt32).toInt32).toInt8.toInt32)) hin67 (by simpa using hl67) (g := (mkF m 67 #[.val (.ref a1), .val (.int p2)] [(.int (((p2.toUInt32 >>> ((8 : Int32) &&& 31).toUInt32).toInt32).toInt8.toInt32)), (.int ((n + (1 : Int32)) + (1 : Int32))), (.ref b)])) rfl rfl (hb hby d8_67)
  have K15 : Keep h0 h15 [a1, b] := K14.wr W15 (Or.inl (List.mem_of_getElem? (i := 1) rfl))
  have N15 := Fr.snoc X15 N14 g_b
  obtain ⟨T16, X16, e16, st16⟩ := getF X15 hx hZ hown (host := "") (Or.inl (hw _ (List.mem_of_getElem? (i := 10) rfl))) Via.refl e15 ((((((hO.2.1.other W6 (Or.inr (slot_ne (Or.inl (hw _ (List.mem_of_getElem? (i := 11) rfl))) (Or.inl (hw _ (List.mem_of_getElem? (i := 18) rfl))) (by decide) (t := (.array .byte)) (t' := .int) (by decide) (by decide)))).other W7 (Or.inl hO.2.2.2.2)).other W10 (Or.inr (slot_ne (Or.inl (hw _ (List.mem_of_getElem? (i := 11) rfl))) (Or.inl (hw _ (List.mem_of_getElem? (i := 18) rfl))) (by decide) (t := (.array .byte)) (t' := .int) (by decide) (by decide)))).other W11 (Or.inl hO.2.2.2.2)).other W14 (Or.inr (slot_ne (Or.inl (hw _ (List.mem_of_getElem? (i := 11) rfl))) (Or.inl (hw _ (List.mem_of_getElem? (i := 18) rfl))) (by decide) (t := (.array .byte)) (t' := .int) (by decide) (by decide)))).other W15 (Or.inl hO.2.2.2.2)) (g := (mkF m 69 #[.val (.ref a1), .val (.int p2)] [(.ref a1)])) rfl rfl (hb hby d8_69)
  obtain ⟨T17, X17, e17, st17⟩ := getF X16 hx hZ hown (host := "") (Or.inl (hw _ (List.mem_of_getElem? (i := 17) rfl))) Via.refl e16 (Fw14.other W15 (Or.inl hO.2.2.2.2)) (g := (mkF m 74 #[.val (.ref a1), .val (.int p2)] [(.ref a1), (.ref a1), (.ref b)])) rfl rfl (hb hby d8_74)
  obtain ⟨T18, h18, X18, e18, W18, st18⟩ := putF X17 hx hZ hown (host := "") (Or.inl (hw _ (List.mem_of_getElem? (i := 17) rfl))) Via.refl e17 (Fw14.other W15 (Or.inl hO.2.2.2.2)) ((((((hO.1.wr W6).wr W7).wr W10).wr W11).wr W14).wr W15) (Or.inl (hw _ (List.mem_of_getElem? (i := 18) rfl))) (hw _ (List.mem_of_getElem? (i := 1) rfl)) (ty := .int) (by decide) rfl rfl (g := (mkF m 80 #[.val (.ref a1), .val (.int p2)] [(.int ((((n + (1 : Int32)) + (1 : Int32)) + (1 : Int32)) + (1 : Int32))), (.ref a1), (.int (((n + (1 : Int32)) + (1 : Int32)) + (1 : Int32))), (.ref b)])) rfl rfl (hb hby d8_80)
  have Fw18 := (Fw14.other W15 (Or.inl hO.2.2.2.2)).same W18
  have K18 : Keep h0 h18 [a1, b] := K15.wr W18 (Or.inl (List.mem_of_getElem? (i := 0) rfl))
  have N18 := Fr.snoc X18 N15 g_a1
  obtain ⟨T19, h19, X19, e19, W19, V19, st19⟩ := own_psB X18 hx hZ e18 (V15.other W18 (Ne.symm hO.2.2.2.2)) (j := (((n + (1 : Int32)) + (1 : Int32)) + (1 : Int32))) (x := (p2.toInt8.toInt32)) hin85 (by simpa using hl85) (g := (mkF m 85 #[.val (.ref a1), .val (.int p2)] [(.int (p2.toInt8.toInt32)), (.int (((n + (1 : Int32)) + (1 : Int32)) + (1 : Int32))), (.ref b)])) rfl rfl (hb hby d8_85)
  have K19 : Keep h0 h19 [a1, b] := K18.wr W19 (Or.inl (List.mem_of_getElem? (i := 1) rfl))
  have N19 := Fr.snoc X19 N18 g_b
  obtain ⟨fs, hr, hrun, hended, hW, hsame⟩ := X19.leave (v := none) (fun _ => rfl)
  refine ⟨_, _, pre0 _ ?_, hrun, hended, _, _, rfl, ?_, ⟨_, rfl⟩, hW, hsame.mono (by decide) (by decide)⟩
  · show Steps p.tables e below (s₁.setTop (mkF m 0 #[.val (.ref a1), .val (.int p2)] [])) _
    refine XS.aloadN X0.here hx rfl (hb hby d8_0) rfl rfl ?_
    show Steps p.tables e below (s₁.setTop (mkF m 1 #[.val (.ref a1), .val (.int p2)] [(.ref a1)])) _
    refine XS.iconst X0.here hx rfl (hb hby d8_1) ?_
    show Steps p.tables e below (s₁.setTop (mkF m 2 #[.val (.ref a1), .val (.int p2)] [(.int (4 : Int32)), (.ref a1)])) _
    refine st3.trans ?_
    show Steps p.tables e below (T3.setTop (mkF m 5 #[.val (.ref a1), .val (.int p2)] [])) _
    refine XS.aloadN X3.here hx rfl (hb hby d8_5) rfl rfl ?_
    show Steps p.tables e below (T3.setTop (mkF m 6 #[.val (.ref a1), .val (.int p2)] [(.ref a1)])) _
    refine st4 _ ?_
    show Steps p.tables e below (T4.setTop (mkF m 9 #[.val (.ref a1), .val (.int p2)] [(.ref b)])) _
    refine XS.aloadN X4.here hx rfl (hb hby d8_9) rfl rfl ?_
    show Steps p.tables e below (T4.setTop (mkF m 10 #[.val (.ref a1), .val (.int p2)] [(.ref a1), (.ref b)])) _
    refine XS.dup X4.here hx rfl (hb hby d8_10) rfl rfl ?_
    show Steps p.tables e below (T4.setTop (mkF m 11 #[.val (.ref a1), .val (.int p2)] [(.ref a1), (.ref a1), (.ref b)])) _
    refine st5 _ ?_
    show Steps p.tables e below (T5.setTop (mkF m 14 #[.val (.ref a1), .val (.int p2)] [(.int n), (.ref a1), (.ref b)])) _
    refine XS.dupX1 X5.here hx rfl (hb hby d8_14) rfl rfl rfl ?_
    show Steps p.tables e below (T5.setTop (mkF m 15 #[.val (.ref a1), .val (.int p2)] [(.int n), (.ref a1), (.int n), (.ref b)])) _
    refine XS.iconst X5.here hx rfl (hb hby d8_15) ?_
    show Steps p.tables e below (T5.setTop (mkF m 16 #[.val (.ref a1), .val (.int p2)] [(.int (1 : Int32)), (.int n), (.ref a1), (.int n), (.ref b)])) _
    refine XS.iadd X5.here hx rfl (hb hby d8_16) rfl ?_
    show Steps p.tables e below (T5.setTop (mkF m 17 #[.val (.ref a1), .val (.int p2)] [(.int (n + (1 : Int32))), (.ref a1), (.int n), (.ref b)])) _
    refine st6 _ ?_
    show Steps p.tables e below (T6.setTop (mkF m 20 #[.val (.ref a1), .val (.int p2)] [(.int n), (.ref b)])) _
    refine XS.iloadN X6.here hx rfl (hb hby d8_20) rfl ?_
    show Steps p.tables e below (T6.setTop (mkF m 21 #[.val (.ref a1), .val (.int p2)] [(.int p2), (.int n), (.ref b)])) _
    refine XS.bipush X6.here hx rfl (hb hby d8_21) ?_
    show Steps p.tables e below (T6.setTop (mkF m 23 #[.val (.ref a1), .val (.int p2)] [(.int (24 : Int32)), (.int p2), (.int n), (.ref b)])) _
    refine XS.iushr X6.here hx rfl (hb hby d8_23) rfl ?_
    show Steps p.tables e below (T6.setTop (mkF m 24 #[.val (.ref a1), .val (.int p2)] [(.int ((p2.toUInt32 >>> ((24 : Int32) &&& 31).toUInt32).toInt32)), (.int n), (.ref b)])) _
    refine XS.i2b X6.here hx rfl (hb hby d8_24) rfl ?_
    show Steps p.tables e below (T6.setTop (mkF m 25 #[.val (.ref a1), .val (.int p2)] [(.int (((p2.toUInt32 >>> ((24 : Int32) &&& 31).toUInt32).toInt32).toInt8.toInt32)), (.int n), (.ref b)])) _
    refine st7 _ ?_
    show Steps p.tables e below (T7.setTop (mkF m 26 #[.val (.ref a1), .val (.int p2)] [])) _
    refine XS.aloadN X7.here hx rfl (hb hby d8_26) rfl rfl ?_
    show Steps p.tables e below (T7.setTop (mkF m 27 #[.val (.ref a1), .val (.int p2)] [(.ref a1)])) _
    refine st8 _ ?_
    show Steps p.tables e below (T8.setTop (mkF m 30 #[.val (.ref a1), .val (.int p2)] [(.ref b)])) _
    refine XS.aloadN X8.here hx rfl (hb hby d8_30) rfl rfl ?_
    show Steps p.tables e below (T8.setTop (mkF m 31 #[.val (.ref a1), .val (.int p2)] [(.ref a1), (.ref b)])) _
    refine XS.dup X8.here hx rfl (hb hby d8_31) rfl rfl ?_
    show Steps p.tables e below (T8.setTop (mkF m 32 #[.val (.ref a1), .val (.int p2)] [(.ref a1), (.ref a1), (.ref b)])) _
    refine st9 _ ?_
    show Steps p.tables e below (T9.setTop (mkF m 35 #[.val (.ref a1), .val (.int p2)] [(.int (n + (1 : Int32))), (.ref a1), (.ref b)])) _
    refine XS.dupX1 X9.here hx rfl (hb hby d8_35) rfl rfl rfl ?_
    show Steps p.tables e below (T9.setTop (mkF m 36 #[.val (.ref a1), .val (.int p2)] [(.int (n + (1 : Int32))), (.ref a1), (.int (n + (1 : Int32))), (.ref b)])) _
    refine XS.iconst X9.here hx rfl (hb hby d8_36) ?_
    show Steps p.tables e below (T9.setTop (mkF m 37 #[.val (.ref a1), .val (.int p2)] [(.int (1 : Int32)), (.int (n + (1 : Int32))), (.ref a1), (.int (n + (1 : Int32))), (.ref b)])) _
    refine XS.iadd X9.here hx rfl (hb hby d8_37) rfl ?_
    show Steps p.tables e below (T9.setTop (mkF m 38 #[.val (.ref a1), .val (.int p2)] [(.int ((n + (1 : Int32)) + (1 : Int32))), (.ref a1), (.int (n + (1 : Int32))), (.ref b)])) _
    refine st10 _ ?_
    show Steps p.tables e below (T10.setTop (mkF m 41 #[.val (.ref a1), .val (.int p2)] [(.int (n + (1 : Int32))), (.ref b)])) _
    refine XS.iloadN X10.here hx rfl (hb hby d8_41) rfl ?_
    show Steps p.tables e below (T10.setTop (mkF m 42 #[.val (.ref a1), .val (.int p2)] [(.int p2), (.int (n + (1 : Int32))), (.ref b)])) _
    refine XS.bipush X10.here hx rfl (hb hby d8_42) ?_
    show Steps p.tables e below (T10.setTop (mkF m 44 #[.val (.ref a1), .val (.int p2)] [(.int (16 : Int32)), (.int p2), (.int (n + (1 : Int32))), (.ref b)])) _
    refine XS.iushr X10.here hx rfl (hb hby d8_44) rfl ?_
    show Steps p.tables e below (T10.setTop (mkF m 45 #[.val (.ref a1), .val (.int p2)] [(.int ((p2.toUInt32 >>> ((16 : Int32) &&& 31).toUInt32).toInt32)), (.int (n + (1 : Int32))), (.ref b)])) _
    refine XS.i2b X10.here hx rfl (hb hby d8_45) rfl ?_
    show Steps p.tables e below (T10.setTop (mkF m 46 #[.val (.ref a1), .val (.int p2)] [(.int (((p2.toUInt32 >>> ((16 : Int32) &&& 31).toUInt32).toInt32).toInt8.toInt32)), (.int (n + (1 : Int32))), (.ref b)])) _
    refine st11 _ ?_
    show Steps p.tables e below (T11.setTop (mkF m 47 #[.val (.ref a1), .val (.int p2)] [])) _
    refine XS.aloadN X11.here hx rfl (hb hby d8_47) rfl rfl ?_
    show Steps p.tables e below (T11.setTop (mkF m 48 #[.val (.ref a1), .val (.int p2)] [(.ref a1)])) _
    refine st12 _ ?_
    show Steps p.tables e below (T12.setTop (mkF m 51 #[.val (.ref a1), .val (.int p2)] [(.ref b)])) _
    refine XS.aloadN X12.here hx rfl (hb hby d8_51) rfl rfl ?_
    show Steps p.tables e below (T12.setTop (mkF m 52 #[.val (.ref a1), .val (.int p2)] [(.ref a1), (.ref b)])) _
    refine XS.dup X12.here hx rfl (hb hby d8_52) rfl rfl ?_
    show Steps p.tables e below (T12.setTop (mkF m 53 #[.val (.ref a1), .val (.int p2)] [(.ref a1), (.ref a1), (.ref b)])) _
    refine st13 _ ?_
    show Steps p.tables e below (T13.setTop (mkF m 56 #[.val (.ref a1), .val (.int p2)] [(.int ((n + (1 : Int32)) + (1 : Int32))), (.ref a1), (.ref b)])) _
    refine XS.dupX1 X13.here hx rfl (hb hby d8_56) rfl rfl rfl ?_
    show Steps p.tables e below (T13.setTop (mkF m 57 #[.val (.ref a1), .val (.int p2)] [(.int ((n + (1 : Int32)) + (1 : Int32))), (.ref a1), (.int ((n + (1 : Int32)) + (1 : Int32))), (.ref b)])) _
    refine XS.iconst X13.here hx rfl (hb hby d8_57) ?_
    show Steps p.tables e below (T13.setTop (mkF m 58 #[.val (.ref a1), .val (.int p2)] [(.int (1 : Int32)), (.int ((n + (1 : Int32)) + (1 : Int32))), (.ref a1), (.int ((n + (1 : Int32)) + (1 : Int32))), (.ref b)])) _
    refine XS.iadd X13.here hx rfl (hb hby d8_58) rfl ?_
    show Steps p.tables e below (T13.setTop (mkF m 59 #[.val (.ref a1), .val (.int p2)] [(.int (((n + (1 : Int32)) + (1 : Int32)) + (1 : Int32))), (.ref a1), (.int ((n + (1 : Int32)) + (1 : Int32))), (.ref b)])) _
    refine st14 _ ?_
    show Steps p.tables e below (T14.setTop (mkF m 62 #[.val (.ref a1), .val (.int p2)] [(.int ((n + (1 : Int32)) + (1 : Int32))), (.ref b)])) _
    refine XS.iloadN X14.here hx rfl (hb hby d8_62) rfl ?_
    show Steps p.tables e below (T14.setTop (mkF m 63 #[.val (.ref a1), .val (.int p2)] [(.int p2), (.int ((n + (1 : Int32)) + (1 : Int32))), (.ref b)])) _
    refine XS.bipush X14.here hx rfl (hb hby d8_63) ?_
    show Steps p.tables e below (T14.setTop (mkF m 65 #[.val (.ref a1), .val (.int p2)] [(.int (8 : Int32)), (.int p2), (.int ((n + (1 : Int32)) + (1 : Int32))), (.ref b)])) _
    refine XS.iushr X14.here hx rfl (hb hby d8_65) rfl ?_
    show Steps p.tables e below (T14.setTop (mkF m 66 #[.val (.ref a1), .val (.int p2)] [(.int ((p2.toUInt32 >>> ((8 : Int32) &&& 31).toUInt32).toInt32)), (.int ((n + (1 : Int32)) + (1 : Int32))), (.ref b)])) _
    refine XS.i2b X14.here hx rfl (hb hby d8_66) rfl ?_
    show Steps p.tables e below (T14.setTop (mkF m 67 #[.val (.ref a1), .val (.int p2)] [(.int (((p2.toUInt32 >>> ((8 : Int32) &&& 31).toUInt32).toInt32).toInt8.toInt32)), (.int ((n + (1 : Int32)) + (1 : Int32))), (.ref b)])) _
    refine st15 _ ?_
    show Steps p.tables e below (T15.setTop (mkF m 68 #[.val (.ref a1), .val (.int p2)] [])) _
    refine XS.aloadN X15.here hx rfl (hb hby d8_68) rfl rfl ?_
    show Steps p.tables e below (T15.setTop (mkF m 69 #[.val (.ref a1), .val (.int p2)] [(.ref a1)])) _
    refine st16 _ ?_
    show Steps p.tables e below (T16.setTop (mkF m 72 #[.val (.ref a1), .val (.int p2)] [(.ref b)])) _
    refine XS.aloadN X16.here hx rfl (hb hby d8_72) rfl rfl ?_
    show Steps p.tables e below (T16.setTop (mkF m 73 #[.val (.ref a1), .val (.int p2)] [(.ref a1), (.ref b)])) _
    refine XS.dup X16.here hx rfl (hb hby d8_73) rfl rfl ?_
    show Steps p.tables e below (T16.setTop (mkF m 74 #[.val (.ref a1), .val (.int p2)] [(.ref a1), (.ref a1), (.ref b)])) _
    refine st17 _ ?_
    show Steps p.tables e below (T17.setTop (mkF m 77 #[.val (.ref a1), .val (.int p2)] [(.int (((n + (1 : Int32)) + (1 : Int32)) + (1 : Int32))), (.ref a1), (.ref b)])) _
    refine XS.dupX1 X17.here hx rfl (hb hby d8_77) rfl rfl rfl ?_
    show Steps p.tables e below (T17.setTop (mkF m 78 #[.val (.ref a1), .val (.int p2)] [(.int (((n + (1 : Int32)) + (1 : Int32)) + (1 : Int32))), (.ref a1), (.int (((n + (1 : Int32)) + (1 : Int32)) + (1 : Int32))), (.ref b)])) _
    refine XS.iconst X17.here hx rfl (hb hby d8_78) ?_
    show Steps p.tables e below (T17.setTop (mkF m 79 #[.val (.ref a1), .val (.int p2)] [(.int (1 : Int32)), (.int (((n + (1 : Int32)) + (1 : Int32)) + (1 : Int32))), (.ref a1), (.int (((n + (1 : Int32)) + (1 : Int32)) + (1 : Int32))), (.ref b)])) _
    refine XS.iadd X17.here hx rfl (hb hby d8_79) rfl ?_
    show Steps p.tables e below (T17.setTop (mkF m 80 #[.val (.ref a1), .val (.int p2)] [(.int ((((n + (1 : Int32)) + (1 : Int32)) + (1 : Int32)) + (1 : Int32))), (.ref a1), (.int (((n + (1 : Int32)) + (1 : Int32)) + (1 : Int32))), (.ref b)])) _
    refine st18 _ ?_
    show Steps p.tables e below (T18.setTop (mkF m 83 #[.val (.ref a1), .val (.int p2)] [(.int (((n + (1 : Int32)) + (1 : Int32)) + (1 : Int32))), (.ref b)])) _
    refine XS.iloadN X18.here hx rfl (hb hby d8_83) rfl ?_
    show Steps p.tables e below (T18.setTop (mkF m 84 #[.val (.ref a1), .val (.int p2)] [(.int p2), (.int (((n + (1 : Int32)) + (1 : Int32)) + (1 : Int32))), (.ref b)])) _
    refine XS.i2b X18.here hx rfl (hb hby d8_84) rfl ?_
    show Steps p.tables e below (T18.setTop (mkF m 85 #[.val (.ref a1), .val (.int p2)] [(.int (p2.toInt8.toInt32)), (.int (((n + (1 : Int32)) + (1 : Int32)) + (1 : Int32))), (.ref b)])) _
    refine st19 _ ?_
    show Steps p.tables e below (T19.setTop (mkF m 86 #[.val (.ref a1), .val (.int p2)] [])) _
    exact X19.returnOut hx Bd.returns (hb hby d8_86) hr
  · show QO Z a1 b k n' (vs ++ b4 p2) h0 n0 _ T19.heap _
    rw [e19]
    exact ⟨rfl, N19, K19, by have q : OutS _ _ _ _ _ _ _ := ⟨((((((((hO.1.wr W6).wr W7).wr W10).wr W11).wr W14).wr W15).wr W18).wr W19), ((((((((hO.2.1.other W6 (Or.inr (slot_ne (Or.inl (hw _ (List.mem_of_getElem? (i := 11) rfl))) (Or.inl (hw _ (List.mem_of_getElem? (i := 18) rfl))) (by decide) (t := (.array .byte)) (t' := .int) (by decide) (by decide)))).other W7 (Or.inl hO.2.2.2.2)).other W10 (Or.inr (slot_ne (Or.inl (hw _ (List.mem_of_getElem? (i := 11) rfl))) (Or.inl (hw _ (List.mem_of_getElem? (i := 18) rfl))) (by decide) (t := (.array .byte)) (t' := .int) (by decide) (by decide)))).other W11 (Or.inl hO.2.2.2.2)).other W14 (Or.inr (slot_ne (Or.inl (hw _ (List.mem_of_getElem? (i := 11) rfl))) (Or.inl (hw _ (List.mem_of_getElem? (i := 18) rfl))) (by decide) (t := (.array .byte)) (t' := .int) (by decide) (by decide)))).other W15 (Or.inl hO.2.2.2.2)).other W18 (Or.inr (slot_ne (Or.inl (hw _ (List.mem_of_getElem? (i := 11) rfl))) (Or.inl (hw _ (List.mem_of_getElem? (i := 18) rfl))) (by decide) (t := (.array .byte)) (t' := .int) (by decide) (by decide)))).other W19 (Or.inl hO.2.2.2.2)), (Fw18.other W19 (Or.inl hO.2.2.2.2)), V19, hO.2.2.2.2⟩; rw [hn']; simpa [own_b2, by0, byK, b4] using q⟩
theorem d5_0 : decode jdk_29_method_69_code 0 = .ok (.iload_n 0, 1) := by decide +kernel
theorem d5_1 : decode jdk_29_method_69_code 1 = .ok (.iload_n 1, 1) := by decide +kernel
theorem d5_2 : decode jdk_29_method_69_code 2 = .ok (.if_icmp .gt 7, 3) := by decide +kernel
theorem d5_9 : decode jdk_29_method_69_code 9 = .ok (.iload_n 1, 1) := by decide +kernel
theorem d5_10 : decode jdk_29_method_69_code 10 = .ok (.ireturn, 1) := by decide +kernel
theorem ef_5 (m : MethodId) (x0 : Int32) (x1 : Int32) : entryFrame m #[(.int x0), (.int x1)] 2 = mkF m 0 #[.val (.int x0), .val (.int x1)] [] := by first | (simp [entryFrame, mkF, argsToLocals, Value.category]; done) | rfl
set_option maxRecDepth 65536 in
set_option maxHeartbeats 40000000 in
theorem rm5 (l : Launch) (Z : State) (a0 : Array Value) (hw : ∀ d ∈ tables_1, d.before a0 Z = true) (ws : List Jvm.Cond) (p1 : Int32) (p2 : Int32) (h0 : Heap) (n0 : Nat) (Z0 : n0 ≤ h0.size) (hc2 : p2 < p1) :
    MetFree l (⟨"java/lang/Math", "min", "(II)I"⟩ : MethodName) (head1 (Jvm.Cond.code (⟨"java/lang/Math", "min", "(II)I"⟩ : MethodName) jdk_29_method_69_code 2 (some .int) :: ws) ({ frames := 0, cells := 0, slots := 0, locals := 0 } : Room)) (fun a U => a = #[(.int p1), (.int p2)] ∧ Z.Warmed39 U.vm ∧ U.heap = h0) (fun _ _ _ _ _ => True) (fun _ U o U' => ∃ v L, o = .returned v ∧ QP (some (.int p2)) h0 n0 v U'.heap L ∧ FrameEnd U o U' L ({ frames := 0, cells := 0, slots := 0, locals := 0 } : Room).cells ({ frames := 0, cells := 0, slots := 0, locals := 0 } : Room).slots) := by
  refine MetFree.of_bodySF (Jvm.Free.JP.mathPlain rfl (by decide +kernel)) hisR ?_
  intro p e s m args below meth c s₁ Bd hml0 hP hK
  obtain ⟨rfl, hZ, hh⟩ := hP
  have hx := Bd.exec
  have hby := Bd.bytes
  have hml : c.maxLocals = 2 := hml0
  have hown : s.vm.findClass "java/lang/Math" = some m.cls := findClass_of_methodNamed Bd.named
  have hnm := (name_of_methodNamed Bd.named Bd.method).1
  have X0 : Stand p l e ({ frames := 0, cells := 0, slots := 0, locals := 0 } : Room) s m #[(.int p1), (.int p2)] below meth c s₁ [] 0 0 := Stand.of_body Bd
  have e0 : s₁.heap = h0 := by rw [← hh, Bd.state]; rfl
  have N0 := Fr.nil n0
  have pre0 : ∀ t, Steps p.tables e below (s₁.setTop (mkF m 0 #[.val (.int p1), .val (.int p2)] [])) t → Steps p.tables e below (s₁.setTop (entryFrame m #[(.int p1), (.int p2)] 2)) t := fun t k => castTop (ef_5 m p1 p2) k
  obtain ⟨fs, hr, hrun, hended, hW, hsame⟩ := X0.leave (v := some (.int p2)) (fun h => by rw [Bd.returns] at h; cases h)
  refine ⟨_, _, pre0 _ ?_, hrun, hended, _, _, rfl, ?_, ⟨_, rfl⟩, hW, hsame.mono (by decide) (by decide)⟩
  · show Steps p.tables e below (s₁.setTop (mkF m 0 #[.val (.int p1), .val (.int p2)] [])) _
    refine XS.iloadN X0.here hx rfl (hb hby d5_0) rfl ?_
    show Steps p.tables e below (s₁.setTop (mkF m 1 #[.val (.int p1), .val (.int p2)] [(.int p1)])) _
    refine XS.iloadN X0.here hx rfl (hb hby d5_1) rfl ?_
    show Steps p.tables e below (s₁.setTop (mkF m 2 #[.val (.int p1), .val (.int p2)] [(.int p2), (.int p1)])) _
    refine XS.icmpYes X0.here hx rfl (pc0 := 2) (pc' := 9) rfl (hb hby d5_2) rfl (tlt hc2).2.2.1 (by decide) (by decide) ?_
    show Steps p.tables e below (s₁.setTop (mkF m 9 #[.val (.int p1), .val (.int p2)] [])) _
    refine XS.iloadN X0.here hx rfl (hb hby d5_9) rfl ?_
    show Steps p.tables e below (s₁.setTop (mkF m 10 #[.val (.int p1), .val (.int p2)] [(.int p2)])) _
    exact retI X0 hx Bd.returns (hb hby d5_10) hr
  · show QP (some (.int p2)) h0 n0 _ s₁.heap _
    rw [e0]
    exact ⟨rfl, N0, rfl⟩
theorem d4_0 : decode jdk_65_method_121_code 0 = .ok (.iload_n 1, 1) := by decide +kernel
theorem d4_1 : decode jdk_65_method_121_code 1 = .ok (.aload_n 0, 1) := by decide +kernel
theorem d4_2 : decode jdk_65_method_121_code 2 = .ok (.arraylength, 1) := by decide +kernel
theorem d4_3 : decode jdk_65_method_121_code 3 = .ok (.if_icmp .ne 11, 3) := by decide +kernel
theorem d4_14 : decode jdk_65_method_121_code 14 = .ok (.iload_n 1, 1) := by decide +kernel
theorem d4_15 : decode jdk_65_method_121_code 15 = .ok (.newarray .byte, 2) := by decide +kernel
theorem d4_17 : decode jdk_65_method_121_code 17 = .ok (.astore_n 2, 1) := by decide +kernel
theorem d4_18 : decode jdk_65_method_121_code 18 = .ok (.aload_n 0, 1) := by decide +kernel
theorem d4_19 : decode jdk_65_method_121_code 19 = .ok (.iconst 0, 1) := by decide +kernel
theorem d4_20 : decode jdk_65_method_121_code 20 = .ok (.aload_n 2, 1) := by decide +kernel
theorem d4_21 : decode jdk_65_method_121_code 21 = .ok (.iconst 0, 1) := by decide +kernel
theorem d4_22 : decode jdk_65_method_121_code 22 = .ok (.aload_n 0, 1) := by decide +kernel
theorem d4_23 : decode jdk_65_method_121_code 23 = .ok (.arraylength, 1) := by decide +kernel
theorem d4_24 : decode jdk_65_method_121_code 24 = .ok (.iload_n 1, 1) := by decide +kernel
theorem d4_25 : decode jdk_65_method_121_code 25 = .ok (.invokestatic 304, 3) := by decide +kernel
theorem d4_28 : decode jdk_65_method_121_code 28 = .ok (.invokestatic 150, 3) := by decide +kernel
theorem d4_31 : decode jdk_65_method_121_code 31 = .ok (.aload_n 2, 1) := by decide +kernel
theorem d4_32 : decode jdk_65_method_121_code 32 = .ok (.areturn, 1) := by decide +kernel
theorem pn_4 : plainName "java/util/Arrays" = true := by first | (simp [plainName, overriddenIn]; done) | decide +kernel
theorem pd_4_3 : parseMethodDescriptor "(II)I" = some ⟨[.int, .int], some .int⟩ := by decide +kernel
theorem ef_4 (m : MethodId) (x0 : Addr) (x1 : Int32) : entryFrame m #[(.ref x0), (.int x1)] 3 = mkF m 0 #[.val (.ref x0), .val (.int x1), .unset] [] := by first | (simp [entryFrame, mkF, argsToLocals, Value.category]; done) | rfl
set_option maxRecDepth 65536 in
set_option maxHeartbeats 40000000 in
theorem rm4 (l : Launch) (Z : State) (a0 : Array Value) (hw : ∀ d ∈ tables_1, d.before a0 Z = true) (ws : List Jvm.Cond) (a1 : Addr) (p2 : Int32) (k : ClassId) (z : Int32) (vs : List Value) (h0 : Heap) (n0 : Nat) (Z0 : n0 ≤ h0.size) (hV : Arv Z h0 a1 k .byte z vs (.int (0 : Int32))) (hp0 : ¬ p2 < 0) (hcap : p2.toNatClampNeg ≤ 16) (hle : p2.toNatClampNeg ≤ z.toNatClampNeg) (hmin : p2 < z) (hc3 : ¬ (p2 = z)) :
    MetFree l (⟨"java/util/Arrays", "copyOf", "([BI)[B"⟩ : MethodName) (head1 (Jvm.Cond.code (⟨"java/util/Arrays", "copyOf", "([BI)[B"⟩ : MethodName) jdk_65_method_121_code 3 (some (.array .byte)) :: ws) ({ frames := 1, cells := 1, slots := 16, locals := 40 } : Room)) (fun a U => a = #[(.ref a1), (.int p2)] ∧ Z.Warmed39 U.vm ∧ U.heap = h0) (fun _ _ _ _ _ => True) (fun _ U o U' => ∃ v L, o = .returned v ∧ QA Z p2 ((List.range p2.toNatClampNeg).map fun i => vs.getD i (.int (0 : Int32))) h0 n0 v U'.heap L ∧ FrameEnd U o U' L ({ frames := 1, cells := 1, slots := 16, locals := 40 } : Room).cells ({ frames := 1, cells := 1, slots := 16, locals := 40 } : Room).slots) := by
  refine MetFree.of_bodySF (plainFor_of_name pn_4) hisR ?_
  intro p e s m args below meth c s₁ Bd hml0 hP hK
  obtain ⟨rfl, hZ, hh⟩ := hP
  have hx := Bd.exec
  have hby := Bd.bytes
  have hml : c.maxLocals = 3 := hml0
  have hown : s.vm.findClass "java/util/Arrays" = some m.cls := findClass_of_methodNamed Bd.named
  have hnm := (name_of_methodNamed Bd.named Bd.method).1
  have X0 : Stand p l e ({ frames := 1, cells := 1, slots := 16, locals := 40 } : Room) s m #[(.ref a1), (.int p2)] below meth c s₁ [] 0 0 := Stand.of_body Bd
  have e0 : s₁.heap = h0 := by rw [← hh, Bd.state]; rfl
  have N0 := Fr.nil n0
  have pre0 : ∀ t, Steps p.tables e below (s₁.setTop (mkF m 0 #[.val (.ref a1), .val (.int p2), .unset] [])) t → Steps p.tables e below (s₁.setTop (entryFrame m #[(.ref a1), (.int p2)] 3)) t := fun t k => castTop (ef_4 m a1 p2) k
  obtain ⟨T3, h3, k3, X3, e3, E3, A3, st3⟩ := newP X0 hx hZ (hw _ (List.mem_of_getElem? (i := 9) rfl)) e0 (g := (mkF m 15 #[.val (.ref a1), .val (.int p2), .unset] [(.int p2)])) rfl (hb hby d4_15) rfl hp0 (cap := 16) hcap (by decide) (by decide) (by decide)
  obtain ⟨b3, g3⟩ : ∃ z, z = h0.size := ⟨_, rfl⟩
  rw [← g3] at A3 st3
  have V_b3 := Arv.new A3 hp0
  have g_b3 : n0 ≤ b3 := Nat.le_trans Z0 (Nat.le_of_eq g3.symm)
  have sz_b3 : h0.size ≤ b3 := (Nat.le_trans (Keep.refl h0 []).1 (Nat.le_of_eq g3.symm))
  have K3 : Keep h0 h3 [] := (Keep.refl h0 []).ext E3
  obtain ⟨_, _, ⟨T4, L4, k4, n4⟩, -, X4, ⟨Lc4, hQ4, l4, y4, z4⟩, st4⟩ := Jvm.LawKit.callS X3 hx (y := (⟨"java/lang/Math", "min", "(II)I"⟩ : MethodName)) hown (mvT hZ (hw _ (List.mem_of_getElem? (i := 23) rfl))) (mvT hZ (hw _ (List.mem_of_getElem? (i := 24) rfl))) (mvT hZ (hw _ (List.mem_of_getElem? (i := 25) rfl))) (mvT hZ (hw _ (List.mem_of_getElem? (i := 26) rfl))) (by decide) (backOf (W := 4) (rm5 l Z a0 hw [] z p2  h3 n0 (Nat.le_trans Z0 K3.1) hmin) hZ (hw _ (List.mem_of_getElem? (i := 26) rfl)) (hw _ (List.mem_of_getElem? (i := 25) rfl)) (by decide) (by decide)) (g := (mkF m 25 #[.val (.ref a1), .val (.int p2), .val (.ref b3)] [(.int p2), (.int z), (.int (0 : Int32)), (.ref b3), (.int (0 : Int32)), (.ref a1)])) rfl (by rw [hml]; rfl) (argsL := [(.int z), (.int p2)]) (rest := [(.int (0 : Int32)), (.ref b3), (.int (0 : Int32)), (.ref a1)]) (lenOf pd_4_3 rfl) rfl (by show 2 * 0 + _ ≤ _; exact Nat.le_of_eq rfl) (hb hby d4_25) (fun _ _ => ⟨rfl, e3, (by decide : 1 + 0 ≤ _), (by decide : 16 + 0 ≤ _)⟩)
  dsimp only [Pt.U, Pt.locs, Pt.cells, Pt.slots] at X4 l4 y4 z4 st4 hQ4
  subst l4 y4 z4
  obtain ⟨rfl, N4q, e4⟩ := hQ4
  have N4 := Fr.app N0 N4q
  obtain ⟨T5, h5, L5, X5, e5, N5, Kc5, V5, st5⟩ := cpA X4 hx hZ hown (hw _ (List.mem_of_getElem? (i := 27) rfl)) (hw _ (List.mem_of_getElem? (i := 30) rfl)) (hw _ (List.mem_of_getElem? (i := 28) rfl)) (hw _ (List.mem_of_getElem? (i := 29) rfl)) e4 (hV.ext E3) (V_b3.pad (pad_rep [] (.int (0 : Int32)) p2.toNatClampNeg)) (Or.inl ⟨rfl, rfl⟩) (by decide) (by decide) hp0 (by simpa using hle) (by simp) rfl (by simp) N4 g_b3 (g := (mkF m 28 #[.val (.ref a1), .val (.int p2), .val (.ref b3)] [(.int p2), (.int (0 : Int32)), (.ref b3), (.int (0 : Int32)), (.ref a1)])) rfl (by rw [hml]; rfl) rfl (hb hby d4_28) (by decide) (W := 0) (by show 2 * 0 + _ ≤ _; exact Nat.le_of_eq rfl) (by decide)
  have K5 : Keep h0 h5 [] := K3.trans Kc5 (allS (Or.inr sz_b3) all0)
  obtain ⟨fs, hr, hrun, hended, hW, hsame⟩ := X5.leave (v := some (.ref b3)) (fun h => by rw [Bd.returns] at h; cases h)
  refine ⟨_, _, pre0 _ ?_, hrun, hended, _, _, rfl, ?_, ⟨_, rfl⟩, hW, hsame.mono (by decide) (by decide)⟩
  · show Steps p.tables e below (s₁.setTop (mkF m 0 #[.val (.ref a1), .val (.int p2), .unset] [])) _
    refine XS.iloadN X0.here hx rfl (hb hby d4_0) rfl ?_
    show Steps p.tables e below (s₁.setTop (mkF m 1 #[.val (.ref a1), .val (.int p2), .unset] [(.int p2)])) _
    refine XS.aloadN X0.here hx rfl (hb hby d4_1) rfl rfl ?_
    show Steps p.tables e below (s₁.setTop (mkF m 2 #[.val (.ref a1), .val (.int p2), .unset] [(.ref a1), (.int p2)])) _
    refine own_len X0 hx hZ e0 hV (g := (mkF m 2 #[.val (.ref a1), .val (.int p2), .unset] [(.ref a1), (.int p2)])) rfl rfl (hb hby d4_2) _ ?_
    show Steps p.tables e below (s₁.setTop (mkF m 3 #[.val (.ref a1), .val (.int p2), .unset] [(.int z), (.int p2)])) _
    refine XS.icmpYes X0.here hx rfl (pc0 := 3) (pc' := 14) rfl (hb hby d4_3) rfl (feq hc3).2 (by decide) (by decide) ?_
    show Steps p.tables e below (s₁.setTop (mkF m 14 #[.val (.ref a1), .val (.int p2), .unset] [])) _
    refine XS.iloadN X0.here hx rfl (hb hby d4_14) rfl ?_
    show Steps p.tables e below (s₁.setTop (mkF m 15 #[.val (.ref a1), .val (.int p2), .unset] [(.int p2)])) _
    refine st3 _ ?_
    show Steps p.tables e below (T3.setTop (mkF m 17 #[.val (.ref a1), .val (.int p2), .unset] [(.ref b3)])) _
    refine XS.astoreN X3.here hx rfl (hb hby d4_17) rfl rfl (l' := #[.val (.ref a1), .val (.int p2), .val (.ref b3)]) rfl ?_
    show Steps p.tables e below (T3.setTop (mkF m 18 #[.val (.ref a1), .val (.int p2), .val (.ref b3)] [])) _
    refine XS.aloadN X3.here hx rfl (hb hby d4_18) rfl rfl ?_
    show Steps p.tables e below (T3.setTop (mkF m 19 #[.val (.ref a1), .val (.int p2), .val (.ref b3)] [(.ref a1)])) _
    refine XS.iconst X3.here hx rfl (hb hby d4_19) ?_
    show Steps p.tables e below (T3.setTop (mkF m 20 #[.val (.ref a1), .val (.int p2), .val (.ref b3)] [(.int (0 : Int32)), (.ref a1)])) _
    refine XS.aloadN X3.here hx rfl (hb hby d4_20) rfl rfl ?_
    show Steps p.tables e below (T3.setTop (mkF m 21 #[.val (.ref a1), .val (.int p2), .val (.ref b3)] [(.ref b3), (.int (0 : Int32)), (.ref a1)])) _
    refine XS.iconst X3.here hx rfl (hb hby d4_21) ?_
    show Steps p.tables e below (T3.setTop (mkF m 22 #[.val (.ref a1), .val (.int p2), .val (.ref b3)] [(.int (0 : Int32)), (.ref b3), (.int (0 : Int32)), (.ref a1)])) _
    refine XS.aloadN X3.here hx rfl (hb hby d4_22) rfl rfl ?_
    show Steps p.tables e below (T3.setTop (mkF m 23 #[.val (.ref a1), .val (.int p2), .val (.ref b3)] [(.ref a1), (.int (0 : Int32)), (.ref b3), (.int (0 : Int32)), (.ref a1)])) _
    refine own_len X3 hx hZ e3 (hV.ext E3) (g := (mkF m 23 #[.val (.ref a1), .val (.int p2), .val (.ref b3)] [(.ref a1), (.int (0 : Int32)), (.ref b3), (.int (0 : Int32)), (.ref a1)])) rfl rfl (hb hby d4_23) _ ?_
    show Steps p.tables e below (T3.setTop (mkF m 24 #[.val (.ref a1), .val (.int p2), .val (.ref b3)] [(.int z), (.int (0 : Int32)), (.ref b3), (.int (0 : Int32)), (.ref a1)])) _
    refine XS.iloadN X3.here hx rfl (hb hby d4_24) rfl ?_
    show Steps p.tables e below (T3.setTop (mkF m 25 #[.val (.ref a1), .val (.int p2), .val (.ref b3)] [(.int p2), (.int z), (.int (0 : Int32)), (.ref b3), (.int (0 : Int32)), (.ref a1)])) _
    refine st4 _ ?_
    show Steps p.tables e below (T4.setTop (mkF m 28 #[.val (.ref a1), .val (.int p2), .val (.ref b3)] [(.int p2), (.int (0 : Int32)), (.ref b3), (.int (0 : Int32)), (.ref a1)])) _
    refine st5 _ ?_
    show Steps p.tables e below (T5.setTop (mkF m 31 #[.val (.ref a1), .val (.int p2), .val (.ref b3)] [])) _
    refine XS.aloadN X5.here hx rfl (hb hby d4_31) rfl rfl ?_
    show Steps p.tables e below (T5.setTop (mkF m 32 #[.val (.ref a1), .val (.int p2), .val (.ref b3)] [(.ref b3)])) _
    jvm_step X5.here [X5.here.top, hx, (hb hby d4_32), X5.method', Bd.returns, Value.isRef, FieldType.isReference]
    first | (intro acts; rw [hr _ acts rfl rfl rfl]) | rw [hr _ _ rfl rfl rfl]
    exact Steps.refl _
  · show QA Z p2 ((List.range p2.toNatClampNeg).map fun i => vs.getD i (.int (0 : Int32))) h0 n0 _ T5.heap _
    rw [e5]
    exact ⟨b3, _, rfl, N5, K5, sz_b3, by have q : Arv _ _ _ _ .byte _ _ (.int (0 : Int32)) := V5; simpa using q⟩
theorem d3_0 : decode prog_53_method_9_code 0 = .ok (.aload_n 0, 1) := by decide +kernel
theorem d3_1 : decode prog_53_method_9_code 1 = .ok (.getfield 7, 3) := by decide +kernel
theorem d3_4 : decode prog_53_method_9_code 4 = .ok (.aload_n 0, 1) := by decide +kernel
theorem d3_5 : decode prog_53_method_9_code 5 = .ok (.getfield 17, 3) := by decide +kernel
theorem d3_8 : decode prog_53_method_9_code 8 = .ok (.invokestatic 77, 3) := by decide +kernel
theorem d3_11 : decode prog_53_method_9_code 11 = .ok (.areturn, 1) := by decide +kernel
theorem pn_3 : plainName "com/example/periodica/periodica/ledger/StoredFields$Out" = true := by first | (simp [plainName, overriddenIn]; done) | decide +kernel
theorem pd_3_2 : parseMethodDescriptor "([BI)[B" = some ⟨[(.array .byte), .int], some (.array .byte)⟩ := by decide +kernel
theorem ef_3 (m : MethodId) (x0 : Addr) : entryFrame m #[(.ref x0)] 1 = mkF m 0 #[.val (.ref x0)] [] := by first | (simp [entryFrame, mkF, argsToLocals, Value.category]; done) | rfl
set_option maxRecDepth 65536 in
set_option maxHeartbeats 40000000 in
theorem rm3 (l : Launch) (Z : State) (a0 : Array Value) (hw : ∀ d ∈ tables_1, d.before a0 Z = true) (ws : List Jvm.Cond) (a1 : Addr) (b : Addr) (k : ClassId) (n : Int32) (vs : List Value) (h0 : Heap) (n0 : Nat) (Z0 : n0 ≤ h0.size) (hO : OutS Z h0 a1 b k n vs) (hlen : n.toNatClampNeg = vs.length) (hp0 : ¬ n < 0) (hcap : n.toNatClampNeg ≤ 16) (hle : n.toNatClampNeg ≤ (128 : Int32).toNatClampNeg) (hmin : n < (128 : Int32)) (hc3 : ¬ (n = (128 : Int32))) :
    MetFree l (⟨"com/example/periodica/periodica/ledger/StoredFields$Out", "toByteArray", "()[B"⟩ : MethodName) (head1 (Jvm.Cond.code (⟨"com/example/periodica/periodica/ledger/StoredFields$Out", "toByteArray", "()[B"⟩ : MethodName) prog_53_method_9_code 1 (some (.array .byte)) :: ws) ({ frames := 2, cells := 1, slots := 16, locals := 60 } : Room)) (fun a U => a = #[(.ref a1)] ∧ Z.Warmed39 U.vm ∧ U.heap = h0) (fun _ _ _ _ _ => True) (fun _ U o U' => ∃ v L, o = .returned v ∧ QA Z n vs h0 n0 v U'.heap L ∧ FrameEnd U o U' L ({ frames := 2, cells := 1, slots := 16, locals := 60 } : Room).cells ({ frames := 2, cells := 1, slots := 16, locals := 60 } : Room).slots) := by
  refine MetFree.of_bodySF (plainFor_of_name pn_3) hisR ?_
  intro p e s m args below meth c s₁ Bd hml0 hP hK
  obtain ⟨rfl, hZ, hh⟩ := hP
  have hx := Bd.exec
  have hby := Bd.bytes
  have hml : c.maxLocals = 1 := hml0
  have hown : s.vm.findClass "com/example/periodica/periodica/ledger/StoredFields$Out" = some m.cls := findClass_of_methodNamed Bd.named
  have hnm := (name_of_methodNamed Bd.named Bd.method).1
  have X0 : Stand p l e ({ frames := 2, cells := 1, slots := 16, locals := 60 } : Room) s m #[(.ref a1)] below meth c s₁ [] 0 0 := Stand.of_body Bd
  have e0 : s₁.heap = h0 := by rw [← hh, Bd.state]; rfl
  have N0 := Fr.nil n0
  have pre0 : ∀ t, Steps p.tables e below (s₁.setTop (mkF m 0 #[.val (.ref a1)] [])) t → Steps p.tables e below (s₁.setTop (entryFrame m #[(.ref a1)] 1)) t := fun t k => castTop (ef_3 m a1) k
  obtain ⟨T2, X2, e2, st2⟩ := getF X0 hx hZ hown (host := "") (Or.inl (hw _ (List.mem_of_getElem? (i := 10) rfl))) Via.refl e0 hO.2.1 (g := (mkF m 1 #[.val (.ref a1)] [(.ref a1)])) rfl rfl (hb hby d3_1)
  obtain ⟨T3, X3, e3, st3⟩ := getF X2 hx hZ hown (host := "") (Or.inl (hw _ (List.mem_of_getElem? (i := 17) rfl))) Via.refl e2 hO.2.2.1 (g := (mkF m 5 #[.val (.ref a1)] [(.ref a1), (.ref b)])) rfl rfl (hb hby d3_5)
  obtain ⟨_, _, ⟨T4, L4, k4, n4⟩, -, X4, ⟨Lc4, hQ4, l4, y4, z4⟩, st4⟩ := Jvm.LawKit.callS X3 hx (y := (⟨"java/util/Arrays", "copyOf", "([BI)[B"⟩ : MethodName)) hown (mvT hZ (hw _ (List.mem_of_getElem? (i := 19) rfl))) (mvT hZ (hw _ (List.mem_of_getElem? (i := 20) rfl))) (mvT hZ (hw _ (List.mem_of_getElem? (i := 21) rfl))) (mvT hZ (hw _ (List.mem_of_getElem? (i := 22) rfl))) (by decide) (backOf (W := 0) (rm4 l Z a0 hw [] b n k (128 : Int32) vs h0 n0 Z0 hO.2.2.2.1 hp0 hcap hle hmin hc3) hZ (hw _ (List.mem_of_getElem? (i := 22) rfl)) (hw _ (List.mem_of_getElem? (i := 21) rfl)) (by decide) (by decide)) (g := (mkF m 8 #[.val (.ref a1)] [(.int n), (.ref b)])) rfl (by rw [hml]; rfl) (argsL := [(.ref b), (.int n)]) (rest := []) (lenOf pd_3_2 rfl) rfl (by show 2 * 0 + _ ≤ _; exact Nat.le_of_eq rfl) (hb hby d3_8) (fun _ _ => ⟨rfl, e3, (by decide : 0 + 1 ≤ _), (by decide : 0 + 16 ≤ _)⟩)
  dsimp only [Pt.U, Pt.locs, Pt.cells, Pt.slots] at X4 l4 y4 z4 st4 hQ4
  subst l4 y4 z4
  obtain ⟨r4, kr4, rfl, N4q, K4, hr4, V4⟩ := hQ4
  have N4 := Fr.app N0 N4q
  obtain ⟨fs, hr, hrun, hended, hW, hsame⟩ := X4.leave (v := some (.ref r4)) (fun h => by rw [Bd.returns] at h; cases h)
  refine ⟨_, _, pre0 _ ?_, hrun, hended, _, _, rfl, ?_, ⟨_, rfl⟩, hW, hsame.mono (by decide) (by decide)⟩
  · show Steps p.tables e below (s₁.setTop (mkF m 0 #[.val (.ref a1)] [])) _
    refine XS.aloadN X0.here hx rfl (hb hby d3_0) rfl rfl ?_
    show Steps p.tables e below (s₁.setTop (mkF m 1 #[.val (.ref a1)] [(.ref a1)])) _
    refine st2 _ ?_
    show Steps p.tables e below (T2.setTop (mkF m 4 #[.val (.ref a1)] [(.ref b)])) _
    refine XS.aloadN X2.here hx rfl (hb hby d3_4) rfl rfl ?_
    show Steps p.tables e below (T2.setTop (mkF m 5 #[.val (.ref a1)] [(.ref a1), (.ref b)])) _
    refine st3 _ ?_
    show Steps p.tables e below (T3.setTop (mkF m 8 #[.val (.ref a1)] [(.int n), (.ref b)])) _
    refine st4 _ ?_
    show Steps p.tables e below (T4.setTop (mkF m 11 #[.val (.ref a1)] [(.ref r4)])) _
    jvm_step X4.here [X4.here.top, hx, (hb hby d3_11), X4.method', Bd.returns, Value.isRef, FieldType.isReference]
    first | (intro acts; rw [hr _ acts rfl rfl rfl]) | rw [hr _ _ rfl rfl rfl]
    exact Steps.refl _
  · show QA Z n vs h0 n0 _ T4.heap _
    exact ⟨r4, kr4, rfl, N4, K4, hr4, by rw [hlen, own_rng] at V4; exact V4⟩
theorem d9_0 : decode method_2_code 0 = .ok (.aload_n 0, 1) := by decide +kernel
theorem d9_1 : decode method_2_code 1 = .ok (.iload_n 1, 1) := by decide +kernel
theorem d9_2 : decode method_2_code 2 = .ok (.baload, 1) := by decide +kernel
theorem d9_3 : decode method_2_code 3 = .ok (.sipush 255, 3) := by decide +kernel
theorem d9_6 : decode method_2_code 6 = .ok (.iand, 1) := by decide +kernel
theorem d9_7 : decode method_2_code 7 = .ok (.bipush 24, 2) := by decide +kernel
theorem d9_9 : decode method_2_code 9 = .ok (.ishl, 1) := by decide +kernel
theorem d9_10 : decode method_2_code 10 = .ok (.aload_n 0, 1) := by decide +kernel
theorem d9_11 : decode method_2_code 11 = .ok (.iload_n 1, 1) := by decide +kernel
theorem d9_12 : decode method_2_code 12 = .ok (.iconst 1, 1) := by decide +kernel
theorem d9_13 : decode method_2_code 13 = .ok (.iadd, 1) := by decide +kernel
theorem d9_14 : decode method_2_code 14 = .ok (.baload, 1) := by decide +kernel
theorem d9_15 : decode method_2_code 15 = .ok (.sipush 255, 3) := by decide +kernel
theorem d9_18 : decode method_2_code 18 = .ok (.iand, 1) := by decide +kernel
theorem d9_19 : decode method_2_code 19 = .ok (.bipush 16, 2) := by decide +kernel
theorem d9_21 : decode method_2_code 21 = .ok (.ishl, 1) := by decide +kernel
theorem d9_22 : decode method_2_code 22 = .ok (.ior, 1) := by decide +kernel
theorem d9_23 : decode method_2_code 23 = .ok (.aload_n 0, 1) := by decide +kernel
theorem d9_24 : decode method_2_code 24 = .ok (.iload_n 1, 1) := by decide +kernel
theorem d9_25 : decode method_2_code 25 = .ok (.iconst 2, 1) := by decide +kernel
theorem d9_26 : decode method_2_code 26 = .ok (.iadd, 1) := by decide +kernel
theorem d9_27 : decode method_2_code 27 = .ok (.baload, 1) := by decide +kernel
theorem d9_28 : decode method_2_code 28 = .ok (.sipush 255, 3) := by decide +kernel
theorem d9_31 : decode method_2_code 31 = .ok (.iand, 1) := by decide +kernel
theorem d9_32 : decode method_2_code 32 = .ok (.bipush 8, 2) := by decide +kernel
theorem d9_34 : decode method_2_code 34 = .ok (.ishl, 1) := by decide +kernel
theorem d9_35 : decode method_2_code 35 = .ok (.ior, 1) := by decide +kernel
theorem d9_36 : decode method_2_code 36 = .ok (.aload_n 0, 1) := by decide +kernel
theorem d9_37 : decode method_2_code 37 = .ok (.iload_n 1, 1) := by decide +kernel
theorem d9_38 : decode method_2_code 38 = .ok (.iconst 3, 1) := by decide +kernel
theorem d9_39 : decode method_2_code 39 = .ok (.iadd, 1) := by decide +kernel
theorem d9_40 : decode method_2_code 40 = .ok (.baload, 1) := by decide +kernel
theorem d9_41 : decode method_2_code 41 = .ok (.sipush 255, 3) := by decide +kernel
theorem d9_44 : decode method_2_code 44 = .ok (.iand, 1) := by decide +kernel
theorem d9_45 : decode method_2_code 45 = .ok (.ior, 1) := by decide +kernel
theorem d9_46 : decode method_2_code 46 = .ok (.istore_n 3, 1) := by decide +kernel
theorem d9_47 : decode method_2_code 47 = .ok (.iload_n 3, 1) := by decide +kernel
theorem d9_48 : decode method_2_code 48 = .ok (.iload_n 2, 1) := by decide +kernel
theorem d9_49 : decode method_2_code 49 = .ok (.if_icmp .ne 7, 3) := by decide +kernel
theorem d9_52 : decode method_2_code 52 = .ok (.iconst 1, 1) := by decide +kernel
theorem d9_53 : decode method_2_code 53 = .ok (.goto 4, 3) := by decide +kernel
theorem d9_57 : decode method_2_code 57 = .ok (.ireturn, 1) := by decide +kernel
theorem pn_9 : plainName "com/example/periodica/periodica/ledger/OutToByteArrayPinLaw" = true := by first | (simp [plainName, overriddenIn]; done) | decide +kernel
theorem ef_9 (m : MethodId) (x0 : Addr) (x1 : Int32) (x2 : Int32) : entryFrame m #[(.ref x0), (.int x1), (.int x2)] 4 = mkF m 0 #[.val (.ref x0), .val (.int x1), .val (.int x2), .unset] [] := by first | (simp [entryFrame, mkF, argsToLocals, Value.category]; done) | rfl
set_option maxRecDepth 65536 in
set_option maxHeartbeats 40000000 in
theorem rm9 (l : Launch) (Z : State) (a0 : Array Value) (hw : ∀ d ∈ tables_1, d.before a0 Z = true) (ws : List Jvm.Cond) (a1 : Addr) (p2 : Int32) (p3 : Int32) (k : ClassId) (z : Int32) (vs : List Value) (w0 w1 w2 w3 : Int32) (h0 : Heap) (n0 : Nat) (Z0 : n0 ≤ h0.size) (hV : Arv Z h0 a1 k .byte z vs (.int (0 : Int32))) (hin0 : ¬ p2 < 0 ∧ p2 < z) (hin1 : ¬ (p2 + (1 : Int32)) < 0 ∧ (p2 + (1 : Int32)) < z) (hin2 : ¬ (p2 + (2 : Int32)) < 0 ∧ (p2 + (2 : Int32)) < z) (hin3 : ¬ (p2 + (3 : Int32)) < 0 ∧ (p2 + (3 : Int32)) < z) (hu0 : vs.getD (p2).toNatClampNeg (.int (0 : Int32)) = .int w0) (hu1 : vs.getD ((p2 + (1 : Int32))).toNatClampNeg (.int (0 : Int32)) = .int w1) (hu2 : vs.getD ((p2 + (2 : Int32))).toNatClampNeg (.int (0 : Int32)) = .int w2) (hu3 : vs.getD ((p2 + (3 : Int32))).toNatClampNeg (.int (0 : Int32)) = .int w3) (hc49 : (((((w0 &&& (255 : Int32)) <<< ((24 : Int32) &&& 31)) ||| ((w1 &&& (255 : Int32)) <<< ((16 : Int32) &&& 31))) ||| ((w2 &&& (255 : Int32)) <<< ((8 : Int32) &&& 31))) ||| (w3 &&& (255 : Int32))) = p3) :
    MetFree l (⟨"com/example/periodica/periodica/ledger/OutToByteArrayPinLaw", "intAt", "([BII)Z"⟩ : MethodName) (head1 (Jvm.Cond.code (⟨"com/example/periodica/periodica/ledger/OutToByteArrayPinLaw", "intAt", "([BII)Z"⟩ : MethodName) method_2_code 4 (some .boolean) :: ws) ({ frames := 0, cells := 0, slots := 0, locals := 0 } : Room)) (fun a U => a = #[(.ref a1), (.int p2), (.int p3)] ∧ Z.Warmed39 U.vm ∧ U.heap = h0) (fun _ _ _ _ _ => True) (fun _ U o U' => ∃ v L, o = .returned v ∧ QP (some (.int (1 : Int32))) h0 n0 v U'.heap L ∧ FrameEnd U o U' L ({ frames := 0, cells := 0, slots := 0, locals := 0 } : Room).cells ({ frames := 0, cells := 0, slots := 0, locals := 0 } : Room).slots) := by
  refine MetFree.of_bodySF (plainFor_of_name pn_9) hisR ?_
  intro p e s m args below meth c s₁ Bd hml0 hP hK
  obtain ⟨rfl, hZ, hh⟩ := hP
  have hx := Bd.exec
  have hby := Bd.bytes
  have hml : c.maxLocals = 4 := hml0
  have hown : s.vm.findClass "com/example/periodica/periodica/ledger/OutToByteArrayPinLaw" = some m.cls := findClass_of_methodNamed Bd.named
  have hnm := (name_of_methodNamed Bd.named Bd.method).1
  have X0 : Stand p l e ({ frames := 0, cells := 0, slots := 0, locals := 0 } : Room) s m #[(.ref a1), (.int p2), (.int p3)] below meth c s₁ [] 0 0 := Stand.of_body Bd
  have e0 : s₁.heap = h0 := by rw [← hh, Bd.state]; rfl
  have N0 := Fr.nil n0
  have pre0 : ∀ t, Steps p.tables e below (s₁.setTop (mkF m 0 #[.val (.ref a1), .val (.int p2), .val (.int p3), .unset] [])) t → Steps p.tables e below (s₁.setTop (entryFrame m #[(.ref a1), (.int p2), (.int p3)] 4)) t := fun t k => castTop (ef_9 m a1 p2 p3) k
  obtain ⟨fs, hr, hrun, hended, hW, hsame⟩ := X0.leave (v := some (.int (1 : Int32))) (fun h => by rw [Bd.returns] at h; cases h)
  refine ⟨_, _, pre0 _ ?_, hrun, hended, _, _, rfl, ?_, ⟨_, rfl⟩, hW, hsame.mono (by decide) (by decide)⟩
  · show Steps p.tables e below (s₁.setTop (mkF m 0 #[.val (.ref a1), .val (.int p2), .val (.int p3), .unset] [])) _
    refine XS.aloadN X0.here hx rfl (hb hby d9_0) rfl rfl ?_
    show Steps p.tables e below (s₁.setTop (mkF m 1 #[.val (.ref a1), .val (.int p2), .val (.int p3), .unset] [(.ref a1)])) _
    refine XS.iloadN X0.here hx rfl (hb hby d9_1) rfl ?_
    show Steps p.tables e below (s₁.setTop (mkF m 2 #[.val (.ref a1), .val (.int p2), .val (.int p3), .unset] [(.int p2), (.ref a1)])) _
    refine own_ldB X0 hx hZ e0 hV (j := p2) (v := (.int w0)) hin0 hu0 (g := (mkF m 2 #[.val (.ref a1), .val (.int p2), .val (.int p3), .unset] [(.int p2), (.ref a1)])) rfl rfl (hb hby d9_2) _ ?_
    show Steps p.tables e below (s₁.setTop (mkF m 3 #[.val (.ref a1), .val (.int p2), .val (.int p3), .unset] [(.int w0)])) _
    refine XS.sipush X0.here hx rfl (hb hby d9_3) ?_
    show Steps p.tables e below (s₁.setTop (mkF m 6 #[.val (.ref a1), .val (.int p2), .val (.int p3), .unset] [(.int (255 : Int32)), (.int w0)])) _
    refine XS.iand X0.here hx rfl (hb hby d9_6) rfl ?_
    show Steps p.tables e below (s₁.setTop (mkF m 7 #[.val (.ref a1), .val (.int p2), .val (.int p3), .unset] [(.int (w0 &&& (255 : Int32)))])) _
    refine XS.bipush X0.here hx rfl (hb hby d9_7) ?_
    show Steps p.tables e below (s₁.setTop (mkF m 9 #[.val (.ref a1), .val (.int p2), .val (.int p3), .unset] [(.int (24 : Int32)), (.int (w0 &&& (255 : Int32)))])) _
    refine XS.ishl X0.here hx rfl (hb hby d9_9) rfl ?_
    show Steps p.tables e below (s₁.setTop (mkF m 10 #[.val (.ref a1), .val (.int p2), .val (.int p3), .unset] [(.int ((w0 &&& (255 : Int32)) <<< ((24 : Int32) &&& 31)))])) _
    refine XS.aloadN X0.here hx rfl (hb hby d9_10) rfl rfl ?_
    show Steps p.tables e below (s₁.setTop (mkF m 11 #[.val (.ref a1), .val (.int p2), .val (.int p3), .unset] [(.ref a1), (.int ((w0 &&& (255 : Int32)) <<< ((24 : Int32) &&& 31)))])) _
    refine XS.iloadN X0.here hx rfl (hb hby d9_11) rfl ?_
    show Steps p.tables e below (s₁.setTop (mkF m 12 #[.val (.ref a1), .val (.int p2), .val (.int p3), .unset] [(.int p2), (.ref a1), (.int ((w0 &&& (255 : Int32)) <<< ((24 : Int32) &&& 31)))])) _
    refine XS.iconst X0.here hx rfl (hb hby d9_12) ?_
    show Steps p.tables e below (s₁.setTop (mkF m 13 #[.val (.ref a1), .val (.int p2), .val (.int p3), .unset] [(.int (1 : Int32)), (.int p2), (.ref a1), (.int ((w0 &&& (255 : Int32)) <<< ((24 : Int32) &&& 31)))])) _
    refine XS.iadd X0.here hx rfl (hb hby d9_13) rfl ?_
    show Steps p.tables e below (s₁.setTop (mkF m 14 #[.val (.ref a1), .val (.int p2), .val (.int p3), .unset] [(.int (p2 + (1 : Int32))), (.ref a1), (.int ((w0 &&& (255 : Int32)) <<< ((24 : Int32) &&& 31)))])) _
    refine own_ldB X0 hx hZ e0 hV (j := (p2 + (1 : Int32))) (v := (.int w1)) hin1 hu1 (g := (mkF m 14 #[.val (.ref a1), .val (.int p2), .val (.int p3), .unset] [(.int (p2 + (1 : Int32))), (.ref a1), (.int ((w0 &&& (255 : Int32)) <<< ((24 : Int32) &&& 31)))])) rfl rfl (hb hby d9_14) _ ?_
    show Steps p.tables e below (s₁.setTop (mkF m 15 #[.val (.ref a1), .val (.int p2), .val (.int p3), .unset] [(.int w1), (.int ((w0 &&& (255 : Int32)) <<< ((24 : Int32) &&& 31)))])) _
    refine XS.sipush X0.here hx rfl (hb hby d9_15) ?_
    show Steps p.tables e below (s₁.setTop (mkF m 18 #[.val (.ref a1), .val (.int p2), .val (.int p3), .unset] [(.int (255 : Int32)), (.int w1), (.int ((w0 &&& (255 : Int32)) <<< ((24 : Int32) &&& 31)))])) _
    refine XS.iand X0.here hx rfl (hb hby d9_18) rfl ?_
    show Steps p.tables e below (s₁.setTop (mkF m 19 #[.val (.ref a1), .val (.int p2), .val (.int p3), .unset] [(.int (w1 &&& (255 : Int32))), (.int ((w0 &&& (255 : Int32)) <<< ((24 : Int32) &&& 31)))])) _
    refine XS.bipush X0.here hx rfl (hb hby d9_19) ?_
    show Steps p.tables e below (s₁.setTop (mkF m 21 #[.val (.ref a1), .val (.int p2), .val (.int p3), .unset] [(.int (16 : Int32)), (.int (w1 &&& (255 : Int32))), (.int ((w0 &&& (255 : Int32)) <<< ((24 : Int32) &&& 31)))])) _
    refine XS.ishl X0.here hx rfl (hb hby d9_21) rfl ?_
    show Steps p.tables e below (s₁.setTop (mkF m 22 #[.val (.ref a1), .val (.int p2), .val (.int p3), .unset] [(.int ((w1 &&& (255 : Int32)) <<< ((16 : Int32) &&& 31))), (.int ((w0 &&& (255 : Int32)) <<< ((24 : Int32) &&& 31)))])) _
    refine XS.ior X0.here hx rfl (hb hby d9_22) rfl ?_
    show Steps p.tables e below (s₁.setTop (mkF m 23 #[.val (.ref a1), .val (.int p2), .val (.int p3), .unset] [(.int (((w0 &&& (255 : Int32)) <<< ((24 : Int32) &&& 31)) ||| ((w1 &&& (255 : Int32)) <<< ((16 : Int32) &&& 31))))])) _
    refine XS.aloadN X0.here hx rfl (hb hby d9_23) rfl rfl ?_
    show Steps p.tables e below (s₁.setTop (mkF m 24 #[.val (.ref a1), .val (.int p2), .val (.int p3), .unset] [(.ref a1), (.int (((w0 &&& (255 : Int32)) <<< ((24 : Int32) &&& 31)) ||| ((w1 &&& (255 : Int32)) <<< ((16 : Int32) &&& 31))))])) _
    refine XS.iloadN X0.here hx rfl (hb hby d9_24) rfl ?_
    show Steps p.tables e below (s₁.setTop (mkF m 25 #[.val (.ref a1), .val (.int p2), .val (.int p3), .unset] [(.int p2), (.ref a1), (.int (((w0 &&& (255 : Int32)) <<< ((24 : Int32) &&& 31)) ||| ((w1 &&& (255 : Int32)) <<< ((16 : Int32) &&& 31))))])) _
    refine XS.iconst X0.here hx rfl (hb hby d9_25) ?_
    show Steps p.tables e below (s₁.setTop (mkF m 26 #[.val (.ref a1), .val (.int p2), .val (.int p3), .unset] [(.int (2 : Int32)), (.int p2), (.ref a1), (.int (((w0 &&& (255 : Int32)) <<< ((24 : Int32) &&& 31)) ||| ((w1 &&& (255 : Int32)) <<< ((16 : Int32) &&& 31))))])) _
    refine XS.iadd X0.here hx rfl (hb hby d9_26) rfl ?_
    show Steps p.tables e below (s₁.setTop (mkF m 27 #[.val (.ref a1), .val (.int p2), .val (.int p3), .unset] [(.int (p2 + (2 : Int32))), (.ref a1), (.int (((w0 &&& (255 : Int32)) <<< ((24 : Int32) &&& 31)) ||| ((w1 &&& (255 : Int32)) <<< ((16 : Int32) &&& 31))))])) _
    refine own_ldB X0 hx hZ e0 hV (j := (p2 + (2 : Int32))) (v := (.int w2)) hin2 hu2 (g := (mkF m 27 #[.val (.ref a1), .val (.int p2), .val (.int p3), .unset] [(.int (p2 + (2 : Int32))), (.ref a1), (.int (((w0 &&& (255 : Int32)) <<< ((24 : Int32) &&& 31)) ||| ((w1 &&& (255 : Int32)) <<< ((16 : Int32) &&& 31))))])) rfl rfl (hb hby d9_27) _ ?_
    show Steps p.tables e below (s₁.setTop (mkF m 28 #[.val (.ref a1), .val (.int p2), .val (.int p3), .unset] [(.int w2), (.int (((w0 &&& (255 : Int32)) <<< ((24 : Int32) &&& 31)) ||| ((w1 &&& (255 : Int32)) <<< ((16 : Int32) &&& 31))))])) _
    refine XS.sipush X0.here hx rfl (hb hby d9_28) ?_
    show Steps p.tables e below (s₁.setTop (mkF m 31 #[.val (.ref a1), .val (.int p2), .val (.int p3), .unset] [(.int (255 : Int32)), (.int w2), (.int (((w0 &&& (255 : Int32)) <<< ((24 : Int32) &&& 31)) ||| ((w1 &&& (255 : Int32)) <<< ((16 : Int32) &&& 31))))])) _
    refine XS.iand X0.here hx rfl (hb hby d9_31) rfl ?_
    show Steps p.tables e below (s₁.setTop (mkF m 32 #[.val (.ref a1), .val (.int p2), .val (.int p3), .unset] [(.int (w2 &&& (255 : Int32))), (.int (((w0 &&& (255 : Int32)) <<< ((24 : Int32) &&& 31)) ||| ((w1 &&& (255 : Int32)) <<< ((16 : Int32) &&& 31))))])) _
    refine XS.bipush X0.here hx rfl (hb hby d9_32) ?_
    show Steps p.tables e below (s₁.setTop (mkF m 34 #[.val (.ref a1), .val (.int p2), .val (.int p3), .unset] [(.int (8 : Int32)), (.int (w2 &&& (255 : Int32))), (.int (((w0 &&& (255 : Int32)) <<< ((24 : Int32) &&& 31)) ||| ((w1 &&& (255 : Int32)) <<< ((16 : Int32) &&& 31))))])) _
    refine XS.ishl X0.here hx rfl (hb hby d9_34) rfl ?_
    show Steps p.tables e below (s₁.setTop (mkF m 35 #[.val (.ref a1), .val (.int p2), .val (.int p3), .unset] [(.int ((w2 &&& (255 : Int32)) <<< ((8 : Int32) &&& 31))), (.int (((w0 &&& (255 : Int32)) <<< ((24 : Int32) &&& 31)) ||| ((w1 &&& (255 : Int32)) <<< ((16 : Int32) &&& 31))))])) _
    refine XS.ior X0.here hx rfl (hb hby d9_35) rfl ?_
    show Steps p.tables e below (s₁.setTop (mkF m 36 #[.val (.ref a1), .val (.int p2), .val (.int p3), .unset] [(.int ((((w0 &&& (255 : Int32)) <<< ((24 : Int32) &&& 31)) ||| ((w1 &&& (255 : Int32)) <<< ((16 : Int32) &&& 31))) ||| ((w2 &&& (255 : Int32)) <<< ((8 : Int32) &&& 31))))])) _
    refine XS.aloadN X0.here hx rfl (hb hby d9_36) rfl rfl ?_
    show Steps p.tables e below (s₁.setTop (mkF m 37 #[.val (.ref a1), .val (.int p2), .val (.int p3), .unset] [(.ref a1), (.int ((((w0 &&& (255 : Int32)) <<< ((24 : Int32) &&& 31)) ||| ((w1 &&& (255 : Int32)) <<< ((16 : Int32) &&& 31))) ||| ((w2 &&& (255 : Int32)) <<< ((8 : Int32) &&& 31))))])) _
    refine XS.iloadN X0.here hx rfl (hb hby d9_37) rfl ?_
    show Steps p.tables e below (s₁.setTop (mkF m 38 #[.val (.ref a1), .val (.int p2), .val (.int p3), .unset] [(.int p2), (.ref a1), (.int ((((w0 &&& (255 : Int32)) <<< ((24 : Int32) &&& 31)) ||| ((w1 &&& (255 : Int32)) <<< ((16 : Int32) &&& 31))) ||| ((w2 &&& (255 : Int32)) <<< ((8 : Int32) &&& 31))))])) _
    refine XS.iconst X0.here hx rfl (hb hby d9_38) ?_
    show Steps p.tables e below (s₁.setTop (mkF m 39 #[.val (.ref a1), .val (.int p2), .val (.int p3), .unset] [(.int (3 : Int32)), (.int p2), (.ref a1), (.int ((((w0 &&& (255 : Int32)) <<< ((24 : Int32) &&& 31)) ||| ((w1 &&& (255 : Int32)) <<< ((16 : Int32) &&& 31))) ||| ((w2 &&& (255 : Int32)) <<< ((8 : Int32) &&& 31))))])) _
    refine XS.iadd X0.here hx rfl (hb hby d9_39) rfl ?_
    show Steps p.tables e below (s₁.setTop (mkF m 40 #[.val (.ref a1), .val (.int p2), .val (.int p3), .unset] [(.int (p2 + (3 : Int32))), (.ref a1), (.int ((((w0 &&& (255 : Int32)) <<< ((24 : Int32) &&& 31)) ||| ((w1 &&& (255 : Int32)) <<< ((16 : Int32) &&& 31))) ||| ((w2 &&& (255 : Int32)) <<< ((8 : Int32) &&& 31))))])) _
    refine own_ldB X0 hx hZ e0 hV (j := (p2 + (3 : Int32))) (v := (.int w3)) hin3 hu3 (g := (mkF m 40 #[.val (.ref a1), .val (.int p2), .val (.int p3), .unset] [(.int (p2 + (3 : Int32))), (.ref a1), (.int ((((w0 &&& (255 : Int32)) <<< ((24 : Int32) &&& 31)) ||| ((w1 &&& (255 : Int32)) <<< ((16 : Int32) &&& 31))) ||| ((w2 &&& (255 : Int32)) <<< ((8 : Int32) &&& 31))))])) rfl rfl (hb hby d9_40) _ ?_
    show Steps p.tables e below (s₁.setTop (mkF m 41 #[.val (.ref a1), .val (.int p2), .val (.int p3), .unset] [(.int w3), (.int ((((w0 &&& (255 : Int32)) <<< ((24 : Int32) &&& 31)) ||| ((w1 &&& (255 : Int32)) <<< ((16 : Int32) &&& 31))) ||| ((w2 &&& (255 : Int32)) <<< ((8 : Int32) &&& 31))))])) _
    refine XS.sipush X0.here hx rfl (hb hby d9_41) ?_
    show Steps p.tables e below (s₁.setTop (mkF m 44 #[.val (.ref a1), .val (.int p2), .val (.int p3), .unset] [(.int (255 : Int32)), (.int w3), (.int ((((w0 &&& (255 : Int32)) <<< ((24 : Int32) &&& 31)) ||| ((w1 &&& (255 : Int32)) <<< ((16 : Int32) &&& 31))) ||| ((w2 &&& (255 : Int32)) <<< ((8 : Int32) &&& 31))))])) _
    refine XS.iand X0.here hx rfl (hb hby d9_44) rfl ?_
    show Steps p.tables e below (s₁.setTop (mkF m 45 #[.val (.ref a1), .val (.int p2), .val (.int p3), .unset] [(.int (w3 &&& (255 : Int32))), (.int ((((w0 &&& (255 : Int32)) <<< ((24 : Int32) &&& 31)) ||| ((w1 &&& (255 : Int32)) <<< ((16 : Int32) &&& 31))) ||| ((w2 &&& (255 : Int32)) <<< ((8 : Int32) &&& 31))))])) _
    refine XS.ior X0.here hx rfl (hb hby d9_45) rfl ?_
    show Steps p.tables e below (s₁.setTop (mkF m 46 #[.val (.ref a1), .val (.int p2), .val (.int p3), .unset] [(.int (((((w0 &&& (255 : Int32)) <<< ((24 : Int32) &&& 31)) ||| ((w1 &&& (255 : Int32)) <<< ((16 : Int32) &&& 31))) ||| ((w2 &&& (255 : Int32)) <<< ((8 : Int32) &&& 31))) ||| (w3 &&& (255 : Int32))))])) _
    refine XS.istoreN X0.here hx rfl (hb hby d9_46) rfl (l' := #[.val (.ref a1), .val (.int p2), .val (.int p3), .val (.int (((((w0 &&& (255 : Int32)) <<< ((24 : Int32) &&& 31)) ||| ((w1 &&& (255 : Int32)) <<< ((16 : Int32) &&& 31))) ||| ((w2 &&& (255 : Int32)) <<< ((8 : Int32) &&& 31))) ||| (w3 &&& (255 : Int32))))]) rfl ?_
    show Steps p.tables e below (s₁.setTop (mkF m 47 #[.val (.ref a1), .val (.int p2), .val (.int p3), .val (.int (((((w0 &&& (255 : Int32)) <<< ((24 : Int32) &&& 31)) ||| ((w1 &&& (255 : Int32)) <<< ((16 : Int32) &&& 31))) ||| ((w2 &&& (255 : Int32)) <<< ((8 : Int32) &&& 31))) ||| (w3 &&& (255 : Int32))))] [])) _
    refine XS.iloadN X0.here hx rfl (hb hby d9_47) rfl ?_
    show Steps p.tables e below (s₁.setTop (mkF m 48 #[.val (.ref a1), .val (.int p2), .val (.int p3), .val (.int (((((w0 &&& (255 : Int32)) <<< ((24 : Int32) &&& 31)) ||| ((w1 &&& (255 : Int32)) <<< ((16 : Int32) &&& 31))) ||| ((w2 &&& (255 : Int32)) <<< ((8 : Int32) &&& 31))) ||| (w3 &&& (255 : Int32))))] [(.int (((((w0 &&& (255 : Int32)) <<< ((24 : Int32) &&& 31)) ||| ((w1 &&& (255 : Int32)) <<< ((16 : Int32) &&& 31))) ||| ((w2 &&& (255 : Int32)) <<< ((8 : Int32) &&& 31))) ||| (w3 &&& (255 : Int32))))])) _
    refine XS.iloadN X0.here hx rfl (hb hby d9_48) rfl ?_
    show Steps p.tables e below (s₁.setTop (mkF m 49 #[.val (.ref a1), .val (.int p2), .val (.int p3), .val (.int (((((w0 &&& (255 : Int32)) <<< ((24 : Int32) &&& 31)) ||| ((w1 &&& (255 : Int32)) <<< ((16 : Int32) &&& 31))) ||| ((w2 &&& (255 : Int32)) <<< ((8 : Int32) &&& 31))) ||| (w3 &&& (255 : Int32))))] [(.int p3), (.int (((((w0 &&& (255 : Int32)) <<< ((24 : Int32) &&& 31)) ||| ((w1 &&& (255 : Int32)) <<< ((16 : Int32) &&& 31))) ||| ((w2 &&& (255 : Int32)) <<< ((8 : Int32) &&& 31))) ||| (w3 &&& (255 : Int32))))])) _
    refine XS.icmpNo X0.here hx rfl (hb hby d9_49) rfl (teq hc49).2 ?_
    show Steps p.tables e below (s₁.setTop (mkF m 52 #[.val (.ref a1), .val (.int p2), .val (.int p3), .val (.int (((((w0 &&& (255 : Int32)) <<< ((24 : Int32) &&& 31)) ||| ((w1 &&& (255 : Int32)) <<< ((16 : Int32) &&& 31))) ||| ((w2 &&& (255 : Int32)) <<< ((8 : Int32) &&& 31))) ||| (w3 &&& (255 : Int32))))] [])) _
    refine XS.iconst X0.here hx rfl (hb hby d9_52) ?_
    show Steps p.tables e below (s₁.setTop (mkF m 53 #[.val (.ref a1), .val (.int p2), .val (.int p3), .val (.int (((((w0 &&& (255 : Int32)) <<< ((24 : Int32) &&& 31)) ||| ((w1 &&& (255 : Int32)) <<< ((16 : Int32) &&& 31))) ||| ((w2 &&& (255 : Int32)) <<< ((8 : Int32) &&& 31))) ||| (w3 &&& (255 : Int32))))] [(.int (1 : Int32))])) _
    refine XS.goto X0.here hx rfl (pc0 := 53) (pc' := 57) rfl (hb hby d9_53) (by decide) (by decide) ?_
    show Steps p.tables e below (s₁.setTop (mkF m 57 #[.val (.ref a1), .val (.int p2), .val (.int p3), .val (.int (((((w0 &&& (255 : Int32)) <<< ((24 : Int32) &&& 31)) ||| ((w1 &&& (255 : Int32)) <<< ((16 : Int32) &&& 31))) ||| ((w2 &&& (255 : Int32)) <<< ((8 : Int32) &&& 31))) ||| (w3 &&& (255 : Int32))))] [(.int (1 : Int32))])) _
    exact retN X0 hx (t := .boolean) Bd.returns (by simp) (hb hby d9_57) hr
  · show QP (some (.int (1 : Int32))) h0 n0 _ s₁.heap _
    rw [e0]
    exact ⟨rfl, N0, rfl⟩
theorem own_join (v w0 w1 w2 w3 : Int32) (e0 : w0 = byK v 24) (e1 : w1 = byK v 16) (e2 : w2 = byK v 8) (e3 : w3 = by0 v) : (((((w0 &&& (255 : Int32)) <<< ((24 : Int32) &&& 31)) ||| ((w1 &&& (255 : Int32)) <<< ((16 : Int32) &&& 31))) ||| ((w2 &&& (255 : Int32)) <<< ((8 : Int32) &&& 31))) ||| (w3 &&& (255 : Int32))) = v := by
  subst e0 e1 e2 e3
  unfold byK by0
  have r := rng32 v
  have a1 := c_iushr v 24 24 (by decide) (by decide)
  have a2 := c_iushr v 16 16 (by decide) (by decide)
  have a3 := c_iushr v 8 8 (by decide) (by decide)
  generalize (v.toUInt32 >>> ((24 : Int32) &&& 31).toUInt32).toInt32 = x1 at *
  generalize (v.toUInt32 >>> ((16 : Int32) &&& 31).toUInt32).toInt32 = x2 at *
  generalize (v.toUInt32 >>> ((8 : Int32) &&& 31).toUInt32).toInt32 = x3 at *
  have b1 := c_i2b x1
  have b2 := c_i2b x2
  have b3 := c_i2b x3
  have b4 := c_i2b v
  have m1 := c_mask x1.toInt8.toInt32 255 8 (by decide) (by decide)
  have m2 := c_mask x2.toInt8.toInt32 255 8 (by decide) (by decide)
  have m3 := c_mask x3.toInt8.toInt32 255 8 (by decide) (by decide)
  have m4 := c_mask v.toInt8.toInt32 255 8 (by decide) (by decide)
  generalize x1.toInt8.toInt32 &&& (255 : Int32) = y1 at *
  generalize x2.toInt8.toInt32 &&& (255 : Int32) = y2 at *
  generalize x3.toInt8.toInt32 &&& (255 : Int32) = y3 at *
  generalize v.toInt8.toInt32 &&& (255 : Int32) = y4 at *
  have s1 := c_ishl y1 24 24 (by decide)
  have s2 := c_ishl y2 16 16 (by decide)
  have s3 := c_ishl y3 8 8 (by decide)
  generalize y1 <<< ((24 : Int32) &&& 31) = z1 at *
  generalize y2 <<< ((16 : Int32) &&& 31) = z2 at *
  generalize y3 <<< ((8 : Int32) &&& 31) = z3 at *
  have t1 := rng32 z1
  have t2 := rng32 z2
  have t3 := rng32 z3
  have o1 := c_or z1 z2 24 (by decide) 16777216 (by decide) (by omega) (by omega) (by omega)
  have t4 := rng32 (z1 ||| z2)
  have o2 := c_or (z1 ||| z2) z3 16 (by decide) 65536 (by decide) (by omega) (by omega) (by omega)
  have t5 := rng32 (z1 ||| z2 ||| z3)
  have o3 := c_or (z1 ||| z2 ||| z3) y4 8 (by decide) 256 (by decide) (by omega) (by omega) (by omega)
  have t6 := rng32 (z1 ||| z2 ||| z3 ||| y4)
  apply Int32.toInt_inj.mp
  omega
theorem pn_0 : plainName "com/example/periodica/periodica/ledger/OutToByteArrayPinLaw" = true := by first | (simp [plainName, overriddenIn]; done) | decide +kernel
theorem pd_0_0 : parseMethodDescriptor "()V" = some ⟨[], none⟩ := by decide +kernel
theorem pd_0_1 : parseMethodDescriptor "()[B" = some ⟨[], some (.array .byte)⟩ := by decide +kernel
theorem pd_0_5 : parseMethodDescriptor "(I)V" = some ⟨[.int], none⟩ := by decide +kernel
theorem ef_0 (m : MethodId) (x0 : Int32) (x1 : Int32) (x2 : Int32) (x3 : Int32) : entryFrame m #[(.int x0), (.int x1), (.int x2), (.int x3)] maxLocals = mkF m 0 #[.val (.int x0), .val (.int x1), .val (.int x2), .val (.int x3), .unset, .unset, .unset, .unset, .unset, .unset, .unset] [] := by first | (simp [entryFrame, mkF, argsToLocals, Value.category, maxLocals]; done) | rfl
set_option maxRecDepth 65536 in
set_option maxHeartbeats 40000000 in
theorem rm0_0 (l : Launch) (Z : State) (a0 : Array Value) (hw : ∀ d ∈ tables_1, d.before a0 Z = true) (ws : List Jvm.Cond) (p1 p2 p3 p4 : Int32) (h0 : Heap) (n0 : Nat) (Z0 : n0 ≤ h0.size) (hc17 : (p1 &&& (3 : Int32)) < (1 : Int32)) (hc29 : (p1 &&& (3 : Int32)) < (2 : Int32)) (hc41 : (p1 &&& (3 : Int32)) < (3 : Int32)) (hc59 : (p1 &&& (3 : Int32)) = (0 : Int32)) (hc103 : (p1 &&& (3 : Int32)) < (1 : Int32)) (hc121 : (p1 &&& (3 : Int32)) < (2 : Int32)) (hc142 : (p1 &&& (3 : Int32)) < (3 : Int32)) (hc165 : ¬ ((0 : Int32) < (0 : Int32))) (hc214 : (1 : Int32) = ((0 : Int32) + (1 : Int32))) (hc221 : ¬ ((0 : Int32) < (0 : Int32))) (hc237 : ¬ ((0 : Int32) < (0 : Int32))) (hc265 : (by0 p4) = ((p4 &&& (255 : Int32)).toInt8.toInt32)) (hc272 : ¬ ((0 : Int32) < (0 : Int32))) :
    MetFree l x (head1 (Jvm.Cond.code x code maxLocals ret :: ws) room_1) (fun a U => a = #[(.int p1), (.int p2), (.int p3), (.int p4)] ∧ Z.Warmed39 U.vm ∧ U.heap = h0) (fun _ _ _ _ _ => True) (fun _ U o U' => ∃ v L, o = .returned v ∧ Q0 n0 v L ∧ FrameEnd U o U' L 4 162) := by
  refine MetFree.of_bodySF (plainFor_of_name pn_0) hisR ?_
  intro p e s m args below meth c s₁ Bd hml0 hP hK
  obtain ⟨rfl, hZ, hh⟩ := hP
  have hx := Bd.exec
  have hby := Bd.bytes
  have hml : c.maxLocals = 11 := hml0
  have hown : s.vm.findClass "com/example/periodica/periodica/ledger/OutToByteArrayPinLaw" = some m.cls := findClass_of_methodNamed Bd.named
  have hnm := (name_of_methodNamed Bd.named Bd.method).1
  have X0 : Stand p l e room_1 s m #[(.int p1), (.int p2), (.int p3), (.int p4)] below meth c s₁ [] 0 0 := Stand.of_body Bd
  have e0 : s₁.heap = h0 := by rw [← hh, Bd.state]; rfl
  have N0 := Fr.nil n0
  have pre0 : ∀ t, Steps p.tables e below (s₁.setTop (mkF m 0 #[.val (.int p1), .val (.int p2), .val (.int p3), .val (.int p4), .unset, .unset, .unset, .unset, .unset, .unset, .unset] [])) t → Steps p.tables e below (s₁.setTop (entryFrame m #[(.int p1), (.int p2), (.int p3), (.int p4)] maxLocals)) t := fun t k => castTop (ef_0 m p1 p2 p3 p4) k
  obtain ⟨T5, h5, X5, e5, E5, A5, D5, -, st5⟩ := newO X0 hx hZ hown (hw _ (List.mem_of_getElem? (i := 0) rfl)) (hw _ (List.mem_of_getElem? (i := 1) rfl)) (hw _ (List.mem_of_getElem? (i := 2) rfl)) e0 (g := (mkF m 0 #[.val (.int p1), .val (.int p2), .val (.int p3), .val (.int p4), .unset, .unset, .unset, .unset, .unset, .unset, .unset] [])) rfl (hb hby at_0) (by decide) (by decide)
  obtain ⟨b5, g5⟩ : ∃ z, z = h0.size := ⟨_, rfl⟩
  rw [← g5] at A5 D5 st5
  have F_bytes_b5 : Fld Z h5 b5 "com/example/periodica/periodica/ledger/StoredFields$Out" "bytes" "[B" .null := D5 (Or.inl (hw _ (List.mem_of_getElem? (i := 11) rfl))) (ty := (.array .byte)) (by decide)
  have F_size_b5 : Fld Z h5 b5 "com/example/periodica/periodica/ledger/StoredFields$Out" "size" "I" (.int (0 : Int32)) := D5 (Or.inl (hw _ (List.mem_of_getElem? (i := 18) rfl))) (ty := .int) (by decide)
  have E_b5 := A5
  have g_b5 : n0 ≤ b5 := Nat.le_trans Z0 (Nat.le_of_eq g5.symm)
  obtain ⟨_, _, ⟨T6, L6, k6, n6⟩, -, X6, ⟨Lc6, hQ6, l6, y6, z6⟩, st6⟩ := X5.specialBack hx (y := (⟨"com/example/periodica/periodica/ledger/StoredFields$Out", "<init>", "()V"⟩ : MethodName)) rfl hown (mvT hZ (hw _ (List.mem_of_getElem? (i := 3) rfl))) (mvT hZ (hw _ (List.mem_of_getElem? (i := 4) rfl))) (mvT hZ (hw _ (List.mem_of_getElem? (i := 5) rfl))) (by decide) (backOf (W := 1) (rm1 l Z a0 hw [] b5 _ h5 n0 (Nat.le_trans Z0 E5.1) E_b5 F_bytes_b5 F_size_b5 g_b5) hZ (hw _ (List.mem_of_getElem? (i := 5) rfl)) (hw _ (List.mem_of_getElem? (i := 2) rfl)) (by decide) (by decide)) (g := (mkF m 4 #[.val (.int p1), .val (.int p2), .val (.int p3), .val (.int p4), .unset, .unset, .unset, .unset, .unset, .unset, .unset] [(.ref b5), (.ref b5)])) rfl (by rw [hml]; rfl) (Steps.refl _) (a := b5) (argsL := []) (rest := [(.ref b5)]) (lenOf pd_0_0 rfl) rfl (by show 2 * 0 + _ ≤ _; exact Nat.le_of_eq rfl) (hb hby at_4) (fun _ _ => ⟨rfl, e5, (by decide : 1 + 1 ≤ _), (by decide : 2 + 128 ≤ _)⟩)
  dsimp only [Pt.U, Pt.locs, Pt.cells, Pt.slots] at X6 l6 y6 z6 st6 hQ6
  subst l6 y6 z6
  obtain ⟨rfl, N6q, b6x, k6x, g_b6x, O6⟩ := hQ6
  have ne_b5_b6x := O6.2.2.2.2
  have N6 := Fr.app N0 N6q
  obtain ⟨cq7, kq7, q7a, q7b, q7c⟩ := isOf hZ rfl O6.1
  obtain ⟨_, _, ⟨T7, L7, k7, n7⟩, -, X7, ⟨Lc7, hQ7, l7, y7, z7⟩, st7⟩ := X6.virtualBack hx (y := (⟨"com/example/periodica/periodica/ledger/StoredFields$Out", "toByteArray", "()[B"⟩ : MethodName)) (z := (⟨"com/example/periodica/periodica/ledger/StoredFields$Out", "toByteArray", "()[B"⟩ : MethodName)) hown (mvT hZ (hw _ (List.mem_of_getElem? (i := 12) rfl))) (mvT hZ (hw _ (List.mem_of_getElem? (i := 13) rfl))) (notFace_of_selects (args := #[]) (mvT hZ (hw _ (List.mem_of_getElem? (i := 15) rfl)))) (mvT hZ (hw _ (List.mem_of_getElem? (i := 15) rfl))) (mvT hZ (hw _ (List.mem_of_getElem? (i := 14) rfl))) (by decide) (backOf (W := 0) (rm3 l Z a0 hw [] b5 b6x k6x (0 : Int32) [] T6.heap n0 (Nat.le_trans g_b5 (Nat.le_of_lt O6.1.lt)) ⟨O6.1, O6.2.1, O6.2.2.1, O6.2.2.2.1, ne_b5_b6x⟩ rfl (by decide) (by decide) (by decide) (by decide) (by decide)) hZ (hw _ (List.mem_of_getElem? (i := 16) rfl)) (hw _ (List.mem_of_getElem? (i := 2) rfl)) (by decide) (by decide)) q7a q7c (g := (mkF m 52 #[.val (.int p1), .val (.int p2), .val (.int p3), .val (.int p4), .val (.ref b5), .val (.int (p1 &&& (3 : Int32))), .unset, .unset, .unset, .unset, .unset] [(.ref b5)])) rfl (by rw [hml]; rfl) (Steps.refl _) (argsL := []) (rest := []) (lenOf pd_0_1 rfl) rfl (by show 2 * 0 + _ ≤ _; exact Nat.le_of_eq rfl) (hb hby at_52) (fun _ _ => ⟨rfl, rfl, (by decide : 2 + 1 ≤ _), (by decide : 130 + 16 ≤ _)⟩)
  dsimp only [Pt.U, Pt.locs, Pt.cells, Pt.slots] at X7 l7 y7 z7 st7 hQ7
  subst l7 y7 z7
  obtain ⟨r7, kr7, rfl, N7q, K7, hr7, V7⟩ := hQ7
  have ne_b5_r7 : b5 ≠ r7 := Nat.ne_of_lt (Nat.lt_of_lt_of_le O6.1.lt hr7)
  have ne_b6x_r7 : b6x ≠ r7 := Nat.ne_of_lt (Nat.lt_of_lt_of_le O6.2.2.2.1.lt hr7)
  have g_r7 : n0 ≤ r7 := Nat.le_trans (Nat.le_trans g_b5 (Nat.le_of_lt O6.1.lt)) hr7
  have N7 := Fr.app N6 N7q
  obtain ⟨cq8, kq8, q8a, q8b, q8c⟩ := isOf hZ rfl (O6.1.keep K7)
  obtain ⟨_, _, ⟨T8, L8, k8, n8⟩, -, X8, ⟨Lc8, hQ8, l8, y8, z8⟩, st8⟩ := X7.virtualBack hx (y := (⟨"com/example/periodica/periodica/ledger/StoredFields$Out", "writeByte", "(I)V"⟩ : MethodName)) (z := (⟨"com/example/periodica/periodica/ledger/StoredFields$Out", "writeByte", "(I)V"⟩ : MethodName)) hown (mvT hZ (hw _ (List.mem_of_getElem? (i := 31) rfl))) (mvT hZ (hw _ (List.mem_of_getElem? (i := 32) rfl))) (notFace_of_selects (args := #[]) (mvT hZ (hw _ (List.mem_of_getElem? (i := 34) rfl)))) (mvT hZ (hw _ (List.mem_of_getElem? (i := 34) rfl))) (mvT hZ (hw _ (List.mem_of_getElem? (i := 33) rfl))) (by decide) (backOf (W := 0) (rm6 l Z a0 hw [] b5 p4 b6x k6x (0 : Int32) [] (1 : Int32) T7.heap n0 (Nat.le_trans g_b5 (Nat.le_of_lt (O6.1.keep K7).lt)) ⟨(O6.1.keep K7), (O6.2.1.keep K7 nin0), (O6.2.2.1.keep K7 nin0), (O6.2.2.2.1.keep K7 nin0), ne_b5_b6x⟩ (by decide) g_b5 g_b6x (by decide) (by decide) rfl) hZ (hw _ (List.mem_of_getElem? (i := 35) rfl)) (hw _ (List.mem_of_getElem? (i := 2) rfl)) (by decide) (by decide)) q8a q8c (g := (mkF m 197 #[.val (.int p1), .val (.int p2), .val (.int p3), .val (.int p4), .val (.ref b5), .val (.int (p1 &&& (3 : Int32))), .val (.ref r7), .val (.int (0 : Int32)), .val (.int (0 : Int32)), .val (.int (0 : Int32)), .unset] [(.int p4), (.ref b5)])) rfl (by rw [hml]; rfl) (Steps.refl _) (argsL := [(.int p4)]) (rest := []) (lenOf pd_0_5 rfl) rfl (by show 2 * 0 + _ ≤ _; exact Nat.le_of_eq rfl) (hb hby at_197) (fun _ _ => ⟨rfl, rfl, (by decide : 3 + 0 ≤ _), (by decide : 146 + 0 ≤ _)⟩)
  dsimp only [Pt.U, Pt.locs, Pt.cells, Pt.slots] at X8 l8 y8 z8 st8 hQ8
  subst l8 y8 z8
  obtain ⟨rfl, N8q, K8, O8⟩ := hQ8
  have N8 := Fr.app N7 N8q
  obtain ⟨cq9, kq9, q9a, q9b, q9c⟩ := isOf hZ rfl O8.1
  obtain ⟨_, _, ⟨T9, L9, k9, n9⟩, -, X9, ⟨Lc9, hQ9, l9, y9, z9⟩, st9⟩ := X8.virtualBack hx (y := (⟨"com/example/periodica/periodica/ledger/StoredFields$Out", "toByteArray", "()[B"⟩ : MethodName)) (z := (⟨"com/example/periodica/periodica/ledger/StoredFields$Out", "toByteArray", "()[B"⟩ : MethodName)) hown (mvT hZ (hw _ (List.mem_of_getElem? (i := 12) rfl))) (mvT hZ (hw _ (List.mem_of_getElem? (i := 13) rfl))) (notFace_of_selects (args := #[]) (mvT hZ (hw _ (List.mem_of_getElem? (i := 15) rfl)))) (mvT hZ (hw _ (List.mem_of_getElem? (i := 15) rfl))) (mvT hZ (hw _ (List.mem_of_getElem? (i := 14) rfl))) (by decide) (backOf (W := 0) (rm3 l Z a0 hw [] b5 b6x k6x (1 : Int32) ([] ++ [.int (by0 p4)]) T8.heap n0 (Nat.le_trans g_b5 (Nat.le_of_lt O8.1.lt)) ⟨O8.1, O8.2.1, O8.2.2.1, O8.2.2.2.1, ne_b5_b6x⟩ rfl (by decide) (by decide) (by decide) (by decide) (by decide)) hZ (hw _ (List.mem_of_getElem? (i := 16) rfl)) (hw _ (List.mem_of_getElem? (i := 2) rfl)) (by decide) (by decide)) q9a q9c (g := (mkF m 202 #[.val (.int p1), .val (.int p2), .val (.int p3), .val (.int p4), .val (.ref b5), .val (.int (p1 &&& (3 : Int32))), .val (.ref r7), .val (.int (0 : Int32)), .val (.int (0 : Int32)), .val (.int (0 : Int32)), .unset] [(.ref b5)])) rfl (by rw [hml]; rfl) (Steps.refl _) (argsL := []) (rest := []) (lenOf pd_0_1 rfl) rfl (by show 2 * 0 + _ ≤ _; exact Nat.le_of_eq rfl) (hb hby at_202) (fun _ _ => ⟨rfl, rfl, (by decide : 3 + 1 ≤ _), (by decide : 146 + 16 ≤ _)⟩)
  dsimp only [Pt.U, Pt.locs, Pt.cells, Pt.slots] at X9 l9 y9 z9 st9 hQ9
  subst l9 y9 z9
  obtain ⟨r9, kr9, rfl, N9q, K9, hr9, V9⟩ := hQ9
  have ne_b5_r9 : b5 ≠ r9 := Nat.ne_of_lt (Nat.lt_of_lt_of_le O8.1.lt hr9)
  have ne_b6x_r9 : b6x ≠ r9 := Nat.ne_of_lt (Nat.lt_of_lt_of_le O8.2.2.2.1.lt hr9)
  have g_r9 : n0 ≤ r9 := Nat.le_trans (Nat.le_trans g_b5 (Nat.le_of_lt O8.1.lt)) hr9
  have ne_r7_r9 : r7 ≠ r9 := Nat.ne_of_lt (Nat.lt_of_lt_of_le (V7.keep K8 (ninS (Ne.symm ne_b5_r7) (ninS (Ne.symm ne_b6x_r7) nin0))).lt hr9)
  have N9 := Fr.app N8 N9q
  obtain ⟨fs, hr, hrun, hended, hW, hsame⟩ := X9.leave (v := some (.int (1 : Int32))) (fun h => by rw [Bd.returns] at h; cases h)
  refine ⟨_, _, pre0 _ ?_, hrun, hended, _, _, rfl, ?_, ⟨_, rfl⟩, hW, hsame.mono (by decide) (by decide)⟩
  · show Steps p.tables e below (s₁.setTop (mkF m 0 #[.val (.int p1), .val (.int p2), .val (.int p3), .val (.int p4), .unset, .unset, .unset, .unset, .unset, .unset, .unset] [])) _
    refine st5 _ ?_
    show Steps p.tables e below (T5.setTop (mkF m 3 #[.val (.int p1), .val (.int p2), .val (.int p3), .val (.int p4), .unset, .unset, .unset, .unset, .unset, .unset, .unset] [(.ref b5)])) _
    refine XS.dup X5.here hx rfl (hb hby at_3) rfl rfl ?_
    show Steps p.tables e below (T5.setTop (mkF m 4 #[.val (.int p1), .val (.int p2), .val (.int p3), .val (.int p4), .unset, .unset, .unset, .unset, .unset, .unset, .unset] [(.ref b5), (.ref b5)])) _
    refine st6.trans ?_
    show Steps p.tables e below (T6.setTop (mkF m 7 #[.val (.int p1), .val (.int p2), .val (.int p3), .val (.int p4), .unset, .unset, .unset, .unset, .unset, .unset, .unset] [(.ref b5)])) _
    refine XS.astore X6.here hx rfl (hb hby at_7) rfl rfl (l' := #[.val (.int p1), .val (.int p2), .val (.int p3), .val (.int p4), .val (.ref b5), .unset, .unset, .unset, .unset, .unset, .unset]) rfl ?_
    show Steps p.tables e below (T6.setTop (mkF m 9 #[.val (.int p1), .val (.int p2), .val (.int p3), .val (.int p4), .val (.ref b5), .unset, .unset, .unset, .unset, .unset, .unset] [])) _
    refine XS.iloadN X6.here hx rfl (hb hby at_9) rfl ?_
    show Steps p.tables e below (T6.setTop (mkF m 10 #[.val (.int p1), .val (.int p2), .val (.int p3), .val (.int p4), .val (.ref b5), .unset, .unset, .unset, .unset, .unset, .unset] [(.int p1)])) _
    refine XS.iconst X6.here hx rfl (hb hby at_10) ?_
    show Steps p.tables e below (T6.setTop (mkF m 11 #[.val (.int p1), .val (.int p2), .val (.int p3), .val (.int p4), .val (.ref b5), .unset, .unset, .unset, .unset, .unset, .unset] [(.int (3 : Int32)), (.int p1)])) _
    refine XS.iand X6.here hx rfl (hb hby at_11) rfl ?_
    show Steps p.tables e below (T6.setTop (mkF m 12 #[.val (.int p1), .val (.int p2), .val (.int p3), .val (.int p4), .val (.ref b5), .unset, .unset, .unset, .unset, .unset, .unset] [(.int (p1 &&& (3 : Int32)))])) _
    refine XS.istore X6.here hx rfl (hb hby at_12) rfl (l' := #[.val (.int p1), .val (.int p2), .val (.int p3), .val (.int p4), .val (.ref b5), .val (.int (p1 &&& (3 : Int32))), .unset, .unset, .unset, .unset, .unset]) rfl ?_
    show Steps p.tables e below (T6.setTop (mkF m 14 #[.val (.int p1), .val (.int p2), .val (.int p3), .val (.int p4), .val (.ref b5), .val (.int (p1 &&& (3 : Int32))), .unset, .unset, .unset, .unset, .unset] [])) _
    refine XS.iload X6.here hx rfl (hb hby at_14) rfl ?_
    show Steps p.tables e below (T6.setTop (mkF m 16 #[.val (.int p1), .val (.int p2), .val (.int p3), .val (.int p4), .val (.ref b5), .val (.int (p1 &&& (3 : Int32))), .unset, .unset, .unset, .unset, .unset] [(.int (p1 &&& (3 : Int32)))])) _
    refine XS.iconst X6.here hx rfl (hb hby at_16) ?_
    show Steps p.tables e below (T6.setTop (mkF m 17 #[.val (.int p1), .val (.int p2), .val (.int p3), .val (.int p4), .val (.ref b5), .val (.int (p1 &&& (3 : Int32))), .unset, .unset, .unset, .unset, .unset] [(.int (1 : Int32)), (.int (p1 &&& (3 : Int32)))])) _
    refine XS.icmpYes X6.here hx rfl (pc0 := 17) (pc' := 26) rfl (hb hby at_17) rfl (tlt hc17).1 (by decide) (by decide) ?_
    show Steps p.tables e below (T6.setTop (mkF m 26 #[.val (.int p1), .val (.int p2), .val (.int p3), .val (.int p4), .val (.ref b5), .val (.int (p1 &&& (3 : Int32))), .unset, .unset, .unset, .unset, .unset] [])) _
    refine XS.iload X6.here hx rfl (hb hby at_26) rfl ?_
    show Steps p.tables e below (T6.setTop (mkF m 28 #[.val (.int p1), .val (.int p2), .val (.int p3), .val (.int p4), .val (.ref b5), .val (.int (p1 &&& (3 : Int32))), .unset, .unset, .unset, .unset, .unset] [(.int (p1 &&& (3 : Int32)))])) _
    refine XS.iconst X6.here hx rfl (hb hby at_28) ?_
    show Steps p.tables e below (T6.setTop (mkF m 29 #[.val (.int p1), .val (.int p2), .val (.int p3), .val (.int p4), .val (.ref b5), .val (.int (p1 &&& (3 : Int32))), .unset, .unset, .unset, .unset, .unset] [(.int (2 : Int32)), (.int (p1 &&& (3 : Int32)))])) _
    refine XS.icmpYes X6.here hx rfl (pc0 := 29) (pc' := 38) rfl (hb hby at_29) rfl (tlt hc29).1 (by decide) (by decide) ?_
    show Steps p.tables e below (T6.setTop (mkF m 38 #[.val (.int p1), .val (.int p2), .val (.int p3), .val (.int p4), .val (.ref b5), .val (.int (p1 &&& (3 : Int32))), .unset, .unset, .unset, .unset, .unset] [])) _
    refine XS.iload X6.here hx rfl (hb hby at_38) rfl ?_
    show Steps p.tables e below (T6.setTop (mkF m 40 #[.val (.int p1), .val (.int p2), .val (.int p3), .val (.int p4), .val (.ref b5), .val (.int (p1 &&& (3 : Int32))), .unset, .unset, .unset, .unset, .unset] [(.int (p1 &&& (3 : Int32)))])) _
    refine XS.iconst X6.here hx rfl (hb hby at_40) ?_
    show Steps p.tables e below (T6.setTop (mkF m 41 #[.val (.int p1), .val (.int p2), .val (.int p3), .val (.int p4), .val (.ref b5), .val (.int (p1 &&& (3 : Int32))), .unset, .unset, .unset, .unset, .unset] [(.int (3 : Int32)), (.int (p1 &&& (3 : Int32)))])) _
    refine XS.icmpYes X6.here hx rfl (pc0 := 41) (pc' := 50) rfl (hb hby at_41) rfl (tlt hc41).1 (by decide) (by decide) ?_
    show Steps p.tables e below (T6.setTop (mkF m 50 #[.val (.int p1), .val (.int p2), .val (.int p3), .val (.int p4), .val (.ref b5), .val (.int (p1 &&& (3 : Int32))), .unset, .unset, .unset, .unset, .unset] [])) _
    refine XS.aload X6.here hx rfl (hb hby at_50) rfl rfl ?_
    show Steps p.tables e below (T6.setTop (mkF m 52 #[.val (.int p1), .val (.int p2), .val (.int p3), .val (.int p4), .val (.ref b5), .val (.int (p1 &&& (3 : Int32))), .unset, .unset, .unset, .unset, .unset] [(.ref b5)])) _
    refine st7.trans ?_
    show Steps p.tables e below (T7.setTop (mkF m 55 #[.val (.int p1), .val (.int p2), .val (.int p3), .val (.int p4), .val (.ref b5), .val (.int (p1 &&& (3 : Int32))), .unset, .unset, .unset, .unset, .unset] [(.ref r7)])) _
    refine XS.astore X7.here hx rfl (hb hby at_55) rfl rfl (l' := #[.val (.int p1), .val (.int p2), .val (.int p3), .val (.int p4), .val (.ref b5), .val (.int (p1 &&& (3 : Int32))), .val (.ref r7), .unset, .unset, .unset, .unset]) rfl ?_
    show Steps p.tables e below (T7.setTop (mkF m 57 #[.val (.int p1), .val (.int p2), .val (.int p3), .val (.int p4), .val (.ref b5), .val (.int (p1 &&& (3 : Int32))), .val (.ref r7), .unset, .unset, .unset, .unset] [])) _
    refine XS.iload X7.here hx rfl (hb hby at_57) rfl ?_
    show Steps p.tables e below (T7.setTop (mkF m 59 #[.val (.int p1), .val (.int p2), .val (.int p3), .val (.int p4), .val (.ref b5), .val (.int (p1 &&& (3 : Int32))), .val (.ref r7), .unset, .unset, .unset, .unset] [(.int (p1 &&& (3 : Int32)))])) _
    refine XS.ifNo X7.here hx rfl (hb hby at_59) rfl ((if0 _ _).trans (teq hc59).2) ?_
    show Steps p.tables e below (T7.setTop (mkF m 62 #[.val (.int p1), .val (.int p2), .val (.int p3), .val (.int p4), .val (.ref b5), .val (.int (p1 &&& (3 : Int32))), .val (.ref r7), .unset, .unset, .unset, .unset] [])) _
    refine XS.iconst X7.here hx rfl (hb hby at_62) ?_
    show Steps p.tables e below (T7.setTop (mkF m 63 #[.val (.int p1), .val (.int p2), .val (.int p3), .val (.int p4), .val (.ref b5), .val (.int (p1 &&& (3 : Int32))), .val (.ref r7), .unset, .unset, .unset, .unset] [(.int (0 : Int32))])) _
    refine XS.goto X7.here hx rfl (pc0 := 63) (pc' := 88) rfl (hb hby at_63) (by decide) (by decide) ?_
    show Steps p.tables e below (T7.setTop (mkF m 88 #[.val (.int p1), .val (.int p2), .val (.int p3), .val (.int p4), .val (.ref b5), .val (.int (p1 &&& (3 : Int32))), .val (.ref r7), .unset, .unset, .unset, .unset] [(.int (0 : Int32))])) _
    refine XS.istore X7.here hx rfl (hb hby at_88) rfl (l' := #[.val (.int p1), .val (.int p2), .val (.int p3), .val (.int p4), .val (.ref b5), .val (.int (p1 &&& (3 : Int32))), .val (.ref r7), .val (.int (0 : Int32)), .unset, .unset, .unset]) rfl ?_
    show Steps p.tables e below (T7.setTop (mkF m 90 #[.val (.int p1), .val (.int p2), .val (.int p3), .val (.int p4), .val (.ref b5), .val (.int (p1 &&& (3 : Int32))), .val (.ref r7), .val (.int (0 : Int32)), .unset, .unset, .unset] [])) _
    refine XS.aload X7.here hx rfl (hb hby at_90) rfl rfl ?_
    show Steps p.tables e below (T7.setTop (mkF m 92 #[.val (.int p1), .val (.int p2), .val (.int p3), .val (.int p4), .val (.ref b5), .val (.int (p1 &&& (3 : Int32))), .val (.ref r7), .val (.int (0 : Int32)), .unset, .unset, .unset] [(.ref r7)])) _
    refine own_len X7 hx hZ rfl V7 (g := (mkF m 92 #[.val (.int p1), .val (.int p2), .val (.int p3), .val (.int p4), .val (.ref b5), .val (.int (p1 &&& (3 : Int32))), .val (.ref r7), .val (.int (0 : Int32)), .unset, .unset, .unset] [(.ref r7)])) rfl rfl (hb hby at_92) _ ?_
    show Steps p.tables e below (T7.setTop (mkF m 93 #[.val (.int p1), .val (.int p2), .val (.int p3), .val (.int p4), .val (.ref b5), .val (.int (p1 &&& (3 : Int32))), .val (.ref r7), .val (.int (0 : Int32)), .unset, .unset, .unset] [(.int (0 : Int32))])) _
    refine XS.iload X7.here hx rfl (hb hby at_93) rfl ?_
    show Steps p.tables e below (T7.setTop (mkF m 95 #[.val (.int p1), .val (.int p2), .val (.int p3), .val (.int p4), .val (.ref b5), .val (.int (p1 &&& (3 : Int32))), .val (.ref r7), .val (.int (0 : Int32)), .unset, .unset, .unset] [(.int (0 : Int32)), (.int (0 : Int32))])) _
    refine XS.icmpYes X7.here hx rfl (pc0 := 95) (pc' := 100) rfl (hb hby at_95) rfl (teq (rfl : (0 : Int32) = (0 : Int32))).1 (by decide) (by decide) ?_
    show Steps p.tables e below (T7.setTop (mkF m 100 #[.val (.int p1), .val (.int p2), .val (.int p3), .val (.int p4), .val (.ref b5), .val (.int (p1 &&& (3 : Int32))), .val (.ref r7), .val (.int (0 : Int32)), .unset, .unset, .unset] [])) _
    refine XS.iload X7.here hx rfl (hb hby at_100) rfl ?_
    show Steps p.tables e below (T7.setTop (mkF m 102 #[.val (.int p1), .val (.int p2), .val (.int p3), .val (.int p4), .val (.ref b5), .val (.int (p1 &&& (3 : Int32))), .val (.ref r7), .val (.int (0 : Int32)), .unset, .unset, .unset] [(.int (p1 &&& (3 : Int32)))])) _
    refine XS.iconst X7.here hx rfl (hb hby at_102) ?_
    show Steps p.tables e below (T7.setTop (mkF m 103 #[.val (.int p1), .val (.int p2), .val (.int p3), .val (.int p4), .val (.ref b5), .val (.int (p1 &&& (3 : Int32))), .val (.ref r7), .val (.int (0 : Int32)), .unset, .unset, .unset] [(.int (1 : Int32)), (.int (p1 &&& (3 : Int32)))])) _
    refine XS.icmpYes X7.here hx rfl (pc0 := 103) (pc' := 118) rfl (hb hby at_103) rfl (tlt hc103).1 (by decide) (by decide) ?_
    show Steps p.tables e below (T7.setTop (mkF m 118 #[.val (.int p1), .val (.int p2), .val (.int p3), .val (.int p4), .val (.ref b5), .val (.int (p1 &&& (3 : Int32))), .val (.ref r7), .val (.int (0 : Int32)), .unset, .unset, .unset] [])) _
    refine XS.iload X7.here hx rfl (hb hby at_118) rfl ?_
    show Steps p.tables e below (T7.setTop (mkF m 120 #[.val (.int p1), .val (.int p2), .val (.int p3), .val (.int p4), .val (.ref b5), .val (.int (p1 &&& (3 : Int32))), .val (.ref r7), .val (.int (0 : Int32)), .unset, .unset, .unset] [(.int (p1 &&& (3 : Int32)))])) _
    refine XS.iconst X7.here hx rfl (hb hby at_120) ?_
    show Steps p.tables e below (T7.setTop (mkF m 121 #[.val (.int p1), .val (.int p2), .val (.int p3), .val (.int p4), .val (.ref b5), .val (.int (p1 &&& (3 : Int32))), .val (.ref r7), .val (.int (0 : Int32)), .unset, .unset, .unset] [(.int (2 : Int32)), (.int (p1 &&& (3 : Int32)))])) _
    refine XS.icmpYes X7.here hx rfl (pc0 := 121) (pc' := 139) rfl (hb hby at_121) rfl (tlt hc121).1 (by decide) (by decide) ?_
    show Steps p.tables e below (T7.setTop (mkF m 139 #[.val (.int p1), .val (.int p2), .val (.int p3), .val (.int p4), .val (.ref b5), .val (.int (p1 &&& (3 : Int32))), .val (.ref r7), .val (.int (0 : Int32)), .unset, .unset, .unset] [])) _
    refine XS.iload X7.here hx rfl (hb hby at_139) rfl ?_
    show Steps p.tables e below (T7.setTop (mkF m 141 #[.val (.int p1), .val (.int p2), .val (.int p3), .val (.int p4), .val (.ref b5), .val (.int (p1 &&& (3 : Int32))), .val (.ref r7), .val (.int (0 : Int32)), .unset, .unset, .unset] [(.int (p1 &&& (3 : Int32)))])) _
    refine XS.iconst X7.here hx rfl (hb hby at_141) ?_
    show Steps p.tables e below (T7.setTop (mkF m 142 #[.val (.int p1), .val (.int p2), .val (.int p3), .val (.int p4), .val (.ref b5), .val (.int (p1 &&& (3 : Int32))), .val (.ref r7), .val (.int (0 : Int32)), .unset, .unset, .unset] [(.int (3 : Int32)), (.int (p1 &&& (3 : Int32)))])) _
    refine XS.icmpYes X7.here hx rfl (pc0 := 142) (pc' := 157) rfl (hb hby at_142) rfl (tlt hc142).1 (by decide) (by decide) ?_
    show Steps p.tables e below (T7.setTop (mkF m 157 #[.val (.int p1), .val (.int p2), .val (.int p3), .val (.int p4), .val (.ref b5), .val (.int (p1 &&& (3 : Int32))), .val (.ref r7), .val (.int (0 : Int32)), .unset, .unset, .unset] [])) _
    refine XS.iconst X7.here hx rfl (hb hby at_157) ?_
    show Steps p.tables e below (T7.setTop (mkF m 158 #[.val (.int p1), .val (.int p2), .val (.int p3), .val (.int p4), .val (.ref b5), .val (.int (p1 &&& (3 : Int32))), .val (.ref r7), .val (.int (0 : Int32)), .unset, .unset, .unset] [(.int (0 : Int32))])) _
    refine XS.istore X7.here hx rfl (hb hby at_158) rfl (l' := #[.val (.int p1), .val (.int p2), .val (.int p3), .val (.int p4), .val (.ref b5), .val (.int (p1 &&& (3 : Int32))), .val (.ref r7), .val (.int (0 : Int32)), .val (.int (0 : Int32)), .unset, .unset]) rfl ?_
    show Steps p.tables e below (T7.setTop (mkF m 160 #[.val (.int p1), .val (.int p2), .val (.int p3), .val (.int p4), .val (.ref b5), .val (.int (p1 &&& (3 : Int32))), .val (.ref r7), .val (.int (0 : Int32)), .val (.int (0 : Int32)), .unset, .unset] [])) _
    refine XS.iconst X7.here hx rfl (hb hby at_160) ?_
    show Steps p.tables e below (T7.setTop (mkF m 161 #[.val (.int p1), .val (.int p2), .val (.int p3), .val (.int p4), .val (.ref b5), .val (.int (p1 &&& (3 : Int32))), .val (.ref r7), .val (.int (0 : Int32)), .val (.int (0 : Int32)), .unset, .unset] [(.int (0 : Int32))])) _
    refine XS.istore X7.here hx rfl (hb hby at_161) rfl (l' := #[.val (.int p1), .val (.int p2), .val (.int p3), .val (.int p4), .val (.ref b5), .val (.int (p1 &&& (3 : Int32))), .val (.ref r7), .val (.int (0 : Int32)), .val (.int (0 : Int32)), .val (.int (0 : Int32)), .unset]) rfl ?_
    show Steps p.tables e below (T7.setTop (mkF m 163 #[.val (.int p1), .val (.int p2), .val (.int p3), .val (.int p4), .val (.ref b5), .val (.int (p1 &&& (3 : Int32))), .val (.ref r7), .val (.int (0 : Int32)), .val (.int (0 : Int32)), .val (.int (0 : Int32)), .unset] [])) _
    refine XS.iload X7.here hx rfl (hb hby at_163) rfl ?_
    show Steps p.tables e below (T7.setTop (mkF m 165 #[.val (.int p1), .val (.int p2), .val (.int p3), .val (.int p4), .val (.ref b5), .val (.int (p1 &&& (3 : Int32))), .val (.ref r7), .val (.int (0 : Int32)), .val (.int (0 : Int32)), .val (.int (0 : Int32)), .unset] [(.int (0 : Int32))])) _
    refine XS.ifYes X7.here hx rfl (pc0 := 165) (pc' := 194) rfl (hb hby at_165) rfl ((if0 _ _).trans (flt hc165).2.2.2) (by decide) (by decide) ?_
    show Steps p.tables e below (T7.setTop (mkF m 194 #[.val (.int p1), .val (.int p2), .val (.int p3), .val (.int p4), .val (.ref b5), .val (.int (p1 &&& (3 : Int32))), .val (.ref r7), .val (.int (0 : Int32)), .val (.int (0 : Int32)), .val (.int (0 : Int32)), .unset] [])) _
    refine XS.aload X7.here hx rfl (hb hby at_194) rfl rfl ?_
    show Steps p.tables e below (T7.setTop (mkF m 196 #[.val (.int p1), .val (.int p2), .val (.int p3), .val (.int p4), .val (.ref b5), .val (.int (p1 &&& (3 : Int32))), .val (.ref r7), .val (.int (0 : Int32)), .val (.int (0 : Int32)), .val (.int (0 : Int32)), .unset] [(.ref b5)])) _
    refine XS.iloadN X7.here hx rfl (hb hby at_196) rfl ?_
    show Steps p.tables e below (T7.setTop (mkF m 197 #[.val (.int p1), .val (.int p2), .val (.int p3), .val (.int p4), .val (.ref b5), .val (.int (p1 &&& (3 : Int32))), .val (.ref r7), .val (.int (0 : Int32)), .val (.int (0 : Int32)), .val (.int (0 : Int32)), .unset] [(.int p4), (.ref b5)])) _
    refine st8.trans ?_
    show Steps p.tables e below (T8.setTop (mkF m 200 #[.val (.int p1), .val (.int p2), .val (.int p3), .val (.int p4), .val (.ref b5), .val (.int (p1 &&& (3 : Int32))), .val (.ref r7), .val (.int (0 : Int32)), .val (.int (0 : Int32)), .val (.int (0 : Int32)), .unset] [])) _
    refine XS.aload X8.here hx rfl (hb hby at_200) rfl rfl ?_
    show Steps p.tables e below (T8.setTop (mkF m 202 #[.val (.int p1), .val (.int p2), .val (.int p3), .val (.int p4), .val (.ref b5), .val (.int (p1 &&& (3 : Int32))), .val (.ref r7), .val (.int (0 : Int32)), .val (.int (0 : Int32)), .val (.int (0 : Int32)), .unset] [(.ref b5)])) _
    refine st9.trans ?_
    show Steps p.tables e below (T9.setTop (mkF m 205 #[.val (.int p1), .val (.int p2), .val (.int p3), .val (.int p4), .val (.ref b5), .val (.int (p1 &&& (3 : Int32))), .val (.ref r7), .val (.int (0 : Int32)), .val (.int (0 : Int32)), .val (.int (0 : Int32)), .unset] [(.ref r9)])) _
    refine XS.astore X9.here hx rfl (hb hby at_205) rfl rfl (l' := #[.val (.int p1), .val (.int p2), .val (.int p3), .val (.int p4), .val (.ref b5), .val (.int (p1 &&& (3 : Int32))), .val (.ref r7), .val (.int (0 : Int32)), .val (.int (0 : Int32)), .val (.int (0 : Int32)), .val (.ref r9)]) rfl ?_
    show Steps p.tables e below (T9.setTop (mkF m 207 #[.val (.int p1), .val (.int p2), .val (.int p3), .val (.int p4), .val (.ref b5), .val (.int (p1 &&& (3 : Int32))), .val (.ref r7), .val (.int (0 : Int32)), .val (.int (0 : Int32)), .val (.int (0 : Int32)), .val (.ref r9)] [])) _
    refine XS.aload X9.here hx rfl (hb hby at_207) rfl rfl ?_
    show Steps p.tables e below (T9.setTop (mkF m 209 #[.val (.int p1), .val (.int p2), .val (.int p3), .val (.int p4), .val (.ref b5), .val (.int (p1 &&& (3 : Int32))), .val (.ref r7), .val (.int (0 : Int32)), .val (.int (0 : Int32)), .val (.int (0 : Int32)), .val (.ref r9)] [(.ref r9)])) _
    refine own_len X9 hx hZ rfl V9 (g := (mkF m 209 #[.val (.int p1), .val (.int p2), .val (.int p3), .val (.int p4), .val (.ref b5), .val (.int (p1 &&& (3 : Int32))), .val (.ref r7), .val (.int (0 : Int32)), .val (.int (0 : Int32)), .val (.int (0 : Int32)), .val (.ref r9)] [(.ref r9)])) rfl rfl (hb hby at_209) _ ?_
    show Steps p.tables e below (T9.setTop (mkF m 210 #[.val (.int p1), .val (.int p2), .val (.int p3), .val (.int p4), .val (.ref b5), .val (.int (p1 &&& (3 : Int32))), .val (.ref r7), .val (.int (0 : Int32)), .val (.int (0 : Int32)), .val (.int (0 : Int32)), .val (.ref r9)] [(.int (1 : Int32))])) _
    refine XS.iload X9.here hx rfl (hb hby at_210) rfl ?_
    show Steps p.tables e below (T9.setTop (mkF m 212 #[.val (.int p1), .val (.int p2), .val (.int p3), .val (.int p4), .val (.ref b5), .val (.int (p1 &&& (3 : Int32))), .val (.ref r7), .val (.int (0 : Int32)), .val (.int (0 : Int32)), .val (.int (0 : Int32)), .val (.ref r9)] [(.int (0 : Int32)), (.int (1 : Int32))])) _
    refine XS.iconst X9.here hx rfl (hb hby at_212) ?_
    show Steps p.tables e below (T9.setTop (mkF m 213 #[.val (.int p1), .val (.int p2), .val (.int p3), .val (.int p4), .val (.ref b5), .val (.int (p1 &&& (3 : Int32))), .val (.ref r7), .val (.int (0 : Int32)), .val (.int (0 : Int32)), .val (.int (0 : Int32)), .val (.ref r9)] [(.int (1 : Int32)), (.int (0 : Int32)), (.int (1 : Int32))])) _
    refine XS.iadd X9.here hx rfl (hb hby at_213) rfl ?_
    show Steps p.tables e below (T9.setTop (mkF m 214 #[.val (.int p1), .val (.int p2), .val (.int p3), .val (.int p4), .val (.ref b5), .val (.int (p1 &&& (3 : Int32))), .val (.ref r7), .val (.int (0 : Int32)), .val (.int (0 : Int32)), .val (.int (0 : Int32)), .val (.ref r9)] [(.int ((0 : Int32) + (1 : Int32))), (.int (1 : Int32))])) _
    refine XS.icmpYes X9.here hx rfl (pc0 := 214) (pc' := 219) rfl (hb hby at_214) rfl (teq hc214).1 (by decide) (by decide) ?_
    show Steps p.tables e below (T9.setTop (mkF m 219 #[.val (.int p1), .val (.int p2), .val (.int p3), .val (.int p4), .val (.ref b5), .val (.int (p1 &&& (3 : Int32))), .val (.ref r7), .val (.int (0 : Int32)), .val (.int (0 : Int32)), .val (.int (0 : Int32)), .val (.ref r9)] [])) _
    refine XS.iload X9.here hx rfl (hb hby at_219) rfl ?_
    show Steps p.tables e below (T9.setTop (mkF m 221 #[.val (.int p1), .val (.int p2), .val (.int p3), .val (.int p4), .val (.ref b5), .val (.int (p1 &&& (3 : Int32))), .val (.ref r7), .val (.int (0 : Int32)), .val (.int (0 : Int32)), .val (.int (0 : Int32)), .val (.ref r9)] [(.int (0 : Int32))])) _
    refine XS.ifYes X9.here hx rfl (pc0 := 221) (pc' := 235) rfl (hb hby at_221) rfl ((if0 _ _).trans (flt hc221).2.2.2) (by decide) (by decide) ?_
    show Steps p.tables e below (T9.setTop (mkF m 235 #[.val (.int p1), .val (.int p2), .val (.int p3), .val (.int p4), .val (.ref b5), .val (.int (p1 &&& (3 : Int32))), .val (.ref r7), .val (.int (0 : Int32)), .val (.int (0 : Int32)), .val (.int (0 : Int32)), .val (.ref r9)] [])) _
    refine XS.iload X9.here hx rfl (hb hby at_235) rfl ?_
    show Steps p.tables e below (T9.setTop (mkF m 237 #[.val (.int p1), .val (.int p2), .val (.int p3), .val (.int p4), .val (.ref b5), .val (.int (p1 &&& (3 : Int32))), .val (.ref r7), .val (.int (0 : Int32)), .val (.int (0 : Int32)), .val (.int (0 : Int32)), .val (.ref r9)] [(.int (0 : Int32))])) _
    refine XS.ifYes X9.here hx rfl (pc0 := 237) (pc' := 254) rfl (hb hby at_237) rfl ((if0 _ _).trans (flt hc237).2.2.2) (by decide) (by decide) ?_
    show Steps p.tables e below (T9.setTop (mkF m 254 #[.val (.int p1), .val (.int p2), .val (.int p3), .val (.int p4), .val (.ref b5), .val (.int (p1 &&& (3 : Int32))), .val (.ref r7), .val (.int (0 : Int32)), .val (.int (0 : Int32)), .val (.int (0 : Int32)), .val (.ref r9)] [])) _
    refine XS.aload X9.here hx rfl (hb hby at_254) rfl rfl ?_
    show Steps p.tables e below (T9.setTop (mkF m 256 #[.val (.int p1), .val (.int p2), .val (.int p3), .val (.int p4), .val (.ref b5), .val (.int (p1 &&& (3 : Int32))), .val (.ref r7), .val (.int (0 : Int32)), .val (.int (0 : Int32)), .val (.int (0 : Int32)), .val (.ref r9)] [(.ref r9)])) _
    refine XS.iload X9.here hx rfl (hb hby at_256) rfl ?_
    show Steps p.tables e below (T9.setTop (mkF m 258 #[.val (.int p1), .val (.int p2), .val (.int p3), .val (.int p4), .val (.ref b5), .val (.int (p1 &&& (3 : Int32))), .val (.ref r7), .val (.int (0 : Int32)), .val (.int (0 : Int32)), .val (.int (0 : Int32)), .val (.ref r9)] [(.int (0 : Int32)), (.ref r9)])) _
    refine own_ldB X9 hx hZ rfl V9 (j := (0 : Int32)) (v := (.int (by0 p4))) ⟨by decide, by decide⟩ rfl (g := (mkF m 258 #[.val (.int p1), .val (.int p2), .val (.int p3), .val (.int p4), .val (.ref b5), .val (.int (p1 &&& (3 : Int32))), .val (.ref r7), .val (.int (0 : Int32)), .val (.int (0 : Int32)), .val (.int (0 : Int32)), .val (.ref r9)] [(.int (0 : Int32)), (.ref r9)])) rfl rfl (hb hby at_258) _ ?_
    show Steps p.tables e below (T9.setTop (mkF m 259 #[.val (.int p1), .val (.int p2), .val (.int p3), .val (.int p4), .val (.ref b5), .val (.int (p1 &&& (3 : Int32))), .val (.ref r7), .val (.int (0 : Int32)), .val (.int (0 : Int32)), .val (.int (0 : Int32)), .val (.ref r9)] [(.int (by0 p4))])) _
    refine XS.iloadN X9.here hx rfl (hb hby at_259) rfl ?_
    show Steps p.tables e below (T9.setTop (mkF m 260 #[.val (.int p1), .val (.int p2), .val (.int p3), .val (.int p4), .val (.ref b5), .val (.int (p1 &&& (3 : Int32))), .val (.ref r7), .val (.int (0 : Int32)), .val (.int (0 : Int32)), .val (.int (0 : Int32)), .val (.ref r9)] [(.int p4), (.int (by0 p4))])) _
    refine XS.sipush X9.here hx rfl (hb hby at_260) ?_
    show Steps p.tables e below (T9.setTop (mkF m 263 #[.val (.int p1), .val (.int p2), .val (.int p3), .val (.int p4), .val (.ref b5), .val (.int (p1 &&& (3 : Int32))), .val (.ref r7), .val (.int (0 : Int32)), .val (.int (0 : Int32)), .val (.int (0 : Int32)), .val (.ref r9)] [(.int (255 : Int32)), (.int p4), (.int (by0 p4))])) _
    refine XS.iand X9.here hx rfl (hb hby at_263) rfl ?_
    show Steps p.tables e below (T9.setTop (mkF m 264 #[.val (.int p1), .val (.int p2), .val (.int p3), .val (.int p4), .val (.ref b5), .val (.int (p1 &&& (3 : Int32))), .val (.ref r7), .val (.int (0 : Int32)), .val (.int (0 : Int32)), .val (.int (0 : Int32)), .val (.ref r9)] [(.int (p4 &&& (255 : Int32))), (.int (by0 p4))])) _
    refine XS.i2b X9.here hx rfl (hb hby at_264) rfl ?_
    show Steps p.tables e below (T9.setTop (mkF m 265 #[.val (.int p1), .val (.int p2), .val (.int p3), .val (.int p4), .val (.ref b5), .val (.int (p1 &&& (3 : Int32))), .val (.ref r7), .val (.int (0 : Int32)), .val (.int (0 : Int32)), .val (.int (0 : Int32)), .val (.ref r9)] [(.int ((p4 &&& (255 : Int32)).toInt8.toInt32)), (.int (by0 p4))])) _
    refine XS.icmpYes X9.here hx rfl (pc0 := 265) (pc' := 270) rfl (hb hby at_265) rfl (teq hc265).1 (by decide) (by decide) ?_
    show Steps p.tables e below (T9.setTop (mkF m 270 #[.val (.int p1), .val (.int p2), .val (.int p3), .val (.int p4), .val (.ref b5), .val (.int (p1 &&& (3 : Int32))), .val (.ref r7), .val (.int (0 : Int32)), .val (.int (0 : Int32)), .val (.int (0 : Int32)), .val (.ref r9)] [])) _
    refine XS.iload X9.here hx rfl (hb hby at_270) rfl ?_
    show Steps p.tables e below (T9.setTop (mkF m 272 #[.val (.int p1), .val (.int p2), .val (.int p3), .val (.int p4), .val (.ref b5), .val (.int (p1 &&& (3 : Int32))), .val (.ref r7), .val (.int (0 : Int32)), .val (.int (0 : Int32)), .val (.int (0 : Int32)), .val (.ref r9)] [(.int (0 : Int32))])) _
    refine XS.ifYes X9.here hx rfl (pc0 := 272) (pc' := 285) rfl (hb hby at_272) rfl ((if0 _ _).trans (flt hc272).2.2.2) (by decide) (by decide) ?_
    show Steps p.tables e below (T9.setTop (mkF m 285 #[.val (.int p1), .val (.int p2), .val (.int p3), .val (.int p4), .val (.ref b5), .val (.int (p1 &&& (3 : Int32))), .val (.ref r7), .val (.int (0 : Int32)), .val (.int (0 : Int32)), .val (.int (0 : Int32)), .val (.ref r9)] [])) _
    refine XS.iconst X9.here hx rfl (hb hby at_285) ?_
    show Steps p.tables e below (T9.setTop (mkF m 286 #[.val (.int p1), .val (.int p2), .val (.int p3), .val (.int p4), .val (.ref b5), .val (.int (p1 &&& (3 : Int32))), .val (.ref r7), .val (.int (0 : Int32)), .val (.int (0 : Int32)), .val (.int (0 : Int32)), .val (.ref r9)] [(.int (1 : Int32))])) _
    exact retN X9 hx (t := .boolean) Bd.returns (by simp) (hb hby at_286) hr
  · show Q0 n0 _ _
    exact ⟨rfl, N9⟩
theorem pd_0_6 : parseMethodDescriptor "([BII)Z" = some ⟨[(.array .byte), .int, .int], some .boolean⟩ := by decide +kernel
set_option maxRecDepth 65536 in
set_option maxHeartbeats 40000000 in
theorem rm0_1 (l : Launch) (Z : State) (a0 : Array Value) (hw : ∀ d ∈ tables_1, d.before a0 Z = true) (ws : List Jvm.Cond) (p1 p2 p3 p4 : Int32) (h0 : Heap) (n0 : Nat) (Z0 : n0 ≤ h0.size) (hc17 : ¬ ((p1 &&& (3 : Int32)) < (1 : Int32))) (hc29 : (p1 &&& (3 : Int32)) < (2 : Int32)) (hc41 : (p1 &&& (3 : Int32)) < (3 : Int32)) (hc59 : ¬ ((p1 &&& (3 : Int32)) = (0 : Int32))) (hc69 : (p1 &&& (3 : Int32)) = (1 : Int32)) (hc103 : ¬ ((p1 &&& (3 : Int32)) < (1 : Int32))) (hc113 : ¬ ((1 : Int32) = (0 : Int32))) (hc121 : (p1 &&& (3 : Int32)) < (2 : Int32)) (hc142 : (p1 &&& (3 : Int32)) < (3 : Int32)) (hc165 : (0 : Int32) < (4 : Int32)) (hc214 : (5 : Int32) = ((4 : Int32) + (1 : Int32))) (hc221 : (0 : Int32) < (4 : Int32)) (hc237 : (0 : Int32) < (4 : Int32)) (hc265 : (by0 p4) = ((p4 &&& (255 : Int32)).toInt8.toInt32)) (hc272 : (0 : Int32) < (4 : Int32)) :
    MetFree l x (head1 (Jvm.Cond.code x code maxLocals ret :: ws) room_1) (fun a U => a = #[(.int p1), (.int p2), (.int p3), (.int p4)] ∧ Z.Warmed39 U.vm ∧ U.heap = h0) (fun _ _ _ _ _ => True) (fun _ U o U' => ∃ v L, o = .returned v ∧ Q0 n0 v L ∧ FrameEnd U o U' L 4 162) := by
  refine MetFree.of_bodySF (plainFor_of_name pn_0) hisR ?_
  intro p e s m args below meth c s₁ Bd hml0 hP hK
  obtain ⟨rfl, hZ, hh⟩ := hP
  have hx := Bd.exec
  have hby := Bd.bytes
  have hml : c.maxLocals = 11 := hml0
  have hown : s.vm.findClass "com/example/periodica/periodica/ledger/OutToByteArrayPinLaw" = some m.cls := findClass_of_methodNamed Bd.named
  have hnm := (name_of_methodNamed Bd.named Bd.method).1
  have X0 : Stand p l e room_1 s m #[(.int p1), (.int p2), (.int p3), (.int p4)] below meth c s₁ [] 0 0 := Stand.of_body Bd
  have e0 : s₁.heap = h0 := by rw [← hh, Bd.state]; rfl
  have N0 := Fr.nil n0
  have pre0 : ∀ t, Steps p.tables e below (s₁.setTop (mkF m 0 #[.val (.int p1), .val (.int p2), .val (.int p3), .val (.int p4), .unset, .unset, .unset, .unset, .unset, .unset, .unset] [])) t → Steps p.tables e below (s₁.setTop (entryFrame m #[(.int p1), (.int p2), (.int p3), (.int p4)] maxLocals)) t := fun t k => castTop (ef_0 m p1 p2 p3 p4) k
  obtain ⟨T5, h5, X5, e5, E5, A5, D5, -, st5⟩ := newO X0 hx hZ hown (hw _ (List.mem_of_getElem? (i := 0) rfl)) (hw _ (List.mem_of_getElem? (i := 1) rfl)) (hw _ (List.mem_of_getElem? (i := 2) rfl)) e0 (g := (mkF m 0 #[.val (.int p1), .val (.int p2), .val (.int p3), .val (.int p4), .unset, .unset, .unset, .unset, .unset, .unset, .unset] [])) rfl (hb hby at_0) (by decide) (by decide)
  obtain ⟨b5, g5⟩ : ∃ z, z = h0.size := ⟨_, rfl⟩
  rw [← g5] at A5 D5 st5
  have F_bytes_b5 : Fld Z h5 b5 "com/example/periodica/periodica/ledger/StoredFields$Out" "bytes" "[B" .null := D5 (Or.inl (hw _ (List.mem_of_getElem? (i := 11) rfl))) (ty := (.array .byte)) (by decide)
  have F_size_b5 : Fld Z h5 b5 "com/example/periodica/periodica/ledger/StoredFields$Out" "size" "I" (.int (0 : Int32)) := D5 (Or.inl (hw _ (List.mem_of_getElem? (i := 18) rfl))) (ty := .int) (by decide)
  have E_b5 := A5
  have g_b5 : n0 ≤ b5 := Nat.le_trans Z0 (Nat.le_of_eq g5.symm)
  obtain ⟨_, _, ⟨T6, L6, k6, n6⟩, -, X6, ⟨Lc6, hQ6, l6, y6, z6⟩, st6⟩ := X5.specialBack hx (y := (⟨"com/example/periodica/periodica/ledger/StoredFields$Out", "<init>", "()V"⟩ : MethodName)) rfl hown (mvT hZ (hw _ (List.mem_of_getElem? (i := 3) rfl))) (mvT hZ (hw _ (List.mem_of_getElem? (i := 4) rfl))) (mvT hZ (hw _ (List.mem_of_getElem? (i := 5) rfl))) (by decide) (backOf (W := 1) (rm1 l Z a0 hw [] b5 _ h5 n0 (Nat.le_trans Z0 E5.1) E_b5 F_bytes_b5 F_size_b5 g_b5) hZ (hw _ (List.mem_of_getElem? (i := 5) rfl)) (hw _ (List.mem_of_getElem? (i := 2) rfl)) (by decide) (by decide)) (g := (mkF m 4 #[.val (.int p1), .val (.int p2), .val (.int p3), .val (.int p4), .unset, .unset, .unset, .unset, .unset, .unset, .unset] [(.ref b5), (.ref b5)])) rfl (by rw [hml]; rfl) (Steps.refl _) (a := b5) (argsL := []) (rest := [(.ref b5)]) (lenOf pd_0_0 rfl) rfl (by show 2 * 0 + _ ≤ _; exact Nat.le_of_eq rfl) (hb hby at_4) (fun _ _ => ⟨rfl, e5, (by decide : 1 + 1 ≤ _), (by decide : 2 + 128 ≤ _)⟩)
  dsimp only [Pt.U, Pt.locs, Pt.cells, Pt.slots] at X6 l6 y6 z6 st6 hQ6
  subst l6 y6 z6
  obtain ⟨rfl, N6q, b6x, k6x, g_b6x, O6⟩ := hQ6
  have ne_b5_b6x := O6.2.2.2.2
  have N6 := Fr.app N0 N6q
  obtain ⟨cq7, kq7, q7a, q7b, q7c⟩ := isOf hZ rfl O6.1
  obtain ⟨_, _, ⟨T7, L7, k7, n7⟩, -, X7, ⟨Lc7, hQ7, l7, y7, z7⟩, st7⟩ := X6.virtualBack hx (y := (⟨"com/example/periodica/periodica/ledger/StoredFields$Out", "writeInt", "(I)V"⟩ : MethodName)) (z := (⟨"com/example/periodica/periodica/ledger/StoredFields$Out", "writeInt", "(I)V"⟩ : MethodName)) hown (mvT hZ (hw _ (List.mem_of_getElem? (i := 40) rfl))) (mvT hZ (hw _ (List.mem_of_getElem? (i := 41) rfl))) (notFace_of_selects (args := #[]) (mvT hZ (hw _ (List.mem_of_getElem? (i := 43) rfl)))) (mvT hZ (hw _ (List.mem_of_getElem? (i := 43) rfl))) (mvT hZ (hw _ (List.mem_of_getElem? (i := 42) rfl))) (by decide) (backOf (W := 0) (rm8 l Z a0 hw [] b5 p2 b6x k6x (0 : Int32) [] (4 : Int32) T6.heap n0 (Nat.le_trans g_b5 (Nat.le_of_lt O6.1.lt)) ⟨O6.1, O6.2.1, O6.2.2.1, O6.2.2.2.1, ne_b5_b6x⟩ (by decide) g_b5 g_b6x (by decide) (by decide) rfl (by decide) rfl (by decide) rfl (by decide) rfl) hZ (hw _ (List.mem_of_getElem? (i := 44) rfl)) (hw _ (List.mem_of_getElem? (i := 2) rfl)) (by decide) (by decide)) q7a q7c (g := (mkF m 23 #[.val (.int p1), .val (.int p2), .val (.int p3), .val (.int p4), .val (.ref b5), .val (.int (p1 &&& (3 : Int32))), .unset, .unset, .unset, .unset, .unset] [(.int p2), (.ref b5)])) rfl (by rw [hml]; rfl) (Steps.refl _) (argsL := [(.int p2)]) (rest := []) (lenOf pd_0_5 rfl) rfl (by show 2 * 0 + _ ≤ _; exact Nat.le_of_eq rfl) (hb hby at_23) (fun _ _ => ⟨rfl, rfl, (by decide : 2 + 0 ≤ _), (by decide : 130 + 0 ≤ _)⟩)
  dsimp only [Pt.U, Pt.locs, Pt.cells, Pt.slots] at X7 l7 y7 z7 st7 hQ7
  subst l7 y7 z7
  obtain ⟨rfl, N7q, K7, O7⟩ := hQ7
  have N7 := Fr.app N6 N7q
  obtain ⟨cq8, kq8, q8a, q8b, q8c⟩ := isOf hZ rfl O7.1
  obtain ⟨_, _, ⟨T8, L8, k8, n8⟩, -, X8, ⟨Lc8, hQ8, l8, y8, z8⟩, st8⟩ := X7.virtualBack hx (y := (⟨"com/example/periodica/periodica/ledger/StoredFields$Out", "toByteArray", "()[B"⟩ : MethodName)) (z := (⟨"com/example/periodica/periodica/ledger/StoredFields$Out", "toByteArray", "()[B"⟩ : MethodName)) hown (mvT hZ (hw _ (List.mem_of_getElem? (i := 12) rfl))) (mvT hZ (hw _ (List.mem_of_getElem? (i := 13) rfl))) (notFace_of_selects (args := #[]) (mvT hZ (hw _ (List.mem_of_getElem? (i := 15) rfl)))) (mvT hZ (hw _ (List.mem_of_getElem? (i := 15) rfl))) (mvT hZ (hw _ (List.mem_of_getElem? (i := 14) rfl))) (by decide) (backOf (W := 0) (rm3 l Z a0 hw [] b5 b6x k6x (4 : Int32) ([] ++ b4 p2) T7.heap n0 (Nat.le_trans g_b5 (Nat.le_of_lt O7.1.lt)) ⟨O7.1, O7.2.1, O7.2.2.1, O7.2.2.2.1, ne_b5_b6x⟩ rfl (by decide) (by decide) (by decide) (by decide) (by decide)) hZ (hw _ (List.mem_of_getElem? (i := 16) rfl)) (hw _ (List.mem_of_getElem? (i := 2) rfl)) (by decide) (by decide)) q8a q8c (g := (mkF m 52 #[.val (.int p1), .val (.int p2), .val (.int p3), .val (.int p4), .val (.ref b5), .val (.int (p1 &&& (3 : Int32))), .unset, .unset, .unset, .unset, .unset] [(.ref b5)])) rfl (by rw [hml]; rfl) (Steps.refl _) (argsL := []) (rest := []) (lenOf pd_0_1 rfl) rfl (by show 2 * 0 + _ ≤ _; exact Nat.le_of_eq rfl) (hb hby at_52) (fun _ _ => ⟨rfl, rfl, (by decide : 2 + 1 ≤ _), (by decide : 130 + 16 ≤ _)⟩)
  dsimp only [Pt.U, Pt.locs, Pt.cells, Pt.slots] at X8 l8 y8 z8 st8 hQ8
  subst l8 y8 z8
  obtain ⟨r8, kr8, rfl, N8q, K8, hr8, V8⟩ := hQ8
  have ne_b5_r8 : b5 ≠ r8 := Nat.ne_of_lt (Nat.lt_of_lt_of_le O7.1.lt hr8)
  have ne_b6x_r8 : b6x ≠ r8 := Nat.ne_of_lt (Nat.lt_of_lt_of_le O7.2.2.2.1.lt hr8)
  have g_r8 : n0 ≤ r8 := Nat.le_trans (Nat.le_trans g_b5 (Nat.le_of_lt O7.1.lt)) hr8
  have N8 := Fr.app N7 N8q
  obtain ⟨_, _, ⟨T9, L9, k9, n9⟩, -, X9, ⟨Lc9, hQ9, l9, y9, z9⟩, st9⟩ := Jvm.LawKit.callS X8 hx (y := (⟨"com/example/periodica/periodica/ledger/OutToByteArrayPinLaw", "intAt", "([BII)Z"⟩ : MethodName)) hown (mvT hZ (hw _ (List.mem_of_getElem? (i := 45) rfl))) (mvT hZ (hw _ (List.mem_of_getElem? (i := 46) rfl))) (mvT hZ (hw _ (List.mem_of_getElem? (i := 47) rfl))) (mvT hZ (hw _ (List.mem_of_getElem? (i := 48) rfl))) (by decide) (backOf (W := 0) (rm9 l Z a0 hw [] r8 (0 : Int32) p2 kr8 (4 : Int32) ([] ++ b4 p2) (byK p2 24) (byK p2 16) (byK p2 8) (by0 p2) T8.heap n0 (Nat.le_trans g_b5 (Nat.le_of_lt (O7.1.keep K8).lt)) V8 ⟨by decide, by decide⟩ ⟨by decide, by decide⟩ ⟨by decide, by decide⟩ ⟨by decide, by decide⟩ rfl rfl rfl rfl (own_join _ _ _ _ _ rfl rfl rfl rfl)) hZ (hw _ (List.mem_of_getElem? (i := 48) rfl)) (hw _ (List.mem_of_getElem? (i := 47) rfl)) (by decide) (by decide)) (g := (mkF m 110 #[.val (.int p1), .val (.int p2), .val (.int p3), .val (.int p4), .val (.ref b5), .val (.int (p1 &&& (3 : Int32))), .val (.ref r8), .val (.int (4 : Int32)), .unset, .unset, .unset] [(.int p2), (.int (0 : Int32)), (.ref r8)])) rfl (by rw [hml]; rfl) (argsL := [(.ref r8), (.int (0 : Int32)), (.int p2)]) (rest := []) (lenOf pd_0_6 rfl) rfl (by show 2 * 0 + _ ≤ _; exact Nat.le_of_eq rfl) (hb hby at_110) (fun _ _ => ⟨rfl, rfl, (by decide : 3 + 0 ≤ _), (by decide : 146 + 0 ≤ _)⟩)
  dsimp only [Pt.U, Pt.locs, Pt.cells, Pt.slots] at X9 l9 y9 z9 st9 hQ9
  subst l9 y9 z9
  obtain ⟨rfl, N9q, e9⟩ := hQ9
  have N9 := Fr.app N8 N9q
  obtain ⟨T10, h10, X10, e10, W10, V10, st10⟩ := own_stB X9 hx hZ e9 V8 (j := (0 : Int32)) (x := (((byK p2 24) ^^^ (1 : Int32)).toInt8.toInt32)) ⟨by decide, by decide⟩ 0 rfl (by simp [b4]) (g := (mkF m 193 #[.val (.int p1), .val (.int p2), .val (.int p3), .val (.int p4), .val (.ref b5), .val (.int (p1 &&& (3 : Int32))), .val (.ref r8), .val (.int (4 : Int32)), .val (.int (byK p2 24)), .val (.int (by0 p2)), .unset] [(.int (((byK p2 24) ^^^ (1 : Int32)).toInt8.toInt32)), (.int (0 : Int32)), (.ref r8)])) rfl rfl (hb hby at_193)
  have N10 := Fr.snoc X10 N9 g_r8
  obtain ⟨cq11, kq11, q11a, q11b, q11c⟩ := isOf hZ e10 ((O7.1.keep K8).wr W10)
  obtain ⟨_, _, ⟨T11, L11, k11, n11⟩, -, X11, ⟨Lc11, hQ11, l11, y11, z11⟩, st11⟩ := X10.virtualBack hx (y := (⟨"com/example/periodica/periodica/ledger/StoredFields$Out", "writeByte", "(I)V"⟩ : MethodName)) (z := (⟨"com/example/periodica/periodica/ledger/StoredFields$Out", "writeByte", "(I)V"⟩ : MethodName)) hown (mvT hZ (hw _ (List.mem_of_getElem? (i := 31) rfl))) (mvT hZ (hw _ (List.mem_of_getElem? (i := 32) rfl))) (notFace_of_selects (args := #[]) (mvT hZ (hw _ (List.mem_of_getElem? (i := 34) rfl)))) (mvT hZ (hw _ (List.mem_of_getElem? (i := 34) rfl))) (mvT hZ (hw _ (List.mem_of_getElem? (i := 33) rfl))) (by decide) (backOf (W := 0) (rm6 l Z a0 hw [] b5 p4 b6x k6x (4 : Int32) ([] ++ b4 p2) (5 : Int32) h10 n0 (Nat.le_trans g_b5 (Nat.le_of_lt ((O7.1.keep K8).wr W10).lt)) ⟨((O7.1.keep K8).wr W10), ((O7.2.1.keep K8 nin0).other W10 (Or.inl ne_b5_r8)), ((O7.2.2.1.keep K8 nin0).other W10 (Or.inl ne_b5_r8)), ((O7.2.2.2.1.keep K8 nin0).other W10 ne_b6x_r8), ne_b5_b6x⟩ (by decide) g_b5 g_b6x (by decide) (by decide) rfl) hZ (hw _ (List.mem_of_getElem? (i := 35) rfl)) (hw _ (List.mem_of_getElem? (i := 2) rfl)) (by decide) (by decide)) q11a q11c (g := (mkF m 197 #[.val (.int p1), .val (.int p2), .val (.int p3), .val (.int p4), .val (.ref b5), .val (.int (p1 &&& (3 : Int32))), .val (.ref r8), .val (.int (4 : Int32)), .val (.int (byK p2 24)), .val (.int (by0 p2)), .unset] [(.int p4), (.ref b5)])) rfl (by rw [hml]; rfl) (Steps.refl _) (argsL := [(.int p4)]) (rest := []) (lenOf pd_0_5 rfl) rfl (by show 2 * 0 + _ ≤ _; exact Nat.le_of_eq rfl) (hb hby at_197) (fun _ _ => ⟨rfl, e10, (by decide : 3 + 0 ≤ _), (by decide : 146 + 0 ≤ _)⟩)
  dsimp only [Pt.U, Pt.locs, Pt.cells, Pt.slots] at X11 l11 y11 z11 st11 hQ11
  subst l11 y11 z11
  obtain ⟨rfl, N11q, K11, O11⟩ := hQ11
  have N11 := Fr.app N10 N11q
  obtain ⟨cq12, kq12, q12a, q12b, q12c⟩ := isOf hZ rfl O11.1
  obtain ⟨_, _, ⟨T12, L12, k12, n12⟩, -, X12, ⟨Lc12, hQ12, l12, y12, z12⟩, st12⟩ := X11.virtualBack hx (y := (⟨"com/example/periodica/periodica/ledger/StoredFields$Out", "toByteArray", "()[B"⟩ : MethodName)) (z := (⟨"com/example/periodica/periodica/ledger/StoredFields$Out", "toByteArray", "()[B"⟩ : MethodName)) hown (mvT hZ (hw _ (List.mem_of_getElem? (i := 12) rfl))) (mvT hZ (hw _ (List.mem_of_getElem? (i := 13) rfl))) (notFace_of_selects (args := #[]) (mvT hZ (hw _ (List.mem_of_getElem? (i := 15) rfl)))) (mvT hZ (hw _ (List.mem_of_getElem? (i := 15) rfl))) (mvT hZ (hw _ (List.mem_of_getElem? (i := 14) rfl))) (by decide) (backOf (W := 0) (rm3 l Z a0 hw [] b5 b6x k6x (5 : Int32) (([] ++ b4 p2) ++ [.int (by0 p4)]) T11.heap n0 (Nat.le_trans g_b5 (Nat.le_of_lt O11.1.lt)) ⟨O11.1, O11.2.1, O11.2.2.1, O11.2.2.2.1, ne_b5_b6x⟩ rfl (by decide) (by decide) (by decide) (by decide) (by decide)) hZ (hw _ (List.mem_of_getElem? (i := 16) rfl)) (hw _ (List.mem_of_getElem? (i := 2) rfl)) (by decide) (by decide)) q12a q12c (g := (mkF m 202 #[.val (.int p1), .val (.int p2), .val (.int p3), .val (.int p4), .val (.ref b5), .val (.int (p1 &&& (3 : Int32))), .val (.ref r8), .val (.int (4 : Int32)), .val (.int (byK p2 24)), .val (.int (by0 p2)), .unset] [(.ref b5)])) rfl (by rw [hml]; rfl) (Steps.refl _) (argsL := []) (rest := []) (lenOf pd_0_1 rfl) rfl (by show 2 * 0 + _ ≤ _; exact Nat.le_of_eq rfl) (hb hby at_202) (fun _ _ => ⟨rfl, rfl, (by decide : 3 + 1 ≤ _), (by decide : 146 + 16 ≤ _)⟩)
  dsimp only [Pt.U, Pt.locs, Pt.cells, Pt.slots] at X12 l12 y12 z12 st12 hQ12
  subst l12 y12 z12
  obtain ⟨r12, kr12, rfl, N12q, K12, hr12, V12⟩ := hQ12
  have ne_b5_r12 : b5 ≠ r12 := Nat.ne_of_lt (Nat.lt_of_lt_of_le O11.1.lt hr12)
  have ne_b6x_r12 : b6x ≠ r12 := Nat.ne_of_lt (Nat.lt_of_lt_of_le O11.2.2.2.1.lt hr12)
  have g_r12 : n0 ≤ r12 := Nat.le_trans (Nat.le_trans g_b5 (Nat.le_of_lt O11.1.lt)) hr12
  have ne_r8_r12 : r8 ≠ r12 := Nat.ne_of_lt (Nat.lt_of_lt_of_le (V10.keep K11 (ninS (Ne.symm ne_b5_r8) (ninS (Ne.symm ne_b6x_r8) nin0))).lt hr12)
  have N12 := Fr.app N11 N12q
  obtain ⟨fs, hr, hrun, hended, hW, hsame⟩ := X12.leave (v := some (.int (1 : Int32))) (fun h => by rw [Bd.returns] at h; cases h)
  refine ⟨_, _, pre0 _ ?_, hrun, hended, _, _, rfl, ?_, ⟨_, rfl⟩, hW, hsame.mono (by decide) (by decide)⟩
  · show Steps p.tables e below (s₁.setTop (mkF m 0 #[.val (.int p1), .val (.int p2), .val (.int p3), .val (.int p4), .unset, .unset, .unset, .unset, .unset, .unset, .unset] [])) _
    refine st5 _ ?_
    show Steps p.tables e below (T5.setTop (mkF m 3 #[.val (.int p1), .val (.int p2), .val (.int p3), .val (.int p4), .unset, .unset, .unset, .unset, .unset, .unset, .unset] [(.ref b5)])) _
    refine XS.dup X5.here hx rfl (hb hby at_3) rfl rfl ?_
    show Steps p.tables e below (T5.setTop (mkF m 4 #[.val (.int p1), .val (.int p2), .val (.int p3), .val (.int p4), .unset, .unset, .unset, .unset, .unset, .unset, .unset] [(.ref b5), (.ref b5)])) _
    refine st6.trans ?_
    show Steps p.tables e below (T6.setTop (mkF m 7 #[.val (.int p1), .val (.int p2), .val (.int p3), .val (.int p4), .unset, .unset, .unset, .unset, .unset, .unset, .unset] [(.ref b5)])) _
    refine XS.astore X6.here hx rfl (hb hby at_7) rfl rfl (l' := #[.val (.int p1), .val (.int p2), .val (.int p3), .val (.int p4), .val (.ref b5), .unset, .unset, .unset, .unset, .unset, .unset]) rfl ?_
    show Steps p.tables e below (T6.setTop (mkF m 9 #[.val (.int p1), .val (.int p2), .val (.int p3), .val (.int p4), .val (.ref b5), .unset, .unset, .unset, .unset, .unset, .unset] [])) _
    refine XS.iloadN X6.here hx rfl (hb hby at_9) rfl ?_
    show Steps p.tables e below (T6.setTop (mkF m 10 #[.val (.int p1), .val (.int p2), .val (.int p3), .val (.int p4), .val (.ref b5), .unset, .unset, .unset, .unset, .unset, .unset] [(.int p1)])) _
    refine XS.iconst X6.here hx rfl (hb hby at_10) ?_
    show Steps p.tables e below (T6.setTop (mkF m 11 #[.val (.int p1), .val (.int p2), .val (.int p3), .val (.int p4), .val (.ref b5), .unset, .unset, .unset, .unset, .unset, .unset] [(.int (3 : Int32)), (.int p1)])) _
    refine XS.iand X6.here hx rfl (hb hby at_11) rfl ?_
    show Steps p.tables e below (T6.setTop (mkF m 12 #[.val (.int p1), .val (.int p2), .val (.int p3), .val (.int p4), .val (.ref b5), .unset, .unset, .unset, .unset, .unset, .unset] [(.int (p1 &&& (3 : Int32)))])) _
    refine XS.istore X6.here hx rfl (hb hby at_12) rfl (l' := #[.val (.int p1), .val (.int p2), .val (.int p3), .val (.int p4), .val (.ref b5), .val (.int (p1 &&& (3 : Int32))), .unset, .unset, .unset, .unset, .unset]) rfl ?_
    show Steps p.tables e below (T6.setTop (mkF m 14 #[.val (.int p1), .val (.int p2), .val (.int p3), .val (.int p4), .val (.ref b5), .val (.int (p1 &&& (3 : Int32))), .unset, .unset, .unset, .unset, .unset] [])) _
    refine XS.iload X6.here hx rfl (hb hby at_14) rfl ?_
    show Steps p.tables e below (T6.setTop (mkF m 16 #[.val (.int p1), .val (.int p2), .val (.int p3), .val (.int p4), .val (.ref b5), .val (.int (p1 &&& (3 : Int32))), .unset, .unset, .unset, .unset, .unset] [(.int (p1 &&& (3 : Int32)))])) _
    refine XS.iconst X6.here hx rfl (hb hby at_16) ?_
    show Steps p.tables e below (T6.setTop (mkF m 17 #[.val (.int p1), .val (.int p2), .val (.int p3), .val (.int p4), .val (.ref b5), .val (.int (p1 &&& (3 : Int32))), .unset, .unset, .unset, .unset, .unset] [(.int (1 : Int32)), (.int (p1 &&& (3 : Int32)))])) _
    refine XS.icmpNo X6.here hx rfl (hb hby at_17) rfl (flt hc17).1 ?_
    show Steps p.tables e below (T6.setTop (mkF m 20 #[.val (.int p1), .val (.int p2), .val (.int p3), .val (.int p4), .val (.ref b5), .val (.int (p1 &&& (3 : Int32))), .unset, .unset, .unset, .unset, .unset] [])) _
    refine XS.aload X6.here hx rfl (hb hby at_20) rfl rfl ?_
    show Steps p.tables e below (T6.setTop (mkF m 22 #[.val (.int p1), .val (.int p2), .val (.int p3), .val (.int p4), .val (.ref b5), .val (.int (p1 &&& (3 : Int32))), .unset, .unset, .unset, .unset, .unset] [(.ref b5)])) _
    refine XS.iloadN X6.here hx rfl (hb hby at_22) rfl ?_
    show Steps p.tables e below (T6.setTop (mkF m 23 #[.val (.int p1), .val (.int p2), .val (.int p3), .val (.int p4), .val (.ref b5), .val (.int (p1 &&& (3 : Int32))), .unset, .unset, .unset, .unset, .unset] [(.int p2), (.ref b5)])) _
    refine st7.trans ?_
    show Steps p.tables e below (T7.setTop (mkF m 26 #[.val (.int p1), .val (.int p2), .val (.int p3), .val (.int p4), .val (.ref b5), .val (.int (p1 &&& (3 : Int32))), .unset, .unset, .unset, .unset, .unset] [])) _
    refine XS.iload X7.here hx rfl (hb hby at_26) rfl ?_
    show Steps p.tables e below (T7.setTop (mkF m 28 #[.val (.int p1), .val (.int p2), .val (.int p3), .val (.int p4), .val (.ref b5), .val (.int (p1 &&& (3 : Int32))), .unset, .unset, .unset, .unset, .unset] [(.int (p1 &&& (3 : Int32)))])) _
    refine XS.iconst X7.here hx rfl (hb hby at_28) ?_
    show Steps p.tables e below (T7.setTop (mkF m 29 #[.val (.int p1), .val (.int p2), .val (.int p3), .val (.int p4), .val (.ref b5), .val (.int (p1 &&& (3 : Int32))), .unset, .unset, .unset, .unset, .unset] [(.int (2 : Int32)), (.int (p1 &&& (3 : Int32)))])) _
    refine XS.icmpYes X7.here hx rfl (pc0 := 29) (pc' := 38) rfl (hb hby at_29) rfl (tlt hc29).1 (by decide) (by decide) ?_
    show Steps p.tables e below (T7.setTop (mkF m 38 #[.val (.int p1), .val (.int p2), .val (.int p3), .val (.int p4), .val (.ref b5), .val (.int (p1 &&& (3 : Int32))), .unset, .unset, .unset, .unset, .unset] [])) _
    refine XS.iload X7.here hx rfl (hb hby at_38) rfl ?_
    show Steps p.tables e below (T7.setTop (mkF m 40 #[.val (.int p1), .val (.int p2), .val (.int p3), .val (.int p4), .val (.ref b5), .val (.int (p1 &&& (3 : Int32))), .unset, .unset, .unset, .unset, .unset] [(.int (p1 &&& (3 : Int32)))])) _
    refine XS.iconst X7.here hx rfl (hb hby at_40) ?_
    show Steps p.tables e below (T7.setTop (mkF m 41 #[.val (.int p1), .val (.int p2), .val (.int p3), .val (.int p4), .val (.ref b5), .val (.int (p1 &&& (3 : Int32))), .unset, .unset, .unset, .unset, .unset] [(.int (3 : Int32)), (.int (p1 &&& (3 : Int32)))])) _
    refine XS.icmpYes X7.here hx rfl (pc0 := 41) (pc' := 50) rfl (hb hby at_41) rfl (tlt hc41).1 (by decide) (by decide) ?_
    show Steps p.tables e below (T7.setTop (mkF m 50 #[.val (.int p1), .val (.int p2), .val (.int p3), .val (.int p4), .val (.ref b5), .val (.int (p1 &&& (3 : Int32))), .unset, .unset, .unset, .unset, .unset] [])) _
    refine XS.aload X7.here hx rfl (hb hby at_50) rfl rfl ?_
    show Steps p.tables e below (T7.setTop (mkF m 52 #[.val (.int p1), .val (.int p2), .val (.int p3), .val (.int p4), .val (.ref b5), .val (.int (p1 &&& (3 : Int32))), .unset, .unset, .unset, .unset, .unset] [(.ref b5)])) _
    refine st8.trans ?_
    show Steps p.tables e below (T8.setTop (mkF m 55 #[.val (.int p1), .val (.int p2), .val (.int p3), .val (.int p4), .val (.ref b5), .val (.int (p1 &&& (3 : Int32))), .unset, .unset, .unset, .unset, .unset] [(.ref r8)])) _
    refine XS.astore X8.here hx rfl (hb hby at_55) rfl rfl (l' := #[.val (.int p1), .val (.int p2), .val (.int p3), .val (.int p4), .val (.ref b5), .val (.int (p1 &&& (3 : Int32))), .val (.ref r8), .unset, .unset, .unset, .unset]) rfl ?_
    show Steps p.tables e below (T8.setTop (mkF m 57 #[.val (.int p1), .val (.int p2), .val (.int p3), .val (.int p4), .val (.ref b5), .val (.int (p1 &&& (3 : Int32))), .val (.ref r8), .unset, .unset, .unset, .unset] [])) _
    refine XS.iload X8.here hx rfl (hb hby at_57) rfl ?_
    show Steps p.tables e below (T8.setTop (mkF m 59 #[.val (.int p1), .val (.int p2), .val (.int p3), .val (.int p4), .val (.ref b5), .val (.int (p1 &&& (3 : Int32))), .val (.ref r8), .unset, .unset, .unset, .unset] [(.int (p1 &&& (3 : Int32)))])) _
    refine XS.ifYes X8.here hx rfl (pc0 := 59) (pc' := 66) rfl (hb hby at_59) rfl ((if0 _ _).trans (feq hc59).2) (by decide) (by decide) ?_
    show Steps p.tables e below (T8.setTop (mkF m 66 #[.val (.int p1), .val (.int p2), .val (.int p3), .val (.int p4), .val (.ref b5), .val (.int (p1 &&& (3 : Int32))), .val (.ref r8), .unset, .unset, .unset, .unset] [])) _
    refine XS.iload X8.here hx rfl (hb hby at_66) rfl ?_
    show Steps p.tables e below (T8.setTop (mkF m 68 #[.val (.int p1), .val (.int p2), .val (.int p3), .val (.int p4), .val (.ref b5), .val (.int (p1 &&& (3 : Int32))), .val (.ref r8), .unset, .unset, .unset, .unset] [(.int (p1 &&& (3 : Int32)))])) _
    refine XS.iconst X8.here hx rfl (hb hby at_68) ?_
    show Steps p.tables e below (T8.setTop (mkF m 69 #[.val (.int p1), .val (.int p2), .val (.int p3), .val (.int p4), .val (.ref b5), .val (.int (p1 &&& (3 : Int32))), .val (.ref r8), .unset, .unset, .unset, .unset] [(.int (1 : Int32)), (.int (p1 &&& (3 : Int32)))])) _
    refine XS.icmpNo X8.here hx rfl (hb hby at_69) rfl (teq hc69).2 ?_
    show Steps p.tables e below (T8.setTop (mkF m 72 #[.val (.int p1), .val (.int p2), .val (.int p3), .val (.int p4), .val (.ref b5), .val (.int (p1 &&& (3 : Int32))), .val (.ref r8), .unset, .unset, .unset, .unset] [])) _
    refine XS.iconst X8.here hx rfl (hb hby at_72) ?_
    show Steps p.tables e below (T8.setTop (mkF m 73 #[.val (.int p1), .val (.int p2), .val (.int p3), .val (.int p4), .val (.ref b5), .val (.int (p1 &&& (3 : Int32))), .val (.ref r8), .unset, .unset, .unset, .unset] [(.int (4 : Int32))])) _
    refine XS.goto X8.here hx rfl (pc0 := 73) (pc' := 88) rfl (hb hby at_73) (by decide) (by decide) ?_
    show Steps p.tables e below (T8.setTop (mkF m 88 #[.val (.int p1), .val (.int p2), .val (.int p3), .val (.int p4), .val (.ref b5), .val (.int (p1 &&& (3 : Int32))), .val (.ref r8), .unset, .unset, .unset, .unset] [(.int (4 : Int32))])) _
    refine XS.istore X8.here hx rfl (hb hby at_88) rfl (l' := #[.val (.int p1), .val (.int p2), .val (.int p3), .val (.int p4), .val (.ref b5), .val (.int (p1 &&& (3 : Int32))), .val (.ref r8), .val (.int (4 : Int32)), .unset, .unset, .unset]) rfl ?_
    show Steps p.tables e below (T8.setTop (mkF m 90 #[.val (.int p1), .val (.int p2), .val (.int p3), .val (.int p4), .val (.ref b5), .val (.int (p1 &&& (3 : Int32))), .val (.ref r8), .val (.int (4 : Int32)), .unset, .unset, .unset] [])) _
    refine XS.aload X8.here hx rfl (hb hby at_90) rfl rfl ?_
    show Steps p.tables e below (T8.setTop (mkF m 92 #[.val (.int p1), .val (.int p2), .val (.int p3), .val (.int p4), .val (.ref b5), .val (.int (p1 &&& (3 : Int32))), .val (.ref r8), .val (.int (4 : Int32)), .unset, .unset, .unset] [(.ref r8)])) _
    refine own_len X8 hx hZ rfl V8 (g := (mkF m 92 #[.val (.int p1), .val (.int p2), .val (.int p3), .val (.int p4), .val (.ref b5), .val (.int (p1 &&& (3 : Int32))), .val (.ref r8), .val (.int (4 : Int32)), .unset, .unset, .unset] [(.ref r8)])) rfl rfl (hb hby at_92) _ ?_
    show Steps p.tables e below (T8.setTop (mkF m 93 #[.val (.int p1), .val (.int p2), .val (.int p3), .val (.int p4), .val (.ref b5), .val (.int (p1 &&& (3 : Int32))), .val (.ref r8), .val (.int (4 : Int32)), .unset, .unset, .unset] [(.int (4 : Int32))])) _
    refine XS.iload X8.here hx rfl (hb hby at_93) rfl ?_
    show Steps p.tables e below (T8.setTop (mkF m 95 #[.val (.int p1), .val (.int p2), .val (.int p3), .val (.int p4), .val (.ref b5), .val (.int (p1 &&& (3 : Int32))), .val (.ref r8), .val (.int (4 : Int32)), .unset, .unset, .unset] [(.int (4 : Int32)), (.int (4 : Int32))])) _
    refine XS.icmpYes X8.here hx rfl (pc0 := 95) (pc' := 100) rfl (hb hby at_95) rfl (teq (rfl : (4 : Int32) = (4 : Int32))).1 (by decide) (by decide) ?_
    show Steps p.tables e below (T8.setTop (mkF m 100 #[.val (.int p1), .val (.int p2), .val (.int p3), .val (.int p4), .val (.ref b5), .val (.int (p1 &&& (3 : Int32))), .val (.ref r8), .val (.int (4 : Int32)), .unset, .unset, .unset] [])) _
    refine XS.iload X8.here hx rfl (hb hby at_100) rfl ?_
    show Steps p.tables e below (T8.setTop (mkF m 102 #[.val (.int p1), .val (.int p2), .val (.int p3), .val (.int p4), .val (.ref b5), .val (.int (p1 &&& (3 : Int32))), .val (.ref r8), .val (.int (4 : Int32)), .unset, .unset, .unset] [(.int (p1 &&& (3 : Int32)))])) _
    refine XS.iconst X8.here hx rfl (hb hby at_102) ?_
    show Steps p.tables e below (T8.setTop (mkF m 103 #[.val (.int p1), .val (.int p2), .val (.int p3), .val (.int p4), .val (.ref b5), .val (.int (p1 &&& (3 : Int32))), .val (.ref r8), .val (.int (4 : Int32)), .unset, .unset, .unset] [(.int (1 : Int32)), (.int (p1 &&& (3 : Int32)))])) _
    refine XS.icmpNo X8.here hx rfl (hb hby at_103) rfl (flt hc103).1 ?_
    show Steps p.tables e below (T8.setTop (mkF m 106 #[.val (.int p1), .val (.int p2), .val (.int p3), .val (.int p4), .val (.ref b5), .val (.int (p1 &&& (3 : Int32))), .val (.ref r8), .val (.int (4 : Int32)), .unset, .unset, .unset] [])) _
    refine XS.aload X8.here hx rfl (hb hby at_106) rfl rfl ?_
    show Steps p.tables e below (T8.setTop (mkF m 108 #[.val (.int p1), .val (.int p2), .val (.int p3), .val (.int p4), .val (.ref b5), .val (.int (p1 &&& (3 : Int32))), .val (.ref r8), .val (.int (4 : Int32)), .unset, .unset, .unset] [(.ref r8)])) _
    refine XS.iconst X8.here hx rfl (hb hby at_108) ?_
    show Steps p.tables e below (T8.setTop (mkF m 109 #[.val (.int p1), .val (.int p2), .val (.int p3), .val (.int p4), .val (.ref b5), .val (.int (p1 &&& (3 : Int32))), .val (.ref r8), .val (.int (4 : Int32)), .unset, .unset, .unset] [(.int (0 : Int32)), (.ref r8)])) _
    refine XS.iloadN X8.here hx rfl (hb hby at_109) rfl ?_
    show Steps p.tables e below (T8.setTop (mkF m 110 #[.val (.int p1), .val (.int p2), .val (.int p3), .val (.int p4), .val (.ref b5), .val (.int (p1 &&& (3 : Int32))), .val (.ref r8), .val (.int (4 : Int32)), .unset, .unset, .unset] [(.int p2), (.int (0 : Int32)), (.ref r8)])) _
    refine st9 _ ?_
    show Steps p.tables e below (T9.setTop (mkF m 113 #[.val (.int p1), .val (.int p2), .val (.int p3), .val (.int p4), .val (.ref b5), .val (.int (p1 &&& (3 : Int32))), .val (.ref r8), .val (.int (4 : Int32)), .unset, .unset, .unset] [(.int (1 : Int32))])) _
    refine XS.ifYes X9.here hx rfl (pc0 := 113) (pc' := 118) rfl (hb hby at_113) rfl ((if0 _ _).trans (feq hc113).2) (by decide) (by decide) ?_
    show Steps p.tables e below (T9.setTop (mkF m 118 #[.val (.int p1), .val (.int p2), .val (.int p3), .val (.int p4), .val (.ref b5), .val (.int (p1 &&& (3 : Int32))), .val (.ref r8), .val (.int (4 : Int32)), .unset, .unset, .unset] [])) _
    refine XS.iload X9.here hx rfl (hb hby at_118) rfl ?_
    show Steps p.tables e below (T9.setTop (mkF m 120 #[.val (.int p1), .val (.int p2), .val (.int p3), .val (.int p4), .val (.ref b5), .val (.int (p1 &&& (3 : Int32))), .val (.ref r8), .val (.int (4 : Int32)), .unset, .unset, .unset] [(.int (p1 &&& (3 : Int32)))])) _
    refine XS.iconst X9.here hx rfl (hb hby at_120) ?_
    show Steps p.tables e below (T9.setTop (mkF m 121 #[.val (.int p1), .val (.int p2), .val (.int p3), .val (.int p4), .val (.ref b5), .val (.int (p1 &&& (3 : Int32))), .val (.ref r8), .val (.int (4 : Int32)), .unset, .unset, .unset] [(.int (2 : Int32)), (.int (p1 &&& (3 : Int32)))])) _
    refine XS.icmpYes X9.here hx rfl (pc0 := 121) (pc' := 139) rfl (hb hby at_121) rfl (tlt hc121).1 (by decide) (by decide) ?_
    show Steps p.tables e below (T9.setTop (mkF m 139 #[.val (.int p1), .val (.int p2), .val (.int p3), .val (.int p4), .val (.ref b5), .val (.int (p1 &&& (3 : Int32))), .val (.ref r8), .val (.int (4 : Int32)), .unset, .unset, .unset] [])) _
    refine XS.iload X9.here hx rfl (hb hby at_139) rfl ?_
    show Steps p.tables e below (T9.setTop (mkF m 141 #[.val (.int p1), .val (.int p2), .val (.int p3), .val (.int p4), .val (.ref b5), .val (.int (p1 &&& (3 : Int32))), .val (.ref r8), .val (.int (4 : Int32)), .unset, .unset, .unset] [(.int (p1 &&& (3 : Int32)))])) _
    refine XS.iconst X9.here hx rfl (hb hby at_141) ?_
    show Steps p.tables e below (T9.setTop (mkF m 142 #[.val (.int p1), .val (.int p2), .val (.int p3), .val (.int p4), .val (.ref b5), .val (.int (p1 &&& (3 : Int32))), .val (.ref r8), .val (.int (4 : Int32)), .unset, .unset, .unset] [(.int (3 : Int32)), (.int (p1 &&& (3 : Int32)))])) _
    refine XS.icmpYes X9.here hx rfl (pc0 := 142) (pc' := 157) rfl (hb hby at_142) rfl (tlt hc142).1 (by decide) (by decide) ?_
    show Steps p.tables e below (T9.setTop (mkF m 157 #[.val (.int p1), .val (.int p2), .val (.int p3), .val (.int p4), .val (.ref b5), .val (.int (p1 &&& (3 : Int32))), .val (.ref r8), .val (.int (4 : Int32)), .unset, .unset, .unset] [])) _
    refine XS.iconst X9.here hx rfl (hb hby at_157) ?_
    show Steps p.tables e below (T9.setTop (mkF m 158 #[.val (.int p1), .val (.int p2), .val (.int p3), .val (.int p4), .val (.ref b5), .val (.int (p1 &&& (3 : Int32))), .val (.ref r8), .val (.int (4 : Int32)), .unset, .unset, .unset] [(.int (0 : Int32))])) _
    refine XS.istore X9.here hx rfl (hb hby at_158) rfl (l' := #[.val (.int p1), .val (.int p2), .val (.int p3), .val (.int p4), .val (.ref b5), .val (.int (p1 &&& (3 : Int32))), .val (.ref r8), .val (.int (4 : Int32)), .val (.int (0 : Int32)), .unset, .unset]) rfl ?_
    show Steps p.tables e below (T9.setTop (mkF m 160 #[.val (.int p1), .val (.int p2), .val (.int p3), .val (.int p4), .val (.ref b5), .val (.int (p1 &&& (3 : Int32))), .val (.ref r8), .val (.int (4 : Int32)), .val (.int (0 : Int32)), .unset, .unset] [])) _
    refine XS.iconst X9.here hx rfl (hb hby at_160) ?_
    show Steps p.tables e below (T9.setTop (mkF m 161 #[.val (.int p1), .val (.int p2), .val (.int p3), .val (.int p4), .val (.ref b5), .val (.int (p1 &&& (3 : Int32))), .val (.ref r8), .val (.int (4 : Int32)), .val (.int (0 : Int32)), .unset, .unset] [(.int (0 : Int32))])) _
    refine XS.istore X9.here hx rfl (hb hby at_161) rfl (l' := #[.val (.int p1), .val (.int p2), .val (.int p3), .val (.int p4), .val (.ref b5), .val (.int (p1 &&& (3 : Int32))), .val (.ref r8), .val (.int (4 : Int32)), .val (.int (0 : Int32)), .val (.int (0 : Int32)), .unset]) rfl ?_
    show Steps p.tables e below (T9.setTop (mkF m 163 #[.val (.int p1), .val (.int p2), .val (.int p3), .val (.int p4), .val (.ref b5), .val (.int (p1 &&& (3 : Int32))), .val (.ref r8), .val (.int (4 : Int32)), .val (.int (0 : Int32)), .val (.int (0 : Int32)), .unset] [])) _
    refine XS.iload X9.here hx rfl (hb hby at_163) rfl ?_
    show Steps p.tables e below (T9.setTop (mkF m 165 #[.val (.int p1), .val (.int p2), .val (.int p3), .val (.int p4), .val (.ref b5), .val (.int (p1 &&& (3 : Int32))), .val (.ref r8), .val (.int (4 : Int32)), .val (.int (0 : Int32)), .val (.int (0 : Int32)), .unset] [(.int (4 : Int32))])) _
    refine XS.ifNo X9.here hx rfl (hb hby at_165) rfl ((if0 _ _).trans (tlt hc165).2.2.2) ?_
    show Steps p.tables e below (T9.setTop (mkF m 168 #[.val (.int p1), .val (.int p2), .val (.int p3), .val (.int p4), .val (.ref b5), .val (.int (p1 &&& (3 : Int32))), .val (.ref r8), .val (.int (4 : Int32)), .val (.int (0 : Int32)), .val (.int (0 : Int32)), .unset] [])) _
    refine XS.aload X9.here hx rfl (hb hby at_168) rfl rfl ?_
    show Steps p.tables e below (T9.setTop (mkF m 170 #[.val (.int p1), .val (.int p2), .val (.int p3), .val (.int p4), .val (.ref b5), .val (.int (p1 &&& (3 : Int32))), .val (.ref r8), .val (.int (4 : Int32)), .val (.int (0 : Int32)), .val (.int (0 : Int32)), .unset] [(.ref r8)])) _
    refine XS.iconst X9.here hx rfl (hb hby at_170) ?_
    show Steps p.tables e below (T9.setTop (mkF m 171 #[.val (.int p1), .val (.int p2), .val (.int p3), .val (.int p4), .val (.ref b5), .val (.int (p1 &&& (3 : Int32))), .val (.ref r8), .val (.int (4 : Int32)), .val (.int (0 : Int32)), .val (.int (0 : Int32)), .unset] [(.int (0 : Int32)), (.ref r8)])) _
    refine own_ldB X9 hx hZ e9 V8 (j := (0 : Int32)) (v := (.int (byK p2 24))) ⟨by decide, by decide⟩ rfl (g := (mkF m 171 #[.val (.int p1), .val (.int p2), .val (.int p3), .val (.int p4), .val (.ref b5), .val (.int (p1 &&& (3 : Int32))), .val (.ref r8), .val (.int (4 : Int32)), .val (.int (0 : Int32)), .val (.int (0 : Int32)), .unset] [(.int (0 : Int32)), (.ref r8)])) rfl rfl (hb hby at_171) _ ?_
    show Steps p.tables e below (T9.setTop (mkF m 172 #[.val (.int p1), .val (.int p2), .val (.int p3), .val (.int p4), .val (.ref b5), .val (.int (p1 &&& (3 : Int32))), .val (.ref r8), .val (.int (4 : Int32)), .val (.int (0 : Int32)), .val (.int (0 : Int32)), .unset] [(.int (byK p2 24))])) _
    refine XS.istore X9.here hx rfl (hb hby at_172) rfl (l' := #[.val (.int p1), .val (.int p2), .val (.int p3), .val (.int p4), .val (.ref b5), .val (.int (p1 &&& (3 : Int32))), .val (.ref r8), .val (.int (4 : Int32)), .val (.int (byK p2 24)), .val (.int (0 : Int32)), .unset]) rfl ?_
    show Steps p.tables e below (T9.setTop (mkF m 174 #[.val (.int p1), .val (.int p2), .val (.int p3), .val (.int p4), .val (.ref b5), .val (.int (p1 &&& (3 : Int32))), .val (.ref r8), .val (.int (4 : Int32)), .val (.int (byK p2 24)), .val (.int (0 : Int32)), .unset] [])) _
    refine XS.aload X9.here hx rfl (hb hby at_174) rfl rfl ?_
    show Steps p.tables e below (T9.setTop (mkF m 176 #[.val (.int p1), .val (.int p2), .val (.int p3), .val (.int p4), .val (.ref b5), .val (.int (p1 &&& (3 : Int32))), .val (.ref r8), .val (.int (4 : Int32)), .val (.int (byK p2 24)), .val (.int (0 : Int32)), .unset] [(.ref r8)])) _
    refine XS.iload X9.here hx rfl (hb hby at_176) rfl ?_
    show Steps p.tables e below (T9.setTop (mkF m 178 #[.val (.int p1), .val (.int p2), .val (.int p3), .val (.int p4), .val (.ref b5), .val (.int (p1 &&& (3 : Int32))), .val (.ref r8), .val (.int (4 : Int32)), .val (.int (byK p2 24)), .val (.int (0 : Int32)), .unset] [(.int (4 : Int32)), (.ref r8)])) _
    refine XS.iconst X9.here hx rfl (hb hby at_178) ?_
    show Steps p.tables e below (T9.setTop (mkF m 179 #[.val (.int p1), .val (.int p2), .val (.int p3), .val (.int p4), .val (.ref b5), .val (.int (p1 &&& (3 : Int32))), .val (.ref r8), .val (.int (4 : Int32)), .val (.int (byK p2 24)), .val (.int (0 : Int32)), .unset] [(.int (1 : Int32)), (.int (4 : Int32)), (.ref r8)])) _
    refine XS.isub X9.here hx rfl (hb hby at_179) rfl ?_
    show Steps p.tables e below (T9.setTop (mkF m 180 #[.val (.int p1), .val (.int p2), .val (.int p3), .val (.int p4), .val (.ref b5), .val (.int (p1 &&& (3 : Int32))), .val (.ref r8), .val (.int (4 : Int32)), .val (.int (byK p2 24)), .val (.int (0 : Int32)), .unset] [(.int ((4 : Int32) - (1 : Int32))), (.ref r8)])) _
    refine own_ldB X9 hx hZ e9 V8 (j := ((4 : Int32) - (1 : Int32))) (v := (.int (by0 p2))) ⟨by decide, by decide⟩ rfl (g := (mkF m 180 #[.val (.int p1), .val (.int p2), .val (.int p3), .val (.int p4), .val (.ref b5), .val (.int (p1 &&& (3 : Int32))), .val (.ref r8), .val (.int (4 : Int32)), .val (.int (byK p2 24)), .val (.int (0 : Int32)), .unset] [(.int ((4 : Int32) - (1 : Int32))), (.ref r8)])) rfl rfl (hb hby at_180) _ ?_
    show Steps p.tables e below (T9.setTop (mkF m 181 #[.val (.int p1), .val (.int p2), .val (.int p3), .val (.int p4), .val (.ref b5), .val (.int (p1 &&& (3 : Int32))), .val (.ref r8), .val (.int (4 : Int32)), .val (.int (byK p2 24)), .val (.int (0 : Int32)), .unset] [(.int (by0 p2))])) _
    refine XS.istore X9.here hx rfl (hb hby at_181) rfl (l' := #[.val (.int p1), .val (.int p2), .val (.int p3), .val (.int p4), .val (.ref b5), .val (.int (p1 &&& (3 : Int32))), .val (.ref r8), .val (.int (4 : Int32)), .val (.int (byK p2 24)), .val (.int (by0 p2)), .unset]) rfl ?_
    show Steps p.tables e below (T9.setTop (mkF m 183 #[.val (.int p1), .val (.int p2), .val (.int p3), .val (.int p4), .val (.ref b5), .val (.int (p1 &&& (3 : Int32))), .val (.ref r8), .val (.int (4 : Int32)), .val (.int (byK p2 24)), .val (.int (by0 p2)), .unset] [])) _
    refine XS.aload X9.here hx rfl (hb hby at_183) rfl rfl ?_
    show Steps p.tables e below (T9.setTop (mkF m 185 #[.val (.int p1), .val (.int p2), .val (.int p3), .val (.int p4), .val (.ref b5), .val (.int (p1 &&& (3 : Int32))), .val (.ref r8), .val (.int (4 : Int32)), .val (.int (byK p2 24)), .val (.int (by0 p2)), .unset] [(.ref r8)])) _
    refine XS.iconst X9.here hx rfl (hb hby at_185) ?_
    show Steps p.tables e below (T9.setTop (mkF m 186 #[.val (.int p1), .val (.int p2), .val (.int p3), .val (.int p4), .val (.ref b5), .val (.int (p1 &&& (3 : Int32))), .val (.ref r8), .val (.int (4 : Int32)), .val (.int (byK p2 24)), .val (.int (by0 p2)), .unset] [(.int (0 : Int32)), (.ref r8)])) _
    refine XS.aload X9.here hx rfl (hb hby at_186) rfl rfl ?_
    show Steps p.tables e below (T9.setTop (mkF m 188 #[.val (.int p1), .val (.int p2), .val (.int p3), .val (.int p4), .val (.ref b5), .val (.int (p1 &&& (3 : Int32))), .val (.ref r8), .val (.int (4 : Int32)), .val (.int (byK p2 24)), .val (.int (by0 p2)), .unset] [(.ref r8), (.int (0 : Int32)), (.ref r8)])) _
    refine XS.iconst X9.here hx rfl (hb hby at_188) ?_
    show Steps p.tables e below (T9.setTop (mkF m 189 #[.val (.int p1), .val (.int p2), .val (.int p3), .val (.int p4), .val (.ref b5), .val (.int (p1 &&& (3 : Int32))), .val (.ref r8), .val (.int (4 : Int32)), .val (.int (byK p2 24)), .val (.int (by0 p2)), .unset] [(.int (0 : Int32)), (.ref r8), (.int (0 : Int32)), (.ref r8)])) _
    refine own_ldB X9 hx hZ e9 V8 (j := (0 : Int32)) (v := (.int (byK p2 24))) ⟨by decide, by decide⟩ rfl (g := (mkF m 189 #[.val (.int p1), .val (.int p2), .val (.int p3), .val (.int p4), .val (.ref b5), .val (.int (p1 &&& (3 : Int32))), .val (.ref r8), .val (.int (4 : Int32)), .val (.int (byK p2 24)), .val (.int (by0 p2)), .unset] [(.int (0 : Int32)), (.ref r8), (.int (0 : Int32)), (.ref r8)])) rfl rfl (hb hby at_189) _ ?_
    show Steps p.tables e below (T9.setTop (mkF m 190 #[.val (.int p1), .val (.int p2), .val (.int p3), .val (.int p4), .val (.ref b5), .val (.int (p1 &&& (3 : Int32))), .val (.ref r8), .val (.int (4 : Int32)), .val (.int (byK p2 24)), .val (.int (by0 p2)), .unset] [(.int (byK p2 24)), (.int (0 : Int32)), (.ref r8)])) _
    refine XS.iconst X9.here hx rfl (hb hby at_190) ?_
    show Steps p.tables e below (T9.setTop (mkF m 191 #[.val (.int p1), .val (.int p2), .val (.int p3), .val (.int p4), .val (.ref b5), .val (.int (p1 &&& (3 : Int32))), .val (.ref r8), .val (.int (4 : Int32)), .val (.int (byK p2 24)), .val (.int (by0 p2)), .unset] [(.int (1 : Int32)), (.int (byK p2 24)), (.int (0 : Int32)), (.ref r8)])) _
    refine XS.ixor X9.here hx rfl (hb hby at_191) rfl ?_
    show Steps p.tables e below (T9.setTop (mkF m 192 #[.val (.int p1), .val (.int p2), .val (.int p3), .val (.int p4), .val (.ref b5), .val (.int (p1 &&& (3 : Int32))), .val (.ref r8), .val (.int (4 : Int32)), .val (.int (byK p2 24)), .val (.int (by0 p2)), .unset] [(.int ((byK p2 24) ^^^ (1 : Int32))), (.int (0 : Int32)), (.ref r8)])) _
    refine XS.i2b X9.here hx rfl (hb hby at_192) rfl ?_
    show Steps p.tables e below (T9.setTop (mkF m 193 #[.val (.int p1), .val (.int p2), .val (.int p3), .val (.int p4), .val (.ref b5), .val (.int (p1 &&& (3 : Int32))), .val (.ref r8), .val (.int (4 : Int32)), .val (.int (byK p2 24)), .val (.int (by0 p2)), .unset] [(.int (((byK p2 24) ^^^ (1 : Int32)).toInt8.toInt32)), (.int (0 : Int32)), (.ref r8)])) _
    refine st10 _ ?_
    show Steps p.tables e below (T10.setTop (mkF m 194 #[.val (.int p1), .val (.int p2), .val (.int p3), .val (.int p4), .val (.ref b5), .val (.int (p1 &&& (3 : Int32))), .val (.ref r8), .val (.int (4 : Int32)), .val (.int (byK p2 24)), .val (.int (by0 p2)), .unset] [])) _
    refine XS.aload X10.here hx rfl (hb hby at_194) rfl rfl ?_
    show Steps p.tables e below (T10.setTop (mkF m 196 #[.val (.int p1), .val (.int p2), .val (.int p3), .val (.int p4), .val (.ref b5), .val (.int (p1 &&& (3 : Int32))), .val (.ref r8), .val (.int (4 : Int32)), .val (.int (byK p2 24)), .val (.int (by0 p2)), .unset] [(.ref b5)])) _
    refine XS.iloadN X10.here hx rfl (hb hby at_196) rfl ?_
    show Steps p.tables e below (T10.setTop (mkF m 197 #[.val (.int p1), .val (.int p2), .val (.int p3), .val (.int p4), .val (.ref b5), .val (.int (p1 &&& (3 : Int32))), .val (.ref r8), .val (.int (4 : Int32)), .val (.int (byK p2 24)), .val (.int (by0 p2)), .unset] [(.int p4), (.ref b5)])) _
    refine st11.trans ?_
    show Steps p.tables e below (T11.setTop (mkF m 200 #[.val (.int p1), .val (.int p2), .val (.int p3), .val (.int p4), .val (.ref b5), .val (.int (p1 &&& (3 : Int32))), .val (.ref r8), .val (.int (4 : Int32)), .val (.int (byK p2 24)), .val (.int (by0 p2)), .unset] [])) _
    refine XS.aload X11.here hx rfl (hb hby at_200) rfl rfl ?_
    show Steps p.tables e below (T11.setTop (mkF m 202 #[.val (.int p1), .val (.int p2), .val (.int p3), .val (.int p4), .val (.ref b5), .val (.int (p1 &&& (3 : Int32))), .val (.ref r8), .val (.int (4 : Int32)), .val (.int (byK p2 24)), .val (.int (by0 p2)), .unset] [(.ref b5)])) _
    refine st12.trans ?_
    show Steps p.tables e below (T12.setTop (mkF m 205 #[.val (.int p1), .val (.int p2), .val (.int p3), .val (.int p4), .val (.ref b5), .val (.int (p1 &&& (3 : Int32))), .val (.ref r8), .val (.int (4 : Int32)), .val (.int (byK p2 24)), .val (.int (by0 p2)), .unset] [(.ref r12)])) _
    refine XS.astore X12.here hx rfl (hb hby at_205) rfl rfl (l' := #[.val (.int p1), .val (.int p2), .val (.int p3), .val (.int p4), .val (.ref b5), .val (.int (p1 &&& (3 : Int32))), .val (.ref r8), .val (.int (4 : Int32)), .val (.int (byK p2 24)), .val (.int (by0 p2)), .val (.ref r12)]) rfl ?_
    show Steps p.tables e below (T12.setTop (mkF m 207 #[.val (.int p1), .val (.int p2), .val (.int p3), .val (.int p4), .val (.ref b5), .val (.int (p1 &&& (3 : Int32))), .val (.ref r8), .val (.int (4 : Int32)), .val (.int (byK p2 24)), .val (.int (by0 p2)), .val (.ref r12)] [])) _
    refine XS.aload X12.here hx rfl (hb hby at_207) rfl rfl ?_
    show Steps p.tables e below (T12.setTop (mkF m 209 #[.val (.int p1), .val (.int p2), .val (.int p3), .val (.int p4), .val (.ref b5), .val (.int (p1 &&& (3 : Int32))), .val (.ref r8), .val (.int (4 : Int32)), .val (.int (byK p2 24)), .val (.int (by0 p2)), .val (.ref r12)] [(.ref r12)])) _
    refine own_len X12 hx hZ rfl V12 (g := (mkF m 209 #[.val (.int p1), .val (.int p2), .val (.int p3), .val (.int p4), .val (.ref b5), .val (.int (p1 &&& (3 : Int32))), .val (.ref r8), .val (.int (4 : Int32)), .val (.int (byK p2 24)), .val (.int (by0 p2)), .val (.ref r12)] [(.ref r12)])) rfl rfl (hb hby at_209) _ ?_
    show Steps p.tables e below (T12.setTop (mkF m 210 #[.val (.int p1), .val (.int p2), .val (.int p3), .val (.int p4), .val (.ref b5), .val (.int (p1 &&& (3 : Int32))), .val (.ref r8), .val (.int (4 : Int32)), .val (.int (byK p2 24)), .val (.int (by0 p2)), .val (.ref r12)] [(.int (5 : Int32))])) _
    refine XS.iload X12.here hx rfl (hb hby at_210) rfl ?_
    show Steps p.tables e below (T12.setTop (mkF m 212 #[.val (.int p1), .val (.int p2), .val (.int p3), .val (.int p4), .val (.ref b5), .val (.int (p1 &&& (3 : Int32))), .val (.ref r8), .val (.int (4 : Int32)), .val (.int (byK p2 24)), .val (.int (by0 p2)), .val (.ref r12)] [(.int (4 : Int32)), (.int (5 : Int32))])) _
    refine XS.iconst X12.here hx rfl (hb hby at_212) ?_
    show Steps p.tables e below (T12.setTop (mkF m 213 #[.val (.int p1), .val (.int p2), .val (.int p3), .val (.int p4), .val (.ref b5), .val (.int (p1 &&& (3 : Int32))), .val (.ref r8), .val (.int (4 : Int32)), .val (.int (byK p2 24)), .val (.int (by0 p2)), .val (.ref r12)] [(.int (1 : Int32)), (.int (4 : Int32)), (.int (5 : Int32))])) _
    refine XS.iadd X12.here hx rfl (hb hby at_213) rfl ?_
    show Steps p.tables e below (T12.setTop (mkF m 214 #[.val (.int p1), .val (.int p2), .val (.int p3), .val (.int p4), .val (.ref b5), .val (.int (p1 &&& (3 : Int32))), .val (.ref r8), .val (.int (4 : Int32)), .val (.int (byK p2 24)), .val (.int (by0 p2)), .val (.ref r12)] [(.int ((4 : Int32) + (1 : Int32))), (.int (5 : Int32))])) _
    refine XS.icmpYes X12.here hx rfl (pc0 := 214) (pc' := 219) rfl (hb hby at_214) rfl (teq hc214).1 (by decide) (by decide) ?_
    show Steps p.tables e below (T12.setTop (mkF m 219 #[.val (.int p1), .val (.int p2), .val (.int p3), .val (.int p4), .val (.ref b5), .val (.int (p1 &&& (3 : Int32))), .val (.ref r8), .val (.int (4 : Int32)), .val (.int (byK p2 24)), .val (.int (by0 p2)), .val (.ref r12)] [])) _
    refine XS.iload X12.here hx rfl (hb hby at_219) rfl ?_
    show Steps p.tables e below (T12.setTop (mkF m 221 #[.val (.int p1), .val (.int p2), .val (.int p3), .val (.int p4), .val (.ref b5), .val (.int (p1 &&& (3 : Int32))), .val (.ref r8), .val (.int (4 : Int32)), .val (.int (byK p2 24)), .val (.int (by0 p2)), .val (.ref r12)] [(.int (4 : Int32))])) _
    refine XS.ifNo X12.here hx rfl (hb hby at_221) rfl ((if0 _ _).trans (tlt hc221).2.2.2) ?_
    show Steps p.tables e below (T12.setTop (mkF m 224 #[.val (.int p1), .val (.int p2), .val (.int p3), .val (.int p4), .val (.ref b5), .val (.int (p1 &&& (3 : Int32))), .val (.ref r8), .val (.int (4 : Int32)), .val (.int (byK p2 24)), .val (.int (by0 p2)), .val (.ref r12)] [])) _
    refine XS.aload X12.here hx rfl (hb hby at_224) rfl rfl ?_
    show Steps p.tables e below (T12.setTop (mkF m 226 #[.val (.int p1), .val (.int p2), .val (.int p3), .val (.int p4), .val (.ref b5), .val (.int (p1 &&& (3 : Int32))), .val (.ref r8), .val (.int (4 : Int32)), .val (.int (byK p2 24)), .val (.int (by0 p2)), .val (.ref r12)] [(.ref r12)])) _
    refine XS.iconst X12.here hx rfl (hb hby at_226) ?_
    show Steps p.tables e below (T12.setTop (mkF m 227 #[.val (.int p1), .val (.int p2), .val (.int p3), .val (.int p4), .val (.ref b5), .val (.int (p1 &&& (3 : Int32))), .val (.ref r8), .val (.int (4 : Int32)), .val (.int (byK p2 24)), .val (.int (by0 p2)), .val (.ref r12)] [(.int (0 : Int32)), (.ref r12)])) _
    refine own_ldB X12 hx hZ rfl V12 (j := (0 : Int32)) (v := (.int (byK p2 24))) ⟨by decide, by decide⟩ rfl (g := (mkF m 227 #[.val (.int p1), .val (.int p2), .val (.int p3), .val (.int p4), .val (.ref b5), .val (.int (p1 &&& (3 : Int32))), .val (.ref r8), .val (.int (4 : Int32)), .val (.int (byK p2 24)), .val (.int (by0 p2)), .val (.ref r12)] [(.int (0 : Int32)), (.ref r12)])) rfl rfl (hb hby at_227) _ ?_
    show Steps p.tables e below (T12.setTop (mkF m 228 #[.val (.int p1), .val (.int p2), .val (.int p3), .val (.int p4), .val (.ref b5), .val (.int (p1 &&& (3 : Int32))), .val (.ref r8), .val (.int (4 : Int32)), .val (.int (byK p2 24)), .val (.int (by0 p2)), .val (.ref r12)] [(.int (byK p2 24))])) _
    refine XS.iload X12.here hx rfl (hb hby at_228) rfl ?_
    show Steps p.tables e below (T12.setTop (mkF m 230 #[.val (.int p1), .val (.int p2), .val (.int p3), .val (.int p4), .val (.ref b5), .val (.int (p1 &&& (3 : Int32))), .val (.ref r8), .val (.int (4 : Int32)), .val (.int (byK p2 24)), .val (.int (by0 p2)), .val (.ref r12)] [(.int (byK p2 24)), (.int (byK p2 24))])) _
    refine XS.icmpYes X12.here hx rfl (pc0 := 230) (pc' := 235) rfl (hb hby at_230) rfl (teq (rfl : (byK p2 24) = (byK p2 24))).1 (by decide) (by decide) ?_
    show Steps p.tables e below (T12.setTop (mkF m 235 #[.val (.int p1), .val (.int p2), .val (.int p3), .val (.int p4), .val (.ref b5), .val (.int (p1 &&& (3 : Int32))), .val (.ref r8), .val (.int (4 : Int32)), .val (.int (byK p2 24)), .val (.int (by0 p2)), .val (.ref r12)] [])) _
    refine XS.iload X12.here hx rfl (hb hby at_235) rfl ?_
    show Steps p.tables e below (T12.setTop (mkF m 237 #[.val (.int p1), .val (.int p2), .val (.int p3), .val (.int p4), .val (.ref b5), .val (.int (p1 &&& (3 : Int32))), .val (.ref r8), .val (.int (4 : Int32)), .val (.int (byK p2 24)), .val (.int (by0 p2)), .val (.ref r12)] [(.int (4 : Int32))])) _
    refine XS.ifNo X12.here hx rfl (hb hby at_237) rfl ((if0 _ _).trans (tlt hc237).2.2.2) ?_
    show Steps p.tables e below (T12.setTop (mkF m 240 #[.val (.int p1), .val (.int p2), .val (.int p3), .val (.int p4), .val (.ref b5), .val (.int (p1 &&& (3 : Int32))), .val (.ref r8), .val (.int (4 : Int32)), .val (.int (byK p2 24)), .val (.int (by0 p2)), .val (.ref r12)] [])) _
    refine XS.aload X12.here hx rfl (hb hby at_240) rfl rfl ?_
    show Steps p.tables e below (T12.setTop (mkF m 242 #[.val (.int p1), .val (.int p2), .val (.int p3), .val (.int p4), .val (.ref b5), .val (.int (p1 &&& (3 : Int32))), .val (.ref r8), .val (.int (4 : Int32)), .val (.int (byK p2 24)), .val (.int (by0 p2)), .val (.ref r12)] [(.ref r12)])) _
    refine XS.iload X12.here hx rfl (hb hby at_242) rfl ?_
    show Steps p.tables e below (T12.setTop (mkF m 244 #[.val (.int p1), .val (.int p2), .val (.int p3), .val (.int p4), .val (.ref b5), .val (.int (p1 &&& (3 : Int32))), .val (.ref r8), .val (.int (4 : Int32)), .val (.int (byK p2 24)), .val (.int (by0 p2)), .val (.ref r12)] [(.int (4 : Int32)), (.ref r12)])) _
    refine XS.iconst X12.here hx rfl (hb hby at_244) ?_
    show Steps p.tables e below (T12.setTop (mkF m 245 #[.val (.int p1), .val (.int p2), .val (.int p3), .val (.int p4), .val (.ref b5), .val (.int (p1 &&& (3 : Int32))), .val (.ref r8), .val (.int (4 : Int32)), .val (.int (byK p2 24)), .val (.int (by0 p2)), .val (.ref r12)] [(.int (1 : Int32)), (.int (4 : Int32)), (.ref r12)])) _
    refine XS.isub X12.here hx rfl (hb hby at_245) rfl ?_
    show Steps p.tables e below (T12.setTop (mkF m 246 #[.val (.int p1), .val (.int p2), .val (.int p3), .val (.int p4), .val (.ref b5), .val (.int (p1 &&& (3 : Int32))), .val (.ref r8), .val (.int (4 : Int32)), .val (.int (byK p2 24)), .val (.int (by0 p2)), .val (.ref r12)] [(.int ((4 : Int32) - (1 : Int32))), (.ref r12)])) _
    refine own_ldB X12 hx hZ rfl V12 (j := ((4 : Int32) - (1 : Int32))) (v := (.int (by0 p2))) ⟨by decide, by decide⟩ rfl (g := (mkF m 246 #[.val (.int p1), .val (.int p2), .val (.int p3), .val (.int p4), .val (.ref b5), .val (.int (p1 &&& (3 : Int32))), .val (.ref r8), .val (.int (4 : Int32)), .val (.int (byK p2 24)), .val (.int (by0 p2)), .val (.ref r12)] [(.int ((4 : Int32) - (1 : Int32))), (.ref r12)])) rfl rfl (hb hby at_246) _ ?_
    show Steps p.tables e below (T12.setTop (mkF m 247 #[.val (.int p1), .val (.int p2), .val (.int p3), .val (.int p4), .val (.ref b5), .val (.int (p1 &&& (3 : Int32))), .val (.ref r8), .val (.int (4 : Int32)), .val (.int (byK p2 24)), .val (.int (by0 p2)), .val (.ref r12)] [(.int (by0 p2))])) _
    refine XS.iload X12.here hx rfl (hb hby at_247) rfl ?_
    show Steps p.tables e below (T12.setTop (mkF m 249 #[.val (.int p1), .val (.int p2), .val (.int p3), .val (.int p4), .val (.ref b5), .val (.int (p1 &&& (3 : Int32))), .val (.ref r8), .val (.int (4 : Int32)), .val (.int (byK p2 24)), .val (.int (by0 p2)), .val (.ref r12)] [(.int (by0 p2)), (.int (by0 p2))])) _
    refine XS.icmpYes X12.here hx rfl (pc0 := 249) (pc' := 254) rfl (hb hby at_249) rfl (teq (rfl : (by0 p2) = (by0 p2))).1 (by decide) (by decide) ?_
    show Steps p.tables e below (T12.setTop (mkF m 254 #[.val (.int p1), .val (.int p2), .val (.int p3), .val (.int p4), .val (.ref b5), .val (.int (p1 &&& (3 : Int32))), .val (.ref r8), .val (.int (4 : Int32)), .val (.int (byK p2 24)), .val (.int (by0 p2)), .val (.ref r12)] [])) _
    refine XS.aload X12.here hx rfl (hb hby at_254) rfl rfl ?_
    show Steps p.tables e below (T12.setTop (mkF m 256 #[.val (.int p1), .val (.int p2), .val (.int p3), .val (.int p4), .val (.ref b5), .val (.int (p1 &&& (3 : Int32))), .val (.ref r8), .val (.int (4 : Int32)), .val (.int (byK p2 24)), .val (.int (by0 p2)), .val (.ref r12)] [(.ref r12)])) _
    refine XS.iload X12.here hx rfl (hb hby at_256) rfl ?_
    show Steps p.tables e below (T12.setTop (mkF m 258 #[.val (.int p1), .val (.int p2), .val (.int p3), .val (.int p4), .val (.ref b5), .val (.int (p1 &&& (3 : Int32))), .val (.ref r8), .val (.int (4 : Int32)), .val (.int (byK p2 24)), .val (.int (by0 p2)), .val (.ref r12)] [(.int (4 : Int32)), (.ref r12)])) _
    refine own_ldB X12 hx hZ rfl V12 (j := (4 : Int32)) (v := (.int (by0 p4))) ⟨by decide, by decide⟩ rfl (g := (mkF m 258 #[.val (.int p1), .val (.int p2), .val (.int p3), .val (.int p4), .val (.ref b5), .val (.int (p1 &&& (3 : Int32))), .val (.ref r8), .val (.int (4 : Int32)), .val (.int (byK p2 24)), .val (.int (by0 p2)), .val (.ref r12)] [(.int (4 : Int32)), (.ref r12)])) rfl rfl (hb hby at_258) _ ?_
    show Steps p.tables e below (T12.setTop (mkF m 259 #[.val (.int p1), .val (.int p2), .val (.int p3), .val (.int p4), .val (.ref b5), .val (.int (p1 &&& (3 : Int32))), .val (.ref r8), .val (.int (4 : Int32)), .val (.int (byK p2 24)), .val (.int (by0 p2)), .val (.ref r12)] [(.int (by0 p4))])) _
    refine XS.iloadN X12.here hx rfl (hb hby at_259) rfl ?_
    show Steps p.tables e below (T12.setTop (mkF m 260 #[.val (.int p1), .val (.int p2), .val (.int p3), .val (.int p4), .val (.ref b5), .val (.int (p1 &&& (3 : Int32))), .val (.ref r8), .val (.int (4 : Int32)), .val (.int (byK p2 24)), .val (.int (by0 p2)), .val (.ref r12)] [(.int p4), (.int (by0 p4))])) _
    refine XS.sipush X12.here hx rfl (hb hby at_260) ?_
    show Steps p.tables e below (T12.setTop (mkF m 263 #[.val (.int p1), .val (.int p2), .val (.int p3), .val (.int p4), .val (.ref b5), .val (.int (p1 &&& (3 : Int32))), .val (.ref r8), .val (.int (4 : Int32)), .val (.int (byK p2 24)), .val (.int (by0 p2)), .val (.ref r12)] [(.int (255 : Int32)), (.int p4), (.int (by0 p4))])) _
    refine XS.iand X12.here hx rfl (hb hby at_263) rfl ?_
    show Steps p.tables e below (T12.setTop (mkF m 264 #[.val (.int p1), .val (.int p2), .val (.int p3), .val (.int p4), .val (.ref b5), .val (.int (p1 &&& (3 : Int32))), .val (.ref r8), .val (.int (4 : Int32)), .val (.int (byK p2 24)), .val (.int (by0 p2)), .val (.ref r12)] [(.int (p4 &&& (255 : Int32))), (.int (by0 p4))])) _
    refine XS.i2b X12.here hx rfl (hb hby at_264) rfl ?_
    show Steps p.tables e below (T12.setTop (mkF m 265 #[.val (.int p1), .val (.int p2), .val (.int p3), .val (.int p4), .val (.ref b5), .val (.int (p1 &&& (3 : Int32))), .val (.ref r8), .val (.int (4 : Int32)), .val (.int (byK p2 24)), .val (.int (by0 p2)), .val (.ref r12)] [(.int ((p4 &&& (255 : Int32)).toInt8.toInt32)), (.int (by0 p4))])) _
    refine XS.icmpYes X12.here hx rfl (pc0 := 265) (pc' := 270) rfl (hb hby at_265) rfl (teq hc265).1 (by decide) (by decide) ?_
    show Steps p.tables e below (T12.setTop (mkF m 270 #[.val (.int p1), .val (.int p2), .val (.int p3), .val (.int p4), .val (.ref b5), .val (.int (p1 &&& (3 : Int32))), .val (.ref r8), .val (.int (4 : Int32)), .val (.int (byK p2 24)), .val (.int (by0 p2)), .val (.ref r12)] [])) _
    refine XS.iload X12.here hx rfl (hb hby at_270) rfl ?_
    show Steps p.tables e below (T12.setTop (mkF m 272 #[.val (.int p1), .val (.int p2), .val (.int p3), .val (.int p4), .val (.ref b5), .val (.int (p1 &&& (3 : Int32))), .val (.ref r8), .val (.int (4 : Int32)), .val (.int (byK p2 24)), .val (.int (by0 p2)), .val (.ref r12)] [(.int (4 : Int32))])) _
    refine XS.ifNo X12.here hx rfl (hb hby at_272) rfl ((if0 _ _).trans (tlt hc272).2.2.2) ?_
    show Steps p.tables e below (T12.setTop (mkF m 275 #[.val (.int p1), .val (.int p2), .val (.int p3), .val (.int p4), .val (.ref b5), .val (.int (p1 &&& (3 : Int32))), .val (.ref r8), .val (.int (4 : Int32)), .val (.int (byK p2 24)), .val (.int (by0 p2)), .val (.ref r12)] [])) _
    refine XS.aload X12.here hx rfl (hb hby at_275) rfl rfl ?_
    show Steps p.tables e below (T12.setTop (mkF m 277 #[.val (.int p1), .val (.int p2), .val (.int p3), .val (.int p4), .val (.ref b5), .val (.int (p1 &&& (3 : Int32))), .val (.ref r8), .val (.int (4 : Int32)), .val (.int (byK p2 24)), .val (.int (by0 p2)), .val (.ref r12)] [(.ref r8)])) _
    refine own_len X12 hx hZ rfl ((V10.keep K11 (ninS (Ne.symm ne_b5_r8) (ninS (Ne.symm ne_b6x_r8) nin0))).keep K12 nin0) (g := (mkF m 277 #[.val (.int p1), .val (.int p2), .val (.int p3), .val (.int p4), .val (.ref b5), .val (.int (p1 &&& (3 : Int32))), .val (.ref r8), .val (.int (4 : Int32)), .val (.int (byK p2 24)), .val (.int (by0 p2)), .val (.ref r12)] [(.ref r8)])) rfl rfl (hb hby at_277) _ ?_
    show Steps p.tables e below (T12.setTop (mkF m 278 #[.val (.int p1), .val (.int p2), .val (.int p3), .val (.int p4), .val (.ref b5), .val (.int (p1 &&& (3 : Int32))), .val (.ref r8), .val (.int (4 : Int32)), .val (.int (byK p2 24)), .val (.int (by0 p2)), .val (.ref r12)] [(.int (4 : Int32))])) _
    refine XS.iload X12.here hx rfl (hb hby at_278) rfl ?_
    show Steps p.tables e below (T12.setTop (mkF m 280 #[.val (.int p1), .val (.int p2), .val (.int p3), .val (.int p4), .val (.ref b5), .val (.int (p1 &&& (3 : Int32))), .val (.ref r8), .val (.int (4 : Int32)), .val (.int (byK p2 24)), .val (.int (by0 p2)), .val (.ref r12)] [(.int (4 : Int32)), (.int (4 : Int32))])) _
    refine XS.icmpYes X12.here hx rfl (pc0 := 280) (pc' := 285) rfl (hb hby at_280) rfl (teq (rfl : (4 : Int32) = (4 : Int32))).1 (by decide) (by decide) ?_
    show Steps p.tables e below (T12.setTop (mkF m 285 #[.val (.int p1), .val (.int p2), .val (.int p3), .val (.int p4), .val (.ref b5), .val (.int (p1 &&& (3 : Int32))), .val (.ref r8), .val (.int (4 : Int32)), .val (.int (byK p2 24)), .val (.int (by0 p2)), .val (.ref r12)] [])) _
    refine XS.iconst X12.here hx rfl (hb hby at_285) ?_
    show Steps p.tables e below (T12.setTop (mkF m 286 #[.val (.int p1), .val (.int p2), .val (.int p3), .val (.int p4), .val (.ref b5), .val (.int (p1 &&& (3 : Int32))), .val (.ref r8), .val (.int (4 : Int32)), .val (.int (byK p2 24)), .val (.int (by0 p2)), .val (.ref r12)] [(.int (1 : Int32))])) _
    exact retN X12 hx (t := .boolean) Bd.returns (by simp) (hb hby at_286) hr
  · show Q0 n0 _ _
    exact ⟨rfl, N12⟩
set_option maxRecDepth 65536 in
set_option maxHeartbeats 40000000 in
theorem rm0_2 (l : Launch) (Z : State) (a0 : Array Value) (hw : ∀ d ∈ tables_1, d.before a0 Z = true) (ws : List Jvm.Cond) (p1 p2 p3 p4 : Int32) (h0 : Heap) (n0 : Nat) (Z0 : n0 ≤ h0.size) (hc17 : ¬ ((p1 &&& (3 : Int32)) < (1 : Int32))) (hc29 : ¬ ((p1 &&& (3 : Int32)) < (2 : Int32))) (hc41 : (p1 &&& (3 : Int32)) < (3 : Int32)) (hc59 : ¬ ((p1 &&& (3 : Int32)) = (0 : Int32))) (hc69 : ¬ ((p1 &&& (3 : Int32)) = (1 : Int32))) (hc79 : (p1 &&& (3 : Int32)) = (2 : Int32)) (hc103 : ¬ ((p1 &&& (3 : Int32)) < (1 : Int32))) (hc113 : ¬ ((1 : Int32) = (0 : Int32))) (hc121 : ¬ ((p1 &&& (3 : Int32)) < (2 : Int32))) (hc134 : (by0 p3) = ((p3 &&& (255 : Int32)).toInt8.toInt32)) (hc142 : (p1 &&& (3 : Int32)) < (3 : Int32)) (hc165 : (0 : Int32) < (5 : Int32)) (hc214 : (6 : Int32) = ((5 : Int32) + (1 : Int32))) (hc221 : (0 : Int32) < (5 : Int32)) (hc237 : (0 : Int32) < (5 : Int32)) (hc265 : (by0 p4) = ((p4 &&& (255 : Int32)).toInt8.toInt32)) (hc272 : (0 : Int32) < (5 : Int32)) :
    MetFree l x (head1 (Jvm.Cond.code x code maxLocals ret :: ws) room_1) (fun a U => a = #[(.int p1), (.int p2), (.int p3), (.int p4)] ∧ Z.Warmed39 U.vm ∧ U.heap = h0) (fun _ _ _ _ _ => True) (fun _ U o U' => ∃ v L, o = .returned v ∧ Q0 n0 v L ∧ FrameEnd U o U' L 4 162) := by
  refine MetFree.of_bodySF (plainFor_of_name pn_0) hisR ?_
  intro p e s m args below meth c s₁ Bd hml0 hP hK
  obtain ⟨rfl, hZ, hh⟩ := hP
  have hx := Bd.exec
  have hby := Bd.bytes
  have hml : c.maxLocals = 11 := hml0
  have hown : s.vm.findClass "com/example/periodica/periodica/ledger/OutToByteArrayPinLaw" = some m.cls := findClass_of_methodNamed Bd.named
  have hnm := (name_of_methodNamed Bd.named Bd.method).1
  have X0 : Stand p l e room_1 s m #[(.int p1), (.int p2), (.int p3), (.int p4)] below meth c s₁ [] 0 0 := Stand.of_body Bd
  have e0 : s₁.heap = h0 := by rw [← hh, Bd.state]; rfl
  have N0 := Fr.nil n0
  have pre0 : ∀ t, Steps p.tables e below (s₁.setTop (mkF m 0 #[.val (.int p1), .val (.int p2), .val (.int p3), .val (.int p4), .unset, .unset, .unset, .unset, .unset, .unset, .unset] [])) t → Steps p.tables e below (s₁.setTop (entryFrame m #[(.int p1), (.int p2), (.int p3), (.int p4)] maxLocals)) t := fun t k => castTop (ef_0 m p1 p2 p3 p4) k
  obtain ⟨T5, h5, X5, e5, E5, A5, D5, -, st5⟩ := newO X0 hx hZ hown (hw _ (List.mem_of_getElem? (i := 0) rfl)) (hw _ (List.mem_of_getElem? (i := 1) rfl)) (hw _ (List.mem_of_getElem? (i := 2) rfl)) e0 (g := (mkF m 0 #[.val (.int p1), .val (.int p2), .val (.int p3), .val (.int p4), .unset, .unset, .unset, .unset, .unset, .unset, .unset] [])) rfl (hb hby at_0) (by decide) (by decide)
  obtain ⟨b5, g5⟩ : ∃ z, z = h0.size := ⟨_, rfl⟩
  rw [← g5] at A5 D5 st5
  have F_bytes_b5 : Fld Z h5 b5 "com/example/periodica/periodica/ledger/StoredFields$Out" "bytes" "[B" .null := D5 (Or.inl (hw _ (List.mem_of_getElem? (i := 11) rfl))) (ty := (.array .byte)) (by decide)
  have F_size_b5 : Fld Z h5 b5 "com/example/periodica/periodica/ledger/StoredFields$Out" "size" "I" (.int (0 : Int32)) := D5 (Or.inl (hw _ (List.mem_of_getElem? (i := 18) rfl))) (ty := .int) (by decide)
  have E_b5 := A5
  have g_b5 : n0 ≤ b5 := Nat.le_trans Z0 (Nat.le_of_eq g5.symm)
  obtain ⟨_, _, ⟨T6, L6, k6, n6⟩, -, X6, ⟨Lc6, hQ6, l6, y6, z6⟩, st6⟩ := X5.specialBack hx (y := (⟨"com/example/periodica/periodica/ledger/StoredFields$Out", "<init>", "()V"⟩ : MethodName)) rfl hown (mvT hZ (hw _ (List.mem_of_getElem? (i := 3) rfl))) (mvT hZ (hw _ (List.mem_of_getElem? (i := 4) rfl))) (mvT hZ (hw _ (List.mem_of_getElem? (i := 5) rfl))) (by decide) (backOf (W := 1) (rm1 l Z a0 hw [] b5 _ h5 n0 (Nat.le_trans Z0 E5.1) E_b5 F_bytes_b5 F_size_b5 g_b5) hZ (hw _ (List.mem_of_getElem? (i := 5) rfl)) (hw _ (List.mem_of_getElem? (i := 2) rfl)) (by decide) (by decide)) (g := (mkF m 4 #[.val (.int p1), .val (.int p2), .val (.int p3), .val (.int p4), .unset, .unset, .unset, .unset, .unset, .unset, .unset] [(.ref b5), (.ref b5)])) rfl (by rw [hml]; rfl) (Steps.refl _) (a := b5) (argsL := []) (rest := [(.ref b5)]) (lenOf pd_0_0 rfl) rfl (by show 2 * 0 + _ ≤ _; exact Nat.le_of_eq rfl) (hb hby at_4) (fun _ _ => ⟨rfl, e5, (by decide : 1 + 1 ≤ _), (by decide : 2 + 128 ≤ _)⟩)
  dsimp only [Pt.U, Pt.locs, Pt.cells, Pt.slots] at X6 l6 y6 z6 st6 hQ6
  subst l6 y6 z6
  obtain ⟨rfl, N6q, b6x, k6x, g_b6x, O6⟩ := hQ6
  have ne_b5_b6x := O6.2.2.2.2
  have N6 := Fr.app N0 N6q
  obtain ⟨cq7, kq7, q7a, q7b, q7c⟩ := isOf hZ rfl O6.1
  obtain ⟨_, _, ⟨T7, L7, k7, n7⟩, -, X7, ⟨Lc7, hQ7, l7, y7, z7⟩, st7⟩ := X6.virtualBack hx (y := (⟨"com/example/periodica/periodica/ledger/StoredFields$Out", "writeInt", "(I)V"⟩ : MethodName)) (z := (⟨"com/example/periodica/periodica/ledger/StoredFields$Out", "writeInt", "(I)V"⟩ : MethodName)) hown (mvT hZ (hw _ (List.mem_of_getElem? (i := 40) rfl))) (mvT hZ (hw _ (List.mem_of_getElem? (i := 41) rfl))) (notFace_of_selects (args := #[]) (mvT hZ (hw _ (List.mem_of_getElem? (i := 43) rfl)))) (mvT hZ (hw _ (List.mem_of_getElem? (i := 43) rfl))) (mvT hZ (hw _ (List.mem_of_getElem? (i := 42) rfl))) (by decide) (backOf (W := 0) (rm8 l Z a0 hw [] b5 p2 b6x k6x (0 : Int32) [] (4 : Int32) T6.heap n0 (Nat.le_trans g_b5 (Nat.le_of_lt O6.1.lt)) ⟨O6.1, O6.2.1, O6.2.2.1, O6.2.2.2.1, ne_b5_b6x⟩ (by decide) g_b5 g_b6x (by decide) (by decide) rfl (by decide) rfl (by decide) rfl (by decide) rfl) hZ (hw _ (List.mem_of_getElem? (i := 44) rfl)) (hw _ (List.mem_of_getElem? (i := 2) rfl)) (by decide) (by decide)) q7a q7c (g := (mkF m 23 #[.val (.int p1), .val (.int p2), .val (.int p3), .val (.int p4), .val (.ref b5), .val (.int (p1 &&& (3 : Int32))), .unset, .unset, .unset, .unset, .unset] [(.int p2), (.ref b5)])) rfl (by rw [hml]; rfl) (Steps.refl _) (argsL := [(.int p2)]) (rest := []) (lenOf pd_0_5 rfl) rfl (by show 2 * 0 + _ ≤ _; exact Nat.le_of_eq rfl) (hb hby at_23) (fun _ _ => ⟨rfl, rfl, (by decide : 2 + 0 ≤ _), (by decide : 130 + 0 ≤ _)⟩)
  dsimp only [Pt.U, Pt.locs, Pt.cells, Pt.slots] at X7 l7 y7 z7 st7 hQ7
  subst l7 y7 z7
  obtain ⟨rfl, N7q, K7, O7⟩ := hQ7
  have N7 := Fr.app N6 N7q
  obtain ⟨cq8, kq8, q8a, q8b, q8c⟩ := isOf hZ rfl O7.1
  obtain ⟨_, _, ⟨T8, L8, k8, n8⟩, -, X8, ⟨Lc8, hQ8, l8, y8, z8⟩, st8⟩ := X7.virtualBack hx (y := (⟨"com/example/periodica/periodica/ledger/StoredFields$Out", "writeByte", "(I)V"⟩ : MethodName)) (z := (⟨"com/example/periodica/periodica/ledger/StoredFields$Out", "writeByte", "(I)V"⟩ : MethodName)) hown (mvT hZ (hw _ (List.mem_of_getElem? (i := 31) rfl))) (mvT hZ (hw _ (List.mem_of_getElem? (i := 32) rfl))) (notFace_of_selects (args := #[]) (mvT hZ (hw _ (List.mem_of_getElem? (i := 34) rfl)))) (mvT hZ (hw _ (List.mem_of_getElem? (i := 34) rfl))) (mvT hZ (hw _ (List.mem_of_getElem? (i := 33) rfl))) (by decide) (backOf (W := 0) (rm6 l Z a0 hw [] b5 p3 b6x k6x (4 : Int32) ([] ++ b4 p2) (5 : Int32) T7.heap n0 (Nat.le_trans g_b5 (Nat.le_of_lt O7.1.lt)) ⟨O7.1, O7.2.1, O7.2.2.1, O7.2.2.2.1, ne_b5_b6x⟩ (by decide) g_b5 g_b6x (by decide) (by decide) rfl) hZ (hw _ (List.mem_of_getElem? (i := 35) rfl)) (hw _ (List.mem_of_getElem? (i := 2) rfl)) (by decide) (by decide)) q8a q8c (g := (mkF m 35 #[.val (.int p1), .val (.int p2), .val (.int p3), .val (.int p4), .val (.ref b5), .val (.int (p1 &&& (3 : Int32))), .unset, .unset, .unset, .unset, .unset] [(.int p3), (.ref b5)])) rfl (by rw [hml]; rfl) (Steps.refl _) (argsL := [(.int p3)]) (rest := []) (lenOf pd_0_5 rfl) rfl (by show 2 * 0 + _ ≤ _; exact Nat.le_of_eq rfl) (hb hby at_35) (fun _ _ => ⟨rfl, rfl, (by decide : 2 + 0 ≤ _), (by decide : 130 + 0 ≤ _)⟩)
  dsimp only [Pt.U, Pt.locs, Pt.cells, Pt.slots] at X8 l8 y8 z8 st8 hQ8
  subst l8 y8 z8
  obtain ⟨rfl, N8q, K8, O8⟩ := hQ8
  have N8 := Fr.app N7 N8q
  obtain ⟨cq9, kq9, q9a, q9b, q9c⟩ := isOf hZ rfl O8.1
  obtain ⟨_, _, ⟨T9, L9, k9, n9⟩, -, X9, ⟨Lc9, hQ9, l9, y9, z9⟩, st9⟩ := X8.virtualBack hx (y := (⟨"com/example/periodica/periodica/ledger/StoredFields$Out", "toByteArray", "()[B"⟩ : MethodName)) (z := (⟨"com/example/periodica/periodica/ledger/StoredFields$Out", "toByteArray", "()[B"⟩ : MethodName)) hown (mvT hZ (hw _ (List.mem_of_getElem? (i := 12) rfl))) (mvT hZ (hw _ (List.mem_of_getElem? (i := 13) rfl))) (notFace_of_selects (args := #[]) (mvT hZ (hw _ (List.mem_of_getElem? (i := 15) rfl)))) (mvT hZ (hw _ (List.mem_of_getElem? (i := 15) rfl))) (mvT hZ (hw _ (List.mem_of_getElem? (i := 14) rfl))) (by decide) (backOf (W := 0) (rm3 l Z a0 hw [] b5 b6x k6x (5 : Int32) (([] ++ b4 p2) ++ [.int (by0 p3)]) T8.heap n0 (Nat.le_trans g_b5 (Nat.le_of_lt O8.1.lt)) ⟨O8.1, O8.2.1, O8.2.2.1, O8.2.2.2.1, ne_b5_b6x⟩ rfl (by decide) (by decide) (by decide) (by decide) (by decide)) hZ (hw _ (List.mem_of_getElem? (i := 16) rfl)) (hw _ (List.mem_of_getElem? (i := 2) rfl)) (by decide) (by decide)) q9a q9c (g := (mkF m 52 #[.val (.int p1), .val (.int p2), .val (.int p3), .val (.int p4), .val (.ref b5), .val (.int (p1 &&& (3 : Int32))), .unset, .unset, .unset, .unset, .unset] [(.ref b5)])) rfl (by rw [hml]; rfl) (Steps.refl _) (argsL := []) (rest := []) (lenOf pd_0_1 rfl) rfl (by show 2 * 0 + _ ≤ _; exact Nat.le_of_eq rfl) (hb hby at_52) (fun _ _ => ⟨rfl, rfl, (by decide : 2 + 1 ≤ _), (by decide : 130 + 16 ≤ _)⟩)
  dsimp only [Pt.U, Pt.locs, Pt.cells, Pt.slots] at X9 l9 y9 z9 st9 hQ9
  subst l9 y9 z9
  obtain ⟨r9, kr9, rfl, N9q, K9, hr9, V9⟩ := hQ9
  have ne_b5_r9 : b5 ≠ r9 := Nat.ne_of_lt (Nat.lt_of_lt_of_le O8.1.lt hr9)
  have ne_b6x_r9 : b6x ≠ r9 := Nat.ne_of_lt (Nat.lt_of_lt_of_le O8.2.2.2.1.lt hr9)
  have g_r9 : n0 ≤ r9 := Nat.le_trans (Nat.le_trans g_b5 (Nat.le_of_lt O8.1.lt)) hr9
  have N9 := Fr.app N8 N9q
  obtain ⟨_, _, ⟨T10, L10, k10, n10⟩, -, X10, ⟨Lc10, hQ10, l10, y10, z10⟩, st10⟩ := Jvm.LawKit.callS X9 hx (y := (⟨"com/example/periodica/periodica/ledger/OutToByteArrayPinLaw", "intAt", "([BII)Z"⟩ : MethodName)) hown (mvT hZ (hw _ (List.mem_of_getElem? (i := 45) rfl))) (mvT hZ (hw _ (List.mem_of_getElem? (i := 46) rfl))) (mvT hZ (hw _ (List.mem_of_getElem? (i := 47) rfl))) (mvT hZ (hw _ (List.mem_of_getElem? (i := 48) rfl))) (by decide) (backOf (W := 0) (rm9 l Z a0 hw [] r9 (0 : Int32) p2 kr9 (5 : Int32) (([] ++ b4 p2) ++ [.int (by0 p3)]) (byK p2 24) (byK p2 16) (byK p2 8) (by0 p2) T9.heap n0 (Nat.le_trans g_b5 (Nat.le_of_lt (O8.1.keep K9).lt)) V9 ⟨by decide, by decide⟩ ⟨by decide, by decide⟩ ⟨by decide, by decide⟩ ⟨by decide, by decide⟩ rfl rfl rfl rfl (own_join _ _ _ _ _ rfl rfl rfl rfl)) hZ (hw _ (List.mem_of_getElem? (i := 48) rfl)) (hw _ (List.mem_of_getElem? (i := 47) rfl)) (by decide) (by decide)) (g := (mkF m 110 #[.val (.int p1), .val (.int p2), .val (.int p3), .val (.int p4), .val (.ref b5), .val (.int (p1 &&& (3 : Int32))), .val (.ref r9), .val (.int (5 : Int32)), .unset, .unset, .unset] [(.int p2), (.int (0 : Int32)), (.ref r9)])) rfl (by rw [hml]; rfl) (argsL := [(.ref r9), (.int (0 : Int32)), (.int p2)]) (rest := []) (lenOf pd_0_6 rfl) rfl (by show 2 * 0 + _ ≤ _; exact Nat.le_of_eq rfl) (hb hby at_110) (fun _ _ => ⟨rfl, rfl, (by decide : 3 + 0 ≤ _), (by decide : 146 + 0 ≤ _)⟩)
  dsimp only [Pt.U, Pt.locs, Pt.cells, Pt.slots] at X10 l10 y10 z10 st10 hQ10
  subst l10 y10 z10
  obtain ⟨rfl, N10q, e10⟩ := hQ10
  have N10 := Fr.app N9 N10q
  obtain ⟨T11, h11, X11, e11, W11, V11, st11⟩ := own_stB X10 hx hZ e10 V9 (j := (0 : Int32)) (x := (((byK p2 24) ^^^ (1 : Int32)).toInt8.toInt32)) ⟨by decide, by decide⟩ 0 rfl (by simp [b4]) (g := (mkF m 193 #[.val (.int p1), .val (.int p2), .val (.int p3), .val (.int p4), .val (.ref b5), .val (.int (p1 &&& (3 : Int32))), .val (.ref r9), .val (.int (5 : Int32)), .val (.int (byK p2 24)), .val (.int (by0 p3)), .unset] [(.int (((byK p2 24) ^^^ (1 : Int32)).toInt8.toInt32)), (.int (0 : Int32)), (.ref r9)])) rfl rfl (hb hby at_193)
  have N11 := Fr.snoc X11 N10 g_r9
  obtain ⟨cq12, kq12, q12a, q12b, q12c⟩ := isOf hZ e11 ((O8.1.keep K9).wr W11)
  obtain ⟨_, _, ⟨T12, L12, k12, n12⟩, -, X12, ⟨Lc12, hQ12, l12, y12, z12⟩, st12⟩ := X11.virtualBack hx (y := (⟨"com/example/periodica/periodica/ledger/StoredFields$Out", "writeByte", "(I)V"⟩ : MethodName)) (z := (⟨"com/example/periodica/periodica/ledger/StoredFields$Out", "writeByte", "(I)V"⟩ : MethodName)) hown (mvT hZ (hw _ (List.mem_of_getElem? (i := 31) rfl))) (mvT hZ (hw _ (List.mem_of_getElem? (i := 32) rfl))) (notFace_of_selects (args := #[]) (mvT hZ (hw _ (List.mem_of_getElem? (i := 34) rfl)))) (mvT hZ (hw _ (List.mem_of_getElem? (i := 34) rfl))) (mvT hZ (hw _ (List.mem_of_getElem? (i := 33) rfl))) (by decide) (backOf (W := 0) (rm6 l Z a0 hw [] b5 p4 b6x k6x (5 : Int32) (([] ++ b4 p2) ++ [.int (by0 p3)]) (6 : Int32) h11 n0 (Nat.le_trans g_b5 (Nat.le_of_lt ((O8.1.keep K9).wr W11).lt)) ⟨((O8.1.keep K9).wr W11), ((O8.2.1.keep K9 nin0).other W11 (Or.inl ne_b5_r9)), ((O8.2.2.1.keep K9 nin0).other W11 (Or.inl ne_b5_r9)), ((O8.2.2.2.1.keep K9 nin0).other W11 ne_b6x_r9), ne_b5_b6x⟩ (by decide) g_b5 g_b6x (by decide) (by decide) rfl) hZ (hw _ (List.mem_of_getElem? (i := 35) rfl)) (hw _ (List.mem_of_getElem? (i := 2) rfl)) (by decide) (by decide)) q12a q12c (g := (mkF m 197 #[.val (.int p1), .val (.int p2), .val (.int p3), .val (.int p4), .val (.ref b5), .val (.int (p1 &&& (3 : Int32))), .val (.ref r9), .val (.int (5 : Int32)), .val (.int (byK p2 24)), .val (.int (by0 p3)), .unset] [(.int p4), (.ref b5)])) rfl (by rw [hml]; rfl) (Steps.refl _) (argsL := [(.int p4)]) (rest := []) (lenOf pd_0_5 rfl) rfl (by show 2 * 0 + _ ≤ _; exact Nat.le_of_eq rfl) (hb hby at_197) (fun _ _ => ⟨rfl, e11, (by decide : 3 + 0 ≤ _), (by decide : 146 + 0 ≤ _)⟩)
  dsimp only [Pt.U, Pt.locs, Pt.cells, Pt.slots] at X12 l12 y12 z12 st12 hQ12
  subst l12 y12 z12
  obtain ⟨rfl, N12q, K12, O12⟩ := hQ12
  have N12 := Fr.app N11 N12q
  obtain ⟨cq13, kq13, q13a, q13b, q13c⟩ := isOf hZ rfl O12.1
  obtain ⟨_, _, ⟨T13, L13, k13, n13⟩, -, X13, ⟨Lc13, hQ13, l13, y13, z13⟩, st13⟩ := X12.virtualBack hx (y := (⟨"com/example/periodica/periodica/ledger/StoredFields$Out", "toByteArray", "()[B"⟩ : MethodName)) (z := (⟨"com/example/periodica/periodica/ledger/StoredFields$Out", "toByteArray", "()[B"⟩ : MethodName)) hown (mvT hZ (hw _ (List.mem_of_getElem? (i := 12) rfl))) (mvT hZ (hw _ (List.mem_of_getElem? (i := 13) rfl))) (notFace_of_selects (args := #[]) (mvT hZ (hw _ (List.mem_of_getElem? (i := 15) rfl)))) (mvT hZ (hw _ (List.mem_of_getElem? (i := 15) rfl))) (mvT hZ (hw _ (List.mem_of_getElem? (i := 14) rfl))) (by decide) (backOf (W := 0) (rm3 l Z a0 hw [] b5 b6x k6x (6 : Int32) ((([] ++ b4 p2) ++ [.int (by0 p3)]) ++ [.int (by0 p4)]) T12.heap n0 (Nat.le_trans g_b5 (Nat.le_of_lt O12.1.lt)) ⟨O12.1, O12.2.1, O12.2.2.1, O12.2.2.2.1, ne_b5_b6x⟩ rfl (by decide) (by decide) (by decide) (by decide) (by decide)) hZ (hw _ (List.mem_of_getElem? (i := 16) rfl)) (hw _ (List.mem_of_getElem? (i := 2) rfl)) (by decide) (by decide)) q13a q13c (g := (mkF m 202 #[.val (.int p1), .val (.int p2), .val (.int p3), .val (.int p4), .val (.ref b5), .val (.int (p1 &&& (3 : Int32))), .val (.ref r9), .val (.int (5 : Int32)), .val (.int (byK p2 24)), .val (.int (by0 p3)), .unset] [(.ref b5)])) rfl (by rw [hml]; rfl) (Steps.refl _) (argsL := []) (rest := []) (lenOf pd_0_1 rfl) rfl (by show 2 * 0 + _ ≤ _; exact Nat.le_of_eq rfl) (hb hby at_202) (fun _ _ => ⟨rfl, rfl, (by decide : 3 + 1 ≤ _), (by decide : 146 + 16 ≤ _)⟩)
  dsimp only [Pt.U, Pt.locs, Pt.cells, Pt.slots] at X13 l13 y13 z13 st13 hQ13
  subst l13 y13 z13
  obtain ⟨r13, kr13, rfl, N13q, K13, hr13, V13⟩ := hQ13
  have ne_b5_r13 : b5 ≠ r13 := Nat.ne_of_lt (Nat.lt_of_lt_of_le O12.1.lt hr13)
  have ne_b6x_r13 : b6x ≠ r13 := Nat.ne_of_lt (Nat.lt_of_lt_of_le O12.2.2.2.1.lt hr13)
  have g_r13 : n0 ≤ r13 := Nat.le_trans (Nat.le_trans g_b5 (Nat.le_of_lt O12.1.lt)) hr13
  have ne_r9_r13 : r9 ≠ r13 := Nat.ne_of_lt (Nat.lt_of_lt_of_le (V11.keep K12 (ninS (Ne.symm ne_b5_r9) (ninS (Ne.symm ne_b6x_r9) nin0))).lt hr13)
  have N13 := Fr.app N12 N13q
  obtain ⟨fs, hr, hrun, hended, hW, hsame⟩ := X13.leave (v := some (.int (1 : Int32))) (fun h => by rw [Bd.returns] at h; cases h)
  refine ⟨_, _, pre0 _ ?_, hrun, hended, _, _, rfl, ?_, ⟨_, rfl⟩, hW, hsame.mono (by decide) (by decide)⟩
  · show Steps p.tables e below (s₁.setTop (mkF m 0 #[.val (.int p1), .val (.int p2), .val (.int p3), .val (.int p4), .unset, .unset, .unset, .unset, .unset, .unset, .unset] [])) _
    refine st5 _ ?_
    show Steps p.tables e below (T5.setTop (mkF m 3 #[.val (.int p1), .val (.int p2), .val (.int p3), .val (.int p4), .unset, .unset, .unset, .unset, .unset, .unset, .unset] [(.ref b5)])) _
    refine XS.dup X5.here hx rfl (hb hby at_3) rfl rfl ?_
    show Steps p.tables e below (T5.setTop (mkF m 4 #[.val (.int p1), .val (.int p2), .val (.int p3), .val (.int p4), .unset, .unset, .unset, .unset, .unset, .unset, .unset] [(.ref b5), (.ref b5)])) _
    refine st6.trans ?_
    show Steps p.tables e below (T6.setTop (mkF m 7 #[.val (.int p1), .val (.int p2), .val (.int p3), .val (.int p4), .unset, .unset, .unset, .unset, .unset, .unset, .unset] [(.ref b5)])) _
    refine XS.astore X6.here hx rfl (hb hby at_7) rfl rfl (l' := #[.val (.int p1), .val (.int p2), .val (.int p3), .val (.int p4), .val (.ref b5), .unset, .unset, .unset, .unset, .unset, .unset]) rfl ?_
    show Steps p.tables e below (T6.setTop (mkF m 9 #[.val (.int p1), .val (.int p2), .val (.int p3), .val (.int p4), .val (.ref b5), .unset, .unset, .unset, .unset, .unset, .unset] [])) _
    refine XS.iloadN X6.here hx rfl (hb hby at_9) rfl ?_
    show Steps p.tables e below (T6.setTop (mkF m 10 #[.val (.int p1), .val (.int p2), .val (.int p3), .val (.int p4), .val (.ref b5), .unset, .unset, .unset, .unset, .unset, .unset] [(.int p1)])) _
    refine XS.iconst X6.here hx rfl (hb hby at_10) ?_
    show Steps p.tables e below (T6.setTop (mkF m 11 #[.val (.int p1), .val (.int p2), .val (.int p3), .val (.int p4), .val (.ref b5), .unset, .unset, .unset, .unset, .unset, .unset] [(.int (3 : Int32)), (.int p1)])) _
    refine XS.iand X6.here hx rfl (hb hby at_11) rfl ?_
    show Steps p.tables e below (T6.setTop (mkF m 12 #[.val (.int p1), .val (.int p2), .val (.int p3), .val (.int p4), .val (.ref b5), .unset, .unset, .unset, .unset, .unset, .unset] [(.int (p1 &&& (3 : Int32)))])) _
    refine XS.istore X6.here hx rfl (hb hby at_12) rfl (l' := #[.val (.int p1), .val (.int p2), .val (.int p3), .val (.int p4), .val (.ref b5), .val (.int (p1 &&& (3 : Int32))), .unset, .unset, .unset, .unset, .unset]) rfl ?_
    show Steps p.tables e below (T6.setTop (mkF m 14 #[.val (.int p1), .val (.int p2), .val (.int p3), .val (.int p4), .val (.ref b5), .val (.int (p1 &&& (3 : Int32))), .unset, .unset, .unset, .unset, .unset] [])) _
    refine XS.iload X6.here hx rfl (hb hby at_14) rfl ?_
    show Steps p.tables e below (T6.setTop (mkF m 16 #[.val (.int p1), .val (.int p2), .val (.int p3), .val (.int p4), .val (.ref b5), .val (.int (p1 &&& (3 : Int32))), .unset, .unset, .unset, .unset, .unset] [(.int (p1 &&& (3 : Int32)))])) _
    refine XS.iconst X6.here hx rfl (hb hby at_16) ?_
    show Steps p.tables e below (T6.setTop (mkF m 17 #[.val (.int p1), .val (.int p2), .val (.int p3), .val (.int p4), .val (.ref b5), .val (.int (p1 &&& (3 : Int32))), .unset, .unset, .unset, .unset, .unset] [(.int (1 : Int32)), (.int (p1 &&& (3 : Int32)))])) _
    refine XS.icmpNo X6.here hx rfl (hb hby at_17) rfl (flt hc17).1 ?_
    show Steps p.tables e below (T6.setTop (mkF m 20 #[.val (.int p1), .val (.int p2), .val (.int p3), .val (.int p4), .val (.ref b5), .val (.int (p1 &&& (3 : Int32))), .unset, .unset, .unset, .unset, .unset] [])) _
    refine XS.aload X6.here hx rfl (hb hby at_20) rfl rfl ?_
    show Steps p.tables e below (T6.setTop (mkF m 22 #[.val (.int p1), .val (.int p2), .val (.int p3), .val (.int p4), .val (.ref b5), .val (.int (p1 &&& (3 : Int32))), .unset, .unset, .unset, .unset, .unset] [(.ref b5)])) _
    refine XS.iloadN X6.here hx rfl (hb hby at_22) rfl ?_
    show Steps p.tables e below (T6.setTop (mkF m 23 #[.val (.int p1), .val (.int p2), .val (.int p3), .val (.int p4), .val (.ref b5), .val (.int (p1 &&& (3 : Int32))), .unset, .unset, .unset, .unset, .unset] [(.int p2), (.ref b5)])) _
    refine st7.trans ?_
    show Steps p.tables e below (T7.setTop (mkF m 26 #[.val (.int p1), .val (.int p2), .val (.int p3), .val (.int p4), .val (.ref b5), .val (.int (p1 &&& (3 : Int32))), .unset, .unset, .unset, .unset, .unset] [])) _
    refine XS.iload X7.here hx rfl (hb hby at_26) rfl ?_
    show Steps p.tables e below (T7.setTop (mkF m 28 #[.val (.int p1), .val (.int p2), .val (.int p3), .val (.int p4), .val (.ref b5), .val (.int (p1 &&& (3 : Int32))), .unset, .unset, .unset, .unset, .unset] [(.int (p1 &&& (3 : Int32)))])) _
    refine XS.iconst X7.here hx rfl (hb hby at_28) ?_
    show Steps p.tables e below (T7.setTop (mkF m 29 #[.val (.int p1), .val (.int p2), .val (.int p3), .val (.int p4), .val (.ref b5), .val (.int (p1 &&& (3 : Int32))), .unset, .unset, .unset, .unset, .unset] [(.int (2 : Int32)), (.int (p1 &&& (3 : Int32)))])) _
    refine XS.icmpNo X7.here hx rfl (hb hby at_29) rfl (flt hc29).1 ?_
    show Steps p.tables e below (T7.setTop (mkF m 32 #[.val (.int p1), .val (.int p2), .val (.int p3), .val (.int p4), .val (.ref b5), .val (.int (p1 &&& (3 : Int32))), .unset, .unset, .unset, .unset, .unset] [])) _
    refine XS.aload X7.here hx rfl (hb hby at_32) rfl rfl ?_
    show Steps p.tables e below (T7.setTop (mkF m 34 #[.val (.int p1), .val (.int p2), .val (.int p3), .val (.int p4), .val (.ref b5), .val (.int (p1 &&& (3 : Int32))), .unset, .unset, .unset, .unset, .unset] [(.ref b5)])) _
    refine XS.iloadN X7.here hx rfl (hb hby at_34) rfl ?_
    show Steps p.tables e below (T7.setTop (mkF m 35 #[.val (.int p1), .val (.int p2), .val (.int p3), .val (.int p4), .val (.ref b5), .val (.int (p1 &&& (3 : Int32))), .unset, .unset, .unset, .unset, .unset] [(.int p3), (.ref b5)])) _
    refine st8.trans ?_
    show Steps p.tables e below (T8.setTop (mkF m 38 #[.val (.int p1), .val (.int p2), .val (.int p3), .val (.int p4), .val (.ref b5), .val (.int (p1 &&& (3 : Int32))), .unset, .unset, .unset, .unset, .unset] [])) _
    refine XS.iload X8.here hx rfl (hb hby at_38) rfl ?_
    show Steps p.tables e below (T8.setTop (mkF m 40 #[.val (.int p1), .val (.int p2), .val (.int p3), .val (.int p4), .val (.ref b5), .val (.int (p1 &&& (3 : Int32))), .unset, .unset, .unset, .unset, .unset] [(.int (p1 &&& (3 : Int32)))])) _
    refine XS.iconst X8.here hx rfl (hb hby at_40) ?_
    show Steps p.tables e below (T8.setTop (mkF m 41 #[.val (.int p1), .val (.int p2), .val (.int p3), .val (.int p4), .val (.ref b5), .val (.int (p1 &&& (3 : Int32))), .unset, .unset, .unset, .unset, .unset] [(.int (3 : Int32)), (.int (p1 &&& (3 : Int32)))])) _
    refine XS.icmpYes X8.here hx rfl (pc0 := 41) (pc' := 50) rfl (hb hby at_41) rfl (tlt hc41).1 (by decide) (by decide) ?_
    show Steps p.tables e below (T8.setTop (mkF m 50 #[.val (.int p1), .val (.int p2), .val (.int p3), .val (.int p4), .val (.ref b5), .val (.int (p1 &&& (3 : Int32))), .unset, .unset, .unset, .unset, .unset] [])) _
    refine XS.aload X8.here hx rfl (hb hby at_50) rfl rfl ?_
    show Steps p.tables e below (T8.setTop (mkF m 52 #[.val (.int p1), .val (.int p2), .val (.int p3), .val (.int p4), .val (.ref b5), .val (.int (p1 &&& (3 : Int32))), .unset, .unset, .unset, .unset, .unset] [(.ref b5)])) _
    refine st9.trans ?_
    show Steps p.tables e below (T9.setTop (mkF m 55 #[.val (.int p1), .val (.int p2), .val (.int p3), .val (.int p4), .val (.ref b5), .val (.int (p1 &&& (3 : Int32))), .unset, .unset, .unset, .unset, .unset] [(.ref r9)])) _
    refine XS.astore X9.here hx rfl (hb hby at_55) rfl rfl (l' := #[.val (.int p1), .val (.int p2), .val (.int p3), .val (.int p4), .val (.ref b5), .val (.int (p1 &&& (3 : Int32))), .val (.ref r9), .unset, .unset, .unset, .unset]) rfl ?_
    show Steps p.tables e below (T9.setTop (mkF m 57 #[.val (.int p1), .val (.int p2), .val (.int p3), .val (.int p4), .val (.ref b5), .val (.int (p1 &&& (3 : Int32))), .val (.ref r9), .unset, .unset, .unset, .unset] [])) _
    refine XS.iload X9.here hx rfl (hb hby at_57) rfl ?_
    show Steps p.tables e below (T9.setTop (mkF m 59 #[.val (.int p1), .val (.int p2), .val (.int p3), .val (.int p4), .val (.ref b5), .val (.int (p1 &&& (3 : Int32))), .val (.ref r9), .unset, .unset, .unset, .unset] [(.int (p1 &&& (3 : Int32)))])) _
    refine XS.ifYes X9.here hx rfl (pc0 := 59) (pc' := 66) rfl (hb hby at_59) rfl ((if0 _ _).trans (feq hc59).2) (by decide) (by decide) ?_
    show Steps p.tables e below (T9.setTop (mkF m 66 #[.val (.int p1), .val (.int p2), .val (.int p3), .val (.int p4), .val (.ref b5), .val (.int (p1 &&& (3 : Int32))), .val (.ref r9), .unset, .unset, .unset, .unset] [])) _
    refine XS.iload X9.here hx rfl (hb hby at_66) rfl ?_
    show Steps p.tables e below (T9.setTop (mkF m 68 #[.val (.int p1), .val (.int p2), .val (.int p3), .val (.int p4), .val (.ref b5), .val (.int (p1 &&& (3 : Int32))), .val (.ref r9), .unset, .unset, .unset, .unset] [(.int (p1 &&& (3 : Int32)))])) _
    refine XS.iconst X9.here hx rfl (hb hby at_68) ?_
    show Steps p.tables e below (T9.setTop (mkF m 69 #[.val (.int p1), .val (.int p2), .val (.int p3), .val (.int p4), .val (.ref b5), .val (.int (p1 &&& (3 : Int32))), .val (.ref r9), .unset, .unset, .unset, .unset] [(.int (1 : Int32)), (.int (p1 &&& (3 : Int32)))])) _
    refine XS.icmpYes X9.here hx rfl (pc0 := 69) (pc' := 76) rfl (hb hby at_69) rfl (feq hc69).2 (by decide) (by decide) ?_
    show Steps p.tables e below (T9.setTop (mkF m 76 #[.val (.int p1), .val (.int p2), .val (.int p3), .val (.int p4), .val (.ref b5), .val (.int (p1 &&& (3 : Int32))), .val (.ref r9), .unset, .unset, .unset, .unset] [])) _
    refine XS.iload X9.here hx rfl (hb hby at_76) rfl ?_
    show Steps p.tables e below (T9.setTop (mkF m 78 #[.val (.int p1), .val (.int p2), .val (.int p3), .val (.int p4), .val (.ref b5), .val (.int (p1 &&& (3 : Int32))), .val (.ref r9), .unset, .unset, .unset, .unset] [(.int (p1 &&& (3 : Int32)))])) _
    refine XS.iconst X9.here hx rfl (hb hby at_78) ?_
    show Steps p.tables e below (T9.setTop (mkF m 79 #[.val (.int p1), .val (.int p2), .val (.int p3), .val (.int p4), .val (.ref b5), .val (.int (p1 &&& (3 : Int32))), .val (.ref r9), .unset, .unset, .unset, .unset] [(.int (2 : Int32)), (.int (p1 &&& (3 : Int32)))])) _
    refine XS.icmpNo X9.here hx rfl (hb hby at_79) rfl (teq hc79).2 ?_
    show Steps p.tables e below (T9.setTop (mkF m 82 #[.val (.int p1), .val (.int p2), .val (.int p3), .val (.int p4), .val (.ref b5), .val (.int (p1 &&& (3 : Int32))), .val (.ref r9), .unset, .unset, .unset, .unset] [])) _
    refine XS.iconst X9.here hx rfl (hb hby at_82) ?_
    show Steps p.tables e below (T9.setTop (mkF m 83 #[.val (.int p1), .val (.int p2), .val (.int p3), .val (.int p4), .val (.ref b5), .val (.int (p1 &&& (3 : Int32))), .val (.ref r9), .unset, .unset, .unset, .unset] [(.int (5 : Int32))])) _
    refine XS.goto X9.here hx rfl (pc0 := 83) (pc' := 88) rfl (hb hby at_83) (by decide) (by decide) ?_
    show Steps p.tables e below (T9.setTop (mkF m 88 #[.val (.int p1), .val (.int p2), .val (.int p3), .val (.int p4), .val (.ref b5), .val (.int (p1 &&& (3 : Int32))), .val (.ref r9), .unset, .unset, .unset, .unset] [(.int (5 : Int32))])) _
    refine XS.istore X9.here hx rfl (hb hby at_88) rfl (l' := #[.val (.int p1), .val (.int p2), .val (.int p3), .val (.int p4), .val (.ref b5), .val (.int (p1 &&& (3 : Int32))), .val (.ref r9), .val (.int (5 : Int32)), .unset, .unset, .unset]) rfl ?_
    show Steps p.tables e below (T9.setTop (mkF m 90 #[.val (.int p1), .val (.int p2), .val (.int p3), .val (.int p4), .val (.ref b5), .val (.int (p1 &&& (3 : Int32))), .val (.ref r9), .val (.int (5 : Int32)), .unset, .unset, .unset] [])) _
    refine XS.aload X9.here hx rfl (hb hby at_90) rfl rfl ?_
    show Steps p.tables e below (T9.setTop (mkF m 92 #[.val (.int p1), .val (.int p2), .val (.int p3), .val (.int p4), .val (.ref b5), .val (.int (p1 &&& (3 : Int32))), .val (.ref r9), .val (.int (5 : Int32)), .unset, .unset, .unset] [(.ref r9)])) _
    refine own_len X9 hx hZ rfl V9 (g := (mkF m 92 #[.val (.int p1), .val (.int p2), .val (.int p3), .val (.int p4), .val (.ref b5), .val (.int (p1 &&& (3 : Int32))), .val (.ref r9), .val (.int (5 : Int32)), .unset, .unset, .unset] [(.ref r9)])) rfl rfl (hb hby at_92) _ ?_
    show Steps p.tables e below (T9.setTop (mkF m 93 #[.val (.int p1), .val (.int p2), .val (.int p3), .val (.int p4), .val (.ref b5), .val (.int (p1 &&& (3 : Int32))), .val (.ref r9), .val (.int (5 : Int32)), .unset, .unset, .unset] [(.int (5 : Int32))])) _
    refine XS.iload X9.here hx rfl (hb hby at_93) rfl ?_
    show Steps p.tables e below (T9.setTop (mkF m 95 #[.val (.int p1), .val (.int p2), .val (.int p3), .val (.int p4), .val (.ref b5), .val (.int (p1 &&& (3 : Int32))), .val (.ref r9), .val (.int (5 : Int32)), .unset, .unset, .unset] [(.int (5 : Int32)), (.int (5 : Int32))])) _
    refine XS.icmpYes X9.here hx rfl (pc0 := 95) (pc' := 100) rfl (hb hby at_95) rfl (teq (rfl : (5 : Int32) = (5 : Int32))).1 (by decide) (by decide) ?_
    show Steps p.tables e below (T9.setTop (mkF m 100 #[.val (.int p1), .val (.int p2), .val (.int p3), .val (.int p4), .val (.ref b5), .val (.int (p1 &&& (3 : Int32))), .val (.ref r9), .val (.int (5 : Int32)), .unset, .unset, .unset] [])) _
    refine XS.iload X9.here hx rfl (hb hby at_100) rfl ?_
    show Steps p.tables e below (T9.setTop (mkF m 102 #[.val (.int p1), .val (.int p2), .val (.int p3), .val (.int p4), .val (.ref b5), .val (.int (p1 &&& (3 : Int32))), .val (.ref r9), .val (.int (5 : Int32)), .unset, .unset, .unset] [(.int (p1 &&& (3 : Int32)))])) _
    refine XS.iconst X9.here hx rfl (hb hby at_102) ?_
    show Steps p.tables e below (T9.setTop (mkF m 103 #[.val (.int p1), .val (.int p2), .val (.int p3), .val (.int p4), .val (.ref b5), .val (.int (p1 &&& (3 : Int32))), .val (.ref r9), .val (.int (5 : Int32)), .unset, .unset, .unset] [(.int (1 : Int32)), (.int (p1 &&& (3 : Int32)))])) _
    refine XS.icmpNo X9.here hx rfl (hb hby at_103) rfl (flt hc103).1 ?_
    show Steps p.tables e below (T9.setTop (mkF m 106 #[.val (.int p1), .val (.int p2), .val (.int p3), .val (.int p4), .val (.ref b5), .val (.int (p1 &&& (3 : Int32))), .val (.ref r9), .val (.int (5 : Int32)), .unset, .unset, .unset] [])) _
    refine XS.aload X9.here hx rfl (hb hby at_106) rfl rfl ?_
    show Steps p.tables e below (T9.setTop (mkF m 108 #[.val (.int p1), .val (.int p2), .val (.int p3), .val (.int p4), .val (.ref b5), .val (.int (p1 &&& (3 : Int32))), .val (.ref r9), .val (.int (5 : Int32)), .unset, .unset, .unset] [(.ref r9)])) _
    refine XS.iconst X9.here hx rfl (hb hby at_108) ?_
    show Steps p.tables e below (T9.setTop (mkF m 109 #[.val (.int p1), .val (.int p2), .val (.int p3), .val (.int p4), .val (.ref b5), .val (.int (p1 &&& (3 : Int32))), .val (.ref r9), .val (.int (5 : Int32)), .unset, .unset, .unset] [(.int (0 : Int32)), (.ref r9)])) _
    refine XS.iloadN X9.here hx rfl (hb hby at_109) rfl ?_
    show Steps p.tables e below (T9.setTop (mkF m 110 #[.val (.int p1), .val (.int p2), .val (.int p3), .val (.int p4), .val (.ref b5), .val (.int (p1 &&& (3 : Int32))), .val (.ref r9), .val (.int (5 : Int32)), .unset, .unset, .unset] [(.int p2), (.int (0 : Int32)), (.ref r9)])) _
    refine st10 _ ?_
    show Steps p.tables e below (T10.setTop (mkF m 113 #[.val (.int p1), .val (.int p2), .val (.int p3), .val (.int p4), .val (.ref b5), .val (.int (p1 &&& (3 : Int32))), .val (.ref r9), .val (.int (5 : Int32)), .unset, .unset, .unset] [(.int (1 : Int32))])) _
    refine XS.ifYes X10.here hx rfl (pc0 := 113) (pc' := 118) rfl (hb hby at_113) rfl ((if0 _ _).trans (feq hc113).2) (by decide) (by decide) ?_
    show Steps p.tables e below (T10.setTop (mkF m 118 #[.val (.int p1), .val (.int p2), .val (.int p3), .val (.int p4), .val (.ref b5), .val (.int (p1 &&& (3 : Int32))), .val (.ref r9), .val (.int (5 : Int32)), .unset, .unset, .unset] [])) _
    refine XS.iload X10.here hx rfl (hb hby at_118) rfl ?_
    show Steps p.tables e below (T10.setTop (mkF m 120 #[.val (.int p1), .val (.int p2), .val (.int p3), .val (.int p4), .val (.ref b5), .val (.int (p1 &&& (3 : Int32))), .val (.ref r9), .val (.int (5 : Int32)), .unset, .unset, .unset] [(.int (p1 &&& (3 : Int32)))])) _
    refine XS.iconst X10.here hx rfl (hb hby at_120) ?_
    show Steps p.tables e below (T10.setTop (mkF m 121 #[.val (.int p1), .val (.int p2), .val (.int p3), .val (.int p4), .val (.ref b5), .val (.int (p1 &&& (3 : Int32))), .val (.ref r9), .val (.int (5 : Int32)), .unset, .unset, .unset] [(.int (2 : Int32)), (.int (p1 &&& (3 : Int32)))])) _
    refine XS.icmpNo X10.here hx rfl (hb hby at_121) rfl (flt hc121).1 ?_
    show Steps p.tables e below (T10.setTop (mkF m 124 #[.val (.int p1), .val (.int p2), .val (.int p3), .val (.int p4), .val (.ref b5), .val (.int (p1 &&& (3 : Int32))), .val (.ref r9), .val (.int (5 : Int32)), .unset, .unset, .unset] [])) _
    refine XS.aload X10.here hx rfl (hb hby at_124) rfl rfl ?_
    show Steps p.tables e below (T10.setTop (mkF m 126 #[.val (.int p1), .val (.int p2), .val (.int p3), .val (.int p4), .val (.ref b5), .val (.int (p1 &&& (3 : Int32))), .val (.ref r9), .val (.int (5 : Int32)), .unset, .unset, .unset] [(.ref r9)])) _
    refine XS.iconst X10.here hx rfl (hb hby at_126) ?_
    show Steps p.tables e below (T10.setTop (mkF m 127 #[.val (.int p1), .val (.int p2), .val (.int p3), .val (.int p4), .val (.ref b5), .val (.int (p1 &&& (3 : Int32))), .val (.ref r9), .val (.int (5 : Int32)), .unset, .unset, .unset] [(.int (4 : Int32)), (.ref r9)])) _
    refine own_ldB X10 hx hZ e10 V9 (j := (4 : Int32)) (v := (.int (by0 p3))) ⟨by decide, by decide⟩ rfl (g := (mkF m 127 #[.val (.int p1), .val (.int p2), .val (.int p3), .val (.int p4), .val (.ref b5), .val (.int (p1 &&& (3 : Int32))), .val (.ref r9), .val (.int (5 : Int32)), .unset, .unset, .unset] [(.int (4 : Int32)), (.ref r9)])) rfl rfl (hb hby at_127) _ ?_
    show Steps p.tables e below (T10.setTop (mkF m 128 #[.val (.int p1), .val (.int p2), .val (.int p3), .val (.int p4), .val (.ref b5), .val (.int (p1 &&& (3 : Int32))), .val (.ref r9), .val (.int (5 : Int32)), .unset, .unset, .unset] [(.int (by0 p3))])) _
    refine XS.iloadN X10.here hx rfl (hb hby at_128) rfl ?_
    show Steps p.tables e below (T10.setTop (mkF m 129 #[.val (.int p1), .val (.int p2), .val (.int p3), .val (.int p4), .val (.ref b5), .val (.int (p1 &&& (3 : Int32))), .val (.ref r9), .val (.int (5 : Int32)), .unset, .unset, .unset] [(.int p3), (.int (by0 p3))])) _
    refine XS.sipush X10.here hx rfl (hb hby at_129) ?_
    show Steps p.tables e below (T10.setTop (mkF m 132 #[.val (.int p1), .val (.int p2), .val (.int p3), .val (.int p4), .val (.ref b5), .val (.int (p1 &&& (3 : Int32))), .val (.ref r9), .val (.int (5 : Int32)), .unset, .unset, .unset] [(.int (255 : Int32)), (.int p3), (.int (by0 p3))])) _
    refine XS.iand X10.here hx rfl (hb hby at_132) rfl ?_
    show Steps p.tables e below (T10.setTop (mkF m 133 #[.val (.int p1), .val (.int p2), .val (.int p3), .val (.int p4), .val (.ref b5), .val (.int (p1 &&& (3 : Int32))), .val (.ref r9), .val (.int (5 : Int32)), .unset, .unset, .unset] [(.int (p3 &&& (255 : Int32))), (.int (by0 p3))])) _
    refine XS.i2b X10.here hx rfl (hb hby at_133) rfl ?_
    show Steps p.tables e below (T10.setTop (mkF m 134 #[.val (.int p1), .val (.int p2), .val (.int p3), .val (.int p4), .val (.ref b5), .val (.int (p1 &&& (3 : Int32))), .val (.ref r9), .val (.int (5 : Int32)), .unset, .unset, .unset] [(.int ((p3 &&& (255 : Int32)).toInt8.toInt32)), (.int (by0 p3))])) _
    refine XS.icmpYes X10.here hx rfl (pc0 := 134) (pc' := 139) rfl (hb hby at_134) rfl (teq hc134).1 (by decide) (by decide) ?_
    show Steps p.tables e below (T10.setTop (mkF m 139 #[.val (.int p1), .val (.int p2), .val (.int p3), .val (.int p4), .val (.ref b5), .val (.int (p1 &&& (3 : Int32))), .val (.ref r9), .val (.int (5 : Int32)), .unset, .unset, .unset] [])) _
    refine XS.iload X10.here hx rfl (hb hby at_139) rfl ?_
    show Steps p.tables e below (T10.setTop (mkF m 141 #[.val (.int p1), .val (.int p2), .val (.int p3), .val (.int p4), .val (.ref b5), .val (.int (p1 &&& (3 : Int32))), .val (.ref r9), .val (.int (5 : Int32)), .unset, .unset, .unset] [(.int (p1 &&& (3 : Int32)))])) _
    refine XS.iconst X10.here hx rfl (hb hby at_141) ?_
    show Steps p.tables e below (T10.setTop (mkF m 142 #[.val (.int p1), .val (.int p2), .val (.int p3), .val (.int p4), .val (.ref b5), .val (.int (p1 &&& (3 : Int32))), .val (.ref r9), .val (.int (5 : Int32)), .unset, .unset, .unset] [(.int (3 : Int32)), (.int (p1 &&& (3 : Int32)))])) _
    refine XS.icmpYes X10.here hx rfl (pc0 := 142) (pc' := 157) rfl (hb hby at_142) rfl (tlt hc142).1 (by decide) (by decide) ?_
    show Steps p.tables e below (T10.setTop (mkF m 157 #[.val (.int p1), .val (.int p2), .val (.int p3), .val (.int p4), .val (.ref b5), .val (.int (p1 &&& (3 : Int32))), .val (.ref r9), .val (.int (5 : Int32)), .unset, .unset, .unset] [])) _
    refine XS.iconst X10.here hx rfl (hb hby at_157) ?_
    show Steps p.tables e below (T10.setTop (mkF m 158 #[.val (.int p1), .val (.int p2), .val (.int p3), .val (.int p4), .val (.ref b5), .val (.int (p1 &&& (3 : Int32))), .val (.ref r9), .val (.int (5 : Int32)), .unset, .unset, .unset] [(.int (0 : Int32))])) _
    refine XS.istore X10.here hx rfl (hb hby at_158) rfl (l' := #[.val (.int p1), .val (.int p2), .val (.int p3), .val (.int p4), .val (.ref b5), .val (.int (p1 &&& (3 : Int32))), .val (.ref r9), .val (.int (5 : Int32)), .val (.int (0 : Int32)), .unset, .unset]) rfl ?_
    show Steps p.tables e below (T10.setTop (mkF m 160 #[.val (.int p1), .val (.int p2), .val (.int p3), .val (.int p4), .val (.ref b5), .val (.int (p1 &&& (3 : Int32))), .val (.ref r9), .val (.int (5 : Int32)), .val (.int (0 : Int32)), .unset, .unset] [])) _
    refine XS.iconst X10.here hx rfl (hb hby at_160) ?_
    show Steps p.tables e below (T10.setTop (mkF m 161 #[.val (.int p1), .val (.int p2), .val (.int p3), .val (.int p4), .val (.ref b5), .val (.int (p1 &&& (3 : Int32))), .val (.ref r9), .val (.int (5 : Int32)), .val (.int (0 : Int32)), .unset, .unset] [(.int (0 : Int32))])) _
    refine XS.istore X10.here hx rfl (hb hby at_161) rfl (l' := #[.val (.int p1), .val (.int p2), .val (.int p3), .val (.int p4), .val (.ref b5), .val (.int (p1 &&& (3 : Int32))), .val (.ref r9), .val (.int (5 : Int32)), .val (.int (0 : Int32)), .val (.int (0 : Int32)), .unset]) rfl ?_
    show Steps p.tables e below (T10.setTop (mkF m 163 #[.val (.int p1), .val (.int p2), .val (.int p3), .val (.int p4), .val (.ref b5), .val (.int (p1 &&& (3 : Int32))), .val (.ref r9), .val (.int (5 : Int32)), .val (.int (0 : Int32)), .val (.int (0 : Int32)), .unset] [])) _
    refine XS.iload X10.here hx rfl (hb hby at_163) rfl ?_
    show Steps p.tables e below (T10.setTop (mkF m 165 #[.val (.int p1), .val (.int p2), .val (.int p3), .val (.int p4), .val (.ref b5), .val (.int (p1 &&& (3 : Int32))), .val (.ref r9), .val (.int (5 : Int32)), .val (.int (0 : Int32)), .val (.int (0 : Int32)), .unset] [(.int (5 : Int32))])) _
    refine XS.ifNo X10.here hx rfl (hb hby at_165) rfl ((if0 _ _).trans (tlt hc165).2.2.2) ?_
    show Steps p.tables e below (T10.setTop (mkF m 168 #[.val (.int p1), .val (.int p2), .val (.int p3), .val (.int p4), .val (.ref b5), .val (.int (p1 &&& (3 : Int32))), .val (.ref r9), .val (.int (5 : Int32)), .val (.int (0 : Int32)), .val (.int (0 : Int32)), .unset] [])) _
    refine XS.aload X10.here hx rfl (hb hby at_168) rfl rfl ?_
    show Steps p.tables e below (T10.setTop (mkF m 170 #[.val (.int p1), .val (.int p2), .val (.int p3), .val (.int p4), .val (.ref b5), .val (.int (p1 &&& (3 : Int32))), .val (.ref r9), .val (.int (5 : Int32)), .val (.int (0 : Int32)), .val (.int (0 : Int32)), .unset] [(.ref r9)])) _
    refine XS.iconst X10.here hx rfl (hb hby at_170) ?_
    show Steps p.tables e below (T10.setTop (mkF m 171 #[.val (.int p1), .val (.int p2), .val (.int p3), .val (.int p4), .val (.ref b5), .val (.int (p1 &&& (3 : Int32))), .val (.ref r9), .val (.int (5 : Int32)), .val (.int (0 : Int32)), .val (.int (0 : Int32)), .unset] [(.int (0 : Int32)), (.ref r9)])) _
    refine own_ldB X10 hx hZ e10 V9 (j := (0 : Int32)) (v := (.int (byK p2 24))) ⟨by decide, by decide⟩ rfl (g := (mkF m 171 #[.val (.int p1), .val (.int p2), .val (.int p3), .val (.int p4), .val (.ref b5), .val (.int (p1 &&& (3 : Int32))), .val (.ref r9), .val (.int (5 : Int32)), .val (.int (0 : Int32)), .val (.int (0 : Int32)), .unset] [(.int (0 : Int32)), (.ref r9)])) rfl rfl (hb hby at_171) _ ?_
    show Steps p.tables e below (T10.setTop (mkF m 172 #[.val (.int p1), .val (.int p2), .val (.int p3), .val (.int p4), .val (.ref b5), .val (.int (p1 &&& (3 : Int32))), .val (.ref r9), .val (.int (5 : Int32)), .val (.int (0 : Int32)), .val (.int (0 : Int32)), .unset] [(.int (byK p2 24))])) _
    refine XS.istore X10.here hx rfl (hb hby at_172) rfl (l' := #[.val (.int p1), .val (.int p2), .val (.int p3), .val (.int p4), .val (.ref b5), .val (.int (p1 &&& (3 : Int32))), .val (.ref r9), .val (.int (5 : Int32)), .val (.int (byK p2 24)), .val (.int (0 : Int32)), .unset]) rfl ?_
    show Steps p.tables e below (T10.setTop (mkF m 174 #[.val (.int p1), .val (.int p2), .val (.int p3), .val (.int p4), .val (.ref b5), .val (.int (p1 &&& (3 : Int32))), .val (.ref r9), .val (.int (5 : Int32)), .val (.int (byK p2 24)), .val (.int (0 : Int32)), .unset] [])) _
    refine XS.aload X10.here hx rfl (hb hby at_174) rfl rfl ?_
    show Steps p.tables e below (T10.setTop (mkF m 176 #[.val (.int p1), .val (.int p2), .val (.int p3), .val (.int p4), .val (.ref b5), .val (.int (p1 &&& (3 : Int32))), .val (.ref r9), .val (.int (5 : Int32)), .val (.int (byK p2 24)), .val (.int (0 : Int32)), .unset] [(.ref r9)])) _
    refine XS.iload X10.here hx rfl (hb hby at_176) rfl ?_
    show Steps p.tables e below (T10.setTop (mkF m 178 #[.val (.int p1), .val (.int p2), .val (.int p3), .val (.int p4), .val (.ref b5), .val (.int (p1 &&& (3 : Int32))), .val (.ref r9), .val (.int (5 : Int32)), .val (.int (byK p2 24)), .val (.int (0 : Int32)), .unset] [(.int (5 : Int32)), (.ref r9)])) _
    refine XS.iconst X10.here hx rfl (hb hby at_178) ?_
    show Steps p.tables e below (T10.setTop (mkF m 179 #[.val (.int p1), .val (.int p2), .val (.int p3), .val (.int p4), .val (.ref b5), .val (.int (p1 &&& (3 : Int32))), .val (.ref r9), .val (.int (5 : Int32)), .val (.int (byK p2 24)), .val (.int (0 : Int32)), .unset] [(.int (1 : Int32)), (.int (5 : Int32)), (.ref r9)])) _
    refine XS.isub X10.here hx rfl (hb hby at_179) rfl ?_
    show Steps p.tables e below (T10.setTop (mkF m 180 #[.val (.int p1), .val (.int p2), .val (.int p3), .val (.int p4), .val (.ref b5), .val (.int (p1 &&& (3 : Int32))), .val (.ref r9), .val (.int (5 : Int32)), .val (.int (byK p2 24)), .val (.int (0 : Int32)), .unset] [(.int ((5 : Int32) - (1 : Int32))), (.ref r9)])) _
    refine own_ldB X10 hx hZ e10 V9 (j := ((5 : Int32) - (1 : Int32))) (v := (.int (by0 p3))) ⟨by decide, by decide⟩ rfl (g := (mkF m 180 #[.val (.int p1), .val (.int p2), .val (.int p3), .val (.int p4), .val (.ref b5), .val (.int (p1 &&& (3 : Int32))), .val (.ref r9), .val (.int (5 : Int32)), .val (.int (byK p2 24)), .val (.int (0 : Int32)), .unset] [(.int ((5 : Int32) - (1 : Int32))), (.ref r9)])) rfl rfl (hb hby at_180) _ ?_
    show Steps p.tables e below (T10.setTop (mkF m 181 #[.val (.int p1), .val (.int p2), .val (.int p3), .val (.int p4), .val (.ref b5), .val (.int (p1 &&& (3 : Int32))), .val (.ref r9), .val (.int (5 : Int32)), .val (.int (byK p2 24)), .val (.int (0 : Int32)), .unset] [(.int (by0 p3))])) _
    refine XS.istore X10.here hx rfl (hb hby at_181) rfl (l' := #[.val (.int p1), .val (.int p2), .val (.int p3), .val (.int p4), .val (.ref b5), .val (.int (p1 &&& (3 : Int32))), .val (.ref r9), .val (.int (5 : Int32)), .val (.int (byK p2 24)), .val (.int (by0 p3)), .unset]) rfl ?_
    show Steps p.tables e below (T10.setTop (mkF m 183 #[.val (.int p1), .val (.int p2), .val (.int p3), .val (.int p4), .val (.ref b5), .val (.int (p1 &&& (3 : Int32))), .val (.ref r9), .val (.int (5 : Int32)), .val (.int (byK p2 24)), .val (.int (by0 p3)), .unset] [])) _
    refine XS.aload X10.here hx rfl (hb hby at_183) rfl rfl ?_
    show Steps p.tables e below (T10.setTop (mkF m 185 #[.val (.int p1), .val (.int p2), .val (.int p3), .val (.int p4), .val (.ref b5), .val (.int (p1 &&& (3 : Int32))), .val (.ref r9), .val (.int (5 : Int32)), .val (.int (byK p2 24)), .val (.int (by0 p3)), .unset] [(.ref r9)])) _
    refine XS.iconst X10.here hx rfl (hb hby at_185) ?_
    show Steps p.tables e below (T10.setTop (mkF m 186 #[.val (.int p1), .val (.int p2), .val (.int p3), .val (.int p4), .val (.ref b5), .val (.int (p1 &&& (3 : Int32))), .val (.ref r9), .val (.int (5 : Int32)), .val (.int (byK p2 24)), .val (.int (by0 p3)), .unset] [(.int (0 : Int32)), (.ref r9)])) _
    refine XS.aload X10.here hx rfl (hb hby at_186) rfl rfl ?_
    show Steps p.tables e below (T10.setTop (mkF m 188 #[.val (.int p1), .val (.int p2), .val (.int p3), .val (.int p4), .val (.ref b5), .val (.int (p1 &&& (3 : Int32))), .val (.ref r9), .val (.int (5 : Int32)), .val (.int (byK p2 24)), .val (.int (by0 p3)), .unset] [(.ref r9), (.int (0 : Int32)), (.ref r9)])) _
    refine XS.iconst X10.here hx rfl (hb hby at_188) ?_
    show Steps p.tables e below (T10.setTop (mkF m 189 #[.val (.int p1), .val (.int p2), .val (.int p3), .val (.int p4), .val (.ref b5), .val (.int (p1 &&& (3 : Int32))), .val (.ref r9), .val (.int (5 : Int32)), .val (.int (byK p2 24)), .val (.int (by0 p3)), .unset] [(.int (0 : Int32)), (.ref r9), (.int (0 : Int32)), (.ref r9)])) _
    refine own_ldB X10 hx hZ e10 V9 (j := (0 : Int32)) (v := (.int (byK p2 24))) ⟨by decide, by decide⟩ rfl (g := (mkF m 189 #[.val (.int p1), .val (.int p2), .val (.int p3), .val (.int p4), .val (.ref b5), .val (.int (p1 &&& (3 : Int32))), .val (.ref r9), .val (.int (5 : Int32)), .val (.int (byK p2 24)), .val (.int (by0 p3)), .unset] [(.int (0 : Int32)), (.ref r9), (.int (0 : Int32)), (.ref r9)])) rfl rfl (hb hby at_189) _ ?_
    show Steps p.tables e below (T10.setTop (mkF m 190 #[.val (.int p1), .val (.int p2), .val (.int p3), .val (.int p4), .val (.ref b5), .val (.int (p1 &&& (3 : Int32))), .val (.ref r9), .val (.int (5 : Int32)), .val (.int (byK p2 24)), .val (.int (by0 p3)), .unset] [(.int (byK p2 24)), (.int (0 : Int32)), (.ref r9)])) _
    refine XS.iconst X10.here hx rfl (hb hby at_190) ?_
    show Steps p.tables e below (T10.setTop (mkF m 191 #[.val (.int p1), .val (.int p2), .val (.int p3), .val (.int p4), .val (.ref b5), .val (.int (p1 &&& (3 : Int32))), .val (.ref r9), .val (.int (5 : Int32)), .val (.int (byK p2 24)), .val (.int (by0 p3)), .unset] [(.int (1 : Int32)), (.int (byK p2 24)), (.int (0 : Int32)), (.ref r9)])) _
    refine XS.ixor X10.here hx rfl (hb hby at_191) rfl ?_
    show Steps p.tables e below (T10.setTop (mkF m 192 #[.val (.int p1), .val (.int p2), .val (.int p3), .val (.int p4), .val (.ref b5), .val (.int (p1 &&& (3 : Int32))), .val (.ref r9), .val (.int (5 : Int32)), .val (.int (byK p2 24)), .val (.int (by0 p3)), .unset] [(.int ((byK p2 24) ^^^ (1 : Int32))), (.int (0 : Int32)), (.ref r9)])) _
    refine XS.i2b X10.here hx rfl (hb hby at_192) rfl ?_
    show Steps p.tables e below (T10.setTop (mkF m 193 #[.val (.int p1), .val (.int p2), .val (.int p3), .val (.int p4), .val (.ref b5), .val (.int (p1 &&& (3 : Int32))), .val (.ref r9), .val (.int (5 : Int32)), .val (.int (byK p2 24)), .val (.int (by0 p3)), .unset] [(.int (((byK p2 24) ^^^ (1 : Int32)).toInt8.toInt32)), (.int (0 : Int32)), (.ref r9)])) _
    refine st11 _ ?_
    show Steps p.tables e below (T11.setTop (mkF m 194 #[.val (.int p1), .val (.int p2), .val (.int p3), .val (.int p4), .val (.ref b5), .val (.int (p1 &&& (3 : Int32))), .val (.ref r9), .val (.int (5 : Int32)), .val (.int (byK p2 24)), .val (.int (by0 p3)), .unset] [])) _
    refine XS.aload X11.here hx rfl (hb hby at_194) rfl rfl ?_
    show Steps p.tables e below (T11.setTop (mkF m 196 #[.val (.int p1), .val (.int p2), .val (.int p3), .val (.int p4), .val (.ref b5), .val (.int (p1 &&& (3 : Int32))), .val (.ref r9), .val (.int (5 : Int32)), .val (.int (byK p2 24)), .val (.int (by0 p3)), .unset] [(.ref b5)])) _
    refine XS.iloadN X11.here hx rfl (hb hby at_196) rfl ?_
    show Steps p.tables e below (T11.setTop (mkF m 197 #[.val (.int p1), .val (.int p2), .val (.int p3), .val (.int p4), .val (.ref b5), .val (.int (p1 &&& (3 : Int32))), .val (.ref r9), .val (.int (5 : Int32)), .val (.int (byK p2 24)), .val (.int (by0 p3)), .unset] [(.int p4), (.ref b5)])) _
    refine st12.trans ?_
    show Steps p.tables e below (T12.setTop (mkF m 200 #[.val (.int p1), .val (.int p2), .val (.int p3), .val (.int p4), .val (.ref b5), .val (.int (p1 &&& (3 : Int32))), .val (.ref r9), .val (.int (5 : Int32)), .val (.int (byK p2 24)), .val (.int (by0 p3)), .unset] [])) _
    refine XS.aload X12.here hx rfl (hb hby at_200) rfl rfl ?_
    show Steps p.tables e below (T12.setTop (mkF m 202 #[.val (.int p1), .val (.int p2), .val (.int p3), .val (.int p4), .val (.ref b5), .val (.int (p1 &&& (3 : Int32))), .val (.ref r9), .val (.int (5 : Int32)), .val (.int (byK p2 24)), .val (.int (by0 p3)), .unset] [(.ref b5)])) _
    refine st13.trans ?_
    show Steps p.tables e below (T13.setTop (mkF m 205 #[.val (.int p1), .val (.int p2), .val (.int p3), .val (.int p4), .val (.ref b5), .val (.int (p1 &&& (3 : Int32))), .val (.ref r9), .val (.int (5 : Int32)), .val (.int (byK p2 24)), .val (.int (by0 p3)), .unset] [(.ref r13)])) _
    refine XS.astore X13.here hx rfl (hb hby at_205) rfl rfl (l' := #[.val (.int p1), .val (.int p2), .val (.int p3), .val (.int p4), .val (.ref b5), .val (.int (p1 &&& (3 : Int32))), .val (.ref r9), .val (.int (5 : Int32)), .val (.int (byK p2 24)), .val (.int (by0 p3)), .val (.ref r13)]) rfl ?_
    show Steps p.tables e below (T13.setTop (mkF m 207 #[.val (.int p1), .val (.int p2), .val (.int p3), .val (.int p4), .val (.ref b5), .val (.int (p1 &&& (3 : Int32))), .val (.ref r9), .val (.int (5 : Int32)), .val (.int (byK p2 24)), .val (.int (by0 p3)), .val (.ref r13)] [])) _
    refine XS.aload X13.here hx rfl (hb hby at_207) rfl rfl ?_
    show Steps p.tables e below (T13.setTop (mkF m 209 #[.val (.int p1), .val (.int p2), .val (.int p3), .val (.int p4), .val (.ref b5), .val (.int (p1 &&& (3 : Int32))), .val (.ref r9), .val (.int (5 : Int32)), .val (.int (byK p2 24)), .val (.int (by0 p3)), .val (.ref r13)] [(.ref r13)])) _
    refine own_len X13 hx hZ rfl V13 (g := (mkF m 209 #[.val (.int p1), .val (.int p2), .val (.int p3), .val (.int p4), .val (.ref b5), .val (.int (p1 &&& (3 : Int32))), .val (.ref r9), .val (.int (5 : Int32)), .val (.int (byK p2 24)), .val (.int (by0 p3)), .val (.ref r13)] [(.ref r13)])) rfl rfl (hb hby at_209) _ ?_
    show Steps p.tables e below (T13.setTop (mkF m 210 #[.val (.int p1), .val (.int p2), .val (.int p3), .val (.int p4), .val (.ref b5), .val (.int (p1 &&& (3 : Int32))), .val (.ref r9), .val (.int (5 : Int32)), .val (.int (byK p2 24)), .val (.int (by0 p3)), .val (.ref r13)] [(.int (6 : Int32))])) _
    refine XS.iload X13.here hx rfl (hb hby at_210) rfl ?_
    show Steps p.tables e below (T13.setTop (mkF m 212 #[.val (.int p1), .val (.int p2), .val (.int p3), .val (.int p4), .val (.ref b5), .val (.int (p1 &&& (3 : Int32))), .val (.ref r9), .val (.int (5 : Int32)), .val (.int (byK p2 24)), .val (.int (by0 p3)), .val (.ref r13)] [(.int (5 : Int32)), (.int (6 : Int32))])) _
    refine XS.iconst X13.here hx rfl (hb hby at_212) ?_
    show Steps p.tables e below (T13.setTop (mkF m 213 #[.val (.int p1), .val (.int p2), .val (.int p3), .val (.int p4), .val (.ref b5), .val (.int (p1 &&& (3 : Int32))), .val (.ref r9), .val (.int (5 : Int32)), .val (.int (byK p2 24)), .val (.int (by0 p3)), .val (.ref r13)] [(.int (1 : Int32)), (.int (5 : Int32)), (.int (6 : Int32))])) _
    refine XS.iadd X13.here hx rfl (hb hby at_213) rfl ?_
    show Steps p.tables e below (T13.setTop (mkF m 214 #[.val (.int p1), .val (.int p2), .val (.int p3), .val (.int p4), .val (.ref b5), .val (.int (p1 &&& (3 : Int32))), .val (.ref r9), .val (.int (5 : Int32)), .val (.int (byK p2 24)), .val (.int (by0 p3)), .val (.ref r13)] [(.int ((5 : Int32) + (1 : Int32))), (.int (6 : Int32))])) _
    refine XS.icmpYes X13.here hx rfl (pc0 := 214) (pc' := 219) rfl (hb hby at_214) rfl (teq hc214).1 (by decide) (by decide) ?_
    show Steps p.tables e below (T13.setTop (mkF m 219 #[.val (.int p1), .val (.int p2), .val (.int p3), .val (.int p4), .val (.ref b5), .val (.int (p1 &&& (3 : Int32))), .val (.ref r9), .val (.int (5 : Int32)), .val (.int (byK p2 24)), .val (.int (by0 p3)), .val (.ref r13)] [])) _
    refine XS.iload X13.here hx rfl (hb hby at_219) rfl ?_
    show Steps p.tables e below (T13.setTop (mkF m 221 #[.val (.int p1), .val (.int p2), .val (.int p3), .val (.int p4), .val (.ref b5), .val (.int (p1 &&& (3 : Int32))), .val (.ref r9), .val (.int (5 : Int32)), .val (.int (byK p2 24)), .val (.int (by0 p3)), .val (.ref r13)] [(.int (5 : Int32))])) _
    refine XS.ifNo X13.here hx rfl (hb hby at_221) rfl ((if0 _ _).trans (tlt hc221).2.2.2) ?_
    show Steps p.tables e below (T13.setTop (mkF m 224 #[.val (.int p1), .val (.int p2), .val (.int p3), .val (.int p4), .val (.ref b5), .val (.int (p1 &&& (3 : Int32))), .val (.ref r9), .val (.int (5 : Int32)), .val (.int (byK p2 24)), .val (.int (by0 p3)), .val (.ref r13)] [])) _
    refine XS.aload X13.here hx rfl (hb hby at_224) rfl rfl ?_
    show Steps p.tables e below (T13.setTop (mkF m 226 #[.val (.int p1), .val (.int p2), .val (.int p3), .val (.int p4), .val (.ref b5), .val (.int (p1 &&& (3 : Int32))), .val (.ref r9), .val (.int (5 : Int32)), .val (.int (byK p2 24)), .val (.int (by0 p3)), .val (.ref r13)] [(.ref r13)])) _
    refine XS.iconst X13.here hx rfl (hb hby at_226) ?_
    show Steps p.tables e below (T13.setTop (mkF m 227 #[.val (.int p1), .val (.int p2), .val (.int p3), .val (.int p4), .val (.ref b5), .val (.int (p1 &&& (3 : Int32))), .val (.ref r9), .val (.int (5 : Int32)), .val (.int (byK p2 24)), .val (.int (by0 p3)), .val (.ref r13)] [(.int (0 : Int32)), (.ref r13)])) _
    refine own_ldB X13 hx hZ rfl V13 (j := (0 : Int32)) (v := (.int (byK p2 24))) ⟨by decide, by decide⟩ rfl (g := (mkF m 227 #[.val (.int p1), .val (.int p2), .val (.int p3), .val (.int p4), .val (.ref b5), .val (.int (p1 &&& (3 : Int32))), .val (.ref r9), .val (.int (5 : Int32)), .val (.int (byK p2 24)), .val (.int (by0 p3)), .val (.ref r13)] [(.int (0 : Int32)), (.ref r13)])) rfl rfl (hb hby at_227) _ ?_
    show Steps p.tables e below (T13.setTop (mkF m 228 #[.val (.int p1), .val (.int p2), .val (.int p3), .val (.int p4), .val (.ref b5), .val (.int (p1 &&& (3 : Int32))), .val (.ref r9), .val (.int (5 : Int32)), .val (.int (byK p2 24)), .val (.int (by0 p3)), .val (.ref r13)] [(.int (byK p2 24))])) _
    refine XS.iload X13.here hx rfl (hb hby at_228) rfl ?_
    show Steps p.tables e below (T13.setTop (mkF m 230 #[.val (.int p1), .val (.int p2), .val (.int p3), .val (.int p4), .val (.ref b5), .val (.int (p1 &&& (3 : Int32))), .val (.ref r9), .val (.int (5 : Int32)), .val (.int (byK p2 24)), .val (.int (by0 p3)), .val (.ref r13)] [(.int (byK p2 24)), (.int (byK p2 24))])) _
    refine XS.icmpYes X13.here hx rfl (pc0 := 230) (pc' := 235) rfl (hb hby at_230) rfl (teq (rfl : (byK p2 24) = (byK p2 24))).1 (by decide) (by decide) ?_
    show Steps p.tables e below (T13.setTop (mkF m 235 #[.val (.int p1), .val (.int p2), .val (.int p3), .val (.int p4), .val (.ref b5), .val (.int (p1 &&& (3 : Int32))), .val (.ref r9), .val (.int (5 : Int32)), .val (.int (byK p2 24)), .val (.int (by0 p3)), .val (.ref r13)] [])) _
    refine XS.iload X13.here hx rfl (hb hby at_235) rfl ?_
    show Steps p.tables e below (T13.setTop (mkF m 237 #[.val (.int p1), .val (.int p2), .val (.int p3), .val (.int p4), .val (.ref b5), .val (.int (p1 &&& (3 : Int32))), .val (.ref r9), .val (.int (5 : Int32)), .val (.int (byK p2 24)), .val (.int (by0 p3)), .val (.ref r13)] [(.int (5 : Int32))])) _
    refine XS.ifNo X13.here hx rfl (hb hby at_237) rfl ((if0 _ _).trans (tlt hc237).2.2.2) ?_
    show Steps p.tables e below (T13.setTop (mkF m 240 #[.val (.int p1), .val (.int p2), .val (.int p3), .val (.int p4), .val (.ref b5), .val (.int (p1 &&& (3 : Int32))), .val (.ref r9), .val (.int (5 : Int32)), .val (.int (byK p2 24)), .val (.int (by0 p3)), .val (.ref r13)] [])) _
    refine XS.aload X13.here hx rfl (hb hby at_240) rfl rfl ?_
    show Steps p.tables e below (T13.setTop (mkF m 242 #[.val (.int p1), .val (.int p2), .val (.int p3), .val (.int p4), .val (.ref b5), .val (.int (p1 &&& (3 : Int32))), .val (.ref r9), .val (.int (5 : Int32)), .val (.int (byK p2 24)), .val (.int (by0 p3)), .val (.ref r13)] [(.ref r13)])) _
    refine XS.iload X13.here hx rfl (hb hby at_242) rfl ?_
    show Steps p.tables e below (T13.setTop (mkF m 244 #[.val (.int p1), .val (.int p2), .val (.int p3), .val (.int p4), .val (.ref b5), .val (.int (p1 &&& (3 : Int32))), .val (.ref r9), .val (.int (5 : Int32)), .val (.int (byK p2 24)), .val (.int (by0 p3)), .val (.ref r13)] [(.int (5 : Int32)), (.ref r13)])) _
    refine XS.iconst X13.here hx rfl (hb hby at_244) ?_
    show Steps p.tables e below (T13.setTop (mkF m 245 #[.val (.int p1), .val (.int p2), .val (.int p3), .val (.int p4), .val (.ref b5), .val (.int (p1 &&& (3 : Int32))), .val (.ref r9), .val (.int (5 : Int32)), .val (.int (byK p2 24)), .val (.int (by0 p3)), .val (.ref r13)] [(.int (1 : Int32)), (.int (5 : Int32)), (.ref r13)])) _
    refine XS.isub X13.here hx rfl (hb hby at_245) rfl ?_
    show Steps p.tables e below (T13.setTop (mkF m 246 #[.val (.int p1), .val (.int p2), .val (.int p3), .val (.int p4), .val (.ref b5), .val (.int (p1 &&& (3 : Int32))), .val (.ref r9), .val (.int (5 : Int32)), .val (.int (byK p2 24)), .val (.int (by0 p3)), .val (.ref r13)] [(.int ((5 : Int32) - (1 : Int32))), (.ref r13)])) _
    refine own_ldB X13 hx hZ rfl V13 (j := ((5 : Int32) - (1 : Int32))) (v := (.int (by0 p3))) ⟨by decide, by decide⟩ rfl (g := (mkF m 246 #[.val (.int p1), .val (.int p2), .val (.int p3), .val (.int p4), .val (.ref b5), .val (.int (p1 &&& (3 : Int32))), .val (.ref r9), .val (.int (5 : Int32)), .val (.int (byK p2 24)), .val (.int (by0 p3)), .val (.ref r13)] [(.int ((5 : Int32) - (1 : Int32))), (.ref r13)])) rfl rfl (hb hby at_246) _ ?_
    show Steps p.tables e below (T13.setTop (mkF m 247 #[.val (.int p1), .val (.int p2), .val (.int p3), .val (.int p4), .val (.ref b5), .val (.int (p1 &&& (3 : Int32))), .val (.ref r9), .val (.int (5 : Int32)), .val (.int (byK p2 24)), .val (.int (by0 p3)), .val (.ref r13)] [(.int (by0 p3))])) _
    refine XS.iload X13.here hx rfl (hb hby at_247) rfl ?_
    show Steps p.tables e below (T13.setTop (mkF m 249 #[.val (.int p1), .val (.int p2), .val (.int p3), .val (.int p4), .val (.ref b5), .val (.int (p1 &&& (3 : Int32))), .val (.ref r9), .val (.int (5 : Int32)), .val (.int (byK p2 24)), .val (.int (by0 p3)), .val (.ref r13)] [(.int (by0 p3)), (.int (by0 p3))])) _
    refine XS.icmpYes X13.here hx rfl (pc0 := 249) (pc' := 254) rfl (hb hby at_249) rfl (teq (rfl : (by0 p3) = (by0 p3))).1 (by decide) (by decide) ?_
    show Steps p.tables e below (T13.setTop (mkF m 254 #[.val (.int p1), .val (.int p2), .val (.int p3), .val (.int p4), .val (.ref b5), .val (.int (p1 &&& (3 : Int32))), .val (.ref r9), .val (.int (5 : Int32)), .val (.int (byK p2 24)), .val (.int (by0 p3)), .val (.ref r13)] [])) _
    refine XS.aload X13.here hx rfl (hb hby at_254) rfl rfl ?_
    show Steps p.tables e below (T13.setTop (mkF m 256 #[.val (.int p1), .val (.int p2), .val (.int p3), .val (.int p4), .val (.ref b5), .val (.int (p1 &&& (3 : Int32))), .val (.ref r9), .val (.int (5 : Int32)), .val (.int (byK p2 24)), .val (.int (by0 p3)), .val (.ref r13)] [(.ref r13)])) _
    refine XS.iload X13.here hx rfl (hb hby at_256) rfl ?_
    show Steps p.tables e below (T13.setTop (mkF m 258 #[.val (.int p1), .val (.int p2), .val (.int p3), .val (.int p4), .val (.ref b5), .val (.int (p1 &&& (3 : Int32))), .val (.ref r9), .val (.int (5 : Int32)), .val (.int (byK p2 24)), .val (.int (by0 p3)), .val (.ref r13)] [(.int (5 : Int32)), (.ref r13)])) _
    refine own_ldB X13 hx hZ rfl V13 (j := (5 : Int32)) (v := (.int (by0 p4))) ⟨by decide, by decide⟩ rfl (g := (mkF m 258 #[.val (.int p1), .val (.int p2), .val (.int p3), .val (.int p4), .val (.ref b5), .val (.int (p1 &&& (3 : Int32))), .val (.ref r9), .val (.int (5 : Int32)), .val (.int (byK p2 24)), .val (.int (by0 p3)), .val (.ref r13)] [(.int (5 : Int32)), (.ref r13)])) rfl rfl (hb hby at_258) _ ?_
    show Steps p.tables e below (T13.setTop (mkF m 259 #[.val (.int p1), .val (.int p2), .val (.int p3), .val (.int p4), .val (.ref b5), .val (.int (p1 &&& (3 : Int32))), .val (.ref r9), .val (.int (5 : Int32)), .val (.int (byK p2 24)), .val (.int (by0 p3)), .val (.ref r13)] [(.int (by0 p4))])) _
    refine XS.iloadN X13.here hx rfl (hb hby at_259) rfl ?_
    show Steps p.tables e below (T13.setTop (mkF m 260 #[.val (.int p1), .val (.int p2), .val (.int p3), .val (.int p4), .val (.ref b5), .val (.int (p1 &&& (3 : Int32))), .val (.ref r9), .val (.int (5 : Int32)), .val (.int (byK p2 24)), .val (.int (by0 p3)), .val (.ref r13)] [(.int p4), (.int (by0 p4))])) _
    refine XS.sipush X13.here hx rfl (hb hby at_260) ?_
    show Steps p.tables e below (T13.setTop (mkF m 263 #[.val (.int p1), .val (.int p2), .val (.int p3), .val (.int p4), .val (.ref b5), .val (.int (p1 &&& (3 : Int32))), .val (.ref r9), .val (.int (5 : Int32)), .val (.int (byK p2 24)), .val (.int (by0 p3)), .val (.ref r13)] [(.int (255 : Int32)), (.int p4), (.int (by0 p4))])) _
    refine XS.iand X13.here hx rfl (hb hby at_263) rfl ?_
    show Steps p.tables e below (T13.setTop (mkF m 264 #[.val (.int p1), .val (.int p2), .val (.int p3), .val (.int p4), .val (.ref b5), .val (.int (p1 &&& (3 : Int32))), .val (.ref r9), .val (.int (5 : Int32)), .val (.int (byK p2 24)), .val (.int (by0 p3)), .val (.ref r13)] [(.int (p4 &&& (255 : Int32))), (.int (by0 p4))])) _
    refine XS.i2b X13.here hx rfl (hb hby at_264) rfl ?_
    show Steps p.tables e below (T13.setTop (mkF m 265 #[.val (.int p1), .val (.int p2), .val (.int p3), .val (.int p4), .val (.ref b5), .val (.int (p1 &&& (3 : Int32))), .val (.ref r9), .val (.int (5 : Int32)), .val (.int (byK p2 24)), .val (.int (by0 p3)), .val (.ref r13)] [(.int ((p4 &&& (255 : Int32)).toInt8.toInt32)), (.int (by0 p4))])) _
    refine XS.icmpYes X13.here hx rfl (pc0 := 265) (pc' := 270) rfl (hb hby at_265) rfl (teq hc265).1 (by decide) (by decide) ?_
    show Steps p.tables e below (T13.setTop (mkF m 270 #[.val (.int p1), .val (.int p2), .val (.int p3), .val (.int p4), .val (.ref b5), .val (.int (p1 &&& (3 : Int32))), .val (.ref r9), .val (.int (5 : Int32)), .val (.int (byK p2 24)), .val (.int (by0 p3)), .val (.ref r13)] [])) _
    refine XS.iload X13.here hx rfl (hb hby at_270) rfl ?_
    show Steps p.tables e below (T13.setTop (mkF m 272 #[.val (.int p1), .val (.int p2), .val (.int p3), .val (.int p4), .val (.ref b5), .val (.int (p1 &&& (3 : Int32))), .val (.ref r9), .val (.int (5 : Int32)), .val (.int (byK p2 24)), .val (.int (by0 p3)), .val (.ref r13)] [(.int (5 : Int32))])) _
    refine XS.ifNo X13.here hx rfl (hb hby at_272) rfl ((if0 _ _).trans (tlt hc272).2.2.2) ?_
    show Steps p.tables e below (T13.setTop (mkF m 275 #[.val (.int p1), .val (.int p2), .val (.int p3), .val (.int p4), .val (.ref b5), .val (.int (p1 &&& (3 : Int32))), .val (.ref r9), .val (.int (5 : Int32)), .val (.int (byK p2 24)), .val (.int (by0 p3)), .val (.ref r13)] [])) _
    refine XS.aload X13.here hx rfl (hb hby at_275) rfl rfl ?_
    show Steps p.tables e below (T13.setTop (mkF m 277 #[.val (.int p1), .val (.int p2), .val (.int p3), .val (.int p4), .val (.ref b5), .val (.int (p1 &&& (3 : Int32))), .val (.ref r9), .val (.int (5 : Int32)), .val (.int (byK p2 24)), .val (.int (by0 p3)), .val (.ref r13)] [(.ref r9)])) _
    refine own_len X13 hx hZ rfl ((V11.keep K12 (ninS (Ne.symm ne_b5_r9) (ninS (Ne.symm ne_b6x_r9) nin0))).keep K13 nin0) (g := (mkF m 277 #[.val (.int p1), .val (.int p2), .val (.int p3), .val (.int p4), .val (.ref b5), .val (.int (p1 &&& (3 : Int32))), .val (.ref r9), .val (.int (5 : Int32)), .val (.int (byK p2 24)), .val (.int (by0 p3)), .val (.ref r13)] [(.ref r9)])) rfl rfl (hb hby at_277) _ ?_
    show Steps p.tables e below (T13.setTop (mkF m 278 #[.val (.int p1), .val (.int p2), .val (.int p3), .val (.int p4), .val (.ref b5), .val (.int (p1 &&& (3 : Int32))), .val (.ref r9), .val (.int (5 : Int32)), .val (.int (byK p2 24)), .val (.int (by0 p3)), .val (.ref r13)] [(.int (5 : Int32))])) _
    refine XS.iload X13.here hx rfl (hb hby at_278) rfl ?_
    show Steps p.tables e below (T13.setTop (mkF m 280 #[.val (.int p1), .val (.int p2), .val (.int p3), .val (.int p4), .val (.ref b5), .val (.int (p1 &&& (3 : Int32))), .val (.ref r9), .val (.int (5 : Int32)), .val (.int (byK p2 24)), .val (.int (by0 p3)), .val (.ref r13)] [(.int (5 : Int32)), (.int (5 : Int32))])) _
    refine XS.icmpYes X13.here hx rfl (pc0 := 280) (pc' := 285) rfl (hb hby at_280) rfl (teq (rfl : (5 : Int32) = (5 : Int32))).1 (by decide) (by decide) ?_
    show Steps p.tables e below (T13.setTop (mkF m 285 #[.val (.int p1), .val (.int p2), .val (.int p3), .val (.int p4), .val (.ref b5), .val (.int (p1 &&& (3 : Int32))), .val (.ref r9), .val (.int (5 : Int32)), .val (.int (byK p2 24)), .val (.int (by0 p3)), .val (.ref r13)] [])) _
    refine XS.iconst X13.here hx rfl (hb hby at_285) ?_
    show Steps p.tables e below (T13.setTop (mkF m 286 #[.val (.int p1), .val (.int p2), .val (.int p3), .val (.int p4), .val (.ref b5), .val (.int (p1 &&& (3 : Int32))), .val (.ref r9), .val (.int (5 : Int32)), .val (.int (byK p2 24)), .val (.int (by0 p3)), .val (.ref r13)] [(.int (1 : Int32))])) _
    exact retN X13 hx (t := .boolean) Bd.returns (by simp) (hb hby at_286) hr
  · show Q0 n0 _ _
    exact ⟨rfl, N13⟩
set_option maxRecDepth 65536 in
set_option maxHeartbeats 40000000 in
theorem rm0_3 (l : Launch) (Z : State) (a0 : Array Value) (hw : ∀ d ∈ tables_1, d.before a0 Z = true) (ws : List Jvm.Cond) (p1 p2 p3 p4 : Int32) (h0 : Heap) (n0 : Nat) (Z0 : n0 ≤ h0.size) (hc17 : ¬ ((p1 &&& (3 : Int32)) < (1 : Int32))) (hc29 : ¬ ((p1 &&& (3 : Int32)) < (2 : Int32))) (hc41 : ¬ ((p1 &&& (3 : Int32)) < (3 : Int32))) (hc59 : ¬ ((p1 &&& (3 : Int32)) = (0 : Int32))) (hc69 : ¬ ((p1 &&& (3 : Int32)) = (1 : Int32))) (hc79 : ¬ ((p1 &&& (3 : Int32)) = (2 : Int32))) (hc103 : ¬ ((p1 &&& (3 : Int32)) < (1 : Int32))) (hc113 : ¬ ((1 : Int32) = (0 : Int32))) (hc121 : ¬ ((p1 &&& (3 : Int32)) < (2 : Int32))) (hc134 : (by0 p3) = ((p3 &&& (255 : Int32)).toInt8.toInt32)) (hc142 : ¬ ((p1 &&& (3 : Int32)) < (3 : Int32))) (hc152 : ¬ ((1 : Int32) = (0 : Int32))) (hc165 : (0 : Int32) < (9 : Int32)) (hc214 : (10 : Int32) = ((9 : Int32) + (1 : Int32))) (hc221 : (0 : Int32) < (9 : Int32)) (hc237 : (0 : Int32) < (9 : Int32)) (hc265 : (by0 p4) = ((p4 &&& (255 : Int32)).toInt8.toInt32)) (hc272 : (0 : Int32) < (9 : Int32)) :
    MetFree l x (head1 (Jvm.Cond.code x code maxLocals ret :: ws) room_1) (fun a U => a = #[(.int p1), (.int p2), (.int p3), (.int p4)] ∧ Z.Warmed39 U.vm ∧ U.heap = h0) (fun _ _ _ _ _ => True) (fun _ U o U' => ∃ v L, o = .returned v ∧ Q0 n0 v L ∧ FrameEnd U o U' L 4 162) := by
  refine MetFree.of_bodySF (plainFor_of_name pn_0) hisR ?_
  intro p e s m args below meth c s₁ Bd hml0 hP hK
  obtain ⟨rfl, hZ, hh⟩ := hP
  have hx := Bd.exec
  have hby := Bd.bytes
  have hml : c.maxLocals = 11 := hml0
  have hown : s.vm.findClass "com/example/periodica/periodica/ledger/OutToByteArrayPinLaw" = some m.cls := findClass_of_methodNamed Bd.named
  have hnm := (name_of_methodNamed Bd.named Bd.method).1
  have X0 : Stand p l e room_1 s m #[(.int p1), (.int p2), (.int p3), (.int p4)] below meth c s₁ [] 0 0 := Stand.of_body Bd
  have e0 : s₁.heap = h0 := by rw [← hh, Bd.state]; rfl
  have N0 := Fr.nil n0
  have pre0 : ∀ t, Steps p.tables e below (s₁.setTop (mkF m 0 #[.val (.int p1), .val (.int p2), .val (.int p3), .val (.int p4), .unset, .unset, .unset, .unset, .unset, .unset, .unset] [])) t → Steps p.tables e below (s₁.setTop (entryFrame m #[(.int p1), (.int p2), (.int p3), (.int p4)] maxLocals)) t := fun t k => castTop (ef_0 m p1 p2 p3 p4) k
  obtain ⟨T5, h5, X5, e5, E5, A5, D5, -, st5⟩ := newO X0 hx hZ hown (hw _ (List.mem_of_getElem? (i := 0) rfl)) (hw _ (List.mem_of_getElem? (i := 1) rfl)) (hw _ (List.mem_of_getElem? (i := 2) rfl)) e0 (g := (mkF m 0 #[.val (.int p1), .val (.int p2), .val (.int p3), .val (.int p4), .unset, .unset, .unset, .unset, .unset, .unset, .unset] [])) rfl (hb hby at_0) (by decide) (by decide)
  obtain ⟨b5, g5⟩ : ∃ z, z = h0.size := ⟨_, rfl⟩
  rw [← g5] at A5 D5 st5
  have F_bytes_b5 : Fld Z h5 b5 "com/example/periodica/periodica/ledger/StoredFields$Out" "bytes" "[B" .null := D5 (Or.inl (hw _ (List.mem_of_getElem? (i := 11) rfl))) (ty := (.array .byte)) (by decide)
  have F_size_b5 : Fld Z h5 b5 "com/example/periodica/periodica/ledger/StoredFields$Out" "size" "I" (.int (0 : Int32)) := D5 (Or.inl (hw _ (List.mem_of_getElem? (i := 18) rfl))) (ty := .int) (by decide)
  have E_b5 := A5
  have g_b5 : n0 ≤ b5 := Nat.le_trans Z0 (Nat.le_of_eq g5.symm)
  obtain ⟨_, _, ⟨T6, L6, k6, n6⟩, -, X6, ⟨Lc6, hQ6, l6, y6, z6⟩, st6⟩ := X5.specialBack hx (y := (⟨"com/example/periodica/periodica/ledger/StoredFields$Out", "<init>", "()V"⟩ : MethodName)) rfl hown (mvT hZ (hw _ (List.mem_of_getElem? (i := 3) rfl))) (mvT hZ (hw _ (List.mem_of_getElem? (i := 4) rfl))) (mvT hZ (hw _ (List.mem_of_getElem? (i := 5) rfl))) (by decide) (backOf (W := 1) (rm1 l Z a0 hw [] b5 _ h5 n0 (Nat.le_trans Z0 E5.1) E_b5 F_bytes_b5 F_size_b5 g_b5) hZ (hw _ (List.mem_of_getElem? (i := 5) rfl)) (hw _ (List.mem_of_getElem? (i := 2) rfl)) (by decide) (by decide)) (g := (mkF m 4 #[.val (.int p1), .val (.int p2), .val (.int p3), .val (.int p4), .unset, .unset, .unset, .unset, .unset, .unset, .unset] [(.ref b5), (.ref b5)])) rfl (by rw [hml]; rfl) (Steps.refl _) (a := b5) (argsL := []) (rest := [(.ref b5)]) (lenOf pd_0_0 rfl) rfl (by show 2 * 0 + _ ≤ _; exact Nat.le_of_eq rfl) (hb hby at_4) (fun _ _ => ⟨rfl, e5, (by decide : 1 + 1 ≤ _), (by decide : 2 + 128 ≤ _)⟩)
  dsimp only [Pt.U, Pt.locs, Pt.cells, Pt.slots] at X6 l6 y6 z6 st6 hQ6
  subst l6 y6 z6
  obtain ⟨rfl, N6q, b6x, k6x, g_b6x, O6⟩ := hQ6
  have ne_b5_b6x := O6.2.2.2.2
  have N6 := Fr.app N0 N6q
  obtain ⟨cq7, kq7, q7a, q7b, q7c⟩ := isOf hZ rfl O6.1
  obtain ⟨_, _, ⟨T7, L7, k7, n7⟩, -, X7, ⟨Lc7, hQ7, l7, y7, z7⟩, st7⟩ := X6.virtualBack hx (y := (⟨"com/example/periodica/periodica/ledger/StoredFields$Out", "writeInt", "(I)V"⟩ : MethodName)) (z := (⟨"com/example/periodica/periodica/ledger/StoredFields$Out", "writeInt", "(I)V"⟩ : MethodName)) hown (mvT hZ (hw _ (List.mem_of_getElem? (i := 40) rfl))) (mvT hZ (hw _ (List.mem_of_getElem? (i := 41) rfl))) (notFace_of_selects (args := #[]) (mvT hZ (hw _ (List.mem_of_getElem? (i := 43) rfl)))) (mvT hZ (hw _ (List.mem_of_getElem? (i := 43) rfl))) (mvT hZ (hw _ (List.mem_of_getElem? (i := 42) rfl))) (by decide) (backOf (W := 0) (rm8 l Z a0 hw [] b5 p2 b6x k6x (0 : Int32) [] (4 : Int32) T6.heap n0 (Nat.le_trans g_b5 (Nat.le_of_lt O6.1.lt)) ⟨O6.1, O6.2.1, O6.2.2.1, O6.2.2.2.1, ne_b5_b6x⟩ (by decide) g_b5 g_b6x (by decide) (by decide) rfl (by decide) rfl (by decide) rfl (by decide) rfl) hZ (hw _ (List.mem_of_getElem? (i := 44) rfl)) (hw _ (List.mem_of_getElem? (i := 2) rfl)) (by decide) (by decide)) q7a q7c (g := (mkF m 23 #[.val (.int p1), .val (.int p2), .val (.int p3), .val (.int p4), .val (.ref b5), .val (.int (p1 &&& (3 : Int32))), .unset, .unset, .unset, .unset, .unset] [(.int p2), (.ref b5)])) rfl (by rw [hml]; rfl) (Steps.refl _) (argsL := [(.int p2)]) (rest := []) (lenOf pd_0_5 rfl) rfl (by show 2 * 0 + _ ≤ _; exact Nat.le_of_eq rfl) (hb hby at_23) (fun _ _ => ⟨rfl, rfl, (by decide : 2 + 0 ≤ _), (by decide : 130 + 0 ≤ _)⟩)
  dsimp only [Pt.U, Pt.locs, Pt.cells, Pt.slots] at X7 l7 y7 z7 st7 hQ7
  subst l7 y7 z7
  obtain ⟨rfl, N7q, K7, O7⟩ := hQ7
  have N7 := Fr.app N6 N7q
  obtain ⟨cq8, kq8, q8a, q8b, q8c⟩ := isOf hZ rfl O7.1
  obtain ⟨_, _, ⟨T8, L8, k8, n8⟩, -, X8, ⟨Lc8, hQ8, l8, y8, z8⟩, st8⟩ := X7.virtualBack hx (y := (⟨"com/example/periodica/periodica/ledger/StoredFields$Out", "writeByte", "(I)V"⟩ : MethodName)) (z := (⟨"com/example/periodica/periodica/ledger/StoredFields$Out", "writeByte", "(I)V"⟩ : MethodName)) hown (mvT hZ (hw _ (List.mem_of_getElem? (i := 31) rfl))) (mvT hZ (hw _ (List.mem_of_getElem? (i := 32) rfl))) (notFace_of_selects (args := #[]) (mvT hZ (hw _ (List.mem_of_getElem? (i := 34) rfl)))) (mvT hZ (hw _ (List.mem_of_getElem? (i := 34) rfl))) (mvT hZ (hw _ (List.mem_of_getElem? (i := 33) rfl))) (by decide) (backOf (W := 0) (rm6 l Z a0 hw [] b5 p3 b6x k6x (4 : Int32) ([] ++ b4 p2) (5 : Int32) T7.heap n0 (Nat.le_trans g_b5 (Nat.le_of_lt O7.1.lt)) ⟨O7.1, O7.2.1, O7.2.2.1, O7.2.2.2.1, ne_b5_b6x⟩ (by decide) g_b5 g_b6x (by decide) (by decide) rfl) hZ (hw _ (List.mem_of_getElem? (i := 35) rfl)) (hw _ (List.mem_of_getElem? (i := 2) rfl)) (by decide) (by decide)) q8a q8c (g := (mkF m 35 #[.val (.int p1), .val (.int p2), .val (.int p3), .val (.int p4), .val (.ref b5), .val (.int (p1 &&& (3 : Int32))), .unset, .unset, .unset, .unset, .unset] [(.int p3), (.ref b5)])) rfl (by rw [hml]; rfl) (Steps.refl _) (argsL := [(.int p3)]) (rest := []) (lenOf pd_0_5 rfl) rfl (by show 2 * 0 + _ ≤ _; exact Nat.le_of_eq rfl) (hb hby at_35) (fun _ _ => ⟨rfl, rfl, (by decide : 2 + 0 ≤ _), (by decide : 130 + 0 ≤ _)⟩)
  dsimp only [Pt.U, Pt.locs, Pt.cells, Pt.slots] at X8 l8 y8 z8 st8 hQ8
  subst l8 y8 z8
  obtain ⟨rfl, N8q, K8, O8⟩ := hQ8
  have N8 := Fr.app N7 N8q
  obtain ⟨cq9, kq9, q9a, q9b, q9c⟩ := isOf hZ rfl O8.1
  obtain ⟨_, _, ⟨T9, L9, k9, n9⟩, -, X9, ⟨Lc9, hQ9, l9, y9, z9⟩, st9⟩ := X8.virtualBack hx (y := (⟨"com/example/periodica/periodica/ledger/StoredFields$Out", "writeInt", "(I)V"⟩ : MethodName)) (z := (⟨"com/example/periodica/periodica/ledger/StoredFields$Out", "writeInt", "(I)V"⟩ : MethodName)) hown (mvT hZ (hw _ (List.mem_of_getElem? (i := 40) rfl))) (mvT hZ (hw _ (List.mem_of_getElem? (i := 41) rfl))) (notFace_of_selects (args := #[]) (mvT hZ (hw _ (List.mem_of_getElem? (i := 43) rfl)))) (mvT hZ (hw _ (List.mem_of_getElem? (i := 43) rfl))) (mvT hZ (hw _ (List.mem_of_getElem? (i := 42) rfl))) (by decide) (backOf (W := 0) (rm8 l Z a0 hw [] b5 p4 b6x k6x (5 : Int32) (([] ++ b4 p2) ++ [.int (by0 p3)]) (9 : Int32) T8.heap n0 (Nat.le_trans g_b5 (Nat.le_of_lt O8.1.lt)) ⟨O8.1, O8.2.1, O8.2.2.1, O8.2.2.2.1, ne_b5_b6x⟩ (by decide) g_b5 g_b6x (by decide) (by decide) rfl (by decide) rfl (by decide) rfl (by decide) rfl) hZ (hw _ (List.mem_of_getElem? (i := 44) rfl)) (hw _ (List.mem_of_getElem? (i := 2) rfl)) (by decide) (by decide)) q9a q9c (g := (mkF m 47 #[.val (.int p1), .val (.int p2), .val (.int p3), .val (.int p4), .val (.ref b5), .val (.int (p1 &&& (3 : Int32))), .unset, .unset, .unset, .unset, .unset] [(.int p4), (.ref b5)])) rfl (by rw [hml]; rfl) (Steps.refl _) (argsL := [(.int p4)]) (rest := []) (lenOf pd_0_5 rfl) rfl (by show 2 * 0 + _ ≤ _; exact Nat.le_of_eq rfl) (hb hby at_47) (fun _ _ => ⟨rfl, rfl, (by decide : 2 + 0 ≤ _), (by decide : 130 + 0 ≤ _)⟩)
  dsimp only [Pt.U, Pt.locs, Pt.cells, Pt.slots] at X9 l9 y9 z9 st9 hQ9
  subst l9 y9 z9
  obtain ⟨rfl, N9q, K9, O9⟩ := hQ9
  have N9 := Fr.app N8 N9q
  obtain ⟨cq10, kq10, q10a, q10b, q10c⟩ := isOf hZ rfl O9.1
  obtain ⟨_, _, ⟨T10, L10, k10, n10⟩, -, X10, ⟨Lc10, hQ10, l10, y10, z10⟩, st10⟩ := X9.virtualBack hx (y := (⟨"com/example/periodica/periodica/ledger/StoredFields$Out", "toByteArray", "()[B"⟩ : MethodName)) (z := (⟨"com/example/periodica/periodica/ledger/StoredFields$Out", "toByteArray", "()[B"⟩ : MethodName)) hown (mvT hZ (hw _ (List.mem_of_getElem? (i := 12) rfl))) (mvT hZ (hw _ (List.mem_of_getElem? (i := 13) rfl))) (notFace_of_selects (args := #[]) (mvT hZ (hw _ (List.mem_of_getElem? (i := 15) rfl)))) (mvT hZ (hw _ (List.mem_of_getElem? (i := 15) rfl))) (mvT hZ (hw _ (List.mem_of_getElem? (i := 14) rfl))) (by decide) (backOf (W := 0) (rm3 l Z a0 hw [] b5 b6x k6x (9 : Int32) ((([] ++ b4 p2) ++ [.int (by0 p3)]) ++ b4 p4) T9.heap n0 (Nat.le_trans g_b5 (Nat.le_of_lt O9.1.lt)) ⟨O9.1, O9.2.1, O9.2.2.1, O9.2.2.2.1, ne_b5_b6x⟩ rfl (by decide) (by decide) (by decide) (by decide) (by decide)) hZ (hw _ (List.mem_of_getElem? (i := 16) rfl)) (hw _ (List.mem_of_getElem? (i := 2) rfl)) (by decide) (by decide)) q10a q10c (g := (mkF m 52 #[.val (.int p1), .val (.int p2), .val (.int p3), .val (.int p4), .val (.ref b5), .val (.int (p1 &&& (3 : Int32))), .unset, .unset, .unset, .unset, .unset] [(.ref b5)])) rfl (by rw [hml]; rfl) (Steps.refl _) (argsL := []) (rest := []) (lenOf pd_0_1 rfl) rfl (by show 2 * 0 + _ ≤ _; exact Nat.le_of_eq rfl) (hb hby at_52) (fun _ _ => ⟨rfl, rfl, (by decide : 2 + 1 ≤ _), (by decide : 130 + 16 ≤ _)⟩)
  dsimp only [Pt.U, Pt.locs, Pt.cells, Pt.slots] at X10 l10 y10 z10 st10 hQ10
  subst l10 y10 z10
  obtain ⟨r10, kr10, rfl, N10q, K10, hr10, V10⟩ := hQ10
  have ne_b5_r10 : b5 ≠ r10 := Nat.ne_of_lt (Nat.lt_of_lt_of_le O9.1.lt hr10)
  have ne_b6x_r10 : b6x ≠ r10 := Nat.ne_of_lt (Nat.lt_of_lt_of_le O9.2.2.2.1.lt hr10)
  have g_r10 : n0 ≤ r10 := Nat.le_trans (Nat.le_trans g_b5 (Nat.le_of_lt O9.1.lt)) hr10
  have N10 := Fr.app N9 N10q
  obtain ⟨_, _, ⟨T11, L11, k11, n11⟩, -, X11, ⟨Lc11, hQ11, l11, y11, z11⟩, st11⟩ := Jvm.LawKit.callS X10 hx (y := (⟨"com/example/periodica/periodica/ledger/OutToByteArrayPinLaw", "intAt", "([BII)Z"⟩ : MethodName)) hown (mvT hZ (hw _ (List.mem_of_getElem? (i := 45) rfl))) (mvT hZ (hw _ (List.mem_of_getElem? (i := 46) rfl))) (mvT hZ (hw _ (List.mem_of_getElem? (i := 47) rfl))) (mvT hZ (hw _ (List.mem_of_getElem? (i := 48) rfl))) (by decide) (backOf (W := 0) (rm9 l Z a0 hw [] r10 (0 : Int32) p2 kr10 (9 : Int32) ((([] ++ b4 p2) ++ [.int (by0 p3)]) ++ b4 p4) (byK p2 24) (byK p2 16) (byK p2 8) (by0 p2) T10.heap n0 (Nat.le_trans g_b5 (Nat.le_of_lt (O9.1.keep K10).lt)) V10 ⟨by decide, by decide⟩ ⟨by decide, by decide⟩ ⟨by decide, by decide⟩ ⟨by decide, by decide⟩ rfl rfl rfl rfl (own_join _ _ _ _ _ rfl rfl rfl rfl)) hZ (hw _ (List.mem_of_getElem? (i := 48) rfl)) (hw _ (List.mem_of_getElem? (i := 47) rfl)) (by decide) (by decide)) (g := (mkF m 110 #[.val (.int p1), .val (.int p2), .val (.int p3), .val (.int p4), .val (.ref b5), .val (.int (p1 &&& (3 : Int32))), .val (.ref r10), .val (.int (9 : Int32)), .unset, .unset, .unset] [(.int p2), (.int (0 : Int32)), (.ref r10)])) rfl (by rw [hml]; rfl) (argsL := [(.ref r10), (.int (0 : Int32)), (.int p2)]) (rest := []) (lenOf pd_0_6 rfl) rfl (by show 2 * 0 + _ ≤ _; exact Nat.le_of_eq rfl) (hb hby at_110) (fun _ _ => ⟨rfl, rfl, (by decide : 3 + 0 ≤ _), (by decide : 146 + 0 ≤ _)⟩)
  dsimp only [Pt.U, Pt.locs, Pt.cells, Pt.slots] at X11 l11 y11 z11 st11 hQ11
  subst l11 y11 z11
  obtain ⟨rfl, N11q, e11⟩ := hQ11
  have N11 := Fr.app N10 N11q
  obtain ⟨_, _, ⟨T12, L12, k12, n12⟩, -, X12, ⟨Lc12, hQ12, l12, y12, z12⟩, st12⟩ := Jvm.LawKit.callS X11 hx (y := (⟨"com/example/periodica/periodica/ledger/OutToByteArrayPinLaw", "intAt", "([BII)Z"⟩ : MethodName)) hown (mvT hZ (hw _ (List.mem_of_getElem? (i := 45) rfl))) (mvT hZ (hw _ (List.mem_of_getElem? (i := 46) rfl))) (mvT hZ (hw _ (List.mem_of_getElem? (i := 47) rfl))) (mvT hZ (hw _ (List.mem_of_getElem? (i := 48) rfl))) (by decide) (backOf (W := 0) (rm9 l Z a0 hw [] r10 (5 : Int32) p4 kr10 (9 : Int32) ((([] ++ b4 p2) ++ [.int (by0 p3)]) ++ b4 p4) (byK p4 24) (byK p4 16) (byK p4 8) (by0 p4) T10.heap n0 (Nat.le_trans g_b5 (Nat.le_of_lt (O9.1.keep K10).lt)) V10 ⟨by decide, by decide⟩ ⟨by decide, by decide⟩ ⟨by decide, by decide⟩ ⟨by decide, by decide⟩ rfl rfl rfl rfl (own_join _ _ _ _ _ rfl rfl rfl rfl)) hZ (hw _ (List.mem_of_getElem? (i := 48) rfl)) (hw _ (List.mem_of_getElem? (i := 47) rfl)) (by decide) (by decide)) (g := (mkF m 149 #[.val (.int p1), .val (.int p2), .val (.int p3), .val (.int p4), .val (.ref b5), .val (.int (p1 &&& (3 : Int32))), .val (.ref r10), .val (.int (9 : Int32)), .unset, .unset, .unset] [(.int p4), (.int (5 : Int32)), (.ref r10)])) rfl (by rw [hml]; rfl) (argsL := [(.ref r10), (.int (5 : Int32)), (.int p4)]) (rest := []) (lenOf pd_0_6 rfl) rfl (by show 2 * 0 + _ ≤ _; exact Nat.le_of_eq rfl) (hb hby at_149) (fun _ _ => ⟨rfl, e11, (by decide : 3 + 0 ≤ _), (by decide : 146 + 0 ≤ _)⟩)
  dsimp only [Pt.U, Pt.locs, Pt.cells, Pt.slots] at X12 l12 y12 z12 st12 hQ12
  subst l12 y12 z12
  obtain ⟨rfl, N12q, e12⟩ := hQ12
  have N12 := Fr.app N11 N12q
  obtain ⟨T13, h13, X13, e13, W13, V13, st13⟩ := own_stB X12 hx hZ e12 V10 (j := (0 : Int32)) (x := (((byK p2 24) ^^^ (1 : Int32)).toInt8.toInt32)) ⟨by decide, by decide⟩ 0 rfl (by simp [b4]) (g := (mkF m 193 #[.val (.int p1), .val (.int p2), .val (.int p3), .val (.int p4), .val (.ref b5), .val (.int (p1 &&& (3 : Int32))), .val (.ref r10), .val (.int (9 : Int32)), .val (.int (byK p2 24)), .val (.int (by0 p4)), .unset] [(.int (((byK p2 24) ^^^ (1 : Int32)).toInt8.toInt32)), (.int (0 : Int32)), (.ref r10)])) rfl rfl (hb hby at_193)
  have N13 := Fr.snoc X13 N12 g_r10
  obtain ⟨cq14, kq14, q14a, q14b, q14c⟩ := isOf hZ e13 ((O9.1.keep K10).wr W13)
  obtain ⟨_, _, ⟨T14, L14, k14, n14⟩, -, X14, ⟨Lc14, hQ14, l14, y14, z14⟩, st14⟩ := X13.virtualBack hx (y := (⟨"com/example/periodica/periodica/ledger/StoredFields$Out", "writeByte", "(I)V"⟩ : MethodName)) (z := (⟨"com/example/periodica/periodica/ledger/StoredFields$Out", "writeByte", "(I)V"⟩ : MethodName)) hown (mvT hZ (hw _ (List.mem_of_getElem? (i := 31) rfl))) (mvT hZ (hw _ (List.mem_of_getElem? (i := 32) rfl))) (notFace_of_selects (args := #[]) (mvT hZ (hw _ (List.mem_of_getElem? (i := 34) rfl)))) (mvT hZ (hw _ (List.mem_of_getElem? (i := 34) rfl))) (mvT hZ (hw _ (List.mem_of_getElem? (i := 33) rfl))) (by decide) (backOf (W := 0) (rm6 l Z a0 hw [] b5 p4 b6x k6x (9 : Int32) ((([] ++ b4 p2) ++ [.int (by0 p3)]) ++ b4 p4) (10 : Int32) h13 n0 (Nat.le_trans g_b5 (Nat.le_of_lt ((O9.1.keep K10).wr W13).lt)) ⟨((O9.1.keep K10).wr W13), ((O9.2.1.keep K10 nin0).other W13 (Or.inl ne_b5_r10)), ((O9.2.2.1.keep K10 nin0).other W13 (Or.inl ne_b5_r10)), ((O9.2.2.2.1.keep K10 nin0).other W13 ne_b6x_r10), ne_b5_b6x⟩ (by decide) g_b5 g_b6x (by decide) (by decide) rfl) hZ (hw _ (List.mem_of_getElem? (i := 35) rfl)) (hw _ (List.mem_of_getElem? (i := 2) rfl)) (by decide) (by decide)) q14a q14c (g := (mkF m 197 #[.val (.int p1), .val (.int p2), .val (.int p3), .val (.int p4), .val (.ref b5), .val (.int (p1 &&& (3 : Int32))), .val (.ref r10), .val (.int (9 : Int32)), .val (.int (byK p2 24)), .val (.int (by0 p4)), .unset] [(.int p4), (.ref b5)])) rfl (by rw [hml]; rfl) (Steps.refl _) (argsL := [(.int p4)]) (rest := []) (lenOf pd_0_5 rfl) rfl (by show 2 * 0 + _ ≤ _; exact Nat.le_of_eq rfl) (hb hby at_197) (fun _ _ => ⟨rfl, e13, (by decide : 3 + 0 ≤ _), (by decide : 146 + 0 ≤ _)⟩)
  dsimp only [Pt.U, Pt.locs, Pt.cells, Pt.slots] at X14 l14 y14 z14 st14 hQ14
  subst l14 y14 z14
  obtain ⟨rfl, N14q, K14, O14⟩ := hQ14
  have N14 := Fr.app N13 N14q
  obtain ⟨cq15, kq15, q15a, q15b, q15c⟩ := isOf hZ rfl O14.1
  obtain ⟨_, _, ⟨T15, L15, k15, n15⟩, -, X15, ⟨Lc15, hQ15, l15, y15, z15⟩, st15⟩ := X14.virtualBack hx (y := (⟨"com/example/periodica/periodica/ledger/StoredFields$Out", "toByteArray", "()[B"⟩ : MethodName)) (z := (⟨"com/example/periodica/periodica/ledger/StoredFields$Out", "toByteArray", "()[B"⟩ : MethodName)) hown (mvT hZ (hw _ (List.mem_of_getElem? (i := 12) rfl))) (mvT hZ (hw _ (List.mem_of_getElem? (i := 13) rfl))) (notFace_of_selects (args := #[]) (mvT hZ (hw _ (List.mem_of_getElem? (i := 15) rfl)))) (mvT hZ (hw _ (List.mem_of_getElem? (i := 15) rfl))) (mvT hZ (hw _ (List.mem_of_getElem? (i := 14) rfl))) (by decide) (backOf (W := 0) (rm3 l Z a0 hw [] b5 b6x k6x (10 : Int32) (((([] ++ b4 p2) ++ [.int (by0 p3)]) ++ b4 p4) ++ [.int (by0 p4)]) T14.heap n0 (Nat.le_trans g_b5 (Nat.le_of_lt O14.1.lt)) ⟨O14.1, O14.2.1, O14.2.2.1, O14.2.2.2.1, ne_b5_b6x⟩ rfl (by decide) (by decide) (by decide) (by decide) (by decide)) hZ (hw _ (List.mem_of_getElem? (i := 16) rfl)) (hw _ (List.mem_of_getElem? (i := 2) rfl)) (by decide) (by decide)) q15a q15c (g := (mkF m 202 #[.val (.int p1), .val (.int p2), .val (.int p3), .val (.int p4), .val (.ref b5), .val (.int (p1 &&& (3 : Int32))), .val (.ref r10), .val (.int (9 : Int32)), .val (.int (byK p2 24)), .val (.int (by0 p4)), .unset] [(.ref b5)])) rfl (by rw [hml]; rfl) (Steps.refl _) (argsL := []) (rest := []) (lenOf pd_0_1 rfl) rfl (by show 2 * 0 + _ ≤ _; exact Nat.le_of_eq rfl) (hb hby at_202) (fun _ _ => ⟨rfl, rfl, (by decide : 3 + 1 ≤ _), (by decide : 146 + 16 ≤ _)⟩)
  dsimp only [Pt.U, Pt.locs, Pt.cells, Pt.slots] at X15 l15 y15 z15 st15 hQ15
  subst l15 y15 z15
  obtain ⟨r15, kr15, rfl, N15q, K15, hr15, V15⟩ := hQ15
  have ne_b5_r15 : b5 ≠ r15 := Nat.ne_of_lt (Nat.lt_of_lt_of_le O14.1.lt hr15)
  have ne_b6x_r15 : b6x ≠ r15 := Nat.ne_of_lt (Nat.lt_of_lt_of_le O14.2.2.2.1.lt hr15)
  have g_r15 : n0 ≤ r15 := Nat.le_trans (Nat.le_trans g_b5 (Nat.le_of_lt O14.1.lt)) hr15
  have ne_r10_r15 : r10 ≠ r15 := Nat.ne_of_lt (Nat.lt_of_lt_of_le (V13.keep K14 (ninS (Ne.symm ne_b5_r10) (ninS (Ne.symm ne_b6x_r10) nin0))).lt hr15)
  have N15 := Fr.app N14 N15q
  obtain ⟨fs, hr, hrun, hended, hW, hsame⟩ := X15.leave (v := some (.int (1 : Int32))) (fun h => by rw [Bd.returns] at h; cases h)
  refine ⟨_, _, pre0 _ ?_, hrun, hended, _, _, rfl, ?_, ⟨_, rfl⟩, hW, hsame.mono (by decide) (by decide)⟩
  · show Steps p.tables e below (s₁.setTop (mkF m 0 #[.val (.int p1), .val (.int p2), .val (.int p3), .val (.int p4), .unset, .unset, .unset, .unset, .unset, .unset, .unset] [])) _
    refine st5 _ ?_
    show Steps p.tables e below (T5.setTop (mkF m 3 #[.val (.int p1), .val (.int p2), .val (.int p3), .val (.int p4), .unset, .unset, .unset, .unset, .unset, .unset, .unset] [(.ref b5)])) _
    refine XS.dup X5.here hx rfl (hb hby at_3) rfl rfl ?_
    show Steps p.tables e below (T5.setTop (mkF m 4 #[.val (.int p1), .val (.int p2), .val (.int p3), .val (.int p4), .unset, .unset, .unset, .unset, .unset, .unset, .unset] [(.ref b5), (.ref b5)])) _
    refine st6.trans ?_
    show Steps p.tables e below (T6.setTop (mkF m 7 #[.val (.int p1), .val (.int p2), .val (.int p3), .val (.int p4), .unset, .unset, .unset, .unset, .unset, .unset, .unset] [(.ref b5)])) _
    refine XS.astore X6.here hx rfl (hb hby at_7) rfl rfl (l' := #[.val (.int p1), .val (.int p2), .val (.int p3), .val (.int p4), .val (.ref b5), .unset, .unset, .unset, .unset, .unset, .unset]) rfl ?_
    show Steps p.tables e below (T6.setTop (mkF m 9 #[.val (.int p1), .val (.int p2), .val (.int p3), .val (.int p4), .val (.ref b5), .unset, .unset, .unset, .unset, .unset, .unset] [])) _
    refine XS.iloadN X6.here hx rfl (hb hby at_9) rfl ?_
    show Steps p.tables e below (T6.setTop (mkF m 10 #[.val (.int p1), .val (.int p2), .val (.int p3), .val (.int p4), .val (.ref b5), .unset, .unset, .unset, .unset, .unset, .unset] [(.int p1)])) _
    refine XS.iconst X6.here hx rfl (hb hby at_10) ?_
    show Steps p.tables e below (T6.setTop (mkF m 11 #[.val (.int p1), .val (.int p2), .val (.int p3), .val (.int p4), .val (.ref b5), .unset, .unset, .unset, .unset, .unset, .unset] [(.int (3 : Int32)), (.int p1)])) _
    refine XS.iand X6.here hx rfl (hb hby at_11) rfl ?_
    show Steps p.tables e below (T6.setTop (mkF m 12 #[.val (.int p1), .val (.int p2), .val (.int p3), .val (.int p4), .val (.ref b5), .unset, .unset, .unset, .unset, .unset, .unset] [(.int (p1 &&& (3 : Int32)))])) _
    refine XS.istore X6.here hx rfl (hb hby at_12) rfl (l' := #[.val (.int p1), .val (.int p2), .val (.int p3), .val (.int p4), .val (.ref b5), .val (.int (p1 &&& (3 : Int32))), .unset, .unset, .unset, .unset, .unset]) rfl ?_
    show Steps p.tables e below (T6.setTop (mkF m 14 #[.val (.int p1), .val (.int p2), .val (.int p3), .val (.int p4), .val (.ref b5), .val (.int (p1 &&& (3 : Int32))), .unset, .unset, .unset, .unset, .unset] [])) _
    refine XS.iload X6.here hx rfl (hb hby at_14) rfl ?_
    show Steps p.tables e below (T6.setTop (mkF m 16 #[.val (.int p1), .val (.int p2), .val (.int p3), .val (.int p4), .val (.ref b5), .val (.int (p1 &&& (3 : Int32))), .unset, .unset, .unset, .unset, .unset] [(.int (p1 &&& (3 : Int32)))])) _
    refine XS.iconst X6.here hx rfl (hb hby at_16) ?_
    show Steps p.tables e below (T6.setTop (mkF m 17 #[.val (.int p1), .val (.int p2), .val (.int p3), .val (.int p4), .val (.ref b5), .val (.int (p1 &&& (3 : Int32))), .unset, .unset, .unset, .unset, .unset] [(.int (1 : Int32)), (.int (p1 &&& (3 : Int32)))])) _
    refine XS.icmpNo X6.here hx rfl (hb hby at_17) rfl (flt hc17).1 ?_
    show Steps p.tables e below (T6.setTop (mkF m 20 #[.val (.int p1), .val (.int p2), .val (.int p3), .val (.int p4), .val (.ref b5), .val (.int (p1 &&& (3 : Int32))), .unset, .unset, .unset, .unset, .unset] [])) _
    refine XS.aload X6.here hx rfl (hb hby at_20) rfl rfl ?_
    show Steps p.tables e below (T6.setTop (mkF m 22 #[.val (.int p1), .val (.int p2), .val (.int p3), .val (.int p4), .val (.ref b5), .val (.int (p1 &&& (3 : Int32))), .unset, .unset, .unset, .unset, .unset] [(.ref b5)])) _
    refine XS.iloadN X6.here hx rfl (hb hby at_22) rfl ?_
    show Steps p.tables e below (T6.setTop (mkF m 23 #[.val (.int p1), .val (.int p2), .val (.int p3), .val (.int p4), .val (.ref b5), .val (.int (p1 &&& (3 : Int32))), .unset, .unset, .unset, .unset, .unset] [(.int p2), (.ref b5)])) _
    refine st7.trans ?_
    show Steps p.tables e below (T7.setTop (mkF m 26 #[.val (.int p1), .val (.int p2), .val (.int p3), .val (.int p4), .val (.ref b5), .val (.int (p1 &&& (3 : Int32))), .unset, .unset, .unset, .unset, .unset] [])) _
    refine XS.iload X7.here hx rfl (hb hby at_26) rfl ?_
    show Steps p.tables e below (T7.setTop (mkF m 28 #[.val (.int p1), .val (.int p2), .val (.int p3), .val (.int p4), .val (.ref b5), .val (.int (p1 &&& (3 : Int32))), .unset, .unset, .unset, .unset, .unset] [(.int (p1 &&& (3 : Int32)))])) _
    refine XS.iconst X7.here hx rfl (hb hby at_28) ?_
    show Steps p.tables e below (T7.setTop (mkF m 29 #[.val (.int p1), .val (.int p2), .val (.int p3), .val (.int p4), .val (.ref b5), .val (.int (p1 &&& (3 : Int32))), .unset, .unset, .unset, .unset, .unset] [(.int (2 : Int32)), (.int (p1 &&& (3 : Int32)))])) _
    refine XS.icmpNo X7.here hx rfl (hb hby at_29) rfl (flt hc29).1 ?_
    show Steps p.tables e below (T7.setTop (mkF m 32 #[.val (.int p1), .val (.int p2), .val (.int p3), .val (.int p4), .val (.ref b5), .val (.int (p1 &&& (3 : Int32))), .unset, .unset, .unset, .unset, .unset] [])) _
    refine XS.aload X7.here hx rfl (hb hby at_32) rfl rfl ?_
    show Steps p.tables e below (T7.setTop (mkF m 34 #[.val (.int p1), .val (.int p2), .val (.int p3), .val (.int p4), .val (.ref b5), .val (.int (p1 &&& (3 : Int32))), .unset, .unset, .unset, .unset, .unset] [(.ref b5)])) _
    refine XS.iloadN X7.here hx rfl (hb hby at_34) rfl ?_
    show Steps p.tables e below (T7.setTop (mkF m 35 #[.val (.int p1), .val (.int p2), .val (.int p3), .val (.int p4), .val (.ref b5), .val (.int (p1 &&& (3 : Int32))), .unset, .unset, .unset, .unset, .unset] [(.int p3), (.ref b5)])) _
    refine st8.trans ?_
    show Steps p.tables e below (T8.setTop (mkF m 38 #[.val (.int p1), .val (.int p2), .val (.int p3), .val (.int p4), .val (.ref b5), .val (.int (p1 &&& (3 : Int32))), .unset, .unset, .unset, .unset, .unset] [])) _
    refine XS.iload X8.here hx rfl (hb hby at_38) rfl ?_
    show Steps p.tables e below (T8.setTop (mkF m 40 #[.val (.int p1), .val (.int p2), .val (.int p3), .val (.int p4), .val (.ref b5), .val (.int (p1 &&& (3 : Int32))), .unset, .unset, .unset, .unset, .unset] [(.int (p1 &&& (3 : Int32)))])) _
    refine XS.iconst X8.here hx rfl (hb hby at_40) ?_
    show Steps p.tables e below (T8.setTop (mkF m 41 #[.val (.int p1), .val (.int p2), .val (.int p3), .val (.int p4), .val (.ref b5), .val (.int (p1 &&& (3 : Int32))), .unset, .unset, .unset, .unset, .unset] [(.int (3 : Int32)), (.int (p1 &&& (3 : Int32)))])) _
    refine XS.icmpNo X8.here hx rfl (hb hby at_41) rfl (flt hc41).1 ?_
    show Steps p.tables e below (T8.setTop (mkF m 44 #[.val (.int p1), .val (.int p2), .val (.int p3), .val (.int p4), .val (.ref b5), .val (.int (p1 &&& (3 : Int32))), .unset, .unset, .unset, .unset, .unset] [])) _
    refine XS.aload X8.here hx rfl (hb hby at_44) rfl rfl ?_
    show Steps p.tables e below (T8.setTop (mkF m 46 #[.val (.int p1), .val (.int p2), .val (.int p3), .val (.int p4), .val (.ref b5), .val (.int (p1 &&& (3 : Int32))), .unset, .unset, .unset, .unset, .unset] [(.ref b5)])) _
    refine XS.iloadN X8.here hx rfl (hb hby at_46) rfl ?_
    show Steps p.tables e below (T8.setTop (mkF m 47 #[.val (.int p1), .val (.int p2), .val (.int p3), .val (.int p4), .val (.ref b5), .val (.int (p1 &&& (3 : Int32))), .unset, .unset, .unset, .unset, .unset] [(.int p4), (.ref b5)])) _
    refine st9.trans ?_
    show Steps p.tables e below (T9.setTop (mkF m 50 #[.val (.int p1), .val (.int p2), .val (.int p3), .val (.int p4), .val (.ref b5), .val (.int (p1 &&& (3 : Int32))), .unset, .unset, .unset, .unset, .unset] [])) _
    refine XS.aload X9.here hx rfl (hb hby at_50) rfl rfl ?_
    show Steps p.tables e below (T9.setTop (mkF m 52 #[.val (.int p1), .val (.int p2), .val (.int p3), .val (.int p4), .val (.ref b5), .val (.int (p1 &&& (3 : Int32))), .unset, .unset, .unset, .unset, .unset] [(.ref b5)])) _
    refine st10.trans ?_
    show Steps p.tables e below (T10.setTop (mkF m 55 #[.val (.int p1), .val (.int p2), .val (.int p3), .val (.int p4), .val (.ref b5), .val (.int (p1 &&& (3 : Int32))), .unset, .unset, .unset, .unset, .unset] [(.ref r10)])) _
    refine XS.astore X10.here hx rfl (hb hby at_55) rfl rfl (l' := #[.val (.int p1), .val (.int p2), .val (.int p3), .val (.int p4), .val (.ref b5), .val (.int (p1 &&& (3 : Int32))), .val (.ref r10), .unset, .unset, .unset, .unset]) rfl ?_
    show Steps p.tables e below (T10.setTop (mkF m 57 #[.val (.int p1), .val (.int p2), .val (.int p3), .val (.int p4), .val (.ref b5), .val (.int (p1 &&& (3 : Int32))), .val (.ref r10), .unset, .unset, .unset, .unset] [])) _
    refine XS.iload X10.here hx rfl (hb hby at_57) rfl ?_
    show Steps p.tables e below (T10.setTop (mkF m 59 #[.val (.int p1), .val (.int p2), .val (.int p3), .val (.int p4), .val (.ref b5), .val (.int (p1 &&& (3 : Int32))), .val (.ref r10), .unset, .unset, .unset, .unset] [(.int (p1 &&& (3 : Int32)))])) _
    refine XS.ifYes X10.here hx rfl (pc0 := 59) (pc' := 66) rfl (hb hby at_59) rfl ((if0 _ _).trans (feq hc59).2) (by decide) (by decide) ?_
    show Steps p.tables e below (T10.setTop (mkF m 66 #[.val (.int p1), .val (.int p2), .val (.int p3), .val (.int p4), .val (.ref b5), .val (.int (p1 &&& (3 : Int32))), .val (.ref r10), .unset, .unset, .unset, .unset] [])) _
    refine XS.iload X10.here hx rfl (hb hby at_66) rfl ?_
    show Steps p.tables e below (T10.setTop (mkF m 68 #[.val (.int p1), .val (.int p2), .val (.int p3), .val (.int p4), .val (.ref b5), .val (.int (p1 &&& (3 : Int32))), .val (.ref r10), .unset, .unset, .unset, .unset] [(.int (p1 &&& (3 : Int32)))])) _
    refine XS.iconst X10.here hx rfl (hb hby at_68) ?_
    show Steps p.tables e below (T10.setTop (mkF m 69 #[.val (.int p1), .val (.int p2), .val (.int p3), .val (.int p4), .val (.ref b5), .val (.int (p1 &&& (3 : Int32))), .val (.ref r10), .unset, .unset, .unset, .unset] [(.int (1 : Int32)), (.int (p1 &&& (3 : Int32)))])) _
    refine XS.icmpYes X10.here hx rfl (pc0 := 69) (pc' := 76) rfl (hb hby at_69) rfl (feq hc69).2 (by decide) (by decide) ?_
    show Steps p.tables e below (T10.setTop (mkF m 76 #[.val (.int p1), .val (.int p2), .val (.int p3), .val (.int p4), .val (.ref b5), .val (.int (p1 &&& (3 : Int32))), .val (.ref r10), .unset, .unset, .unset, .unset] [])) _
    refine XS.iload X10.here hx rfl (hb hby at_76) rfl ?_
    show Steps p.tables e below (T10.setTop (mkF m 78 #[.val (.int p1), .val (.int p2), .val (.int p3), .val (.int p4), .val (.ref b5), .val (.int (p1 &&& (3 : Int32))), .val (.ref r10), .unset, .unset, .unset, .unset] [(.int (p1 &&& (3 : Int32)))])) _
    refine XS.iconst X10.here hx rfl (hb hby at_78) ?_
    show Steps p.tables e below (T10.setTop (mkF m 79 #[.val (.int p1), .val (.int p2), .val (.int p3), .val (.int p4), .val (.ref b5), .val (.int (p1 &&& (3 : Int32))), .val (.ref r10), .unset, .unset, .unset, .unset] [(.int (2 : Int32)), (.int (p1 &&& (3 : Int32)))])) _
    refine XS.icmpYes X10.here hx rfl (pc0 := 79) (pc' := 86) rfl (hb hby at_79) rfl (feq hc79).2 (by decide) (by decide) ?_
    show Steps p.tables e below (T10.setTop (mkF m 86 #[.val (.int p1), .val (.int p2), .val (.int p3), .val (.int p4), .val (.ref b5), .val (.int (p1 &&& (3 : Int32))), .val (.ref r10), .unset, .unset, .unset, .unset] [])) _
    refine XS.bipush X10.here hx rfl (hb hby at_86) ?_
    show Steps p.tables e below (T10.setTop (mkF m 88 #[.val (.int p1), .val (.int p2), .val (.int p3), .val (.int p4), .val (.ref b5), .val (.int (p1 &&& (3 : Int32))), .val (.ref r10), .unset, .unset, .unset, .unset] [(.int (9 : Int32))])) _
    refine XS.istore X10.here hx rfl (hb hby at_88) rfl (l' := #[.val (.int p1), .val (.int p2), .val (.int p3), .val (.int p4), .val (.ref b5), .val (.int (p1 &&& (3 : Int32))), .val (.ref r10), .val (.int (9 : Int32)), .unset, .unset, .unset]) rfl ?_
    show Steps p.tables e below (T10.setTop (mkF m 90 #[.val (.int p1), .val (.int p2), .val (.int p3), .val (.int p4), .val (.ref b5), .val (.int (p1 &&& (3 : Int32))), .val (.ref r10), .val (.int (9 : Int32)), .unset, .unset, .unset] [])) _
    refine XS.aload X10.here hx rfl (hb hby at_90) rfl rfl ?_
    show Steps p.tables e below (T10.setTop (mkF m 92 #[.val (.int p1), .val (.int p2), .val (.int p3), .val (.int p4), .val (.ref b5), .val (.int (p1 &&& (3 : Int32))), .val (.ref r10), .val (.int (9 : Int32)), .unset, .unset, .unset] [(.ref r10)])) _
    refine own_len X10 hx hZ rfl V10 (g := (mkF m 92 #[.val (.int p1), .val (.int p2), .val (.int p3), .val (.int p4), .val (.ref b5), .val (.int (p1 &&& (3 : Int32))), .val (.ref r10), .val (.int (9 : Int32)), .unset, .unset, .unset] [(.ref r10)])) rfl rfl (hb hby at_92) _ ?_
    show Steps p.tables e below (T10.setTop (mkF m 93 #[.val (.int p1), .val (.int p2), .val (.int p3), .val (.int p4), .val (.ref b5), .val (.int (p1 &&& (3 : Int32))), .val (.ref r10), .val (.int (9 : Int32)), .unset, .unset, .unset] [(.int (9 : Int32))])) _
    refine XS.iload X10.here hx rfl (hb hby at_93) rfl ?_
    show Steps p.tables e below (T10.setTop (mkF m 95 #[.val (.int p1), .val (.int p2), .val (.int p3), .val (.int p4), .val (.ref b5), .val (.int (p1 &&& (3 : Int32))), .val (.ref r10), .val (.int (9 : Int32)), .unset, .unset, .unset] [(.int (9 : Int32)), (.int (9 : Int32))])) _
    refine XS.icmpYes X10.here hx rfl (pc0 := 95) (pc' := 100) rfl (hb hby at_95) rfl (teq (rfl : (9 : Int32) = (9 : Int32))).1 (by decide) (by decide) ?_
    show Steps p.tables e below (T10.setTop (mkF m 100 #[.val (.int p1), .val (.int p2), .val (.int p3), .val (.int p4), .val (.ref b5), .val (.int (p1 &&& (3 : Int32))), .val (.ref r10), .val (.int (9 : Int32)), .unset, .unset, .unset] [])) _
    refine XS.iload X10.here hx rfl (hb hby at_100) rfl ?_
    show Steps p.tables e below (T10.setTop (mkF m 102 #[.val (.int p1), .val (.int p2), .val (.int p3), .val (.int p4), .val (.ref b5), .val (.int (p1 &&& (3 : Int32))), .val (.ref r10), .val (.int (9 : Int32)), .unset, .unset, .unset] [(.int (p1 &&& (3 : Int32)))])) _
    refine XS.iconst X10.here hx rfl (hb hby at_102) ?_
    show Steps p.tables e below (T10.setTop (mkF m 103 #[.val (.int p1), .val (.int p2), .val (.int p3), .val (.int p4), .val (.ref b5), .val (.int (p1 &&& (3 : Int32))), .val (.ref r10), .val (.int (9 : Int32)), .unset, .unset, .unset] [(.int (1 : Int32)), (.int (p1 &&& (3 : Int32)))])) _
    refine XS.icmpNo X10.here hx rfl (hb hby at_103) rfl (flt hc103).1 ?_
    show Steps p.tables e below (T10.setTop (mkF m 106 #[.val (.int p1), .val (.int p2), .val (.int p3), .val (.int p4), .val (.ref b5), .val (.int (p1 &&& (3 : Int32))), .val (.ref r10), .val (.int (9 : Int32)), .unset, .unset, .unset] [])) _
    refine XS.aload X10.here hx rfl (hb hby at_106) rfl rfl ?_
    show Steps p.tables e below (T10.setTop (mkF m 108 #[.val (.int p1), .val (.int p2), .val (.int p3), .val (.int p4), .val (.ref b5), .val (.int (p1 &&& (3 : Int32))), .val (.ref r10), .val (.int (9 : Int32)), .unset, .unset, .unset] [(.ref r10)])) _
    refine XS.iconst X10.here hx rfl (hb hby at_108) ?_
    show Steps p.tables e below (T10.setTop (mkF m 109 #[.val (.int p1), .val (.int p2), .val (.int p3), .val (.int p4), .val (.ref b5), .val (.int (p1 &&& (3 : Int32))), .val (.ref r10), .val (.int (9 : Int32)), .unset, .unset, .unset] [(.int (0 : Int32)), (.ref r10)])) _
    refine XS.iloadN X10.here hx rfl (hb hby at_109) rfl ?_
    show Steps p.tables e below (T10.setTop (mkF m 110 #[.val (.int p1), .val (.int p2), .val (.int p3), .val (.int p4), .val (.ref b5), .val (.int (p1 &&& (3 : Int32))), .val (.ref r10), .val (.int (9 : Int32)), .unset, .unset, .unset] [(.int p2), (.int (0 : Int32)), (.ref r10)])) _
    refine st11 _ ?_
    show Steps p.tables e below (T11.setTop (mkF m 113 #[.val (.int p1), .val (.int p2), .val (.int p3), .val (.int p4), .val (.ref b5), .val (.int (p1 &&& (3 : Int32))), .val (.ref r10), .val (.int (9 : Int32)), .unset, .unset, .unset] [(.int (1 : Int32))])) _
    refine XS.ifYes X11.here hx rfl (pc0 := 113) (pc' := 118) rfl (hb hby at_113) rfl ((if0 _ _).trans (feq hc113).2) (by decide) (by decide) ?_
    show Steps p.tables e below (T11.setTop (mkF m 118 #[.val (.int p1), .val (.int p2), .val (.int p3), .val (.int p4), .val (.ref b5), .val (.int (p1 &&& (3 : Int32))), .val (.ref r10), .val (.int (9 : Int32)), .unset, .unset, .unset] [])) _
    refine XS.iload X11.here hx rfl (hb hby at_118) rfl ?_
    show Steps p.tables e below (T11.setTop (mkF m 120 #[.val (.int p1), .val (.int p2), .val (.int p3), .val (.int p4), .val (.ref b5), .val (.int (p1 &&& (3 : Int32))), .val (.ref r10), .val (.int (9 : Int32)), .unset, .unset, .unset] [(.int (p1 &&& (3 : Int32)))])) _
    refine XS.iconst X11.here hx rfl (hb hby at_120) ?_
    show Steps p.tables e below (T11.setTop (mkF m 121 #[.val (.int p1), .val (.int p2), .val (.int p3), .val (.int p4), .val (.ref b5), .val (.int (p1 &&& (3 : Int32))), .val (.ref r10), .val (.int (9 : Int32)), .unset, .unset, .unset] [(.int (2 : Int32)), (.int (p1 &&& (3 : Int32)))])) _
    refine XS.icmpNo X11.here hx rfl (hb hby at_121) rfl (flt hc121).1 ?_
    show Steps p.tables e below (T11.setTop (mkF m 124 #[.val (.int p1), .val (.int p2), .val (.int p3), .val (.int p4), .val (.ref b5), .val (.int (p1 &&& (3 : Int32))), .val (.ref r10), .val (.int (9 : Int32)), .unset, .unset, .unset] [])) _
    refine XS.aload X11.here hx rfl (hb hby at_124) rfl rfl ?_
    show Steps p.tables e below (T11.setTop (mkF m 126 #[.val (.int p1), .val (.int p2), .val (.int p3), .val (.int p4), .val (.ref b5), .val (.int (p1 &&& (3 : Int32))), .val (.ref r10), .val (.int (9 : Int32)), .unset, .unset, .unset] [(.ref r10)])) _
    refine XS.iconst X11.here hx rfl (hb hby at_126) ?_
    show Steps p.tables e below (T11.setTop (mkF m 127 #[.val (.int p1), .val (.int p2), .val (.int p3), .val (.int p4), .val (.ref b5), .val (.int (p1 &&& (3 : Int32))), .val (.ref r10), .val (.int (9 : Int32)), .unset, .unset, .unset] [(.int (4 : Int32)), (.ref r10)])) _
    refine own_ldB X11 hx hZ e11 V10 (j := (4 : Int32)) (v := (.int (by0 p3))) ⟨by decide, by decide⟩ rfl (g := (mkF m 127 #[.val (.int p1), .val (.int p2), .val (.int p3), .val (.int p4), .val (.ref b5), .val (.int (p1 &&& (3 : Int32))), .val (.ref r10), .val (.int (9 : Int32)), .unset, .unset, .unset] [(.int (4 : Int32)), (.ref r10)])) rfl rfl (hb hby at_127) _ ?_
    show Steps p.tables e below (T11.setTop (mkF m 128 #[.val (.int p1), .val (.int p2), .val (.int p3), .val (.int p4), .val (.ref b5), .val (.int (p1 &&& (3 : Int32))), .val (.ref r10), .val (.int (9 : Int32)), .unset, .unset, .unset] [(.int (by0 p3))])) _
    refine XS.iloadN X11.here hx rfl (hb hby at_128) rfl ?_
    show Steps p.tables e below (T11.setTop (mkF m 129 #[.val (.int p1), .val (.int p2), .val (.int p3), .val (.int p4), .val (.ref b5), .val (.int (p1 &&& (3 : Int32))), .val (.ref r10), .val (.int (9 : Int32)), .unset, .unset, .unset] [(.int p3), (.int (by0 p3))])) _
    refine XS.sipush X11.here hx rfl (hb hby at_129) ?_
    show Steps p.tables e below (T11.setTop (mkF m 132 #[.val (.int p1), .val (.int p2), .val (.int p3), .val (.int p4), .val (.ref b5), .val (.int (p1 &&& (3 : Int32))), .val (.ref r10), .val (.int (9 : Int32)), .unset, .unset, .unset] [(.int (255 : Int32)), (.int p3), (.int (by0 p3))])) _
    refine XS.iand X11.here hx rfl (hb hby at_132) rfl ?_
    show Steps p.tables e below (T11.setTop (mkF m 133 #[.val (.int p1), .val (.int p2), .val (.int p3), .val (.int p4), .val (.ref b5), .val (.int (p1 &&& (3 : Int32))), .val (.ref r10), .val (.int (9 : Int32)), .unset, .unset, .unset] [(.int (p3 &&& (255 : Int32))), (.int (by0 p3))])) _
    refine XS.i2b X11.here hx rfl (hb hby at_133) rfl ?_
    show Steps p.tables e below (T11.setTop (mkF m 134 #[.val (.int p1), .val (.int p2), .val (.int p3), .val (.int p4), .val (.ref b5), .val (.int (p1 &&& (3 : Int32))), .val (.ref r10), .val (.int (9 : Int32)), .unset, .unset, .unset] [(.int ((p3 &&& (255 : Int32)).toInt8.toInt32)), (.int (by0 p3))])) _
    refine XS.icmpYes X11.here hx rfl (pc0 := 134) (pc' := 139) rfl (hb hby at_134) rfl (teq hc134).1 (by decide) (by decide) ?_
    show Steps p.tables e below (T11.setTop (mkF m 139 #[.val (.int p1), .val (.int p2), .val (.int p3), .val (.int p4), .val (.ref b5), .val (.int (p1 &&& (3 : Int32))), .val (.ref r10), .val (.int (9 : Int32)), .unset, .unset, .unset] [])) _
    refine XS.iload X11.here hx rfl (hb hby at_139) rfl ?_
    show Steps p.tables e below (T11.setTop (mkF m 141 #[.val (.int p1), .val (.int p2), .val (.int p3), .val (.int p4), .val (.ref b5), .val (.int (p1 &&& (3 : Int32))), .val (.ref r10), .val (.int (9 : Int32)), .unset, .unset, .unset] [(.int (p1 &&& (3 : Int32)))])) _
    refine XS.iconst X11.here hx rfl (hb hby at_141) ?_
    show Steps p.tables e below (T11.setTop (mkF m 142 #[.val (.int p1), .val (.int p2), .val (.int p3), .val (.int p4), .val (.ref b5), .val (.int (p1 &&& (3 : Int32))), .val (.ref r10), .val (.int (9 : Int32)), .unset, .unset, .unset] [(.int (3 : Int32)), (.int (p1 &&& (3 : Int32)))])) _
    refine XS.icmpNo X11.here hx rfl (hb hby at_142) rfl (flt hc142).1 ?_
    show Steps p.tables e below (T11.setTop (mkF m 145 #[.val (.int p1), .val (.int p2), .val (.int p3), .val (.int p4), .val (.ref b5), .val (.int (p1 &&& (3 : Int32))), .val (.ref r10), .val (.int (9 : Int32)), .unset, .unset, .unset] [])) _
    refine XS.aload X11.here hx rfl (hb hby at_145) rfl rfl ?_
    show Steps p.tables e below (T11.setTop (mkF m 147 #[.val (.int p1), .val (.int p2), .val (.int p3), .val (.int p4), .val (.ref b5), .val (.int (p1 &&& (3 : Int32))), .val (.ref r10), .val (.int (9 : Int32)), .unset, .unset, .unset] [(.ref r10)])) _
    refine XS.iconst X11.here hx rfl (hb hby at_147) ?_
    show Steps p.tables e below (T11.setTop (mkF m 148 #[.val (.int p1), .val (.int p2), .val (.int p3), .val (.int p4), .val (.ref b5), .val (.int (p1 &&& (3 : Int32))), .val (.ref r10), .val (.int (9 : Int32)), .unset, .unset, .unset] [(.int (5 : Int32)), (.ref r10)])) _
    refine XS.iloadN X11.here hx rfl (hb hby at_148) rfl ?_
    show Steps p.tables e below (T11.setTop (mkF m 149 #[.val (.int p1), .val (.int p2), .val (.int p3), .val (.int p4), .val (.ref b5), .val (.int (p1 &&& (3 : Int32))), .val (.ref r10), .val (.int (9 : Int32)), .unset, .unset, .unset] [(.int p4), (.int (5 : Int32)), (.ref r10)])) _
    refine st12 _ ?_
    show Steps p.tables e below (T12.setTop (mkF m 152 #[.val (.int p1), .val (.int p2), .val (.int p3), .val (.int p4), .val (.ref b5), .val (.int (p1 &&& (3 : Int32))), .val (.ref r10), .val (.int (9 : Int32)), .unset, .unset, .unset] [(.int (1 : Int32))])) _
    refine XS.ifYes X12.here hx rfl (pc0 := 152) (pc' := 157) rfl (hb hby at_152) rfl ((if0 _ _).trans (feq hc152).2) (by decide) (by decide) ?_
    show Steps p.tables e below (T12.setTop (mkF m 157 #[.val (.int p1), .val (.int p2), .val (.int p3), .val (.int p4), .val (.ref b5), .val (.int (p1 &&& (3 : Int32))), .val (.ref r10), .val (.int (9 : Int32)), .unset, .unset, .unset] [])) _
    refine XS.iconst X12.here hx rfl (hb hby at_157) ?_
    show Steps p.tables e below (T12.setTop (mkF m 158 #[.val (.int p1), .val (.int p2), .val (.int p3), .val (.int p4), .val (.ref b5), .val (.int (p1 &&& (3 : Int32))), .val (.ref r10), .val (.int (9 : Int32)), .unset, .unset, .unset] [(.int (0 : Int32))])) _
    refine XS.istore X12.here hx rfl (hb hby at_158) rfl (l' := #[.val (.int p1), .val (.int p2), .val (.int p3), .val (.int p4), .val (.ref b5), .val (.int (p1 &&& (3 : Int32))), .val (.ref r10), .val (.int (9 : Int32)), .val (.int (0 : Int32)), .unset, .unset]) rfl ?_
    show Steps p.tables e below (T12.setTop (mkF m 160 #[.val (.int p1), .val (.int p2), .val (.int p3), .val (.int p4), .val (.ref b5), .val (.int (p1 &&& (3 : Int32))), .val (.ref r10), .val (.int (9 : Int32)), .val (.int (0 : Int32)), .unset, .unset] [])) _
    refine XS.iconst X12.here hx rfl (hb hby at_160) ?_
    show Steps p.tables e below (T12.setTop (mkF m 161 #[.val (.int p1), .val (.int p2), .val (.int p3), .val (.int p4), .val (.ref b5), .val (.int (p1 &&& (3 : Int32))), .val (.ref r10), .val (.int (9 : Int32)), .val (.int (0 : Int32)), .unset, .unset] [(.int (0 : Int32))])) _
    refine XS.istore X12.here hx rfl (hb hby at_161) rfl (l' := #[.val (.int p1), .val (.int p2), .val (.int p3), .val (.int p4), .val (.ref b5), .val (.int (p1 &&& (3 : Int32))), .val (.ref r10), .val (.int (9 : Int32)), .val (.int (0 : Int32)), .val (.int (0 : Int32)), .unset]) rfl ?_
    show Steps p.tables e below (T12.setTop (mkF m 163 #[.val (.int p1), .val (.int p2), .val (.int p3), .val (.int p4), .val (.ref b5), .val (.int (p1 &&& (3 : Int32))), .val (.ref r10), .val (.int (9 : Int32)), .val (.int (0 : Int32)), .val (.int (0 : Int32)), .unset] [])) _
    refine XS.iload X12.here hx rfl (hb hby at_163) rfl ?_
    show Steps p.tables e below (T12.setTop (mkF m 165 #[.val (.int p1), .val (.int p2), .val (.int p3), .val (.int p4), .val (.ref b5), .val (.int (p1 &&& (3 : Int32))), .val (.ref r10), .val (.int (9 : Int32)), .val (.int (0 : Int32)), .val (.int (0 : Int32)), .unset] [(.int (9 : Int32))])) _
    refine XS.ifNo X12.here hx rfl (hb hby at_165) rfl ((if0 _ _).trans (tlt hc165).2.2.2) ?_
    show Steps p.tables e below (T12.setTop (mkF m 168 #[.val (.int p1), .val (.int p2), .val (.int p3), .val (.int p4), .val (.ref b5), .val (.int (p1 &&& (3 : Int32))), .val (.ref r10), .val (.int (9 : Int32)), .val (.int (0 : Int32)), .val (.int (0 : Int32)), .unset] [])) _
    refine XS.aload X12.here hx rfl (hb hby at_168) rfl rfl ?_
    show Steps p.tables e below (T12.setTop (mkF m 170 #[.val (.int p1), .val (.int p2), .val (.int p3), .val (.int p4), .val (.ref b5), .val (.int (p1 &&& (3 : Int32))), .val (.ref r10), .val (.int (9 : Int32)), .val (.int (0 : Int32)), .val (.int (0 : Int32)), .unset] [(.ref r10)])) _
    refine XS.iconst X12.here hx rfl (hb hby at_170) ?_
    show Steps p.tables e below (T12.setTop (mkF m 171 #[.val (.int p1), .val (.int p2), .val (.int p3), .val (.int p4), .val (.ref b5), .val (.int (p1 &&& (3 : Int32))), .val (.ref r10), .val (.int (9 : Int32)), .val (.int (0 : Int32)), .val (.int (0 : Int32)), .unset] [(.int (0 : Int32)), (.ref r10)])) _
    refine own_ldB X12 hx hZ e12 V10 (j := (0 : Int32)) (v := (.int (byK p2 24))) ⟨by decide, by decide⟩ rfl (g := (mkF m 171 #[.val (.int p1), .val (.int p2), .val (.int p3), .val (.int p4), .val (.ref b5), .val (.int (p1 &&& (3 : Int32))), .val (.ref r10), .val (.int (9 : Int32)), .val (.int (0 : Int32)), .val (.int (0 : Int32)), .unset] [(.int (0 : Int32)), (.ref r10)])) rfl rfl (hb hby at_171) _ ?_
    show Steps p.tables e below (T12.setTop (mkF m 172 #[.val (.int p1), .val (.int p2), .val (.int p3), .val (.int p4), .val (.ref b5), .val (.int (p1 &&& (3 : Int32))), .val (.ref r10), .val (.int (9 : Int32)), .val (.int (0 : Int32)), .val (.int (0 : Int32)), .unset] [(.int (byK p2 24))])) _
    refine XS.istore X12.here hx rfl (hb hby at_172) rfl (l' := #[.val (.int p1), .val (.int p2), .val (.int p3), .val (.int p4), .val (.ref b5), .val (.int (p1 &&& (3 : Int32))), .val (.ref r10), .val (.int (9 : Int32)), .val (.int (byK p2 24)), .val (.int (0 : Int32)), .unset]) rfl ?_
    show Steps p.tables e below (T12.setTop (mkF m 174 #[.val (.int p1), .val (.int p2), .val (.int p3), .val (.int p4), .val (.ref b5), .val (.int (p1 &&& (3 : Int32))), .val (.ref r10), .val (.int (9 : Int32)), .val (.int (byK p2 24)), .val (.int (0 : Int32)), .unset] [])) _
    refine XS.aload X12.here hx rfl (hb hby at_174) rfl rfl ?_
    show Steps p.tables e below (T12.setTop (mkF m 176 #[.val (.int p1), .val (.int p2), .val (.int p3), .val (.int p4), .val (.ref b5), .val (.int (p1 &&& (3 : Int32))), .val (.ref r10), .val (.int (9 : Int32)), .val (.int (byK p2 24)), .val (.int (0 : Int32)), .unset] [(.ref r10)])) _
    refine XS.iload X12.here hx rfl (hb hby at_176) rfl ?_
    show Steps p.tables e below (T12.setTop (mkF m 178 #[.val (.int p1), .val (.int p2), .val (.int p3), .val (.int p4), .val (.ref b5), .val (.int (p1 &&& (3 : Int32))), .val (.ref r10), .val (.int (9 : Int32)), .val (.int (byK p2 24)), .val (.int (0 : Int32)), .unset] [(.int (9 : Int32)), (.ref r10)])) _
    refine XS.iconst X12.here hx rfl (hb hby at_178) ?_
    show Steps p.tables e below (T12.setTop (mkF m 179 #[.val (.int p1), .val (.int p2), .val (.int p3), .val (.int p4), .val (.ref b5), .val (.int (p1 &&& (3 : Int32))), .val (.ref r10), .val (.int (9 : Int32)), .val (.int (byK p2 24)), .val (.int (0 : Int32)), .unset] [(.int (1 : Int32)), (.int (9 : Int32)), (.ref r10)])) _
    refine XS.isub X12.here hx rfl (hb hby at_179) rfl ?_
    show Steps p.tables e below (T12.setTop (mkF m 180 #[.val (.int p1), .val (.int p2), .val (.int p3), .val (.int p4), .val (.ref b5), .val (.int (p1 &&& (3 : Int32))), .val (.ref r10), .val (.int (9 : Int32)), .val (.int (byK p2 24)), .val (.int (0 : Int32)), .unset] [(.int ((9 : Int32) - (1 : Int32))), (.ref r10)])) _
    refine own_ldB X12 hx hZ e12 V10 (j := ((9 : Int32) - (1 : Int32))) (v := (.int (by0 p4))) ⟨by decide, by decide⟩ rfl (g := (mkF m 180 #[.val (.int p1), .val (.int p2), .val (.int p3), .val (.int p4), .val (.ref b5), .val (.int (p1 &&& (3 : Int32))), .val (.ref r10), .val (.int (9 : Int32)), .val (.int (byK p2 24)), .val (.int (0 : Int32)), .unset] [(.int ((9 : Int32) - (1 : Int32))), (.ref r10)])) rfl rfl (hb hby at_180) _ ?_
    show Steps p.tables e below (T12.setTop (mkF m 181 #[.val (.int p1), .val (.int p2), .val (.int p3), .val (.int p4), .val (.ref b5), .val (.int (p1 &&& (3 : Int32))), .val (.ref r10), .val (.int (9 : Int32)), .val (.int (byK p2 24)), .val (.int (0 : Int32)), .unset] [(.int (by0 p4))])) _
    refine XS.istore X12.here hx rfl (hb hby at_181) rfl (l' := #[.val (.int p1), .val (.int p2), .val (.int p3), .val (.int p4), .val (.ref b5), .val (.int (p1 &&& (3 : Int32))), .val (.ref r10), .val (.int (9 : Int32)), .val (.int (byK p2 24)), .val (.int (by0 p4)), .unset]) rfl ?_
    show Steps p.tables e below (T12.setTop (mkF m 183 #[.val (.int p1), .val (.int p2), .val (.int p3), .val (.int p4), .val (.ref b5), .val (.int (p1 &&& (3 : Int32))), .val (.ref r10), .val (.int (9 : Int32)), .val (.int (byK p2 24)), .val (.int (by0 p4)), .unset] [])) _
    refine XS.aload X12.here hx rfl (hb hby at_183) rfl rfl ?_
    show Steps p.tables e below (T12.setTop (mkF m 185 #[.val (.int p1), .val (.int p2), .val (.int p3), .val (.int p4), .val (.ref b5), .val (.int (p1 &&& (3 : Int32))), .val (.ref r10), .val (.int (9 : Int32)), .val (.int (byK p2 24)), .val (.int (by0 p4)), .unset] [(.ref r10)])) _
    refine XS.iconst X12.here hx rfl (hb hby at_185) ?_
    show Steps p.tables e below (T12.setTop (mkF m 186 #[.val (.int p1), .val (.int p2), .val (.int p3), .val (.int p4), .val (.ref b5), .val (.int (p1 &&& (3 : Int32))), .val (.ref r10), .val (.int (9 : Int32)), .val (.int (byK p2 24)), .val (.int (by0 p4)), .unset] [(.int (0 : Int32)), (.ref r10)])) _
    refine XS.aload X12.here hx rfl (hb hby at_186) rfl rfl ?_
    show Steps p.tables e below (T12.setTop (mkF m 188 #[.val (.int p1), .val (.int p2), .val (.int p3), .val (.int p4), .val (.ref b5), .val (.int (p1 &&& (3 : Int32))), .val (.ref r10), .val (.int (9 : Int32)), .val (.int (byK p2 24)), .val (.int (by0 p4)), .unset] [(.ref r10), (.int (0 : Int32)), (.ref r10)])) _
    refine XS.iconst X12.here hx rfl (hb hby at_188) ?_
    show Steps p.tables e below (T12.setTop (mkF m 189 #[.val (.int p1), .val (.int p2), .val (.int p3), .val (.int p4), .val (.ref b5), .val (.int (p1 &&& (3 : Int32))), .val (.ref r10), .val (.int (9 : Int32)), .val (.int (byK p2 24)), .val (.int (by0 p4)), .unset] [(.int (0 : Int32)), (.ref r10), (.int (0 : Int32)), (.ref r10)])) _
    refine own_ldB X12 hx hZ e12 V10 (j := (0 : Int32)) (v := (.int (byK p2 24))) ⟨by decide, by decide⟩ rfl (g := (mkF m 189 #[.val (.int p1), .val (.int p2), .val (.int p3), .val (.int p4), .val (.ref b5), .val (.int (p1 &&& (3 : Int32))), .val (.ref r10), .val (.int (9 : Int32)), .val (.int (byK p2 24)), .val (.int (by0 p4)), .unset] [(.int (0 : Int32)), (.ref r10), (.int (0 : Int32)), (.ref r10)])) rfl rfl (hb hby at_189) _ ?_
    show Steps p.tables e below (T12.setTop (mkF m 190 #[.val (.int p1), .val (.int p2), .val (.int p3), .val (.int p4), .val (.ref b5), .val (.int (p1 &&& (3 : Int32))), .val (.ref r10), .val (.int (9 : Int32)), .val (.int (byK p2 24)), .val (.int (by0 p4)), .unset] [(.int (byK p2 24)), (.int (0 : Int32)), (.ref r10)])) _
    refine XS.iconst X12.here hx rfl (hb hby at_190) ?_
    show Steps p.tables e below (T12.setTop (mkF m 191 #[.val (.int p1), .val (.int p2), .val (.int p3), .val (.int p4), .val (.ref b5), .val (.int (p1 &&& (3 : Int32))), .val (.ref r10), .val (.int (9 : Int32)), .val (.int (byK p2 24)), .val (.int (by0 p4)), .unset] [(.int (1 : Int32)), (.int (byK p2 24)), (.int (0 : Int32)), (.ref r10)])) _
    refine XS.ixor X12.here hx rfl (hb hby at_191) rfl ?_
    show Steps p.tables e below (T12.setTop (mkF m 192 #[.val (.int p1), .val (.int p2), .val (.int p3), .val (.int p4), .val (.ref b5), .val (.int (p1 &&& (3 : Int32))), .val (.ref r10), .val (.int (9 : Int32)), .val (.int (byK p2 24)), .val (.int (by0 p4)), .unset] [(.int ((byK p2 24) ^^^ (1 : Int32))), (.int (0 : Int32)), (.ref r10)])) _
    refine XS.i2b X12.here hx rfl (hb hby at_192) rfl ?_
    show Steps p.tables e below (T12.setTop (mkF m 193 #[.val (.int p1), .val (.int p2), .val (.int p3), .val (.int p4), .val (.ref b5), .val (.int (p1 &&& (3 : Int32))), .val (.ref r10), .val (.int (9 : Int32)), .val (.int (byK p2 24)), .val (.int (by0 p4)), .unset] [(.int (((byK p2 24) ^^^ (1 : Int32)).toInt8.toInt32)), (.int (0 : Int32)), (.ref r10)])) _
    refine st13 _ ?_
    show Steps p.tables e below (T13.setTop (mkF m 194 #[.val (.int p1), .val (.int p2), .val (.int p3), .val (.int p4), .val (.ref b5), .val (.int (p1 &&& (3 : Int32))), .val (.ref r10), .val (.int (9 : Int32)), .val (.int (byK p2 24)), .val (.int (by0 p4)), .unset] [])) _
    refine XS.aload X13.here hx rfl (hb hby at_194) rfl rfl ?_
    show Steps p.tables e below (T13.setTop (mkF m 196 #[.val (.int p1), .val (.int p2), .val (.int p3), .val (.int p4), .val (.ref b5), .val (.int (p1 &&& (3 : Int32))), .val (.ref r10), .val (.int (9 : Int32)), .val (.int (byK p2 24)), .val (.int (by0 p4)), .unset] [(.ref b5)])) _
    refine XS.iloadN X13.here hx rfl (hb hby at_196) rfl ?_
    show Steps p.tables e below (T13.setTop (mkF m 197 #[.val (.int p1), .val (.int p2), .val (.int p3), .val (.int p4), .val (.ref b5), .val (.int (p1 &&& (3 : Int32))), .val (.ref r10), .val (.int (9 : Int32)), .val (.int (byK p2 24)), .val (.int (by0 p4)), .unset] [(.int p4), (.ref b5)])) _
    refine st14.trans ?_
    show Steps p.tables e below (T14.setTop (mkF m 200 #[.val (.int p1), .val (.int p2), .val (.int p3), .val (.int p4), .val (.ref b5), .val (.int (p1 &&& (3 : Int32))), .val (.ref r10), .val (.int (9 : Int32)), .val (.int (byK p2 24)), .val (.int (by0 p4)), .unset] [])) _
    refine XS.aload X14.here hx rfl (hb hby at_200) rfl rfl ?_
    show Steps p.tables e below (T14.setTop (mkF m 202 #[.val (.int p1), .val (.int p2), .val (.int p3), .val (.int p4), .val (.ref b5), .val (.int (p1 &&& (3 : Int32))), .val (.ref r10), .val (.int (9 : Int32)), .val (.int (byK p2 24)), .val (.int (by0 p4)), .unset] [(.ref b5)])) _
    refine st15.trans ?_
    show Steps p.tables e below (T15.setTop (mkF m 205 #[.val (.int p1), .val (.int p2), .val (.int p3), .val (.int p4), .val (.ref b5), .val (.int (p1 &&& (3 : Int32))), .val (.ref r10), .val (.int (9 : Int32)), .val (.int (byK p2 24)), .val (.int (by0 p4)), .unset] [(.ref r15)])) _
    refine XS.astore X15.here hx rfl (hb hby at_205) rfl rfl (l' := #[.val (.int p1), .val (.int p2), .val (.int p3), .val (.int p4), .val (.ref b5), .val (.int (p1 &&& (3 : Int32))), .val (.ref r10), .val (.int (9 : Int32)), .val (.int (byK p2 24)), .val (.int (by0 p4)), .val (.ref r15)]) rfl ?_
    show Steps p.tables e below (T15.setTop (mkF m 207 #[.val (.int p1), .val (.int p2), .val (.int p3), .val (.int p4), .val (.ref b5), .val (.int (p1 &&& (3 : Int32))), .val (.ref r10), .val (.int (9 : Int32)), .val (.int (byK p2 24)), .val (.int (by0 p4)), .val (.ref r15)] [])) _
    refine XS.aload X15.here hx rfl (hb hby at_207) rfl rfl ?_
    show Steps p.tables e below (T15.setTop (mkF m 209 #[.val (.int p1), .val (.int p2), .val (.int p3), .val (.int p4), .val (.ref b5), .val (.int (p1 &&& (3 : Int32))), .val (.ref r10), .val (.int (9 : Int32)), .val (.int (byK p2 24)), .val (.int (by0 p4)), .val (.ref r15)] [(.ref r15)])) _
    refine own_len X15 hx hZ rfl V15 (g := (mkF m 209 #[.val (.int p1), .val (.int p2), .val (.int p3), .val (.int p4), .val (.ref b5), .val (.int (p1 &&& (3 : Int32))), .val (.ref r10), .val (.int (9 : Int32)), .val (.int (byK p2 24)), .val (.int (by0 p4)), .val (.ref r15)] [(.ref r15)])) rfl rfl (hb hby at_209) _ ?_
    show Steps p.tables e below (T15.setTop (mkF m 210 #[.val (.int p1), .val (.int p2), .val (.int p3), .val (.int p4), .val (.ref b5), .val (.int (p1 &&& (3 : Int32))), .val (.ref r10), .val (.int (9 : Int32)), .val (.int (byK p2 24)), .val (.int (by0 p4)), .val (.ref r15)] [(.int (10 : Int32))])) _
    refine XS.iload X15.here hx rfl (hb hby at_210) rfl ?_
    show Steps p.tables e below (T15.setTop (mkF m 212 #[.val (.int p1), .val (.int p2), .val (.int p3), .val (.int p4), .val (.ref b5), .val (.int (p1 &&& (3 : Int32))), .val (.ref r10), .val (.int (9 : Int32)), .val (.int (byK p2 24)), .val (.int (by0 p4)), .val (.ref r15)] [(.int (9 : Int32)), (.int (10 : Int32))])) _
    refine XS.iconst X15.here hx rfl (hb hby at_212) ?_
    show Steps p.tables e below (T15.setTop (mkF m 213 #[.val (.int p1), .val (.int p2), .val (.int p3), .val (.int p4), .val (.ref b5), .val (.int (p1 &&& (3 : Int32))), .val (.ref r10), .val (.int (9 : Int32)), .val (.int (byK p2 24)), .val (.int (by0 p4)), .val (.ref r15)] [(.int (1 : Int32)), (.int (9 : Int32)), (.int (10 : Int32))])) _
    refine XS.iadd X15.here hx rfl (hb hby at_213) rfl ?_
    show Steps p.tables e below (T15.setTop (mkF m 214 #[.val (.int p1), .val (.int p2), .val (.int p3), .val (.int p4), .val (.ref b5), .val (.int (p1 &&& (3 : Int32))), .val (.ref r10), .val (.int (9 : Int32)), .val (.int (byK p2 24)), .val (.int (by0 p4)), .val (.ref r15)] [(.int ((9 : Int32) + (1 : Int32))), (.int (10 : Int32))])) _
    refine XS.icmpYes X15.here hx rfl (pc0 := 214) (pc' := 219) rfl (hb hby at_214) rfl (teq hc214).1 (by decide) (by decide) ?_
    show Steps p.tables e below (T15.setTop (mkF m 219 #[.val (.int p1), .val (.int p2), .val (.int p3), .val (.int p4), .val (.ref b5), .val (.int (p1 &&& (3 : Int32))), .val (.ref r10), .val (.int (9 : Int32)), .val (.int (byK p2 24)), .val (.int (by0 p4)), .val (.ref r15)] [])) _
    refine XS.iload X15.here hx rfl (hb hby at_219) rfl ?_
    show Steps p.tables e below (T15.setTop (mkF m 221 #[.val (.int p1), .val (.int p2), .val (.int p3), .val (.int p4), .val (.ref b5), .val (.int (p1 &&& (3 : Int32))), .val (.ref r10), .val (.int (9 : Int32)), .val (.int (byK p2 24)), .val (.int (by0 p4)), .val (.ref r15)] [(.int (9 : Int32))])) _
    refine XS.ifNo X15.here hx rfl (hb hby at_221) rfl ((if0 _ _).trans (tlt hc221).2.2.2) ?_
    show Steps p.tables e below (T15.setTop (mkF m 224 #[.val (.int p1), .val (.int p2), .val (.int p3), .val (.int p4), .val (.ref b5), .val (.int (p1 &&& (3 : Int32))), .val (.ref r10), .val (.int (9 : Int32)), .val (.int (byK p2 24)), .val (.int (by0 p4)), .val (.ref r15)] [])) _
    refine XS.aload X15.here hx rfl (hb hby at_224) rfl rfl ?_
    show Steps p.tables e below (T15.setTop (mkF m 226 #[.val (.int p1), .val (.int p2), .val (.int p3), .val (.int p4), .val (.ref b5), .val (.int (p1 &&& (3 : Int32))), .val (.ref r10), .val (.int (9 : Int32)), .val (.int (byK p2 24)), .val (.int (by0 p4)), .val (.ref r15)] [(.ref r15)])) _
    refine XS.iconst X15.here hx rfl (hb hby at_226) ?_
    show Steps p.tables e below (T15.setTop (mkF m 227 #[.val (.int p1), .val (.int p2), .val (.int p3), .val (.int p4), .val (.ref b5), .val (.int (p1 &&& (3 : Int32))), .val (.ref r10), .val (.int (9 : Int32)), .val (.int (byK p2 24)), .val (.int (by0 p4)), .val (.ref r15)] [(.int (0 : Int32)), (.ref r15)])) _
    refine own_ldB X15 hx hZ rfl V15 (j := (0 : Int32)) (v := (.int (byK p2 24))) ⟨by decide, by decide⟩ rfl (g := (mkF m 227 #[.val (.int p1), .val (.int p2), .val (.int p3), .val (.int p4), .val (.ref b5), .val (.int (p1 &&& (3 : Int32))), .val (.ref r10), .val (.int (9 : Int32)), .val (.int (byK p2 24)), .val (.int (by0 p4)), .val (.ref r15)] [(.int (0 : Int32)), (.ref r15)])) rfl rfl (hb hby at_227) _ ?_
    show Steps p.tables e below (T15.setTop (mkF m 228 #[.val (.int p1), .val (.int p2), .val (.int p3), .val (.int p4), .val (.ref b5), .val (.int (p1 &&& (3 : Int32))), .val (.ref r10), .val (.int (9 : Int32)), .val (.int (byK p2 24)), .val (.int (by0 p4)), .val (.ref r15)] [(.int (byK p2 24))])) _
    refine XS.iload X15.here hx rfl (hb hby at_228) rfl ?_
    show Steps p.tables e below (T15.setTop (mkF m 230 #[.val (.int p1), .val (.int p2), .val (.int p3), .val (.int p4), .val (.ref b5), .val (.int (p1 &&& (3 : Int32))), .val (.ref r10), .val (.int (9 : Int32)), .val (.int (byK p2 24)), .val (.int (by0 p4)), .val (.ref r15)] [(.int (byK p2 24)), (.int (byK p2 24))])) _
    refine XS.icmpYes X15.here hx rfl (pc0 := 230) (pc' := 235) rfl (hb hby at_230) rfl (teq (rfl : (byK p2 24) = (byK p2 24))).1 (by decide) (by decide) ?_
    show Steps p.tables e below (T15.setTop (mkF m 235 #[.val (.int p1), .val (.int p2), .val (.int p3), .val (.int p4), .val (.ref b5), .val (.int (p1 &&& (3 : Int32))), .val (.ref r10), .val (.int (9 : Int32)), .val (.int (byK p2 24)), .val (.int (by0 p4)), .val (.ref r15)] [])) _
    refine XS.iload X15.here hx rfl (hb hby at_235) rfl ?_
    show Steps p.tables e below (T15.setTop (mkF m 237 #[.val (.int p1), .val (.int p2), .val (.int p3), .val (.int p4), .val (.ref b5), .val (.int (p1 &&& (3 : Int32))), .val (.ref r10), .val (.int (9 : Int32)), .val (.int (byK p2 24)), .val (.int (by0 p4)), .val (.ref r15)] [(.int (9 : Int32))])) _
    refine XS.ifNo X15.here hx rfl (hb hby at_237) rfl ((if0 _ _).trans (tlt hc237).2.2.2) ?_
    show Steps p.tables e below (T15.setTop (mkF m 240 #[.val (.int p1), .val (.int p2), .val (.int p3), .val (.int p4), .val (.ref b5), .val (.int (p1 &&& (3 : Int32))), .val (.ref r10), .val (.int (9 : Int32)), .val (.int (byK p2 24)), .val (.int (by0 p4)), .val (.ref r15)] [])) _
    refine XS.aload X15.here hx rfl (hb hby at_240) rfl rfl ?_
    show Steps p.tables e below (T15.setTop (mkF m 242 #[.val (.int p1), .val (.int p2), .val (.int p3), .val (.int p4), .val (.ref b5), .val (.int (p1 &&& (3 : Int32))), .val (.ref r10), .val (.int (9 : Int32)), .val (.int (byK p2 24)), .val (.int (by0 p4)), .val (.ref r15)] [(.ref r15)])) _
    refine XS.iload X15.here hx rfl (hb hby at_242) rfl ?_
    show Steps p.tables e below (T15.setTop (mkF m 244 #[.val (.int p1), .val (.int p2), .val (.int p3), .val (.int p4), .val (.ref b5), .val (.int (p1 &&& (3 : Int32))), .val (.ref r10), .val (.int (9 : Int32)), .val (.int (byK p2 24)), .val (.int (by0 p4)), .val (.ref r15)] [(.int (9 : Int32)), (.ref r15)])) _
    refine XS.iconst X15.here hx rfl (hb hby at_244) ?_
    show Steps p.tables e below (T15.setTop (mkF m 245 #[.val (.int p1), .val (.int p2), .val (.int p3), .val (.int p4), .val (.ref b5), .val (.int (p1 &&& (3 : Int32))), .val (.ref r10), .val (.int (9 : Int32)), .val (.int (byK p2 24)), .val (.int (by0 p4)), .val (.ref r15)] [(.int (1 : Int32)), (.int (9 : Int32)), (.ref r15)])) _
    refine XS.isub X15.here hx rfl (hb hby at_245) rfl ?_
    show Steps p.tables e below (T15.setTop (mkF m 246 #[.val (.int p1), .val (.int p2), .val (.int p3), .val (.int p4), .val (.ref b5), .val (.int (p1 &&& (3 : Int32))), .val (.ref r10), .val (.int (9 : Int32)), .val (.int (byK p2 24)), .val (.int (by0 p4)), .val (.ref r15)] [(.int ((9 : Int32) - (1 : Int32))), (.ref r15)])) _
    refine own_ldB X15 hx hZ rfl V15 (j := ((9 : Int32) - (1 : Int32))) (v := (.int (by0 p4))) ⟨by decide, by decide⟩ rfl (g := (mkF m 246 #[.val (.int p1), .val (.int p2), .val (.int p3), .val (.int p4), .val (.ref b5), .val (.int (p1 &&& (3 : Int32))), .val (.ref r10), .val (.int (9 : Int32)), .val (.int (byK p2 24)), .val (.int (by0 p4)), .val (.ref r15)] [(.int ((9 : Int32) - (1 : Int32))), (.ref r15)])) rfl rfl (hb hby at_246) _ ?_
    show Steps p.tables e below (T15.setTop (mkF m 247 #[.val (.int p1), .val (.int p2), .val (.int p3), .val (.int p4), .val (.ref b5), .val (.int (p1 &&& (3 : Int32))), .val (.ref r10), .val (.int (9 : Int32)), .val (.int (byK p2 24)), .val (.int (by0 p4)), .val (.ref r15)] [(.int (by0 p4))])) _
    refine XS.iload X15.here hx rfl (hb hby at_247) rfl ?_
    show Steps p.tables e below (T15.setTop (mkF m 249 #[.val (.int p1), .val (.int p2), .val (.int p3), .val (.int p4), .val (.ref b5), .val (.int (p1 &&& (3 : Int32))), .val (.ref r10), .val (.int (9 : Int32)), .val (.int (byK p2 24)), .val (.int (by0 p4)), .val (.ref r15)] [(.int (by0 p4)), (.int (by0 p4))])) _
    refine XS.icmpYes X15.here hx rfl (pc0 := 249) (pc' := 254) rfl (hb hby at_249) rfl (teq (rfl : (by0 p4) = (by0 p4))).1 (by decide) (by decide) ?_
    show Steps p.tables e below (T15.setTop (mkF m 254 #[.val (.int p1), .val (.int p2), .val (.int p3), .val (.int p4), .val (.ref b5), .val (.int (p1 &&& (3 : Int32))), .val (.ref r10), .val (.int (9 : Int32)), .val (.int (byK p2 24)), .val (.int (by0 p4)), .val (.ref r15)] [])) _
    refine XS.aload X15.here hx rfl (hb hby at_254) rfl rfl ?_
    show Steps p.tables e below (T15.setTop (mkF m 256 #[.val (.int p1), .val (.int p2), .val (.int p3), .val (.int p4), .val (.ref b5), .val (.int (p1 &&& (3 : Int32))), .val (.ref r10), .val (.int (9 : Int32)), .val (.int (byK p2 24)), .val (.int (by0 p4)), .val (.ref r15)] [(.ref r15)])) _
    refine XS.iload X15.here hx rfl (hb hby at_256) rfl ?_
    show Steps p.tables e below (T15.setTop (mkF m 258 #[.val (.int p1), .val (.int p2), .val (.int p3), .val (.int p4), .val (.ref b5), .val (.int (p1 &&& (3 : Int32))), .val (.ref r10), .val (.int (9 : Int32)), .val (.int (byK p2 24)), .val (.int (by0 p4)), .val (.ref r15)] [(.int (9 : Int32)), (.ref r15)])) _
    refine own_ldB X15 hx hZ rfl V15 (j := (9 : Int32)) (v := (.int (by0 p4))) ⟨by decide, by decide⟩ rfl (g := (mkF m 258 #[.val (.int p1), .val (.int p2), .val (.int p3), .val (.int p4), .val (.ref b5), .val (.int (p1 &&& (3 : Int32))), .val (.ref r10), .val (.int (9 : Int32)), .val (.int (byK p2 24)), .val (.int (by0 p4)), .val (.ref r15)] [(.int (9 : Int32)), (.ref r15)])) rfl rfl (hb hby at_258) _ ?_
    show Steps p.tables e below (T15.setTop (mkF m 259 #[.val (.int p1), .val (.int p2), .val (.int p3), .val (.int p4), .val (.ref b5), .val (.int (p1 &&& (3 : Int32))), .val (.ref r10), .val (.int (9 : Int32)), .val (.int (byK p2 24)), .val (.int (by0 p4)), .val (.ref r15)] [(.int (by0 p4))])) _
    refine XS.iloadN X15.here hx rfl (hb hby at_259) rfl ?_
    show Steps p.tables e below (T15.setTop (mkF m 260 #[.val (.int p1), .val (.int p2), .val (.int p3), .val (.int p4), .val (.ref b5), .val (.int (p1 &&& (3 : Int32))), .val (.ref r10), .val (.int (9 : Int32)), .val (.int (byK p2 24)), .val (.int (by0 p4)), .val (.ref r15)] [(.int p4), (.int (by0 p4))])) _
    refine XS.sipush X15.here hx rfl (hb hby at_260) ?_
    show Steps p.tables e below (T15.setTop (mkF m 263 #[.val (.int p1), .val (.int p2), .val (.int p3), .val (.int p4), .val (.ref b5), .val (.int (p1 &&& (3 : Int32))), .val (.ref r10), .val (.int (9 : Int32)), .val (.int (byK p2 24)), .val (.int (by0 p4)), .val (.ref r15)] [(.int (255 : Int32)), (.int p4), (.int (by0 p4))])) _
    refine XS.iand X15.here hx rfl (hb hby at_263) rfl ?_
    show Steps p.tables e below (T15.setTop (mkF m 264 #[.val (.int p1), .val (.int p2), .val (.int p3), .val (.int p4), .val (.ref b5), .val (.int (p1 &&& (3 : Int32))), .val (.ref r10), .val (.int (9 : Int32)), .val (.int (byK p2 24)), .val (.int (by0 p4)), .val (.ref r15)] [(.int (p4 &&& (255 : Int32))), (.int (by0 p4))])) _
    refine XS.i2b X15.here hx rfl (hb hby at_264) rfl ?_
    show Steps p.tables e below (T15.setTop (mkF m 265 #[.val (.int p1), .val (.int p2), .val (.int p3), .val (.int p4), .val (.ref b5), .val (.int (p1 &&& (3 : Int32))), .val (.ref r10), .val (.int (9 : Int32)), .val (.int (byK p2 24)), .val (.int (by0 p4)), .val (.ref r15)] [(.int ((p4 &&& (255 : Int32)).toInt8.toInt32)), (.int (by0 p4))])) _
    refine XS.icmpYes X15.here hx rfl (pc0 := 265) (pc' := 270) rfl (hb hby at_265) rfl (teq hc265).1 (by decide) (by decide) ?_
    show Steps p.tables e below (T15.setTop (mkF m 270 #[.val (.int p1), .val (.int p2), .val (.int p3), .val (.int p4), .val (.ref b5), .val (.int (p1 &&& (3 : Int32))), .val (.ref r10), .val (.int (9 : Int32)), .val (.int (byK p2 24)), .val (.int (by0 p4)), .val (.ref r15)] [])) _
    refine XS.iload X15.here hx rfl (hb hby at_270) rfl ?_
    show Steps p.tables e below (T15.setTop (mkF m 272 #[.val (.int p1), .val (.int p2), .val (.int p3), .val (.int p4), .val (.ref b5), .val (.int (p1 &&& (3 : Int32))), .val (.ref r10), .val (.int (9 : Int32)), .val (.int (byK p2 24)), .val (.int (by0 p4)), .val (.ref r15)] [(.int (9 : Int32))])) _
    refine XS.ifNo X15.here hx rfl (hb hby at_272) rfl ((if0 _ _).trans (tlt hc272).2.2.2) ?_
    show Steps p.tables e below (T15.setTop (mkF m 275 #[.val (.int p1), .val (.int p2), .val (.int p3), .val (.int p4), .val (.ref b5), .val (.int (p1 &&& (3 : Int32))), .val (.ref r10), .val (.int (9 : Int32)), .val (.int (byK p2 24)), .val (.int (by0 p4)), .val (.ref r15)] [])) _
    refine XS.aload X15.here hx rfl (hb hby at_275) rfl rfl ?_
    show Steps p.tables e below (T15.setTop (mkF m 277 #[.val (.int p1), .val (.int p2), .val (.int p3), .val (.int p4), .val (.ref b5), .val (.int (p1 &&& (3 : Int32))), .val (.ref r10), .val (.int (9 : Int32)), .val (.int (byK p2 24)), .val (.int (by0 p4)), .val (.ref r15)] [(.ref r10)])) _
    refine own_len X15 hx hZ rfl ((V13.keep K14 (ninS (Ne.symm ne_b5_r10) (ninS (Ne.symm ne_b6x_r10) nin0))).keep K15 nin0) (g := (mkF m 277 #[.val (.int p1), .val (.int p2), .val (.int p3), .val (.int p4), .val (.ref b5), .val (.int (p1 &&& (3 : Int32))), .val (.ref r10), .val (.int (9 : Int32)), .val (.int (byK p2 24)), .val (.int (by0 p4)), .val (.ref r15)] [(.ref r10)])) rfl rfl (hb hby at_277) _ ?_
    show Steps p.tables e below (T15.setTop (mkF m 278 #[.val (.int p1), .val (.int p2), .val (.int p3), .val (.int p4), .val (.ref b5), .val (.int (p1 &&& (3 : Int32))), .val (.ref r10), .val (.int (9 : Int32)), .val (.int (byK p2 24)), .val (.int (by0 p4)), .val (.ref r15)] [(.int (9 : Int32))])) _
    refine XS.iload X15.here hx rfl (hb hby at_278) rfl ?_
    show Steps p.tables e below (T15.setTop (mkF m 280 #[.val (.int p1), .val (.int p2), .val (.int p3), .val (.int p4), .val (.ref b5), .val (.int (p1 &&& (3 : Int32))), .val (.ref r10), .val (.int (9 : Int32)), .val (.int (byK p2 24)), .val (.int (by0 p4)), .val (.ref r15)] [(.int (9 : Int32)), (.int (9 : Int32))])) _
    refine XS.icmpYes X15.here hx rfl (pc0 := 280) (pc' := 285) rfl (hb hby at_280) rfl (teq (rfl : (9 : Int32) = (9 : Int32))).1 (by decide) (by decide) ?_
    show Steps p.tables e below (T15.setTop (mkF m 285 #[.val (.int p1), .val (.int p2), .val (.int p3), .val (.int p4), .val (.ref b5), .val (.int (p1 &&& (3 : Int32))), .val (.ref r10), .val (.int (9 : Int32)), .val (.int (byK p2 24)), .val (.int (by0 p4)), .val (.ref r15)] [])) _
    refine XS.iconst X15.here hx rfl (hb hby at_285) ?_
    show Steps p.tables e below (T15.setTop (mkF m 286 #[.val (.int p1), .val (.int p2), .val (.int p3), .val (.int p4), .val (.ref b5), .val (.int (p1 &&& (3 : Int32))), .val (.ref r10), .val (.int (9 : Int32)), .val (.int (byK p2 24)), .val (.int (by0 p4)), .val (.ref r15)] [(.int (1 : Int32))])) _
    exact retN X15 hx (t := .boolean) Bd.returns (by simp) (hb hby at_286) hr
  · show Q0 n0 _ _
    exact ⟨rfl, N15⟩
theorem own_mask (p : Int32) : (p &&& (3 : Int32)) = (0 : Int32) ∨ (p &&& (3 : Int32)) = (1 : Int32) ∨ (p &&& (3 : Int32)) = (2 : Int32) ∨ (p &&& (3 : Int32)) = (3 : Int32) := by
  have e1 : (p &&& (3 : Int32)).toInt = p.toInt % (2 ^ 2 : Nat) := c_mask p _ 2 (by decide) (by decide)
  have h : (p &&& (3 : Int32)).toInt = 0 ∨ (p &&& (3 : Int32)).toInt = 1 ∨ (p &&& (3 : Int32)).toInt = 2 ∨ (p &&& (3 : Int32)).toInt = 3 := by omega
  rcases h with h | h | h | h
  · exact Or.inl (Int32.toInt_inj.mp (h.trans (by decide)))
  · exact Or.inr (Or.inl (Int32.toInt_inj.mp (h.trans (by decide))))
  · exact Or.inr (Or.inr (Or.inl (Int32.toInt_inj.mp (h.trans (by decide)))))
  · exact Or.inr (Or.inr (Or.inr ((Int32.toInt_inj.mp (h.trans (by decide))))))
theorem own_bm (x : Int32) : by0 x = (x &&& (255 : Int32)).toInt8.toInt32 := by
  unfold by0
  have a := c_i2b x
  have b := c_i2b (x &&& (255 : Int32))
  have c := c_mask x 255 8 (by decide) (by decide)
  apply Int32.toInt_inj.mp
  omega
theorem rm0 (l : Launch) (Z : State) (a0 : Array Value) (hw : ∀ d ∈ tables_1, d.before a0 Z = true) (ws : List Jvm.Cond) (p1 p2 p3 p4 : Int32) (h0 : Heap) (n0 : Nat) (Z0 : n0 ≤ h0.size)  :
    MetFree l x (head1 (Jvm.Cond.code x code maxLocals ret :: ws) room_1) (fun a U => a = #[(.int p1), (.int p2), (.int p3), (.int p4)] ∧ Z.Warmed39 U.vm ∧ U.heap = h0) (fun _ _ _ _ _ => True) (fun _ U o U' => ∃ v L, o = .returned v ∧ Q0 n0 v L ∧ FrameEnd U o U' L 4 162) := by
  rcases own_mask p1 with h | h | h | h
  · exact rm0_0 l Z a0 hw ws p1 p2 p3 p4 h0 n0 Z0 (by first | decide | (rw [h] <;> decide)) (by first | decide | (rw [h] <;> decide)) (by first | decide | (rw [h] <;> decide)) (by first | decide | (rw [h] <;> decide)) (by first | decide | (rw [h] <;> decide)) (by first | decide | (rw [h] <;> decide)) (by first | decide | (rw [h] <;> decide)) (by first | decide | (rw [h] <;> decide)) (by first | decide | (rw [h] <;> decide)) (by first | decide | (rw [h] <;> decide)) (by first | decide | (rw [h] <;> decide)) (by first | exact own_bm _ | rfl | decide) (by first | decide | (rw [h] <;> decide))
  · exact rm0_1 l Z a0 hw ws p1 p2 p3 p4 h0 n0 Z0 (by first | decide | (rw [h] <;> decide)) (by first | decide | (rw [h] <;> decide)) (by first | decide | (rw [h] <;> decide)) (by first | decide | (rw [h] <;> decide)) (by first | decide | (rw [h] <;> decide)) (by first | decide | (rw [h] <;> decide)) (by first | decide | (rw [h] <;> decide)) (by first | decide | (rw [h] <;> decide)) (by first | decide | (rw [h] <;> decide)) (by first | decide | (rw [h] <;> decide)) (by first | decide | (rw [h] <;> decide)) (by first | decide | (rw [h] <;> decide)) (by first | decide | (rw [h] <;> decide)) (by first | exact own_bm _ | rfl | decide) (by first | decide | (rw [h] <;> decide))
  · exact rm0_2 l Z a0 hw ws p1 p2 p3 p4 h0 n0 Z0 (by first | decide | (rw [h] <;> decide)) (by first | decide | (rw [h] <;> decide)) (by first | decide | (rw [h] <;> decide)) (by first | decide | (rw [h] <;> decide)) (by first | decide | (rw [h] <;> decide)) (by first | decide | (rw [h] <;> decide)) (by first | decide | (rw [h] <;> decide)) (by first | decide | (rw [h] <;> decide)) (by first | decide | (rw [h] <;> decide)) (by first | exact own_bm _ | rfl | decide) (by first | decide | (rw [h] <;> decide)) (by first | decide | (rw [h] <;> decide)) (by first | decide | (rw [h] <;> decide)) (by first | decide | (rw [h] <;> decide)) (by first | decide | (rw [h] <;> decide)) (by first | exact own_bm _ | rfl | decide) (by first | decide | (rw [h] <;> decide))
  · exact rm0_3 l Z a0 hw ws p1 p2 p3 p4 h0 n0 Z0 (by first | decide | (rw [h] <;> decide)) (by first | decide | (rw [h] <;> decide)) (by first | decide | (rw [h] <;> decide)) (by first | decide | (rw [h] <;> decide)) (by first | decide | (rw [h] <;> decide)) (by first | decide | (rw [h] <;> decide)) (by first | decide | (rw [h] <;> decide)) (by first | decide | (rw [h] <;> decide)) (by first | decide | (rw [h] <;> decide)) (by first | exact own_bm _ | rfl | decide) (by first | decide | (rw [h] <;> decide)) (by first | decide | (rw [h] <;> decide)) (by first | decide | (rw [h] <;> decide)) (by first | decide | (rw [h] <;> decide)) (by first | decide | (rw [h] <;> decide)) (by first | decide | (rw [h] <;> decide)) (by first | exact own_bm _ | rfl | decide) (by first | decide | (rw [h] <;> decide))
set_option maxRecDepth 65536 in
set_option maxHeartbeats 40000000 in
theorem comes_1 {Post : Tables → Env → Array Value → State → Outcome → State → Prop} (hpost : ∀ tb e args s v u, (limb_1_1.after args s (.returned v) u = true ∧ limb_1_2.after args s (.returned v) u = true ∧ True) → FrameEnd s (.returned v) u (Jvm.fieldLocs frame_1_writes args s ++ Jvm.arrayLocs frame_1_arrays args s ++ Jvm.staticLocs frame_1_statics s) 16 384 → Post tb e args s (.returned v) u) :
    ArmFor flags0 classFile x code maxLocals ret World_1 tables_1 room_1 Calls_1 rest_1 Pre_1 Post := by
  intro l hfl _ _ p e ha hc hk s m args below hf hA hF happ hP
  obtain ⟨hcalls, hrest, hpre⟩ := hP
  obtain ⟨-, -, -, hnamed, -, -, -, hat⟩ := (Spec.applies_iff hf).mp happ
  obtain ⟨hg, hn⟩ := and_e (Cond.before_iff.mp (show (Jvm.Cond.and given_1 narrow_1).before args s = true from hpre))
  obtain ⟨g1, g2⟩ := and_e hg
  obtain ⟨g3, g4⟩ := and_e g2
  obtain ⟨g5, g6⟩ := and_e g4
  obtain ⟨g7, g8⟩ := and_e g6
  obtain ⟨w0, w1, w2, w3, rfl⟩ : ∃ w0 w1 w2 w3 : Value, args = #[w0, w1, w2, w3] := by
    have hs : args.size = 4 := by simpa [Cond.value, given_1] using g1
    obtain ⟨L⟩ := args
    match L, hs with
    | [w0, w1, w2, w3], _ => exact ⟨w0, w1, w2, w3, rfl⟩
  have hw := fun d (hd : d ∈ tables_1) => atoms_spec (ws := Jvm.Cond.code x code maxLocals ret :: tables_1) hat d (List.mem_cons_of_mem _ hd)
  have hfit : Fit s := fun {y c} hc i hi => by
    obtain ⟨ha, rfl⟩ := Array.getElem?_eq_some_iff.mp hc
    have q := List.all_eq_true.mp ((Array.all_eq_true_iff_forall_mem.mp hF) _ (Array.getElem_mem ha)) i (List.mem_range.mpr hi)
    simpa [Array.getElem?_eq_getElem hi] using q
  obtain ⟨i0, ei0⟩ := is_v g3
  obtain rfl : w0 = (.int i0) := Option.some.inj ei0
  obtain ⟨i1, ei1⟩ := is_v g5
  obtain rfl : w1 = (.int i1) := Option.some.inj ei1
  obtain ⟨i2, ei2⟩ := is_v g7
  obtain rfl : w2 = (.int i2) := Option.some.inj ei2
  obtain ⟨i3, ei3⟩ := is_v g8
  obtain rfl : w3 = (.int i3) := Option.some.inj ei3
  obtain ⟨n, o, h1, h2, h3, _, L, rfl, ⟨rfl, N⟩, hq⟩ := rm0 l s _ hw tables_1 i0 i1 i2 i3 s.heap s.heap.size (Nat.le_refl _) p e ha hc hk s m _ below hf ((Spec.applies_iff_loose hf).mp happ).1 ⟨rfl, State.Warmed39.refl s, rfl⟩ trivial
  refine ⟨n, _, h1, h2, h3, hpost _ _ _ _ _ _ ⟨Cond.after_iff.mpr rfl, Cond.after_iff.mpr (eq_i res_at (Term.int_eval (1)) rfl), trivial⟩ ⟨hq.1, hq.2.1, (hq.2.2.sift fun y hy => Or.inr (N y hy)).mono (by decide) (by decide)⟩⟩
theorem main_1_1 : Claimed_1_1 := comes_1 fun _ _ _ _ _ _ h hF => ⟨h.1, hF⟩
theorem main_1_2 : Claimed_1_2 := comes_1 fun _ _ _ _ _ _ h hF => ⟨h.2.1, hF⟩
end Jvm.Pilot.@@N@@
namespace Jvm.Pilot.@@N@@
open Jvm Jvm.ClassFile Sem Op Lib Jvm.Free Jvm.Stand Jvm.Pilot.@@N@@.Jvm.D
/-! MADE BY PROGRAM (witnessworld.py) out of the Statement's table words and the real class files: 12 classes; the members and pool entries that the words name. The judged class is class 1, her method 2. -/
namespace start1
open Jvm.ClassFile
def u (s : String) : CpInfo := .utf8 (stringToUtf16 s)
/-- a pool by its gaps: so many unusable entries, then the entry; so many at the end -/
def gap : Nat → List CpInfo → List CpInfo
  | 0, r => r
  | n + 1, r => .unusable :: gap n r
def poolList (es : List (Nat × CpInfo)) (last : Nat) : List CpInfo := es.foldr (fun e r => gap e.1 (e.2 :: r)) (gap last [])
def pool (es : List (Nat × CpInfo)) (last : Nat) : Array CpInfo := ⟨poolList es last⟩
def fileOf (pool : Array CpInfo) (this : Nat) (attrs : Array Attribute := #[]) (ms : Array MethodInfo := #[]) (fl : Nat := 33) (sup : Nat := 0) (ifs : Array Nat := #[]) (fds : Array FieldInfo := #[]) : ClassFile where
  minorVersion := 0
  majorVersion := 65
  constantPool := pool
  accessFlags := fl
  thisClass := this
  superClass := sup
  interfaces := ifs
  fields := fds
  methods := ms
  attributes := attrs
def plain (name : String) (sup : Option ClassId) : Class where
  name := name
  kind := .ordinary
  loader := none
  accessFlags := 33
  super := sup
  interfaces := #[]
  cf := none
  fields := #[]
  methods := #[]
  instanceTypes := #[]
  staticTypes := #[]
  resolved := #[]
  callSites := []
  init := .initialized
  statics := none
  mirror := none

def pool0 : Array CpInfo := pool [(5, u "<init>"), (0, u "()V"), (1, .class_ 10), (1, u "java/lang/Object")] 113

def k0c0 : Code := { maxStack := 0, maxLocals := 1, code := object_method_1_code, exceptionTable := #[], attributes := #[] }
def k0m0 : Method := { name := "<init>", desc := "()V", sig := { parameters := [], returnType := none }, accessFlags := 1, code := some k0c0 }
/-- java/lang/Object -/
def k0 : Class := { plain "java/lang/Object" none with
  accessFlags := 33
  interfaces := #[]
  cf := some (fileOf pool0 8 #[] #[{ accessFlags := 1, nameIndex := 5, descriptorIndex := 6, attributes := #[] }] 33 0 #[] #[])
  fields := #[]
  methods := #[k0m0]
  instanceTypes := #[]
  staticTypes := #[]
  resolved := Array.replicate 124 none
  statics := none }

def pool1 : Array CpInfo := pool [(2, .class_ 4), (0, .nameAndType 5 6), (0, u "java/lang/Object"), (0, u "<init>"), (0, u "()V"), (0, .class_ 8), (0, u "com/example/periodica/periodica/ledger/StoredFields$Out"), (0, .methodref 7 3), (0, .methodref 7 11), (0, .nameAndType 12 13), (0, u "writeInt"), (0, u "(I)V"), (0, .methodref 7 15), (0, .nameAndType 16 13), (0, u "writeByte"), (0, .methodref 7 18), (0, .nameAndType 19 20), (0, u "toByteArray"), (0, u "()[B"), (0, .methodref 22 23), (0, .class_ 24), (0, .nameAndType 25 26), (0, u "com/example/periodica/periodica/ledger/OutToByteArrayPinLaw"), (0, u "intAt"), (0, u "([BII)Z"), (3, u "law"), (0, u "(IIII)Z")] 8

def k1m0 : Method := { name := "<init>", desc := "()V", sig := { parameters := [], returnType := none }, accessFlags := 2, code := none }
def k1c1 : Code := { maxStack := 4, maxLocals := 4, code := method_2_code, exceptionTable := #[], attributes := #[] }
def k1m1 : Method := { name := "intAt", desc := "([BII)Z", sig := { parameters := [(.array .byte), .int, .int], returnType := some .boolean }, accessFlags := 10, code := some k1c1 }
def k1c2 : Code := { maxStack := 4, maxLocals := 11, code := code, exceptionTable := #[], attributes := #[] }
def k1m2 : Method := { name := "law", desc := "(IIII)Z", sig := { parameters := [.int, .int, .int, .int], returnType := some .boolean }, accessFlags := 9, code := some k1c2 }
/-- com/example/periodica/periodica/ledger/OutToByteArrayPinLaw -/
def k1 : Class := { plain "com/example/periodica/periodica/ledger/OutToByteArrayPinLaw" (some 0) with
  accessFlags := 49
  interfaces := #[]
  cf := some (fileOf pool1 22 #[] #[{ accessFlags := 2, nameIndex := 5, descriptorIndex := 6, attributes := #[] }, { accessFlags := 10, nameIndex := 25, descriptorIndex := 26, attributes := #[] }, { accessFlags := 9, nameIndex := 30, descriptorIndex := 31, attributes := #[] }] 49 2 #[] #[])
  fields := #[]
  methods := #[k1m0, k1m1, k1m2]
  instanceTypes := #[]
  staticTypes := #[]
  resolved := Array.replicate 40 none
  statics := none }

def pool2 : Array CpInfo := pool [(1, .methodref 2 3), (0, .class_ 4), (0, .nameAndType 5 6), (0, u "java/lang/Object"), (0, u "<init>"), (0, u "()V"), (0, .fieldref 8 9), (0, .class_ 10), (0, .nameAndType 11 12), (0, u "com/example/periodica/periodica/ledger/StoredFields$Out"), (0, u "bytes"), (0, u "[B"), (0, .methodref 8 14), (0, .nameAndType 15 16), (0, u "room"), (0, u "(I)V"), (0, .fieldref 8 18), (0, .nameAndType 19 20), (0, u "size"), (0, u "I"), (2, u "writeByte"), (14, u "writeInt"), (38, .methodref 78 79), (0, .class_ 80), (0, .nameAndType 81 82), (0, u "java/util/Arrays"), (0, u "copyOf"), (0, u "([BI)[B"), (12, u "toByteArray"), (0, u "()[B"), (3, .class_ 101), (0, u "com/example/periodica/periodica/ledger/StoredFields")] 2

def k2c0 : Code := { maxStack := 2, maxLocals := 1, code := prog_53_method_1_code, exceptionTable := #[], attributes := #[] }
def k2m0 : Method := { name := "<init>", desc := "()V", sig := { parameters := [], returnType := none }, accessFlags := 0, code := some k2c0 }
def k2c1 : Code := { maxStack := 5, maxLocals := 2, code := prog_53_method_2_code, exceptionTable := #[], attributes := #[] }
def k2m1 : Method := { name := "writeInt", desc := "(I)V", sig := { parameters := [.int], returnType := none }, accessFlags := 0, code := some k2c1 }
def k2c2 : Code := { maxStack := 5, maxLocals := 2, code := prog_53_method_3_code, exceptionTable := #[], attributes := #[] }
def k2m2 : Method := { name := "writeByte", desc := "(I)V", sig := { parameters := [.int], returnType := none }, accessFlags := 0, code := some k2c2 }
def k2c3 : Code := { maxStack := 2, maxLocals := 1, code := prog_53_method_9_code, exceptionTable := #[], attributes := #[] }
def k2m3 : Method := { name := "toByteArray", desc := "()[B", sig := { parameters := [], returnType := some (.array .byte) }, accessFlags := 0, code := some k2c3 }
def k2c4 : Code := { maxStack := 5, maxLocals := 2, code := prog_53_method_10_code, exceptionTable := #[], attributes := #[] }
def k2m4 : Method := { name := "room", desc := "(I)V", sig := { parameters := [.int], returnType := none }, accessFlags := 2, code := some k2c4 }
/-- com/example/periodica/periodica/ledger/StoredFields$Out -/
def k2 : Class := { plain "com/example/periodica/periodica/ledger/StoredFields$Out" (some 0) with
  accessFlags := 48
  interfaces := #[]
  cf := some (fileOf pool2 8 #[.nestHost 100] #[{ accessFlags := 0, nameIndex := 5, descriptorIndex := 6, attributes := #[] }, { accessFlags := 0, nameIndex := 38, descriptorIndex := 16, attributes := #[] }, { accessFlags := 0, nameIndex := 23, descriptorIndex := 16, attributes := #[] }, { accessFlags := 0, nameIndex := 95, descriptorIndex := 96, attributes := #[] }, { accessFlags := 2, nameIndex := 15, descriptorIndex := 16, attributes := #[] }] 48 2 #[] #[{ accessFlags := 2, nameIndex := 11, descriptorIndex := 12, attributes := #[] }, { accessFlags := 2, nameIndex := 19, descriptorIndex := 20, attributes := #[] }])
  fields := #[{ name := "bytes", type := (.array .byte), accessFlags := 2, slot := 0, constantValue := 0 }, { name := "size", type := .int, accessFlags := 2, slot := 1, constantValue := 0 }]
  methods := #[k2m0, k2m1, k2m2, k2m3, k2m4]
  instanceTypes := #[(.array .byte), .int]
  staticTypes := #[]
  resolved := Array.replicate 104 none
  statics := none }

def pool3 : Array CpInfo := pool [(2, .class_ 4), (1, u "java/lang/Object"), (0, u "<init>"), (0, u "()V"), (7, .class_ 16), (1, u "java/util/Arrays"), (57, .class_ 76), (1, u "java/util/Arrays$NaturalOrder"), (36, .class_ 115), (1, u "java/util/Arrays$LegacyMergeSort"), (1, u "Z"), (32, .methodref 151 152), (0, .class_ 153), (0, .nameAndType 154 155), (0, u "java/lang/System"), (0, u "arraycopy"), (0, u "(Ljava/lang/Object;ILjava/lang/Object;II)V"), (146, u "copyOf"), (1, .methodref 305 306), (0, .class_ 307), (0, .nameAndType 308 309), (0, u "java/lang/Math"), (0, u "min"), (0, u "(II)I"), (65, .class_ 376), (0, u "java/util/Arrays$ArrayList"), (68, u "$assertionsDisabled"), (269, u "MIN_ARRAY_SORT_GRAN"), (0, u "I"), (2, u "INSERTIONSORT_THRESHOLD"), (149, u "([BI)[B"), (105, .class_ 976), (0, u "java/util/Arrays$ArrayItr")] 52

def k3m0 : Method := { name := "<init>", desc := "()V", sig := { parameters := [], returnType := none }, accessFlags := 2, code := none }
def k3c1 : Code := { maxStack := 6, maxLocals := 3, code := jdk_65_method_121_code, exceptionTable := #[], attributes := #[] }
def k3m1 : Method := { name := "copyOf", desc := "([BI)[B", sig := { parameters := [(.array .byte), .int], returnType := some (.array .byte) }, accessFlags := 9, code := some k3c1 }
/-- java/util/Arrays -/
def k3 : Class := { plain "java/util/Arrays" (some 0) with
  accessFlags := 49
  interfaces := #[]
  cf := some (fileOf pool3 14 #[.nestMembers #[975, 375, 113, 74]] #[{ accessFlags := 2, nameIndex := 5, descriptorIndex := 6, attributes := #[] }, { accessFlags := 9, nameIndex := 302, descriptorIndex := 869, attributes := #[] }] 49 2 #[] #[{ accessFlags := 26, nameIndex := 715, descriptorIndex := 716, attributes := #[] }, { accessFlags := 26, nameIndex := 719, descriptorIndex := 716, attributes := #[] }, { accessFlags := 4120, nameIndex := 445, descriptorIndex := 117, attributes := #[] }])
  fields := #[{ name := "MIN_ARRAY_SORT_GRAN", type := .int, accessFlags := 26, slot := 0, constantValue := 0 }, { name := "INSERTIONSORT_THRESHOLD", type := .int, accessFlags := 26, slot := 1, constantValue := 0 }, { name := "$assertionsDisabled", type := .boolean, accessFlags := 4120, slot := 2, constantValue := 0 }]
  methods := #[k3m0, k3m1]
  instanceTypes := #[]
  staticTypes := #[.int, .int, .boolean]
  resolved := Array.replicate 1029 none
  statics := none }

def pool4 : Array CpInfo := pool [(1, .class_ 2), (0, u "java/lang/Math"), (1, .class_ 6), (1, u "java/lang/Object"), (0, u "<init>"), (0, u "()V"), (89, .class_ 100), (1, u "java/lang/Math$RandomNumberGeneratorHolder"), (71, u "negativeZeroFloatBits"), (0, u "J"), (2, u "negativeZeroDoubleBits"), (24, u "min"), (43, u "$assertionsDisabled"), (0, u "Z"), (88, u "(II)I"), (2, u "twoToTheDoubleScaleDown"), (0, u "D"), (4, u "twoToTheDoubleScaleUp"), (9, u "E"), (3, u "PI"), (2, u "TAU"), (2, u "DEGREES_TO_RADIANS"), (0, u "RADIANS_TO_DEGREES")] 94

def k4m0 : Method := { name := "<init>", desc := "()V", sig := { parameters := [], returnType := none }, accessFlags := 2, code := none }
def k4c1 : Code := { maxStack := 2, maxLocals := 2, code := jdk_29_method_69_code, exceptionTable := #[], attributes := #[] }
def k4m1 : Method := { name := "min", desc := "(II)I", sig := { parameters := [.int, .int], returnType := some .int }, accessFlags := 9, code := some k4c1 }
/-- java/lang/Math -/
def k4 : Class := { plain "java/lang/Math" (some 0) with
  accessFlags := 49
  interfaces := #[]
  cf := some (fileOf pool4 1 #[.nestMembers #[98]] #[{ accessFlags := 2, nameIndex := 7, descriptorIndex := 8, attributes := #[] }, { accessFlags := 9, nameIndex := 201, descriptorIndex := 335, attributes := #[] }] 49 4 #[] #[{ accessFlags := 25, nameIndex := 354, descriptorIndex := 339, attributes := #[] }, { accessFlags := 25, nameIndex := 358, descriptorIndex := 339, attributes := #[] }, { accessFlags := 25, nameIndex := 361, descriptorIndex := 339, attributes := #[] }, { accessFlags := 26, nameIndex := 364, descriptorIndex := 339, attributes := #[] }, { accessFlags := 26, nameIndex := 365, descriptorIndex := 339, attributes := #[] }, { accessFlags := 26, nameIndex := 172, descriptorIndex := 173, attributes := #[] }, { accessFlags := 26, nameIndex := 176, descriptorIndex := 173, attributes := #[] }, { accessFlags := 8, nameIndex := 344, descriptorIndex := 339, attributes := #[] }, { accessFlags := 8, nameIndex := 338, descriptorIndex := 339, attributes := #[] }, { accessFlags := 4120, nameIndex := 245, descriptorIndex := 246, attributes := #[] }])
  fields := #[{ name := "E", type := .double, accessFlags := 25, slot := 0, constantValue := 0 }, { name := "PI", type := .double, accessFlags := 25, slot := 1, constantValue := 0 }, { name := "TAU", type := .double, accessFlags := 25, slot := 2, constantValue := 0 }, { name := "DEGREES_TO_RADIANS", type := .double, accessFlags := 26, slot := 3, constantValue := 0 }, { name := "RADIANS_TO_DEGREES", type := .double, accessFlags := 26, slot := 4, constantValue := 0 }, { name := "negativeZeroFloatBits", type := .long, accessFlags := 26, slot := 5, constantValue := 0 }, { name := "negativeZeroDoubleBits", type := .long, accessFlags := 26, slot := 6, constantValue := 0 }, { name := "twoToTheDoubleScaleUp", type := .double, accessFlags := 8, slot := 7, constantValue := 0 }, { name := "twoToTheDoubleScaleDown", type := .double, accessFlags := 8, slot := 8, constantValue := 0 }, { name := "$assertionsDisabled", type := .boolean, accessFlags := 4120, slot := 9, constantValue := 0 }]
  methods := #[k4m0, k4m1]
  instanceTypes := #[]
  staticTypes := #[.double, .double, .double, .double, .double, .long, .long, .double, .double, .boolean]
  resolved := Array.replicate 460 none
  statics := none }

def pool5 : Array CpInfo := pool [(2, .class_ 4), (1, u "java/lang/Object"), (0, u "<init>"), (0, u "()V"), (1, .class_ 10), (1, u "java/lang/System"), (0, u "allowSecurityManager"), (0, u "I"), (16, u "cons"), (0, u "Ljava/io/Console;"), (77, .class_ 110), (1, u "java/lang/System$CallersHolder"), (43, u "initialErrStream"), (0, u "Ljava/io/PrintStream;"), (19, u "security"), (0, u "Ljava/lang/SecurityManager;"), (31, .class_ 209), (0, u "java/lang/System$1"), (7, u "props"), (0, u "Ljava/util/Properties;"), (2, u "lineSeparator"), (0, u "Ljava/lang/String;"), (96, .class_ 321), (1, u "java/lang/System$LoggerFinder"), (5, .class_ 328), (0, u "java/lang/System$Logger"), (67, u "err"), (2, u "out"), (91, u "notSupportedJnuEncoding"), (15, u "in"), (17, u "initialIn"), (0, u "Ljava/io/InputStream;"), (35, u "bootLayer"), (0, u "Ljava/lang/ModuleLayer;"), (99, .class_ 664), (0, u "java/lang/System$2"), (9, u "NEVER"), (2, u "MAYBE"), (49, u "arraycopy"), (0, u "(Ljava/lang/Object;ILjava/lang/Object;II)V"), (72, .class_ 802), (0, u "java/lang/System$Logger$Level")] 31

def k5m0 : Method := { name := "<init>", desc := "()V", sig := { parameters := [], returnType := none }, accessFlags := 2, code := none }
def k5m1 : Method := { name := "arraycopy", desc := "(Ljava/lang/Object;ILjava/lang/Object;II)V", sig := { parameters := [(.object "java/lang/Object"), .int, (.object "java/lang/Object"), .int, .int], returnType := none }, accessFlags := 265, code := none }
/-- java/lang/System -/
def k5 : Class := { plain "java/lang/System" (some 0) with
  accessFlags := 49
  interfaces := #[]
  cf := some (fileOf pool5 8 #[.nestMembers #[319, 327, 801, 108, 663, 208]] #[{ accessFlags := 2, nameIndex := 5, descriptorIndex := 6, attributes := #[] }, { accessFlags := 265, nameIndex := 727, descriptorIndex := 728, attributes := #[] }] 49 2 #[] #[{ accessFlags := 25, nameIndex := 507, descriptorIndex := 526, attributes := #[] }, { accessFlags := 25, nameIndex := 399, descriptorIndex := 155, attributes := #[] }, { accessFlags := 25, nameIndex := 396, descriptorIndex := 155, attributes := #[] }, { accessFlags := 10, nameIndex := 525, descriptorIndex := 526, attributes := #[] }, { accessFlags := 26, nameIndex := 674, descriptorIndex := 12, attributes := #[] }, { accessFlags := 26, nameIndex := 677, descriptorIndex := 12, attributes := #[] }, { accessFlags := 10, nameIndex := 11, descriptorIndex := 12, attributes := #[] }, { accessFlags := 74, nameIndex := 175, descriptorIndex := 176, attributes := #[] }, { accessFlags := 10, nameIndex := 491, descriptorIndex := 222, attributes := #[] }, { accessFlags := 74, nameIndex := 29, descriptorIndex := 30, attributes := #[] }, { accessFlags := 74, nameIndex := 154, descriptorIndex := 155, attributes := #[] }, { accessFlags := 10, nameIndex := 217, descriptorIndex := 218, attributes := #[] }, { accessFlags := 10, nameIndex := 221, descriptorIndex := 222, attributes := #[] }, { accessFlags := 8, nameIndex := 562, descriptorIndex := 563, attributes := #[] }])
  fields := #[{ name := "in", type := (.object "java/io/InputStream"), accessFlags := 25, slot := 0, constantValue := 0 }, { name := "out", type := (.object "java/io/PrintStream"), accessFlags := 25, slot := 1, constantValue := 0 }, { name := "err", type := (.object "java/io/PrintStream"), accessFlags := 25, slot := 2, constantValue := 0 }, { name := "initialIn", type := (.object "java/io/InputStream"), accessFlags := 10, slot := 3, constantValue := 0 }, { name := "NEVER", type := .int, accessFlags := 26, slot := 4, constantValue := 0 }, { name := "MAYBE", type := .int, accessFlags := 26, slot := 5, constantValue := 0 }, { name := "allowSecurityManager", type := .int, accessFlags := 10, slot := 6, constantValue := 0 }, { name := "security", type := (.object "java/lang/SecurityManager"), accessFlags := 74, slot := 7, constantValue := 0 }, { name := "notSupportedJnuEncoding", type := (.object "java/lang/String"), accessFlags := 10, slot := 8, constantValue := 0 }, { name := "cons", type := (.object "java/io/Console"), accessFlags := 74, slot := 9, constantValue := 0 }, { name := "initialErrStream", type := (.object "java/io/PrintStream"), accessFlags := 74, slot := 10, constantValue := 0 }, { name := "props", type := (.object "java/util/Properties"), accessFlags := 10, slot := 11, constantValue := 0 }, { name := "lineSeparator", type := (.object "java/lang/String"), accessFlags := 10, slot := 12, constantValue := 0 }, { name := "bootLayer", type := (.object "java/lang/ModuleLayer"), accessFlags := 8, slot := 13, constantValue := 0 }]
  methods := #[k5m0, k5m1]
  instanceTypes := #[]
  staticTypes := #[(.object "java/io/InputStream"), (.object "java/io/PrintStream"), (.object "java/io/PrintStream"), (.object "java/io/InputStream"), .int, .int, .int, (.object "java/lang/SecurityManager"), (.object "java/lang/String"), (.object "java/io/Console"), (.object "java/io/PrintStream"), (.object "java/util/Properties"), (.object "java/lang/String"), (.object "java/lang/ModuleLayer")]
  resolved := Array.replicate 834 none
  statics := none }

def pool6 : Array CpInfo := pool [(1, u "java/lang/Cloneable"), (0, .class_ 1), (0, u "java/lang/Object"), (0, .class_ 3)] 3

/-- java/lang/Cloneable -/
def k6 : Class := { plain "java/lang/Cloneable" (some 0) with
  accessFlags := 1537
  interfaces := #[]
  cf := some (fileOf pool6 2 #[] #[] 1537 4 #[] #[])
  fields := #[]
  methods := #[]
  instanceTypes := #[]
  staticTypes := #[]
  resolved := Array.replicate 8 none
  statics := none }

def pool7 : Array CpInfo := pool [(1, u "java/io/Serializable"), (0, .class_ 1), (0, u "java/lang/Object"), (0, .class_ 3)] 3

/-- java/io/Serializable -/
def k7 : Class := { plain "java/io/Serializable" (some 0) with
  accessFlags := 1537
  interfaces := #[]
  cf := some (fileOf pool7 2 #[] #[] 1537 4 #[] #[])
  fields := #[]
  methods := #[]
  instanceTypes := #[]
  staticTypes := #[]
  resolved := Array.replicate 8 none
  statics := none }

/-- the primitive byte -/
def k8 : Class := { plain "byte" none with kind := .primitive 'B', accessFlags := 0x411 }
/-- [B -/
def k9 : Class := { plain "[B" (some 0) with kind := .array 8 .byte, interfaces := #[6, 7], accessFlags := 1041 }

/-- the primitive int -/
def k10 : Class := { plain "int" none with kind := .primitive 'I', accessFlags := 0x411 }
/-- [I -/
def k11 : Class := { plain "[I" (some 0) with kind := .array 10 .int, interfaces := #[6, 7], accessFlags := 1041 }

def heap : Heap := #[]
def classes : Array Class := #[k0, k1, k2, k3, k4, k5, k6, k7, k8, k9, k10, k11]
def interned : List (Array UInt16 × Addr) := []
def slotsUsed : Nat := 0
def theMethod : MethodId := ⟨1, 2⟩
def args0 : Array Value := #[.int 3, .int 2, .int 1, .int 7]
def aboutOver (below : List Frame) : State where
  vm := { classes := classes, interned := interned.toArray }
  heap := heap
  slotsUsed := slotsUsed
  threads := #[{ frames := .invoking theMethod args0 :: below }]
def below0 : List Frame := [.native { method := ⟨0, 0⟩, args := #[] }]
def about1 : State := aboutOver below0
def p0 : Program := .bare "" "" ""
def e0 : Env := launch0.env 0 0 0
theorem w_frames : about1.frames = Frame.invoking theMethod args0 :: below0 := rfl
set_option maxRecDepth 65536 in
theorem w_args : argsFit about1.vm theMethod args0 = true := by decide +kernel
set_option maxRecDepth 65536 in
theorem w_heap : heapFits about1 = true := by decide +kernel
set_option maxRecDepth 65536 in
theorem w_runnable : about1.curStatus? = some .runnable := by decide +kernel
set_option maxRecDepth 65536 in
theorem w_alone : about1.alone = true := by decide +kernel
set_option maxRecDepth 65536 in
theorem w_named : about1.methodNamed? x = some theMethod := by decide +kernel
set_option maxRecDepth 65536 in
theorem w_hears : about1.hears theMethod below0 = true := by decide +kernel
set_option maxRecDepth 65536 in
theorem w_ripe : about1.ripe theMethod args0 below0 = true := by decide +kernel
theorem w_running : about1.status = .running := rfl
set_option maxRecDepth 65536 in
theorem w_room : about1.hasRoom e0.platform room_1 = true :=
  launch0.hasRoom_least _ room_1 (by decide +kernel) (by decide +kernel) (by decide +kernel) (by decide +kernel) (by decide +kernel) (by decide +kernel)
theorem allAtoms_all (ts : List Jvm.Cond) (a : Array Jvm.Value) (st : Jvm.State) : (allAtoms ts).before a st = ts.all (fun c => c.before a st) := by
  induction ts with
  | nil => rfl
  | cons c t ih =>
    show (Jvm.Cond.and c (allAtoms t)).before a st = _
    rw [Jvm.Cond.before_and, ih, List.all_cons]
def words1 : List Jvm.Cond := Jvm.Cond.code x code maxLocals ret :: tables_1
/-- a 'code' word, met by the world's own term for the bytes: nothing is compared byte by byte -/
theorem code_word {y : MethodName} {bytes : ByteArray} {mx : Nat} {rt : Option FieldType} {a : Array Value} {s : State} {m : MethodId} {meth : Method} {c : Code} (h1 : s.methodNamed? y = some m) (h2 : s.vm.method? m = some meth) (h3 : meth.code = some c) (h4 : c.code = bytes)
    (h5 : (c.maxLocals == mx && c.exceptionTable.isEmpty && decide (c.maxStack ≤ mostOperands) && decide (meth.sig.returnType = rt) && !meth.locks && decide (parseMethodDescriptor y.desc = some meth.sig)) = true) : (Jvm.Cond.code y bytes mx rt).before a s = true := by
  simp only [Bool.and_eq_true, beq_iff_eq, Bool.not_eq_true', decide_eq_true_eq] at h5
  obtain ⟨⟨⟨⟨⟨g1, g2⟩, g3⟩, g4⟩, g5⟩, g6⟩ := h5
  simp [Cond.before, Cond.holds, Cond.value, h1, h2, h3, h4, g1, g2, g3, g4, g5, g6]
def isCode : Jvm.Cond → Bool
  | .code _ _ _ _ => true
  | _ => false
theorem all_split {L : List Jvm.Cond} {P : Jvm.Cond → Bool} (h1 : L.all (fun c => isCode c || P c) = true) (h2 : ∀ c ∈ L.filter isCode, P c = true) : L.all P = true := by
  refine List.all_eq_true.mpr fun c hc => ?_
  have h := List.all_eq_true.mp h1 c hc
  rcases Bool.eq_false_or_eq_true (isCode c) with hi | hi
  · exact h2 c (List.mem_filter.mpr ⟨hc, hi⟩)
  · simpa [hi] using h
set_option maxRecDepth 65536 in
theorem w_c0 : (Jvm.Cond.code x code maxLocals ret).before args0 about1 = true := code_word (m := ⟨1, 2⟩) (meth := k1m2) (c := k1c2) (by decide +kernel) rfl rfl rfl (by decide +kernel)
set_option maxRecDepth 65536 in
theorem w_c1 : (Jvm.Cond.code ({ cls := "com/example/periodica/periodica/ledger/StoredFields$Out", name := "<init>", desc := "()V" } : Jvm.MethodName) prog_53_method_1_code (1 : Nat) (Option.none : Option Jvm.ClassFile.FieldType)).before args0 about1 = true := code_word (m := ⟨2, 0⟩) (meth := k2m0) (c := k2c0) (by decide +kernel) rfl rfl rfl (by decide +kernel)
set_option maxRecDepth 65536 in
theorem w_c2 : (Jvm.Cond.code ({ cls := "java/lang/Object", name := "<init>", desc := "()V" } : Jvm.MethodName) object_method_1_code (1 : Nat) (Option.none : Option Jvm.ClassFile.FieldType)).before args0 about1 = true := code_word (m := ⟨0, 0⟩) (meth := k0m0) (c := k0c0) (by decide +kernel) rfl rfl rfl (by decide +kernel)
set_option maxRecDepth 65536 in
theorem w_c3 : (Jvm.Cond.code ({ cls := "com/example/periodica/periodica/ledger/StoredFields$Out", name := "toByteArray", desc := "()[B" } : Jvm.MethodName) prog_53_method_9_code (1 : Nat) (Option.some (Jvm.ClassFile.FieldType.array Jvm.ClassFile.FieldType.byte))).before args0 about1 = true := code_word (m := ⟨2, 3⟩) (meth := k2m3) (c := k2c3) (by decide +kernel) rfl rfl rfl (by decide +kernel)
set_option maxRecDepth 65536 in
theorem w_c4 : (Jvm.Cond.code ({ cls := "java/util/Arrays", name := "copyOf", desc := "([BI)[B" } : Jvm.MethodName) jdk_65_method_121_code (3 : Nat) (Option.some (Jvm.ClassFile.FieldType.array Jvm.ClassFile.FieldType.byte))).before args0 about1 = true := code_word (m := ⟨3, 1⟩) (meth := k3m1) (c := k3c1) (by decide +kernel) rfl rfl rfl (by decide +kernel)
set_option maxRecDepth 65536 in
theorem w_c5 : (Jvm.Cond.code ({ cls := "java/lang/Math", name := "min", desc := "(II)I" } : Jvm.MethodName) jdk_29_method_69_code (2 : Nat) (Option.some Jvm.ClassFile.FieldType.int)).before args0 about1 = true := code_word (m := ⟨4, 1⟩) (meth := k4m1) (c := k4c1) (by decide +kernel) rfl rfl rfl (by decide +kernel)
set_option maxRecDepth 65536 in
theorem w_c6 : (Jvm.Cond.code ({ cls := "com/example/periodica/periodica/ledger/StoredFields$Out", name := "writeByte", desc := "(I)V" } : Jvm.MethodName) prog_53_method_3_code (2 : Nat) (Option.none : Option Jvm.ClassFile.FieldType)).before args0 about1 = true := code_word (m := ⟨2, 2⟩) (meth := k2m2) (c := k2c2) (by decide +kernel) rfl rfl rfl (by decide +kernel)
set_option maxRecDepth 65536 in
theorem w_c7 : (Jvm.Cond.code ({ cls := "com/example/periodica/periodica/ledger/StoredFields$Out", name := "room", desc := "(I)V" } : Jvm.MethodName) prog_53_method_10_code (2 : Nat) (Option.none : Option Jvm.ClassFile.FieldType)).before args0 about1 = true := code_word (m := ⟨2, 4⟩) (meth := k2m4) (c := k2c4) (by decide +kernel) rfl rfl rfl (by decide +kernel)
set_option maxRecDepth 65536 in
theorem w_c8 : (Jvm.Cond.code ({ cls := "com/example/periodica/periodica/ledger/StoredFields$Out", name := "writeInt", desc := "(I)V" } : Jvm.MethodName) prog_53_method_2_code (2 : Nat) (Option.none : Option Jvm.ClassFile.FieldType)).before args0 about1 = true := code_word (m := ⟨2, 1⟩) (meth := k2m1) (c := k2c1) (by decide +kernel) rfl rfl rfl (by decide +kernel)
set_option maxRecDepth 65536 in
theorem w_c9 : (Jvm.Cond.code ({ cls := "com/example/periodica/periodica/ledger/OutToByteArrayPinLaw", name := "intAt", desc := "([BII)Z" } : Jvm.MethodName) method_2_code (4 : Nat) (Option.some Jvm.ClassFile.FieldType.boolean)).before args0 about1 = true := code_word (m := ⟨1, 1⟩) (meth := k1m1) (c := k1c1) (by decide +kernel) rfl rfl rfl (by decide +kernel)
def codes1 : List Jvm.Cond := [Jvm.Cond.code x code maxLocals ret, Jvm.Cond.code ({ cls := "com/example/periodica/periodica/ledger/StoredFields$Out", name := "<init>", desc := "()V" } : Jvm.MethodName) prog_53_method_1_code (1 : Nat) (Option.none : Option Jvm.ClassFile.FieldType), Jvm.Cond.code ({ cls := "java/lang/Object", name := "<init>", desc := "()V" } : Jvm.MethodName) object_method_1_code (1 : Nat) (Option.none : Option Jvm.ClassFile.FieldType), Jvm.Cond.code ({ cls := "com/example/periodica/periodica/ledger/StoredFields$Out", name := "toByteArray", desc := "()[B" } : Jvm.MethodName) prog_53_method_9_code (1 : Nat) (Option.some (Jvm.ClassFile.FieldType.array Jvm.ClassFile.FieldType.byte)), Jvm.Cond.code ({ cls := "java/util/Arrays", name := "copyOf", desc := "([BI)[B" } : Jvm.MethodName) jdk_65_method_121_code (3 : Nat) (Option.some (Jvm.ClassFile.FieldType.array Jvm.ClassFile.FieldType.byte)), Jvm.Cond.code ({ cls := "java/lang/Math", name := "min", desc := "(II)I" } : Jvm.MethodName) jdk_29_method_69_code (2 : Nat) (Option.some Jvm.ClassFile.FieldType.int), Jvm.Cond.code ({ cls := "com/example/periodica/periodica/ledger/StoredFields$Out", name := "writeByte", desc := "(I)V" } : Jvm.MethodName) prog_53_method_3_code (2 : Nat) (Option.none : Option Jvm.ClassFile.FieldType), Jvm.Cond.code ({ cls := "com/example/periodica/periodica/ledger/StoredFields$Out", name := "room", desc := "(I)V" } : Jvm.MethodName) prog_53_method_10_code (2 : Nat) (Option.none : Option Jvm.ClassFile.FieldType), Jvm.Cond.code ({ cls := "com/example/periodica/periodica/ledger/StoredFields$Out", name := "writeInt", desc := "(I)V" } : Jvm.MethodName) prog_53_method_2_code (2 : Nat) (Option.none : Option Jvm.ClassFile.FieldType), Jvm.Cond.code ({ cls := "com/example/periodica/periodica/ledger/OutToByteArrayPinLaw", name := "intAt", desc := "([BII)Z" } : Jvm.MethodName) method_2_code (4 : Nat) (Option.some Jvm.ClassFile.FieldType.boolean)]
set_option maxRecDepth 65536 in
theorem codes_eq : words1.filter isCode = codes1 := rfl
theorem w_codes : ∀ c ∈ words1.filter isCode, c.before args0 about1 = true := by
  rw [codes_eq]
  intro c hc
  simp only [codes1, List.mem_cons, List.not_mem_nil, or_false] at hc
  rcases hc with rfl | rfl | rfl | rfl | rfl | rfl | rfl | rfl | rfl | rfl
  · exact w_c0
  · exact w_c1
  · exact w_c2
  · exact w_c3
  · exact w_c4
  · exact w_c5
  · exact w_c6
  · exact w_c7
  · exact w_c8
  · exact w_c9
set_option maxRecDepth 65536 in
theorem w_t1 : (words1.take 24).all (fun c => isCode c || c.before args0 about1) = true := by decide +kernel
set_option maxRecDepth 65536 in
theorem w_t2 : ((words1.drop 24).take 24).all (fun c => isCode c || c.before args0 about1) = true := by decide +kernel
set_option maxRecDepth 65536 in
theorem w_t3 : ((words1.drop 24).drop 24).all (fun c => isCode c || c.before args0 about1) = true := by decide +kernel
theorem w_tables : (allAtoms (Jvm.Cond.code x code maxLocals ret :: tables_1)).before args0 about1 = true := by
  rw [allAtoms_all]
  show words1.all (fun c => c.before args0 about1) = true
  refine all_split ?_ w_codes
  rw [← List.take_append_drop 24 words1, List.all_append, w_t1, ← List.take_append_drop 24 (words1.drop 24), List.all_append, w_t2, w_t3]
  rfl
set_option maxRecDepth 65536 in
theorem w_case : (Jvm.Cond.and given_1 narrow_1).before args0 about1 = true := by decide +kernel
theorem w_applies : (headSpec (Jvm.Cond.code x code maxLocals ret :: tables_1) room_1).applies x e0.platform about1 = true :=
  (Spec.applies_iff w_frames).mpr ⟨w_running, w_runnable, w_alone, w_named, w_hears, w_ripe, w_room, w_tables⟩
theorem atStart : AtStart classFile x code maxLocals ret World_1 tables_1 room_1 Calls_1 rest_1 Pre_1 launch0 p0 e0 about1 theMethod args0 below0 :=
  ⟨lists_1, trivial, launch0.admits_env _ _ _, launch0.least_env, fairChoices_fair.cas, fairChoices_fair.clock, w_frames, w_args, w_heap, w_applies, trivial, trivial, w_case⟩
end start1
theorem witness_1 : WitnessClaimed_1 := ⟨start1.p0, start1.e0, start1.about1, start1.theMethod, start1.args0, start1.below0, start1.atStart⟩
end Jvm.Pilot.@@N@@
