import JvmDerived
import JvmDerived.Pilot.@@N@@Statement
import JvmDerived.Pilot.@@N@@Code
set_option linter.unusedVariables false
set_option linter.unusedSimpArgs false
namespace Jvm.RoadKit
open Sem ClassFile Op Lib Jvm.Stand Jvm.Free Jvm.LawKit
section New
variable {p : Program} {l : Launch} {e : Env} {R : Room} {s : State} {m : MethodId} {args : Array Value} {below : List Frame} {meth : Method} {c : Code} {T : State} {locs : List Loc} {cells slots : Nat}
theorem retI (X : Stand p l e R s m args below meth c T locs cells slots) (hx : p.tables.exec = Jvm.exec) {pc : Nat} {Ls : Array Slot} {z : Int32} {rest : List Value} (hret : meth.sig.returnType = some .int) (hd : decode c.code pc = .ok (.ireturn, 1)) {fs : List Frame}
    (hl : ∀ (f : JFrame) (acts : List Action), f.method = m → f.locked = none → f.entered = [] → (doReturn e (T.setTop f) acts (some (.int z))).1 = T.setFrames fs) : Steps p.tables e below (T.setTop (mkF m pc Ls (.int z :: rest))) (T.setFrames fs) := by
  have hm' : T.vm.method? m = some meth := X.method'
  have hn : narrow .int (.int z) = .int z := rfl
  show Steps p.tables e below (T.setTop { method := m, pc := pc, locals := Ls, stack := _ :: rest, locked := none }) _
  jvm_step X.here [X.here.top, hx, hd, hm', hret, hn]
  first | (intro acts; rw [hl _ acts rfl rfl rfl]) | rw [hl _ _ rfl rfl rfl]
  exact Steps.refl _
end New
end Jvm.RoadKit
namespace Jvm.Pilot.@@N@@
open Jvm Jvm.ClassFile Sem Op Lib Jvm.Free Jvm.Stand Jvm.LawKit Jvm.RoadKit Bundle Jvm.Pilot.@@N@@.Jvm.D
theorem own_pd0 : parseMethodDescriptor "(J[B)V" = some ⟨[.long, (.array .byte)], none⟩ := by decide +kernel
theorem own_pd1 : parseMethodDescriptor "()Z" = some ⟨[], some .boolean⟩ := by decide +kernel
theorem own_pd2 : parseMethodDescriptor "()J" = some ⟨[], some .long⟩ := by decide +kernel
theorem d1_0 : decode prog_56_method_1_code 0 = .ok (.aload_n 0, 1) := by decide +kernel
theorem d1_1 : decode prog_56_method_1_code 1 = .ok (.invokespecial 1, 3) := by decide +kernel
theorem d1_4 : decode prog_56_method_1_code 4 = .ok (.aload_n 0, 1) := by decide +kernel
theorem d1_5 : decode prog_56_method_1_code 5 = .ok (.lload_n 1, 1) := by decide +kernel
theorem d1_6 : decode prog_56_method_1_code 6 = .ok (.putfield 7, 3) := by decide +kernel
theorem d1_9 : decode prog_56_method_1_code 9 = .ok (.aload_n 0, 1) := by decide +kernel
theorem d1_10 : decode prog_56_method_1_code 10 = .ok (.aload_n 3, 1) := by decide +kernel
theorem d1_11 : decode prog_56_method_1_code 11 = .ok (.ifnonnull 7, 3) := by decide +kernel
theorem d1_14 : decode prog_56_method_1_code 14 = .ok (.aconst_null, 1) := by decide +kernel
theorem d1_15 : decode prog_56_method_1_code 15 = .ok (.goto 10, 3) := by decide +kernel
theorem d1_18 : decode prog_56_method_1_code 18 = .ok (.aload_n 3, 1) := by decide +kernel
theorem d1_19 : decode prog_56_method_1_code 19 = .ok (.invokevirtual 13, 3) := by decide +kernel
theorem d1_22 : decode prog_56_method_1_code 22 = .ok (.checkcast 14, 3) := by decide +kernel
theorem d1_25 : decode prog_56_method_1_code 25 = .ok (.putfield 19, 3) := by decide +kernel
theorem d1_28 : decode prog_56_method_1_code 28 = .ok (.return_, 1) := by decide +kernel
theorem pn_rm_in0 : plainName "com/example/narrow_grant/narrowgrant/session/FrontVersion" = true := by first | (simp [plainName, overriddenIn]; done) | decide +kernel
theorem ef_rm_in0 (m : MethodId) (va : Addr) (vn : Int64) : entryFrame m #[(.ref va), (.long vn), .null] 4 = mkF m 0 #[.val (.ref va), .val (.long vn), .second, .val .null] [] := by first | (simp [entryFrame, mkF, argsToLocals, Value.category]; done) | rfl
def Q_in0 (Z : State) (va : Addr) (vn : Int64) (h0 : Heap) (n0 : Nat) (v : Option Value) (h : Heap) (L : List Loc) : Prop := v = none ∧ Fr n0 L ∧ Keep h0 h [va] ∧ Exa Z h va "com/example/narrow_grant/narrowgrant/session/FrontVersion" ∧ Fld Z h va "com/example/narrow_grant/narrowgrant/session/FrontVersion" "number" "J" (.long vn) ∧ Fld Z h va "com/example/narrow_grant/narrowgrant/session/FrontVersion" "front" "[B" .null
set_option maxRecDepth 65536 in
set_option maxHeartbeats 40000000 in
theorem rm_in0 (l : Launch) (Z : State) (a0 : Array Value) (hw : ∀ d ∈ tables_1, d.before a0 Z = true) (ws : List Jvm.Cond) (va : Addr) (vn : Int64) (h0 : Heap) (n0 : Nat) (Z0 : n0 ≤ h0.size) (E_a : Exa Z h0 va "com/example/narrow_grant/narrowgrant/session/FrontVersion") (g_va : n0 ≤ va) (F_n : Fld Z h0 va "com/example/narrow_grant/narrowgrant/session/FrontVersion" "number" "J" (.long (0 : Int64))) (F_f : Fld Z h0 va "com/example/narrow_grant/narrowgrant/session/FrontVersion" "front" "[B" .null) :
    MetFree l (⟨"com/example/narrow_grant/narrowgrant/session/FrontVersion", "<init>", "(J[B)V"⟩ : MethodName) (head1 (Jvm.Cond.code (⟨"com/example/narrow_grant/narrowgrant/session/FrontVersion", "<init>", "(J[B)V"⟩ : MethodName) prog_56_method_1_code 4 none :: ws) ({ frames := 1, cells := 0, slots := 0, locals := 12 } : Room)) (fun a U => a = #[(.ref va), (.long vn), .null] ∧ Z.Warmed39 U.vm ∧ U.heap = h0) (fun _ _ _ _ _ => True) (fun _ U o U' => ∃ v L, o = .returned v ∧ Q_in0 Z va vn h0 n0 v U'.heap L ∧ FrameEnd U o U' L ({ frames := 1, cells := 0, slots := 0, locals := 12 } : Room).cells ({ frames := 1, cells := 0, slots := 0, locals := 12 } : Room).slots) := by
  refine MetFree.of_bodySF (plainFor_of_name pn_rm_in0) hisR ?_
  intro p e s m args below meth c s₁ Bd hml0 hP hK
  obtain ⟨rfl, hZ, hh⟩ := hP
  have hx := Bd.exec
  have hby := Bd.bytes
  have hml : c.maxLocals = 4 := hml0
  have hown : s.vm.findClass "com/example/narrow_grant/narrowgrant/session/FrontVersion" = some m.cls := findClass_of_methodNamed Bd.named
  have hnm := (name_of_methodNamed Bd.named Bd.method).1
  have X0 : Stand p l e ({ frames := 1, cells := 0, slots := 0, locals := 12 } : Room) s m #[(.ref va), (.long vn), .null] below meth c s₁ [] 0 0 := Stand.of_body Bd
  have e0 : s₁.heap = h0 := by rw [← hh, Bd.state]; rfl
  have N0 := Fr.nil n0
  have pre0 : ∀ t, Steps p.tables e below (s₁.setTop (mkF m 0 #[.val (.ref va), .val (.long vn), .second, .val .null] [])) t → Steps p.tables e below (s₁.setTop (entryFrame m #[(.ref va), (.long vn), .null] 4)) t := fun t k => castTop (ef_rm_in0 m va vn) k
  obtain ⟨T1, X1, e1, st1⟩ := initO X0 hx hZ hown (hw _ (List.mem_of_getElem? (i := 7) rfl)) (hw _ (List.mem_of_getElem? (i := 8) rfl)) (hw _ (List.mem_of_getElem? (i := 9) rfl)) e0 (g := (mkF m 1 #[.val (.ref va), .val (.long vn), .second, .val .null] [(.ref va)])) rfl (by rw [hml]; rfl) rfl (hb hby d1_1) (by decide) (W := 0) (by show 2 * 0 + _ ≤ _; exact Nat.le_of_eq rfl) (by decide)
  obtain ⟨T2, h2, X2, e2, W2, st2⟩ := putF X1 hx hZ hown (host := "") (Or.inl (hw _ (List.mem_of_getElem? (i := 10) rfl))) Via.refl e1 F_n E_a (Or.inr ⟨(hw _ (List.mem_of_getElem? (i := 11) rfl)), rfl, hnm⟩) (hw _ (List.mem_of_getElem? (i := 2) rfl)) (ty := .long) (by decide) rfl rfl (g := (mkF m 6 #[.val (.ref va), .val (.long vn), .second, .val .null] [(.long vn), (.ref va)])) rfl rfl (hb hby d1_6)
  have N2 := Fr.snoc X2 N0 g_va
  have Fw2 := Fld.same W2 F_n
  have Zp3 : n0 ≤ h2.size := Nat.le_trans Z0 (Nat.le_of_eq (Wr.size W2).symm)
  have Fc4 := (Fld.other W2 F_f (Or.inr (slot_ne (Or.inr (hw _ (List.mem_of_getElem? (i := 13) rfl))) (Or.inr (hw _ (List.mem_of_getElem? (i := 11) rfl))) (by decide) (t := (.array .byte)) (t' := .long) (by decide) (by decide))))
  have Fc5 := (Exa.wr W2 E_a)
  obtain ⟨T6, h6, X6, e6, W6, st6⟩ := putF X2 hx hZ hown (host := "") (Or.inl (hw _ (List.mem_of_getElem? (i := 12) rfl))) Via.refl e2 Fc4 Fc5 (Or.inr ⟨(hw _ (List.mem_of_getElem? (i := 13) rfl)), rfl, hnm⟩) (hw _ (List.mem_of_getElem? (i := 2) rfl)) (ty := (.array .byte)) (by decide) rfl rfl (g := (mkF m 25 #[.val (.ref va), .val (.long vn), .second, .val .null] [.null, (.ref va)])) rfl rfl (hb hby d1_25)
  have N6 := Fr.snoc X6 N2 g_va
  have Fw6 := Fld.same W6 Fc4
  have Zp7 : n0 ≤ h6.size := Nat.le_trans Zp3 (Nat.le_of_eq (Wr.size W6).symm)
  obtain ⟨fs, hr, hrun, hended, hW, hsame⟩ := X6.leave (v := none) (fun _ => rfl)
  refine ⟨_, _, pre0 _ ?_, hrun, hended, _, _, rfl, ?_, ⟨_, rfl⟩, hW, hsame.mono (by decide) (by decide)⟩
  · show Steps p.tables e below (s₁.setTop (mkF m 0 #[.val (.ref va), .val (.long vn), .second, .val .null] [])) _
    refine XS.aloadN X0.here hx rfl (hb hby d1_0) rfl rfl ?_
    show Steps p.tables e below (s₁.setTop (mkF m 1 #[.val (.ref va), .val (.long vn), .second, .val .null] [(.ref va)])) _
    refine st1 _ ?_
    show Steps p.tables e below (T1.setTop (mkF m 4 #[.val (.ref va), .val (.long vn), .second, .val .null] [])) _
    refine XS.aloadN X1.here hx rfl (hb hby d1_4) rfl rfl ?_
    show Steps p.tables e below (T1.setTop (mkF m 5 #[.val (.ref va), .val (.long vn), .second, .val .null] [(.ref va)])) _
    refine XS.lloadN X1.here hx rfl (hb hby d1_5) rfl ?_
    show Steps p.tables e below (T1.setTop (mkF m 6 #[.val (.ref va), .val (.long vn), .second, .val .null] [(.long vn), (.ref va)])) _
    refine st2 _ ?_
    show Steps p.tables e below (T2.setTop (mkF m 9 #[.val (.ref va), .val (.long vn), .second, .val .null] [])) _
    refine XS.aloadN X2.here hx rfl (hb hby d1_9) rfl rfl ?_
    show Steps p.tables e below (T2.setTop (mkF m 10 #[.val (.ref va), .val (.long vn), .second, .val .null] [(.ref va)])) _
    refine XS.aloadN X2.here hx rfl (hb hby d1_10) rfl rfl ?_
    show Steps p.tables e below (T2.setTop (mkF m 11 #[.val (.ref va), .val (.long vn), .second, .val .null] [.null, (.ref va)])) _
    refine XS.ifnonnullNo X2.here hx rfl (hb hby d1_11) rfl ?_
    show Steps p.tables e below (T2.setTop (mkF m 14 #[.val (.ref va), .val (.long vn), .second, .val .null] [(.ref va)])) _
    refine XS.aconstNull X2.here hx rfl (hb hby d1_14) ?_
    show Steps p.tables e below (T2.setTop (mkF m 15 #[.val (.ref va), .val (.long vn), .second, .val .null] [.null, (.ref va)])) _
    refine XS.goto X2.here hx rfl (pc0 := 15) (pc' := 25) rfl (hb hby d1_15) (by decide) (by decide) ?_
    show Steps p.tables e below (T2.setTop (mkF m 25 #[.val (.ref va), .val (.long vn), .second, .val .null] [.null, (.ref va)])) _
    refine st6 _ ?_
    show Steps p.tables e below (T6.setTop (mkF m 28 #[.val (.ref va), .val (.long vn), .second, .val .null] [])) _
    exact X6.returnOut hx Bd.returns (hb hby d1_28) hr
  · show Q_in0 Z va vn h0 n0 _ T6.heap _
    rw [e6]
    have Kc8 := (Keep.refl h0 [va]).wr W2 (Or.inl (List.mem_of_getElem? (i := 0) rfl))
    have Kc9 := Kc8.wr W6 (Or.inl (List.mem_of_getElem? (i := 0) rfl))
    have Fc10 := (Exa.wr W6 Fc5)
    have Fc11 := (Fld.other W6 Fw2 (Or.inr (slot_ne (Or.inr (hw _ (List.mem_of_getElem? (i := 11) rfl))) (Or.inr (hw _ (List.mem_of_getElem? (i := 13) rfl))) (by decide) (t := .long) (t' := (.array .byte)) (by decide) (by decide))))
    exact ⟨rfl, N6, Kc9, Fc10, Fc11, Fw6⟩
theorem pn_rm_in1 : plainName "com/example/narrow_grant/narrowgrant/session/FrontVersion" = true := by first | (simp [plainName, overriddenIn]; done) | decide +kernel
theorem ef_rm_in1 (m : MethodId) (va : Addr) (vn : Int64) (vb : Addr) : entryFrame m #[(.ref va), (.long vn), (.ref vb)] 4 = mkF m 0 #[.val (.ref va), .val (.long vn), .second, .val (.ref vb)] [] := by first | (simp [entryFrame, mkF, argsToLocals, Value.category]; done) | rfl
def Q_in1 (Z : State) (va : Addr) (vn : Int64) (vb : Addr) (kc : ClassId) (vz : Int32) (vl : List Value) (h0 : Heap) (n0 : Nat) (v : Option Value) (h : Heap) (L : List Loc) : Prop := v = none ∧ Fr n0 L ∧ Keep h0 h [va] ∧ Exa Z h va "com/example/narrow_grant/narrowgrant/session/FrontVersion" ∧ Fld Z h va "com/example/narrow_grant/narrowgrant/session/FrontVersion" "number" "J" (.long vn) ∧ ∃ b : Addr, Fld Z h va "com/example/narrow_grant/narrowgrant/session/FrontVersion" "front" "[B" (.ref b)
set_option maxRecDepth 65536 in
set_option maxHeartbeats 40000000 in
theorem rm_in1 (l : Launch) (Z : State) (a0 : Array Value) (hw : ∀ d ∈ tables_1, d.before a0 Z = true) (ws : List Jvm.Cond) (va : Addr) (vn : Int64) (vb : Addr) (kc : ClassId) (vz : Int32) (vl : List Value) (h0 : Heap) (n0 : Nat) (Z0 : n0 ≤ h0.size) (E_a : Exa Z h0 va "com/example/narrow_grant/narrowgrant/session/FrontVersion") (g_va : n0 ≤ va) (F_n : Fld Z h0 va "com/example/narrow_grant/narrowgrant/session/FrontVersion" "number" "J" (.long (0 : Int64))) (F_f : Fld Z h0 va "com/example/narrow_grant/narrowgrant/session/FrontVersion" "front" "[B" .null) (V_b : Arv Z h0 vb kc .byte vz vl (.int (0 : Int32))) (C_b : Exa Z h0 vb "[B") (hz : vz.toNatClampNeg ≤ 2) (nab : vb ≠ va) :
    MetFree l (⟨"com/example/narrow_grant/narrowgrant/session/FrontVersion", "<init>", "(J[B)V"⟩ : MethodName) (head1 (Jvm.Cond.code (⟨"com/example/narrow_grant/narrowgrant/session/FrontVersion", "<init>", "(J[B)V"⟩ : MethodName) prog_56_method_1_code 4 none :: ws) ({ frames := 1, cells := 1, slots := 2, locals := 15 } : Room)) (fun a U => a = #[(.ref va), (.long vn), (.ref vb)] ∧ Z.Warmed39 U.vm ∧ U.heap = h0) (fun _ _ _ _ _ => True) (fun _ U o U' => ∃ v L, o = .returned v ∧ Q_in1 Z va vn vb kc vz vl h0 n0 v U'.heap L ∧ FrameEnd U o U' L ({ frames := 1, cells := 1, slots := 2, locals := 15 } : Room).cells ({ frames := 1, cells := 1, slots := 2, locals := 15 } : Room).slots) := by
  refine MetFree.of_bodySF (plainFor_of_name pn_rm_in1) hisR ?_
  intro p e s m args below meth c s₁ Bd hml0 hP hK
  obtain ⟨rfl, hZ, hh⟩ := hP
  have hx := Bd.exec
  have hby := Bd.bytes
  have hml : c.maxLocals = 4 := hml0
  have hown : s.vm.findClass "com/example/narrow_grant/narrowgrant/session/FrontVersion" = some m.cls := findClass_of_methodNamed Bd.named
  have hnm := (name_of_methodNamed Bd.named Bd.method).1
  have X0 : Stand p l e ({ frames := 1, cells := 1, slots := 2, locals := 15 } : Room) s m #[(.ref va), (.long vn), (.ref vb)] below meth c s₁ [] 0 0 := Stand.of_body Bd
  have e0 : s₁.heap = h0 := by rw [← hh, Bd.state]; rfl
  have N0 := Fr.nil n0
  have pre0 : ∀ t, Steps p.tables e below (s₁.setTop (mkF m 0 #[.val (.ref va), .val (.long vn), .second, .val (.ref vb)] [])) t → Steps p.tables e below (s₁.setTop (entryFrame m #[(.ref va), (.long vn), (.ref vb)] 4)) t := fun t k => castTop (ef_rm_in1 m va vn vb) k
  obtain ⟨T1, X1, e1, st1⟩ := initO X0 hx hZ hown (hw _ (List.mem_of_getElem? (i := 7) rfl)) (hw _ (List.mem_of_getElem? (i := 8) rfl)) (hw _ (List.mem_of_getElem? (i := 9) rfl)) e0 (g := (mkF m 1 #[.val (.ref va), .val (.long vn), .second, .val (.ref vb)] [(.ref va)])) rfl (by rw [hml]; rfl) rfl (hb hby d1_1) (by decide) (W := 0) (by show 2 * 0 + _ ≤ _; exact Nat.le_of_eq rfl) (by decide)
  obtain ⟨T2, h2, X2, e2, W2, st2⟩ := putF X1 hx hZ hown (host := "") (Or.inl (hw _ (List.mem_of_getElem? (i := 10) rfl))) Via.refl e1 F_n E_a (Or.inr ⟨(hw _ (List.mem_of_getElem? (i := 11) rfl)), rfl, hnm⟩) (hw _ (List.mem_of_getElem? (i := 2) rfl)) (ty := .long) (by decide) rfl rfl (g := (mkF m 6 #[.val (.ref va), .val (.long vn), .second, .val (.ref vb)] [(.long vn), (.ref va)])) rfl rfl (hb hby d1_6)
  have N2 := Fr.snoc X2 N0 g_va
  have Fw2 := Fld.same W2 F_n
  have Zp3 : n0 ≤ h2.size := Nat.le_trans Z0 (Nat.le_of_eq (Wr.size W2).symm)
  have Fc4 := (V_b.other W2 nab)
  have Fc5 := (Exa.wr W2 C_b)
  obtain ⟨cl6, Ar6, q6, S6, M6, H6, G6⟩ := Fc4
  have FC6 : FitC Z cl6 := fitC_of Ar6 fun i hi v hv => by rw [H6 i hi] at hv; cases hv; exact G6 i hi
  obtain ⟨T7, h7, X7, e7, E7, A7, C7, st7⟩ := cloneA X2 hx hZ hown (hw _ (List.mem_of_getElem? (i := 24) rfl)) (hw _ (List.mem_of_getElem? (i := 25) rfl)) (hw _ (List.mem_of_getElem? (i := 29) rfl)) (hw _ (List.mem_of_getElem? (i := 27) rfl)) (hw _ (List.mem_of_getElem? (i := 28) rfl)) (hw _ (List.mem_of_getElem? (i := 30) rfl)) e2 Ar6 Fc5 FC6 (g := (mkF m 19 #[.val (.ref va), .val (.long vn), .second, .val (.ref vb)] [(.ref vb), (.ref va)])) rfl (by rw [hml]; rfl) rfl (hb hby d1_19) (by decide) (W := 1) (cap := 2) (by show 2 * 0 + _ ≤ _; exact Nat.le_of_eq rfl) (by decide) (by rw [S6]; exact hz) (by decide) (by decide)
  obtain ⟨b7, g7⟩ : ∃ z, z = h2.size := ⟨_, rfl⟩
  rw [← g7] at A7 C7 st7
  have g_b7 : n0 ≤ b7 := Nat.le_trans Zp3 (Nat.le_of_eq g7.symm)
  have V7 : Arv Z h7 b7 kc .byte vz vl (.int (0 : Int32)) := ⟨cloneOf cl6, A7, q6, S6, M6, H6, G6⟩
  have Zp8 : n0 ≤ h7.size := Nat.le_trans Zp3 E7.1
  obtain ⟨T9, X9, e9, st9⟩ := castY X7 hx hZ hown (hw _ (List.mem_of_getElem? (i := 31) rfl)) e7 (Ins.self C7) (g := (mkF m 22 #[.val (.ref va), .val (.long vn), .second, .val (.ref vb)] [(.ref b7), (.ref va)])) rfl rfl (hb hby d1_22)
  have Fc10 := (Fld.ext E7 (Fld.other W2 F_f (Or.inr (slot_ne (Or.inr (hw _ (List.mem_of_getElem? (i := 13) rfl))) (Or.inr (hw _ (List.mem_of_getElem? (i := 11) rfl))) (by decide) (t := (.array .byte)) (t' := .long) (by decide) (by decide)))))
  have Fc11 := (Exa.ext E7 (Exa.wr W2 E_a))
  obtain ⟨T12, h12, X12, e12, W12, st12⟩ := putF X9 hx hZ hown (host := "") (Or.inl (hw _ (List.mem_of_getElem? (i := 12) rfl))) Via.refl e9 Fc10 Fc11 (Or.inr ⟨(hw _ (List.mem_of_getElem? (i := 13) rfl)), rfl, hnm⟩) (hw _ (List.mem_of_getElem? (i := 2) rfl)) (ty := (.array .byte)) (by decide) rfl rfl (g := (mkF m 25 #[.val (.ref va), .val (.long vn), .second, .val (.ref vb)] [(.ref b7), (.ref va)])) rfl rfl (hb hby d1_25)
  have N12 := Fr.snoc X12 N2 g_va
  have Fw12 := Fld.same W12 Fc10
  have Zp13 : n0 ≤ h12.size := Nat.le_trans Zp8 (Nat.le_of_eq (Wr.size W12).symm)
  obtain ⟨fs, hr, hrun, hended, hW, hsame⟩ := X12.leave (v := none) (fun _ => rfl)
  refine ⟨_, _, pre0 _ ?_, hrun, hended, _, _, rfl, ?_, ⟨_, rfl⟩, hW, hsame.mono (by decide) (by decide)⟩
  · show Steps p.tables e below (s₁.setTop (mkF m 0 #[.val (.ref va), .val (.long vn), .second, .val (.ref vb)] [])) _
    refine XS.aloadN X0.here hx rfl (hb hby d1_0) rfl rfl ?_
    show Steps p.tables e below (s₁.setTop (mkF m 1 #[.val (.ref va), .val (.long vn), .second, .val (.ref vb)] [(.ref va)])) _
    refine st1 _ ?_
    show Steps p.tables e below (T1.setTop (mkF m 4 #[.val (.ref va), .val (.long vn), .second, .val (.ref vb)] [])) _
    refine XS.aloadN X1.here hx rfl (hb hby d1_4) rfl rfl ?_
    show Steps p.tables e below (T1.setTop (mkF m 5 #[.val (.ref va), .val (.long vn), .second, .val (.ref vb)] [(.ref va)])) _
    refine XS.lloadN X1.here hx rfl (hb hby d1_5) rfl ?_
    show Steps p.tables e below (T1.setTop (mkF m 6 #[.val (.ref va), .val (.long vn), .second, .val (.ref vb)] [(.long vn), (.ref va)])) _
    refine st2 _ ?_
    show Steps p.tables e below (T2.setTop (mkF m 9 #[.val (.ref va), .val (.long vn), .second, .val (.ref vb)] [])) _
    refine XS.aloadN X2.here hx rfl (hb hby d1_9) rfl rfl ?_
    show Steps p.tables e below (T2.setTop (mkF m 10 #[.val (.ref va), .val (.long vn), .second, .val (.ref vb)] [(.ref va)])) _
    refine XS.aloadN X2.here hx rfl (hb hby d1_10) rfl rfl ?_
    show Steps p.tables e below (T2.setTop (mkF m 11 #[.val (.ref va), .val (.long vn), .second, .val (.ref vb)] [(.ref vb), (.ref va)])) _
    refine XS.ifnonnullYes X2.here hx rfl (pc0 := 11) (pc' := 18) rfl (hb hby d1_11) rfl (by decide) (by decide) ?_
    show Steps p.tables e below (T2.setTop (mkF m 18 #[.val (.ref va), .val (.long vn), .second, .val (.ref vb)] [(.ref va)])) _
    refine XS.aloadN X2.here hx rfl (hb hby d1_18) rfl rfl ?_
    show Steps p.tables e below (T2.setTop (mkF m 19 #[.val (.ref va), .val (.long vn), .second, .val (.ref vb)] [(.ref vb), (.ref va)])) _
    refine st7 _ ?_
    show Steps p.tables e below (T7.setTop (mkF m 22 #[.val (.ref va), .val (.long vn), .second, .val (.ref vb)] [(.ref b7), (.ref va)])) _
    refine st9 _ ?_
    show Steps p.tables e below (T9.setTop (mkF m 25 #[.val (.ref va), .val (.long vn), .second, .val (.ref vb)] [(.ref b7), (.ref va)])) _
    refine st12 _ ?_
    show Steps p.tables e below (T12.setTop (mkF m 28 #[.val (.ref va), .val (.long vn), .second, .val (.ref vb)] [])) _
    exact X12.returnOut hx Bd.returns (hb hby d1_28) hr
  · show Q_in1 Z va vn vb kc vz vl h0 n0 _ T12.heap _
    rw [e12]
    have Kc14 := (Keep.refl h0 [va]).wr W2 (Or.inl (List.mem_of_getElem? (i := 0) rfl))
    have Kc15 := Kc14.ext E7
    have Kc16 := Kc15.wr W12 (Or.inl (List.mem_of_getElem? (i := 0) rfl))
    have Fc17 := (Exa.wr W12 Fc11)
    have Fc18 := (Fld.other W12 (Fld.ext E7 Fw2) (Or.inr (slot_ne (Or.inr (hw _ (List.mem_of_getElem? (i := 11) rfl))) (Or.inr (hw _ (List.mem_of_getElem? (i := 13) rfl))) (by decide) (t := .long) (t' := (.array .byte)) (by decide) (by decide))))
    exact ⟨rfl, N12, Kc16, Fc17, Fc18, ⟨b7, Fw12⟩⟩
theorem d3_0 : decode prog_56_method_4_code 0 = .ok (.aload_n 0, 1) := by decide +kernel
theorem d3_1 : decode prog_56_method_4_code 1 = .ok (.getfield 19, 3) := by decide +kernel
theorem d3_4 : decode prog_56_method_4_code 4 = .ok (.ifnull 7, 3) := by decide +kernel
theorem d3_7 : decode prog_56_method_4_code 7 = .ok (.iconst 1, 1) := by decide +kernel
theorem d3_8 : decode prog_56_method_4_code 8 = .ok (.goto 4, 3) := by decide +kernel
theorem d3_11 : decode prog_56_method_4_code 11 = .ok (.iconst 0, 1) := by decide +kernel
theorem d3_12 : decode prog_56_method_4_code 12 = .ok (.ireturn, 1) := by decide +kernel
theorem pn_rm_wr0 : plainName "com/example/narrow_grant/narrowgrant/session/FrontVersion" = true := by first | (simp [plainName, overriddenIn]; done) | decide +kernel
theorem ef_rm_wr0 (m : MethodId) (va : Addr) : entryFrame m #[(.ref va)] 1 = mkF m 0 #[.val (.ref va)] [] := by first | (simp [entryFrame, mkF, argsToLocals, Value.category]; done) | rfl
def Q_wr0 (Z : State) (va : Addr) (h0 : Heap) (n0 : Nat) (v : Option Value) (h : Heap) (L : List Loc) : Prop := v = some (.int 0) ∧ Fr n0 L ∧ h = h0
set_option maxRecDepth 65536 in
set_option maxHeartbeats 40000000 in
theorem rm_wr0 (l : Launch) (Z : State) (a0 : Array Value) (hw : ∀ d ∈ tables_1, d.before a0 Z = true) (ws : List Jvm.Cond) (va : Addr) (h0 : Heap) (n0 : Nat) (Z0 : n0 ≤ h0.size) (F_f : Fld Z h0 va "com/example/narrow_grant/narrowgrant/session/FrontVersion" "front" "[B" .null) :
    MetFree l (⟨"com/example/narrow_grant/narrowgrant/session/FrontVersion", "written", "()Z"⟩ : MethodName) (head1 (Jvm.Cond.code (⟨"com/example/narrow_grant/narrowgrant/session/FrontVersion", "written", "()Z"⟩ : MethodName) prog_56_method_4_code 1 (some .boolean) :: ws) ({ frames := 0, cells := 0, slots := 0, locals := 0 } : Room)) (fun a U => a = #[(.ref va)] ∧ Z.Warmed39 U.vm ∧ U.heap = h0) (fun _ _ _ _ _ => True) (fun _ U o U' => ∃ v L, o = .returned v ∧ Q_wr0 Z va h0 n0 v U'.heap L ∧ FrameEnd U o U' L ({ frames := 0, cells := 0, slots := 0, locals := 0 } : Room).cells ({ frames := 0, cells := 0, slots := 0, locals := 0 } : Room).slots) := by
  refine MetFree.of_bodySF (plainFor_of_name pn_rm_wr0) hisR ?_
  intro p e s m args below meth c s₁ Bd hml0 hP hK
  obtain ⟨rfl, hZ, hh⟩ := hP
  have hx := Bd.exec
  have hby := Bd.bytes
  have hml : c.maxLocals = 1 := hml0
  have hown : s.vm.findClass "com/example/narrow_grant/narrowgrant/session/FrontVersion" = some m.cls := findClass_of_methodNamed Bd.named
  have hnm := (name_of_methodNamed Bd.named Bd.method).1
  have X0 : Stand p l e ({ frames := 0, cells := 0, slots := 0, locals := 0 } : Room) s m #[(.ref va)] below meth c s₁ [] 0 0 := Stand.of_body Bd
  have e0 : s₁.heap = h0 := by rw [← hh, Bd.state]; rfl
  have N0 := Fr.nil n0
  have pre0 : ∀ t, Steps p.tables e below (s₁.setTop (mkF m 0 #[.val (.ref va)] [])) t → Steps p.tables e below (s₁.setTop (entryFrame m #[(.ref va)] 1)) t := fun t k => castTop (ef_rm_wr0 m va) k
  obtain ⟨T1, X1, e1, st1⟩ := getF X0 hx hZ hown (host := "") (Or.inl (hw _ (List.mem_of_getElem? (i := 12) rfl))) Via.refl e0 F_f (g := (mkF m 1 #[.val (.ref va)] [(.ref va)])) rfl rfl (hb hby d3_1)
  obtain ⟨fs, hr, hrun, hended, hW, hsame⟩ := X1.leave (v := some (.int (0 : Int32))) (fun h => by rw [Bd.returns] at h; cases h)
  refine ⟨_, _, pre0 _ ?_, hrun, hended, _, _, rfl, ?_, ⟨_, rfl⟩, hW, hsame.mono (by decide) (by decide)⟩
  · show Steps p.tables e below (s₁.setTop (mkF m 0 #[.val (.ref va)] [])) _
    refine XS.aloadN X0.here hx rfl (hb hby d3_0) rfl rfl ?_
    show Steps p.tables e below (s₁.setTop (mkF m 1 #[.val (.ref va)] [(.ref va)])) _
    refine st1 _ ?_
    show Steps p.tables e below (T1.setTop (mkF m 4 #[.val (.ref va)] [.null])) _
    refine XS.ifnullYes X1.here hx rfl (pc0 := 4) (pc' := 11) rfl (hb hby d3_4) rfl (by decide) (by decide) ?_
    show Steps p.tables e below (T1.setTop (mkF m 11 #[.val (.ref va)] [])) _
    refine XS.iconst X1.here hx rfl (hb hby d3_11) ?_
    show Steps p.tables e below (T1.setTop (mkF m 12 #[.val (.ref va)] [(.int (0 : Int32))])) _
    exact retN X1 hx (t := .boolean) Bd.returns (by simp) (hb hby d3_12) hr
  · show Q_wr0 Z va h0 n0 _ T1.heap _
    rw [e1]
    exact ⟨rfl, N0, rfl⟩
theorem pn_rm_wr1 : plainName "com/example/narrow_grant/narrowgrant/session/FrontVersion" = true := by first | (simp [plainName, overriddenIn]; done) | decide +kernel
theorem ef_rm_wr1 (m : MethodId) (va : Addr) : entryFrame m #[(.ref va)] 1 = mkF m 0 #[.val (.ref va)] [] := by first | (simp [entryFrame, mkF, argsToLocals, Value.category]; done) | rfl
def Q_wr1 (Z : State) (va : Addr) (vb : Addr) (h0 : Heap) (n0 : Nat) (v : Option Value) (h : Heap) (L : List Loc) : Prop := v = some (.int 1) ∧ Fr n0 L ∧ h = h0
set_option maxRecDepth 65536 in
set_option maxHeartbeats 40000000 in
theorem rm_wr1 (l : Launch) (Z : State) (a0 : Array Value) (hw : ∀ d ∈ tables_1, d.before a0 Z = true) (ws : List Jvm.Cond) (va : Addr) (vb : Addr) (h0 : Heap) (n0 : Nat) (Z0 : n0 ≤ h0.size) (F_f : Fld Z h0 va "com/example/narrow_grant/narrowgrant/session/FrontVersion" "front" "[B" (.ref vb)) :
    MetFree l (⟨"com/example/narrow_grant/narrowgrant/session/FrontVersion", "written", "()Z"⟩ : MethodName) (head1 (Jvm.Cond.code (⟨"com/example/narrow_grant/narrowgrant/session/FrontVersion", "written", "()Z"⟩ : MethodName) prog_56_method_4_code 1 (some .boolean) :: ws) ({ frames := 0, cells := 0, slots := 0, locals := 0 } : Room)) (fun a U => a = #[(.ref va)] ∧ Z.Warmed39 U.vm ∧ U.heap = h0) (fun _ _ _ _ _ => True) (fun _ U o U' => ∃ v L, o = .returned v ∧ Q_wr1 Z va vb h0 n0 v U'.heap L ∧ FrameEnd U o U' L ({ frames := 0, cells := 0, slots := 0, locals := 0 } : Room).cells ({ frames := 0, cells := 0, slots := 0, locals := 0 } : Room).slots) := by
  refine MetFree.of_bodySF (plainFor_of_name pn_rm_wr1) hisR ?_
  intro p e s m args below meth c s₁ Bd hml0 hP hK
  obtain ⟨rfl, hZ, hh⟩ := hP
  have hx := Bd.exec
  have hby := Bd.bytes
  have hml : c.maxLocals = 1 := hml0
  have hown : s.vm.findClass "com/example/narrow_grant/narrowgrant/session/FrontVersion" = some m.cls := findClass_of_methodNamed Bd.named
  have hnm := (name_of_methodNamed Bd.named Bd.method).1
  have X0 : Stand p l e ({ frames := 0, cells := 0, slots := 0, locals := 0 } : Room) s m #[(.ref va)] below meth c s₁ [] 0 0 := Stand.of_body Bd
  have e0 : s₁.heap = h0 := by rw [← hh, Bd.state]; rfl
  have N0 := Fr.nil n0
  have pre0 : ∀ t, Steps p.tables e below (s₁.setTop (mkF m 0 #[.val (.ref va)] [])) t → Steps p.tables e below (s₁.setTop (entryFrame m #[(.ref va)] 1)) t := fun t k => castTop (ef_rm_wr1 m va) k
  obtain ⟨T1, X1, e1, st1⟩ := getF X0 hx hZ hown (host := "") (Or.inl (hw _ (List.mem_of_getElem? (i := 12) rfl))) Via.refl e0 F_f (g := (mkF m 1 #[.val (.ref va)] [(.ref va)])) rfl rfl (hb hby d3_1)
  obtain ⟨fs, hr, hrun, hended, hW, hsame⟩ := X1.leave (v := some (.int (1 : Int32))) (fun h => by rw [Bd.returns] at h; cases h)
  refine ⟨_, _, pre0 _ ?_, hrun, hended, _, _, rfl, ?_, ⟨_, rfl⟩, hW, hsame.mono (by decide) (by decide)⟩
  · show Steps p.tables e below (s₁.setTop (mkF m 0 #[.val (.ref va)] [])) _
    refine XS.aloadN X0.here hx rfl (hb hby d3_0) rfl rfl ?_
    show Steps p.tables e below (s₁.setTop (mkF m 1 #[.val (.ref va)] [(.ref va)])) _
    refine st1 _ ?_
    show Steps p.tables e below (T1.setTop (mkF m 4 #[.val (.ref va)] [(.ref vb)])) _
    refine XS.ifnullNo X1.here hx rfl (hb hby d3_4) rfl ?_
    show Steps p.tables e below (T1.setTop (mkF m 7 #[.val (.ref va)] [])) _
    refine XS.iconst X1.here hx rfl (hb hby d3_7) ?_
    show Steps p.tables e below (T1.setTop (mkF m 8 #[.val (.ref va)] [(.int (1 : Int32))])) _
    refine XS.goto X1.here hx rfl (pc0 := 8) (pc' := 12) rfl (hb hby d3_8) (by decide) (by decide) ?_
    show Steps p.tables e below (T1.setTop (mkF m 12 #[.val (.ref va)] [(.int (1 : Int32))])) _
    exact retN X1 hx (t := .boolean) Bd.returns (by simp) (hb hby d3_12) hr
  · show Q_wr1 Z va vb h0 n0 _ T1.heap _
    rw [e1]
    exact ⟨rfl, N0, rfl⟩
theorem d4_0 : decode prog_56_method_2_code 0 = .ok (.aload_n 0, 1) := by decide +kernel
theorem d4_1 : decode prog_56_method_2_code 1 = .ok (.getfield 7, 3) := by decide +kernel
theorem d4_4 : decode prog_56_method_2_code 4 = .ok (.lreturn, 1) := by decide +kernel
theorem pn_rm_nu : plainName "com/example/narrow_grant/narrowgrant/session/FrontVersion" = true := by first | (simp [plainName, overriddenIn]; done) | decide +kernel
theorem ef_rm_nu (m : MethodId) (va : Addr) : entryFrame m #[(.ref va)] 1 = mkF m 0 #[.val (.ref va)] [] := by first | (simp [entryFrame, mkF, argsToLocals, Value.category]; done) | rfl
def Q_nu (Z : State) (va : Addr) (vn : Int64) (h0 : Heap) (n0 : Nat) (v : Option Value) (h : Heap) (L : List Loc) : Prop := v = some (.long vn) ∧ Fr n0 L ∧ h = h0
set_option maxRecDepth 65536 in
set_option maxHeartbeats 40000000 in
theorem rm_nu (l : Launch) (Z : State) (a0 : Array Value) (hw : ∀ d ∈ tables_1, d.before a0 Z = true) (ws : List Jvm.Cond) (va : Addr) (vn : Int64) (h0 : Heap) (n0 : Nat) (Z0 : n0 ≤ h0.size) (F_n : Fld Z h0 va "com/example/narrow_grant/narrowgrant/session/FrontVersion" "number" "J" (.long vn)) :
    MetFree l (⟨"com/example/narrow_grant/narrowgrant/session/FrontVersion", "number", "()J"⟩ : MethodName) (head1 (Jvm.Cond.code (⟨"com/example/narrow_grant/narrowgrant/session/FrontVersion", "number", "()J"⟩ : MethodName) prog_56_method_2_code 1 (some .long) :: ws) ({ frames := 0, cells := 0, slots := 0, locals := 0 } : Room)) (fun a U => a = #[(.ref va)] ∧ Z.Warmed39 U.vm ∧ U.heap = h0) (fun _ _ _ _ _ => True) (fun _ U o U' => ∃ v L, o = .returned v ∧ Q_nu Z va vn h0 n0 v U'.heap L ∧ FrameEnd U o U' L ({ frames := 0, cells := 0, slots := 0, locals := 0 } : Room).cells ({ frames := 0, cells := 0, slots := 0, locals := 0 } : Room).slots) := by
  refine MetFree.of_bodySF (plainFor_of_name pn_rm_nu) hisR ?_
  intro p e s m args below meth c s₁ Bd hml0 hP hK
  obtain ⟨rfl, hZ, hh⟩ := hP
  have hx := Bd.exec
  have hby := Bd.bytes
  have hml : c.maxLocals = 1 := hml0
  have hown : s.vm.findClass "com/example/narrow_grant/narrowgrant/session/FrontVersion" = some m.cls := findClass_of_methodNamed Bd.named
  have hnm := (name_of_methodNamed Bd.named Bd.method).1
  have X0 : Stand p l e ({ frames := 0, cells := 0, slots := 0, locals := 0 } : Room) s m #[(.ref va)] below meth c s₁ [] 0 0 := Stand.of_body Bd
  have e0 : s₁.heap = h0 := by rw [← hh, Bd.state]; rfl
  have N0 := Fr.nil n0
  have pre0 : ∀ t, Steps p.tables e below (s₁.setTop (mkF m 0 #[.val (.ref va)] [])) t → Steps p.tables e below (s₁.setTop (entryFrame m #[(.ref va)] 1)) t := fun t k => castTop (ef_rm_nu m va) k
  obtain ⟨T1, X1, e1, st1⟩ := getF X0 hx hZ hown (host := "") (Or.inl (hw _ (List.mem_of_getElem? (i := 10) rfl))) Via.refl e0 F_n (g := (mkF m 1 #[.val (.ref va)] [(.ref va)])) rfl rfl (hb hby d4_1)
  obtain ⟨fs, hr, hrun, hended, hW, hsame⟩ := X1.leave (v := some (.long vn)) (fun h => by rw [Bd.returns] at h; cases h)
  refine ⟨_, _, pre0 _ ?_, hrun, hended, _, _, rfl, ?_, ⟨_, rfl⟩, hW, hsame.mono (by decide) (by decide)⟩
  · show Steps p.tables e below (s₁.setTop (mkF m 0 #[.val (.ref va)] [])) _
    refine XS.aloadN X0.here hx rfl (hb hby d4_0) rfl rfl ?_
    show Steps p.tables e below (s₁.setTop (mkF m 1 #[.val (.ref va)] [(.ref va)])) _
    refine st1 _ ?_
    show Steps p.tables e below (T1.setTop (mkF m 4 #[.val (.ref va)] [(.long vn)])) _
    jvm_step X1.here [X1.here.top, hx, (hb hby d4_4), X1.method', Bd.returns, narrow]
    first | (intro acts; rw [hr _ acts rfl rfl rfl]) | rw [hr _ _ rfl rfl rfl]
    exact Steps.refl _
  · show Q_nu Z va vn h0 n0 _ T1.heap _
    rw [e1]
    exact ⟨rfl, N0, rfl⟩
theorem pn_rm0 : plainName "com/example/narrow_grant/narrowgrant/session/FrontVersionWrittenPinLaw" = true := by first | (simp [plainName, overriddenIn]; done) | decide +kernel
theorem ef_rm0 (m : MethodId) (vn : Int64) (vf : Int32) (vb0 : Int32) (vb1 : Int32) : entryFrame m #[(.long vn), (.int vf), (.int vb0), (.int vb1)] maxLocals = mkF m 0 #[.val (.long vn), .second, .val (.int vf), .val (.int vb0), .val (.int vb1), .unset, .unset, .unset, .unset, .unset, .unset, .unset, .unset] [] := by first | (simp [entryFrame, mkF, argsToLocals, Value.category, maxLocals]; done) | rfl
def Q0 (Z : State) (vn : Int64) (vf : Int32) (vb0 : Int32) (vb1 : Int32) (h0 : Heap) (n0 : Nat) (v : Option Value) (h : Heap) (L : List Loc) : Prop := v = some (.int 1) ∧ Fr n0 L
set_option maxRecDepth 65536 in
set_option maxHeartbeats 40000000 in
theorem rm0 (l : Launch) (Z : State) (a0 : Array Value) (hw : ∀ d ∈ tables_1, d.before a0 Z = true) (ws : List Jvm.Cond) (vn : Int64) (vf : Int32) (vb0 : Int32) (vb1 : Int32) (h0 : Heap) (n0 : Nat) (Z0 : n0 ≤ h0.size) :
    MetFree l x (head1 (Jvm.Cond.code x code maxLocals ret :: ws) room_1) (fun a U => a = #[(.long vn), (.int vf), (.int vb0), (.int vb1)] ∧ Z.Warmed39 U.vm ∧ U.heap = h0) (fun _ _ _ _ _ => True) (fun _ U o U' => ∃ v L, o = .returned v ∧ Q0 Z vn vf vb0 vb1 h0 n0 v U'.heap L ∧ FrameEnd U o U' L room_1.cells room_1.slots) := by
  refine MetFree.of_bodySF (plainFor_of_name pn_rm0) hisR ?_
  intro p e s m args below meth c s₁ Bd hml0 hP hK
  obtain ⟨rfl, hZ, hh⟩ := hP
  have hx := Bd.exec
  have hby := Bd.bytes
  have hml : c.maxLocals = 13 := hml0
  have hown : s.vm.findClass "com/example/narrow_grant/narrowgrant/session/FrontVersionWrittenPinLaw" = some m.cls := findClass_of_methodNamed Bd.named
  have hnm := (name_of_methodNamed Bd.named Bd.method).1
  have X0 : Stand p l e room_1 s m #[(.long vn), (.int vf), (.int vb0), (.int vb1)] below meth c s₁ [] 0 0 := Stand.of_body Bd
  have e0 : s₁.heap = h0 := by rw [← hh, Bd.state]; rfl
  have N0 := Fr.nil n0
  have pre0 : ∀ t, Steps p.tables e below (s₁.setTop (mkF m 0 #[.val (.long vn), .second, .val (.int vf), .val (.int vb0), .val (.int vb1), .unset, .unset, .unset, .unset, .unset, .unset, .unset, .unset] [])) t → Steps p.tables e below (s₁.setTop (entryFrame m #[(.long vn), (.int vf), (.int vb0), (.int vb1)] maxLocals)) t := fun t k => castTop (ef_rm0 m vn vf vb0 vb1) k
  have pre1 : ∀ t, Steps p.tables e below (s₁.setTop (mkF m 3 #[.val (.long vn), .second, .val (.int vf), .val (.int vb0), .val (.int vb1), .unset, .unset, .unset, .unset, .unset, .unset, .unset, .unset] [(.int (vf &&& (1 : Int32)))])) t → Steps p.tables e below (s₁.setTop (entryFrame m #[(.long vn), (.int vf), (.int vb0), (.int vb1)] maxLocals)) t := by
    intro t k
    refine pre0 t ?_
    show Steps p.tables e below (s₁.setTop (mkF m 0 #[.val (.long vn), .second, .val (.int vf), .val (.int vb0), .val (.int vb1), .unset, .unset, .unset, .unset, .unset, .unset, .unset, .unset] [])) _
    refine XS.iloadN X0.here hx rfl (hb hby at_0) rfl ?_
    show Steps p.tables e below (s₁.setTop (mkF m 1 #[.val (.long vn), .second, .val (.int vf), .val (.int vb0), .val (.int vb1), .unset, .unset, .unset, .unset, .unset, .unset, .unset, .unset] [(.int vf)])) _
    refine XS.iconst X0.here hx rfl (hb hby at_1) ?_
    show Steps p.tables e below (s₁.setTop (mkF m 2 #[.val (.long vn), .second, .val (.int vf), .val (.int vb0), .val (.int vb1), .unset, .unset, .unset, .unset, .unset, .unset, .unset, .unset] [(.int (1 : Int32)), (.int vf)])) _
    refine XS.iand X0.here hx rfl (hb hby at_2) rfl ?_
    show Steps p.tables e below (s₁.setTop (mkF m 3 #[.val (.long vn), .second, .val (.int vf), .val (.int vb0), .val (.int vb1), .unset, .unset, .unset, .unset, .unset, .unset, .unset, .unset] [(.int (vf &&& (1 : Int32)))])) _
    exact k
  by_cases hc2 : (vf &&& (1 : Int32)) = (0 : Int32)
  · have pre3 : ∀ t, Steps p.tables e below (s₁.setTop (mkF m 16 #[.val (.long vn), .second, .val (.int vf), .val (.int vb0), .val (.int vb1), .val (.int (0 : Int32)), .unset, .unset, .unset, .unset, .unset, .unset, .unset] [(.int (vf &&& (2 : Int32)))])) t → Steps p.tables e below (s₁.setTop (entryFrame m #[(.long vn), (.int vf), (.int vb0), (.int vb1)] maxLocals)) t := by
      intro t k
      refine pre1 t ?_
      show Steps p.tables e below (s₁.setTop (mkF m 3 #[.val (.long vn), .second, .val (.int vf), .val (.int vb0), .val (.int vb1), .unset, .unset, .unset, .unset, .unset, .unset, .unset, .unset] [(.int (vf &&& (1 : Int32)))])) _
      refine XS.ifYes X0.here hx rfl (pc0 := 3) (pc' := 10) rfl (hb hby at_3) rfl ((if0 _ _).trans (teq hc2).1) (by decide) (by decide) ?_
      show Steps p.tables e below (s₁.setTop (mkF m 10 #[.val (.long vn), .second, .val (.int vf), .val (.int vb0), .val (.int vb1), .unset, .unset, .unset, .unset, .unset, .unset, .unset, .unset] [])) _
      refine XS.iconst X0.here hx rfl (hb hby at_10) ?_
      show Steps p.tables e below (s₁.setTop (mkF m 11 #[.val (.long vn), .second, .val (.int vf), .val (.int vb0), .val (.int vb1), .unset, .unset, .unset, .unset, .unset, .unset, .unset, .unset] [(.int (0 : Int32))])) _
      refine XS.istore X0.here hx rfl (hb hby at_11) rfl (l' := #[.val (.long vn), .second, .val (.int vf), .val (.int vb0), .val (.int vb1), .val (.int (0 : Int32)), .unset, .unset, .unset, .unset, .unset, .unset, .unset]) rfl ?_
      show Steps p.tables e below (s₁.setTop (mkF m 13 #[.val (.long vn), .second, .val (.int vf), .val (.int vb0), .val (.int vb1), .val (.int (0 : Int32)), .unset, .unset, .unset, .unset, .unset, .unset, .unset] [])) _
      refine XS.iloadN X0.here hx rfl (hb hby at_13) rfl ?_
      show Steps p.tables e below (s₁.setTop (mkF m 14 #[.val (.long vn), .second, .val (.int vf), .val (.int vb0), .val (.int vb1), .val (.int (0 : Int32)), .unset, .unset, .unset, .unset, .unset, .unset, .unset] [(.int vf)])) _
      refine XS.iconst X0.here hx rfl (hb hby at_14) ?_
      show Steps p.tables e below (s₁.setTop (mkF m 15 #[.val (.long vn), .second, .val (.int vf), .val (.int vb0), .val (.int vb1), .val (.int (0 : Int32)), .unset, .unset, .unset, .unset, .unset, .unset, .unset] [(.int (2 : Int32)), (.int vf)])) _
      refine XS.iand X0.here hx rfl (hb hby at_15) rfl ?_
      show Steps p.tables e below (s₁.setTop (mkF m 16 #[.val (.long vn), .second, .val (.int vf), .val (.int vb0), .val (.int vb1), .val (.int (0 : Int32)), .unset, .unset, .unset, .unset, .unset, .unset, .unset] [(.int (vf &&& (2 : Int32)))])) _
      exact k
    by_cases hc4 : (vf &&& (2 : Int32)) = (0 : Int32)
    · obtain ⟨T5, h5, k5, X5, e5, E5, A5, C5, st5⟩ := newPE X0 hx hZ (hw _ (List.mem_of_getElem? (i := 0) rfl)) e0 (g := (mkF m 27 #[.val (.long vn), .second, .val (.int vf), .val (.int vb0), .val (.int vb1), .val (.int (0 : Int32)), .val (.int (0 : Int32)), .unset, .unset, .unset, .unset, .unset, .unset] [(.int (0 : Int32))])) rfl (hb hby at_27) rfl (by decide) (cap := 0) (by decide) (by decide) (by decide) (by decide) (ad := "[B") (by decide)
      obtain ⟨b5, g5⟩ : ∃ z, z = h0.size := ⟨_, rfl⟩
      rw [← g5] at A5 st5 C5
      have g_b5 : n0 ≤ b5 := Nat.le_trans Z0 (Nat.le_of_eq g5.symm)
      have Zp6 : n0 ≤ h5.size := Nat.le_trans Z0 E5.1
      have V5 : Arv Z h5 b5 k5 .byte (0 : Int32) [] (.int (0 : Int32)) := (Arv.new A5 (by decide)).pad (pad_rep [] (.int (0 : Int32)) 0)
      obtain ⟨T7, h7, k7, X7, e7, E7, A7, C7, st7⟩ := newPE X5 hx hZ (hw _ (List.mem_of_getElem? (i := 0) rfl)) e5 (g := (mkF m 32 #[.val (.long vn), .second, .val (.int vf), .val (.int vb0), .val (.int vb1), .val (.int (0 : Int32)), .val (.int (0 : Int32)), .val (.ref b5), .unset, .unset, .unset, .unset, .unset] [(.int (2 : Int32))])) rfl (hb hby at_32) rfl (by decide) (cap := 2) (by decide) (by decide) (by decide) (by decide) (ad := "[B") (by decide)
      obtain ⟨b7, g7⟩ : ∃ z, z = h5.size := ⟨_, rfl⟩
      rw [← g7] at A7 st7 C7
      have g_b7 : n0 ≤ b7 := Nat.le_trans Zp6 (Nat.le_of_eq g7.symm)
      have Zp8 : n0 ≤ h7.size := Nat.le_trans Zp6 E7.1
      have V7 : Arv Z h7 b7 k7 .byte (2 : Int32) [(.int (0 : Int32)), (.int (0 : Int32))] (.int (0 : Int32)) := (Arv.new A7 (by decide)).pad (pad_rep [] (.int (0 : Int32)) 2)
      have pre9 : ∀ t, Steps p.tables e below (T7.setTop (mkF m 41 #[.val (.long vn), .second, .val (.int vf), .val (.int vb0), .val (.int vb1), .val (.int (0 : Int32)), .val (.int (0 : Int32)), .val (.ref b5), .val (.ref b7), .unset, .unset, .unset, .unset] [(.int (vb0.toInt8.toInt32)), (.int (0 : Int32)), (.ref b7)])) t → Steps p.tables e below (s₁.setTop (entryFrame m #[(.long vn), (.int vf), (.int vb0), (.int vb1)] maxLocals)) t := by
        intro t k
        refine pre3 t ?_
        show Steps p.tables e below (s₁.setTop (mkF m 16 #[.val (.long vn), .second, .val (.int vf), .val (.int vb0), .val (.int vb1), .val (.int (0 : Int32)), .unset, .unset, .unset, .unset, .unset, .unset, .unset] [(.int (vf &&& (2 : Int32)))])) _
        refine XS.ifYes X0.here hx rfl (pc0 := 16) (pc' := 23) rfl (hb hby at_16) rfl ((if0 _ _).trans (teq hc4).1) (by decide) (by decide) ?_
        show Steps p.tables e below (s₁.setTop (mkF m 23 #[.val (.long vn), .second, .val (.int vf), .val (.int vb0), .val (.int vb1), .val (.int (0 : Int32)), .unset, .unset, .unset, .unset, .unset, .unset, .unset] [])) _
        refine XS.iconst X0.here hx rfl (hb hby at_23) ?_
        show Steps p.tables e below (s₁.setTop (mkF m 24 #[.val (.long vn), .second, .val (.int vf), .val (.int vb0), .val (.int vb1), .val (.int (0 : Int32)), .unset, .unset, .unset, .unset, .unset, .unset, .unset] [(.int (0 : Int32))])) _
        refine XS.istore X0.here hx rfl (hb hby at_24) rfl (l' := #[.val (.long vn), .second, .val (.int vf), .val (.int vb0), .val (.int vb1), .val (.int (0 : Int32)), .val (.int (0 : Int32)), .unset, .unset, .unset, .unset, .unset, .unset]) rfl ?_
        show Steps p.tables e below (s₁.setTop (mkF m 26 #[.val (.long vn), .second, .val (.int vf), .val (.int vb0), .val (.int vb1), .val (.int (0 : Int32)), .val (.int (0 : Int32)), .unset, .unset, .unset, .unset, .unset, .unset] [])) _
        refine XS.iconst X0.here hx rfl (hb hby at_26) ?_
        show Steps p.tables e below (s₁.setTop (mkF m 27 #[.val (.long vn), .second, .val (.int vf), .val (.int vb0), .val (.int vb1), .val (.int (0 : Int32)), .val (.int (0 : Int32)), .unset, .unset, .unset, .unset, .unset, .unset] [(.int (0 : Int32))])) _
        refine st5 _ ?_
        show Steps p.tables e below (T5.setTop (mkF m 29 #[.val (.long vn), .second, .val (.int vf), .val (.int vb0), .val (.int vb1), .val (.int (0 : Int32)), .val (.int (0 : Int32)), .unset, .unset, .unset, .unset, .unset, .unset] [(.ref b5)])) _
        refine XS.astore X5.here hx rfl (hb hby at_29) rfl rfl (l' := #[.val (.long vn), .second, .val (.int vf), .val (.int vb0), .val (.int vb1), .val (.int (0 : Int32)), .val (.int (0 : Int32)), .val (.ref b5), .unset, .unset, .unset, .unset, .unset]) rfl ?_
        show Steps p.tables e below (T5.setTop (mkF m 31 #[.val (.long vn), .second, .val (.int vf), .val (.int vb0), .val (.int vb1), .val (.int (0 : Int32)), .val (.int (0 : Int32)), .val (.ref b5), .unset, .unset, .unset, .unset, .unset] [])) _
        refine XS.iconst X5.here hx rfl (hb hby at_31) ?_
        show Steps p.tables e below (T5.setTop (mkF m 32 #[.val (.long vn), .second, .val (.int vf), .val (.int vb0), .val (.int vb1), .val (.int (0 : Int32)), .val (.int (0 : Int32)), .val (.ref b5), .unset, .unset, .unset, .unset, .unset] [(.int (2 : Int32))])) _
        refine st7 _ ?_
        show Steps p.tables e below (T7.setTop (mkF m 34 #[.val (.long vn), .second, .val (.int vf), .val (.int vb0), .val (.int vb1), .val (.int (0 : Int32)), .val (.int (0 : Int32)), .val (.ref b5), .unset, .unset, .unset, .unset, .unset] [(.ref b7)])) _
        refine XS.astore X7.here hx rfl (hb hby at_34) rfl rfl (l' := #[.val (.long vn), .second, .val (.int vf), .val (.int vb0), .val (.int vb1), .val (.int (0 : Int32)), .val (.int (0 : Int32)), .val (.ref b5), .val (.ref b7), .unset, .unset, .unset, .unset]) rfl ?_
        show Steps p.tables e below (T7.setTop (mkF m 36 #[.val (.long vn), .second, .val (.int vf), .val (.int vb0), .val (.int vb1), .val (.int (0 : Int32)), .val (.int (0 : Int32)), .val (.ref b5), .val (.ref b7), .unset, .unset, .unset, .unset] [])) _
        refine XS.aload X7.here hx rfl (hb hby at_36) rfl rfl ?_
        show Steps p.tables e below (T7.setTop (mkF m 38 #[.val (.long vn), .second, .val (.int vf), .val (.int vb0), .val (.int vb1), .val (.int (0 : Int32)), .val (.int (0 : Int32)), .val (.ref b5), .val (.ref b7), .unset, .unset, .unset, .unset] [(.ref b7)])) _
        refine XS.iconst X7.here hx rfl (hb hby at_38) ?_
        show Steps p.tables e below (T7.setTop (mkF m 39 #[.val (.long vn), .second, .val (.int vf), .val (.int vb0), .val (.int vb1), .val (.int (0 : Int32)), .val (.int (0 : Int32)), .val (.ref b5), .val (.ref b7), .unset, .unset, .unset, .unset] [(.int (0 : Int32)), (.ref b7)])) _
        refine XS.iloadN X7.here hx rfl (hb hby at_39) rfl ?_
        show Steps p.tables e below (T7.setTop (mkF m 40 #[.val (.long vn), .second, .val (.int vf), .val (.int vb0), .val (.int vb1), .val (.int (0 : Int32)), .val (.int (0 : Int32)), .val (.ref b5), .val (.ref b7), .unset, .unset, .unset, .unset] [(.int vb0), (.int (0 : Int32)), (.ref b7)])) _
        refine XS.i2b X7.here hx rfl (hb hby at_40) rfl ?_
        show Steps p.tables e below (T7.setTop (mkF m 41 #[.val (.long vn), .second, .val (.int vf), .val (.int vb0), .val (.int vb1), .val (.int (0 : Int32)), .val (.int (0 : Int32)), .val (.ref b5), .val (.ref b7), .unset, .unset, .unset, .unset] [(.int (vb0.toInt8.toInt32)), (.int (0 : Int32)), (.ref b7)])) _
        exact k
      obtain ⟨yb0, h_yb0⟩ : ∃ z : Int32, z = (vb0.toInt8.toInt32) := ⟨_, rfl⟩
      have pre10 : ∀ t, Steps p.tables e below (T7.setTop (mkF m 41 #[.val (.long vn), .second, .val (.int vf), .val (.int vb0), .val (.int vb1), .val (.int (0 : Int32)), .val (.int (0 : Int32)), .val (.ref b5), .val (.ref b7), .unset, .unset, .unset, .unset] [(.int yb0), (.int (0 : Int32)), (.ref b7)])) t → Steps p.tables e below (s₁.setTop (entryFrame m #[(.long vn), (.int vf), (.int vb0), (.int vb1)] maxLocals)) t := by
        subst h_yb0
        exact pre9
      obtain ⟨cl11, Ar11, q11, S11, M11, H11, G11⟩ := V7
      have hin11 : ¬ ((0 : Int32) < 0 ∨ cl11.slots.size ≤ ((0 : Int32)).toNatClampNeg) := inb_of S11 ⟨by decide, by decide⟩
      obtain ⟨T12, h12, X12, e12, W12, st12⟩ := stB X7 hx hZ e7 Ar11 (j := (0 : Int32)) hin11 (g := (mkF m 41 #[.val (.long vn), .second, .val (.int vf), .val (.int vb0), .val (.int vb1), .val (.int (0 : Int32)), .val (.int (0 : Int32)), .val (.ref b5), .val (.ref b7), .unset, .unset, .unset, .unset] [(.int yb0), (.int (0 : Int32)), (.ref b7)])) rfl rfl (hb hby at_41)
      have N12 := Fr.snoc X12 N0 g_b7
      have V12 : Arv Z h12 b7 k7 .byte (2 : Int32) [(.int (nar .byte yb0)), (.int (0 : Int32))] (.int (0 : Int32)) := Arv.set Ar11 q11 S11 M11 H11 G11 (fits_nar_byte _) W12 0 rfl (Nat.le_of_ble_eq_true rfl)
      have Zp13 : n0 ≤ h12.size := Nat.le_trans Zp8 (Nat.le_of_eq (Wr.size W12).symm)
      have pre14 : ∀ t, Steps p.tables e below (T12.setTop (mkF m 48 #[.val (.long vn), .second, .val (.int vf), .val (.int vb0), .val (.int vb1), .val (.int (0 : Int32)), .val (.int (0 : Int32)), .val (.ref b5), .val (.ref b7), .unset, .unset, .unset, .unset] [(.int (vb1.toInt8.toInt32)), (.int (1 : Int32)), (.ref b7)])) t → Steps p.tables e below (s₁.setTop (entryFrame m #[(.long vn), (.int vf), (.int vb0), (.int vb1)] maxLocals)) t := by
        intro t k
        refine pre10 t ?_
        show Steps p.tables e below (T7.setTop (mkF m 41 #[.val (.long vn), .second, .val (.int vf), .val (.int vb0), .val (.int vb1), .val (.int (0 : Int32)), .val (.int (0 : Int32)), .val (.ref b5), .val (.ref b7), .unset, .unset, .unset, .unset] [(.int yb0), (.int (0 : Int32)), (.ref b7)])) _
        refine st12 _ ?_
        show Steps p.tables e below (T12.setTop (mkF m 42 #[.val (.long vn), .second, .val (.int vf), .val (.int vb0), .val (.int vb1), .val (.int (0 : Int32)), .val (.int (0 : Int32)), .val (.ref b5), .val (.ref b7), .unset, .unset, .unset, .unset] [])) _
        refine XS.aload X12.here hx rfl (hb hby at_42) rfl rfl ?_
        show Steps p.tables e below (T12.setTop (mkF m 44 #[.val (.long vn), .second, .val (.int vf), .val (.int vb0), .val (.int vb1), .val (.int (0 : Int32)), .val (.int (0 : Int32)), .val (.ref b5), .val (.ref b7), .unset, .unset, .unset, .unset] [(.ref b7)])) _
        refine XS.iconst X12.here hx rfl (hb hby at_44) ?_
        show Steps p.tables e below (T12.setTop (mkF m 45 #[.val (.long vn), .second, .val (.int vf), .val (.int vb0), .val (.int vb1), .val (.int (0 : Int32)), .val (.int (0 : Int32)), .val (.ref b5), .val (.ref b7), .unset, .unset, .unset, .unset] [(.int (1 : Int32)), (.ref b7)])) _
        refine XS.iload X12.here hx rfl (hb hby at_45) rfl ?_
        show Steps p.tables e below (T12.setTop (mkF m 47 #[.val (.long vn), .second, .val (.int vf), .val (.int vb0), .val (.int vb1), .val (.int (0 : Int32)), .val (.int (0 : Int32)), .val (.ref b5), .val (.ref b7), .unset, .unset, .unset, .unset] [(.int vb1), (.int (1 : Int32)), (.ref b7)])) _
        refine XS.i2b X12.here hx rfl (hb hby at_47) rfl ?_
        show Steps p.tables e below (T12.setTop (mkF m 48 #[.val (.long vn), .second, .val (.int vf), .val (.int vb0), .val (.int vb1), .val (.int (0 : Int32)), .val (.int (0 : Int32)), .val (.ref b5), .val (.ref b7), .unset, .unset, .unset, .unset] [(.int (vb1.toInt8.toInt32)), (.int (1 : Int32)), (.ref b7)])) _
        exact k
      obtain ⟨yb1, h_yb1⟩ : ∃ z : Int32, z = (vb1.toInt8.toInt32) := ⟨_, rfl⟩
      have pre15 : ∀ t, Steps p.tables e below (T12.setTop (mkF m 48 #[.val (.long vn), .second, .val (.int vf), .val (.int vb0), .val (.int vb1), .val (.int (0 : Int32)), .val (.int (0 : Int32)), .val (.ref b5), .val (.ref b7), .unset, .unset, .unset, .unset] [(.int yb1), (.int (1 : Int32)), (.ref b7)])) t → Steps p.tables e below (s₁.setTop (entryFrame m #[(.long vn), (.int vf), (.int vb0), (.int vb1)] maxLocals)) t := by
        subst h_yb1
        exact pre14
      obtain ⟨cl16, Ar16, q16, S16, M16, H16, G16⟩ := V12
      have hin16 : ¬ ((1 : Int32) < 0 ∨ cl16.slots.size ≤ ((1 : Int32)).toNatClampNeg) := inb_of S16 ⟨by decide, by decide⟩
      obtain ⟨T17, h17, X17, e17, W17, st17⟩ := stB X12 hx hZ e12 Ar16 (j := (1 : Int32)) hin16 (g := (mkF m 48 #[.val (.long vn), .second, .val (.int vf), .val (.int vb0), .val (.int vb1), .val (.int (0 : Int32)), .val (.int (0 : Int32)), .val (.ref b5), .val (.ref b7), .unset, .unset, .unset, .unset] [(.int yb1), (.int (1 : Int32)), (.ref b7)])) rfl rfl (hb hby at_48)
      have N17 := Fr.snoc X17 N12 g_b7
      have V17 : Arv Z h17 b7 k7 .byte (2 : Int32) [(.int (nar .byte yb0)), (.int (nar .byte yb1))] (.int (0 : Int32)) := Arv.set Ar16 q16 S16 M16 H16 G16 (fits_nar_byte _) W17 1 rfl (Nat.le_of_ble_eq_true rfl)
      have Zp18 : n0 ≤ h17.size := Nat.le_trans Zp13 (Nat.le_of_eq (Wr.size W17).symm)
      obtain ⟨T19, h19, X19, e19, E19, A19, D19, U19, st19⟩ := newO X17 hx hZ hown (hw _ (List.mem_of_getElem? (i := 1) rfl)) (hw _ (List.mem_of_getElem? (i := 2) rfl)) (hw _ (List.mem_of_getElem? (i := 3) rfl)) e17 (g := (mkF m 73 #[.val (.long vn), .second, .val (.int vf), .val (.int vb0), .val (.int vb1), .val (.int (0 : Int32)), .val (.int (0 : Int32)), .val (.ref b5), .val (.ref b7), .val .null, .unset, .unset, .unset] [])) rfl (hb hby at_73) (by decide) (by decide)
      obtain ⟨b19, g19⟩ : ∃ z, z = h17.size := ⟨_, rfl⟩
      rw [← g19] at A19 D19 U19 st19
      have g_b19 : n0 ≤ b19 := Nat.le_trans Zp18 (Nat.le_of_eq g19.symm)
      have Zp20 : n0 ≤ h19.size := Nat.le_trans Zp18 E19.1
      have Fn21 : Fld Z h19 b19 "com/example/narrow_grant/narrowgrant/session/FrontVersion" "number" "J" (.long (0 : Int64)) := D19 (Or.inr (hw _ (List.mem_of_getElem? (i := 11) rfl))) (ty := .long) (by decide)
      have Fn22 : Fld Z h19 b19 "com/example/narrow_grant/narrowgrant/session/FrontVersion" "front" "[B" .null := D19 (Or.inr (hw _ (List.mem_of_getElem? (i := 13) rfl))) (ty := (.array .byte)) (by decide)
      obtain ⟨_, _, ⟨T23, L23, k23, n23⟩, -, X23, ⟨Lc23, hQ23, l23, y23, z23⟩, st23⟩ := X19.specialBack hx (y := (⟨"com/example/narrow_grant/narrowgrant/session/FrontVersion", "<init>", "(J[B)V"⟩ : MethodName)) rfl hown (mvT hZ (hw _ (List.mem_of_getElem? (i := 4) rfl))) (mvT hZ (hw _ (List.mem_of_getElem? (i := 5) rfl))) (mvT hZ (hw _ (List.mem_of_getElem? (i := 6) rfl))) (by decide) (backOf (W := 1) (rm_in0 l Z a0 hw [] b19 vn h19 n0 Zp20 A19 g_b19 Fn21 Fn22) hZ (hw _ (List.mem_of_getElem? (i := 6) rfl)) (hw _ (List.mem_of_getElem? (i := 3) rfl)) (by decide) (by decide)) (g := (mkF m 80 #[.val (.long vn), .second, .val (.int vf), .val (.int vb0), .val (.int vb1), .val (.int (0 : Int32)), .val (.int (0 : Int32)), .val (.ref b5), .val (.ref b7), .val .null, .unset, .unset, .unset] [.null, (.long vn), (.ref b19), (.ref b19)])) rfl (by rw [hml]; rfl) (Steps.refl _) (a := b19) (argsL := [(.long vn), .null]) (rest := [(.ref b19)]) (lenOf own_pd0 rfl) rfl (by show 2 * 0 + _ ≤ _; exact Nat.le_of_eq rfl) (hb hby at_80) (fun _ _ => ⟨rfl, e19, (by decide : 3 + 0 ≤ _), (by decide : 4 + 0 ≤ _)⟩)
      dsimp only [Pt.U, Pt.locs, Pt.cells, Pt.slots] at X23 l23 y23 z23 st23 hQ23
      subst l23 y23 z23
      obtain ⟨rfl, Nq23, K23, Ex23, Fn23, Ff23⟩ := hQ23
      have Nf23 := Fr.app N17 Nq23
      have Zp24 : n0 ≤ T23.heap.size := Nat.le_trans Zp20 K23.1
      obtain ⟨cq26, kq26, q26a, q26b, q26c⟩ := isOf hZ rfl Ex23
      obtain ⟨_, _, ⟨T25, L25, k25, n25⟩, -, X25, ⟨Lc25, hQ25, l25, y25, z25⟩, st25⟩ := X23.virtualBack hx (y := (⟨"com/example/narrow_grant/narrowgrant/session/FrontVersion", "written", "()Z"⟩ : MethodName)) (z := (⟨"com/example/narrow_grant/narrowgrant/session/FrontVersion", "written", "()Z"⟩ : MethodName)) hown (mvT hZ (hw _ (List.mem_of_getElem? (i := 14) rfl))) (mvT hZ (hw _ (List.mem_of_getElem? (i := 15) rfl))) (notFace_of_selects (args := #[]) (mvT hZ (hw _ (List.mem_of_getElem? (i := 17) rfl)))) (mvT hZ (hw _ (List.mem_of_getElem? (i := 17) rfl))) (mvT hZ (hw _ (List.mem_of_getElem? (i := 16) rfl))) (by decide) (backOf (W := 0) (rm_wr0 l Z a0 hw [] b19 T23.heap n0 Zp24 Ff23) hZ (hw _ (List.mem_of_getElem? (i := 18) rfl)) (hw _ (List.mem_of_getElem? (i := 3) rfl)) (by decide) (by decide)) q26a q26c (g := (mkF m 87 #[.val (.long vn), .second, .val (.int vf), .val (.int vb0), .val (.int vb1), .val (.int (0 : Int32)), .val (.int (0 : Int32)), .val (.ref b5), .val (.ref b7), .val .null, .val (.ref b19), .unset, .unset] [(.ref b19)])) rfl (by rw [hml]; rfl) (Steps.refl _) (argsL := []) (rest := []) (lenOf own_pd1 rfl) rfl (by show 2 * 0 + _ ≤ _; exact Nat.le_of_eq rfl) (hb hby at_87) (fun _ _ => ⟨rfl, rfl, (by decide : 3 + 0 ≤ _), (by decide : 4 + 0 ≤ _)⟩)
      dsimp only [Pt.U, Pt.locs, Pt.cells, Pt.slots] at X25 l25 y25 z25 st25 hQ25
      subst l25 y25 z25
      obtain ⟨rfl, Nq25, hh25⟩ := hQ25
      have Nf25 := Fr.app Nf23 Nq25
      obtain ⟨cq28, kq28, q28a, q28b, q28c⟩ := isOf hZ hh25 Ex23
      obtain ⟨_, _, ⟨T27, L27, k27, n27⟩, -, X27, ⟨Lc27, hQ27, l27, y27, z27⟩, st27⟩ := X25.virtualBack hx (y := (⟨"com/example/narrow_grant/narrowgrant/session/FrontVersion", "written", "()Z"⟩ : MethodName)) (z := (⟨"com/example/narrow_grant/narrowgrant/session/FrontVersion", "written", "()Z"⟩ : MethodName)) hown (mvT hZ (hw _ (List.mem_of_getElem? (i := 14) rfl))) (mvT hZ (hw _ (List.mem_of_getElem? (i := 15) rfl))) (notFace_of_selects (args := #[]) (mvT hZ (hw _ (List.mem_of_getElem? (i := 17) rfl)))) (mvT hZ (hw _ (List.mem_of_getElem? (i := 17) rfl))) (mvT hZ (hw _ (List.mem_of_getElem? (i := 16) rfl))) (by decide) (backOf (W := 0) (rm_wr0 l Z a0 hw [] b19 T23.heap n0 Zp24 Ff23) hZ (hw _ (List.mem_of_getElem? (i := 18) rfl)) (hw _ (List.mem_of_getElem? (i := 3) rfl)) (by decide) (by decide)) q28a q28c (g := (mkF m 94 #[.val (.long vn), .second, .val (.int vf), .val (.int vb0), .val (.int vb1), .val (.int (0 : Int32)), .val (.int (0 : Int32)), .val (.ref b5), .val (.ref b7), .val .null, .val (.ref b19), .val (.int (0 : Int32)), .unset] [(.ref b19)])) rfl (by rw [hml]; rfl) (Steps.refl _) (argsL := []) (rest := []) (lenOf own_pd1 rfl) rfl (by show 2 * 0 + _ ≤ _; exact Nat.le_of_eq rfl) (hb hby at_94) (fun _ _ => ⟨rfl, hh25, (by decide : 3 + 0 ≤ _), (by decide : 4 + 0 ≤ _)⟩)
      dsimp only [Pt.U, Pt.locs, Pt.cells, Pt.slots] at X27 l27 y27 z27 st27 hQ27
      subst l27 y27 z27
      obtain ⟨rfl, Nq27, hh27⟩ := hQ27
      have Nf27 := Fr.app Nf25 Nq27
      obtain ⟨cq30, kq30, q30a, q30b, q30c⟩ := isOf hZ hh27 Ex23
      obtain ⟨_, _, ⟨T29, L29, k29, n29⟩, -, X29, ⟨Lc29, hQ29, l29, y29, z29⟩, st29⟩ := X27.virtualBack hx (y := (⟨"com/example/narrow_grant/narrowgrant/session/FrontVersion", "number", "()J"⟩ : MethodName)) (z := (⟨"com/example/narrow_grant/narrowgrant/session/FrontVersion", "number", "()J"⟩ : MethodName)) hown (mvT hZ (hw _ (List.mem_of_getElem? (i := 19) rfl))) (mvT hZ (hw _ (List.mem_of_getElem? (i := 20) rfl))) (notFace_of_selects (args := #[]) (mvT hZ (hw _ (List.mem_of_getElem? (i := 22) rfl)))) (mvT hZ (hw _ (List.mem_of_getElem? (i := 22) rfl))) (mvT hZ (hw _ (List.mem_of_getElem? (i := 21) rfl))) (by decide) (backOf (W := 0) (rm_nu l Z a0 hw [] b19 vn T23.heap n0 Zp24 Fn23) hZ (hw _ (List.mem_of_getElem? (i := 23) rfl)) (hw _ (List.mem_of_getElem? (i := 3) rfl)) (by decide) (by decide)) q30a q30c (g := (mkF m 115 #[.val (.long vn), .second, .val (.int vf), .val (.int vb0), .val (.int vb1), .val (.int (0 : Int32)), .val (.int (0 : Int32)), .val (.ref b5), .val (.ref b7), .val .null, .val (.ref b19), .val (.int (0 : Int32)), .val (.int (0 : Int32))] [(.ref b19)])) rfl (by rw [hml]; rfl) (Steps.refl _) (argsL := []) (rest := []) (lenOf own_pd2 rfl) rfl (by show 2 * 0 + _ ≤ _; exact Nat.le_of_eq rfl) (hb hby at_115) (fun _ _ => ⟨rfl, hh27, (by decide : 3 + 0 ≤ _), (by decide : 4 + 0 ≤ _)⟩)
      dsimp only [Pt.U, Pt.locs, Pt.cells, Pt.slots] at X29 l29 y29 z29 st29 hQ29
      subst l29 y29 z29
      obtain ⟨rfl, Nq29, hh29⟩ := hQ29
      have Nf29 := Fr.app Nf27 Nq29
      have pre31 : ∀ t, Steps p.tables e below (T29.setTop (mkF m 120 #[.val (.long vn), .second, .val (.int vf), .val (.int vb0), .val (.int vb1), .val (.int (0 : Int32)), .val (.int (0 : Int32)), .val (.ref b5), .val (.ref b7), .val .null, .val (.ref b19), .val (.int (0 : Int32)), .val (.int (0 : Int32))] [(.int (lcmpW vn vn))])) t → Steps p.tables e below (s₁.setTop (entryFrame m #[(.long vn), (.int vf), (.int vb0), (.int vb1)] maxLocals)) t := by
        intro t k
        refine pre15 t ?_
        show Steps p.tables e below (T12.setTop (mkF m 48 #[.val (.long vn), .second, .val (.int vf), .val (.int vb0), .val (.int vb1), .val (.int (0 : Int32)), .val (.int (0 : Int32)), .val (.ref b5), .val (.ref b7), .unset, .unset, .unset, .unset] [(.int yb1), (.int (1 : Int32)), (.ref b7)])) _
        refine st17 _ ?_
        show Steps p.tables e below (T17.setTop (mkF m 49 #[.val (.long vn), .second, .val (.int vf), .val (.int vb0), .val (.int vb1), .val (.int (0 : Int32)), .val (.int (0 : Int32)), .val (.ref b5), .val (.ref b7), .unset, .unset, .unset, .unset] [])) _
        refine XS.aconstNull X17.here hx rfl (hb hby at_49) ?_
        show Steps p.tables e below (T17.setTop (mkF m 50 #[.val (.long vn), .second, .val (.int vf), .val (.int vb0), .val (.int vb1), .val (.int (0 : Int32)), .val (.int (0 : Int32)), .val (.ref b5), .val (.ref b7), .unset, .unset, .unset, .unset] [.null])) _
        refine XS.astore X17.here hx rfl (hb hby at_50) rfl rfl (l' := #[.val (.long vn), .second, .val (.int vf), .val (.int vb0), .val (.int vb1), .val (.int (0 : Int32)), .val (.int (0 : Int32)), .val (.ref b5), .val (.ref b7), .val .null, .unset, .unset, .unset]) rfl ?_
        show Steps p.tables e below (T17.setTop (mkF m 52 #[.val (.long vn), .second, .val (.int vf), .val (.int vb0), .val (.int vb1), .val (.int (0 : Int32)), .val (.int (0 : Int32)), .val (.ref b5), .val (.ref b7), .val .null, .unset, .unset, .unset] [])) _
        refine XS.iload X17.here hx rfl (hb hby at_52) rfl ?_
        show Steps p.tables e below (T17.setTop (mkF m 54 #[.val (.long vn), .second, .val (.int vf), .val (.int vb0), .val (.int vb1), .val (.int (0 : Int32)), .val (.int (0 : Int32)), .val (.ref b5), .val (.ref b7), .val .null, .unset, .unset, .unset] [(.int (0 : Int32))])) _
        refine XS.ifYes X17.here hx rfl (pc0 := 54) (pc' := 73) rfl (hb hby at_54) rfl (by decide) (by decide) (by decide) ?_
        show Steps p.tables e below (T17.setTop (mkF m 73 #[.val (.long vn), .second, .val (.int vf), .val (.int vb0), .val (.int vb1), .val (.int (0 : Int32)), .val (.int (0 : Int32)), .val (.ref b5), .val (.ref b7), .val .null, .unset, .unset, .unset] [])) _
        refine st19 _ ?_
        show Steps p.tables e below (T19.setTop (mkF m 76 #[.val (.long vn), .second, .val (.int vf), .val (.int vb0), .val (.int vb1), .val (.int (0 : Int32)), .val (.int (0 : Int32)), .val (.ref b5), .val (.ref b7), .val .null, .unset, .unset, .unset] [(.ref b19)])) _
        refine XS.dup X19.here hx rfl (hb hby at_76) rfl rfl ?_
        show Steps p.tables e below (T19.setTop (mkF m 77 #[.val (.long vn), .second, .val (.int vf), .val (.int vb0), .val (.int vb1), .val (.int (0 : Int32)), .val (.int (0 : Int32)), .val (.ref b5), .val (.ref b7), .val .null, .unset, .unset, .unset] [(.ref b19), (.ref b19)])) _
        refine XS.lloadN X19.here hx rfl (hb hby at_77) rfl ?_
        show Steps p.tables e below (T19.setTop (mkF m 78 #[.val (.long vn), .second, .val (.int vf), .val (.int vb0), .val (.int vb1), .val (.int (0 : Int32)), .val (.int (0 : Int32)), .val (.ref b5), .val (.ref b7), .val .null, .unset, .unset, .unset] [(.long vn), (.ref b19), (.ref b19)])) _
        refine XS.aload X19.here hx rfl (hb hby at_78) rfl rfl ?_
        show Steps p.tables e below (T19.setTop (mkF m 80 #[.val (.long vn), .second, .val (.int vf), .val (.int vb0), .val (.int vb1), .val (.int (0 : Int32)), .val (.int (0 : Int32)), .val (.ref b5), .val (.ref b7), .val .null, .unset, .unset, .unset] [.null, (.long vn), (.ref b19), (.ref b19)])) _
        refine st23.trans ?_
        show Steps p.tables e below (T23.setTop (mkF m 83 #[.val (.long vn), .second, .val (.int vf), .val (.int vb0), .val (.int vb1), .val (.int (0 : Int32)), .val (.int (0 : Int32)), .val (.ref b5), .val (.ref b7), .val .null, .unset, .unset, .unset] [(.ref b19)])) _
        refine XS.astore X23.here hx rfl (hb hby at_83) rfl rfl (l' := #[.val (.long vn), .second, .val (.int vf), .val (.int vb0), .val (.int vb1), .val (.int (0 : Int32)), .val (.int (0 : Int32)), .val (.ref b5), .val (.ref b7), .val .null, .val (.ref b19), .unset, .unset]) rfl ?_
        show Steps p.tables e below (T23.setTop (mkF m 85 #[.val (.long vn), .second, .val (.int vf), .val (.int vb0), .val (.int vb1), .val (.int (0 : Int32)), .val (.int (0 : Int32)), .val (.ref b5), .val (.ref b7), .val .null, .val (.ref b19), .unset, .unset] [])) _
        refine XS.aload X23.here hx rfl (hb hby at_85) rfl rfl ?_
        show Steps p.tables e below (T23.setTop (mkF m 87 #[.val (.long vn), .second, .val (.int vf), .val (.int vb0), .val (.int vb1), .val (.int (0 : Int32)), .val (.int (0 : Int32)), .val (.ref b5), .val (.ref b7), .val .null, .val (.ref b19), .unset, .unset] [(.ref b19)])) _
        refine st25.trans ?_
        show Steps p.tables e below (T25.setTop (mkF m 90 #[.val (.long vn), .second, .val (.int vf), .val (.int vb0), .val (.int vb1), .val (.int (0 : Int32)), .val (.int (0 : Int32)), .val (.ref b5), .val (.ref b7), .val .null, .val (.ref b19), .unset, .unset] [(.int (0 : Int32))])) _
        refine XS.istore X25.here hx rfl (hb hby at_90) rfl (l' := #[.val (.long vn), .second, .val (.int vf), .val (.int vb0), .val (.int vb1), .val (.int (0 : Int32)), .val (.int (0 : Int32)), .val (.ref b5), .val (.ref b7), .val .null, .val (.ref b19), .val (.int (0 : Int32)), .unset]) rfl ?_
        show Steps p.tables e below (T25.setTop (mkF m 92 #[.val (.long vn), .second, .val (.int vf), .val (.int vb0), .val (.int vb1), .val (.int (0 : Int32)), .val (.int (0 : Int32)), .val (.ref b5), .val (.ref b7), .val .null, .val (.ref b19), .val (.int (0 : Int32)), .unset] [])) _
        refine XS.aload X25.here hx rfl (hb hby at_92) rfl rfl ?_
        show Steps p.tables e below (T25.setTop (mkF m 94 #[.val (.long vn), .second, .val (.int vf), .val (.int vb0), .val (.int vb1), .val (.int (0 : Int32)), .val (.int (0 : Int32)), .val (.ref b5), .val (.ref b7), .val .null, .val (.ref b19), .val (.int (0 : Int32)), .unset] [(.ref b19)])) _
        refine st27.trans ?_
        show Steps p.tables e below (T27.setTop (mkF m 97 #[.val (.long vn), .second, .val (.int vf), .val (.int vb0), .val (.int vb1), .val (.int (0 : Int32)), .val (.int (0 : Int32)), .val (.ref b5), .val (.ref b7), .val .null, .val (.ref b19), .val (.int (0 : Int32)), .unset] [(.int (0 : Int32))])) _
        refine XS.istore X27.here hx rfl (hb hby at_97) rfl (l' := #[.val (.long vn), .second, .val (.int vf), .val (.int vb0), .val (.int vb1), .val (.int (0 : Int32)), .val (.int (0 : Int32)), .val (.ref b5), .val (.ref b7), .val .null, .val (.ref b19), .val (.int (0 : Int32)), .val (.int (0 : Int32))]) rfl ?_
        show Steps p.tables e below (T27.setTop (mkF m 99 #[.val (.long vn), .second, .val (.int vf), .val (.int vb0), .val (.int vb1), .val (.int (0 : Int32)), .val (.int (0 : Int32)), .val (.ref b5), .val (.ref b7), .val .null, .val (.ref b19), .val (.int (0 : Int32)), .val (.int (0 : Int32))] [])) _
        refine XS.iload X27.here hx rfl (hb hby at_99) rfl ?_
        show Steps p.tables e below (T27.setTop (mkF m 101 #[.val (.long vn), .second, .val (.int vf), .val (.int vb0), .val (.int vb1), .val (.int (0 : Int32)), .val (.int (0 : Int32)), .val (.ref b5), .val (.ref b7), .val .null, .val (.ref b19), .val (.int (0 : Int32)), .val (.int (0 : Int32))] [(.int (0 : Int32))])) _
        refine XS.iload X27.here hx rfl (hb hby at_101) rfl ?_
        show Steps p.tables e below (T27.setTop (mkF m 103 #[.val (.long vn), .second, .val (.int vf), .val (.int vb0), .val (.int vb1), .val (.int (0 : Int32)), .val (.int (0 : Int32)), .val (.ref b5), .val (.ref b7), .val .null, .val (.ref b19), .val (.int (0 : Int32)), .val (.int (0 : Int32))] [(.int (0 : Int32)), (.int (0 : Int32))])) _
        refine XS.icmpNo X27.here hx rfl (hb hby at_103) rfl (by decide) ?_
        show Steps p.tables e below (T27.setTop (mkF m 106 #[.val (.long vn), .second, .val (.int vf), .val (.int vb0), .val (.int vb1), .val (.int (0 : Int32)), .val (.int (0 : Int32)), .val (.ref b5), .val (.ref b7), .val .null, .val (.ref b19), .val (.int (0 : Int32)), .val (.int (0 : Int32))] [])) _
        refine XS.iload X27.here hx rfl (hb hby at_106) rfl ?_
        show Steps p.tables e below (T27.setTop (mkF m 108 #[.val (.long vn), .second, .val (.int vf), .val (.int vb0), .val (.int vb1), .val (.int (0 : Int32)), .val (.int (0 : Int32)), .val (.ref b5), .val (.ref b7), .val .null, .val (.ref b19), .val (.int (0 : Int32)), .val (.int (0 : Int32))] [(.int (0 : Int32))])) _
        refine XS.iload X27.here hx rfl (hb hby at_108) rfl ?_
        show Steps p.tables e below (T27.setTop (mkF m 110 #[.val (.long vn), .second, .val (.int vf), .val (.int vb0), .val (.int vb1), .val (.int (0 : Int32)), .val (.int (0 : Int32)), .val (.ref b5), .val (.ref b7), .val .null, .val (.ref b19), .val (.int (0 : Int32)), .val (.int (0 : Int32))] [(.int (0 : Int32)), (.int (0 : Int32))])) _
        refine XS.icmpNo X27.here hx rfl (hb hby at_110) rfl (by decide) ?_
        show Steps p.tables e below (T27.setTop (mkF m 113 #[.val (.long vn), .second, .val (.int vf), .val (.int vb0), .val (.int vb1), .val (.int (0 : Int32)), .val (.int (0 : Int32)), .val (.ref b5), .val (.ref b7), .val .null, .val (.ref b19), .val (.int (0 : Int32)), .val (.int (0 : Int32))] [])) _
        refine XS.aload X27.here hx rfl (hb hby at_113) rfl rfl ?_
        show Steps p.tables e below (T27.setTop (mkF m 115 #[.val (.long vn), .second, .val (.int vf), .val (.int vb0), .val (.int vb1), .val (.int (0 : Int32)), .val (.int (0 : Int32)), .val (.ref b5), .val (.ref b7), .val .null, .val (.ref b19), .val (.int (0 : Int32)), .val (.int (0 : Int32))] [(.ref b19)])) _
        refine st29.trans ?_
        show Steps p.tables e below (T29.setTop (mkF m 118 #[.val (.long vn), .second, .val (.int vf), .val (.int vb0), .val (.int vb1), .val (.int (0 : Int32)), .val (.int (0 : Int32)), .val (.ref b5), .val (.ref b7), .val .null, .val (.ref b19), .val (.int (0 : Int32)), .val (.int (0 : Int32))] [(.long vn)])) _
        refine XS.lloadN X29.here hx rfl (hb hby at_118) rfl ?_
        show Steps p.tables e below (T29.setTop (mkF m 119 #[.val (.long vn), .second, .val (.int vf), .val (.int vb0), .val (.int vb1), .val (.int (0 : Int32)), .val (.int (0 : Int32)), .val (.ref b5), .val (.ref b7), .val .null, .val (.ref b19), .val (.int (0 : Int32)), .val (.int (0 : Int32))] [(.long vn), (.long vn)])) _
        refine XS.lcmp X29.here hx rfl (hb hby at_119) rfl ?_
        show Steps p.tables e below (T29.setTop (mkF m 120 #[.val (.long vn), .second, .val (.int vf), .val (.int vb0), .val (.int vb1), .val (.int (0 : Int32)), .val (.int (0 : Int32)), .val (.ref b5), .val (.ref b7), .val .null, .val (.ref b19), .val (.int (0 : Int32)), .val (.int (0 : Int32))] [(.int (lcmpW vn vn))])) _
        exact k
      have hd32 : vn = vn := rfl
      obtain ⟨fs, hr, hrun, hended, hW, hsame⟩ := X29.leave (v := some (.int (1 : Int32))) (fun h => by rw [Bd.returns] at h; cases h)
      refine ⟨_, _, pre31 _ ?_, hrun, hended, _, _, rfl, ?_, ⟨_, rfl⟩, hW, hsame.mono (by decide) (by decide)⟩
      · show Steps p.tables e below (T29.setTop (mkF m 120 #[.val (.long vn), .second, .val (.int vf), .val (.int vb0), .val (.int vb1), .val (.int (0 : Int32)), .val (.int (0 : Int32)), .val (.ref b5), .val (.ref b7), .val .null, .val (.ref b19), .val (.int (0 : Int32)), .val (.int (0 : Int32))] [(.int (lcmpW vn vn))])) _
        refine XS.ifNo X29.here hx rfl (hb hby at_120) rfl ((if0 _ _).trans (teq ((lw_eq _ _).mpr hd32)).2) ?_
        show Steps p.tables e below (T29.setTop (mkF m 123 #[.val (.long vn), .second, .val (.int vf), .val (.int vb0), .val (.int vb1), .val (.int (0 : Int32)), .val (.int (0 : Int32)), .val (.ref b5), .val (.ref b7), .val .null, .val (.ref b19), .val (.int (0 : Int32)), .val (.int (0 : Int32))] [])) _
        refine XS.iconst X29.here hx rfl (hb hby at_123) ?_
        show Steps p.tables e below (T29.setTop (mkF m 124 #[.val (.long vn), .second, .val (.int vf), .val (.int vb0), .val (.int vb1), .val (.int (0 : Int32)), .val (.int (0 : Int32)), .val (.ref b5), .val (.ref b7), .val .null, .val (.ref b19), .val (.int (0 : Int32)), .val (.int (0 : Int32))] [(.int (1 : Int32))])) _
        refine XS.goto X29.here hx rfl (pc0 := 124) (pc' := 128) rfl (hb hby at_124) (by decide) (by decide) ?_
        show Steps p.tables e below (T29.setTop (mkF m 128 #[.val (.long vn), .second, .val (.int vf), .val (.int vb0), .val (.int vb1), .val (.int (0 : Int32)), .val (.int (0 : Int32)), .val (.ref b5), .val (.ref b7), .val .null, .val (.ref b19), .val (.int (0 : Int32)), .val (.int (0 : Int32))] [(.int (1 : Int32))])) _
        exact retN X29 hx (t := .boolean) Bd.returns (by simp) (hb hby at_128) hr
      · show Q0 Z vn vf vb0 vb1 h0 n0 _ T29.heap _
        rw [hh29]
        exact ⟨rfl, Nf29⟩
    · obtain ⟨T33, h33, k33, X33, e33, E33, A33, C33, st33⟩ := newPE X0 hx hZ (hw _ (List.mem_of_getElem? (i := 0) rfl)) e0 (g := (mkF m 27 #[.val (.long vn), .second, .val (.int vf), .val (.int vb0), .val (.int vb1), .val (.int (0 : Int32)), .val (.int (1 : Int32)), .unset, .unset, .unset, .unset, .unset, .unset] [(.int (0 : Int32))])) rfl (hb hby at_27) rfl (by decide) (cap := 0) (by decide) (by decide) (by decide) (by decide) (ad := "[B") (by decide)
      obtain ⟨b33, g33⟩ : ∃ z, z = h0.size := ⟨_, rfl⟩
      rw [← g33] at A33 st33 C33
      have g_b33 : n0 ≤ b33 := Nat.le_trans Z0 (Nat.le_of_eq g33.symm)
      have Zp34 : n0 ≤ h33.size := Nat.le_trans Z0 E33.1
      have V33 : Arv Z h33 b33 k33 .byte (0 : Int32) [] (.int (0 : Int32)) := (Arv.new A33 (by decide)).pad (pad_rep [] (.int (0 : Int32)) 0)
      obtain ⟨T35, h35, k35, X35, e35, E35, A35, C35, st35⟩ := newPE X33 hx hZ (hw _ (List.mem_of_getElem? (i := 0) rfl)) e33 (g := (mkF m 32 #[.val (.long vn), .second, .val (.int vf), .val (.int vb0), .val (.int vb1), .val (.int (0 : Int32)), .val (.int (1 : Int32)), .val (.ref b33), .unset, .unset, .unset, .unset, .unset] [(.int (2 : Int32))])) rfl (hb hby at_32) rfl (by decide) (cap := 2) (by decide) (by decide) (by decide) (by decide) (ad := "[B") (by decide)
      obtain ⟨b35, g35⟩ : ∃ z, z = h33.size := ⟨_, rfl⟩
      rw [← g35] at A35 st35 C35
      have g_b35 : n0 ≤ b35 := Nat.le_trans Zp34 (Nat.le_of_eq g35.symm)
      have Zp36 : n0 ≤ h35.size := Nat.le_trans Zp34 E35.1
      have V35 : Arv Z h35 b35 k35 .byte (2 : Int32) [(.int (0 : Int32)), (.int (0 : Int32))] (.int (0 : Int32)) := (Arv.new A35 (by decide)).pad (pad_rep [] (.int (0 : Int32)) 2)
      have pre37 : ∀ t, Steps p.tables e below (T35.setTop (mkF m 41 #[.val (.long vn), .second, .val (.int vf), .val (.int vb0), .val (.int vb1), .val (.int (0 : Int32)), .val (.int (1 : Int32)), .val (.ref b33), .val (.ref b35), .unset, .unset, .unset, .unset] [(.int (vb0.toInt8.toInt32)), (.int (0 : Int32)), (.ref b35)])) t → Steps p.tables e below (s₁.setTop (entryFrame m #[(.long vn), (.int vf), (.int vb0), (.int vb1)] maxLocals)) t := by
        intro t k
        refine pre3 t ?_
        show Steps p.tables e below (s₁.setTop (mkF m 16 #[.val (.long vn), .second, .val (.int vf), .val (.int vb0), .val (.int vb1), .val (.int (0 : Int32)), .unset, .unset, .unset, .unset, .unset, .unset, .unset] [(.int (vf &&& (2 : Int32)))])) _
        refine XS.ifNo X0.here hx rfl (hb hby at_16) rfl ((if0 _ _).trans (feq hc4).1) ?_
        show Steps p.tables e below (s₁.setTop (mkF m 19 #[.val (.long vn), .second, .val (.int vf), .val (.int vb0), .val (.int vb1), .val (.int (0 : Int32)), .unset, .unset, .unset, .unset, .unset, .unset, .unset] [])) _
        refine XS.iconst X0.here hx rfl (hb hby at_19) ?_
        show Steps p.tables e below (s₁.setTop (mkF m 20 #[.val (.long vn), .second, .val (.int vf), .val (.int vb0), .val (.int vb1), .val (.int (0 : Int32)), .unset, .unset, .unset, .unset, .unset, .unset, .unset] [(.int (1 : Int32))])) _
        refine XS.goto X0.here hx rfl (pc0 := 20) (pc' := 24) rfl (hb hby at_20) (by decide) (by decide) ?_
        show Steps p.tables e below (s₁.setTop (mkF m 24 #[.val (.long vn), .second, .val (.int vf), .val (.int vb0), .val (.int vb1), .val (.int (0 : Int32)), .unset, .unset, .unset, .unset, .unset, .unset, .unset] [(.int (1 : Int32))])) _
        refine XS.istore X0.here hx rfl (hb hby at_24) rfl (l' := #[.val (.long vn), .second, .val (.int vf), .val (.int vb0), .val (.int vb1), .val (.int (0 : Int32)), .val (.int (1 : Int32)), .unset, .unset, .unset, .unset, .unset, .unset]) rfl ?_
        show Steps p.tables e below (s₁.setTop (mkF m 26 #[.val (.long vn), .second, .val (.int vf), .val (.int vb0), .val (.int vb1), .val (.int (0 : Int32)), .val (.int (1 : Int32)), .unset, .unset, .unset, .unset, .unset, .unset] [])) _
        refine XS.iconst X0.here hx rfl (hb hby at_26) ?_
        show Steps p.tables e below (s₁.setTop (mkF m 27 #[.val (.long vn), .second, .val (.int vf), .val (.int vb0), .val (.int vb1), .val (.int (0 : Int32)), .val (.int (1 : Int32)), .unset, .unset, .unset, .unset, .unset, .unset] [(.int (0 : Int32))])) _
        refine st33 _ ?_
        show Steps p.tables e below (T33.setTop (mkF m 29 #[.val (.long vn), .second, .val (.int vf), .val (.int vb0), .val (.int vb1), .val (.int (0 : Int32)), .val (.int (1 : Int32)), .unset, .unset, .unset, .unset, .unset, .unset] [(.ref b33)])) _
        refine XS.astore X33.here hx rfl (hb hby at_29) rfl rfl (l' := #[.val (.long vn), .second, .val (.int vf), .val (.int vb0), .val (.int vb1), .val (.int (0 : Int32)), .val (.int (1 : Int32)), .val (.ref b33), .unset, .unset, .unset, .unset, .unset]) rfl ?_
        show Steps p.tables e below (T33.setTop (mkF m 31 #[.val (.long vn), .second, .val (.int vf), .val (.int vb0), .val (.int vb1), .val (.int (0 : Int32)), .val (.int (1 : Int32)), .val (.ref b33), .unset, .unset, .unset, .unset, .unset] [])) _
        refine XS.iconst X33.here hx rfl (hb hby at_31) ?_
        show Steps p.tables e below (T33.setTop (mkF m 32 #[.val (.long vn), .second, .val (.int vf), .val (.int vb0), .val (.int vb1), .val (.int (0 : Int32)), .val (.int (1 : Int32)), .val (.ref b33), .unset, .unset, .unset, .unset, .unset] [(.int (2 : Int32))])) _
        refine st35 _ ?_
        show Steps p.tables e below (T35.setTop (mkF m 34 #[.val (.long vn), .second, .val (.int vf), .val (.int vb0), .val (.int vb1), .val (.int (0 : Int32)), .val (.int (1 : Int32)), .val (.ref b33), .unset, .unset, .unset, .unset, .unset] [(.ref b35)])) _
        refine XS.astore X35.here hx rfl (hb hby at_34) rfl rfl (l' := #[.val (.long vn), .second, .val (.int vf), .val (.int vb0), .val (.int vb1), .val (.int (0 : Int32)), .val (.int (1 : Int32)), .val (.ref b33), .val (.ref b35), .unset, .unset, .unset, .unset]) rfl ?_
        show Steps p.tables e below (T35.setTop (mkF m 36 #[.val (.long vn), .second, .val (.int vf), .val (.int vb0), .val (.int vb1), .val (.int (0 : Int32)), .val (.int (1 : Int32)), .val (.ref b33), .val (.ref b35), .unset, .unset, .unset, .unset] [])) _
        refine XS.aload X35.here hx rfl (hb hby at_36) rfl rfl ?_
        show Steps p.tables e below (T35.setTop (mkF m 38 #[.val (.long vn), .second, .val (.int vf), .val (.int vb0), .val (.int vb1), .val (.int (0 : Int32)), .val (.int (1 : Int32)), .val (.ref b33), .val (.ref b35), .unset, .unset, .unset, .unset] [(.ref b35)])) _
        refine XS.iconst X35.here hx rfl (hb hby at_38) ?_
        show Steps p.tables e below (T35.setTop (mkF m 39 #[.val (.long vn), .second, .val (.int vf), .val (.int vb0), .val (.int vb1), .val (.int (0 : Int32)), .val (.int (1 : Int32)), .val (.ref b33), .val (.ref b35), .unset, .unset, .unset, .unset] [(.int (0 : Int32)), (.ref b35)])) _
        refine XS.iloadN X35.here hx rfl (hb hby at_39) rfl ?_
        show Steps p.tables e below (T35.setTop (mkF m 40 #[.val (.long vn), .second, .val (.int vf), .val (.int vb0), .val (.int vb1), .val (.int (0 : Int32)), .val (.int (1 : Int32)), .val (.ref b33), .val (.ref b35), .unset, .unset, .unset, .unset] [(.int vb0), (.int (0 : Int32)), (.ref b35)])) _
        refine XS.i2b X35.here hx rfl (hb hby at_40) rfl ?_
        show Steps p.tables e below (T35.setTop (mkF m 41 #[.val (.long vn), .second, .val (.int vf), .val (.int vb0), .val (.int vb1), .val (.int (0 : Int32)), .val (.int (1 : Int32)), .val (.ref b33), .val (.ref b35), .unset, .unset, .unset, .unset] [(.int (vb0.toInt8.toInt32)), (.int (0 : Int32)), (.ref b35)])) _
        exact k
      obtain ⟨yb0, h_yb0⟩ : ∃ z : Int32, z = (vb0.toInt8.toInt32) := ⟨_, rfl⟩
      have pre38 : ∀ t, Steps p.tables e below (T35.setTop (mkF m 41 #[.val (.long vn), .second, .val (.int vf), .val (.int vb0), .val (.int vb1), .val (.int (0 : Int32)), .val (.int (1 : Int32)), .val (.ref b33), .val (.ref b35), .unset, .unset, .unset, .unset] [(.int yb0), (.int (0 : Int32)), (.ref b35)])) t → Steps p.tables e below (s₁.setTop (entryFrame m #[(.long vn), (.int vf), (.int vb0), (.int vb1)] maxLocals)) t := by
        subst h_yb0
        exact pre37
      obtain ⟨cl39, Ar39, q39, S39, M39, H39, G39⟩ := V35
      have hin39 : ¬ ((0 : Int32) < 0 ∨ cl39.slots.size ≤ ((0 : Int32)).toNatClampNeg) := inb_of S39 ⟨by decide, by decide⟩
      obtain ⟨T40, h40, X40, e40, W40, st40⟩ := stB X35 hx hZ e35 Ar39 (j := (0 : Int32)) hin39 (g := (mkF m 41 #[.val (.long vn), .second, .val (.int vf), .val (.int vb0), .val (.int vb1), .val (.int (0 : Int32)), .val (.int (1 : Int32)), .val (.ref b33), .val (.ref b35), .unset, .unset, .unset, .unset] [(.int yb0), (.int (0 : Int32)), (.ref b35)])) rfl rfl (hb hby at_41)
      have N40 := Fr.snoc X40 N0 g_b35
      have V40 : Arv Z h40 b35 k35 .byte (2 : Int32) [(.int (nar .byte yb0)), (.int (0 : Int32))] (.int (0 : Int32)) := Arv.set Ar39 q39 S39 M39 H39 G39 (fits_nar_byte _) W40 0 rfl (Nat.le_of_ble_eq_true rfl)
      have Zp41 : n0 ≤ h40.size := Nat.le_trans Zp36 (Nat.le_of_eq (Wr.size W40).symm)
      have pre42 : ∀ t, Steps p.tables e below (T40.setTop (mkF m 48 #[.val (.long vn), .second, .val (.int vf), .val (.int vb0), .val (.int vb1), .val (.int (0 : Int32)), .val (.int (1 : Int32)), .val (.ref b33), .val (.ref b35), .unset, .unset, .unset, .unset] [(.int (vb1.toInt8.toInt32)), (.int (1 : Int32)), (.ref b35)])) t → Steps p.tables e below (s₁.setTop (entryFrame m #[(.long vn), (.int vf), (.int vb0), (.int vb1)] maxLocals)) t := by
        intro t k
        refine pre38 t ?_
        show Steps p.tables e below (T35.setTop (mkF m 41 #[.val (.long vn), .second, .val (.int vf), .val (.int vb0), .val (.int vb1), .val (.int (0 : Int32)), .val (.int (1 : Int32)), .val (.ref b33), .val (.ref b35), .unset, .unset, .unset, .unset] [(.int yb0), (.int (0 : Int32)), (.ref b35)])) _
        refine st40 _ ?_
        show Steps p.tables e below (T40.setTop (mkF m 42 #[.val (.long vn), .second, .val (.int vf), .val (.int vb0), .val (.int vb1), .val (.int (0 : Int32)), .val (.int (1 : Int32)), .val (.ref b33), .val (.ref b35), .unset, .unset, .unset, .unset] [])) _
        refine XS.aload X40.here hx rfl (hb hby at_42) rfl rfl ?_
        show Steps p.tables e below (T40.setTop (mkF m 44 #[.val (.long vn), .second, .val (.int vf), .val (.int vb0), .val (.int vb1), .val (.int (0 : Int32)), .val (.int (1 : Int32)), .val (.ref b33), .val (.ref b35), .unset, .unset, .unset, .unset] [(.ref b35)])) _
        refine XS.iconst X40.here hx rfl (hb hby at_44) ?_
        show Steps p.tables e below (T40.setTop (mkF m 45 #[.val (.long vn), .second, .val (.int vf), .val (.int vb0), .val (.int vb1), .val (.int (0 : Int32)), .val (.int (1 : Int32)), .val (.ref b33), .val (.ref b35), .unset, .unset, .unset, .unset] [(.int (1 : Int32)), (.ref b35)])) _
        refine XS.iload X40.here hx rfl (hb hby at_45) rfl ?_
        show Steps p.tables e below (T40.setTop (mkF m 47 #[.val (.long vn), .second, .val (.int vf), .val (.int vb0), .val (.int vb1), .val (.int (0 : Int32)), .val (.int (1 : Int32)), .val (.ref b33), .val (.ref b35), .unset, .unset, .unset, .unset] [(.int vb1), (.int (1 : Int32)), (.ref b35)])) _
        refine XS.i2b X40.here hx rfl (hb hby at_47) rfl ?_
        show Steps p.tables e below (T40.setTop (mkF m 48 #[.val (.long vn), .second, .val (.int vf), .val (.int vb0), .val (.int vb1), .val (.int (0 : Int32)), .val (.int (1 : Int32)), .val (.ref b33), .val (.ref b35), .unset, .unset, .unset, .unset] [(.int (vb1.toInt8.toInt32)), (.int (1 : Int32)), (.ref b35)])) _
        exact k
      obtain ⟨yb1, h_yb1⟩ : ∃ z : Int32, z = (vb1.toInt8.toInt32) := ⟨_, rfl⟩
      have pre43 : ∀ t, Steps p.tables e below (T40.setTop (mkF m 48 #[.val (.long vn), .second, .val (.int vf), .val (.int vb0), .val (.int vb1), .val (.int (0 : Int32)), .val (.int (1 : Int32)), .val (.ref b33), .val (.ref b35), .unset, .unset, .unset, .unset] [(.int yb1), (.int (1 : Int32)), (.ref b35)])) t → Steps p.tables e below (s₁.setTop (entryFrame m #[(.long vn), (.int vf), (.int vb0), (.int vb1)] maxLocals)) t := by
        subst h_yb1
        exact pre42
      obtain ⟨cl44, Ar44, q44, S44, M44, H44, G44⟩ := V40
      have hin44 : ¬ ((1 : Int32) < 0 ∨ cl44.slots.size ≤ ((1 : Int32)).toNatClampNeg) := inb_of S44 ⟨by decide, by decide⟩
      obtain ⟨T45, h45, X45, e45, W45, st45⟩ := stB X40 hx hZ e40 Ar44 (j := (1 : Int32)) hin44 (g := (mkF m 48 #[.val (.long vn), .second, .val (.int vf), .val (.int vb0), .val (.int vb1), .val (.int (0 : Int32)), .val (.int (1 : Int32)), .val (.ref b33), .val (.ref b35), .unset, .unset, .unset, .unset] [(.int yb1), (.int (1 : Int32)), (.ref b35)])) rfl rfl (hb hby at_48)
      have N45 := Fr.snoc X45 N40 g_b35
      have V45 : Arv Z h45 b35 k35 .byte (2 : Int32) [(.int (nar .byte yb0)), (.int (nar .byte yb1))] (.int (0 : Int32)) := Arv.set Ar44 q44 S44 M44 H44 G44 (fits_nar_byte _) W45 1 rfl (Nat.le_of_ble_eq_true rfl)
      have Zp46 : n0 ≤ h45.size := Nat.le_trans Zp41 (Nat.le_of_eq (Wr.size W45).symm)
      obtain ⟨T47, h47, X47, e47, E47, A47, D47, U47, st47⟩ := newO X45 hx hZ hown (hw _ (List.mem_of_getElem? (i := 1) rfl)) (hw _ (List.mem_of_getElem? (i := 2) rfl)) (hw _ (List.mem_of_getElem? (i := 3) rfl)) e45 (g := (mkF m 73 #[.val (.long vn), .second, .val (.int vf), .val (.int vb0), .val (.int vb1), .val (.int (0 : Int32)), .val (.int (1 : Int32)), .val (.ref b33), .val (.ref b35), .val .null, .unset, .unset, .unset] [])) rfl (hb hby at_73) (by decide) (by decide)
      obtain ⟨b47, g47⟩ : ∃ z, z = h45.size := ⟨_, rfl⟩
      rw [← g47] at A47 D47 U47 st47
      have g_b47 : n0 ≤ b47 := Nat.le_trans Zp46 (Nat.le_of_eq g47.symm)
      have Zp48 : n0 ≤ h47.size := Nat.le_trans Zp46 E47.1
      have Fn49 : Fld Z h47 b47 "com/example/narrow_grant/narrowgrant/session/FrontVersion" "number" "J" (.long (0 : Int64)) := D47 (Or.inr (hw _ (List.mem_of_getElem? (i := 11) rfl))) (ty := .long) (by decide)
      have Fn50 : Fld Z h47 b47 "com/example/narrow_grant/narrowgrant/session/FrontVersion" "front" "[B" .null := D47 (Or.inr (hw _ (List.mem_of_getElem? (i := 13) rfl))) (ty := (.array .byte)) (by decide)
      obtain ⟨_, _, ⟨T51, L51, k51, n51⟩, -, X51, ⟨Lc51, hQ51, l51, y51, z51⟩, st51⟩ := X47.specialBack hx (y := (⟨"com/example/narrow_grant/narrowgrant/session/FrontVersion", "<init>", "(J[B)V"⟩ : MethodName)) rfl hown (mvT hZ (hw _ (List.mem_of_getElem? (i := 4) rfl))) (mvT hZ (hw _ (List.mem_of_getElem? (i := 5) rfl))) (mvT hZ (hw _ (List.mem_of_getElem? (i := 6) rfl))) (by decide) (backOf (W := 1) (rm_in0 l Z a0 hw [] b47 vn h47 n0 Zp48 A47 g_b47 Fn49 Fn50) hZ (hw _ (List.mem_of_getElem? (i := 6) rfl)) (hw _ (List.mem_of_getElem? (i := 3) rfl)) (by decide) (by decide)) (g := (mkF m 80 #[.val (.long vn), .second, .val (.int vf), .val (.int vb0), .val (.int vb1), .val (.int (0 : Int32)), .val (.int (1 : Int32)), .val (.ref b33), .val (.ref b35), .val .null, .unset, .unset, .unset] [.null, (.long vn), (.ref b47), (.ref b47)])) rfl (by rw [hml]; rfl) (Steps.refl _) (a := b47) (argsL := [(.long vn), .null]) (rest := [(.ref b47)]) (lenOf own_pd0 rfl) rfl (by show 2 * 0 + _ ≤ _; exact Nat.le_of_eq rfl) (hb hby at_80) (fun _ _ => ⟨rfl, e47, (by decide : 3 + 0 ≤ _), (by decide : 4 + 0 ≤ _)⟩)
      dsimp only [Pt.U, Pt.locs, Pt.cells, Pt.slots] at X51 l51 y51 z51 st51 hQ51
      subst l51 y51 z51
      obtain ⟨rfl, Nq51, K51, Ex51, Fn51, Ff51⟩ := hQ51
      have Nf51 := Fr.app N45 Nq51
      have Zp52 : n0 ≤ T51.heap.size := Nat.le_trans Zp48 K51.1
      obtain ⟨cq54, kq54, q54a, q54b, q54c⟩ := isOf hZ rfl Ex51
      obtain ⟨_, _, ⟨T53, L53, k53, n53⟩, -, X53, ⟨Lc53, hQ53, l53, y53, z53⟩, st53⟩ := X51.virtualBack hx (y := (⟨"com/example/narrow_grant/narrowgrant/session/FrontVersion", "written", "()Z"⟩ : MethodName)) (z := (⟨"com/example/narrow_grant/narrowgrant/session/FrontVersion", "written", "()Z"⟩ : MethodName)) hown (mvT hZ (hw _ (List.mem_of_getElem? (i := 14) rfl))) (mvT hZ (hw _ (List.mem_of_getElem? (i := 15) rfl))) (notFace_of_selects (args := #[]) (mvT hZ (hw _ (List.mem_of_getElem? (i := 17) rfl)))) (mvT hZ (hw _ (List.mem_of_getElem? (i := 17) rfl))) (mvT hZ (hw _ (List.mem_of_getElem? (i := 16) rfl))) (by decide) (backOf (W := 0) (rm_wr0 l Z a0 hw [] b47 T51.heap n0 Zp52 Ff51) hZ (hw _ (List.mem_of_getElem? (i := 18) rfl)) (hw _ (List.mem_of_getElem? (i := 3) rfl)) (by decide) (by decide)) q54a q54c (g := (mkF m 87 #[.val (.long vn), .second, .val (.int vf), .val (.int vb0), .val (.int vb1), .val (.int (0 : Int32)), .val (.int (1 : Int32)), .val (.ref b33), .val (.ref b35), .val .null, .val (.ref b47), .unset, .unset] [(.ref b47)])) rfl (by rw [hml]; rfl) (Steps.refl _) (argsL := []) (rest := []) (lenOf own_pd1 rfl) rfl (by show 2 * 0 + _ ≤ _; exact Nat.le_of_eq rfl) (hb hby at_87) (fun _ _ => ⟨rfl, rfl, (by decide : 3 + 0 ≤ _), (by decide : 4 + 0 ≤ _)⟩)
      dsimp only [Pt.U, Pt.locs, Pt.cells, Pt.slots] at X53 l53 y53 z53 st53 hQ53
      subst l53 y53 z53
      obtain ⟨rfl, Nq53, hh53⟩ := hQ53
      have Nf53 := Fr.app Nf51 Nq53
      obtain ⟨cq56, kq56, q56a, q56b, q56c⟩ := isOf hZ hh53 Ex51
      obtain ⟨_, _, ⟨T55, L55, k55, n55⟩, -, X55, ⟨Lc55, hQ55, l55, y55, z55⟩, st55⟩ := X53.virtualBack hx (y := (⟨"com/example/narrow_grant/narrowgrant/session/FrontVersion", "written", "()Z"⟩ : MethodName)) (z := (⟨"com/example/narrow_grant/narrowgrant/session/FrontVersion", "written", "()Z"⟩ : MethodName)) hown (mvT hZ (hw _ (List.mem_of_getElem? (i := 14) rfl))) (mvT hZ (hw _ (List.mem_of_getElem? (i := 15) rfl))) (notFace_of_selects (args := #[]) (mvT hZ (hw _ (List.mem_of_getElem? (i := 17) rfl)))) (mvT hZ (hw _ (List.mem_of_getElem? (i := 17) rfl))) (mvT hZ (hw _ (List.mem_of_getElem? (i := 16) rfl))) (by decide) (backOf (W := 0) (rm_wr0 l Z a0 hw [] b47 T51.heap n0 Zp52 Ff51) hZ (hw _ (List.mem_of_getElem? (i := 18) rfl)) (hw _ (List.mem_of_getElem? (i := 3) rfl)) (by decide) (by decide)) q56a q56c (g := (mkF m 94 #[.val (.long vn), .second, .val (.int vf), .val (.int vb0), .val (.int vb1), .val (.int (0 : Int32)), .val (.int (1 : Int32)), .val (.ref b33), .val (.ref b35), .val .null, .val (.ref b47), .val (.int (0 : Int32)), .unset] [(.ref b47)])) rfl (by rw [hml]; rfl) (Steps.refl _) (argsL := []) (rest := []) (lenOf own_pd1 rfl) rfl (by show 2 * 0 + _ ≤ _; exact Nat.le_of_eq rfl) (hb hby at_94) (fun _ _ => ⟨rfl, hh53, (by decide : 3 + 0 ≤ _), (by decide : 4 + 0 ≤ _)⟩)
      dsimp only [Pt.U, Pt.locs, Pt.cells, Pt.slots] at X55 l55 y55 z55 st55 hQ55
      subst l55 y55 z55
      obtain ⟨rfl, Nq55, hh55⟩ := hQ55
      have Nf55 := Fr.app Nf53 Nq55
      obtain ⟨cq58, kq58, q58a, q58b, q58c⟩ := isOf hZ hh55 Ex51
      obtain ⟨_, _, ⟨T57, L57, k57, n57⟩, -, X57, ⟨Lc57, hQ57, l57, y57, z57⟩, st57⟩ := X55.virtualBack hx (y := (⟨"com/example/narrow_grant/narrowgrant/session/FrontVersion", "number", "()J"⟩ : MethodName)) (z := (⟨"com/example/narrow_grant/narrowgrant/session/FrontVersion", "number", "()J"⟩ : MethodName)) hown (mvT hZ (hw _ (List.mem_of_getElem? (i := 19) rfl))) (mvT hZ (hw _ (List.mem_of_getElem? (i := 20) rfl))) (notFace_of_selects (args := #[]) (mvT hZ (hw _ (List.mem_of_getElem? (i := 22) rfl)))) (mvT hZ (hw _ (List.mem_of_getElem? (i := 22) rfl))) (mvT hZ (hw _ (List.mem_of_getElem? (i := 21) rfl))) (by decide) (backOf (W := 0) (rm_nu l Z a0 hw [] b47 vn T51.heap n0 Zp52 Fn51) hZ (hw _ (List.mem_of_getElem? (i := 23) rfl)) (hw _ (List.mem_of_getElem? (i := 3) rfl)) (by decide) (by decide)) q58a q58c (g := (mkF m 115 #[.val (.long vn), .second, .val (.int vf), .val (.int vb0), .val (.int vb1), .val (.int (0 : Int32)), .val (.int (1 : Int32)), .val (.ref b33), .val (.ref b35), .val .null, .val (.ref b47), .val (.int (0 : Int32)), .val (.int (0 : Int32))] [(.ref b47)])) rfl (by rw [hml]; rfl) (Steps.refl _) (argsL := []) (rest := []) (lenOf own_pd2 rfl) rfl (by show 2 * 0 + _ ≤ _; exact Nat.le_of_eq rfl) (hb hby at_115) (fun _ _ => ⟨rfl, hh55, (by decide : 3 + 0 ≤ _), (by decide : 4 + 0 ≤ _)⟩)
      dsimp only [Pt.U, Pt.locs, Pt.cells, Pt.slots] at X57 l57 y57 z57 st57 hQ57
      subst l57 y57 z57
      obtain ⟨rfl, Nq57, hh57⟩ := hQ57
      have Nf57 := Fr.app Nf55 Nq57
      have pre59 : ∀ t, Steps p.tables e below (T57.setTop (mkF m 120 #[.val (.long vn), .second, .val (.int vf), .val (.int vb0), .val (.int vb1), .val (.int (0 : Int32)), .val (.int (1 : Int32)), .val (.ref b33), .val (.ref b35), .val .null, .val (.ref b47), .val (.int (0 : Int32)), .val (.int (0 : Int32))] [(.int (lcmpW vn vn))])) t → Steps p.tables e below (s₁.setTop (entryFrame m #[(.long vn), (.int vf), (.int vb0), (.int vb1)] maxLocals)) t := by
        intro t k
        refine pre43 t ?_
        show Steps p.tables e below (T40.setTop (mkF m 48 #[.val (.long vn), .second, .val (.int vf), .val (.int vb0), .val (.int vb1), .val (.int (0 : Int32)), .val (.int (1 : Int32)), .val (.ref b33), .val (.ref b35), .unset, .unset, .unset, .unset] [(.int yb1), (.int (1 : Int32)), (.ref b35)])) _
        refine st45 _ ?_
        show Steps p.tables e below (T45.setTop (mkF m 49 #[.val (.long vn), .second, .val (.int vf), .val (.int vb0), .val (.int vb1), .val (.int (0 : Int32)), .val (.int (1 : Int32)), .val (.ref b33), .val (.ref b35), .unset, .unset, .unset, .unset] [])) _
        refine XS.aconstNull X45.here hx rfl (hb hby at_49) ?_
        show Steps p.tables e below (T45.setTop (mkF m 50 #[.val (.long vn), .second, .val (.int vf), .val (.int vb0), .val (.int vb1), .val (.int (0 : Int32)), .val (.int (1 : Int32)), .val (.ref b33), .val (.ref b35), .unset, .unset, .unset, .unset] [.null])) _
        refine XS.astore X45.here hx rfl (hb hby at_50) rfl rfl (l' := #[.val (.long vn), .second, .val (.int vf), .val (.int vb0), .val (.int vb1), .val (.int (0 : Int32)), .val (.int (1 : Int32)), .val (.ref b33), .val (.ref b35), .val .null, .unset, .unset, .unset]) rfl ?_
        show Steps p.tables e below (T45.setTop (mkF m 52 #[.val (.long vn), .second, .val (.int vf), .val (.int vb0), .val (.int vb1), .val (.int (0 : Int32)), .val (.int (1 : Int32)), .val (.ref b33), .val (.ref b35), .val .null, .unset, .unset, .unset] [])) _
        refine XS.iload X45.here hx rfl (hb hby at_52) rfl ?_
        show Steps p.tables e below (T45.setTop (mkF m 54 #[.val (.long vn), .second, .val (.int vf), .val (.int vb0), .val (.int vb1), .val (.int (0 : Int32)), .val (.int (1 : Int32)), .val (.ref b33), .val (.ref b35), .val .null, .unset, .unset, .unset] [(.int (0 : Int32))])) _
        refine XS.ifYes X45.here hx rfl (pc0 := 54) (pc' := 73) rfl (hb hby at_54) rfl (by decide) (by decide) (by decide) ?_
        show Steps p.tables e below (T45.setTop (mkF m 73 #[.val (.long vn), .second, .val (.int vf), .val (.int vb0), .val (.int vb1), .val (.int (0 : Int32)), .val (.int (1 : Int32)), .val (.ref b33), .val (.ref b35), .val .null, .unset, .unset, .unset] [])) _
        refine st47 _ ?_
        show Steps p.tables e below (T47.setTop (mkF m 76 #[.val (.long vn), .second, .val (.int vf), .val (.int vb0), .val (.int vb1), .val (.int (0 : Int32)), .val (.int (1 : Int32)), .val (.ref b33), .val (.ref b35), .val .null, .unset, .unset, .unset] [(.ref b47)])) _
        refine XS.dup X47.here hx rfl (hb hby at_76) rfl rfl ?_
        show Steps p.tables e below (T47.setTop (mkF m 77 #[.val (.long vn), .second, .val (.int vf), .val (.int vb0), .val (.int vb1), .val (.int (0 : Int32)), .val (.int (1 : Int32)), .val (.ref b33), .val (.ref b35), .val .null, .unset, .unset, .unset] [(.ref b47), (.ref b47)])) _
        refine XS.lloadN X47.here hx rfl (hb hby at_77) rfl ?_
        show Steps p.tables e below (T47.setTop (mkF m 78 #[.val (.long vn), .second, .val (.int vf), .val (.int vb0), .val (.int vb1), .val (.int (0 : Int32)), .val (.int (1 : Int32)), .val (.ref b33), .val (.ref b35), .val .null, .unset, .unset, .unset] [(.long vn), (.ref b47), (.ref b47)])) _
        refine XS.aload X47.here hx rfl (hb hby at_78) rfl rfl ?_
        show Steps p.tables e below (T47.setTop (mkF m 80 #[.val (.long vn), .second, .val (.int vf), .val (.int vb0), .val (.int vb1), .val (.int (0 : Int32)), .val (.int (1 : Int32)), .val (.ref b33), .val (.ref b35), .val .null, .unset, .unset, .unset] [.null, (.long vn), (.ref b47), (.ref b47)])) _
        refine st51.trans ?_
        show Steps p.tables e below (T51.setTop (mkF m 83 #[.val (.long vn), .second, .val (.int vf), .val (.int vb0), .val (.int vb1), .val (.int (0 : Int32)), .val (.int (1 : Int32)), .val (.ref b33), .val (.ref b35), .val .null, .unset, .unset, .unset] [(.ref b47)])) _
        refine XS.astore X51.here hx rfl (hb hby at_83) rfl rfl (l' := #[.val (.long vn), .second, .val (.int vf), .val (.int vb0), .val (.int vb1), .val (.int (0 : Int32)), .val (.int (1 : Int32)), .val (.ref b33), .val (.ref b35), .val .null, .val (.ref b47), .unset, .unset]) rfl ?_
        show Steps p.tables e below (T51.setTop (mkF m 85 #[.val (.long vn), .second, .val (.int vf), .val (.int vb0), .val (.int vb1), .val (.int (0 : Int32)), .val (.int (1 : Int32)), .val (.ref b33), .val (.ref b35), .val .null, .val (.ref b47), .unset, .unset] [])) _
        refine XS.aload X51.here hx rfl (hb hby at_85) rfl rfl ?_
        show Steps p.tables e below (T51.setTop (mkF m 87 #[.val (.long vn), .second, .val (.int vf), .val (.int vb0), .val (.int vb1), .val (.int (0 : Int32)), .val (.int (1 : Int32)), .val (.ref b33), .val (.ref b35), .val .null, .val (.ref b47), .unset, .unset] [(.ref b47)])) _
        refine st53.trans ?_
        show Steps p.tables e below (T53.setTop (mkF m 90 #[.val (.long vn), .second, .val (.int vf), .val (.int vb0), .val (.int vb1), .val (.int (0 : Int32)), .val (.int (1 : Int32)), .val (.ref b33), .val (.ref b35), .val .null, .val (.ref b47), .unset, .unset] [(.int (0 : Int32))])) _
        refine XS.istore X53.here hx rfl (hb hby at_90) rfl (l' := #[.val (.long vn), .second, .val (.int vf), .val (.int vb0), .val (.int vb1), .val (.int (0 : Int32)), .val (.int (1 : Int32)), .val (.ref b33), .val (.ref b35), .val .null, .val (.ref b47), .val (.int (0 : Int32)), .unset]) rfl ?_
        show Steps p.tables e below (T53.setTop (mkF m 92 #[.val (.long vn), .second, .val (.int vf), .val (.int vb0), .val (.int vb1), .val (.int (0 : Int32)), .val (.int (1 : Int32)), .val (.ref b33), .val (.ref b35), .val .null, .val (.ref b47), .val (.int (0 : Int32)), .unset] [])) _
        refine XS.aload X53.here hx rfl (hb hby at_92) rfl rfl ?_
        show Steps p.tables e below (T53.setTop (mkF m 94 #[.val (.long vn), .second, .val (.int vf), .val (.int vb0), .val (.int vb1), .val (.int (0 : Int32)), .val (.int (1 : Int32)), .val (.ref b33), .val (.ref b35), .val .null, .val (.ref b47), .val (.int (0 : Int32)), .unset] [(.ref b47)])) _
        refine st55.trans ?_
        show Steps p.tables e below (T55.setTop (mkF m 97 #[.val (.long vn), .second, .val (.int vf), .val (.int vb0), .val (.int vb1), .val (.int (0 : Int32)), .val (.int (1 : Int32)), .val (.ref b33), .val (.ref b35), .val .null, .val (.ref b47), .val (.int (0 : Int32)), .unset] [(.int (0 : Int32))])) _
        refine XS.istore X55.here hx rfl (hb hby at_97) rfl (l' := #[.val (.long vn), .second, .val (.int vf), .val (.int vb0), .val (.int vb1), .val (.int (0 : Int32)), .val (.int (1 : Int32)), .val (.ref b33), .val (.ref b35), .val .null, .val (.ref b47), .val (.int (0 : Int32)), .val (.int (0 : Int32))]) rfl ?_
        show Steps p.tables e below (T55.setTop (mkF m 99 #[.val (.long vn), .second, .val (.int vf), .val (.int vb0), .val (.int vb1), .val (.int (0 : Int32)), .val (.int (1 : Int32)), .val (.ref b33), .val (.ref b35), .val .null, .val (.ref b47), .val (.int (0 : Int32)), .val (.int (0 : Int32))] [])) _
        refine XS.iload X55.here hx rfl (hb hby at_99) rfl ?_
        show Steps p.tables e below (T55.setTop (mkF m 101 #[.val (.long vn), .second, .val (.int vf), .val (.int vb0), .val (.int vb1), .val (.int (0 : Int32)), .val (.int (1 : Int32)), .val (.ref b33), .val (.ref b35), .val .null, .val (.ref b47), .val (.int (0 : Int32)), .val (.int (0 : Int32))] [(.int (0 : Int32))])) _
        refine XS.iload X55.here hx rfl (hb hby at_101) rfl ?_
        show Steps p.tables e below (T55.setTop (mkF m 103 #[.val (.long vn), .second, .val (.int vf), .val (.int vb0), .val (.int vb1), .val (.int (0 : Int32)), .val (.int (1 : Int32)), .val (.ref b33), .val (.ref b35), .val .null, .val (.ref b47), .val (.int (0 : Int32)), .val (.int (0 : Int32))] [(.int (0 : Int32)), (.int (0 : Int32))])) _
        refine XS.icmpNo X55.here hx rfl (hb hby at_103) rfl (by decide) ?_
        show Steps p.tables e below (T55.setTop (mkF m 106 #[.val (.long vn), .second, .val (.int vf), .val (.int vb0), .val (.int vb1), .val (.int (0 : Int32)), .val (.int (1 : Int32)), .val (.ref b33), .val (.ref b35), .val .null, .val (.ref b47), .val (.int (0 : Int32)), .val (.int (0 : Int32))] [])) _
        refine XS.iload X55.here hx rfl (hb hby at_106) rfl ?_
        show Steps p.tables e below (T55.setTop (mkF m 108 #[.val (.long vn), .second, .val (.int vf), .val (.int vb0), .val (.int vb1), .val (.int (0 : Int32)), .val (.int (1 : Int32)), .val (.ref b33), .val (.ref b35), .val .null, .val (.ref b47), .val (.int (0 : Int32)), .val (.int (0 : Int32))] [(.int (0 : Int32))])) _
        refine XS.iload X55.here hx rfl (hb hby at_108) rfl ?_
        show Steps p.tables e below (T55.setTop (mkF m 110 #[.val (.long vn), .second, .val (.int vf), .val (.int vb0), .val (.int vb1), .val (.int (0 : Int32)), .val (.int (1 : Int32)), .val (.ref b33), .val (.ref b35), .val .null, .val (.ref b47), .val (.int (0 : Int32)), .val (.int (0 : Int32))] [(.int (0 : Int32)), (.int (0 : Int32))])) _
        refine XS.icmpNo X55.here hx rfl (hb hby at_110) rfl (by decide) ?_
        show Steps p.tables e below (T55.setTop (mkF m 113 #[.val (.long vn), .second, .val (.int vf), .val (.int vb0), .val (.int vb1), .val (.int (0 : Int32)), .val (.int (1 : Int32)), .val (.ref b33), .val (.ref b35), .val .null, .val (.ref b47), .val (.int (0 : Int32)), .val (.int (0 : Int32))] [])) _
        refine XS.aload X55.here hx rfl (hb hby at_113) rfl rfl ?_
        show Steps p.tables e below (T55.setTop (mkF m 115 #[.val (.long vn), .second, .val (.int vf), .val (.int vb0), .val (.int vb1), .val (.int (0 : Int32)), .val (.int (1 : Int32)), .val (.ref b33), .val (.ref b35), .val .null, .val (.ref b47), .val (.int (0 : Int32)), .val (.int (0 : Int32))] [(.ref b47)])) _
        refine st57.trans ?_
        show Steps p.tables e below (T57.setTop (mkF m 118 #[.val (.long vn), .second, .val (.int vf), .val (.int vb0), .val (.int vb1), .val (.int (0 : Int32)), .val (.int (1 : Int32)), .val (.ref b33), .val (.ref b35), .val .null, .val (.ref b47), .val (.int (0 : Int32)), .val (.int (0 : Int32))] [(.long vn)])) _
        refine XS.lloadN X57.here hx rfl (hb hby at_118) rfl ?_
        show Steps p.tables e below (T57.setTop (mkF m 119 #[.val (.long vn), .second, .val (.int vf), .val (.int vb0), .val (.int vb1), .val (.int (0 : Int32)), .val (.int (1 : Int32)), .val (.ref b33), .val (.ref b35), .val .null, .val (.ref b47), .val (.int (0 : Int32)), .val (.int (0 : Int32))] [(.long vn), (.long vn)])) _
        refine XS.lcmp X57.here hx rfl (hb hby at_119) rfl ?_
        show Steps p.tables e below (T57.setTop (mkF m 120 #[.val (.long vn), .second, .val (.int vf), .val (.int vb0), .val (.int vb1), .val (.int (0 : Int32)), .val (.int (1 : Int32)), .val (.ref b33), .val (.ref b35), .val .null, .val (.ref b47), .val (.int (0 : Int32)), .val (.int (0 : Int32))] [(.int (lcmpW vn vn))])) _
        exact k
      have hd60 : vn = vn := rfl
      obtain ⟨fs, hr, hrun, hended, hW, hsame⟩ := X57.leave (v := some (.int (1 : Int32))) (fun h => by rw [Bd.returns] at h; cases h)
      refine ⟨_, _, pre59 _ ?_, hrun, hended, _, _, rfl, ?_, ⟨_, rfl⟩, hW, hsame.mono (by decide) (by decide)⟩
      · show Steps p.tables e below (T57.setTop (mkF m 120 #[.val (.long vn), .second, .val (.int vf), .val (.int vb0), .val (.int vb1), .val (.int (0 : Int32)), .val (.int (1 : Int32)), .val (.ref b33), .val (.ref b35), .val .null, .val (.ref b47), .val (.int (0 : Int32)), .val (.int (0 : Int32))] [(.int (lcmpW vn vn))])) _
        refine XS.ifNo X57.here hx rfl (hb hby at_120) rfl ((if0 _ _).trans (teq ((lw_eq _ _).mpr hd60)).2) ?_
        show Steps p.tables e below (T57.setTop (mkF m 123 #[.val (.long vn), .second, .val (.int vf), .val (.int vb0), .val (.int vb1), .val (.int (0 : Int32)), .val (.int (1 : Int32)), .val (.ref b33), .val (.ref b35), .val .null, .val (.ref b47), .val (.int (0 : Int32)), .val (.int (0 : Int32))] [])) _
        refine XS.iconst X57.here hx rfl (hb hby at_123) ?_
        show Steps p.tables e below (T57.setTop (mkF m 124 #[.val (.long vn), .second, .val (.int vf), .val (.int vb0), .val (.int vb1), .val (.int (0 : Int32)), .val (.int (1 : Int32)), .val (.ref b33), .val (.ref b35), .val .null, .val (.ref b47), .val (.int (0 : Int32)), .val (.int (0 : Int32))] [(.int (1 : Int32))])) _
        refine XS.goto X57.here hx rfl (pc0 := 124) (pc' := 128) rfl (hb hby at_124) (by decide) (by decide) ?_
        show Steps p.tables e below (T57.setTop (mkF m 128 #[.val (.long vn), .second, .val (.int vf), .val (.int vb0), .val (.int vb1), .val (.int (0 : Int32)), .val (.int (1 : Int32)), .val (.ref b33), .val (.ref b35), .val .null, .val (.ref b47), .val (.int (0 : Int32)), .val (.int (0 : Int32))] [(.int (1 : Int32))])) _
        exact retN X57 hx (t := .boolean) Bd.returns (by simp) (hb hby at_128) hr
      · show Q0 Z vn vf vb0 vb1 h0 n0 _ T57.heap _
        rw [hh57]
        exact ⟨rfl, Nf57⟩
  · have pre61 : ∀ t, Steps p.tables e below (s₁.setTop (mkF m 16 #[.val (.long vn), .second, .val (.int vf), .val (.int vb0), .val (.int vb1), .val (.int (1 : Int32)), .unset, .unset, .unset, .unset, .unset, .unset, .unset] [(.int (vf &&& (2 : Int32)))])) t → Steps p.tables e below (s₁.setTop (entryFrame m #[(.long vn), (.int vf), (.int vb0), (.int vb1)] maxLocals)) t := by
      intro t k
      refine pre1 t ?_
      show Steps p.tables e below (s₁.setTop (mkF m 3 #[.val (.long vn), .second, .val (.int vf), .val (.int vb0), .val (.int vb1), .unset, .unset, .unset, .unset, .unset, .unset, .unset, .unset] [(.int (vf &&& (1 : Int32)))])) _
      refine XS.ifNo X0.here hx rfl (hb hby at_3) rfl ((if0 _ _).trans (feq hc2).1) ?_
      show Steps p.tables e below (s₁.setTop (mkF m 6 #[.val (.long vn), .second, .val (.int vf), .val (.int vb0), .val (.int vb1), .unset, .unset, .unset, .unset, .unset, .unset, .unset, .unset] [])) _
      refine XS.iconst X0.here hx rfl (hb hby at_6) ?_
      show Steps p.tables e below (s₁.setTop (mkF m 7 #[.val (.long vn), .second, .val (.int vf), .val (.int vb0), .val (.int vb1), .unset, .unset, .unset, .unset, .unset, .unset, .unset, .unset] [(.int (1 : Int32))])) _
      refine XS.goto X0.here hx rfl (pc0 := 7) (pc' := 11) rfl (hb hby at_7) (by decide) (by decide) ?_
      show Steps p.tables e below (s₁.setTop (mkF m 11 #[.val (.long vn), .second, .val (.int vf), .val (.int vb0), .val (.int vb1), .unset, .unset, .unset, .unset, .unset, .unset, .unset, .unset] [(.int (1 : Int32))])) _
      refine XS.istore X0.here hx rfl (hb hby at_11) rfl (l' := #[.val (.long vn), .second, .val (.int vf), .val (.int vb0), .val (.int vb1), .val (.int (1 : Int32)), .unset, .unset, .unset, .unset, .unset, .unset, .unset]) rfl ?_
      show Steps p.tables e below (s₁.setTop (mkF m 13 #[.val (.long vn), .second, .val (.int vf), .val (.int vb0), .val (.int vb1), .val (.int (1 : Int32)), .unset, .unset, .unset, .unset, .unset, .unset, .unset] [])) _
      refine XS.iloadN X0.here hx rfl (hb hby at_13) rfl ?_
      show Steps p.tables e below (s₁.setTop (mkF m 14 #[.val (.long vn), .second, .val (.int vf), .val (.int vb0), .val (.int vb1), .val (.int (1 : Int32)), .unset, .unset, .unset, .unset, .unset, .unset, .unset] [(.int vf)])) _
      refine XS.iconst X0.here hx rfl (hb hby at_14) ?_
      show Steps p.tables e below (s₁.setTop (mkF m 15 #[.val (.long vn), .second, .val (.int vf), .val (.int vb0), .val (.int vb1), .val (.int (1 : Int32)), .unset, .unset, .unset, .unset, .unset, .unset, .unset] [(.int (2 : Int32)), (.int vf)])) _
      refine XS.iand X0.here hx rfl (hb hby at_15) rfl ?_
      show Steps p.tables e below (s₁.setTop (mkF m 16 #[.val (.long vn), .second, .val (.int vf), .val (.int vb0), .val (.int vb1), .val (.int (1 : Int32)), .unset, .unset, .unset, .unset, .unset, .unset, .unset] [(.int (vf &&& (2 : Int32)))])) _
      exact k
    by_cases hc62 : (vf &&& (2 : Int32)) = (0 : Int32)
    · obtain ⟨T63, h63, k63, X63, e63, E63, A63, C63, st63⟩ := newPE X0 hx hZ (hw _ (List.mem_of_getElem? (i := 0) rfl)) e0 (g := (mkF m 27 #[.val (.long vn), .second, .val (.int vf), .val (.int vb0), .val (.int vb1), .val (.int (1 : Int32)), .val (.int (0 : Int32)), .unset, .unset, .unset, .unset, .unset, .unset] [(.int (0 : Int32))])) rfl (hb hby at_27) rfl (by decide) (cap := 0) (by decide) (by decide) (by decide) (by decide) (ad := "[B") (by decide)
      obtain ⟨b63, g63⟩ : ∃ z, z = h0.size := ⟨_, rfl⟩
      rw [← g63] at A63 st63 C63
      have g_b63 : n0 ≤ b63 := Nat.le_trans Z0 (Nat.le_of_eq g63.symm)
      have Zp64 : n0 ≤ h63.size := Nat.le_trans Z0 E63.1
      have V63 : Arv Z h63 b63 k63 .byte (0 : Int32) [] (.int (0 : Int32)) := (Arv.new A63 (by decide)).pad (pad_rep [] (.int (0 : Int32)) 0)
      obtain ⟨T65, h65, k65, X65, e65, E65, A65, C65, st65⟩ := newPE X63 hx hZ (hw _ (List.mem_of_getElem? (i := 0) rfl)) e63 (g := (mkF m 32 #[.val (.long vn), .second, .val (.int vf), .val (.int vb0), .val (.int vb1), .val (.int (1 : Int32)), .val (.int (0 : Int32)), .val (.ref b63), .unset, .unset, .unset, .unset, .unset] [(.int (2 : Int32))])) rfl (hb hby at_32) rfl (by decide) (cap := 2) (by decide) (by decide) (by decide) (by decide) (ad := "[B") (by decide)
      obtain ⟨b65, g65⟩ : ∃ z, z = h63.size := ⟨_, rfl⟩
      rw [← g65] at A65 st65 C65
      have g_b65 : n0 ≤ b65 := Nat.le_trans Zp64 (Nat.le_of_eq g65.symm)
      have Zp66 : n0 ≤ h65.size := Nat.le_trans Zp64 E65.1
      have V65 : Arv Z h65 b65 k65 .byte (2 : Int32) [(.int (0 : Int32)), (.int (0 : Int32))] (.int (0 : Int32)) := (Arv.new A65 (by decide)).pad (pad_rep [] (.int (0 : Int32)) 2)
      have pre67 : ∀ t, Steps p.tables e below (T65.setTop (mkF m 41 #[.val (.long vn), .second, .val (.int vf), .val (.int vb0), .val (.int vb1), .val (.int (1 : Int32)), .val (.int (0 : Int32)), .val (.ref b63), .val (.ref b65), .unset, .unset, .unset, .unset] [(.int (vb0.toInt8.toInt32)), (.int (0 : Int32)), (.ref b65)])) t → Steps p.tables e below (s₁.setTop (entryFrame m #[(.long vn), (.int vf), (.int vb0), (.int vb1)] maxLocals)) t := by
        intro t k
        refine pre61 t ?_
        show Steps p.tables e below (s₁.setTop (mkF m 16 #[.val (.long vn), .second, .val (.int vf), .val (.int vb0), .val (.int vb1), .val (.int (1 : Int32)), .unset, .unset, .unset, .unset, .unset, .unset, .unset] [(.int (vf &&& (2 : Int32)))])) _
        refine XS.ifYes X0.here hx rfl (pc0 := 16) (pc' := 23) rfl (hb hby at_16) rfl ((if0 _ _).trans (teq hc62).1) (by decide) (by decide) ?_
        show Steps p.tables e below (s₁.setTop (mkF m 23 #[.val (.long vn), .second, .val (.int vf), .val (.int vb0), .val (.int vb1), .val (.int (1 : Int32)), .unset, .unset, .unset, .unset, .unset, .unset, .unset] [])) _
        refine XS.iconst X0.here hx rfl (hb hby at_23) ?_
        show Steps p.tables e below (s₁.setTop (mkF m 24 #[.val (.long vn), .second, .val (.int vf), .val (.int vb0), .val (.int vb1), .val (.int (1 : Int32)), .unset, .unset, .unset, .unset, .unset, .unset, .unset] [(.int (0 : Int32))])) _
        refine XS.istore X0.here hx rfl (hb hby at_24) rfl (l' := #[.val (.long vn), .second, .val (.int vf), .val (.int vb0), .val (.int vb1), .val (.int (1 : Int32)), .val (.int (0 : Int32)), .unset, .unset, .unset, .unset, .unset, .unset]) rfl ?_
        show Steps p.tables e below (s₁.setTop (mkF m 26 #[.val (.long vn), .second, .val (.int vf), .val (.int vb0), .val (.int vb1), .val (.int (1 : Int32)), .val (.int (0 : Int32)), .unset, .unset, .unset, .unset, .unset, .unset] [])) _
        refine XS.iconst X0.here hx rfl (hb hby at_26) ?_
        show Steps p.tables e below (s₁.setTop (mkF m 27 #[.val (.long vn), .second, .val (.int vf), .val (.int vb0), .val (.int vb1), .val (.int (1 : Int32)), .val (.int (0 : Int32)), .unset, .unset, .unset, .unset, .unset, .unset] [(.int (0 : Int32))])) _
        refine st63 _ ?_
        show Steps p.tables e below (T63.setTop (mkF m 29 #[.val (.long vn), .second, .val (.int vf), .val (.int vb0), .val (.int vb1), .val (.int (1 : Int32)), .val (.int (0 : Int32)), .unset, .unset, .unset, .unset, .unset, .unset] [(.ref b63)])) _
        refine XS.astore X63.here hx rfl (hb hby at_29) rfl rfl (l' := #[.val (.long vn), .second, .val (.int vf), .val (.int vb0), .val (.int vb1), .val (.int (1 : Int32)), .val (.int (0 : Int32)), .val (.ref b63), .unset, .unset, .unset, .unset, .unset]) rfl ?_
        show Steps p.tables e below (T63.setTop (mkF m 31 #[.val (.long vn), .second, .val (.int vf), .val (.int vb0), .val (.int vb1), .val (.int (1 : Int32)), .val (.int (0 : Int32)), .val (.ref b63), .unset, .unset, .unset, .unset, .unset] [])) _
        refine XS.iconst X63.here hx rfl (hb hby at_31) ?_
        show Steps p.tables e below (T63.setTop (mkF m 32 #[.val (.long vn), .second, .val (.int vf), .val (.int vb0), .val (.int vb1), .val (.int (1 : Int32)), .val (.int (0 : Int32)), .val (.ref b63), .unset, .unset, .unset, .unset, .unset] [(.int (2 : Int32))])) _
        refine st65 _ ?_
        show Steps p.tables e below (T65.setTop (mkF m 34 #[.val (.long vn), .second, .val (.int vf), .val (.int vb0), .val (.int vb1), .val (.int (1 : Int32)), .val (.int (0 : Int32)), .val (.ref b63), .unset, .unset, .unset, .unset, .unset] [(.ref b65)])) _
        refine XS.astore X65.here hx rfl (hb hby at_34) rfl rfl (l' := #[.val (.long vn), .second, .val (.int vf), .val (.int vb0), .val (.int vb1), .val (.int (1 : Int32)), .val (.int (0 : Int32)), .val (.ref b63), .val (.ref b65), .unset, .unset, .unset, .unset]) rfl ?_
        show Steps p.tables e below (T65.setTop (mkF m 36 #[.val (.long vn), .second, .val (.int vf), .val (.int vb0), .val (.int vb1), .val (.int (1 : Int32)), .val (.int (0 : Int32)), .val (.ref b63), .val (.ref b65), .unset, .unset, .unset, .unset] [])) _
        refine XS.aload X65.here hx rfl (hb hby at_36) rfl rfl ?_
        show Steps p.tables e below (T65.setTop (mkF m 38 #[.val (.long vn), .second, .val (.int vf), .val (.int vb0), .val (.int vb1), .val (.int (1 : Int32)), .val (.int (0 : Int32)), .val (.ref b63), .val (.ref b65), .unset, .unset, .unset, .unset] [(.ref b65)])) _
        refine XS.iconst X65.here hx rfl (hb hby at_38) ?_
        show Steps p.tables e below (T65.setTop (mkF m 39 #[.val (.long vn), .second, .val (.int vf), .val (.int vb0), .val (.int vb1), .val (.int (1 : Int32)), .val (.int (0 : Int32)), .val (.ref b63), .val (.ref b65), .unset, .unset, .unset, .unset] [(.int (0 : Int32)), (.ref b65)])) _
        refine XS.iloadN X65.here hx rfl (hb hby at_39) rfl ?_
        show Steps p.tables e below (T65.setTop (mkF m 40 #[.val (.long vn), .second, .val (.int vf), .val (.int vb0), .val (.int vb1), .val (.int (1 : Int32)), .val (.int (0 : Int32)), .val (.ref b63), .val (.ref b65), .unset, .unset, .unset, .unset] [(.int vb0), (.int (0 : Int32)), (.ref b65)])) _
        refine XS.i2b X65.here hx rfl (hb hby at_40) rfl ?_
        show Steps p.tables e below (T65.setTop (mkF m 41 #[.val (.long vn), .second, .val (.int vf), .val (.int vb0), .val (.int vb1), .val (.int (1 : Int32)), .val (.int (0 : Int32)), .val (.ref b63), .val (.ref b65), .unset, .unset, .unset, .unset] [(.int (vb0.toInt8.toInt32)), (.int (0 : Int32)), (.ref b65)])) _
        exact k
      obtain ⟨yb0, h_yb0⟩ : ∃ z : Int32, z = (vb0.toInt8.toInt32) := ⟨_, rfl⟩
      have pre68 : ∀ t, Steps p.tables e below (T65.setTop (mkF m 41 #[.val (.long vn), .second, .val (.int vf), .val (.int vb0), .val (.int vb1), .val (.int (1 : Int32)), .val (.int (0 : Int32)), .val (.ref b63), .val (.ref b65), .unset, .unset, .unset, .unset] [(.int yb0), (.int (0 : Int32)), (.ref b65)])) t → Steps p.tables e below (s₁.setTop (entryFrame m #[(.long vn), (.int vf), (.int vb0), (.int vb1)] maxLocals)) t := by
        subst h_yb0
        exact pre67
      obtain ⟨cl69, Ar69, q69, S69, M69, H69, G69⟩ := V65
      have hin69 : ¬ ((0 : Int32) < 0 ∨ cl69.slots.size ≤ ((0 : Int32)).toNatClampNeg) := inb_of S69 ⟨by decide, by decide⟩
      obtain ⟨T70, h70, X70, e70, W70, st70⟩ := stB X65 hx hZ e65 Ar69 (j := (0 : Int32)) hin69 (g := (mkF m 41 #[.val (.long vn), .second, .val (.int vf), .val (.int vb0), .val (.int vb1), .val (.int (1 : Int32)), .val (.int (0 : Int32)), .val (.ref b63), .val (.ref b65), .unset, .unset, .unset, .unset] [(.int yb0), (.int (0 : Int32)), (.ref b65)])) rfl rfl (hb hby at_41)
      have N70 := Fr.snoc X70 N0 g_b65
      have V70 : Arv Z h70 b65 k65 .byte (2 : Int32) [(.int (nar .byte yb0)), (.int (0 : Int32))] (.int (0 : Int32)) := Arv.set Ar69 q69 S69 M69 H69 G69 (fits_nar_byte _) W70 0 rfl (Nat.le_of_ble_eq_true rfl)
      have Zp71 : n0 ≤ h70.size := Nat.le_trans Zp66 (Nat.le_of_eq (Wr.size W70).symm)
      have pre72 : ∀ t, Steps p.tables e below (T70.setTop (mkF m 48 #[.val (.long vn), .second, .val (.int vf), .val (.int vb0), .val (.int vb1), .val (.int (1 : Int32)), .val (.int (0 : Int32)), .val (.ref b63), .val (.ref b65), .unset, .unset, .unset, .unset] [(.int (vb1.toInt8.toInt32)), (.int (1 : Int32)), (.ref b65)])) t → Steps p.tables e below (s₁.setTop (entryFrame m #[(.long vn), (.int vf), (.int vb0), (.int vb1)] maxLocals)) t := by
        intro t k
        refine pre68 t ?_
        show Steps p.tables e below (T65.setTop (mkF m 41 #[.val (.long vn), .second, .val (.int vf), .val (.int vb0), .val (.int vb1), .val (.int (1 : Int32)), .val (.int (0 : Int32)), .val (.ref b63), .val (.ref b65), .unset, .unset, .unset, .unset] [(.int yb0), (.int (0 : Int32)), (.ref b65)])) _
        refine st70 _ ?_
        show Steps p.tables e below (T70.setTop (mkF m 42 #[.val (.long vn), .second, .val (.int vf), .val (.int vb0), .val (.int vb1), .val (.int (1 : Int32)), .val (.int (0 : Int32)), .val (.ref b63), .val (.ref b65), .unset, .unset, .unset, .unset] [])) _
        refine XS.aload X70.here hx rfl (hb hby at_42) rfl rfl ?_
        show Steps p.tables e below (T70.setTop (mkF m 44 #[.val (.long vn), .second, .val (.int vf), .val (.int vb0), .val (.int vb1), .val (.int (1 : Int32)), .val (.int (0 : Int32)), .val (.ref b63), .val (.ref b65), .unset, .unset, .unset, .unset] [(.ref b65)])) _
        refine XS.iconst X70.here hx rfl (hb hby at_44) ?_
        show Steps p.tables e below (T70.setTop (mkF m 45 #[.val (.long vn), .second, .val (.int vf), .val (.int vb0), .val (.int vb1), .val (.int (1 : Int32)), .val (.int (0 : Int32)), .val (.ref b63), .val (.ref b65), .unset, .unset, .unset, .unset] [(.int (1 : Int32)), (.ref b65)])) _
        refine XS.iload X70.here hx rfl (hb hby at_45) rfl ?_
        show Steps p.tables e below (T70.setTop (mkF m 47 #[.val (.long vn), .second, .val (.int vf), .val (.int vb0), .val (.int vb1), .val (.int (1 : Int32)), .val (.int (0 : Int32)), .val (.ref b63), .val (.ref b65), .unset, .unset, .unset, .unset] [(.int vb1), (.int (1 : Int32)), (.ref b65)])) _
        refine XS.i2b X70.here hx rfl (hb hby at_47) rfl ?_
        show Steps p.tables e below (T70.setTop (mkF m 48 #[.val (.long vn), .second, .val (.int vf), .val (.int vb0), .val (.int vb1), .val (.int (1 : Int32)), .val (.int (0 : Int32)), .val (.ref b63), .val (.ref b65), .unset, .unset, .unset, .unset] [(.int (vb1.toInt8.toInt32)), (.int (1 : Int32)), (.ref b65)])) _
        exact k
      obtain ⟨yb1, h_yb1⟩ : ∃ z : Int32, z = (vb1.toInt8.toInt32) := ⟨_, rfl⟩
      have pre73 : ∀ t, Steps p.tables e below (T70.setTop (mkF m 48 #[.val (.long vn), .second, .val (.int vf), .val (.int vb0), .val (.int vb1), .val (.int (1 : Int32)), .val (.int (0 : Int32)), .val (.ref b63), .val (.ref b65), .unset, .unset, .unset, .unset] [(.int yb1), (.int (1 : Int32)), (.ref b65)])) t → Steps p.tables e below (s₁.setTop (entryFrame m #[(.long vn), (.int vf), (.int vb0), (.int vb1)] maxLocals)) t := by
        subst h_yb1
        exact pre72
      obtain ⟨cl74, Ar74, q74, S74, M74, H74, G74⟩ := V70
      have hin74 : ¬ ((1 : Int32) < 0 ∨ cl74.slots.size ≤ ((1 : Int32)).toNatClampNeg) := inb_of S74 ⟨by decide, by decide⟩
      obtain ⟨T75, h75, X75, e75, W75, st75⟩ := stB X70 hx hZ e70 Ar74 (j := (1 : Int32)) hin74 (g := (mkF m 48 #[.val (.long vn), .second, .val (.int vf), .val (.int vb0), .val (.int vb1), .val (.int (1 : Int32)), .val (.int (0 : Int32)), .val (.ref b63), .val (.ref b65), .unset, .unset, .unset, .unset] [(.int yb1), (.int (1 : Int32)), (.ref b65)])) rfl rfl (hb hby at_48)
      have N75 := Fr.snoc X75 N70 g_b65
      have V75 : Arv Z h75 b65 k65 .byte (2 : Int32) [(.int (nar .byte yb0)), (.int (nar .byte yb1))] (.int (0 : Int32)) := Arv.set Ar74 q74 S74 M74 H74 G74 (fits_nar_byte _) W75 1 rfl (Nat.le_of_ble_eq_true rfl)
      have Zp76 : n0 ≤ h75.size := Nat.le_trans Zp71 (Nat.le_of_eq (Wr.size W75).symm)
      obtain ⟨T77, h77, X77, e77, E77, A77, D77, U77, st77⟩ := newO X75 hx hZ hown (hw _ (List.mem_of_getElem? (i := 1) rfl)) (hw _ (List.mem_of_getElem? (i := 2) rfl)) (hw _ (List.mem_of_getElem? (i := 3) rfl)) e75 (g := (mkF m 73 #[.val (.long vn), .second, .val (.int vf), .val (.int vb0), .val (.int vb1), .val (.int (1 : Int32)), .val (.int (0 : Int32)), .val (.ref b63), .val (.ref b65), .val (.ref b65), .unset, .unset, .unset] [])) rfl (hb hby at_73) (by decide) (by decide)
      obtain ⟨b77, g77⟩ : ∃ z, z = h75.size := ⟨_, rfl⟩
      rw [← g77] at A77 D77 U77 st77
      have g_b77 : n0 ≤ b77 := Nat.le_trans Zp76 (Nat.le_of_eq g77.symm)
      have Zp78 : n0 ≤ h77.size := Nat.le_trans Zp76 E77.1
      have Fn79 : Fld Z h77 b77 "com/example/narrow_grant/narrowgrant/session/FrontVersion" "number" "J" (.long (0 : Int64)) := D77 (Or.inr (hw _ (List.mem_of_getElem? (i := 11) rfl))) (ty := .long) (by decide)
      have Fn80 : Fld Z h77 b77 "com/example/narrow_grant/narrowgrant/session/FrontVersion" "front" "[B" .null := D77 (Or.inr (hw _ (List.mem_of_getElem? (i := 13) rfl))) (ty := (.array .byte)) (by decide)
      have Fc81 := (V75.ext E77)
      have Fc82 := (Exa.ext E77 (Exa.wr W75 (Exa.wr W70 C65)))
      obtain ⟨_, _, ⟨T83, L83, k83, n83⟩, -, X83, ⟨Lc83, hQ83, l83, y83, z83⟩, st83⟩ := X77.specialBack hx (y := (⟨"com/example/narrow_grant/narrowgrant/session/FrontVersion", "<init>", "(J[B)V"⟩ : MethodName)) rfl hown (mvT hZ (hw _ (List.mem_of_getElem? (i := 4) rfl))) (mvT hZ (hw _ (List.mem_of_getElem? (i := 5) rfl))) (mvT hZ (hw _ (List.mem_of_getElem? (i := 6) rfl))) (by decide) (backOf (W := 1) (rm_in1 l Z a0 hw [] b77 vn b65 k65 (2 : Int32) [(.int (nar .byte yb0)), (.int (nar .byte yb1))] h77 n0 Zp78 A77 g_b77 Fn79 Fn80 Fc81 Fc82 (by decide) (Nat.ne_of_lt (Nat.lt_of_lt_of_le (V75).lt (Nat.le_of_eq g77.symm)))) hZ (hw _ (List.mem_of_getElem? (i := 6) rfl)) (hw _ (List.mem_of_getElem? (i := 3) rfl)) (by decide) (by decide)) (g := (mkF m 80 #[.val (.long vn), .second, .val (.int vf), .val (.int vb0), .val (.int vb1), .val (.int (1 : Int32)), .val (.int (0 : Int32)), .val (.ref b63), .val (.ref b65), .val (.ref b65), .unset, .unset, .unset] [(.ref b65), (.long vn), (.ref b77), (.ref b77)])) rfl (by rw [hml]; rfl) (Steps.refl _) (a := b77) (argsL := [(.long vn), (.ref b65)]) (rest := [(.ref b77)]) (lenOf own_pd0 rfl) rfl (by show 2 * 0 + _ ≤ _; exact Nat.le_of_eq rfl) (hb hby at_80) (fun _ _ => ⟨rfl, e77, (by decide : 3 + 1 ≤ _), (by decide : 4 + 2 ≤ _)⟩)
      dsimp only [Pt.U, Pt.locs, Pt.cells, Pt.slots] at X83 l83 y83 z83 st83 hQ83
      subst l83 y83 z83
      obtain ⟨rfl, Nq83, K83, Ex83, Fn83, ⟨bf83, Ff83⟩⟩ := hQ83
      have Nf83 := Fr.app N75 Nq83
      have Zp84 : n0 ≤ T83.heap.size := Nat.le_trans Zp78 K83.1
      obtain ⟨cq86, kq86, q86a, q86b, q86c⟩ := isOf hZ rfl Ex83
      obtain ⟨_, _, ⟨T85, L85, k85, n85⟩, -, X85, ⟨Lc85, hQ85, l85, y85, z85⟩, st85⟩ := X83.virtualBack hx (y := (⟨"com/example/narrow_grant/narrowgrant/session/FrontVersion", "written", "()Z"⟩ : MethodName)) (z := (⟨"com/example/narrow_grant/narrowgrant/session/FrontVersion", "written", "()Z"⟩ : MethodName)) hown (mvT hZ (hw _ (List.mem_of_getElem? (i := 14) rfl))) (mvT hZ (hw _ (List.mem_of_getElem? (i := 15) rfl))) (notFace_of_selects (args := #[]) (mvT hZ (hw _ (List.mem_of_getElem? (i := 17) rfl)))) (mvT hZ (hw _ (List.mem_of_getElem? (i := 17) rfl))) (mvT hZ (hw _ (List.mem_of_getElem? (i := 16) rfl))) (by decide) (backOf (W := 0) (rm_wr1 l Z a0 hw [] b77 bf83 T83.heap n0 Zp84 Ff83) hZ (hw _ (List.mem_of_getElem? (i := 18) rfl)) (hw _ (List.mem_of_getElem? (i := 3) rfl)) (by decide) (by decide)) q86a q86c (g := (mkF m 87 #[.val (.long vn), .second, .val (.int vf), .val (.int vb0), .val (.int vb1), .val (.int (1 : Int32)), .val (.int (0 : Int32)), .val (.ref b63), .val (.ref b65), .val (.ref b65), .val (.ref b77), .unset, .unset] [(.ref b77)])) rfl (by rw [hml]; rfl) (Steps.refl _) (argsL := []) (rest := []) (lenOf own_pd1 rfl) rfl (by show 2 * 0 + _ ≤ _; exact Nat.le_of_eq rfl) (hb hby at_87) (fun _ _ => ⟨rfl, rfl, (by decide : 4 + 0 ≤ _), (by decide : 6 + 0 ≤ _)⟩)
      dsimp only [Pt.U, Pt.locs, Pt.cells, Pt.slots] at X85 l85 y85 z85 st85 hQ85
      subst l85 y85 z85
      obtain ⟨rfl, Nq85, hh85⟩ := hQ85
      have Nf85 := Fr.app Nf83 Nq85
      obtain ⟨cq88, kq88, q88a, q88b, q88c⟩ := isOf hZ hh85 Ex83
      obtain ⟨_, _, ⟨T87, L87, k87, n87⟩, -, X87, ⟨Lc87, hQ87, l87, y87, z87⟩, st87⟩ := X85.virtualBack hx (y := (⟨"com/example/narrow_grant/narrowgrant/session/FrontVersion", "written", "()Z"⟩ : MethodName)) (z := (⟨"com/example/narrow_grant/narrowgrant/session/FrontVersion", "written", "()Z"⟩ : MethodName)) hown (mvT hZ (hw _ (List.mem_of_getElem? (i := 14) rfl))) (mvT hZ (hw _ (List.mem_of_getElem? (i := 15) rfl))) (notFace_of_selects (args := #[]) (mvT hZ (hw _ (List.mem_of_getElem? (i := 17) rfl)))) (mvT hZ (hw _ (List.mem_of_getElem? (i := 17) rfl))) (mvT hZ (hw _ (List.mem_of_getElem? (i := 16) rfl))) (by decide) (backOf (W := 0) (rm_wr1 l Z a0 hw [] b77 bf83 T83.heap n0 Zp84 Ff83) hZ (hw _ (List.mem_of_getElem? (i := 18) rfl)) (hw _ (List.mem_of_getElem? (i := 3) rfl)) (by decide) (by decide)) q88a q88c (g := (mkF m 94 #[.val (.long vn), .second, .val (.int vf), .val (.int vb0), .val (.int vb1), .val (.int (1 : Int32)), .val (.int (0 : Int32)), .val (.ref b63), .val (.ref b65), .val (.ref b65), .val (.ref b77), .val (.int (1 : Int32)), .unset] [(.ref b77)])) rfl (by rw [hml]; rfl) (Steps.refl _) (argsL := []) (rest := []) (lenOf own_pd1 rfl) rfl (by show 2 * 0 + _ ≤ _; exact Nat.le_of_eq rfl) (hb hby at_94) (fun _ _ => ⟨rfl, hh85, (by decide : 4 + 0 ≤ _), (by decide : 6 + 0 ≤ _)⟩)
      dsimp only [Pt.U, Pt.locs, Pt.cells, Pt.slots] at X87 l87 y87 z87 st87 hQ87
      subst l87 y87 z87
      obtain ⟨rfl, Nq87, hh87⟩ := hQ87
      have Nf87 := Fr.app Nf85 Nq87
      obtain ⟨cq90, kq90, q90a, q90b, q90c⟩ := isOf hZ hh87 Ex83
      obtain ⟨_, _, ⟨T89, L89, k89, n89⟩, -, X89, ⟨Lc89, hQ89, l89, y89, z89⟩, st89⟩ := X87.virtualBack hx (y := (⟨"com/example/narrow_grant/narrowgrant/session/FrontVersion", "number", "()J"⟩ : MethodName)) (z := (⟨"com/example/narrow_grant/narrowgrant/session/FrontVersion", "number", "()J"⟩ : MethodName)) hown (mvT hZ (hw _ (List.mem_of_getElem? (i := 19) rfl))) (mvT hZ (hw _ (List.mem_of_getElem? (i := 20) rfl))) (notFace_of_selects (args := #[]) (mvT hZ (hw _ (List.mem_of_getElem? (i := 22) rfl)))) (mvT hZ (hw _ (List.mem_of_getElem? (i := 22) rfl))) (mvT hZ (hw _ (List.mem_of_getElem? (i := 21) rfl))) (by decide) (backOf (W := 0) (rm_nu l Z a0 hw [] b77 vn T83.heap n0 Zp84 Fn83) hZ (hw _ (List.mem_of_getElem? (i := 23) rfl)) (hw _ (List.mem_of_getElem? (i := 3) rfl)) (by decide) (by decide)) q90a q90c (g := (mkF m 115 #[.val (.long vn), .second, .val (.int vf), .val (.int vb0), .val (.int vb1), .val (.int (1 : Int32)), .val (.int (0 : Int32)), .val (.ref b63), .val (.ref b65), .val (.ref b65), .val (.ref b77), .val (.int (1 : Int32)), .val (.int (1 : Int32))] [(.ref b77)])) rfl (by rw [hml]; rfl) (Steps.refl _) (argsL := []) (rest := []) (lenOf own_pd2 rfl) rfl (by show 2 * 0 + _ ≤ _; exact Nat.le_of_eq rfl) (hb hby at_115) (fun _ _ => ⟨rfl, hh87, (by decide : 4 + 0 ≤ _), (by decide : 6 + 0 ≤ _)⟩)
      dsimp only [Pt.U, Pt.locs, Pt.cells, Pt.slots] at X89 l89 y89 z89 st89 hQ89
      subst l89 y89 z89
      obtain ⟨rfl, Nq89, hh89⟩ := hQ89
      have Nf89 := Fr.app Nf87 Nq89
      have pre91 : ∀ t, Steps p.tables e below (T89.setTop (mkF m 120 #[.val (.long vn), .second, .val (.int vf), .val (.int vb0), .val (.int vb1), .val (.int (1 : Int32)), .val (.int (0 : Int32)), .val (.ref b63), .val (.ref b65), .val (.ref b65), .val (.ref b77), .val (.int (1 : Int32)), .val (.int (1 : Int32))] [(.int (lcmpW vn vn))])) t → Steps p.tables e below (s₁.setTop (entryFrame m #[(.long vn), (.int vf), (.int vb0), (.int vb1)] maxLocals)) t := by
        intro t k
        refine pre73 t ?_
        show Steps p.tables e below (T70.setTop (mkF m 48 #[.val (.long vn), .second, .val (.int vf), .val (.int vb0), .val (.int vb1), .val (.int (1 : Int32)), .val (.int (0 : Int32)), .val (.ref b63), .val (.ref b65), .unset, .unset, .unset, .unset] [(.int yb1), (.int (1 : Int32)), (.ref b65)])) _
        refine st75 _ ?_
        show Steps p.tables e below (T75.setTop (mkF m 49 #[.val (.long vn), .second, .val (.int vf), .val (.int vb0), .val (.int vb1), .val (.int (1 : Int32)), .val (.int (0 : Int32)), .val (.ref b63), .val (.ref b65), .unset, .unset, .unset, .unset] [])) _
        refine XS.aconstNull X75.here hx rfl (hb hby at_49) ?_
        show Steps p.tables e below (T75.setTop (mkF m 50 #[.val (.long vn), .second, .val (.int vf), .val (.int vb0), .val (.int vb1), .val (.int (1 : Int32)), .val (.int (0 : Int32)), .val (.ref b63), .val (.ref b65), .unset, .unset, .unset, .unset] [.null])) _
        refine XS.astore X75.here hx rfl (hb hby at_50) rfl rfl (l' := #[.val (.long vn), .second, .val (.int vf), .val (.int vb0), .val (.int vb1), .val (.int (1 : Int32)), .val (.int (0 : Int32)), .val (.ref b63), .val (.ref b65), .val .null, .unset, .unset, .unset]) rfl ?_
        show Steps p.tables e below (T75.setTop (mkF m 52 #[.val (.long vn), .second, .val (.int vf), .val (.int vb0), .val (.int vb1), .val (.int (1 : Int32)), .val (.int (0 : Int32)), .val (.ref b63), .val (.ref b65), .val .null, .unset, .unset, .unset] [])) _
        refine XS.iload X75.here hx rfl (hb hby at_52) rfl ?_
        show Steps p.tables e below (T75.setTop (mkF m 54 #[.val (.long vn), .second, .val (.int vf), .val (.int vb0), .val (.int vb1), .val (.int (1 : Int32)), .val (.int (0 : Int32)), .val (.ref b63), .val (.ref b65), .val .null, .unset, .unset, .unset] [(.int (1 : Int32))])) _
        refine XS.ifNo X75.here hx rfl (hb hby at_54) rfl (by decide) ?_
        show Steps p.tables e below (T75.setTop (mkF m 57 #[.val (.long vn), .second, .val (.int vf), .val (.int vb0), .val (.int vb1), .val (.int (1 : Int32)), .val (.int (0 : Int32)), .val (.ref b63), .val (.ref b65), .val .null, .unset, .unset, .unset] [])) _
        refine XS.iload X75.here hx rfl (hb hby at_57) rfl ?_
        show Steps p.tables e below (T75.setTop (mkF m 59 #[.val (.long vn), .second, .val (.int vf), .val (.int vb0), .val (.int vb1), .val (.int (1 : Int32)), .val (.int (0 : Int32)), .val (.ref b63), .val (.ref b65), .val .null, .unset, .unset, .unset] [(.int (0 : Int32))])) _
        refine XS.ifYes X75.here hx rfl (pc0 := 59) (pc' := 69) rfl (hb hby at_59) rfl (by decide) (by decide) (by decide) ?_
        show Steps p.tables e below (T75.setTop (mkF m 69 #[.val (.long vn), .second, .val (.int vf), .val (.int vb0), .val (.int vb1), .val (.int (1 : Int32)), .val (.int (0 : Int32)), .val (.ref b63), .val (.ref b65), .val .null, .unset, .unset, .unset] [])) _
        refine XS.aload X75.here hx rfl (hb hby at_69) rfl rfl ?_
        show Steps p.tables e below (T75.setTop (mkF m 71 #[.val (.long vn), .second, .val (.int vf), .val (.int vb0), .val (.int vb1), .val (.int (1 : Int32)), .val (.int (0 : Int32)), .val (.ref b63), .val (.ref b65), .val .null, .unset, .unset, .unset] [(.ref b65)])) _
        refine XS.astore X75.here hx rfl (hb hby at_71) rfl rfl (l' := #[.val (.long vn), .second, .val (.int vf), .val (.int vb0), .val (.int vb1), .val (.int (1 : Int32)), .val (.int (0 : Int32)), .val (.ref b63), .val (.ref b65), .val (.ref b65), .unset, .unset, .unset]) rfl ?_
        show Steps p.tables e below (T75.setTop (mkF m 73 #[.val (.long vn), .second, .val (.int vf), .val (.int vb0), .val (.int vb1), .val (.int (1 : Int32)), .val (.int (0 : Int32)), .val (.ref b63), .val (.ref b65), .val (.ref b65), .unset, .unset, .unset] [])) _
        refine st77 _ ?_
        show Steps p.tables e below (T77.setTop (mkF m 76 #[.val (.long vn), .second, .val (.int vf), .val (.int vb0), .val (.int vb1), .val (.int (1 : Int32)), .val (.int (0 : Int32)), .val (.ref b63), .val (.ref b65), .val (.ref b65), .unset, .unset, .unset] [(.ref b77)])) _
        refine XS.dup X77.here hx rfl (hb hby at_76) rfl rfl ?_
        show Steps p.tables e below (T77.setTop (mkF m 77 #[.val (.long vn), .second, .val (.int vf), .val (.int vb0), .val (.int vb1), .val (.int (1 : Int32)), .val (.int (0 : Int32)), .val (.ref b63), .val (.ref b65), .val (.ref b65), .unset, .unset, .unset] [(.ref b77), (.ref b77)])) _
        refine XS.lloadN X77.here hx rfl (hb hby at_77) rfl ?_
        show Steps p.tables e below (T77.setTop (mkF m 78 #[.val (.long vn), .second, .val (.int vf), .val (.int vb0), .val (.int vb1), .val (.int (1 : Int32)), .val (.int (0 : Int32)), .val (.ref b63), .val (.ref b65), .val (.ref b65), .unset, .unset, .unset] [(.long vn), (.ref b77), (.ref b77)])) _
        refine XS.aload X77.here hx rfl (hb hby at_78) rfl rfl ?_
        show Steps p.tables e below (T77.setTop (mkF m 80 #[.val (.long vn), .second, .val (.int vf), .val (.int vb0), .val (.int vb1), .val (.int (1 : Int32)), .val (.int (0 : Int32)), .val (.ref b63), .val (.ref b65), .val (.ref b65), .unset, .unset, .unset] [(.ref b65), (.long vn), (.ref b77), (.ref b77)])) _
        refine st83.trans ?_
        show Steps p.tables e below (T83.setTop (mkF m 83 #[.val (.long vn), .second, .val (.int vf), .val (.int vb0), .val (.int vb1), .val (.int (1 : Int32)), .val (.int (0 : Int32)), .val (.ref b63), .val (.ref b65), .val (.ref b65), .unset, .unset, .unset] [(.ref b77)])) _
        refine XS.astore X83.here hx rfl (hb hby at_83) rfl rfl (l' := #[.val (.long vn), .second, .val (.int vf), .val (.int vb0), .val (.int vb1), .val (.int (1 : Int32)), .val (.int (0 : Int32)), .val (.ref b63), .val (.ref b65), .val (.ref b65), .val (.ref b77), .unset, .unset]) rfl ?_
        show Steps p.tables e below (T83.setTop (mkF m 85 #[.val (.long vn), .second, .val (.int vf), .val (.int vb0), .val (.int vb1), .val (.int (1 : Int32)), .val (.int (0 : Int32)), .val (.ref b63), .val (.ref b65), .val (.ref b65), .val (.ref b77), .unset, .unset] [])) _
        refine XS.aload X83.here hx rfl (hb hby at_85) rfl rfl ?_
        show Steps p.tables e below (T83.setTop (mkF m 87 #[.val (.long vn), .second, .val (.int vf), .val (.int vb0), .val (.int vb1), .val (.int (1 : Int32)), .val (.int (0 : Int32)), .val (.ref b63), .val (.ref b65), .val (.ref b65), .val (.ref b77), .unset, .unset] [(.ref b77)])) _
        refine st85.trans ?_
        show Steps p.tables e below (T85.setTop (mkF m 90 #[.val (.long vn), .second, .val (.int vf), .val (.int vb0), .val (.int vb1), .val (.int (1 : Int32)), .val (.int (0 : Int32)), .val (.ref b63), .val (.ref b65), .val (.ref b65), .val (.ref b77), .unset, .unset] [(.int (1 : Int32))])) _
        refine XS.istore X85.here hx rfl (hb hby at_90) rfl (l' := #[.val (.long vn), .second, .val (.int vf), .val (.int vb0), .val (.int vb1), .val (.int (1 : Int32)), .val (.int (0 : Int32)), .val (.ref b63), .val (.ref b65), .val (.ref b65), .val (.ref b77), .val (.int (1 : Int32)), .unset]) rfl ?_
        show Steps p.tables e below (T85.setTop (mkF m 92 #[.val (.long vn), .second, .val (.int vf), .val (.int vb0), .val (.int vb1), .val (.int (1 : Int32)), .val (.int (0 : Int32)), .val (.ref b63), .val (.ref b65), .val (.ref b65), .val (.ref b77), .val (.int (1 : Int32)), .unset] [])) _
        refine XS.aload X85.here hx rfl (hb hby at_92) rfl rfl ?_
        show Steps p.tables e below (T85.setTop (mkF m 94 #[.val (.long vn), .second, .val (.int vf), .val (.int vb0), .val (.int vb1), .val (.int (1 : Int32)), .val (.int (0 : Int32)), .val (.ref b63), .val (.ref b65), .val (.ref b65), .val (.ref b77), .val (.int (1 : Int32)), .unset] [(.ref b77)])) _
        refine st87.trans ?_
        show Steps p.tables e below (T87.setTop (mkF m 97 #[.val (.long vn), .second, .val (.int vf), .val (.int vb0), .val (.int vb1), .val (.int (1 : Int32)), .val (.int (0 : Int32)), .val (.ref b63), .val (.ref b65), .val (.ref b65), .val (.ref b77), .val (.int (1 : Int32)), .unset] [(.int (1 : Int32))])) _
        refine XS.istore X87.here hx rfl (hb hby at_97) rfl (l' := #[.val (.long vn), .second, .val (.int vf), .val (.int vb0), .val (.int vb1), .val (.int (1 : Int32)), .val (.int (0 : Int32)), .val (.ref b63), .val (.ref b65), .val (.ref b65), .val (.ref b77), .val (.int (1 : Int32)), .val (.int (1 : Int32))]) rfl ?_
        show Steps p.tables e below (T87.setTop (mkF m 99 #[.val (.long vn), .second, .val (.int vf), .val (.int vb0), .val (.int vb1), .val (.int (1 : Int32)), .val (.int (0 : Int32)), .val (.ref b63), .val (.ref b65), .val (.ref b65), .val (.ref b77), .val (.int (1 : Int32)), .val (.int (1 : Int32))] [])) _
        refine XS.iload X87.here hx rfl (hb hby at_99) rfl ?_
        show Steps p.tables e below (T87.setTop (mkF m 101 #[.val (.long vn), .second, .val (.int vf), .val (.int vb0), .val (.int vb1), .val (.int (1 : Int32)), .val (.int (0 : Int32)), .val (.ref b63), .val (.ref b65), .val (.ref b65), .val (.ref b77), .val (.int (1 : Int32)), .val (.int (1 : Int32))] [(.int (1 : Int32))])) _
        refine XS.iload X87.here hx rfl (hb hby at_101) rfl ?_
        show Steps p.tables e below (T87.setTop (mkF m 103 #[.val (.long vn), .second, .val (.int vf), .val (.int vb0), .val (.int vb1), .val (.int (1 : Int32)), .val (.int (0 : Int32)), .val (.ref b63), .val (.ref b65), .val (.ref b65), .val (.ref b77), .val (.int (1 : Int32)), .val (.int (1 : Int32))] [(.int (1 : Int32)), (.int (1 : Int32))])) _
        refine XS.icmpNo X87.here hx rfl (hb hby at_103) rfl (by decide) ?_
        show Steps p.tables e below (T87.setTop (mkF m 106 #[.val (.long vn), .second, .val (.int vf), .val (.int vb0), .val (.int vb1), .val (.int (1 : Int32)), .val (.int (0 : Int32)), .val (.ref b63), .val (.ref b65), .val (.ref b65), .val (.ref b77), .val (.int (1 : Int32)), .val (.int (1 : Int32))] [])) _
        refine XS.iload X87.here hx rfl (hb hby at_106) rfl ?_
        show Steps p.tables e below (T87.setTop (mkF m 108 #[.val (.long vn), .second, .val (.int vf), .val (.int vb0), .val (.int vb1), .val (.int (1 : Int32)), .val (.int (0 : Int32)), .val (.ref b63), .val (.ref b65), .val (.ref b65), .val (.ref b77), .val (.int (1 : Int32)), .val (.int (1 : Int32))] [(.int (1 : Int32))])) _
        refine XS.iload X87.here hx rfl (hb hby at_108) rfl ?_
        show Steps p.tables e below (T87.setTop (mkF m 110 #[.val (.long vn), .second, .val (.int vf), .val (.int vb0), .val (.int vb1), .val (.int (1 : Int32)), .val (.int (0 : Int32)), .val (.ref b63), .val (.ref b65), .val (.ref b65), .val (.ref b77), .val (.int (1 : Int32)), .val (.int (1 : Int32))] [(.int (1 : Int32)), (.int (1 : Int32))])) _
        refine XS.icmpNo X87.here hx rfl (hb hby at_110) rfl (by decide) ?_
        show Steps p.tables e below (T87.setTop (mkF m 113 #[.val (.long vn), .second, .val (.int vf), .val (.int vb0), .val (.int vb1), .val (.int (1 : Int32)), .val (.int (0 : Int32)), .val (.ref b63), .val (.ref b65), .val (.ref b65), .val (.ref b77), .val (.int (1 : Int32)), .val (.int (1 : Int32))] [])) _
        refine XS.aload X87.here hx rfl (hb hby at_113) rfl rfl ?_
        show Steps p.tables e below (T87.setTop (mkF m 115 #[.val (.long vn), .second, .val (.int vf), .val (.int vb0), .val (.int vb1), .val (.int (1 : Int32)), .val (.int (0 : Int32)), .val (.ref b63), .val (.ref b65), .val (.ref b65), .val (.ref b77), .val (.int (1 : Int32)), .val (.int (1 : Int32))] [(.ref b77)])) _
        refine st89.trans ?_
        show Steps p.tables e below (T89.setTop (mkF m 118 #[.val (.long vn), .second, .val (.int vf), .val (.int vb0), .val (.int vb1), .val (.int (1 : Int32)), .val (.int (0 : Int32)), .val (.ref b63), .val (.ref b65), .val (.ref b65), .val (.ref b77), .val (.int (1 : Int32)), .val (.int (1 : Int32))] [(.long vn)])) _
        refine XS.lloadN X89.here hx rfl (hb hby at_118) rfl ?_
        show Steps p.tables e below (T89.setTop (mkF m 119 #[.val (.long vn), .second, .val (.int vf), .val (.int vb0), .val (.int vb1), .val (.int (1 : Int32)), .val (.int (0 : Int32)), .val (.ref b63), .val (.ref b65), .val (.ref b65), .val (.ref b77), .val (.int (1 : Int32)), .val (.int (1 : Int32))] [(.long vn), (.long vn)])) _
        refine XS.lcmp X89.here hx rfl (hb hby at_119) rfl ?_
        show Steps p.tables e below (T89.setTop (mkF m 120 #[.val (.long vn), .second, .val (.int vf), .val (.int vb0), .val (.int vb1), .val (.int (1 : Int32)), .val (.int (0 : Int32)), .val (.ref b63), .val (.ref b65), .val (.ref b65), .val (.ref b77), .val (.int (1 : Int32)), .val (.int (1 : Int32))] [(.int (lcmpW vn vn))])) _
        exact k
      have hd92 : vn = vn := rfl
      obtain ⟨fs, hr, hrun, hended, hW, hsame⟩ := X89.leave (v := some (.int (1 : Int32))) (fun h => by rw [Bd.returns] at h; cases h)
      refine ⟨_, _, pre91 _ ?_, hrun, hended, _, _, rfl, ?_, ⟨_, rfl⟩, hW, hsame.mono (by decide) (by decide)⟩
      · show Steps p.tables e below (T89.setTop (mkF m 120 #[.val (.long vn), .second, .val (.int vf), .val (.int vb0), .val (.int vb1), .val (.int (1 : Int32)), .val (.int (0 : Int32)), .val (.ref b63), .val (.ref b65), .val (.ref b65), .val (.ref b77), .val (.int (1 : Int32)), .val (.int (1 : Int32))] [(.int (lcmpW vn vn))])) _
        refine XS.ifNo X89.here hx rfl (hb hby at_120) rfl ((if0 _ _).trans (teq ((lw_eq _ _).mpr hd92)).2) ?_
        show Steps p.tables e below (T89.setTop (mkF m 123 #[.val (.long vn), .second, .val (.int vf), .val (.int vb0), .val (.int vb1), .val (.int (1 : Int32)), .val (.int (0 : Int32)), .val (.ref b63), .val (.ref b65), .val (.ref b65), .val (.ref b77), .val (.int (1 : Int32)), .val (.int (1 : Int32))] [])) _
        refine XS.iconst X89.here hx rfl (hb hby at_123) ?_
        show Steps p.tables e below (T89.setTop (mkF m 124 #[.val (.long vn), .second, .val (.int vf), .val (.int vb0), .val (.int vb1), .val (.int (1 : Int32)), .val (.int (0 : Int32)), .val (.ref b63), .val (.ref b65), .val (.ref b65), .val (.ref b77), .val (.int (1 : Int32)), .val (.int (1 : Int32))] [(.int (1 : Int32))])) _
        refine XS.goto X89.here hx rfl (pc0 := 124) (pc' := 128) rfl (hb hby at_124) (by decide) (by decide) ?_
        show Steps p.tables e below (T89.setTop (mkF m 128 #[.val (.long vn), .second, .val (.int vf), .val (.int vb0), .val (.int vb1), .val (.int (1 : Int32)), .val (.int (0 : Int32)), .val (.ref b63), .val (.ref b65), .val (.ref b65), .val (.ref b77), .val (.int (1 : Int32)), .val (.int (1 : Int32))] [(.int (1 : Int32))])) _
        exact retN X89 hx (t := .boolean) Bd.returns (by simp) (hb hby at_128) hr
      · show Q0 Z vn vf vb0 vb1 h0 n0 _ T89.heap _
        rw [hh89]
        exact ⟨rfl, Nf89⟩
    · obtain ⟨T93, h93, k93, X93, e93, E93, A93, C93, st93⟩ := newPE X0 hx hZ (hw _ (List.mem_of_getElem? (i := 0) rfl)) e0 (g := (mkF m 27 #[.val (.long vn), .second, .val (.int vf), .val (.int vb0), .val (.int vb1), .val (.int (1 : Int32)), .val (.int (1 : Int32)), .unset, .unset, .unset, .unset, .unset, .unset] [(.int (0 : Int32))])) rfl (hb hby at_27) rfl (by decide) (cap := 0) (by decide) (by decide) (by decide) (by decide) (ad := "[B") (by decide)
      obtain ⟨b93, g93⟩ : ∃ z, z = h0.size := ⟨_, rfl⟩
      rw [← g93] at A93 st93 C93
      have g_b93 : n0 ≤ b93 := Nat.le_trans Z0 (Nat.le_of_eq g93.symm)
      have Zp94 : n0 ≤ h93.size := Nat.le_trans Z0 E93.1
      have V93 : Arv Z h93 b93 k93 .byte (0 : Int32) [] (.int (0 : Int32)) := (Arv.new A93 (by decide)).pad (pad_rep [] (.int (0 : Int32)) 0)
      obtain ⟨T95, h95, k95, X95, e95, E95, A95, C95, st95⟩ := newPE X93 hx hZ (hw _ (List.mem_of_getElem? (i := 0) rfl)) e93 (g := (mkF m 32 #[.val (.long vn), .second, .val (.int vf), .val (.int vb0), .val (.int vb1), .val (.int (1 : Int32)), .val (.int (1 : Int32)), .val (.ref b93), .unset, .unset, .unset, .unset, .unset] [(.int (2 : Int32))])) rfl (hb hby at_32) rfl (by decide) (cap := 2) (by decide) (by decide) (by decide) (by decide) (ad := "[B") (by decide)
      obtain ⟨b95, g95⟩ : ∃ z, z = h93.size := ⟨_, rfl⟩
      rw [← g95] at A95 st95 C95
      have g_b95 : n0 ≤ b95 := Nat.le_trans Zp94 (Nat.le_of_eq g95.symm)
      have Zp96 : n0 ≤ h95.size := Nat.le_trans Zp94 E95.1
      have V95 : Arv Z h95 b95 k95 .byte (2 : Int32) [(.int (0 : Int32)), (.int (0 : Int32))] (.int (0 : Int32)) := (Arv.new A95 (by decide)).pad (pad_rep [] (.int (0 : Int32)) 2)
      have pre97 : ∀ t, Steps p.tables e below (T95.setTop (mkF m 41 #[.val (.long vn), .second, .val (.int vf), .val (.int vb0), .val (.int vb1), .val (.int (1 : Int32)), .val (.int (1 : Int32)), .val (.ref b93), .val (.ref b95), .unset, .unset, .unset, .unset] [(.int (vb0.toInt8.toInt32)), (.int (0 : Int32)), (.ref b95)])) t → Steps p.tables e below (s₁.setTop (entryFrame m #[(.long vn), (.int vf), (.int vb0), (.int vb1)] maxLocals)) t := by
        intro t k
        refine pre61 t ?_
        show Steps p.tables e below (s₁.setTop (mkF m 16 #[.val (.long vn), .second, .val (.int vf), .val (.int vb0), .val (.int vb1), .val (.int (1 : Int32)), .unset, .unset, .unset, .unset, .unset, .unset, .unset] [(.int (vf &&& (2 : Int32)))])) _
        refine XS.ifNo X0.here hx rfl (hb hby at_16) rfl ((if0 _ _).trans (feq hc62).1) ?_
        show Steps p.tables e below (s₁.setTop (mkF m 19 #[.val (.long vn), .second, .val (.int vf), .val (.int vb0), .val (.int vb1), .val (.int (1 : Int32)), .unset, .unset, .unset, .unset, .unset, .unset, .unset] [])) _
        refine XS.iconst X0.here hx rfl (hb hby at_19) ?_
        show Steps p.tables e below (s₁.setTop (mkF m 20 #[.val (.long vn), .second, .val (.int vf), .val (.int vb0), .val (.int vb1), .val (.int (1 : Int32)), .unset, .unset, .unset, .unset, .unset, .unset, .unset] [(.int (1 : Int32))])) _
        refine XS.goto X0.here hx rfl (pc0 := 20) (pc' := 24) rfl (hb hby at_20) (by decide) (by decide) ?_
        show Steps p.tables e below (s₁.setTop (mkF m 24 #[.val (.long vn), .second, .val (.int vf), .val (.int vb0), .val (.int vb1), .val (.int (1 : Int32)), .unset, .unset, .unset, .unset, .unset, .unset, .unset] [(.int (1 : Int32))])) _
        refine XS.istore X0.here hx rfl (hb hby at_24) rfl (l' := #[.val (.long vn), .second, .val (.int vf), .val (.int vb0), .val (.int vb1), .val (.int (1 : Int32)), .val (.int (1 : Int32)), .unset, .unset, .unset, .unset, .unset, .unset]) rfl ?_
        show Steps p.tables e below (s₁.setTop (mkF m 26 #[.val (.long vn), .second, .val (.int vf), .val (.int vb0), .val (.int vb1), .val (.int (1 : Int32)), .val (.int (1 : Int32)), .unset, .unset, .unset, .unset, .unset, .unset] [])) _
        refine XS.iconst X0.here hx rfl (hb hby at_26) ?_
        show Steps p.tables e below (s₁.setTop (mkF m 27 #[.val (.long vn), .second, .val (.int vf), .val (.int vb0), .val (.int vb1), .val (.int (1 : Int32)), .val (.int (1 : Int32)), .unset, .unset, .unset, .unset, .unset, .unset] [(.int (0 : Int32))])) _
        refine st93 _ ?_
        show Steps p.tables e below (T93.setTop (mkF m 29 #[.val (.long vn), .second, .val (.int vf), .val (.int vb0), .val (.int vb1), .val (.int (1 : Int32)), .val (.int (1 : Int32)), .unset, .unset, .unset, .unset, .unset, .unset] [(.ref b93)])) _
        refine XS.astore X93.here hx rfl (hb hby at_29) rfl rfl (l' := #[.val (.long vn), .second, .val (.int vf), .val (.int vb0), .val (.int vb1), .val (.int (1 : Int32)), .val (.int (1 : Int32)), .val (.ref b93), .unset, .unset, .unset, .unset, .unset]) rfl ?_
        show Steps p.tables e below (T93.setTop (mkF m 31 #[.val (.long vn), .second, .val (.int vf), .val (.int vb0), .val (.int vb1), .val (.int (1 : Int32)), .val (.int (1 : Int32)), .val (.ref b93), .unset, .unset, .unset, .unset, .unset] [])) _
        refine XS.iconst X93.here hx rfl (hb hby at_31) ?_
        show Steps p.tables e below (T93.setTop (mkF m 32 #[.val (.long vn), .second, .val (.int vf), .val (.int vb0), .val (.int vb1), .val (.int (1 : Int32)), .val (.int (1 : Int32)), .val (.ref b93), .unset, .unset, .unset, .unset, .unset] [(.int (2 : Int32))])) _
        refine st95 _ ?_
        show Steps p.tables e below (T95.setTop (mkF m 34 #[.val (.long vn), .second, .val (.int vf), .val (.int vb0), .val (.int vb1), .val (.int (1 : Int32)), .val (.int (1 : Int32)), .val (.ref b93), .unset, .unset, .unset, .unset, .unset] [(.ref b95)])) _
        refine XS.astore X95.here hx rfl (hb hby at_34) rfl rfl (l' := #[.val (.long vn), .second, .val (.int vf), .val (.int vb0), .val (.int vb1), .val (.int (1 : Int32)), .val (.int (1 : Int32)), .val (.ref b93), .val (.ref b95), .unset, .unset, .unset, .unset]) rfl ?_
        show Steps p.tables e below (T95.setTop (mkF m 36 #[.val (.long vn), .second, .val (.int vf), .val (.int vb0), .val (.int vb1), .val (.int (1 : Int32)), .val (.int (1 : Int32)), .val (.ref b93), .val (.ref b95), .unset, .unset, .unset, .unset] [])) _
        refine XS.aload X95.here hx rfl (hb hby at_36) rfl rfl ?_
        show Steps p.tables e below (T95.setTop (mkF m 38 #[.val (.long vn), .second, .val (.int vf), .val (.int vb0), .val (.int vb1), .val (.int (1 : Int32)), .val (.int (1 : Int32)), .val (.ref b93), .val (.ref b95), .unset, .unset, .unset, .unset] [(.ref b95)])) _
        refine XS.iconst X95.here hx rfl (hb hby at_38) ?_
        show Steps p.tables e below (T95.setTop (mkF m 39 #[.val (.long vn), .second, .val (.int vf), .val (.int vb0), .val (.int vb1), .val (.int (1 : Int32)), .val (.int (1 : Int32)), .val (.ref b93), .val (.ref b95), .unset, .unset, .unset, .unset] [(.int (0 : Int32)), (.ref b95)])) _
        refine XS.iloadN X95.here hx rfl (hb hby at_39) rfl ?_
        show Steps p.tables e below (T95.setTop (mkF m 40 #[.val (.long vn), .second, .val (.int vf), .val (.int vb0), .val (.int vb1), .val (.int (1 : Int32)), .val (.int (1 : Int32)), .val (.ref b93), .val (.ref b95), .unset, .unset, .unset, .unset] [(.int vb0), (.int (0 : Int32)), (.ref b95)])) _
        refine XS.i2b X95.here hx rfl (hb hby at_40) rfl ?_
        show Steps p.tables e below (T95.setTop (mkF m 41 #[.val (.long vn), .second, .val (.int vf), .val (.int vb0), .val (.int vb1), .val (.int (1 : Int32)), .val (.int (1 : Int32)), .val (.ref b93), .val (.ref b95), .unset, .unset, .unset, .unset] [(.int (vb0.toInt8.toInt32)), (.int (0 : Int32)), (.ref b95)])) _
        exact k
      obtain ⟨yb0, h_yb0⟩ : ∃ z : Int32, z = (vb0.toInt8.toInt32) := ⟨_, rfl⟩
      have pre98 : ∀ t, Steps p.tables e below (T95.setTop (mkF m 41 #[.val (.long vn), .second, .val (.int vf), .val (.int vb0), .val (.int vb1), .val (.int (1 : Int32)), .val (.int (1 : Int32)), .val (.ref b93), .val (.ref b95), .unset, .unset, .unset, .unset] [(.int yb0), (.int (0 : Int32)), (.ref b95)])) t → Steps p.tables e below (s₁.setTop (entryFrame m #[(.long vn), (.int vf), (.int vb0), (.int vb1)] maxLocals)) t := by
        subst h_yb0
        exact pre97
      obtain ⟨cl99, Ar99, q99, S99, M99, H99, G99⟩ := V95
      have hin99 : ¬ ((0 : Int32) < 0 ∨ cl99.slots.size ≤ ((0 : Int32)).toNatClampNeg) := inb_of S99 ⟨by decide, by decide⟩
      obtain ⟨T100, h100, X100, e100, W100, st100⟩ := stB X95 hx hZ e95 Ar99 (j := (0 : Int32)) hin99 (g := (mkF m 41 #[.val (.long vn), .second, .val (.int vf), .val (.int vb0), .val (.int vb1), .val (.int (1 : Int32)), .val (.int (1 : Int32)), .val (.ref b93), .val (.ref b95), .unset, .unset, .unset, .unset] [(.int yb0), (.int (0 : Int32)), (.ref b95)])) rfl rfl (hb hby at_41)
      have N100 := Fr.snoc X100 N0 g_b95
      have V100 : Arv Z h100 b95 k95 .byte (2 : Int32) [(.int (nar .byte yb0)), (.int (0 : Int32))] (.int (0 : Int32)) := Arv.set Ar99 q99 S99 M99 H99 G99 (fits_nar_byte _) W100 0 rfl (Nat.le_of_ble_eq_true rfl)
      have Zp101 : n0 ≤ h100.size := Nat.le_trans Zp96 (Nat.le_of_eq (Wr.size W100).symm)
      have pre102 : ∀ t, Steps p.tables e below (T100.setTop (mkF m 48 #[.val (.long vn), .second, .val (.int vf), .val (.int vb0), .val (.int vb1), .val (.int (1 : Int32)), .val (.int (1 : Int32)), .val (.ref b93), .val (.ref b95), .unset, .unset, .unset, .unset] [(.int (vb1.toInt8.toInt32)), (.int (1 : Int32)), (.ref b95)])) t → Steps p.tables e below (s₁.setTop (entryFrame m #[(.long vn), (.int vf), (.int vb0), (.int vb1)] maxLocals)) t := by
        intro t k
        refine pre98 t ?_
        show Steps p.tables e below (T95.setTop (mkF m 41 #[.val (.long vn), .second, .val (.int vf), .val (.int vb0), .val (.int vb1), .val (.int (1 : Int32)), .val (.int (1 : Int32)), .val (.ref b93), .val (.ref b95), .unset, .unset, .unset, .unset] [(.int yb0), (.int (0 : Int32)), (.ref b95)])) _
        refine st100 _ ?_
        show Steps p.tables e below (T100.setTop (mkF m 42 #[.val (.long vn), .second, .val (.int vf), .val (.int vb0), .val (.int vb1), .val (.int (1 : Int32)), .val (.int (1 : Int32)), .val (.ref b93), .val (.ref b95), .unset, .unset, .unset, .unset] [])) _
        refine XS.aload X100.here hx rfl (hb hby at_42) rfl rfl ?_
        show Steps p.tables e below (T100.setTop (mkF m 44 #[.val (.long vn), .second, .val (.int vf), .val (.int vb0), .val (.int vb1), .val (.int (1 : Int32)), .val (.int (1 : Int32)), .val (.ref b93), .val (.ref b95), .unset, .unset, .unset, .unset] [(.ref b95)])) _
        refine XS.iconst X100.here hx rfl (hb hby at_44) ?_
        show Steps p.tables e below (T100.setTop (mkF m 45 #[.val (.long vn), .second, .val (.int vf), .val (.int vb0), .val (.int vb1), .val (.int (1 : Int32)), .val (.int (1 : Int32)), .val (.ref b93), .val (.ref b95), .unset, .unset, .unset, .unset] [(.int (1 : Int32)), (.ref b95)])) _
        refine XS.iload X100.here hx rfl (hb hby at_45) rfl ?_
        show Steps p.tables e below (T100.setTop (mkF m 47 #[.val (.long vn), .second, .val (.int vf), .val (.int vb0), .val (.int vb1), .val (.int (1 : Int32)), .val (.int (1 : Int32)), .val (.ref b93), .val (.ref b95), .unset, .unset, .unset, .unset] [(.int vb1), (.int (1 : Int32)), (.ref b95)])) _
        refine XS.i2b X100.here hx rfl (hb hby at_47) rfl ?_
        show Steps p.tables e below (T100.setTop (mkF m 48 #[.val (.long vn), .second, .val (.int vf), .val (.int vb0), .val (.int vb1), .val (.int (1 : Int32)), .val (.int (1 : Int32)), .val (.ref b93), .val (.ref b95), .unset, .unset, .unset, .unset] [(.int (vb1.toInt8.toInt32)), (.int (1 : Int32)), (.ref b95)])) _
        exact k
      obtain ⟨yb1, h_yb1⟩ : ∃ z : Int32, z = (vb1.toInt8.toInt32) := ⟨_, rfl⟩
      have pre103 : ∀ t, Steps p.tables e below (T100.setTop (mkF m 48 #[.val (.long vn), .second, .val (.int vf), .val (.int vb0), .val (.int vb1), .val (.int (1 : Int32)), .val (.int (1 : Int32)), .val (.ref b93), .val (.ref b95), .unset, .unset, .unset, .unset] [(.int yb1), (.int (1 : Int32)), (.ref b95)])) t → Steps p.tables e below (s₁.setTop (entryFrame m #[(.long vn), (.int vf), (.int vb0), (.int vb1)] maxLocals)) t := by
        subst h_yb1
        exact pre102
      obtain ⟨cl104, Ar104, q104, S104, M104, H104, G104⟩ := V100
      have hin104 : ¬ ((1 : Int32) < 0 ∨ cl104.slots.size ≤ ((1 : Int32)).toNatClampNeg) := inb_of S104 ⟨by decide, by decide⟩
      obtain ⟨T105, h105, X105, e105, W105, st105⟩ := stB X100 hx hZ e100 Ar104 (j := (1 : Int32)) hin104 (g := (mkF m 48 #[.val (.long vn), .second, .val (.int vf), .val (.int vb0), .val (.int vb1), .val (.int (1 : Int32)), .val (.int (1 : Int32)), .val (.ref b93), .val (.ref b95), .unset, .unset, .unset, .unset] [(.int yb1), (.int (1 : Int32)), (.ref b95)])) rfl rfl (hb hby at_48)
      have N105 := Fr.snoc X105 N100 g_b95
      have V105 : Arv Z h105 b95 k95 .byte (2 : Int32) [(.int (nar .byte yb0)), (.int (nar .byte yb1))] (.int (0 : Int32)) := Arv.set Ar104 q104 S104 M104 H104 G104 (fits_nar_byte _) W105 1 rfl (Nat.le_of_ble_eq_true rfl)
      have Zp106 : n0 ≤ h105.size := Nat.le_trans Zp101 (Nat.le_of_eq (Wr.size W105).symm)
      obtain ⟨T107, h107, X107, e107, E107, A107, D107, U107, st107⟩ := newO X105 hx hZ hown (hw _ (List.mem_of_getElem? (i := 1) rfl)) (hw _ (List.mem_of_getElem? (i := 2) rfl)) (hw _ (List.mem_of_getElem? (i := 3) rfl)) e105 (g := (mkF m 73 #[.val (.long vn), .second, .val (.int vf), .val (.int vb0), .val (.int vb1), .val (.int (1 : Int32)), .val (.int (1 : Int32)), .val (.ref b93), .val (.ref b95), .val (.ref b93), .unset, .unset, .unset] [])) rfl (hb hby at_73) (by decide) (by decide)
      obtain ⟨b107, g107⟩ : ∃ z, z = h105.size := ⟨_, rfl⟩
      rw [← g107] at A107 D107 U107 st107
      have g_b107 : n0 ≤ b107 := Nat.le_trans Zp106 (Nat.le_of_eq g107.symm)
      have Zp108 : n0 ≤ h107.size := Nat.le_trans Zp106 E107.1
      have Fn109 : Fld Z h107 b107 "com/example/narrow_grant/narrowgrant/session/FrontVersion" "number" "J" (.long (0 : Int64)) := D107 (Or.inr (hw _ (List.mem_of_getElem? (i := 11) rfl))) (ty := .long) (by decide)
      have Fn110 : Fld Z h107 b107 "com/example/narrow_grant/narrowgrant/session/FrontVersion" "front" "[B" .null := D107 (Or.inr (hw _ (List.mem_of_getElem? (i := 13) rfl))) (ty := (.array .byte)) (by decide)
      have Fc111 := ((((V93.ext E95).other W100 (Nat.ne_of_lt (Nat.lt_of_lt_of_le (V93).lt (Nat.le_of_eq g95.symm)))).other W105 (Nat.ne_of_lt (Nat.lt_of_lt_of_le (V93).lt (Nat.le_of_eq g95.symm)))).ext E107)
      have Fc112 := (Exa.ext E107 (Exa.wr W105 (Exa.wr W100 (Exa.ext E95 C93))))
      have Fc113 := (((V93.ext E95).other W100 (Nat.ne_of_lt (Nat.lt_of_lt_of_le (V93).lt (Nat.le_of_eq g95.symm)))).other W105 (Nat.ne_of_lt (Nat.lt_of_lt_of_le (V93).lt (Nat.le_of_eq g95.symm))))
      obtain ⟨_, _, ⟨T114, L114, k114, n114⟩, -, X114, ⟨Lc114, hQ114, l114, y114, z114⟩, st114⟩ := X107.specialBack hx (y := (⟨"com/example/narrow_grant/narrowgrant/session/FrontVersion", "<init>", "(J[B)V"⟩ : MethodName)) rfl hown (mvT hZ (hw _ (List.mem_of_getElem? (i := 4) rfl))) (mvT hZ (hw _ (List.mem_of_getElem? (i := 5) rfl))) (mvT hZ (hw _ (List.mem_of_getElem? (i := 6) rfl))) (by decide) (backOf (W := 1) (rm_in1 l Z a0 hw [] b107 vn b93 k93 (0 : Int32) [] h107 n0 Zp108 A107 g_b107 Fn109 Fn110 Fc111 Fc112 (by decide) (Nat.ne_of_lt (Nat.lt_of_lt_of_le (Fc113).lt (Nat.le_of_eq g107.symm)))) hZ (hw _ (List.mem_of_getElem? (i := 6) rfl)) (hw _ (List.mem_of_getElem? (i := 3) rfl)) (by decide) (by decide)) (g := (mkF m 80 #[.val (.long vn), .second, .val (.int vf), .val (.int vb0), .val (.int vb1), .val (.int (1 : Int32)), .val (.int (1 : Int32)), .val (.ref b93), .val (.ref b95), .val (.ref b93), .unset, .unset, .unset] [(.ref b93), (.long vn), (.ref b107), (.ref b107)])) rfl (by rw [hml]; rfl) (Steps.refl _) (a := b107) (argsL := [(.long vn), (.ref b93)]) (rest := [(.ref b107)]) (lenOf own_pd0 rfl) rfl (by show 2 * 0 + _ ≤ _; exact Nat.le_of_eq rfl) (hb hby at_80) (fun _ _ => ⟨rfl, e107, (by decide : 3 + 1 ≤ _), (by decide : 4 + 2 ≤ _)⟩)
      dsimp only [Pt.U, Pt.locs, Pt.cells, Pt.slots] at X114 l114 y114 z114 st114 hQ114
      subst l114 y114 z114
      obtain ⟨rfl, Nq114, K114, Ex114, Fn114, ⟨bf114, Ff114⟩⟩ := hQ114
      have Nf114 := Fr.app N105 Nq114
      have Zp115 : n0 ≤ T114.heap.size := Nat.le_trans Zp108 K114.1
      obtain ⟨cq117, kq117, q117a, q117b, q117c⟩ := isOf hZ rfl Ex114
      obtain ⟨_, _, ⟨T116, L116, k116, n116⟩, -, X116, ⟨Lc116, hQ116, l116, y116, z116⟩, st116⟩ := X114.virtualBack hx (y := (⟨"com/example/narrow_grant/narrowgrant/session/FrontVersion", "written", "()Z"⟩ : MethodName)) (z := (⟨"com/example/narrow_grant/narrowgrant/session/FrontVersion", "written", "()Z"⟩ : MethodName)) hown (mvT hZ (hw _ (List.mem_of_getElem? (i := 14) rfl))) (mvT hZ (hw _ (List.mem_of_getElem? (i := 15) rfl))) (notFace_of_selects (args := #[]) (mvT hZ (hw _ (List.mem_of_getElem? (i := 17) rfl)))) (mvT hZ (hw _ (List.mem_of_getElem? (i := 17) rfl))) (mvT hZ (hw _ (List.mem_of_getElem? (i := 16) rfl))) (by decide) (backOf (W := 0) (rm_wr1 l Z a0 hw [] b107 bf114 T114.heap n0 Zp115 Ff114) hZ (hw _ (List.mem_of_getElem? (i := 18) rfl)) (hw _ (List.mem_of_getElem? (i := 3) rfl)) (by decide) (by decide)) q117a q117c (g := (mkF m 87 #[.val (.long vn), .second, .val (.int vf), .val (.int vb0), .val (.int vb1), .val (.int (1 : Int32)), .val (.int (1 : Int32)), .val (.ref b93), .val (.ref b95), .val (.ref b93), .val (.ref b107), .unset, .unset] [(.ref b107)])) rfl (by rw [hml]; rfl) (Steps.refl _) (argsL := []) (rest := []) (lenOf own_pd1 rfl) rfl (by show 2 * 0 + _ ≤ _; exact Nat.le_of_eq rfl) (hb hby at_87) (fun _ _ => ⟨rfl, rfl, (by decide : 4 + 0 ≤ _), (by decide : 6 + 0 ≤ _)⟩)
      dsimp only [Pt.U, Pt.locs, Pt.cells, Pt.slots] at X116 l116 y116 z116 st116 hQ116
      subst l116 y116 z116
      obtain ⟨rfl, Nq116, hh116⟩ := hQ116
      have Nf116 := Fr.app Nf114 Nq116
      obtain ⟨cq119, kq119, q119a, q119b, q119c⟩ := isOf hZ hh116 Ex114
      obtain ⟨_, _, ⟨T118, L118, k118, n118⟩, -, X118, ⟨Lc118, hQ118, l118, y118, z118⟩, st118⟩ := X116.virtualBack hx (y := (⟨"com/example/narrow_grant/narrowgrant/session/FrontVersion", "written", "()Z"⟩ : MethodName)) (z := (⟨"com/example/narrow_grant/narrowgrant/session/FrontVersion", "written", "()Z"⟩ : MethodName)) hown (mvT hZ (hw _ (List.mem_of_getElem? (i := 14) rfl))) (mvT hZ (hw _ (List.mem_of_getElem? (i := 15) rfl))) (notFace_of_selects (args := #[]) (mvT hZ (hw _ (List.mem_of_getElem? (i := 17) rfl)))) (mvT hZ (hw _ (List.mem_of_getElem? (i := 17) rfl))) (mvT hZ (hw _ (List.mem_of_getElem? (i := 16) rfl))) (by decide) (backOf (W := 0) (rm_wr1 l Z a0 hw [] b107 bf114 T114.heap n0 Zp115 Ff114) hZ (hw _ (List.mem_of_getElem? (i := 18) rfl)) (hw _ (List.mem_of_getElem? (i := 3) rfl)) (by decide) (by decide)) q119a q119c (g := (mkF m 94 #[.val (.long vn), .second, .val (.int vf), .val (.int vb0), .val (.int vb1), .val (.int (1 : Int32)), .val (.int (1 : Int32)), .val (.ref b93), .val (.ref b95), .val (.ref b93), .val (.ref b107), .val (.int (1 : Int32)), .unset] [(.ref b107)])) rfl (by rw [hml]; rfl) (Steps.refl _) (argsL := []) (rest := []) (lenOf own_pd1 rfl) rfl (by show 2 * 0 + _ ≤ _; exact Nat.le_of_eq rfl) (hb hby at_94) (fun _ _ => ⟨rfl, hh116, (by decide : 4 + 0 ≤ _), (by decide : 6 + 0 ≤ _)⟩)
      dsimp only [Pt.U, Pt.locs, Pt.cells, Pt.slots] at X118 l118 y118 z118 st118 hQ118
      subst l118 y118 z118
      obtain ⟨rfl, Nq118, hh118⟩ := hQ118
      have Nf118 := Fr.app Nf116 Nq118
      obtain ⟨cq121, kq121, q121a, q121b, q121c⟩ := isOf hZ hh118 Ex114
      obtain ⟨_, _, ⟨T120, L120, k120, n120⟩, -, X120, ⟨Lc120, hQ120, l120, y120, z120⟩, st120⟩ := X118.virtualBack hx (y := (⟨"com/example/narrow_grant/narrowgrant/session/FrontVersion", "number", "()J"⟩ : MethodName)) (z := (⟨"com/example/narrow_grant/narrowgrant/session/FrontVersion", "number", "()J"⟩ : MethodName)) hown (mvT hZ (hw _ (List.mem_of_getElem? (i := 19) rfl))) (mvT hZ (hw _ (List.mem_of_getElem? (i := 20) rfl))) (notFace_of_selects (args := #[]) (mvT hZ (hw _ (List.mem_of_getElem? (i := 22) rfl)))) (mvT hZ (hw _ (List.mem_of_getElem? (i := 22) rfl))) (mvT hZ (hw _ (List.mem_of_getElem? (i := 21) rfl))) (by decide) (backOf (W := 0) (rm_nu l Z a0 hw [] b107 vn T114.heap n0 Zp115 Fn114) hZ (hw _ (List.mem_of_getElem? (i := 23) rfl)) (hw _ (List.mem_of_getElem? (i := 3) rfl)) (by decide) (by decide)) q121a q121c (g := (mkF m 115 #[.val (.long vn), .second, .val (.int vf), .val (.int vb0), .val (.int vb1), .val (.int (1 : Int32)), .val (.int (1 : Int32)), .val (.ref b93), .val (.ref b95), .val (.ref b93), .val (.ref b107), .val (.int (1 : Int32)), .val (.int (1 : Int32))] [(.ref b107)])) rfl (by rw [hml]; rfl) (Steps.refl _) (argsL := []) (rest := []) (lenOf own_pd2 rfl) rfl (by show 2 * 0 + _ ≤ _; exact Nat.le_of_eq rfl) (hb hby at_115) (fun _ _ => ⟨rfl, hh118, (by decide : 4 + 0 ≤ _), (by decide : 6 + 0 ≤ _)⟩)
      dsimp only [Pt.U, Pt.locs, Pt.cells, Pt.slots] at X120 l120 y120 z120 st120 hQ120
      subst l120 y120 z120
      obtain ⟨rfl, Nq120, hh120⟩ := hQ120
      have Nf120 := Fr.app Nf118 Nq120
      have pre122 : ∀ t, Steps p.tables e below (T120.setTop (mkF m 120 #[.val (.long vn), .second, .val (.int vf), .val (.int vb0), .val (.int vb1), .val (.int (1 : Int32)), .val (.int (1 : Int32)), .val (.ref b93), .val (.ref b95), .val (.ref b93), .val (.ref b107), .val (.int (1 : Int32)), .val (.int (1 : Int32))] [(.int (lcmpW vn vn))])) t → Steps p.tables e below (s₁.setTop (entryFrame m #[(.long vn), (.int vf), (.int vb0), (.int vb1)] maxLocals)) t := by
        intro t k
        refine pre103 t ?_
        show Steps p.tables e below (T100.setTop (mkF m 48 #[.val (.long vn), .second, .val (.int vf), .val (.int vb0), .val (.int vb1), .val (.int (1 : Int32)), .val (.int (1 : Int32)), .val (.ref b93), .val (.ref b95), .unset, .unset, .unset, .unset] [(.int yb1), (.int (1 : Int32)), (.ref b95)])) _
        refine st105 _ ?_
        show Steps p.tables e below (T105.setTop (mkF m 49 #[.val (.long vn), .second, .val (.int vf), .val (.int vb0), .val (.int vb1), .val (.int (1 : Int32)), .val (.int (1 : Int32)), .val (.ref b93), .val (.ref b95), .unset, .unset, .unset, .unset] [])) _
        refine XS.aconstNull X105.here hx rfl (hb hby at_49) ?_
        show Steps p.tables e below (T105.setTop (mkF m 50 #[.val (.long vn), .second, .val (.int vf), .val (.int vb0), .val (.int vb1), .val (.int (1 : Int32)), .val (.int (1 : Int32)), .val (.ref b93), .val (.ref b95), .unset, .unset, .unset, .unset] [.null])) _
        refine XS.astore X105.here hx rfl (hb hby at_50) rfl rfl (l' := #[.val (.long vn), .second, .val (.int vf), .val (.int vb0), .val (.int vb1), .val (.int (1 : Int32)), .val (.int (1 : Int32)), .val (.ref b93), .val (.ref b95), .val .null, .unset, .unset, .unset]) rfl ?_
        show Steps p.tables e below (T105.setTop (mkF m 52 #[.val (.long vn), .second, .val (.int vf), .val (.int vb0), .val (.int vb1), .val (.int (1 : Int32)), .val (.int (1 : Int32)), .val (.ref b93), .val (.ref b95), .val .null, .unset, .unset, .unset] [])) _
        refine XS.iload X105.here hx rfl (hb hby at_52) rfl ?_
        show Steps p.tables e below (T105.setTop (mkF m 54 #[.val (.long vn), .second, .val (.int vf), .val (.int vb0), .val (.int vb1), .val (.int (1 : Int32)), .val (.int (1 : Int32)), .val (.ref b93), .val (.ref b95), .val .null, .unset, .unset, .unset] [(.int (1 : Int32))])) _
        refine XS.ifNo X105.here hx rfl (hb hby at_54) rfl (by decide) ?_
        show Steps p.tables e below (T105.setTop (mkF m 57 #[.val (.long vn), .second, .val (.int vf), .val (.int vb0), .val (.int vb1), .val (.int (1 : Int32)), .val (.int (1 : Int32)), .val (.ref b93), .val (.ref b95), .val .null, .unset, .unset, .unset] [])) _
        refine XS.iload X105.here hx rfl (hb hby at_57) rfl ?_
        show Steps p.tables e below (T105.setTop (mkF m 59 #[.val (.long vn), .second, .val (.int vf), .val (.int vb0), .val (.int vb1), .val (.int (1 : Int32)), .val (.int (1 : Int32)), .val (.ref b93), .val (.ref b95), .val .null, .unset, .unset, .unset] [(.int (1 : Int32))])) _
        refine XS.ifNo X105.here hx rfl (hb hby at_59) rfl (by decide) ?_
        show Steps p.tables e below (T105.setTop (mkF m 62 #[.val (.long vn), .second, .val (.int vf), .val (.int vb0), .val (.int vb1), .val (.int (1 : Int32)), .val (.int (1 : Int32)), .val (.ref b93), .val (.ref b95), .val .null, .unset, .unset, .unset] [])) _
        refine XS.aload X105.here hx rfl (hb hby at_62) rfl rfl ?_
        show Steps p.tables e below (T105.setTop (mkF m 64 #[.val (.long vn), .second, .val (.int vf), .val (.int vb0), .val (.int vb1), .val (.int (1 : Int32)), .val (.int (1 : Int32)), .val (.ref b93), .val (.ref b95), .val .null, .unset, .unset, .unset] [(.ref b93)])) _
        refine XS.astore X105.here hx rfl (hb hby at_64) rfl rfl (l' := #[.val (.long vn), .second, .val (.int vf), .val (.int vb0), .val (.int vb1), .val (.int (1 : Int32)), .val (.int (1 : Int32)), .val (.ref b93), .val (.ref b95), .val (.ref b93), .unset, .unset, .unset]) rfl ?_
        show Steps p.tables e below (T105.setTop (mkF m 66 #[.val (.long vn), .second, .val (.int vf), .val (.int vb0), .val (.int vb1), .val (.int (1 : Int32)), .val (.int (1 : Int32)), .val (.ref b93), .val (.ref b95), .val (.ref b93), .unset, .unset, .unset] [])) _
        refine XS.goto X105.here hx rfl (pc0 := 66) (pc' := 73) rfl (hb hby at_66) (by decide) (by decide) ?_
        show Steps p.tables e below (T105.setTop (mkF m 73 #[.val (.long vn), .second, .val (.int vf), .val (.int vb0), .val (.int vb1), .val (.int (1 : Int32)), .val (.int (1 : Int32)), .val (.ref b93), .val (.ref b95), .val (.ref b93), .unset, .unset, .unset] [])) _
        refine st107 _ ?_
        show Steps p.tables e below (T107.setTop (mkF m 76 #[.val (.long vn), .second, .val (.int vf), .val (.int vb0), .val (.int vb1), .val (.int (1 : Int32)), .val (.int (1 : Int32)), .val (.ref b93), .val (.ref b95), .val (.ref b93), .unset, .unset, .unset] [(.ref b107)])) _
        refine XS.dup X107.here hx rfl (hb hby at_76) rfl rfl ?_
        show Steps p.tables e below (T107.setTop (mkF m 77 #[.val (.long vn), .second, .val (.int vf), .val (.int vb0), .val (.int vb1), .val (.int (1 : Int32)), .val (.int (1 : Int32)), .val (.ref b93), .val (.ref b95), .val (.ref b93), .unset, .unset, .unset] [(.ref b107), (.ref b107)])) _
        refine XS.lloadN X107.here hx rfl (hb hby at_77) rfl ?_
        show Steps p.tables e below (T107.setTop (mkF m 78 #[.val (.long vn), .second, .val (.int vf), .val (.int vb0), .val (.int vb1), .val (.int (1 : Int32)), .val (.int (1 : Int32)), .val (.ref b93), .val (.ref b95), .val (.ref b93), .unset, .unset, .unset] [(.long vn), (.ref b107), (.ref b107)])) _
        refine XS.aload X107.here hx rfl (hb hby at_78) rfl rfl ?_
        show Steps p.tables e below (T107.setTop (mkF m 80 #[.val (.long vn), .second, .val (.int vf), .val (.int vb0), .val (.int vb1), .val (.int (1 : Int32)), .val (.int (1 : Int32)), .val (.ref b93), .val (.ref b95), .val (.ref b93), .unset, .unset, .unset] [(.ref b93), (.long vn), (.ref b107), (.ref b107)])) _
        refine st114.trans ?_
        show Steps p.tables e below (T114.setTop (mkF m 83 #[.val (.long vn), .second, .val (.int vf), .val (.int vb0), .val (.int vb1), .val (.int (1 : Int32)), .val (.int (1 : Int32)), .val (.ref b93), .val (.ref b95), .val (.ref b93), .unset, .unset, .unset] [(.ref b107)])) _
        refine XS.astore X114.here hx rfl (hb hby at_83) rfl rfl (l' := #[.val (.long vn), .second, .val (.int vf), .val (.int vb0), .val (.int vb1), .val (.int (1 : Int32)), .val (.int (1 : Int32)), .val (.ref b93), .val (.ref b95), .val (.ref b93), .val (.ref b107), .unset, .unset]) rfl ?_
        show Steps p.tables e below (T114.setTop (mkF m 85 #[.val (.long vn), .second, .val (.int vf), .val (.int vb0), .val (.int vb1), .val (.int (1 : Int32)), .val (.int (1 : Int32)), .val (.ref b93), .val (.ref b95), .val (.ref b93), .val (.ref b107), .unset, .unset] [])) _
        refine XS.aload X114.here hx rfl (hb hby at_85) rfl rfl ?_
        show Steps p.tables e below (T114.setTop (mkF m 87 #[.val (.long vn), .second, .val (.int vf), .val (.int vb0), .val (.int vb1), .val (.int (1 : Int32)), .val (.int (1 : Int32)), .val (.ref b93), .val (.ref b95), .val (.ref b93), .val (.ref b107), .unset, .unset] [(.ref b107)])) _
        refine st116.trans ?_
        show Steps p.tables e below (T116.setTop (mkF m 90 #[.val (.long vn), .second, .val (.int vf), .val (.int vb0), .val (.int vb1), .val (.int (1 : Int32)), .val (.int (1 : Int32)), .val (.ref b93), .val (.ref b95), .val (.ref b93), .val (.ref b107), .unset, .unset] [(.int (1 : Int32))])) _
        refine XS.istore X116.here hx rfl (hb hby at_90) rfl (l' := #[.val (.long vn), .second, .val (.int vf), .val (.int vb0), .val (.int vb1), .val (.int (1 : Int32)), .val (.int (1 : Int32)), .val (.ref b93), .val (.ref b95), .val (.ref b93), .val (.ref b107), .val (.int (1 : Int32)), .unset]) rfl ?_
        show Steps p.tables e below (T116.setTop (mkF m 92 #[.val (.long vn), .second, .val (.int vf), .val (.int vb0), .val (.int vb1), .val (.int (1 : Int32)), .val (.int (1 : Int32)), .val (.ref b93), .val (.ref b95), .val (.ref b93), .val (.ref b107), .val (.int (1 : Int32)), .unset] [])) _
        refine XS.aload X116.here hx rfl (hb hby at_92) rfl rfl ?_
        show Steps p.tables e below (T116.setTop (mkF m 94 #[.val (.long vn), .second, .val (.int vf), .val (.int vb0), .val (.int vb1), .val (.int (1 : Int32)), .val (.int (1 : Int32)), .val (.ref b93), .val (.ref b95), .val (.ref b93), .val (.ref b107), .val (.int (1 : Int32)), .unset] [(.ref b107)])) _
        refine st118.trans ?_
        show Steps p.tables e below (T118.setTop (mkF m 97 #[.val (.long vn), .second, .val (.int vf), .val (.int vb0), .val (.int vb1), .val (.int (1 : Int32)), .val (.int (1 : Int32)), .val (.ref b93), .val (.ref b95), .val (.ref b93), .val (.ref b107), .val (.int (1 : Int32)), .unset] [(.int (1 : Int32))])) _
        refine XS.istore X118.here hx rfl (hb hby at_97) rfl (l' := #[.val (.long vn), .second, .val (.int vf), .val (.int vb0), .val (.int vb1), .val (.int (1 : Int32)), .val (.int (1 : Int32)), .val (.ref b93), .val (.ref b95), .val (.ref b93), .val (.ref b107), .val (.int (1 : Int32)), .val (.int (1 : Int32))]) rfl ?_
        show Steps p.tables e below (T118.setTop (mkF m 99 #[.val (.long vn), .second, .val (.int vf), .val (.int vb0), .val (.int vb1), .val (.int (1 : Int32)), .val (.int (1 : Int32)), .val (.ref b93), .val (.ref b95), .val (.ref b93), .val (.ref b107), .val (.int (1 : Int32)), .val (.int (1 : Int32))] [])) _
        refine XS.iload X118.here hx rfl (hb hby at_99) rfl ?_
        show Steps p.tables e below (T118.setTop (mkF m 101 #[.val (.long vn), .second, .val (.int vf), .val (.int vb0), .val (.int vb1), .val (.int (1 : Int32)), .val (.int (1 : Int32)), .val (.ref b93), .val (.ref b95), .val (.ref b93), .val (.ref b107), .val (.int (1 : Int32)), .val (.int (1 : Int32))] [(.int (1 : Int32))])) _
        refine XS.iload X118.here hx rfl (hb hby at_101) rfl ?_
        show Steps p.tables e below (T118.setTop (mkF m 103 #[.val (.long vn), .second, .val (.int vf), .val (.int vb0), .val (.int vb1), .val (.int (1 : Int32)), .val (.int (1 : Int32)), .val (.ref b93), .val (.ref b95), .val (.ref b93), .val (.ref b107), .val (.int (1 : Int32)), .val (.int (1 : Int32))] [(.int (1 : Int32)), (.int (1 : Int32))])) _
        refine XS.icmpNo X118.here hx rfl (hb hby at_103) rfl (by decide) ?_
        show Steps p.tables e below (T118.setTop (mkF m 106 #[.val (.long vn), .second, .val (.int vf), .val (.int vb0), .val (.int vb1), .val (.int (1 : Int32)), .val (.int (1 : Int32)), .val (.ref b93), .val (.ref b95), .val (.ref b93), .val (.ref b107), .val (.int (1 : Int32)), .val (.int (1 : Int32))] [])) _
        refine XS.iload X118.here hx rfl (hb hby at_106) rfl ?_
        show Steps p.tables e below (T118.setTop (mkF m 108 #[.val (.long vn), .second, .val (.int vf), .val (.int vb0), .val (.int vb1), .val (.int (1 : Int32)), .val (.int (1 : Int32)), .val (.ref b93), .val (.ref b95), .val (.ref b93), .val (.ref b107), .val (.int (1 : Int32)), .val (.int (1 : Int32))] [(.int (1 : Int32))])) _
        refine XS.iload X118.here hx rfl (hb hby at_108) rfl ?_
        show Steps p.tables e below (T118.setTop (mkF m 110 #[.val (.long vn), .second, .val (.int vf), .val (.int vb0), .val (.int vb1), .val (.int (1 : Int32)), .val (.int (1 : Int32)), .val (.ref b93), .val (.ref b95), .val (.ref b93), .val (.ref b107), .val (.int (1 : Int32)), .val (.int (1 : Int32))] [(.int (1 : Int32)), (.int (1 : Int32))])) _
        refine XS.icmpNo X118.here hx rfl (hb hby at_110) rfl (by decide) ?_
        show Steps p.tables e below (T118.setTop (mkF m 113 #[.val (.long vn), .second, .val (.int vf), .val (.int vb0), .val (.int vb1), .val (.int (1 : Int32)), .val (.int (1 : Int32)), .val (.ref b93), .val (.ref b95), .val (.ref b93), .val (.ref b107), .val (.int (1 : Int32)), .val (.int (1 : Int32))] [])) _
        refine XS.aload X118.here hx rfl (hb hby at_113) rfl rfl ?_
        show Steps p.tables e below (T118.setTop (mkF m 115 #[.val (.long vn), .second, .val (.int vf), .val (.int vb0), .val (.int vb1), .val (.int (1 : Int32)), .val (.int (1 : Int32)), .val (.ref b93), .val (.ref b95), .val (.ref b93), .val (.ref b107), .val (.int (1 : Int32)), .val (.int (1 : Int32))] [(.ref b107)])) _
        refine st120.trans ?_
        show Steps p.tables e below (T120.setTop (mkF m 118 #[.val (.long vn), .second, .val (.int vf), .val (.int vb0), .val (.int vb1), .val (.int (1 : Int32)), .val (.int (1 : Int32)), .val (.ref b93), .val (.ref b95), .val (.ref b93), .val (.ref b107), .val (.int (1 : Int32)), .val (.int (1 : Int32))] [(.long vn)])) _
        refine XS.lloadN X120.here hx rfl (hb hby at_118) rfl ?_
        show Steps p.tables e below (T120.setTop (mkF m 119 #[.val (.long vn), .second, .val (.int vf), .val (.int vb0), .val (.int vb1), .val (.int (1 : Int32)), .val (.int (1 : Int32)), .val (.ref b93), .val (.ref b95), .val (.ref b93), .val (.ref b107), .val (.int (1 : Int32)), .val (.int (1 : Int32))] [(.long vn), (.long vn)])) _
        refine XS.lcmp X120.here hx rfl (hb hby at_119) rfl ?_
        show Steps p.tables e below (T120.setTop (mkF m 120 #[.val (.long vn), .second, .val (.int vf), .val (.int vb0), .val (.int vb1), .val (.int (1 : Int32)), .val (.int (1 : Int32)), .val (.ref b93), .val (.ref b95), .val (.ref b93), .val (.ref b107), .val (.int (1 : Int32)), .val (.int (1 : Int32))] [(.int (lcmpW vn vn))])) _
        exact k
      have hd123 : vn = vn := rfl
      obtain ⟨fs, hr, hrun, hended, hW, hsame⟩ := X120.leave (v := some (.int (1 : Int32))) (fun h => by rw [Bd.returns] at h; cases h)
      refine ⟨_, _, pre122 _ ?_, hrun, hended, _, _, rfl, ?_, ⟨_, rfl⟩, hW, hsame.mono (by decide) (by decide)⟩
      · show Steps p.tables e below (T120.setTop (mkF m 120 #[.val (.long vn), .second, .val (.int vf), .val (.int vb0), .val (.int vb1), .val (.int (1 : Int32)), .val (.int (1 : Int32)), .val (.ref b93), .val (.ref b95), .val (.ref b93), .val (.ref b107), .val (.int (1 : Int32)), .val (.int (1 : Int32))] [(.int (lcmpW vn vn))])) _
        refine XS.ifNo X120.here hx rfl (hb hby at_120) rfl ((if0 _ _).trans (teq ((lw_eq _ _).mpr hd123)).2) ?_
        show Steps p.tables e below (T120.setTop (mkF m 123 #[.val (.long vn), .second, .val (.int vf), .val (.int vb0), .val (.int vb1), .val (.int (1 : Int32)), .val (.int (1 : Int32)), .val (.ref b93), .val (.ref b95), .val (.ref b93), .val (.ref b107), .val (.int (1 : Int32)), .val (.int (1 : Int32))] [])) _
        refine XS.iconst X120.here hx rfl (hb hby at_123) ?_
        show Steps p.tables e below (T120.setTop (mkF m 124 #[.val (.long vn), .second, .val (.int vf), .val (.int vb0), .val (.int vb1), .val (.int (1 : Int32)), .val (.int (1 : Int32)), .val (.ref b93), .val (.ref b95), .val (.ref b93), .val (.ref b107), .val (.int (1 : Int32)), .val (.int (1 : Int32))] [(.int (1 : Int32))])) _
        refine XS.goto X120.here hx rfl (pc0 := 124) (pc' := 128) rfl (hb hby at_124) (by decide) (by decide) ?_
        show Steps p.tables e below (T120.setTop (mkF m 128 #[.val (.long vn), .second, .val (.int vf), .val (.int vb0), .val (.int vb1), .val (.int (1 : Int32)), .val (.int (1 : Int32)), .val (.ref b93), .val (.ref b95), .val (.ref b93), .val (.ref b107), .val (.int (1 : Int32)), .val (.int (1 : Int32))] [(.int (1 : Int32))])) _
        exact retN X120 hx (t := .boolean) Bd.returns (by simp) (hb hby at_128) hr
      · show Q0 Z vn vf vb0 vb1 h0 n0 _ T120.heap _
        rw [hh120]
        exact ⟨rfl, Nf120⟩
set_option maxRecDepth 65536 in
set_option maxHeartbeats 40000000 in
theorem comes_1 {Post : Tables → Env → Array Value → State → Outcome → State → Prop} (hpost : ∀ tb e args s v u, (limb_1_1.after args s (.returned v) u = true ∧ limb_1_2.after args s (.returned v) u = true ∧ True) → FrameEnd s (.returned v) u (Jvm.fieldLocs frame_1_writes args s ++ Jvm.arrayLocs frame_1_arrays args s ++ Jvm.staticLocs frame_1_statics s) 16 128 → Post tb e args s (.returned v) u) :
    ArmFor flags0 classFile x code maxLocals ret World_1 tables_1 room_1 Calls_1 rest_1 Pre_1 Post := by
  intro l hfl _ _ p e ha hc hk s m args below hf hA hF happ hP
  obtain ⟨hcalls, hrest, hpre⟩ := hP
  obtain ⟨-, -, -, hnamed, -, -, -, hat⟩ := (Spec.applies_iff hf).mp happ
  obtain ⟨hg, hn⟩ := and_e (Cond.before_iff.mp (show (Jvm.Cond.and given_1 narrow_1).before args s = true from hpre))
  obtain ⟨ga1, gb1⟩ := and_e hg
  obtain ⟨ga2, gb2⟩ := and_e gb1
  obtain ⟨ga3, gb3⟩ := and_e gb2
  obtain ⟨ga4, gb4⟩ := and_e gb3
  obtain ⟨w0, w1, w2, w3, rfl⟩ : ∃ w0 w1 w2 w3 : Value, args = #[w0, w1, w2, w3] := by
    have hs : args.size = 4 := by simpa [Cond.value, given_1] using ga1
    obtain ⟨L⟩ := args
    match L, hs with
    | [w0, w1, w2, w3], _ => exact ⟨w0, w1, w2, w3, rfl⟩
  have hw := fun d (hd : d ∈ tables_1) => atoms_spec (ws := Jvm.Cond.code x code maxLocals ret :: tables_1) hat d (List.mem_cons_of_mem _ hd)
  have hfit : Fit s := fun {y c} hc i hi => by
    obtain ⟨ha, rfl⟩ := Array.getElem?_eq_some_iff.mp hc
    have q := List.all_eq_true.mp ((Array.all_eq_true_iff_forall_mem.mp hF) _ (Array.getElem_mem ha)) i (List.mem_range.mpr hi)
    simpa [Array.getElem?_eq_getElem hi] using q
  obtain ⟨i0, ei0⟩ := isL_v ga2
  obtain rfl : w0 = (.long i0) := Option.some.inj ei0
  obtain ⟨i1, ei1⟩ := is_v ga3
  obtain rfl : w1 = (.int i1) := Option.some.inj ei1
  obtain ⟨i2, ei2⟩ := is_v ga4
  obtain rfl : w2 = (.int i2) := Option.some.inj ei2
  obtain ⟨i3, ei3⟩ := is_v gb4
  obtain rfl : w3 = (.int i3) := Option.some.inj ei3
  obtain ⟨n, o, h1, h2, h3, _, L, rfl, ⟨rfl, N⟩, hq⟩ := rm0 l s _ hw tables_1 i0 i1 i2 i3 s.heap s.heap.size (Nat.le_refl _)  p e ha hc hk s m _ below hf ((Spec.applies_iff_loose hf).mp happ).1 ⟨rfl, State.Warmed39.refl s, rfl⟩ trivial
  refine ⟨n, _, h1, h2, h3, hpost _ _ _ _ _ _ ⟨Cond.after_iff.mpr rfl, Cond.after_iff.mpr (eq_i res_at (Term.int_eval (1)) rfl), trivial⟩ ⟨hq.1, hq.2.1, (hq.2.2.sift fun y hy => Or.inr (N y hy)).mono (by decide) (by decide)⟩⟩
theorem main_1_1 : Claimed_1_1 := comes_1 fun _ _ _ _ _ _ h hF => ⟨h.1, hF⟩
theorem main_1_2 : Claimed_1_2 := comes_1 fun _ _ _ _ _ _ h hF => ⟨h.2.1, hF⟩
end Jvm.Pilot.@@N@@
namespace Jvm.Pilot.@@N@@
open Jvm Jvm.ClassFile Sem Op Lib Jvm.Free Jvm.Stand Jvm.Pilot.@@N@@.Jvm.D
/-! MADE BY PROGRAM (witnessworld.py) out of the Statement's table words and the real class files: 9 classes; the members and pool entries that the words name. The judged class is class 1, her method 1. -/
namespace start1
open Jvm.ClassFile
def u (s : String) : CpInfo := .utf8 (stringToUtf16 s)
/-- a pool by its gaps: so many unusable entries, then the entry; so many at the end -/
def gap : Nat → List CpInfo → List CpInfo
  | 0, r => r
  | n + 1, r => .unusable :: gap n r
def poolList (es : List (Nat × CpInfo)) (last : Nat) : List CpInfo := es.foldr (fun e r => gap e.1 (e.2 :: r)) (gap last [])
def pool (es : List (Nat × CpInfo)) (last : Nat) : Array CpInfo := ⟨poolList es last⟩
def fileOf (pool : Array CpInfo) (this : Nat) (attrs : Array Attribute := #[]) (ms : Array MethodInfo := #[]) (fl : Nat := 33) (sup : Nat := 0) (ifs : Array Nat := #[]) (fds : Array FieldInfo := #[]) : ClassFile where
  minorVersion := 0
  majorVersion := 65
  constantPool := pool
  accessFlags := fl
  thisClass := this
  superClass := sup
  interfaces := ifs
  fields := fds
  methods := ms
  attributes := attrs
def plain (name : String) (sup : Option ClassId) : Class where
  name := name
  kind := .ordinary
  loader := none
  accessFlags := 33
  super := sup
  interfaces := #[]
  cf := none
  fields := #[]
  methods := #[]
  instanceTypes := #[]
  staticTypes := #[]
  resolved := #[]
  callSites := []
  init := .initialized
  statics := none
  mirror := none

def pool0 : Array CpInfo := pool [(5, u "<init>"), (0, u "()V"), (1, .class_ 10), (1, u "java/lang/Object"), (85, u "clone"), (0, u "()Ljava/lang/Object;")] 26

def k0c0 : Code := { maxStack := 0, maxLocals := 1, code := object_method_1_code, exceptionTable := #[], attributes := #[] }
def k0m0 : Method := { name := "<init>", desc := "()V", sig := { parameters := [], returnType := none }, accessFlags := 1, code := some k0c0 }
def k0m1 : Method := { name := "clone", desc := "()Ljava/lang/Object;", sig := { parameters := [], returnType := some (.object "java/lang/Object") }, accessFlags := 260, code := none }
/-- java/lang/Object -/
def k0 : Class := { plain "java/lang/Object" none with
  accessFlags := 33
  interfaces := #[]
  cf := some (fileOf pool0 8 #[] #[{ accessFlags := 1, nameIndex := 5, descriptorIndex := 6, attributes := #[] }, { accessFlags := 260, nameIndex := 96, descriptorIndex := 97, attributes := #[] }] 33 0 #[] #[])
  fields := #[]
  methods := #[k0m0, k0m1]
  instanceTypes := #[]
  staticTypes := #[]
  resolved := Array.replicate 124 none
  statics := none }

def pool1 : Array CpInfo := pool [(2, .class_ 4), (1, u "java/lang/Object"), (0, u "<init>"), (0, u "()V"), (0, .class_ 8), (0, u "com/example/narrow_grant/narrowgrant/session/FrontVersion"), (0, .methodref 7 10), (0, .nameAndType 5 11), (0, u "(J[B)V"), (0, .methodref 7 13), (0, .nameAndType 14 15), (0, u "written"), (0, u "()Z"), (0, .methodref 7 17), (0, .nameAndType 18 19), (0, u "number"), (0, u "()J"), (0, .class_ 21), (0, u "com/example/narrow_grant/narrowgrant/session/FrontVersionWrittenPinLaw"), (2, u "law"), (0, u "(JIII)Z")] 5

def k1m0 : Method := { name := "<init>", desc := "()V", sig := { parameters := [], returnType := none }, accessFlags := 1, code := none }
def k1c1 : Code := { maxStack := 5, maxLocals := 13, code := code, exceptionTable := #[], attributes := #[] }
def k1m1 : Method := { name := "law", desc := "(JIII)Z", sig := { parameters := [.long, .int, .int, .int], returnType := some .boolean }, accessFlags := 9, code := some k1c1 }
/-- com/example/narrow_grant/narrowgrant/session/FrontVersionWrittenPinLaw -/
def k1 : Class := { plain "com/example/narrow_grant/narrowgrant/session/FrontVersionWrittenPinLaw" (some 0) with
  accessFlags := 49
  interfaces := #[]
  cf := some (fileOf pool1 20 #[] #[{ accessFlags := 1, nameIndex := 5, descriptorIndex := 6, attributes := #[] }, { accessFlags := 9, nameIndex := 24, descriptorIndex := 25, attributes := #[] }] 49 2 #[] #[])
  fields := #[]
  methods := #[k1m0, k1m1]
  instanceTypes := #[]
  staticTypes := #[]
  resolved := Array.replicate 31 none
  statics := none }

def pool2 : Array CpInfo := pool [(1, .methodref 2 3), (0, .class_ 4), (0, .nameAndType 5 6), (0, u "java/lang/Object"), (0, u "<init>"), (0, u "()V"), (0, .fieldref 8 9), (0, .class_ 10), (0, .nameAndType 11 12), (0, u "com/example/narrow_grant/narrowgrant/session/FrontVersion"), (0, u "number"), (0, u "J"), (0, .methodref 14 15), (0, .class_ 16), (0, .nameAndType 17 18), (0, u "[B"), (0, u "clone"), (0, u "()Ljava/lang/Object;"), (0, .fieldref 8 20), (0, .nameAndType 21 16), (0, u "front"), (0, u "(J[B)V"), (3, u "()J"), (2, u "written"), (0, u "()Z")] 2

def k2c0 : Code := { maxStack := 3, maxLocals := 4, code := prog_56_method_1_code, exceptionTable := #[], attributes := #[] }
def k2m0 : Method := { name := "<init>", desc := "(J[B)V", sig := { parameters := [.long, (.array .byte)], returnType := none }, accessFlags := 0, code := some k2c0 }
def k2c1 : Code := { maxStack := 2, maxLocals := 1, code := prog_56_method_2_code, exceptionTable := #[], attributes := #[] }
def k2m1 : Method := { name := "number", desc := "()J", sig := { parameters := [], returnType := some .long }, accessFlags := 1, code := some k2c1 }
def k2c2 : Code := { maxStack := 1, maxLocals := 1, code := prog_56_method_4_code, exceptionTable := #[], attributes := #[] }
def k2m2 : Method := { name := "written", desc := "()Z", sig := { parameters := [], returnType := some .boolean }, accessFlags := 0, code := some k2c2 }
/-- com/example/narrow_grant/narrowgrant/session/FrontVersion -/
def k2 : Class := { plain "com/example/narrow_grant/narrowgrant/session/FrontVersion" (some 0) with
  accessFlags := 49
  interfaces := #[]
  cf := some (fileOf pool2 8 #[] #[{ accessFlags := 0, nameIndex := 5, descriptorIndex := 22, attributes := #[] }, { accessFlags := 1, nameIndex := 11, descriptorIndex := 26, attributes := #[] }, { accessFlags := 0, nameIndex := 29, descriptorIndex := 30, attributes := #[] }] 49 2 #[] #[{ accessFlags := 18, nameIndex := 11, descriptorIndex := 12, attributes := #[] }, { accessFlags := 18, nameIndex := 21, descriptorIndex := 16, attributes := #[] }])
  fields := #[{ name := "number", type := .long, accessFlags := 18, slot := 0, constantValue := 0 }, { name := "front", type := (.array .byte), accessFlags := 18, slot := 1, constantValue := 0 }]
  methods := #[k2m0, k2m1, k2m2]
  instanceTypes := #[.long, (.array .byte)]
  staticTypes := #[]
  resolved := Array.replicate 33 none
  statics := none }

def pool3 : Array CpInfo := pool [(1, .class_ 2), (0, u "java/lang/Cloneable"), (0, .class_ 4), (0, u "java/lang/Object")] 2

/-- java/lang/Cloneable -/
def k3 : Class := { plain "java/lang/Cloneable" (some 0) with
  accessFlags := 1537
  interfaces := #[]
  cf := some (fileOf pool3 1 #[] #[] 1537 3 #[] #[])
  fields := #[]
  methods := #[]
  instanceTypes := #[]
  staticTypes := #[]
  resolved := Array.replicate 7 none
  statics := none }

def pool4 : Array CpInfo := pool [(1, u "java/io/Serializable"), (0, .class_ 1), (0, u "java/lang/Object"), (0, .class_ 3)] 3

/-- java/io/Serializable -/
def k4 : Class := { plain "java/io/Serializable" (some 0) with
  accessFlags := 1537
  interfaces := #[]
  cf := some (fileOf pool4 2 #[] #[] 1537 4 #[] #[])
  fields := #[]
  methods := #[]
  instanceTypes := #[]
  staticTypes := #[]
  resolved := Array.replicate 8 none
  statics := none }

/-- the primitive byte -/
def k5 : Class := { plain "byte" none with kind := .primitive 'B', accessFlags := 0x411 }
/-- [B -/
def k6 : Class := { plain "[B" (some 0) with kind := .array 5 .byte, interfaces := #[3, 4], accessFlags := 1041 }

/-- the primitive int -/
def k7 : Class := { plain "int" none with kind := .primitive 'I', accessFlags := 0x411 }
/-- [I -/
def k8 : Class := { plain "[I" (some 0) with kind := .array 7 .int, interfaces := #[3, 4], accessFlags := 1041 }

def heap : Heap := #[]
def classes : Array Class := #[k0, k1, k2, k3, k4, k5, k6, k7, k8]
def interned : List (Array UInt16 × Addr) := []
def slotsUsed : Nat := 0
def theMethod : MethodId := ⟨1, 1⟩
def args0 : Array Value := #[.long 5, .int 3, .int 7, .int 8]
def aboutOver (below : List Frame) : State where
  vm := { classes := classes, interned := interned.toArray }
  heap := heap
  slotsUsed := slotsUsed
  threads := #[{ frames := .invoking theMethod args0 :: below }]
def below0 : List Frame := [.native { method := ⟨0, 0⟩, args := #[] }]
def about1 : State := aboutOver below0
def p0 : Program := .bare "" "" ""
def e0 : Env := launch0.env 0 0 0
theorem w_frames : about1.frames = Frame.invoking theMethod args0 :: below0 := rfl
set_option maxRecDepth 65536 in
theorem w_args : argsFit about1.vm theMethod args0 = true := by decide +kernel
set_option maxRecDepth 65536 in
theorem w_heap : heapFits about1 = true := by decide +kernel
set_option maxRecDepth 65536 in
theorem w_runnable : about1.curStatus? = some .runnable := by decide +kernel
set_option maxRecDepth 65536 in
theorem w_alone : about1.alone = true := by decide +kernel
set_option maxRecDepth 65536 in
theorem w_named : about1.methodNamed? x = some theMethod := by decide +kernel
set_option maxRecDepth 65536 in
theorem w_hears : about1.hears theMethod below0 = true := by decide +kernel
set_option maxRecDepth 65536 in
theorem w_ripe : about1.ripe theMethod args0 below0 = true := by decide +kernel
theorem w_running : about1.status = .running := rfl
set_option maxRecDepth 65536 in
theorem w_room : about1.hasRoom e0.platform room_1 = true :=
  launch0.hasRoom_least _ room_1 (by decide +kernel) (by decide +kernel) (by decide +kernel) (by decide +kernel) (by decide +kernel) (by decide +kernel)
theorem allAtoms_all (ts : List Jvm.Cond) (a : Array Jvm.Value) (st : Jvm.State) : (allAtoms ts).before a st = ts.all (fun c => c.before a st) := by
  induction ts with
  | nil => rfl
  | cons c t ih =>
    show (Jvm.Cond.and c (allAtoms t)).before a st = _
    rw [Jvm.Cond.before_and, ih, List.all_cons]
def words1 : List Jvm.Cond := Jvm.Cond.code x code maxLocals ret :: tables_1
/-- a 'code' word, met by the world's own term for the bytes: nothing is compared byte by byte -/
theorem code_word {y : MethodName} {bytes : ByteArray} {mx : Nat} {rt : Option FieldType} {a : Array Value} {s : State} {m : MethodId} {meth : Method} {c : Code} (h1 : s.methodNamed? y = some m) (h2 : s.vm.method? m = some meth) (h3 : meth.code = some c) (h4 : c.code = bytes)
    (h5 : (c.maxLocals == mx && c.exceptionTable.isEmpty && decide (c.maxStack ≤ mostOperands) && decide (meth.sig.returnType = rt) && !meth.locks && decide (parseMethodDescriptor y.desc = some meth.sig)) = true) : (Jvm.Cond.code y bytes mx rt).before a s = true := by
  simp only [Bool.and_eq_true, beq_iff_eq, Bool.not_eq_true', decide_eq_true_eq] at h5
  obtain ⟨⟨⟨⟨⟨g1, g2⟩, g3⟩, g4⟩, g5⟩, g6⟩ := h5
  simp [Cond.before, Cond.holds, Cond.value, h1, h2, h3, h4, g1, g2, g3, g4, g5, g6]
def isCode : Jvm.Cond → Bool
  | .code _ _ _ _ => true
  | _ => false
theorem all_split {L : List Jvm.Cond} {P : Jvm.Cond → Bool} (h1 : L.all (fun c => isCode c || P c) = true) (h2 : ∀ c ∈ L.filter isCode, P c = true) : L.all P = true := by
  refine List.all_eq_true.mpr fun c hc => ?_
  have h := List.all_eq_true.mp h1 c hc
  rcases Bool.eq_false_or_eq_true (isCode c) with hi | hi
  · exact h2 c (List.mem_filter.mpr ⟨hc, hi⟩)
  · simpa [hi] using h
set_option maxRecDepth 65536 in
theorem w_c0 : (Jvm.Cond.code x code maxLocals ret).before args0 about1 = true := code_word (m := ⟨1, 1⟩) (meth := k1m1) (c := k1c1) (by decide +kernel) rfl rfl rfl (by decide +kernel)
set_option maxRecDepth 65536 in
theorem w_c1 : (Jvm.Cond.code ({ cls := "com/example/narrow_grant/narrowgrant/session/FrontVersion", name := "<init>", desc := "(J[B)V" } : Jvm.MethodName) prog_56_method_1_code (4 : Nat) (Option.none : Option Jvm.ClassFile.FieldType)).before args0 about1 = true := code_word (m := ⟨2, 0⟩) (meth := k2m0) (c := k2c0) (by decide +kernel) rfl rfl rfl (by decide +kernel)
set_option maxRecDepth 65536 in
theorem w_c2 : (Jvm.Cond.code ({ cls := "java/lang/Object", name := "<init>", desc := "()V" } : Jvm.MethodName) object_method_1_code (1 : Nat) (Option.none : Option Jvm.ClassFile.FieldType)).before args0 about1 = true := code_word (m := ⟨0, 0⟩) (meth := k0m0) (c := k0c0) (by decide +kernel) rfl rfl rfl (by decide +kernel)
set_option maxRecDepth 65536 in
theorem w_c3 : (Jvm.Cond.code ({ cls := "com/example/narrow_grant/narrowgrant/session/FrontVersion", name := "written", desc := "()Z" } : Jvm.MethodName) prog_56_method_4_code (1 : Nat) (Option.some Jvm.ClassFile.FieldType.boolean)).before args0 about1 = true := code_word (m := ⟨2, 2⟩) (meth := k2m2) (c := k2c2) (by decide +kernel) rfl rfl rfl (by decide +kernel)
set_option maxRecDepth 65536 in
theorem w_c4 : (Jvm.Cond.code ({ cls := "com/example/narrow_grant/narrowgrant/session/FrontVersion", name := "number", desc := "()J" } : Jvm.MethodName) prog_56_method_2_code (1 : Nat) (Option.some Jvm.ClassFile.FieldType.long)).before args0 about1 = true := code_word (m := ⟨2, 1⟩) (meth := k2m1) (c := k2c1) (by decide +kernel) rfl rfl rfl (by decide +kernel)
def codes1 : List Jvm.Cond := [Jvm.Cond.code x code maxLocals ret, Jvm.Cond.code ({ cls := "com/example/narrow_grant/narrowgrant/session/FrontVersion", name := "<init>", desc := "(J[B)V" } : Jvm.MethodName) prog_56_method_1_code (4 : Nat) (Option.none : Option Jvm.ClassFile.FieldType), Jvm.Cond.code ({ cls := "java/lang/Object", name := "<init>", desc := "()V" } : Jvm.MethodName) object_method_1_code (1 : Nat) (Option.none : Option Jvm.ClassFile.FieldType), Jvm.Cond.code ({ cls := "com/example/narrow_grant/narrowgrant/session/FrontVersion", name := "written", desc := "()Z" } : Jvm.MethodName) prog_56_method_4_code (1 : Nat) (Option.some Jvm.ClassFile.FieldType.boolean), Jvm.Cond.code ({ cls := "com/example/narrow_grant/narrowgrant/session/FrontVersion", name := "number", desc := "()J" } : Jvm.MethodName) prog_56_method_2_code (1 : Nat) (Option.some Jvm.ClassFile.FieldType.long)]
set_option maxRecDepth 65536 in
theorem codes_eq : words1.filter isCode = codes1 := rfl
theorem w_codes : ∀ c ∈ words1.filter isCode, c.before args0 about1 = true := by
  rw [codes_eq]
  intro c hc
  simp only [codes1, List.mem_cons, List.not_mem_nil, or_false] at hc
  rcases hc with rfl | rfl | rfl | rfl | rfl
  · exact w_c0
  · exact w_c1
  · exact w_c2
  · exact w_c3
  · exact w_c4
set_option maxRecDepth 65536 in
theorem w_t1 : (words1.take 24).all (fun c => isCode c || c.before args0 about1) = true := by decide +kernel
set_option maxRecDepth 65536 in
theorem w_t2 : (words1.drop 24).all (fun c => isCode c || c.before args0 about1) = true := by decide +kernel
theorem w_tables : (allAtoms (Jvm.Cond.code x code maxLocals ret :: tables_1)).before args0 about1 = true := by
  rw [allAtoms_all]
  show words1.all (fun c => c.before args0 about1) = true
  refine all_split ?_ w_codes
  rw [← List.take_append_drop 24 words1, List.all_append, w_t1, w_t2]
  rfl
set_option maxRecDepth 65536 in
theorem w_case : (Jvm.Cond.and given_1 narrow_1).before args0 about1 = true := by decide +kernel
theorem w_applies : (headSpec (Jvm.Cond.code x code maxLocals ret :: tables_1) room_1).applies x e0.platform about1 = true :=
  (Spec.applies_iff w_frames).mpr ⟨w_running, w_runnable, w_alone, w_named, w_hears, w_ripe, w_room, w_tables⟩
theorem atStart : AtStart classFile x code maxLocals ret World_1 tables_1 room_1 Calls_1 rest_1 Pre_1 launch0 p0 e0 about1 theMethod args0 below0 :=
  ⟨lists_1, trivial, launch0.admits_env _ _ _, launch0.least_env, fairChoices_fair.cas, fairChoices_fair.clock, w_frames, w_args, w_heap, w_applies, trivial, trivial, w_case⟩
end start1
theorem witness_1 : WitnessClaimed_1 := ⟨start1.p0, start1.e0, start1.about1, start1.theMethod, start1.args0, start1.below0, start1.atStart⟩
end Jvm.Pilot.@@N@@
