import JvmDerived
import JvmDerived.Pilot.@@N@@Statement
import JvmDerived.Pilot.@@N@@Code
set_option linter.unusedVariables false
set_option linter.unusedSimpArgs false
namespace Jvm.RoadKit
open Sem ClassFile Op Lib Jvm.Stand Jvm.Free Jvm.LawKit
section New
variable {p : Program} {l : Launch} {e : Env} {R : Room} {s : State} {m : MethodId} {args : Array Value} {below : List Frame} {meth : Method} {c : Code} {T : State} {locs : List Loc} {cells slots : Nat}
theorem retI (X : Stand p l e R s m args below meth c T locs cells slots) (hx : p.tables.exec = Jvm.exec) {pc : Nat} {Ls : Array Slot} {z : Int32} {rest : List Value} (hret : meth.sig.returnType = some .int) (hd : decode c.code pc = .ok (.ireturn, 1)) {fs : List Frame}
    (hl : ∀ (f : JFrame) (acts : List Action), f.method = m → f.locked = none → f.entered = [] → (doReturn e (T.setTop f) acts (some (.int z))).1 = T.setFrames fs) : Steps p.tables e below (T.setTop (mkF m pc Ls (.int z :: rest))) (T.setFrames fs) := by
  have hm' : T.vm.method? m = some meth := X.method'
  have hn : narrow .int (.int z) = .int z := rfl
  show Steps p.tables e below (T.setTop { method := m, pc := pc, locals := Ls, stack := _ :: rest, locked := none }) _
  jvm_step X.here [X.here.top, hx, hd, hm', hret, hn]
  first | (intro acts; rw [hl _ acts rfl rfl rfl]) | rw [hl _ _ rfl rfl rfl]
  exact Steps.refl _
end New
end Jvm.RoadKit
namespace Jvm.Pilot.@@N@@
open Jvm Jvm.ClassFile Sem Op Lib Jvm.Free Jvm.Stand Jvm.LawKit Jvm.RoadKit Bundle Jvm.Pilot.@@N@@.Jvm.D
theorem own_nar {x : Int32} (h : x = 0 ∨ x = 1) : narrow .boolean (.int x) = .int x := by rcases h with rfl | rfl <;> rfl
theorem own_fit {x : Int32} (h : x = 0 ∨ x = 1) : fits .boolean (.int x) = true := by rcases h with rfl | rfl <;> rfl
theorem own_pd0 : parseMethodDescriptor "()V" = some ⟨[], none⟩ := by decide +kernel
theorem own_pd1 : parseMethodDescriptor "(IIZZ)V" = some ⟨[.int, .int, .boolean, .boolean], none⟩ := by decide +kernel
theorem own_pd2 : parseMethodDescriptor "()I" = some ⟨[], some .int⟩ := by decide +kernel
theorem own_pd3 : parseMethodDescriptor "()Lcom/example/adhoc/adhoc/submission/Layout$OneHigh;" = some ⟨[], some (.object "com/example/adhoc/adhoc/submission/Layout$OneHigh")⟩ := by decide +kernel
theorem d2_0 : decode jdk_30_method_1_code 0 = .ok (.aload_n 0, 1) := by decide +kernel
theorem d2_1 : decode jdk_30_method_1_code 1 = .ok (.invokespecial 1, 3) := by decide +kernel
theorem d2_4 : decode jdk_30_method_1_code 4 = .ok (.return_, 1) := by decide +kernel
theorem pn_rm_rec : plainName "java/lang/Record" = true := by first | (simp [plainName, overriddenIn]; done) | decide +kernel
theorem ef_rm_rec (m : MethodId) (va : Addr) : entryFrame m #[(.ref va)] 1 = mkF m 0 #[.val (.ref va)] [] := by first | (simp [entryFrame, mkF, argsToLocals, Value.category]; done) | rfl
def Q_rec (Z : State) (va : Addr) (h0 : Heap) (n0 : Nat) (v : Option Value) (h : Heap) (L : List Loc) : Prop := v = none ∧ Fr n0 L ∧ h = h0
set_option maxRecDepth 65536 in
set_option maxHeartbeats 40000000 in
theorem rm_rec (l : Launch) (Z : State) (a0 : Array Value) (hw : ∀ d ∈ tables_1, d.before a0 Z = true) (ws : List Jvm.Cond) (va : Addr) (h0 : Heap) (n0 : Nat) (Z0 : n0 ≤ h0.size) :
    MetFree l (⟨"java/lang/Record", "<init>", "()V"⟩ : MethodName) (head1 (Jvm.Cond.code (⟨"java/lang/Record", "<init>", "()V"⟩ : MethodName) jdk_30_method_1_code 1 none :: ws) ({ frames := 1, cells := 0, slots := 0, locals := 12 } : Room)) (fun a U => a = #[(.ref va)] ∧ Z.Warmed39 U.vm ∧ U.heap = h0) (fun _ _ _ _ _ => True) (fun _ U o U' => ∃ v L, o = .returned v ∧ Q_rec Z va h0 n0 v U'.heap L ∧ FrameEnd U o U' L ({ frames := 1, cells := 0, slots := 0, locals := 12 } : Room).cells ({ frames := 1, cells := 0, slots := 0, locals := 12 } : Room).slots) := by
  refine MetFree.of_bodySF (plainFor_of_name pn_rm_rec) hisR ?_
  intro p e s m args below meth c s₁ Bd hml0 hP hK
  obtain ⟨rfl, hZ, hh⟩ := hP
  have hx := Bd.exec
  have hby := Bd.bytes
  have hml : c.maxLocals = 1 := hml0
  have hown : s.vm.findClass "java/lang/Record" = some m.cls := findClass_of_methodNamed Bd.named
  have hnm := (name_of_methodNamed Bd.named Bd.method).1
  have X0 : Stand p l e ({ frames := 1, cells := 0, slots := 0, locals := 12 } : Room) s m #[(.ref va)] below meth c s₁ [] 0 0 := Stand.of_body Bd
  have e0 : s₁.heap = h0 := by rw [← hh, Bd.state]; rfl
  have N0 := Fr.nil n0
  have pre0 : ∀ t, Steps p.tables e below (s₁.setTop (mkF m 0 #[.val (.ref va)] [])) t → Steps p.tables e below (s₁.setTop (entryFrame m #[(.ref va)] 1)) t := fun t k => castTop (ef_rm_rec m va) k
  obtain ⟨T1, X1, e1, st1⟩ := initO X0 hx hZ hown (hw _ (List.mem_of_getElem? (i := 11) rfl)) (hw _ (List.mem_of_getElem? (i := 12) rfl)) (hw _ (List.mem_of_getElem? (i := 13) rfl)) e0 (g := (mkF m 1 #[.val (.ref va)] [(.ref va)])) rfl (by rw [hml]; rfl) rfl (hb hby d2_1) (by decide) (W := 0) (by show 2 * 0 + _ ≤ _; exact Nat.le_of_eq rfl) (by decide)
  obtain ⟨fs, hr, hrun, hended, hW, hsame⟩ := X1.leave (v := none) (fun _ => rfl)
  refine ⟨_, _, pre0 _ ?_, hrun, hended, _, _, rfl, ?_, ⟨_, rfl⟩, hW, hsame.mono (by decide) (by decide)⟩
  · show Steps p.tables e below (s₁.setTop (mkF m 0 #[.val (.ref va)] [])) _
    refine XS.aloadN X0.here hx rfl (hb hby d2_0) rfl rfl ?_
    show Steps p.tables e below (s₁.setTop (mkF m 1 #[.val (.ref va)] [(.ref va)])) _
    refine st1 _ ?_
    show Steps p.tables e below (T1.setTop (mkF m 4 #[.val (.ref va)] [])) _
    exact X1.returnOut hx Bd.returns (hb hby d2_4) hr
  · show Q_rec Z va h0 n0 _ T1.heap _
    rw [e1]
    exact ⟨rfl, N0, rfl⟩
theorem d1_0 : decode prog_27_method_1_code 0 = .ok (.aload_n 0, 1) := by decide +kernel
theorem d1_1 : decode prog_27_method_1_code 1 = .ok (.invokespecial 1, 3) := by decide +kernel
theorem d1_4 : decode prog_27_method_1_code 4 = .ok (.aload_n 0, 1) := by decide +kernel
theorem d1_5 : decode prog_27_method_1_code 5 = .ok (.iload_n 1, 1) := by decide +kernel
theorem d1_6 : decode prog_27_method_1_code 6 = .ok (.putfield 7, 3) := by decide +kernel
theorem d1_9 : decode prog_27_method_1_code 9 = .ok (.aload_n 0, 1) := by decide +kernel
theorem d1_10 : decode prog_27_method_1_code 10 = .ok (.iload_n 2, 1) := by decide +kernel
theorem d1_11 : decode prog_27_method_1_code 11 = .ok (.putfield 13, 3) := by decide +kernel
theorem d1_14 : decode prog_27_method_1_code 14 = .ok (.aload_n 0, 1) := by decide +kernel
theorem d1_15 : decode prog_27_method_1_code 15 = .ok (.iload_n 3, 1) := by decide +kernel
theorem d1_16 : decode prog_27_method_1_code 16 = .ok (.putfield 16, 3) := by decide +kernel
theorem d1_19 : decode prog_27_method_1_code 19 = .ok (.aload_n 0, 1) := by decide +kernel
theorem d1_20 : decode prog_27_method_1_code 20 = .ok (.iload 4, 2) := by decide +kernel
theorem d1_22 : decode prog_27_method_1_code 22 = .ok (.putfield 20, 3) := by decide +kernel
theorem d1_25 : decode prog_27_method_1_code 25 = .ok (.return_, 1) := by decide +kernel
theorem pn_rm_in : plainName "com/example/adhoc/adhoc/submission/Layout$OneHigh" = true := by first | (simp [plainName, overriddenIn]; done) | decide +kernel
theorem ef_rm_in (m : MethodId) (va : Addr) (vr : Int32) (vt : Int32) (vs : Int32) (vf : Int32) : entryFrame m #[(.ref va), (.int vr), (.int vt), (.int vs), (.int vf)] 5 = mkF m 0 #[.val (.ref va), .val (.int vr), .val (.int vt), .val (.int vs), .val (.int vf)] [] := by first | (simp [entryFrame, mkF, argsToLocals, Value.category]; done) | rfl
def Q_in (Z : State) (va : Addr) (vr : Int32) (vt : Int32) (vs : Int32) (vf : Int32) (h0 : Heap) (n0 : Nat) (v : Option Value) (h : Heap) (L : List Loc) : Prop := v = none ∧ Fr n0 L ∧ Keep h0 h [va] ∧ Exa Z h va "com/example/adhoc/adhoc/submission/Layout$OneHigh" ∧ Fld Z h va "com/example/adhoc/adhoc/submission/Layout$OneHigh" "run" "I" (.int vr) ∧ Fld Z h va "com/example/adhoc/adhoc/submission/Layout$OneHigh" "stretch" "I" (.int vt) ∧ Fld Z h va "com/example/adhoc/adhoc/submission/Layout$OneHigh" "showing" "Z" (.int vs) ∧ Fld Z h va "com/example/adhoc/adhoc/submission/Layout$OneHigh" "firstOfTopic" "Z" (.int vf)
set_option maxRecDepth 65536 in
set_option maxHeartbeats 40000000 in
theorem rm_in (l : Launch) (Z : State) (a0 : Array Value) (hw : ∀ d ∈ tables_1, d.before a0 Z = true) (ws : List Jvm.Cond) (va : Addr) (vr : Int32) (vt : Int32) (vs : Int32) (vf : Int32) (h0 : Heap) (n0 : Nat) (Z0 : n0 ≤ h0.size) (E_va : Exa Z h0 va "com/example/adhoc/adhoc/submission/Layout$OneHigh") (g_va : n0 ≤ va) (F_run : Fld Z h0 va "com/example/adhoc/adhoc/submission/Layout$OneHigh" "run" "I" (.int (0 : Int32))) (F_stretch : Fld Z h0 va "com/example/adhoc/adhoc/submission/Layout$OneHigh" "stretch" "I" (.int (0 : Int32))) (F_showing : Fld Z h0 va "com/example/adhoc/adhoc/submission/Layout$OneHigh" "showing" "Z" (.int (0 : Int32))) (F_firstOfTopic : Fld Z h0 va "com/example/adhoc/adhoc/submission/Layout$OneHigh" "firstOfTopic" "Z" (.int (0 : Int32))) (hs : vs = 0 ∨ vs = 1) (hf : vf = 0 ∨ vf = 1) :
    MetFree l (⟨"com/example/adhoc/adhoc/submission/Layout$OneHigh", "<init>", "(IIZZ)V"⟩ : MethodName) (head1 (Jvm.Cond.code (⟨"com/example/adhoc/adhoc/submission/Layout$OneHigh", "<init>", "(IIZZ)V"⟩ : MethodName) prog_27_method_1_code 5 none :: ws) ({ frames := 2, cells := 0, slots := 0, locals := 24 } : Room)) (fun a U => a = #[(.ref va), (.int vr), (.int vt), (.int vs), (.int vf)] ∧ Z.Warmed39 U.vm ∧ U.heap = h0) (fun _ _ _ _ _ => True) (fun _ U o U' => ∃ v L, o = .returned v ∧ Q_in Z va vr vt vs vf h0 n0 v U'.heap L ∧ FrameEnd U o U' L ({ frames := 2, cells := 0, slots := 0, locals := 24 } : Room).cells ({ frames := 2, cells := 0, slots := 0, locals := 24 } : Room).slots) := by
  refine MetFree.of_bodySF (plainFor_of_name pn_rm_in) hisR ?_
  intro p e s m args below meth c s₁ Bd hml0 hP hK
  obtain ⟨rfl, hZ, hh⟩ := hP
  have hx := Bd.exec
  have hby := Bd.bytes
  have hml : c.maxLocals = 5 := hml0
  have hown : s.vm.findClass "com/example/adhoc/adhoc/submission/Layout$OneHigh" = some m.cls := findClass_of_methodNamed Bd.named
  have hnm := (name_of_methodNamed Bd.named Bd.method).1
  have X0 : Stand p l e ({ frames := 2, cells := 0, slots := 0, locals := 24 } : Room) s m #[(.ref va), (.int vr), (.int vt), (.int vs), (.int vf)] below meth c s₁ [] 0 0 := Stand.of_body Bd
  have e0 : s₁.heap = h0 := by rw [← hh, Bd.state]; rfl
  have N0 := Fr.nil n0
  have pre0 : ∀ t, Steps p.tables e below (s₁.setTop (mkF m 0 #[.val (.ref va), .val (.int vr), .val (.int vt), .val (.int vs), .val (.int vf)] [])) t → Steps p.tables e below (s₁.setTop (entryFrame m #[(.ref va), (.int vr), (.int vt), (.int vs), (.int vf)] 5)) t := fun t k => castTop (ef_rm_in m va vr vt vs vf) k
  obtain ⟨_, _, ⟨T1, L1, k1, n1⟩, -, X1, ⟨Lc1, hQ1, l1, y1, z1⟩, st1⟩ := X0.specialBack hx (y := (⟨"java/lang/Record", "<init>", "()V"⟩ : MethodName)) rfl hown (mvT hZ (hw _ (List.mem_of_getElem? (i := 6) rfl))) (mvT hZ (hw _ (List.mem_of_getElem? (i := 7) rfl))) (mvT hZ (hw _ (List.mem_of_getElem? (i := 10) rfl))) (by decide) (backOf (W := 0) (rm_rec l Z a0 hw [] va h0 n0 Z0 ) hZ (hw _ (List.mem_of_getElem? (i := 10) rfl)) (hw _ (List.mem_of_getElem? (i := 9) rfl)) (by decide) (by decide)) (g := (mkF m 1 #[.val (.ref va), .val (.int vr), .val (.int vt), .val (.int vs), .val (.int vf)] [(.ref va)])) rfl (by rw [hml]; rfl) (Steps.refl _) (a := va) (argsL := []) (rest := []) (lenOf own_pd0 rfl) rfl (by show 2 * 0 + _ ≤ _; exact Nat.le_of_eq rfl) (hb hby d1_1) (fun _ _ => ⟨rfl, e0, (by decide : 0 + 0 ≤ _), (by decide : 0 + 0 ≤ _)⟩)
  dsimp only [Pt.U, Pt.locs, Pt.cells, Pt.slots] at X1 l1 y1 z1 st1 hQ1
  subst l1 y1 z1
  obtain ⟨rfl, Nq1, hh1⟩ := hQ1
  have Nf1 := Fr.app N0 Nq1
  obtain ⟨T2, h2, X2, e2, W2, st2⟩ := putF X1 hx hZ hown (host := "") (Or.inl (hw _ (List.mem_of_getElem? (i := 14) rfl))) Via.refl hh1 F_run E_va (Or.inr ⟨(hw _ (List.mem_of_getElem? (i := 15) rfl)), rfl, hnm⟩) (hw _ (List.mem_of_getElem? (i := 1) rfl)) (ty := .int) (by decide) rfl rfl (g := (mkF m 6 #[.val (.ref va), .val (.int vr), .val (.int vt), .val (.int vs), .val (.int vf)] [(.int vr), (.ref va)])) rfl rfl (hb hby d1_6)
  have N2 := Fr.snoc X2 Nf1 g_va
  have Fw2 := Fld.same W2 F_run
  have Zp3 : n0 ≤ h2.size := Nat.le_trans Z0 (Nat.le_of_eq (Wr.size W2).symm)
  have Fc4 := (Fld.other W2 F_stretch (Or.inr (slot_ne (Or.inr (hw _ (List.mem_of_getElem? (i := 17) rfl))) (Or.inr (hw _ (List.mem_of_getElem? (i := 15) rfl))) (by decide) (t := .int) (t' := .int) (by decide) (by decide))))
  have Fc5 := (Exa.wr W2 E_va)
  obtain ⟨T6, h6, X6, e6, W6, st6⟩ := putF X2 hx hZ hown (host := "") (Or.inl (hw _ (List.mem_of_getElem? (i := 16) rfl))) Via.refl e2 Fc4 Fc5 (Or.inr ⟨(hw _ (List.mem_of_getElem? (i := 17) rfl)), rfl, hnm⟩) (hw _ (List.mem_of_getElem? (i := 1) rfl)) (ty := .int) (by decide) rfl rfl (g := (mkF m 11 #[.val (.ref va), .val (.int vr), .val (.int vt), .val (.int vs), .val (.int vf)] [(.int vt), (.ref va)])) rfl rfl (hb hby d1_11)
  have N6 := Fr.snoc X6 N2 g_va
  have Fw6 := Fld.same W6 Fc4
  have Zp7 : n0 ≤ h6.size := Nat.le_trans Zp3 (Nat.le_of_eq (Wr.size W6).symm)
  have Fc8 := (Fld.other W6 (Fld.other W2 F_showing (Or.inr (slot_ne (Or.inr (hw _ (List.mem_of_getElem? (i := 19) rfl))) (Or.inr (hw _ (List.mem_of_getElem? (i := 15) rfl))) (by decide) (t := .boolean) (t' := .int) (by decide) (by decide)))) (Or.inr (slot_ne (Or.inr (hw _ (List.mem_of_getElem? (i := 19) rfl))) (Or.inr (hw _ (List.mem_of_getElem? (i := 17) rfl))) (by decide) (t := .boolean) (t' := .int) (by decide) (by decide))))
  have Fc9 := (Exa.wr W6 Fc5)
  obtain ⟨T10, h10, X10, e10, W10, st10⟩ := putFN X6 hx hZ hown (hw _ (List.mem_of_getElem? (i := 18) rfl)) Via.refl e6 Fc8 Fc9 (Or.inr ⟨(hw _ (List.mem_of_getElem? (i := 19) rfl)), rfl, hnm⟩) (hw _ (List.mem_of_getElem? (i := 1) rfl)) (ty := .boolean) (v' := (.int vs)) (by decide) (own_nar hs) (own_fit hs) (g := (mkF m 16 #[.val (.ref va), .val (.int vr), .val (.int vt), .val (.int vs), .val (.int vf)] [(.int vs), (.ref va)])) rfl rfl (hb hby d1_16)
  have N10 := Fr.snoc X10 N6 g_va
  have Fw10 := Fld.same W10 Fc8
  have Zp11 : n0 ≤ h10.size := Nat.le_trans Zp7 (Nat.le_of_eq (Wr.size W10).symm)
  have Fc12 := (Fld.other W10 (Fld.other W6 (Fld.other W2 F_firstOfTopic (Or.inr (slot_ne (Or.inr (hw _ (List.mem_of_getElem? (i := 21) rfl))) (Or.inr (hw _ (List.mem_of_getElem? (i := 15) rfl))) (by decide) (t := .boolean) (t' := .int) (by decide) (by decide)))) (Or.inr (slot_ne (Or.inr (hw _ (List.mem_of_getElem? (i := 21) rfl))) (Or.inr (hw _ (List.mem_of_getElem? (i := 17) rfl))) (by decide) (t := .boolean) (t' := .int) (by decide) (by decide)))) (Or.inr (slot_ne (Or.inr (hw _ (List.mem_of_getElem? (i := 21) rfl))) (Or.inr (hw _ (List.mem_of_getElem? (i := 19) rfl))) (by decide) (t := .boolean) (t' := .boolean) (by decide) (by decide))))
  have Fc13 := (Exa.wr W10 Fc9)
  obtain ⟨T14, h14, X14, e14, W14, st14⟩ := putFN X10 hx hZ hown (hw _ (List.mem_of_getElem? (i := 20) rfl)) Via.refl e10 Fc12 Fc13 (Or.inr ⟨(hw _ (List.mem_of_getElem? (i := 21) rfl)), rfl, hnm⟩) (hw _ (List.mem_of_getElem? (i := 1) rfl)) (ty := .boolean) (v' := (.int vf)) (by decide) (own_nar hf) (own_fit hf) (g := (mkF m 22 #[.val (.ref va), .val (.int vr), .val (.int vt), .val (.int vs), .val (.int vf)] [(.int vf), (.ref va)])) rfl rfl (hb hby d1_22)
  have N14 := Fr.snoc X14 N10 g_va
  have Fw14 := Fld.same W14 Fc12
  have Zp15 : n0 ≤ h14.size := Nat.le_trans Zp11 (Nat.le_of_eq (Wr.size W14).symm)
  obtain ⟨fs, hr, hrun, hended, hW, hsame⟩ := X14.leave (v := none) (fun _ => rfl)
  refine ⟨_, _, pre0 _ ?_, hrun, hended, _, _, rfl, ?_, ⟨_, rfl⟩, hW, hsame.mono (by decide) (by decide)⟩
  · show Steps p.tables e below (s₁.setTop (mkF m 0 #[.val (.ref va), .val (.int vr), .val (.int vt), .val (.int vs), .val (.int vf)] [])) _
    refine XS.aloadN X0.here hx rfl (hb hby d1_0) rfl rfl ?_
    show Steps p.tables e below (s₁.setTop (mkF m 1 #[.val (.ref va), .val (.int vr), .val (.int vt), .val (.int vs), .val (.int vf)] [(.ref va)])) _
    refine st1.trans ?_
    show Steps p.tables e below (T1.setTop (mkF m 4 #[.val (.ref va), .val (.int vr), .val (.int vt), .val (.int vs), .val (.int vf)] [])) _
    refine XS.aloadN X1.here hx rfl (hb hby d1_4) rfl rfl ?_
    show Steps p.tables e below (T1.setTop (mkF m 5 #[.val (.ref va), .val (.int vr), .val (.int vt), .val (.int vs), .val (.int vf)] [(.ref va)])) _
    refine XS.iloadN X1.here hx rfl (hb hby d1_5) rfl ?_
    show Steps p.tables e below (T1.setTop (mkF m 6 #[.val (.ref va), .val (.int vr), .val (.int vt), .val (.int vs), .val (.int vf)] [(.int vr), (.ref va)])) _
    refine st2 _ ?_
    show Steps p.tables e below (T2.setTop (mkF m 9 #[.val (.ref va), .val (.int vr), .val (.int vt), .val (.int vs), .val (.int vf)] [])) _
    refine XS.aloadN X2.here hx rfl (hb hby d1_9) rfl rfl ?_
    show Steps p.tables e below (T2.setTop (mkF m 10 #[.val (.ref va), .val (.int vr), .val (.int vt), .val (.int vs), .val (.int vf)] [(.ref va)])) _
    refine XS.iloadN X2.here hx rfl (hb hby d1_10) rfl ?_
    show Steps p.tables e below (T2.setTop (mkF m 11 #[.val (.ref va), .val (.int vr), .val (.int vt), .val (.int vs), .val (.int vf)] [(.int vt), (.ref va)])) _
    refine st6 _ ?_
    show Steps p.tables e below (T6.setTop (mkF m 14 #[.val (.ref va), .val (.int vr), .val (.int vt), .val (.int vs), .val (.int vf)] [])) _
    refine XS.aloadN X6.here hx rfl (hb hby d1_14) rfl rfl ?_
    show Steps p.tables e below (T6.setTop (mkF m 15 #[.val (.ref va), .val (.int vr), .val (.int vt), .val (.int vs), .val (.int vf)] [(.ref va)])) _
    refine XS.iloadN X6.here hx rfl (hb hby d1_15) rfl ?_
    show Steps p.tables e below (T6.setTop (mkF m 16 #[.val (.ref va), .val (.int vr), .val (.int vt), .val (.int vs), .val (.int vf)] [(.int vs), (.ref va)])) _
    refine st10 _ ?_
    show Steps p.tables e below (T10.setTop (mkF m 19 #[.val (.ref va), .val (.int vr), .val (.int vt), .val (.int vs), .val (.int vf)] [])) _
    refine XS.aloadN X10.here hx rfl (hb hby d1_19) rfl rfl ?_
    show Steps p.tables e below (T10.setTop (mkF m 20 #[.val (.ref va), .val (.int vr), .val (.int vt), .val (.int vs), .val (.int vf)] [(.ref va)])) _
    refine XS.iload X10.here hx rfl (hb hby d1_20) rfl ?_
    show Steps p.tables e below (T10.setTop (mkF m 22 #[.val (.ref va), .val (.int vr), .val (.int vt), .val (.int vs), .val (.int vf)] [(.int vf), (.ref va)])) _
    refine st14 _ ?_
    show Steps p.tables e below (T14.setTop (mkF m 25 #[.val (.ref va), .val (.int vr), .val (.int vt), .val (.int vs), .val (.int vf)] [])) _
    exact X14.returnOut hx Bd.returns (hb hby d1_25) hr
  · show Q_in Z va vr vt vs vf h0 n0 _ T14.heap _
    rw [e14]
    have Kc16 := (Keep.refl h0 [va]).wr W2 (Or.inl (List.mem_of_getElem? (i := 0) rfl))
    have Kc17 := Kc16.wr W6 (Or.inl (List.mem_of_getElem? (i := 0) rfl))
    have Kc18 := Kc17.wr W10 (Or.inl (List.mem_of_getElem? (i := 0) rfl))
    have Kc19 := Kc18.wr W14 (Or.inl (List.mem_of_getElem? (i := 0) rfl))
    have Fc20 := (Exa.wr W14 Fc13)
    have Fc21 := (Fld.other W14 (Fld.other W10 (Fld.other W6 Fw2 (Or.inr (slot_ne (Or.inr (hw _ (List.mem_of_getElem? (i := 15) rfl))) (Or.inr (hw _ (List.mem_of_getElem? (i := 17) rfl))) (by decide) (t := .int) (t' := .int) (by decide) (by decide)))) (Or.inr (slot_ne (Or.inr (hw _ (List.mem_of_getElem? (i := 15) rfl))) (Or.inr (hw _ (List.mem_of_getElem? (i := 19) rfl))) (by decide) (t := .int) (t' := .boolean) (by decide) (by decide)))) (Or.inr (slot_ne (Or.inr (hw _ (List.mem_of_getElem? (i := 15) rfl))) (Or.inr (hw _ (List.mem_of_getElem? (i := 21) rfl))) (by decide) (t := .int) (t' := .boolean) (by decide) (by decide))))
    have Fc22 := (Fld.other W14 (Fld.other W10 Fw6 (Or.inr (slot_ne (Or.inr (hw _ (List.mem_of_getElem? (i := 17) rfl))) (Or.inr (hw _ (List.mem_of_getElem? (i := 19) rfl))) (by decide) (t := .int) (t' := .boolean) (by decide) (by decide)))) (Or.inr (slot_ne (Or.inr (hw _ (List.mem_of_getElem? (i := 17) rfl))) (Or.inr (hw _ (List.mem_of_getElem? (i := 21) rfl))) (by decide) (t := .int) (t' := .boolean) (by decide) (by decide))))
    have Fc23 := (Fld.other W14 Fw10 (Or.inr (slot_ne (Or.inr (hw _ (List.mem_of_getElem? (i := 19) rfl))) (Or.inr (hw _ (List.mem_of_getElem? (i := 21) rfl))) (by decide) (t := .boolean) (t' := .boolean) (by decide) (by decide))))
    exact ⟨rfl, N14, Kc19, Fc20, Fc21, Fc22, Fc23, Fw14⟩
theorem d4_0 : decode prog_27_method_2_code 0 = .ok (.aload_n 0, 1) := by decide +kernel
theorem d4_1 : decode prog_27_method_2_code 1 = .ok (.getfield 16, 3) := by decide +kernel
theorem d4_4 : decode prog_27_method_2_code 4 = .ok (.ifCond .eq 10, 3) := by decide +kernel
theorem d4_7 : decode prog_27_method_2_code 7 = .ok (.aload_n 0, 1) := by decide +kernel
theorem d4_8 : decode prog_27_method_2_code 8 = .ok (.getfield 13, 3) := by decide +kernel
theorem d4_11 : decode prog_27_method_2_code 11 = .ok (.goto 4, 3) := by decide +kernel
theorem d4_14 : decode prog_27_method_2_code 14 = .ok (.iconst 0, 1) := by decide +kernel
theorem d4_15 : decode prog_27_method_2_code 15 = .ok (.ireturn, 1) := by decide +kernel
theorem pn_rm_sh : plainName "com/example/adhoc/adhoc/submission/Layout$OneHigh" = true := by first | (simp [plainName, overriddenIn]; done) | decide +kernel
theorem ef_rm_sh (m : MethodId) (va : Addr) : entryFrame m #[(.ref va)] 1 = mkF m 0 #[.val (.ref va)] [] := by first | (simp [entryFrame, mkF, argsToLocals, Value.category]; done) | rfl
def Q_sh (Z : State) (va : Addr) (vr : Int32) (vt : Int32) (vs : Int32) (vf : Int32) (h0 : Heap) (n0 : Nat) (v : Option Value) (h : Heap) (L : List Loc) : Prop := v = some (.int (if vs = 0 then 0 else vt)) ∧ Fr n0 L ∧ h = h0
set_option maxRecDepth 65536 in
set_option maxHeartbeats 40000000 in
theorem rm_sh (l : Launch) (Z : State) (a0 : Array Value) (hw : ∀ d ∈ tables_1, d.before a0 Z = true) (ws : List Jvm.Cond) (va : Addr) (vr : Int32) (vt : Int32) (vs : Int32) (vf : Int32) (h0 : Heap) (n0 : Nat) (Z0 : n0 ≤ h0.size) (F_run : Fld Z h0 va "com/example/adhoc/adhoc/submission/Layout$OneHigh" "run" "I" (.int vr)) (F_stretch : Fld Z h0 va "com/example/adhoc/adhoc/submission/Layout$OneHigh" "stretch" "I" (.int vt)) (F_showing : Fld Z h0 va "com/example/adhoc/adhoc/submission/Layout$OneHigh" "showing" "Z" (.int vs)) (F_firstOfTopic : Fld Z h0 va "com/example/adhoc/adhoc/submission/Layout$OneHigh" "firstOfTopic" "Z" (.int vf)) :
    MetFree l (⟨"com/example/adhoc/adhoc/submission/Layout$OneHigh", "shown", "()I"⟩ : MethodName) (head1 (Jvm.Cond.code (⟨"com/example/adhoc/adhoc/submission/Layout$OneHigh", "shown", "()I"⟩ : MethodName) prog_27_method_2_code 1 (some .int) :: ws) ({ frames := 0, cells := 0, slots := 0, locals := 0 } : Room)) (fun a U => a = #[(.ref va)] ∧ Z.Warmed39 U.vm ∧ U.heap = h0) (fun _ _ _ _ _ => True) (fun _ U o U' => ∃ v L, o = .returned v ∧ Q_sh Z va vr vt vs vf h0 n0 v U'.heap L ∧ FrameEnd U o U' L ({ frames := 0, cells := 0, slots := 0, locals := 0 } : Room).cells ({ frames := 0, cells := 0, slots := 0, locals := 0 } : Room).slots) := by
  refine MetFree.of_bodySF (plainFor_of_name pn_rm_sh) hisR ?_
  intro p e s m args below meth c s₁ Bd hml0 hP hK
  obtain ⟨rfl, hZ, hh⟩ := hP
  have hx := Bd.exec
  have hby := Bd.bytes
  have hml : c.maxLocals = 1 := hml0
  have hown : s.vm.findClass "com/example/adhoc/adhoc/submission/Layout$OneHigh" = some m.cls := findClass_of_methodNamed Bd.named
  have hnm := (name_of_methodNamed Bd.named Bd.method).1
  have X0 : Stand p l e ({ frames := 0, cells := 0, slots := 0, locals := 0 } : Room) s m #[(.ref va)] below meth c s₁ [] 0 0 := Stand.of_body Bd
  have e0 : s₁.heap = h0 := by rw [← hh, Bd.state]; rfl
  have N0 := Fr.nil n0
  have pre0 : ∀ t, Steps p.tables e below (s₁.setTop (mkF m 0 #[.val (.ref va)] [])) t → Steps p.tables e below (s₁.setTop (entryFrame m #[(.ref va)] 1)) t := fun t k => castTop (ef_rm_sh m va) k
  obtain ⟨T1, X1, e1, st1⟩ := getF X0 hx hZ hown (host := "") (Or.inl (hw _ (List.mem_of_getElem? (i := 18) rfl))) Via.refl e0 F_showing (g := (mkF m 1 #[.val (.ref va)] [(.ref va)])) rfl rfl (hb hby d4_1)
  have pre2 : ∀ t, Steps p.tables e below (T1.setTop (mkF m 4 #[.val (.ref va)] [(.int vs)])) t → Steps p.tables e below (s₁.setTop (entryFrame m #[(.ref va)] 1)) t := by
    intro t k
    refine pre0 t ?_
    show Steps p.tables e below (s₁.setTop (mkF m 0 #[.val (.ref va)] [])) _
    refine XS.aloadN X0.here hx rfl (hb hby d4_0) rfl rfl ?_
    show Steps p.tables e below (s₁.setTop (mkF m 1 #[.val (.ref va)] [(.ref va)])) _
    refine st1 _ ?_
    show Steps p.tables e below (T1.setTop (mkF m 4 #[.val (.ref va)] [(.int vs)])) _
    exact k
  by_cases hc3 : vs = (0 : Int32)
  · obtain ⟨fs, hr, hrun, hended, hW, hsame⟩ := X1.leave (v := some (.int (0 : Int32))) (fun h => by rw [Bd.returns] at h; cases h)
    refine ⟨_, _, pre2 _ ?_, hrun, hended, _, _, rfl, ?_, ⟨_, rfl⟩, hW, hsame.mono (by decide) (by decide)⟩
    · show Steps p.tables e below (T1.setTop (mkF m 4 #[.val (.ref va)] [(.int vs)])) _
      refine XS.ifYes X1.here hx rfl (pc0 := 4) (pc' := 14) rfl (hb hby d4_4) rfl ((if0 _ _).trans (teq hc3).1) (by decide) (by decide) ?_
      show Steps p.tables e below (T1.setTop (mkF m 14 #[.val (.ref va)] [])) _
      refine XS.iconst X1.here hx rfl (hb hby d4_14) ?_
      show Steps p.tables e below (T1.setTop (mkF m 15 #[.val (.ref va)] [(.int (0 : Int32))])) _
      exact retI X1 hx Bd.returns (hb hby d4_15) hr
    · show Q_sh Z va vr vt vs vf h0 n0 _ T1.heap _
      rw [e1]
      exact ⟨by rw [if_pos hc3], N0, rfl⟩
  · obtain ⟨T4, X4, e4, st4⟩ := getF X1 hx hZ hown (host := "") (Or.inl (hw _ (List.mem_of_getElem? (i := 16) rfl))) Via.refl e1 F_stretch (g := (mkF m 8 #[.val (.ref va)] [(.ref va)])) rfl rfl (hb hby d4_8)
    obtain ⟨fs, hr, hrun, hended, hW, hsame⟩ := X4.leave (v := some (.int vt)) (fun h => by rw [Bd.returns] at h; cases h)
    refine ⟨_, _, pre2 _ ?_, hrun, hended, _, _, rfl, ?_, ⟨_, rfl⟩, hW, hsame.mono (by decide) (by decide)⟩
    · show Steps p.tables e below (T1.setTop (mkF m 4 #[.val (.ref va)] [(.int vs)])) _
      refine XS.ifNo X1.here hx rfl (hb hby d4_4) rfl ((if0 _ _).trans (feq hc3).1) ?_
      show Steps p.tables e below (T1.setTop (mkF m 7 #[.val (.ref va)] [])) _
      refine XS.aloadN X1.here hx rfl (hb hby d4_7) rfl rfl ?_
      show Steps p.tables e below (T1.setTop (mkF m 8 #[.val (.ref va)] [(.ref va)])) _
      refine st4 _ ?_
      show Steps p.tables e below (T4.setTop (mkF m 11 #[.val (.ref va)] [(.int vt)])) _
      refine XS.goto X4.here hx rfl (pc0 := 11) (pc' := 15) rfl (hb hby d4_11) (by decide) (by decide) ?_
      show Steps p.tables e below (T4.setTop (mkF m 15 #[.val (.ref va)] [(.int vt)])) _
      exact retI X4 hx Bd.returns (hb hby d4_15) hr
    · show Q_sh Z va vr vt vs vf h0 n0 _ T4.heap _
      rw [e4]
      exact ⟨by rw [if_neg hc3], N0, rfl⟩
theorem d5_0 : decode prog_27_method_3_code 0 = .ok (.new 8, 3) := by decide +kernel
theorem d5_3 : decode prog_27_method_3_code 3 = .ok (.dup, 1) := by decide +kernel
theorem d5_4 : decode prog_27_method_3_code 4 = .ok (.aload_n 0, 1) := by decide +kernel
theorem d5_5 : decode prog_27_method_3_code 5 = .ok (.getfield 7, 3) := by decide +kernel
theorem d5_8 : decode prog_27_method_3_code 8 = .ok (.iconst 1, 1) := by decide +kernel
theorem d5_9 : decode prog_27_method_3_code 9 = .ok (.iadd, 1) := by decide +kernel
theorem d5_10 : decode prog_27_method_3_code 10 = .ok (.aload_n 0, 1) := by decide +kernel
theorem d5_11 : decode prog_27_method_3_code 11 = .ok (.getfield 13, 3) := by decide +kernel
theorem d5_14 : decode prog_27_method_3_code 14 = .ok (.iconst 1, 1) := by decide +kernel
theorem d5_15 : decode prog_27_method_3_code 15 = .ok (.iadd, 1) := by decide +kernel
theorem d5_16 : decode prog_27_method_3_code 16 = .ok (.aload_n 0, 1) := by decide +kernel
theorem d5_17 : decode prog_27_method_3_code 17 = .ok (.getfield 16, 3) := by decide +kernel
theorem d5_20 : decode prog_27_method_3_code 20 = .ok (.aload_n 0, 1) := by decide +kernel
theorem d5_21 : decode prog_27_method_3_code 21 = .ok (.getfield 20, 3) := by decide +kernel
theorem d5_24 : decode prog_27_method_3_code 24 = .ok (.invokespecial 23, 3) := by decide +kernel
theorem d5_27 : decode prog_27_method_3_code 27 = .ok (.areturn, 1) := by decide +kernel
theorem pn_rm_pa : plainName "com/example/adhoc/adhoc/submission/Layout$OneHigh" = true := by first | (simp [plainName, overriddenIn]; done) | decide +kernel
theorem ef_rm_pa (m : MethodId) (va : Addr) : entryFrame m #[(.ref va)] 1 = mkF m 0 #[.val (.ref va)] [] := by first | (simp [entryFrame, mkF, argsToLocals, Value.category]; done) | rfl
def Q_pa (Z : State) (va : Addr) (vr : Int32) (vt : Int32) (vs : Int32) (vf : Int32) (h0 : Heap) (n0 : Nat) (v : Option Value) (h : Heap) (L : List Loc) : Prop := ∃ b : Addr, v = some (.ref b) ∧ Fr n0 L ∧ Keep h0 h [] ∧ n0 ≤ b ∧ h0.size ≤ b ∧ Exa Z h b "com/example/adhoc/adhoc/submission/Layout$OneHigh" ∧ Fld Z h b "com/example/adhoc/adhoc/submission/Layout$OneHigh" "run" "I" (.int (vr + (1 : Int32))) ∧ Fld Z h b "com/example/adhoc/adhoc/submission/Layout$OneHigh" "stretch" "I" (.int (vt + (1 : Int32))) ∧ Fld Z h b "com/example/adhoc/adhoc/submission/Layout$OneHigh" "showing" "Z" (.int vs) ∧ Fld Z h b "com/example/adhoc/adhoc/submission/Layout$OneHigh" "firstOfTopic" "Z" (.int vf)
set_option maxRecDepth 65536 in
set_option maxHeartbeats 40000000 in
theorem rm_pa (l : Launch) (Z : State) (a0 : Array Value) (hw : ∀ d ∈ tables_1, d.before a0 Z = true) (ws : List Jvm.Cond) (va : Addr) (vr : Int32) (vt : Int32) (vs : Int32) (vf : Int32) (h0 : Heap) (n0 : Nat) (Z0 : n0 ≤ h0.size) (F_run : Fld Z h0 va "com/example/adhoc/adhoc/submission/Layout$OneHigh" "run" "I" (.int vr)) (F_stretch : Fld Z h0 va "com/example/adhoc/adhoc/submission/Layout$OneHigh" "stretch" "I" (.int vt)) (F_showing : Fld Z h0 va "com/example/adhoc/adhoc/submission/Layout$OneHigh" "showing" "Z" (.int vs)) (F_firstOfTopic : Fld Z h0 va "com/example/adhoc/adhoc/submission/Layout$OneHigh" "firstOfTopic" "Z" (.int vf)) (hs : vs = 0 ∨ vs = 1) (hf : vf = 0 ∨ vf = 1) :
    MetFree l (⟨"com/example/adhoc/adhoc/submission/Layout$OneHigh", "passed", "()Lcom/example/adhoc/adhoc/submission/Layout$OneHigh;"⟩ : MethodName) (head1 (Jvm.Cond.code (⟨"com/example/adhoc/adhoc/submission/Layout$OneHigh", "passed", "()Lcom/example/adhoc/adhoc/submission/Layout$OneHigh;"⟩ : MethodName) prog_27_method_3_code 1 (some (.object "com/example/adhoc/adhoc/submission/Layout$OneHigh")) :: ws) ({ frames := 3, cells := 1, slots := 4, locals := 41 } : Room)) (fun a U => a = #[(.ref va)] ∧ Z.Warmed39 U.vm ∧ U.heap = h0) (fun _ _ _ _ _ => True) (fun _ U o U' => ∃ v L, o = .returned v ∧ Q_pa Z va vr vt vs vf h0 n0 v U'.heap L ∧ FrameEnd U o U' L ({ frames := 3, cells := 1, slots := 4, locals := 41 } : Room).cells ({ frames := 3, cells := 1, slots := 4, locals := 41 } : Room).slots) := by
  refine MetFree.of_bodySF (plainFor_of_name pn_rm_pa) hisR ?_
  intro p e s m args below meth c s₁ Bd hml0 hP hK
  obtain ⟨rfl, hZ, hh⟩ := hP
  have hx := Bd.exec
  have hby := Bd.bytes
  have hml : c.maxLocals = 1 := hml0
  have hown : s.vm.findClass "com/example/adhoc/adhoc/submission/Layout$OneHigh" = some m.cls := findClass_of_methodNamed Bd.named
  have hnm := (name_of_methodNamed Bd.named Bd.method).1
  have X0 : Stand p l e ({ frames := 3, cells := 1, slots := 4, locals := 41 } : Room) s m #[(.ref va)] below meth c s₁ [] 0 0 := Stand.of_body Bd
  have e0 : s₁.heap = h0 := by rw [← hh, Bd.state]; rfl
  have N0 := Fr.nil n0
  have pre0 : ∀ t, Steps p.tables e below (s₁.setTop (mkF m 0 #[.val (.ref va)] [])) t → Steps p.tables e below (s₁.setTop (entryFrame m #[(.ref va)] 1)) t := fun t k => castTop (ef_rm_pa m va) k
  obtain ⟨T1, h1, X1, e1, E1, A1, D1, U1, st1⟩ := newO X0 hx hZ hown (hw _ (List.mem_of_getElem? (i := 32) rfl)) (hw _ (List.mem_of_getElem? (i := 1) rfl)) (hw _ (List.mem_of_getElem? (i := 2) rfl)) e0 (g := (mkF m 0 #[.val (.ref va)] [])) rfl (hb hby d5_0) (by decide) (by decide)
  obtain ⟨b1, g1⟩ : ∃ z, z = h0.size := ⟨_, rfl⟩
  rw [← g1] at A1 D1 U1 st1
  have g_b1 : n0 ≤ b1 := Nat.le_trans Z0 (Nat.le_of_eq g1.symm)
  have Zp2 : n0 ≤ h1.size := Nat.le_trans Z0 E1.1
  have Fn3 : Fld Z h1 b1 "com/example/adhoc/adhoc/submission/Layout$OneHigh" "run" "I" (.int (0 : Int32)) := D1 (Or.inr (hw _ (List.mem_of_getElem? (i := 15) rfl))) (ty := .int) (by decide)
  have Fn4 : Fld Z h1 b1 "com/example/adhoc/adhoc/submission/Layout$OneHigh" "stretch" "I" (.int (0 : Int32)) := D1 (Or.inr (hw _ (List.mem_of_getElem? (i := 17) rfl))) (ty := .int) (by decide)
  have Fn5 : Fld Z h1 b1 "com/example/adhoc/adhoc/submission/Layout$OneHigh" "showing" "Z" (.int (0 : Int32)) := D1 (Or.inr (hw _ (List.mem_of_getElem? (i := 19) rfl))) (ty := .boolean) (by decide)
  have Fn6 : Fld Z h1 b1 "com/example/adhoc/adhoc/submission/Layout$OneHigh" "firstOfTopic" "Z" (.int (0 : Int32)) := D1 (Or.inr (hw _ (List.mem_of_getElem? (i := 21) rfl))) (ty := .boolean) (by decide)
  have sz_b1 : h0.size ≤ b1 := Nat.le_of_eq g1.symm
  have Fc7 := (Fld.ext E1 F_run)
  obtain ⟨T8, X8, e8, st8⟩ := getF X1 hx hZ hown (host := "") (Or.inl (hw _ (List.mem_of_getElem? (i := 14) rfl))) Via.refl e1 Fc7 (g := (mkF m 5 #[.val (.ref va)] [(.ref va), (.ref b1), (.ref b1)])) rfl rfl (hb hby d5_5)
  have Fc9 := (Fld.ext E1 F_stretch)
  obtain ⟨T10, X10, e10, st10⟩ := getF X8 hx hZ hown (host := "") (Or.inl (hw _ (List.mem_of_getElem? (i := 16) rfl))) Via.refl e8 Fc9 (g := (mkF m 11 #[.val (.ref va)] [(.ref va), (.int (vr + (1 : Int32))), (.ref b1), (.ref b1)])) rfl rfl (hb hby d5_11)
  have Fc11 := (Fld.ext E1 F_showing)
  obtain ⟨T12, X12, e12, st12⟩ := getF X10 hx hZ hown (host := "") (Or.inl (hw _ (List.mem_of_getElem? (i := 18) rfl))) Via.refl e10 Fc11 (g := (mkF m 17 #[.val (.ref va)] [(.ref va), (.int (vt + (1 : Int32))), (.int (vr + (1 : Int32))), (.ref b1), (.ref b1)])) rfl rfl (hb hby d5_17)
  have Fc13 := (Fld.ext E1 F_firstOfTopic)
  obtain ⟨T14, X14, e14, st14⟩ := getF X12 hx hZ hown (host := "") (Or.inl (hw _ (List.mem_of_getElem? (i := 20) rfl))) Via.refl e12 Fc13 (g := (mkF m 21 #[.val (.ref va)] [(.ref va), (.int vs), (.int (vt + (1 : Int32))), (.int (vr + (1 : Int32))), (.ref b1), (.ref b1)])) rfl rfl (hb hby d5_21)
  obtain ⟨_, _, ⟨T15, L15, k15, n15⟩, -, X15, ⟨Lc15, hQ15, l15, y15, z15⟩, st15⟩ := X14.specialBack hx (y := (⟨"com/example/adhoc/adhoc/submission/Layout$OneHigh", "<init>", "(IIZZ)V"⟩ : MethodName)) rfl hown (mvT hZ (hw _ (List.mem_of_getElem? (i := 33) rfl))) (mvT hZ (hw _ (List.mem_of_getElem? (i := 4) rfl))) (mvT hZ (hw _ (List.mem_of_getElem? (i := 5) rfl))) (by decide) (backOf (W := 1) (rm_in l Z a0 hw [] b1 (vr + (1 : Int32)) (vt + (1 : Int32)) vs vf h1 n0 Zp2 A1 g_b1 Fn3 Fn4 Fn5 Fn6 hs hf) hZ (hw _ (List.mem_of_getElem? (i := 5) rfl)) (hw _ (List.mem_of_getElem? (i := 2) rfl)) (by decide) (by decide)) (g := (mkF m 24 #[.val (.ref va)] [(.int vf), (.int vs), (.int (vt + (1 : Int32))), (.int (vr + (1 : Int32))), (.ref b1), (.ref b1)])) rfl (by rw [hml]; rfl) (Steps.refl _) (a := b1) (argsL := [(.int (vr + (1 : Int32))), (.int (vt + (1 : Int32))), (.int vs), (.int vf)]) (rest := [(.ref b1)]) (lenOf own_pd1 rfl) rfl (by show 2 * 0 + _ ≤ _; exact Nat.le_of_eq rfl) (hb hby d5_24) (fun _ _ => ⟨rfl, e14, (by decide : 1 + 0 ≤ _), (by decide : 4 + 0 ≤ _)⟩)
  dsimp only [Pt.U, Pt.locs, Pt.cells, Pt.slots] at X15 l15 y15 z15 st15 hQ15
  subst l15 y15 z15
  obtain ⟨rfl, Nq15, K15, Ex15, Fx15_0, Fx15_1, Fx15_2, Fx15_3⟩ := hQ15
  have Nf15 := Fr.app N0 Nq15
  have Zp16 : n0 ≤ T15.heap.size := Nat.le_trans Zp2 K15.1
  obtain ⟨fs, hr, hrun, hended, hW, hsame⟩ := X15.leave (v := some (.ref b1)) (fun h => by rw [Bd.returns] at h; cases h)
  refine ⟨_, _, pre0 _ ?_, hrun, hended, _, _, rfl, ?_, ⟨_, rfl⟩, hW, hsame.mono (by decide) (by decide)⟩
  · show Steps p.tables e below (s₁.setTop (mkF m 0 #[.val (.ref va)] [])) _
    refine st1 _ ?_
    show Steps p.tables e below (T1.setTop (mkF m 3 #[.val (.ref va)] [(.ref b1)])) _
    refine XS.dup X1.here hx rfl (hb hby d5_3) rfl rfl ?_
    show Steps p.tables e below (T1.setTop (mkF m 4 #[.val (.ref va)] [(.ref b1), (.ref b1)])) _
    refine XS.aloadN X1.here hx rfl (hb hby d5_4) rfl rfl ?_
    show Steps p.tables e below (T1.setTop (mkF m 5 #[.val (.ref va)] [(.ref va), (.ref b1), (.ref b1)])) _
    refine st8 _ ?_
    show Steps p.tables e below (T8.setTop (mkF m 8 #[.val (.ref va)] [(.int vr), (.ref b1), (.ref b1)])) _
    refine XS.iconst X8.here hx rfl (hb hby d5_8) ?_
    show Steps p.tables e below (T8.setTop (mkF m 9 #[.val (.ref va)] [(.int (1 : Int32)), (.int vr), (.ref b1), (.ref b1)])) _
    refine XS.iadd X8.here hx rfl (hb hby d5_9) rfl ?_
    show Steps p.tables e below (T8.setTop (mkF m 10 #[.val (.ref va)] [(.int (vr + (1 : Int32))), (.ref b1), (.ref b1)])) _
    refine XS.aloadN X8.here hx rfl (hb hby d5_10) rfl rfl ?_
    show Steps p.tables e below (T8.setTop (mkF m 11 #[.val (.ref va)] [(.ref va), (.int (vr + (1 : Int32))), (.ref b1), (.ref b1)])) _
    refine st10 _ ?_
    show Steps p.tables e below (T10.setTop (mkF m 14 #[.val (.ref va)] [(.int vt), (.int (vr + (1 : Int32))), (.ref b1), (.ref b1)])) _
    refine XS.iconst X10.here hx rfl (hb hby d5_14) ?_
    show Steps p.tables e below (T10.setTop (mkF m 15 #[.val (.ref va)] [(.int (1 : Int32)), (.int vt), (.int (vr + (1 : Int32))), (.ref b1), (.ref b1)])) _
    refine XS.iadd X10.here hx rfl (hb hby d5_15) rfl ?_
    show Steps p.tables e below (T10.setTop (mkF m 16 #[.val (.ref va)] [(.int (vt + (1 : Int32))), (.int (vr + (1 : Int32))), (.ref b1), (.ref b1)])) _
    refine XS.aloadN X10.here hx rfl (hb hby d5_16) rfl rfl ?_
    show Steps p.tables e below (T10.setTop (mkF m 17 #[.val (.ref va)] [(.ref va), (.int (vt + (1 : Int32))), (.int (vr + (1 : Int32))), (.ref b1), (.ref b1)])) _
    refine st12 _ ?_
    show Steps p.tables e below (T12.setTop (mkF m 20 #[.val (.ref va)] [(.int vs), (.int (vt + (1 : Int32))), (.int (vr + (1 : Int32))), (.ref b1), (.ref b1)])) _
    refine XS.aloadN X12.here hx rfl (hb hby d5_20) rfl rfl ?_
    show Steps p.tables e below (T12.setTop (mkF m 21 #[.val (.ref va)] [(.ref va), (.int vs), (.int (vt + (1 : Int32))), (.int (vr + (1 : Int32))), (.ref b1), (.ref b1)])) _
    refine st14 _ ?_
    show Steps p.tables e below (T14.setTop (mkF m 24 #[.val (.ref va)] [(.int vf), (.int vs), (.int (vt + (1 : Int32))), (.int (vr + (1 : Int32))), (.ref b1), (.ref b1)])) _
    refine st15.trans ?_
    show Steps p.tables e below (T15.setTop (mkF m 27 #[.val (.ref va)] [(.ref b1)])) _
    jvm_step X15.here [X15.here.top, hx, (hb hby d5_27), X15.method', Bd.returns, Value.isRef, FieldType.isReference]
    first | (intro acts; rw [hr _ acts rfl rfl rfl]) | rw [hr _ _ rfl rfl rfl]
    exact Steps.refl _
  · show Q_pa Z va vr vt vs vf h0 n0 _ T15.heap _
    have Kc17 := (Keep.refl h0 []).ext E1
    have Kc18 := Kc17.trans K15 (allS (Or.inr (Nat.le_trans (Keep.refl h0 []).1 (Nat.le_of_eq g1.symm))) all0)
    exact ⟨b1, rfl, Nf15, Kc18, g_b1, sz_b1, Ex15, Fx15_0, Fx15_1, Fx15_2, Fx15_3⟩
theorem pn_rm0 : plainName "com/example/adhoc/adhoc/submission/OneHighShownPinLaw" = true := by first | (simp [plainName, overriddenIn]; done) | decide +kernel
theorem ef_rm0 (m : MethodId) (vr : Int32) (vt : Int32) (vx : Int32) : entryFrame m #[(.int vr), (.int vt), (.int vx)] maxLocals = mkF m 0 #[.val (.int vr), .val (.int vt), .val (.int vx), .unset, .unset, .unset, .unset, .unset, .unset] [] := by first | (simp [entryFrame, mkF, argsToLocals, Value.category, maxLocals]; done) | rfl
def Q0 (Z : State) (vr : Int32) (vt : Int32) (vx : Int32) (h0 : Heap) (n0 : Nat) (v : Option Value) (h : Heap) (L : List Loc) : Prop := v = some (.int 1) ∧ Fr n0 L
set_option maxRecDepth 65536 in
set_option maxHeartbeats 40000000 in
theorem rm0 (l : Launch) (Z : State) (a0 : Array Value) (hw : ∀ d ∈ tables_1, d.before a0 Z = true) (ws : List Jvm.Cond) (vr : Int32) (vt : Int32) (vx : Int32) (h0 : Heap) (n0 : Nat) (Z0 : n0 ≤ h0.size) :
    MetFree l x (head1 (Jvm.Cond.code x code maxLocals ret :: ws) room_1) (fun a U => a = #[(.int vr), (.int vt), (.int vx)] ∧ Z.Warmed39 U.vm ∧ U.heap = h0) (fun _ _ _ _ _ => True) (fun _ U o U' => ∃ v L, o = .returned v ∧ Q0 Z vr vt vx h0 n0 v U'.heap L ∧ FrameEnd U o U' L room_1.cells room_1.slots) := by
  refine MetFree.of_bodySF (plainFor_of_name pn_rm0) hisR ?_
  intro p e s m args below meth c s₁ Bd hml0 hP hK
  obtain ⟨rfl, hZ, hh⟩ := hP
  have hx := Bd.exec
  have hby := Bd.bytes
  have hml : c.maxLocals = 9 := hml0
  have hown : s.vm.findClass "com/example/adhoc/adhoc/submission/OneHighShownPinLaw" = some m.cls := findClass_of_methodNamed Bd.named
  have hnm := (name_of_methodNamed Bd.named Bd.method).1
  have X0 : Stand p l e room_1 s m #[(.int vr), (.int vt), (.int vx)] below meth c s₁ [] 0 0 := Stand.of_body Bd
  have e0 : s₁.heap = h0 := by rw [← hh, Bd.state]; rfl
  have N0 := Fr.nil n0
  have pre0 : ∀ t, Steps p.tables e below (s₁.setTop (mkF m 0 #[.val (.int vr), .val (.int vt), .val (.int vx), .unset, .unset, .unset, .unset, .unset, .unset] [])) t → Steps p.tables e below (s₁.setTop (entryFrame m #[(.int vr), (.int vt), (.int vx)] maxLocals)) t := fun t k => castTop (ef_rm0 m vr vt vx) k
  obtain ⟨vs, T1, lo1, X1, Nj1, ej1, hj1, pre1⟩ : ∃ (vs : Int32) (T' : State) (lo : List Loc), Stand p l e room_1 s m #[(.int vr), (.int vt), (.int vx)] below meth c T' lo 0 0 ∧ Fr n0 lo ∧ T'.heap = h0 ∧ (vs = 0 ∨ vs = 1) ∧ ∀ t, Steps p.tables e below (T'.setTop (mkF m 11 #[.val (.int vr), .val (.int vt), .val (.int vx), .unset, .unset, .unset, .unset, .unset, .unset] [(.int vs)])) t → Steps p.tables e below (s₁.setTop (entryFrame m #[(.int vr), (.int vt), (.int vx)] maxLocals)) t := by
    have pre2 : ∀ t, Steps p.tables e below (s₁.setTop (mkF m 3 #[.val (.int vr), .val (.int vt), .val (.int vx), .unset, .unset, .unset, .unset, .unset, .unset] [(.int (vx &&& (1 : Int32)))])) t → Steps p.tables e below (s₁.setTop (entryFrame m #[(.int vr), (.int vt), (.int vx)] maxLocals)) t := by
      intro t k
      refine pre0 t ?_
      show Steps p.tables e below (s₁.setTop (mkF m 0 #[.val (.int vr), .val (.int vt), .val (.int vx), .unset, .unset, .unset, .unset, .unset, .unset] [])) _
      refine XS.iloadN X0.here hx rfl (hb hby at_0) rfl ?_
      show Steps p.tables e below (s₁.setTop (mkF m 1 #[.val (.int vr), .val (.int vt), .val (.int vx), .unset, .unset, .unset, .unset, .unset, .unset] [(.int vx)])) _
      refine XS.iconst X0.here hx rfl (hb hby at_1) ?_
      show Steps p.tables e below (s₁.setTop (mkF m 2 #[.val (.int vr), .val (.int vt), .val (.int vx), .unset, .unset, .unset, .unset, .unset, .unset] [(.int (1 : Int32)), (.int vx)])) _
      refine XS.iand X0.here hx rfl (hb hby at_2) rfl ?_
      show Steps p.tables e below (s₁.setTop (mkF m 3 #[.val (.int vr), .val (.int vt), .val (.int vx), .unset, .unset, .unset, .unset, .unset, .unset] [(.int (vx &&& (1 : Int32)))])) _
      exact k
    by_cases hc3 : (vx &&& (1 : Int32)) = (0 : Int32)
    · refine ⟨(0 : Int32), s₁, _, X0, N0, e0, Or.inl rfl, fun t k => ?_⟩
      refine pre2 t ?_
      show Steps p.tables e below (s₁.setTop (mkF m 3 #[.val (.int vr), .val (.int vt), .val (.int vx), .unset, .unset, .unset, .unset, .unset, .unset] [(.int (vx &&& (1 : Int32)))])) _
      refine XS.ifYes X0.here hx rfl (pc0 := 3) (pc' := 10) rfl (hb hby at_3) rfl ((if0 _ _).trans (teq hc3).1) (by decide) (by decide) ?_
      show Steps p.tables e below (s₁.setTop (mkF m 10 #[.val (.int vr), .val (.int vt), .val (.int vx), .unset, .unset, .unset, .unset, .unset, .unset] [])) _
      refine XS.iconst X0.here hx rfl (hb hby at_10) ?_
      show Steps p.tables e below (s₁.setTop (mkF m 11 #[.val (.int vr), .val (.int vt), .val (.int vx), .unset, .unset, .unset, .unset, .unset, .unset] [(.int (0 : Int32))])) _
      exact k
    · refine ⟨(1 : Int32), s₁, _, X0, N0, e0, Or.inr rfl, fun t k => ?_⟩
      refine pre2 t ?_
      show Steps p.tables e below (s₁.setTop (mkF m 3 #[.val (.int vr), .val (.int vt), .val (.int vx), .unset, .unset, .unset, .unset, .unset, .unset] [(.int (vx &&& (1 : Int32)))])) _
      refine XS.ifNo X0.here hx rfl (hb hby at_3) rfl ((if0 _ _).trans (feq hc3).1) ?_
      show Steps p.tables e below (s₁.setTop (mkF m 6 #[.val (.int vr), .val (.int vt), .val (.int vx), .unset, .unset, .unset, .unset, .unset, .unset] [])) _
      refine XS.iconst X0.here hx rfl (hb hby at_6) ?_
      show Steps p.tables e below (s₁.setTop (mkF m 7 #[.val (.int vr), .val (.int vt), .val (.int vx), .unset, .unset, .unset, .unset, .unset, .unset] [(.int (1 : Int32))])) _
      refine XS.goto X0.here hx rfl (pc0 := 7) (pc' := 11) rfl (hb hby at_7) (by decide) (by decide) ?_
      show Steps p.tables e below (s₁.setTop (mkF m 11 #[.val (.int vr), .val (.int vt), .val (.int vx), .unset, .unset, .unset, .unset, .unset, .unset] [(.int (1 : Int32))])) _
      exact k
  have hs := hj1
  have pre4 : ∀ t, Steps p.tables e below (T1.setTop (mkF m 12 #[.val (.int vr), .val (.int vt), .val (.int vx), .val (.int vs), .unset, .unset, .unset, .unset, .unset] [])) t → Steps p.tables e below (s₁.setTop (entryFrame m #[(.int vr), (.int vt), (.int vx)] maxLocals)) t := by
    intro t k
    refine pre1 t ?_
    show Steps p.tables e below (T1.setTop (mkF m 11 #[.val (.int vr), .val (.int vt), .val (.int vx), .unset, .unset, .unset, .unset, .unset, .unset] [(.int vs)])) _
    refine XS.istoreN X1.here hx rfl (hb hby at_11) rfl (l' := #[.val (.int vr), .val (.int vt), .val (.int vx), .val (.int vs), .unset, .unset, .unset, .unset, .unset]) rfl ?_
    show Steps p.tables e below (T1.setTop (mkF m 12 #[.val (.int vr), .val (.int vt), .val (.int vx), .val (.int vs), .unset, .unset, .unset, .unset, .unset] [])) _
    exact k
  obtain ⟨vf, T5, lo5, X5, Nj5, ej5, hj5, pre5⟩ : ∃ (vf : Int32) (T' : State) (lo : List Loc), Stand p l e room_1 s m #[(.int vr), (.int vt), (.int vx)] below meth c T' lo 0 0 ∧ Fr n0 lo ∧ T'.heap = h0 ∧ (vf = 0 ∨ vf = 1) ∧ ∀ t, Steps p.tables e below (T'.setTop (mkF m 23 #[.val (.int vr), .val (.int vt), .val (.int vx), .val (.int vs), .unset, .unset, .unset, .unset, .unset] [(.int vf)])) t → Steps p.tables e below (s₁.setTop (entryFrame m #[(.int vr), (.int vt), (.int vx)] maxLocals)) t := by
    have pre6 : ∀ t, Steps p.tables e below (T1.setTop (mkF m 15 #[.val (.int vr), .val (.int vt), .val (.int vx), .val (.int vs), .unset, .unset, .unset, .unset, .unset] [(.int (vx &&& (2 : Int32)))])) t → Steps p.tables e below (s₁.setTop (entryFrame m #[(.int vr), (.int vt), (.int vx)] maxLocals)) t := by
      intro t k
      refine pre4 t ?_
      show Steps p.tables e below (T1.setTop (mkF m 12 #[.val (.int vr), .val (.int vt), .val (.int vx), .val (.int vs), .unset, .unset, .unset, .unset, .unset] [])) _
      refine XS.iloadN X1.here hx rfl (hb hby at_12) rfl ?_
      show Steps p.tables e below (T1.setTop (mkF m 13 #[.val (.int vr), .val (.int vt), .val (.int vx), .val (.int vs), .unset, .unset, .unset, .unset, .unset] [(.int vx)])) _
      refine XS.iconst X1.here hx rfl (hb hby at_13) ?_
      show Steps p.tables e below (T1.setTop (mkF m 14 #[.val (.int vr), .val (.int vt), .val (.int vx), .val (.int vs), .unset, .unset, .unset, .unset, .unset] [(.int (2 : Int32)), (.int vx)])) _
      refine XS.iand X1.here hx rfl (hb hby at_14) rfl ?_
      show Steps p.tables e below (T1.setTop (mkF m 15 #[.val (.int vr), .val (.int vt), .val (.int vx), .val (.int vs), .unset, .unset, .unset, .unset, .unset] [(.int (vx &&& (2 : Int32)))])) _
      exact k
    by_cases hc7 : (vx &&& (2 : Int32)) = (0 : Int32)
    · refine ⟨(0 : Int32), T1, _, X1, Nj1, ej1, Or.inl rfl, fun t k => ?_⟩
      refine pre6 t ?_
      show Steps p.tables e below (T1.setTop (mkF m 15 #[.val (.int vr), .val (.int vt), .val (.int vx), .val (.int vs), .unset, .unset, .unset, .unset, .unset] [(.int (vx &&& (2 : Int32)))])) _
      refine XS.ifYes X1.here hx rfl (pc0 := 15) (pc' := 22) rfl (hb hby at_15) rfl ((if0 _ _).trans (teq hc7).1) (by decide) (by decide) ?_
      show Steps p.tables e below (T1.setTop (mkF m 22 #[.val (.int vr), .val (.int vt), .val (.int vx), .val (.int vs), .unset, .unset, .unset, .unset, .unset] [])) _
      refine XS.iconst X1.here hx rfl (hb hby at_22) ?_
      show Steps p.tables e below (T1.setTop (mkF m 23 #[.val (.int vr), .val (.int vt), .val (.int vx), .val (.int vs), .unset, .unset, .unset, .unset, .unset] [(.int (0 : Int32))])) _
      exact k
    · refine ⟨(1 : Int32), T1, _, X1, Nj1, ej1, Or.inr rfl, fun t k => ?_⟩
      refine pre6 t ?_
      show Steps p.tables e below (T1.setTop (mkF m 15 #[.val (.int vr), .val (.int vt), .val (.int vx), .val (.int vs), .unset, .unset, .unset, .unset, .unset] [(.int (vx &&& (2 : Int32)))])) _
      refine XS.ifNo X1.here hx rfl (hb hby at_15) rfl ((if0 _ _).trans (feq hc7).1) ?_
      show Steps p.tables e below (T1.setTop (mkF m 18 #[.val (.int vr), .val (.int vt), .val (.int vx), .val (.int vs), .unset, .unset, .unset, .unset, .unset] [])) _
      refine XS.iconst X1.here hx rfl (hb hby at_18) ?_
      show Steps p.tables e below (T1.setTop (mkF m 19 #[.val (.int vr), .val (.int vt), .val (.int vx), .val (.int vs), .unset, .unset, .unset, .unset, .unset] [(.int (1 : Int32))])) _
      refine XS.goto X1.here hx rfl (pc0 := 19) (pc' := 23) rfl (hb hby at_19) (by decide) (by decide) ?_
      show Steps p.tables e below (T1.setTop (mkF m 23 #[.val (.int vr), .val (.int vt), .val (.int vx), .val (.int vs), .unset, .unset, .unset, .unset, .unset] [(.int (1 : Int32))])) _
      exact k
  have hf := hj5
  obtain ⟨T8, h8, X8, e8, E8, A8, D8, U8, st8⟩ := newO X5 hx hZ hown (hw _ (List.mem_of_getElem? (i := 0) rfl)) (hw _ (List.mem_of_getElem? (i := 1) rfl)) (hw _ (List.mem_of_getElem? (i := 2) rfl)) ej5 (g := (mkF m 25 #[.val (.int vr), .val (.int vt), .val (.int vx), .val (.int vs), .val (.int vf), .unset, .unset, .unset, .unset] [])) rfl (hb hby at_25) (by decide) (by decide)
  obtain ⟨b8, g8⟩ : ∃ z, z = h0.size := ⟨_, rfl⟩
  rw [← g8] at A8 D8 U8 st8
  have g_b8 : n0 ≤ b8 := Nat.le_trans Z0 (Nat.le_of_eq g8.symm)
  have Zp9 : n0 ≤ h8.size := Nat.le_trans Z0 E8.1
  have Fn10 : Fld Z h8 b8 "com/example/adhoc/adhoc/submission/Layout$OneHigh" "run" "I" (.int (0 : Int32)) := D8 (Or.inr (hw _ (List.mem_of_getElem? (i := 15) rfl))) (ty := .int) (by decide)
  have Fn11 : Fld Z h8 b8 "com/example/adhoc/adhoc/submission/Layout$OneHigh" "stretch" "I" (.int (0 : Int32)) := D8 (Or.inr (hw _ (List.mem_of_getElem? (i := 17) rfl))) (ty := .int) (by decide)
  have Fn12 : Fld Z h8 b8 "com/example/adhoc/adhoc/submission/Layout$OneHigh" "showing" "Z" (.int (0 : Int32)) := D8 (Or.inr (hw _ (List.mem_of_getElem? (i := 19) rfl))) (ty := .boolean) (by decide)
  have Fn13 : Fld Z h8 b8 "com/example/adhoc/adhoc/submission/Layout$OneHigh" "firstOfTopic" "Z" (.int (0 : Int32)) := D8 (Or.inr (hw _ (List.mem_of_getElem? (i := 21) rfl))) (ty := .boolean) (by decide)
  obtain ⟨_, _, ⟨T14, L14, k14, n14⟩, -, X14, ⟨Lc14, hQ14, l14, y14, z14⟩, st14⟩ := X8.specialBack hx (y := (⟨"com/example/adhoc/adhoc/submission/Layout$OneHigh", "<init>", "(IIZZ)V"⟩ : MethodName)) rfl hown (mvT hZ (hw _ (List.mem_of_getElem? (i := 3) rfl))) (mvT hZ (hw _ (List.mem_of_getElem? (i := 4) rfl))) (mvT hZ (hw _ (List.mem_of_getElem? (i := 5) rfl))) (by decide) (backOf (W := 1) (rm_in l Z a0 hw [] b8 vr vt vs vf h8 n0 Zp9 A8 g_b8 Fn10 Fn11 Fn12 Fn13 hs hf) hZ (hw _ (List.mem_of_getElem? (i := 5) rfl)) (hw _ (List.mem_of_getElem? (i := 2) rfl)) (by decide) (by decide)) (g := (mkF m 34 #[.val (.int vr), .val (.int vt), .val (.int vx), .val (.int vs), .val (.int vf), .unset, .unset, .unset, .unset] [(.int vf), (.int vs), (.int vt), (.int vr), (.ref b8), (.ref b8)])) rfl (by rw [hml]; rfl) (Steps.refl _) (a := b8) (argsL := [(.int vr), (.int vt), (.int vs), (.int vf)]) (rest := [(.ref b8)]) (lenOf own_pd1 rfl) rfl (by show 2 * 0 + _ ≤ _; exact Nat.le_of_eq rfl) (hb hby at_34) (fun _ _ => ⟨rfl, e8, (by decide : 1 + 0 ≤ _), (by decide : 4 + 0 ≤ _)⟩)
  dsimp only [Pt.U, Pt.locs, Pt.cells, Pt.slots] at X14 l14 y14 z14 st14 hQ14
  subst l14 y14 z14
  obtain ⟨rfl, Nq14, K14, Ex14, Fx14_0, Fx14_1, Fx14_2, Fx14_3⟩ := hQ14
  have Nf14 := Fr.app Nj5 Nq14
  have Zp15 : n0 ≤ T14.heap.size := Nat.le_trans Zp9 K14.1
  have pre16 : ∀ t, Steps p.tables e below (T14.setTop (mkF m 39 #[.val (.int vr), .val (.int vt), .val (.int vx), .val (.int vs), .val (.int vf), .val (.ref b8), .unset, .unset, .unset] [])) t → Steps p.tables e below (s₁.setTop (entryFrame m #[(.int vr), (.int vt), (.int vx)] maxLocals)) t := by
    intro t k
    refine pre5 t ?_
    show Steps p.tables e below (T5.setTop (mkF m 23 #[.val (.int vr), .val (.int vt), .val (.int vx), .val (.int vs), .unset, .unset, .unset, .unset, .unset] [(.int vf)])) _
    refine XS.istore X5.here hx rfl (hb hby at_23) rfl (l' := #[.val (.int vr), .val (.int vt), .val (.int vx), .val (.int vs), .val (.int vf), .unset, .unset, .unset, .unset]) rfl ?_
    show Steps p.tables e below (T5.setTop (mkF m 25 #[.val (.int vr), .val (.int vt), .val (.int vx), .val (.int vs), .val (.int vf), .unset, .unset, .unset, .unset] [])) _
    refine st8 _ ?_
    show Steps p.tables e below (T8.setTop (mkF m 28 #[.val (.int vr), .val (.int vt), .val (.int vx), .val (.int vs), .val (.int vf), .unset, .unset, .unset, .unset] [(.ref b8)])) _
    refine XS.dup X8.here hx rfl (hb hby at_28) rfl rfl ?_
    show Steps p.tables e below (T8.setTop (mkF m 29 #[.val (.int vr), .val (.int vt), .val (.int vx), .val (.int vs), .val (.int vf), .unset, .unset, .unset, .unset] [(.ref b8), (.ref b8)])) _
    refine XS.iloadN X8.here hx rfl (hb hby at_29) rfl ?_
    show Steps p.tables e below (T8.setTop (mkF m 30 #[.val (.int vr), .val (.int vt), .val (.int vx), .val (.int vs), .val (.int vf), .unset, .unset, .unset, .unset] [(.int vr), (.ref b8), (.ref b8)])) _
    refine XS.iloadN X8.here hx rfl (hb hby at_30) rfl ?_
    show Steps p.tables e below (T8.setTop (mkF m 31 #[.val (.int vr), .val (.int vt), .val (.int vx), .val (.int vs), .val (.int vf), .unset, .unset, .unset, .unset] [(.int vt), (.int vr), (.ref b8), (.ref b8)])) _
    refine XS.iloadN X8.here hx rfl (hb hby at_31) rfl ?_
    show Steps p.tables e below (T8.setTop (mkF m 32 #[.val (.int vr), .val (.int vt), .val (.int vx), .val (.int vs), .val (.int vf), .unset, .unset, .unset, .unset] [(.int vs), (.int vt), (.int vr), (.ref b8), (.ref b8)])) _
    refine XS.iload X8.here hx rfl (hb hby at_32) rfl ?_
    show Steps p.tables e below (T8.setTop (mkF m 34 #[.val (.int vr), .val (.int vt), .val (.int vx), .val (.int vs), .val (.int vf), .unset, .unset, .unset, .unset] [(.int vf), (.int vs), (.int vt), (.int vr), (.ref b8), (.ref b8)])) _
    refine st14.trans ?_
    show Steps p.tables e below (T14.setTop (mkF m 37 #[.val (.int vr), .val (.int vt), .val (.int vx), .val (.int vs), .val (.int vf), .unset, .unset, .unset, .unset] [(.ref b8)])) _
    refine XS.astore X14.here hx rfl (hb hby at_37) rfl rfl (l' := #[.val (.int vr), .val (.int vt), .val (.int vx), .val (.int vs), .val (.int vf), .val (.ref b8), .unset, .unset, .unset]) rfl ?_
    show Steps p.tables e below (T14.setTop (mkF m 39 #[.val (.int vr), .val (.int vt), .val (.int vx), .val (.int vs), .val (.int vf), .val (.ref b8), .unset, .unset, .unset] [])) _
    exact k
  obtain ⟨ve, T17, lo17, X17, Nj17, ej17, hj17, pre17⟩ : ∃ (ve : Int32) (T' : State) (lo : List Loc), Stand p l e room_1 s m #[(.int vr), (.int vt), (.int vx)] below meth c T' lo 1 4 ∧ Fr n0 lo ∧ T'.heap = T14.heap ∧ (ve = if vs = 0 then 0 else vt) ∧ ∀ t, Steps p.tables e below (T'.setTop (mkF m 52 #[.val (.int vr), .val (.int vt), .val (.int vx), .val (.int vs), .val (.int vf), .val (.ref b8), .val (.int ve), .unset, .unset] [])) t → Steps p.tables e below (s₁.setTop (entryFrame m #[(.int vr), (.int vt), (.int vx)] maxLocals)) t := by
    have pre18 : ∀ t, Steps p.tables e below (T14.setTop (mkF m 40 #[.val (.int vr), .val (.int vt), .val (.int vx), .val (.int vs), .val (.int vf), .val (.ref b8), .unset, .unset, .unset] [(.int vs)])) t → Steps p.tables e below (s₁.setTop (entryFrame m #[(.int vr), (.int vt), (.int vx)] maxLocals)) t := by
      intro t k
      refine pre16 t ?_
      show Steps p.tables e below (T14.setTop (mkF m 39 #[.val (.int vr), .val (.int vt), .val (.int vx), .val (.int vs), .val (.int vf), .val (.ref b8), .unset, .unset, .unset] [])) _
      refine XS.iloadN X14.here hx rfl (hb hby at_39) rfl ?_
      show Steps p.tables e below (T14.setTop (mkF m 40 #[.val (.int vr), .val (.int vt), .val (.int vx), .val (.int vs), .val (.int vf), .val (.ref b8), .unset, .unset, .unset] [(.int vs)])) _
      exact k
    by_cases hc19 : vs = (0 : Int32)
    · refine ⟨(0 : Int32), T14, _, X14, Nf14, rfl, (if_pos hc19).symm, fun t k => ?_⟩
      refine pre18 t ?_
      show Steps p.tables e below (T14.setTop (mkF m 40 #[.val (.int vr), .val (.int vt), .val (.int vx), .val (.int vs), .val (.int vf), .val (.ref b8), .unset, .unset, .unset] [(.int vs)])) _
      refine XS.ifYes X14.here hx rfl (pc0 := 40) (pc' := 49) rfl (hb hby at_40) rfl ((if0 _ _).trans (teq hc19).1) (by decide) (by decide) ?_
      show Steps p.tables e below (T14.setTop (mkF m 49 #[.val (.int vr), .val (.int vt), .val (.int vx), .val (.int vs), .val (.int vf), .val (.ref b8), .unset, .unset, .unset] [])) _
      refine XS.iconst X14.here hx rfl (hb hby at_49) ?_
      show Steps p.tables e below (T14.setTop (mkF m 50 #[.val (.int vr), .val (.int vt), .val (.int vx), .val (.int vs), .val (.int vf), .val (.ref b8), .unset, .unset, .unset] [(.int (0 : Int32))])) _
      refine XS.istore X14.here hx rfl (hb hby at_50) rfl (l' := #[.val (.int vr), .val (.int vt), .val (.int vx), .val (.int vs), .val (.int vf), .val (.ref b8), .val (.int (0 : Int32)), .unset, .unset]) rfl ?_
      show Steps p.tables e below (T14.setTop (mkF m 52 #[.val (.int vr), .val (.int vt), .val (.int vx), .val (.int vs), .val (.int vf), .val (.ref b8), .val (.int (0 : Int32)), .unset, .unset] [])) _
      exact k
    · refine ⟨vt, T14, _, X14, Nf14, rfl, (if_neg hc19).symm, fun t k => ?_⟩
      refine pre18 t ?_
      show Steps p.tables e below (T14.setTop (mkF m 40 #[.val (.int vr), .val (.int vt), .val (.int vx), .val (.int vs), .val (.int vf), .val (.ref b8), .unset, .unset, .unset] [(.int vs)])) _
      refine XS.ifNo X14.here hx rfl (hb hby at_40) rfl ((if0 _ _).trans (feq hc19).1) ?_
      show Steps p.tables e below (T14.setTop (mkF m 43 #[.val (.int vr), .val (.int vt), .val (.int vx), .val (.int vs), .val (.int vf), .val (.ref b8), .unset, .unset, .unset] [])) _
      refine XS.iloadN X14.here hx rfl (hb hby at_43) rfl ?_
      show Steps p.tables e below (T14.setTop (mkF m 44 #[.val (.int vr), .val (.int vt), .val (.int vx), .val (.int vs), .val (.int vf), .val (.ref b8), .unset, .unset, .unset] [(.int vt)])) _
      refine XS.istore X14.here hx rfl (hb hby at_44) rfl (l' := #[.val (.int vr), .val (.int vt), .val (.int vx), .val (.int vs), .val (.int vf), .val (.ref b8), .val (.int vt), .unset, .unset]) rfl ?_
      show Steps p.tables e below (T14.setTop (mkF m 46 #[.val (.int vr), .val (.int vt), .val (.int vx), .val (.int vs), .val (.int vf), .val (.ref b8), .val (.int vt), .unset, .unset] [])) _
      refine XS.goto X14.here hx rfl (pc0 := 46) (pc' := 52) rfl (hb hby at_46) (by decide) (by decide) ?_
      show Steps p.tables e below (T14.setTop (mkF m 52 #[.val (.int vr), .val (.int vt), .val (.int vx), .val (.int vs), .val (.int vf), .val (.ref b8), .val (.int vt), .unset, .unset] [])) _
      exact k
  obtain ⟨cq21, kq21, q21a, q21b, q21c⟩ := isOf hZ ej17 Ex14
  obtain ⟨_, _, ⟨T20, L20, k20, n20⟩, -, X20, ⟨Lc20, hQ20, l20, y20, z20⟩, st20⟩ := X17.virtualBack hx (y := (⟨"com/example/adhoc/adhoc/submission/Layout$OneHigh", "shown", "()I"⟩ : MethodName)) (z := (⟨"com/example/adhoc/adhoc/submission/Layout$OneHigh", "shown", "()I"⟩ : MethodName)) hown (mvT hZ (hw _ (List.mem_of_getElem? (i := 22) rfl))) (mvT hZ (hw _ (List.mem_of_getElem? (i := 23) rfl))) (notFace_of_selects (args := #[]) (mvT hZ (hw _ (List.mem_of_getElem? (i := 25) rfl)))) (mvT hZ (hw _ (List.mem_of_getElem? (i := 25) rfl))) (mvT hZ (hw _ (List.mem_of_getElem? (i := 24) rfl))) (by decide) (backOf (W := 0) (rm_sh l Z a0 hw [] b8 vr vt vs vf T14.heap n0 Zp15 Fx14_0 Fx14_1 Fx14_2 Fx14_3) hZ (hw _ (List.mem_of_getElem? (i := 26) rfl)) (hw _ (List.mem_of_getElem? (i := 2) rfl)) (by decide) (by decide)) q21a q21c (g := (mkF m 54 #[.val (.int vr), .val (.int vt), .val (.int vx), .val (.int vs), .val (.int vf), .val (.ref b8), .val (.int ve), .unset, .unset] [(.ref b8)])) rfl (by rw [hml]; rfl) (Steps.refl _) (argsL := []) (rest := []) (lenOf own_pd2 rfl) rfl (by show 2 * 0 + _ ≤ _; exact Nat.le_of_eq rfl) (hb hby at_54) (fun _ _ => ⟨rfl, ej17, (by decide : 1 + 0 ≤ _), (by decide : 4 + 0 ≤ _)⟩)
  dsimp only [Pt.U, Pt.locs, Pt.cells, Pt.slots] at X20 l20 y20 z20 st20 hQ20
  subst l20 y20 z20
  obtain ⟨rfl, Nq20, hh20⟩ := hQ20
  have Nf20 := Fr.app Nj17 Nq20
  have pre22 : ∀ t, Steps p.tables e below (T20.setTop (mkF m 59 #[.val (.int vr), .val (.int vt), .val (.int vx), .val (.int vs), .val (.int vf), .val (.ref b8), .val (.int ve), .unset, .unset] [(.int ve), (.int (if vs = 0 then 0 else vt))])) t → Steps p.tables e below (s₁.setTop (entryFrame m #[(.int vr), (.int vt), (.int vx)] maxLocals)) t := by
    intro t k
    refine pre17 t ?_
    show Steps p.tables e below (T17.setTop (mkF m 52 #[.val (.int vr), .val (.int vt), .val (.int vx), .val (.int vs), .val (.int vf), .val (.ref b8), .val (.int ve), .unset, .unset] [])) _
    refine XS.aload X17.here hx rfl (hb hby at_52) rfl rfl ?_
    show Steps p.tables e below (T17.setTop (mkF m 54 #[.val (.int vr), .val (.int vt), .val (.int vx), .val (.int vs), .val (.int vf), .val (.ref b8), .val (.int ve), .unset, .unset] [(.ref b8)])) _
    refine st20.trans ?_
    show Steps p.tables e below (T20.setTop (mkF m 57 #[.val (.int vr), .val (.int vt), .val (.int vx), .val (.int vs), .val (.int vf), .val (.ref b8), .val (.int ve), .unset, .unset] [(.int (if vs = 0 then 0 else vt))])) _
    refine XS.iload X20.here hx rfl (hb hby at_57) rfl ?_
    show Steps p.tables e below (T20.setTop (mkF m 59 #[.val (.int vr), .val (.int vt), .val (.int vx), .val (.int vs), .val (.int vf), .val (.ref b8), .val (.int ve), .unset, .unset] [(.int ve), (.int (if vs = 0 then 0 else vt))])) _
    exact k
  have hd23 : (if vs = 0 then 0 else vt) = ve := hj17.symm
  obtain ⟨cq25, kq25, q25a, q25b, q25c⟩ := isOf hZ hh20 Ex14
  obtain ⟨_, _, ⟨T24, L24, k24, n24⟩, -, X24, ⟨Lc24, hQ24, l24, y24, z24⟩, st24⟩ := X20.virtualBack hx (y := (⟨"com/example/adhoc/adhoc/submission/Layout$OneHigh", "passed", "()Lcom/example/adhoc/adhoc/submission/Layout$OneHigh;"⟩ : MethodName)) (z := (⟨"com/example/adhoc/adhoc/submission/Layout$OneHigh", "passed", "()Lcom/example/adhoc/adhoc/submission/Layout$OneHigh;"⟩ : MethodName)) hown (mvT hZ (hw _ (List.mem_of_getElem? (i := 27) rfl))) (mvT hZ (hw _ (List.mem_of_getElem? (i := 28) rfl))) (notFace_of_selects (args := #[]) (mvT hZ (hw _ (List.mem_of_getElem? (i := 30) rfl)))) (mvT hZ (hw _ (List.mem_of_getElem? (i := 30) rfl))) (mvT hZ (hw _ (List.mem_of_getElem? (i := 29) rfl))) (by decide) (backOf (W := 0) (rm_pa l Z a0 hw [] b8 vr vt vs vf T14.heap n0 Zp15 Fx14_0 Fx14_1 Fx14_2 Fx14_3 hs hf) hZ (hw _ (List.mem_of_getElem? (i := 31) rfl)) (hw _ (List.mem_of_getElem? (i := 2) rfl)) (by decide) (by decide)) q25a q25c (g := (mkF m 66 #[.val (.int vr), .val (.int vt), .val (.int vx), .val (.int vs), .val (.int vf), .val (.ref b8), .val (.int ve), .unset, .unset] [(.ref b8)])) rfl (by rw [hml]; rfl) (Steps.refl _) (argsL := []) (rest := []) (lenOf own_pd3 rfl) rfl (by show 2 * 0 + _ ≤ _; exact Nat.le_of_eq rfl) (hb hby at_66) (fun _ _ => ⟨rfl, hh20, (by decide : 1 + 1 ≤ _), (by decide : 4 + 4 ≤ _)⟩)
  dsimp only [Pt.U, Pt.locs, Pt.cells, Pt.slots] at X24 l24 y24 z24 st24 hQ24
  subst l24 y24 z24
  obtain ⟨b24, rfl, Nq24, K24, g_b24, sz_b24, Ex24, Fx24_0, Fx24_1, Fx24_2, Fx24_3⟩ := hQ24
  have Nf24 := Fr.app Nf20 Nq24
  have Zp26 : n0 ≤ T24.heap.size := Nat.le_trans Zp15 K24.1
  have pre27 : ∀ t, Steps p.tables e below (T24.setTop (mkF m 71 #[.val (.int vr), .val (.int vt), .val (.int vx), .val (.int vs), .val (.int vf), .val (.ref b8), .val (.int ve), .val (.ref b24), .unset] [])) t → Steps p.tables e below (s₁.setTop (entryFrame m #[(.int vr), (.int vt), (.int vx)] maxLocals)) t := by
    intro t k
    refine pre22 t ?_
    show Steps p.tables e below (T20.setTop (mkF m 59 #[.val (.int vr), .val (.int vt), .val (.int vx), .val (.int vs), .val (.int vf), .val (.ref b8), .val (.int ve), .unset, .unset] [(.int ve), (.int (if vs = 0 then 0 else vt))])) _
    refine XS.icmpYes X20.here hx rfl (pc0 := 59) (pc' := 64) rfl (hb hby at_59) rfl (teq hd23).1 (by decide) (by decide) ?_
    show Steps p.tables e below (T20.setTop (mkF m 64 #[.val (.int vr), .val (.int vt), .val (.int vx), .val (.int vs), .val (.int vf), .val (.ref b8), .val (.int ve), .unset, .unset] [])) _
    refine XS.aload X20.here hx rfl (hb hby at_64) rfl rfl ?_
    show Steps p.tables e below (T20.setTop (mkF m 66 #[.val (.int vr), .val (.int vt), .val (.int vx), .val (.int vs), .val (.int vf), .val (.ref b8), .val (.int ve), .unset, .unset] [(.ref b8)])) _
    refine st24.trans ?_
    show Steps p.tables e below (T24.setTop (mkF m 69 #[.val (.int vr), .val (.int vt), .val (.int vx), .val (.int vs), .val (.int vf), .val (.ref b8), .val (.int ve), .unset, .unset] [(.ref b24)])) _
    refine XS.astore X24.here hx rfl (hb hby at_69) rfl rfl (l' := #[.val (.int vr), .val (.int vt), .val (.int vx), .val (.int vs), .val (.int vf), .val (.ref b8), .val (.int ve), .val (.ref b24), .unset]) rfl ?_
    show Steps p.tables e below (T24.setTop (mkF m 71 #[.val (.int vr), .val (.int vt), .val (.int vx), .val (.int vs), .val (.int vf), .val (.ref b8), .val (.int ve), .val (.ref b24), .unset] [])) _
    exact k
  obtain ⟨vg, T28, lo28, X28, Nj28, ej28, hj28, pre28⟩ : ∃ (vg : Int32) (T' : State) (lo : List Loc), Stand p l e room_1 s m #[(.int vr), (.int vt), (.int vx)] below meth c T' lo 2 8 ∧ Fr n0 lo ∧ T'.heap = T24.heap ∧ (vg = if vs = 0 then 0 else (vt + (1 : Int32))) ∧ ∀ t, Steps p.tables e below (T'.setTop (mkF m 86 #[.val (.int vr), .val (.int vt), .val (.int vx), .val (.int vs), .val (.int vf), .val (.ref b8), .val (.int ve), .val (.ref b24), .val (.int vg)] [])) t → Steps p.tables e below (s₁.setTop (entryFrame m #[(.int vr), (.int vt), (.int vx)] maxLocals)) t := by
    have pre29 : ∀ t, Steps p.tables e below (T24.setTop (mkF m 72 #[.val (.int vr), .val (.int vt), .val (.int vx), .val (.int vs), .val (.int vf), .val (.ref b8), .val (.int ve), .val (.ref b24), .unset] [(.int vs)])) t → Steps p.tables e below (s₁.setTop (entryFrame m #[(.int vr), (.int vt), (.int vx)] maxLocals)) t := by
      intro t k
      refine pre27 t ?_
      show Steps p.tables e below (T24.setTop (mkF m 71 #[.val (.int vr), .val (.int vt), .val (.int vx), .val (.int vs), .val (.int vf), .val (.ref b8), .val (.int ve), .val (.ref b24), .unset] [])) _
      refine XS.iloadN X24.here hx rfl (hb hby at_71) rfl ?_
      show Steps p.tables e below (T24.setTop (mkF m 72 #[.val (.int vr), .val (.int vt), .val (.int vx), .val (.int vs), .val (.int vf), .val (.ref b8), .val (.int ve), .val (.ref b24), .unset] [(.int vs)])) _
      exact k
    by_cases hc30 : vs = (0 : Int32)
    · refine ⟨(0 : Int32), T24, _, X24, Nf24, rfl, (if_pos hc30).symm, fun t k => ?_⟩
      refine pre29 t ?_
      show Steps p.tables e below (T24.setTop (mkF m 72 #[.val (.int vr), .val (.int vt), .val (.int vx), .val (.int vs), .val (.int vf), .val (.ref b8), .val (.int ve), .val (.ref b24), .unset] [(.int vs)])) _
      refine XS.ifYes X24.here hx rfl (pc0 := 72) (pc' := 83) rfl (hb hby at_72) rfl ((if0 _ _).trans (teq hc30).1) (by decide) (by decide) ?_
      show Steps p.tables e below (T24.setTop (mkF m 83 #[.val (.int vr), .val (.int vt), .val (.int vx), .val (.int vs), .val (.int vf), .val (.ref b8), .val (.int ve), .val (.ref b24), .unset] [])) _
      refine XS.iconst X24.here hx rfl (hb hby at_83) ?_
      show Steps p.tables e below (T24.setTop (mkF m 84 #[.val (.int vr), .val (.int vt), .val (.int vx), .val (.int vs), .val (.int vf), .val (.ref b8), .val (.int ve), .val (.ref b24), .unset] [(.int (0 : Int32))])) _
      refine XS.istore X24.here hx rfl (hb hby at_84) rfl (l' := #[.val (.int vr), .val (.int vt), .val (.int vx), .val (.int vs), .val (.int vf), .val (.ref b8), .val (.int ve), .val (.ref b24), .val (.int (0 : Int32))]) rfl ?_
      show Steps p.tables e below (T24.setTop (mkF m 86 #[.val (.int vr), .val (.int vt), .val (.int vx), .val (.int vs), .val (.int vf), .val (.ref b8), .val (.int ve), .val (.ref b24), .val (.int (0 : Int32))] [])) _
      exact k
    · refine ⟨(vt + (1 : Int32)), T24, _, X24, Nf24, rfl, (if_neg hc30).symm, fun t k => ?_⟩
      refine pre29 t ?_
      show Steps p.tables e below (T24.setTop (mkF m 72 #[.val (.int vr), .val (.int vt), .val (.int vx), .val (.int vs), .val (.int vf), .val (.ref b8), .val (.int ve), .val (.ref b24), .unset] [(.int vs)])) _
      refine XS.ifNo X24.here hx rfl (hb hby at_72) rfl ((if0 _ _).trans (feq hc30).1) ?_
      show Steps p.tables e below (T24.setTop (mkF m 75 #[.val (.int vr), .val (.int vt), .val (.int vx), .val (.int vs), .val (.int vf), .val (.ref b8), .val (.int ve), .val (.ref b24), .unset] [])) _
      refine XS.iloadN X24.here hx rfl (hb hby at_75) rfl ?_
      show Steps p.tables e below (T24.setTop (mkF m 76 #[.val (.int vr), .val (.int vt), .val (.int vx), .val (.int vs), .val (.int vf), .val (.ref b8), .val (.int ve), .val (.ref b24), .unset] [(.int vt)])) _
      refine XS.iconst X24.here hx rfl (hb hby at_76) ?_
      show Steps p.tables e below (T24.setTop (mkF m 77 #[.val (.int vr), .val (.int vt), .val (.int vx), .val (.int vs), .val (.int vf), .val (.ref b8), .val (.int ve), .val (.ref b24), .unset] [(.int (1 : Int32)), (.int vt)])) _
      refine XS.iadd X24.here hx rfl (hb hby at_77) rfl ?_
      show Steps p.tables e below (T24.setTop (mkF m 78 #[.val (.int vr), .val (.int vt), .val (.int vx), .val (.int vs), .val (.int vf), .val (.ref b8), .val (.int ve), .val (.ref b24), .unset] [(.int (vt + (1 : Int32)))])) _
      refine XS.istore X24.here hx rfl (hb hby at_78) rfl (l' := #[.val (.int vr), .val (.int vt), .val (.int vx), .val (.int vs), .val (.int vf), .val (.ref b8), .val (.int ve), .val (.ref b24), .val (.int (vt + (1 : Int32)))]) rfl ?_
      show Steps p.tables e below (T24.setTop (mkF m 80 #[.val (.int vr), .val (.int vt), .val (.int vx), .val (.int vs), .val (.int vf), .val (.ref b8), .val (.int ve), .val (.ref b24), .val (.int (vt + (1 : Int32)))] [])) _
      refine XS.goto X24.here hx rfl (pc0 := 80) (pc' := 86) rfl (hb hby at_80) (by decide) (by decide) ?_
      show Steps p.tables e below (T24.setTop (mkF m 86 #[.val (.int vr), .val (.int vt), .val (.int vx), .val (.int vs), .val (.int vf), .val (.ref b8), .val (.int ve), .val (.ref b24), .val (.int (vt + (1 : Int32)))] [])) _
      exact k
  obtain ⟨cq32, kq32, q32a, q32b, q32c⟩ := isOf hZ ej28 Ex24
  obtain ⟨_, _, ⟨T31, L31, k31, n31⟩, -, X31, ⟨Lc31, hQ31, l31, y31, z31⟩, st31⟩ := X28.virtualBack hx (y := (⟨"com/example/adhoc/adhoc/submission/Layout$OneHigh", "shown", "()I"⟩ : MethodName)) (z := (⟨"com/example/adhoc/adhoc/submission/Layout$OneHigh", "shown", "()I"⟩ : MethodName)) hown (mvT hZ (hw _ (List.mem_of_getElem? (i := 22) rfl))) (mvT hZ (hw _ (List.mem_of_getElem? (i := 23) rfl))) (notFace_of_selects (args := #[]) (mvT hZ (hw _ (List.mem_of_getElem? (i := 25) rfl)))) (mvT hZ (hw _ (List.mem_of_getElem? (i := 25) rfl))) (mvT hZ (hw _ (List.mem_of_getElem? (i := 24) rfl))) (by decide) (backOf (W := 0) (rm_sh l Z a0 hw [] b24 (vr + (1 : Int32)) (vt + (1 : Int32)) vs vf T24.heap n0 Zp26 Fx24_0 Fx24_1 Fx24_2 Fx24_3) hZ (hw _ (List.mem_of_getElem? (i := 26) rfl)) (hw _ (List.mem_of_getElem? (i := 2) rfl)) (by decide) (by decide)) q32a q32c (g := (mkF m 88 #[.val (.int vr), .val (.int vt), .val (.int vx), .val (.int vs), .val (.int vf), .val (.ref b8), .val (.int ve), .val (.ref b24), .val (.int vg)] [(.ref b24)])) rfl (by rw [hml]; rfl) (Steps.refl _) (argsL := []) (rest := []) (lenOf own_pd2 rfl) rfl (by show 2 * 0 + _ ≤ _; exact Nat.le_of_eq rfl) (hb hby at_88) (fun _ _ => ⟨rfl, ej28, (by decide : 2 + 0 ≤ _), (by decide : 8 + 0 ≤ _)⟩)
  dsimp only [Pt.U, Pt.locs, Pt.cells, Pt.slots] at X31 l31 y31 z31 st31 hQ31
  subst l31 y31 z31
  obtain ⟨rfl, Nq31, hh31⟩ := hQ31
  have Nf31 := Fr.app Nj28 Nq31
  have pre33 : ∀ t, Steps p.tables e below (T31.setTop (mkF m 93 #[.val (.int vr), .val (.int vt), .val (.int vx), .val (.int vs), .val (.int vf), .val (.ref b8), .val (.int ve), .val (.ref b24), .val (.int vg)] [(.int vg), (.int (if vs = 0 then 0 else (vt + (1 : Int32))))])) t → Steps p.tables e below (s₁.setTop (entryFrame m #[(.int vr), (.int vt), (.int vx)] maxLocals)) t := by
    intro t k
    refine pre28 t ?_
    show Steps p.tables e below (T28.setTop (mkF m 86 #[.val (.int vr), .val (.int vt), .val (.int vx), .val (.int vs), .val (.int vf), .val (.ref b8), .val (.int ve), .val (.ref b24), .val (.int vg)] [])) _
    refine XS.aload X28.here hx rfl (hb hby at_86) rfl rfl ?_
    show Steps p.tables e below (T28.setTop (mkF m 88 #[.val (.int vr), .val (.int vt), .val (.int vx), .val (.int vs), .val (.int vf), .val (.ref b8), .val (.int ve), .val (.ref b24), .val (.int vg)] [(.ref b24)])) _
    refine st31.trans ?_
    show Steps p.tables e below (T31.setTop (mkF m 91 #[.val (.int vr), .val (.int vt), .val (.int vx), .val (.int vs), .val (.int vf), .val (.ref b8), .val (.int ve), .val (.ref b24), .val (.int vg)] [(.int (if vs = 0 then 0 else (vt + (1 : Int32))))])) _
    refine XS.iload X31.here hx rfl (hb hby at_91) rfl ?_
    show Steps p.tables e below (T31.setTop (mkF m 93 #[.val (.int vr), .val (.int vt), .val (.int vx), .val (.int vs), .val (.int vf), .val (.ref b8), .val (.int ve), .val (.ref b24), .val (.int vg)] [(.int vg), (.int (if vs = 0 then 0 else (vt + (1 : Int32))))])) _
    exact k
  have hd34 : (if vs = 0 then 0 else (vt + (1 : Int32))) = vg := hj28.symm
  obtain ⟨fs, hr, hrun, hended, hW, hsame⟩ := X31.leave (v := some (.int (1 : Int32))) (fun h => by rw [Bd.returns] at h; cases h)
  refine ⟨_, _, pre33 _ ?_, hrun, hended, _, _, rfl, ?_, ⟨_, rfl⟩, hW, hsame.mono (by decide) (by decide)⟩
  · show Steps p.tables e below (T31.setTop (mkF m 93 #[.val (.int vr), .val (.int vt), .val (.int vx), .val (.int vs), .val (.int vf), .val (.ref b8), .val (.int ve), .val (.ref b24), .val (.int vg)] [(.int vg), (.int (if vs = 0 then 0 else (vt + (1 : Int32))))])) _
    refine XS.icmpNo X31.here hx rfl (hb hby at_93) rfl (teq hd34).2 ?_
    show Steps p.tables e below (T31.setTop (mkF m 96 #[.val (.int vr), .val (.int vt), .val (.int vx), .val (.int vs), .val (.int vf), .val (.ref b8), .val (.int ve), .val (.ref b24), .val (.int vg)] [])) _
    refine XS.iconst X31.here hx rfl (hb hby at_96) ?_
    show Steps p.tables e below (T31.setTop (mkF m 97 #[.val (.int vr), .val (.int vt), .val (.int vx), .val (.int vs), .val (.int vf), .val (.ref b8), .val (.int ve), .val (.ref b24), .val (.int vg)] [(.int (1 : Int32))])) _
    refine XS.goto X31.here hx rfl (pc0 := 97) (pc' := 101) rfl (hb hby at_97) (by decide) (by decide) ?_
    show Steps p.tables e below (T31.setTop (mkF m 101 #[.val (.int vr), .val (.int vt), .val (.int vx), .val (.int vs), .val (.int vf), .val (.ref b8), .val (.int ve), .val (.ref b24), .val (.int vg)] [(.int (1 : Int32))])) _
    exact retN X31 hx (t := .boolean) Bd.returns (by simp) (hb hby at_101) hr
  · show Q0 Z vr vt vx h0 n0 _ T31.heap _
    rw [hh31]
    exact ⟨rfl, Nf31⟩
set_option maxRecDepth 65536 in
set_option maxHeartbeats 40000000 in
theorem comes_1 {Post : Tables → Env → Array Value → State → Outcome → State → Prop} (hpost : ∀ tb e args s v u, (limb_1_1.after args s (.returned v) u = true ∧ limb_1_2.after args s (.returned v) u = true ∧ True) → FrameEnd s (.returned v) u (Jvm.fieldLocs frame_1_writes args s ++ Jvm.arrayLocs frame_1_arrays args s ++ Jvm.staticLocs frame_1_statics s) 16 128 → Post tb e args s (.returned v) u) :
    ArmFor flags0 classFile x code maxLocals ret World_1 tables_1 room_1 Calls_1 rest_1 Pre_1 Post := by
  intro l hfl _ _ p e ha hc hk s m args below hf hA hF happ hP
  obtain ⟨hcalls, hrest, hpre⟩ := hP
  obtain ⟨-, -, -, hnamed, -, -, -, hat⟩ := (Spec.applies_iff hf).mp happ
  obtain ⟨hg, hn⟩ := and_e (Cond.before_iff.mp (show (Jvm.Cond.and given_1 narrow_1).before args s = true from hpre))
  obtain ⟨ga1, gb1⟩ := and_e hg
  obtain ⟨ga2, gb2⟩ := and_e gb1
  obtain ⟨ga3, gb3⟩ := and_e gb2
  obtain ⟨w0, w1, w2, rfl⟩ : ∃ w0 w1 w2 : Value, args = #[w0, w1, w2] := by
    have hs : args.size = 3 := by simpa [Cond.value, given_1] using ga1
    obtain ⟨L⟩ := args
    match L, hs with
    | [w0, w1, w2], _ => exact ⟨w0, w1, w2, rfl⟩
  have hw := fun d (hd : d ∈ tables_1) => atoms_spec (ws := Jvm.Cond.code x code maxLocals ret :: tables_1) hat d (List.mem_cons_of_mem _ hd)
  have hfit : Fit s := fun {y c} hc i hi => by
    obtain ⟨ha, rfl⟩ := Array.getElem?_eq_some_iff.mp hc
    have q := List.all_eq_true.mp ((Array.all_eq_true_iff_forall_mem.mp hF) _ (Array.getElem_mem ha)) i (List.mem_range.mpr hi)
    simpa [Array.getElem?_eq_getElem hi] using q
  obtain ⟨i0, ei0⟩ := is_v ga2
  obtain rfl : w0 = (.int i0) := Option.some.inj ei0
  obtain ⟨i1, ei1⟩ := is_v ga3
  obtain rfl : w1 = (.int i1) := Option.some.inj ei1
  obtain ⟨i2, ei2⟩ := is_v gb3
  obtain rfl : w2 = (.int i2) := Option.some.inj ei2
  obtain ⟨n, o, h1, h2, h3, _, L, rfl, ⟨rfl, N⟩, hq⟩ := rm0 l s _ hw tables_1 i0 i1 i2 s.heap s.heap.size (Nat.le_refl _)  p e ha hc hk s m _ below hf ((Spec.applies_iff_loose hf).mp happ).1 ⟨rfl, State.Warmed39.refl s, rfl⟩ trivial
  refine ⟨n, _, h1, h2, h3, hpost _ _ _ _ _ _ ⟨Cond.after_iff.mpr rfl, Cond.after_iff.mpr (eq_i res_at (Term.int_eval (1)) rfl), trivial⟩ ⟨hq.1, hq.2.1, (hq.2.2.sift fun y hy => Or.inr (N y hy)).mono (by decide) (by decide)⟩⟩
theorem main_1_1 : Claimed_1_1 := comes_1 fun _ _ _ _ _ _ h hF => ⟨h.1, hF⟩
theorem main_1_2 : Claimed_1_2 := comes_1 fun _ _ _ _ _ _ h hF => ⟨h.2.1, hF⟩
end Jvm.Pilot.@@N@@
namespace Jvm.Pilot.@@N@@
open Jvm Jvm.ClassFile Sem Op Lib Jvm.Free Jvm.Stand Jvm.Pilot.@@N@@.Jvm.D
/-! MADE BY PROGRAM (witnessworld.py) out of the Statement's table words and the real class files: 10 classes; the members and pool entries that the words name. The judged class is class 1, her method 1. -/
namespace start1
open Jvm.ClassFile
def u (s : String) : CpInfo := .utf8 (stringToUtf16 s)
/-- a pool by its gaps: so many unusable entries, then the entry; so many at the end -/
def gap : Nat → List CpInfo → List CpInfo
  | 0, r => r
  | n + 1, r => .unusable :: gap n r
def poolList (es : List (Nat × CpInfo)) (last : Nat) : List CpInfo := es.foldr (fun e r => gap e.1 (e.2 :: r)) (gap last [])
def pool (es : List (Nat × CpInfo)) (last : Nat) : Array CpInfo := ⟨poolList es last⟩
def fileOf (pool : Array CpInfo) (this : Nat) (attrs : Array Attribute := #[]) (ms : Array MethodInfo := #[]) (fl : Nat := 33) (sup : Nat := 0) (ifs : Array Nat := #[]) (fds : Array FieldInfo := #[]) : ClassFile where
  minorVersion := 0
  majorVersion := 65
  constantPool := pool
  accessFlags := fl
  thisClass := this
  superClass := sup
  interfaces := ifs
  fields := fds
  methods := ms
  attributes := attrs
def plain (name : String) (sup : Option ClassId) : Class where
  name := name
  kind := .ordinary
  loader := none
  accessFlags := 33
  super := sup
  interfaces := #[]
  cf := none
  fields := #[]
  methods := #[]
  instanceTypes := #[]
  staticTypes := #[]
  resolved := #[]
  callSites := []
  init := .initialized
  statics := none
  mirror := none

def pool0 : Array CpInfo := pool [(5, u "<init>"), (0, u "()V"), (1, .class_ 10), (1, u "java/lang/Object")] 113

def k0c0 : Code := { maxStack := 0, maxLocals := 1, code := object_method_1_code, exceptionTable := #[], attributes := #[] }
def k0m0 : Method := { name := "<init>", desc := "()V", sig := { parameters := [], returnType := none }, accessFlags := 1, code := some k0c0 }
/-- java/lang/Object -/
def k0 : Class := { plain "java/lang/Object" none with
  accessFlags := 33
  interfaces := #[]
  cf := some (fileOf pool0 8 #[] #[{ accessFlags := 1, nameIndex := 5, descriptorIndex := 6, attributes := #[] }] 33 0 #[] #[])
  fields := #[]
  methods := #[k0m0]
  instanceTypes := #[]
  staticTypes := #[]
  resolved := Array.replicate 124 none
  statics := none }

def pool1 : Array CpInfo := pool [(2, .class_ 4), (1, u "java/lang/Object"), (0, u "<init>"), (0, u "()V"), (0, .class_ 8), (0, u "com/example/adhoc/adhoc/submission/Layout$OneHigh"), (0, .methodref 7 10), (0, .nameAndType 5 11), (0, u "(IIZZ)V"), (0, .methodref 7 13), (0, .nameAndType 14 15), (0, u "shown"), (0, u "()I"), (0, .methodref 7 17), (0, .nameAndType 18 19), (0, u "passed"), (0, u "()Lcom/example/adhoc/adhoc/submission/Layout$OneHigh;"), (0, .class_ 21), (0, u "com/example/adhoc/adhoc/submission/OneHighShownPinLaw"), (2, u "law"), (0, u "(III)Z")] 7

def k1m0 : Method := { name := "<init>", desc := "()V", sig := { parameters := [], returnType := none }, accessFlags := 1, code := none }
def k1c1 : Code := { maxStack := 6, maxLocals := 9, code := code, exceptionTable := #[], attributes := #[] }
def k1m1 : Method := { name := "law", desc := "(III)Z", sig := { parameters := [.int, .int, .int], returnType := some .boolean }, accessFlags := 9, code := some k1c1 }
/-- com/example/adhoc/adhoc/submission/OneHighShownPinLaw -/
def k1 : Class := { plain "com/example/adhoc/adhoc/submission/OneHighShownPinLaw" (some 0) with
  accessFlags := 49
  interfaces := #[]
  cf := some (fileOf pool1 20 #[] #[{ accessFlags := 1, nameIndex := 5, descriptorIndex := 6, attributes := #[] }, { accessFlags := 9, nameIndex := 24, descriptorIndex := 25, attributes := #[] }] 49 2 #[] #[])
  fields := #[]
  methods := #[k1m0, k1m1]
  instanceTypes := #[]
  staticTypes := #[]
  resolved := Array.replicate 33 none
  statics := none }

def pool2 : Array CpInfo := pool [(1, .methodref 2 3), (0, .class_ 4), (0, .nameAndType 5 6), (0, u "java/lang/Object"), (0, u "<init>"), (0, u "()V"), (0, .class_ 8), (0, u "java/lang/Record")] 13

def k2c0 : Code := { maxStack := 1, maxLocals := 1, code := jdk_30_method_1_code, exceptionTable := #[], attributes := #[] }
def k2m0 : Method := { name := "<init>", desc := "()V", sig := { parameters := [], returnType := none }, accessFlags := 4, code := some k2c0 }
/-- java/lang/Record -/
def k2 : Class := { plain "java/lang/Record" (some 0) with
  accessFlags := 1057
  interfaces := #[]
  cf := some (fileOf pool2 7 #[] #[{ accessFlags := 4, nameIndex := 5, descriptorIndex := 6, attributes := #[] }] 1057 2 #[] #[])
  fields := #[]
  methods := #[k2m0]
  instanceTypes := #[]
  staticTypes := #[]
  resolved := Array.replicate 22 none
  statics := none }

def pool3 : Array CpInfo := pool [(1, .methodref 2 3), (0, .class_ 4), (0, .nameAndType 5 6), (0, u "java/lang/Record"), (0, u "<init>"), (0, u "()V"), (0, .fieldref 8 9), (0, .class_ 10), (0, .nameAndType 11 12), (0, u "com/example/adhoc/adhoc/submission/Layout$OneHigh"), (0, u "run"), (0, u "I"), (0, .fieldref 8 14), (0, .nameAndType 15 12), (0, u "stretch"), (0, .fieldref 8 17), (0, .nameAndType 18 19), (0, u "showing"), (0, u "Z"), (0, .fieldref 8 21), (0, .nameAndType 22 19), (0, u "firstOfTopic"), (0, .methodref 8 24), (0, .nameAndType 5 25), (0, u "(IIZZ)V"), (14, u "START"), (0, u "Lcom/example/adhoc/adhoc/submission/Layout$OneHigh;"), (3, u "shown"), (0, u "()I"), (1, u "passed"), (0, u "()Lcom/example/adhoc/adhoc/submission/Layout$OneHigh;"), (7, .class_ 58), (0, u "com/example/adhoc/adhoc/submission/Layout")] 22

def k3c0 : Code := { maxStack := 2, maxLocals := 5, code := prog_27_method_1_code, exceptionTable := #[], attributes := #[] }
def k3m0 : Method := { name := "<init>", desc := "(IIZZ)V", sig := { parameters := [.int, .int, .boolean, .boolean], returnType := none }, accessFlags := 1, code := some k3c0 }
def k3c1 : Code := { maxStack := 1, maxLocals := 1, code := prog_27_method_2_code, exceptionTable := #[], attributes := #[] }
def k3m1 : Method := { name := "shown", desc := "()I", sig := { parameters := [], returnType := some .int }, accessFlags := 0, code := some k3c1 }
def k3c2 : Code := { maxStack := 6, maxLocals := 1, code := prog_27_method_3_code, exceptionTable := #[], attributes := #[] }
def k3m2 : Method := { name := "passed", desc := "()Lcom/example/adhoc/adhoc/submission/Layout$OneHigh;", sig := { parameters := [], returnType := some (.object "com/example/adhoc/adhoc/submission/Layout$OneHigh") }, accessFlags := 0, code := some k3c2 }
/-- com/example/adhoc/adhoc/submission/Layout$OneHigh -/
def k3 : Class := { plain "com/example/adhoc/adhoc/submission/Layout$OneHigh" (some 2) with
  accessFlags := 49
  interfaces := #[]
  cf := some (fileOf pool3 8 #[.nestHost 57] #[{ accessFlags := 1, nameIndex := 5, descriptorIndex := 25, attributes := #[] }, { accessFlags := 0, nameIndex := 45, descriptorIndex := 46, attributes := #[] }, { accessFlags := 0, nameIndex := 48, descriptorIndex := 49, attributes := #[] }] 49 2 #[] #[{ accessFlags := 18, nameIndex := 11, descriptorIndex := 12, attributes := #[] }, { accessFlags := 18, nameIndex := 15, descriptorIndex := 12, attributes := #[] }, { accessFlags := 18, nameIndex := 18, descriptorIndex := 19, attributes := #[] }, { accessFlags := 18, nameIndex := 22, descriptorIndex := 19, attributes := #[] }, { accessFlags := 24, nameIndex := 40, descriptorIndex := 41, attributes := #[] }])
  fields := #[{ name := "run", type := .int, accessFlags := 18, slot := 0, constantValue := 0 }, { name := "stretch", type := .int, accessFlags := 18, slot := 1, constantValue := 0 }, { name := "showing", type := .boolean, accessFlags := 18, slot := 2, constantValue := 0 }, { name := "firstOfTopic", type := .boolean, accessFlags := 18, slot := 3, constantValue := 0 }, { name := "START", type := (.object "com/example/adhoc/adhoc/submission/Layout$OneHigh"), accessFlags := 24, slot := 0, constantValue := 0 }]
  methods := #[k3m0, k3m1, k3m2]
  instanceTypes := #[.int, .int, .boolean, .boolean]
  staticTypes := #[(.object "com/example/adhoc/adhoc/submission/Layout$OneHigh")]
  resolved := Array.replicate 81 none
  statics := none }

def pool4 : Array CpInfo := pool [(1, u "java/lang/Cloneable"), (0, .class_ 1), (0, u "java/lang/Object"), (0, .class_ 3)] 3

/-- java/lang/Cloneable -/
def k4 : Class := { plain "java/lang/Cloneable" (some 0) with
  accessFlags := 1537
  interfaces := #[]
  cf := some (fileOf pool4 2 #[] #[] 1537 4 #[] #[])
  fields := #[]
  methods := #[]
  instanceTypes := #[]
  staticTypes := #[]
  resolved := Array.replicate 8 none
  statics := none }

def pool5 : Array CpInfo := pool [(1, u "java/io/Serializable"), (0, .class_ 1), (0, u "java/lang/Object"), (0, .class_ 3)] 3

/-- java/io/Serializable -/
def k5 : Class := { plain "java/io/Serializable" (some 0) with
  accessFlags := 1537
  interfaces := #[]
  cf := some (fileOf pool5 2 #[] #[] 1537 4 #[] #[])
  fields := #[]
  methods := #[]
  instanceTypes := #[]
  staticTypes := #[]
  resolved := Array.replicate 8 none
  statics := none }

/-- the primitive byte -/
def k6 : Class := { plain "byte" none with kind := .primitive 'B', accessFlags := 0x411 }
/-- [B -/
def k7 : Class := { plain "[B" (some 0) with kind := .array 6 .byte, interfaces := #[4, 5], accessFlags := 1041 }

/-- the primitive int -/
def k8 : Class := { plain "int" none with kind := .primitive 'I', accessFlags := 0x411 }
/-- [I -/
def k9 : Class := { plain "[I" (some 0) with kind := .array 8 .int, interfaces := #[4, 5], accessFlags := 1041 }

def heap : Heap := #[]
def classes : Array Class := #[k0, k1, k2, k3, k4, k5, k6, k7, k8, k9]
def interned : List (Array UInt16 × Addr) := []
def slotsUsed : Nat := 0
def theMethod : MethodId := ⟨1, 1⟩
def args0 : Array Value := #[.int 5, .int 6, .int 7]
def aboutOver (below : List Frame) : State where
  vm := { classes := classes, interned := interned.toArray }
  heap := heap
  slotsUsed := slotsUsed
  threads := #[{ frames := .invoking theMethod args0 :: below }]
def below0 : List Frame := [.native { method := ⟨0, 0⟩, args := #[] }]
def about1 : State := aboutOver below0
def p0 : Program := .bare "" "" ""
def e0 : Env := launch0.env 0 0 0
theorem w_frames : about1.frames = Frame.invoking theMethod args0 :: below0 := rfl
set_option maxRecDepth 65536 in
theorem w_args : argsFit about1.vm theMethod args0 = true := by decide +kernel
set_option maxRecDepth 65536 in
theorem w_heap : heapFits about1 = true := by decide +kernel
set_option maxRecDepth 65536 in
theorem w_runnable : about1.curStatus? = some .runnable := by decide +kernel
set_option maxRecDepth 65536 in
theorem w_alone : about1.alone = true := by decide +kernel
set_option maxRecDepth 65536 in
theorem w_named : about1.methodNamed? x = some theMethod := by decide +kernel
set_option maxRecDepth 65536 in
theorem w_hears : about1.hears theMethod below0 = true := by decide +kernel
set_option maxRecDepth 65536 in
theorem w_ripe : about1.ripe theMethod args0 below0 = true := by decide +kernel
theorem w_running : about1.status = .running := rfl
set_option maxRecDepth 65536 in
theorem w_room : about1.hasRoom e0.platform room_1 = true :=
  launch0.hasRoom_least _ room_1 (by decide +kernel) (by decide +kernel) (by decide +kernel) (by decide +kernel) (by decide +kernel) (by decide +kernel)
theorem allAtoms_all (ts : List Jvm.Cond) (a : Array Jvm.Value) (st : Jvm.State) : (allAtoms ts).before a st = ts.all (fun c => c.before a st) := by
  induction ts with
  | nil => rfl
  | cons c t ih =>
    show (Jvm.Cond.and c (allAtoms t)).before a st = _
    rw [Jvm.Cond.before_and, ih, List.all_cons]
def words1 : List Jvm.Cond := Jvm.Cond.code x code maxLocals ret :: tables_1
/-- a 'code' word, met by the world's own term for the bytes: nothing is compared byte by byte -/
theorem code_word {y : MethodName} {bytes : ByteArray} {mx : Nat} {rt : Option FieldType} {a : Array Value} {s : State} {m : MethodId} {meth : Method} {c : Code} (h1 : s.methodNamed? y = some m) (h2 : s.vm.method? m = some meth) (h3 : meth.code = some c) (h4 : c.code = bytes)
    (h5 : (c.maxLocals == mx && c.exceptionTable.isEmpty && decide (c.maxStack ≤ mostOperands) && decide (meth.sig.returnType = rt) && !meth.locks && decide (parseMethodDescriptor y.desc = some meth.sig)) = true) : (Jvm.Cond.code y bytes mx rt).before a s = true := by
  simp only [Bool.and_eq_true, beq_iff_eq, Bool.not_eq_true', decide_eq_true_eq] at h5
  obtain ⟨⟨⟨⟨⟨g1, g2⟩, g3⟩, g4⟩, g5⟩, g6⟩ := h5
  simp [Cond.before, Cond.holds, Cond.value, h1, h2, h3, h4, g1, g2, g3, g4, g5, g6]
def isCode : Jvm.Cond → Bool
  | .code _ _ _ _ => true
  | _ => false
theorem all_split {L : List Jvm.Cond} {P : Jvm.Cond → Bool} (h1 : L.all (fun c => isCode c || P c) = true) (h2 : ∀ c ∈ L.filter isCode, P c = true) : L.all P = true := by
  refine List.all_eq_true.mpr fun c hc => ?_
  have h := List.all_eq_true.mp h1 c hc
  rcases Bool.eq_false_or_eq_true (isCode c) with hi | hi
  · exact h2 c (List.mem_filter.mpr ⟨hc, hi⟩)
  · simpa [hi] using h
set_option maxRecDepth 65536 in
theorem w_c0 : (Jvm.Cond.code x code maxLocals ret).before args0 about1 = true := code_word (m := ⟨1, 1⟩) (meth := k1m1) (c := k1c1) (by decide +kernel) rfl rfl rfl (by decide +kernel)
set_option maxRecDepth 65536 in
theorem w_c1 : (Jvm.Cond.code ({ cls := "com/example/adhoc/adhoc/submission/Layout$OneHigh", name := "<init>", desc := "(IIZZ)V" } : Jvm.MethodName) prog_27_method_1_code (5 : Nat) (Option.none : Option Jvm.ClassFile.FieldType)).before args0 about1 = true := code_word (m := ⟨3, 0⟩) (meth := k3m0) (c := k3c0) (by decide +kernel) rfl rfl rfl (by decide +kernel)
set_option maxRecDepth 65536 in
theorem w_c2 : (Jvm.Cond.code ({ cls := "java/lang/Record", name := "<init>", desc := "()V" } : Jvm.MethodName) jdk_30_method_1_code (1 : Nat) (Option.none : Option Jvm.ClassFile.FieldType)).before args0 about1 = true := code_word (m := ⟨2, 0⟩) (meth := k2m0) (c := k2c0) (by decide +kernel) rfl rfl rfl (by decide +kernel)
set_option maxRecDepth 65536 in
theorem w_c3 : (Jvm.Cond.code ({ cls := "java/lang/Object", name := "<init>", desc := "()V" } : Jvm.MethodName) object_method_1_code (1 : Nat) (Option.none : Option Jvm.ClassFile.FieldType)).before args0 about1 = true := code_word (m := ⟨0, 0⟩) (meth := k0m0) (c := k0c0) (by decide +kernel) rfl rfl rfl (by decide +kernel)
set_option maxRecDepth 65536 in
theorem w_c4 : (Jvm.Cond.code ({ cls := "com/example/adhoc/adhoc/submission/Layout$OneHigh", name := "shown", desc := "()I" } : Jvm.MethodName) prog_27_method_2_code (1 : Nat) (Option.some Jvm.ClassFile.FieldType.int)).before args0 about1 = true := code_word (m := ⟨3, 1⟩) (meth := k3m1) (c := k3c1) (by decide +kernel) rfl rfl rfl (by decide +kernel)
set_option maxRecDepth 65536 in
theorem w_c5 : (Jvm.Cond.code ({ cls := "com/example/adhoc/adhoc/submission/Layout$OneHigh", name := "passed", desc := "()Lcom/example/adhoc/adhoc/submission/Layout$OneHigh;" } : Jvm.MethodName) prog_27_method_3_code (1 : Nat) (Option.some (Jvm.ClassFile.FieldType.object "com/example/adhoc/adhoc/submission/Layout$OneHigh"))).before args0 about1 = true := code_word (m := ⟨3, 2⟩) (meth := k3m2) (c := k3c2) (by decide +kernel) rfl rfl rfl (by decide +kernel)
def codes1 : List Jvm.Cond := [Jvm.Cond.code x code maxLocals ret, Jvm.Cond.code ({ cls := "com/example/adhoc/adhoc/submission/Layout$OneHigh", name := "<init>", desc := "(IIZZ)V" } : Jvm.MethodName) prog_27_method_1_code (5 : Nat) (Option.none : Option Jvm.ClassFile.FieldType), Jvm.Cond.code ({ cls := "java/lang/Record", name := "<init>", desc := "()V" } : Jvm.MethodName) jdk_30_method_1_code (1 : Nat) (Option.none : Option Jvm.ClassFile.FieldType), Jvm.Cond.code ({ cls := "java/lang/Object", name := "<init>", desc := "()V" } : Jvm.MethodName) object_method_1_code (1 : Nat) (Option.none : Option Jvm.ClassFile.FieldType), Jvm.Cond.code ({ cls := "com/example/adhoc/adhoc/submission/Layout$OneHigh", name := "shown", desc := "()I" } : Jvm.MethodName) prog_27_method_2_code (1 : Nat) (Option.some Jvm.ClassFile.FieldType.int), Jvm.Cond.code ({ cls := "com/example/adhoc/adhoc/submission/Layout$OneHigh", name := "passed", desc := "()Lcom/example/adhoc/adhoc/submission/Layout$OneHigh;" } : Jvm.MethodName) prog_27_method_3_code (1 : Nat) (Option.some (Jvm.ClassFile.FieldType.object "com/example/adhoc/adhoc/submission/Layout$OneHigh"))]
set_option maxRecDepth 65536 in
theorem codes_eq : words1.filter isCode = codes1 := rfl
theorem w_codes : ∀ c ∈ words1.filter isCode, c.before args0 about1 = true := by
  rw [codes_eq]
  intro c hc
  simp only [codes1, List.mem_cons, List.not_mem_nil, or_false] at hc
  rcases hc with rfl | rfl | rfl | rfl | rfl | rfl
  · exact w_c0
  · exact w_c1
  · exact w_c2
  · exact w_c3
  · exact w_c4
  · exact w_c5
set_option maxRecDepth 65536 in
theorem w_t1 : (words1.take 24).all (fun c => isCode c || c.before args0 about1) = true := by decide +kernel
set_option maxRecDepth 65536 in
theorem w_t2 : (words1.drop 24).all (fun c => isCode c || c.before args0 about1) = true := by decide +kernel
theorem w_tables : (allAtoms (Jvm.Cond.code x code maxLocals ret :: tables_1)).before args0 about1 = true := by
  rw [allAtoms_all]
  show words1.all (fun c => c.before args0 about1) = true
  refine all_split ?_ w_codes
  rw [← List.take_append_drop 24 words1, List.all_append, w_t1, w_t2]
  rfl
set_option maxRecDepth 65536 in
theorem w_case : (Jvm.Cond.and given_1 narrow_1).before args0 about1 = true := by decide +kernel
theorem w_applies : (headSpec (Jvm.Cond.code x code maxLocals ret :: tables_1) room_1).applies x e0.platform about1 = true :=
  (Spec.applies_iff w_frames).mpr ⟨w_running, w_runnable, w_alone, w_named, w_hears, w_ripe, w_room, w_tables⟩
theorem atStart : AtStart classFile x code maxLocals ret World_1 tables_1 room_1 Calls_1 rest_1 Pre_1 launch0 p0 e0 about1 theMethod args0 below0 :=
  ⟨lists_1, trivial, launch0.admits_env _ _ _, launch0.least_env, fairChoices_fair.cas, fairChoices_fair.clock, w_frames, w_args, w_heap, w_applies, trivial, trivial, w_case⟩
end start1
theorem witness_1 : WitnessClaimed_1 := ⟨start1.p0, start1.e0, start1.about1, start1.theMethod, start1.args0, start1.below0, start1.atStart⟩
end Jvm.Pilot.@@N@@
