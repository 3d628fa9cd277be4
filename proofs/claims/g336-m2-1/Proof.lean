import JvmDerived
import JvmDerived.Pilot.@@N@@Statement
import JvmDerived.Pilot.@@N@@Code
set_option linter.unusedVariables false
set_option linter.unusedSimpArgs false
namespace Jvm.RoadKit
open Sem ClassFile Op Lib Jvm.Stand Jvm.Free Jvm.LawKit
section New
variable {p : Program} {l : Launch} {e : Env} {R : Room} {s : State} {m : MethodId} {args : Array Value} {below : List Frame} {meth : Method} {c : Code} {T : State} {locs : List Loc} {cells slots : Nat}
theorem retI (X : Stand p l e R s m args below meth c T locs cells slots) (hx : p.tables.exec = Jvm.exec) {pc : Nat} {Ls : Array Slot} {z : Int32} {rest : List Value} (hret : meth.sig.returnType = some .int) (hd : decode c.code pc = .ok (.ireturn, 1)) {fs : List Frame}
    (hl : ∀ (f : JFrame) (acts : List Action), f.method = m → f.locked = none → f.entered = [] → (doReturn e (T.setTop f) acts (some (.int z))).1 = T.setFrames fs) : Steps p.tables e below (T.setTop (mkF m pc Ls (.int z :: rest))) (T.setFrames fs) := by
  have hm' : T.vm.method? m = some meth := X.method'
  have hn : narrow .int (.int z) = .int z := rfl
  show Steps p.tables e below (T.setTop { method := m, pc := pc, locals := Ls, stack := _ :: rest, locked := none }) _
  jvm_step X.here [X.here.top, hx, hd, hm', hret, hn]
  first | (intro acts; rw [hl _ acts rfl rfl rfl]) | rw [hl _ _ rfl rfl rfl]
  exact Steps.refl _
end New
end Jvm.RoadKit
namespace Jvm.Pilot.@@N@@
open Jvm Jvm.ClassFile Sem Op Lib Jvm.Free Jvm.Stand Jvm.LawKit Jvm.RoadKit Bundle Jvm.Pilot.@@N@@.Jvm.D
def own_ws (c : Int32) : Int32 := if c = 32 ∨ c = 9 ∨ c = 10 ∨ c = 13 then 1 else 0
def own_bit (c : Int32) : Int64 := (((4294977024 : Int64).toUInt64 >>> (c &&& 0x3f).toInt64.toUInt64).toInt64) &&& (1 : Int64)
def own_exp (c : Int32) : Int32 := if c < 64 ∧ ¬ own_bit c = 0 then 1 else 0
theorem own_small : ∀ k : Fin 64, own_ws (Int32.ofNat k.1) = own_exp (Int32.ofNat k.1) := by decide +kernel
theorem own_agree (c : Int32) (h0 : 0 ≤ c.toInt) : own_ws c = own_exp c := by
  by_cases h : c < 64
  · have h' : c.toInt < 64 := by rw [Int32.lt_iff_toInt_lt] at h; exact h
    have e : c = Int32.ofNat c.toInt.toNat := by
      rw [← Int32.toInt_inj, Int32.toInt_ofNat_of_lt (by omega)]; omega
    have := own_small ⟨c.toInt.toNat, by omega⟩
    rw [← e] at this; exact this
  · have h' : ¬ c.toInt < 64 := fun q => h (by rw [Int32.lt_iff_toInt_lt]; exact q)
    have n1 : ¬ c = 32 := fun q => h' (by rw [q]; decide)
    have n2 : ¬ c = 9 := fun q => h' (by rw [q]; decide)
    have n3 : ¬ c = 10 := fun q => h' (by rw [q]; decide)
    have n4 : ¬ c = 13 := fun q => h' (by rw [q]; decide)
    simp [own_ws, own_exp, h, n1, n2, n3, n4]
theorem own_pd0 : parseMethodDescriptor "(C)Z" = some ⟨[.char], some .boolean⟩ := by decide +kernel
theorem d1_0 : decode prog_199_method_2_code 0 = .ok (.iload_n 0, 1) := by decide +kernel
theorem d1_1 : decode prog_199_method_2_code 1 = .ok (.bipush 32, 2) := by decide +kernel
theorem d1_3 : decode prog_199_method_2_code 3 = .ok (.if_icmp .eq 21, 3) := by decide +kernel
theorem d1_6 : decode prog_199_method_2_code 6 = .ok (.iload_n 0, 1) := by decide +kernel
theorem d1_7 : decode prog_199_method_2_code 7 = .ok (.bipush 9, 2) := by decide +kernel
theorem d1_9 : decode prog_199_method_2_code 9 = .ok (.if_icmp .eq 15, 3) := by decide +kernel
theorem d1_12 : decode prog_199_method_2_code 12 = .ok (.iload_n 0, 1) := by decide +kernel
theorem d1_13 : decode prog_199_method_2_code 13 = .ok (.bipush 10, 2) := by decide +kernel
theorem d1_15 : decode prog_199_method_2_code 15 = .ok (.if_icmp .eq 9, 3) := by decide +kernel
theorem d1_18 : decode prog_199_method_2_code 18 = .ok (.iload_n 0, 1) := by decide +kernel
theorem d1_19 : decode prog_199_method_2_code 19 = .ok (.bipush 13, 2) := by decide +kernel
theorem d1_21 : decode prog_199_method_2_code 21 = .ok (.if_icmp .ne 7, 3) := by decide +kernel
theorem d1_24 : decode prog_199_method_2_code 24 = .ok (.iconst 1, 1) := by decide +kernel
theorem d1_25 : decode prog_199_method_2_code 25 = .ok (.goto 4, 3) := by decide +kernel
theorem d1_28 : decode prog_199_method_2_code 28 = .ok (.iconst 0, 1) := by decide +kernel
theorem d1_29 : decode prog_199_method_2_code 29 = .ok (.ireturn, 1) := by decide +kernel
theorem pn_rm1 : plainName "com/example/nano_xpath/nanoxpath/XmlWhitespace" = true := by first | (simp [plainName, overriddenIn]; done) | decide +kernel
theorem ef_rm1 (m : MethodId) (vc : Int32) : entryFrame m #[(.int vc)] 1 = mkF m 0 #[.val (.int vc)] [] := by first | (simp [entryFrame, mkF, argsToLocals, Value.category]; done) | rfl
def Q1 (Z : State) (vc : Int32) (h0 : Heap) (n0 : Nat) (v : Option Value) (h : Heap) (L : List Loc) : Prop := v = some (.int (own_ws vc)) ∧ Fr n0 L ∧ h = h0
set_option maxRecDepth 65536 in
set_option maxHeartbeats 40000000 in
theorem rm1 (l : Launch) (Z : State) (a0 : Array Value) (hw : ∀ d ∈ tables_1, d.before a0 Z = true) (ws : List Jvm.Cond) (vc : Int32) (h0 : Heap) (n0 : Nat) (Z0 : n0 ≤ h0.size) :
    MetFree l (⟨"com/example/nano_xpath/nanoxpath/XmlWhitespace", "isWhitespace", "(C)Z"⟩ : MethodName) (head1 (Jvm.Cond.code (⟨"com/example/nano_xpath/nanoxpath/XmlWhitespace", "isWhitespace", "(C)Z"⟩ : MethodName) prog_199_method_2_code 1 (some .boolean) :: ws) ({ frames := 0, cells := 0, slots := 0, locals := 0 } : Room)) (fun a U => a = #[(.int vc)] ∧ Z.Warmed39 U.vm ∧ U.heap = h0) (fun _ _ _ _ _ => True) (fun _ U o U' => ∃ v L, o = .returned v ∧ Q1 Z vc h0 n0 v U'.heap L ∧ FrameEnd U o U' L ({ frames := 0, cells := 0, slots := 0, locals := 0 } : Room).cells ({ frames := 0, cells := 0, slots := 0, locals := 0 } : Room).slots) := by
  refine MetFree.of_bodySF (plainFor_of_name pn_rm1) hisR ?_
  intro p e s m args below meth c s₁ Bd hml0 hP hK
  obtain ⟨rfl, hZ, hh⟩ := hP
  have hx := Bd.exec
  have hby := Bd.bytes
  have hml : c.maxLocals = 1 := hml0
  have hown : s.vm.findClass "com/example/nano_xpath/nanoxpath/XmlWhitespace" = some m.cls := findClass_of_methodNamed Bd.named
  have hnm := (name_of_methodNamed Bd.named Bd.method).1
  have X0 : Stand p l e ({ frames := 0, cells := 0, slots := 0, locals := 0 } : Room) s m #[(.int vc)] below meth c s₁ [] 0 0 := Stand.of_body Bd
  have e0 : s₁.heap = h0 := by rw [← hh, Bd.state]; rfl
  have N0 := Fr.nil n0
  have pre0 : ∀ t, Steps p.tables e below (s₁.setTop (mkF m 0 #[.val (.int vc)] [])) t → Steps p.tables e below (s₁.setTop (entryFrame m #[(.int vc)] 1)) t := fun t k => castTop (ef_rm1 m vc) k
  have pre1 : ∀ t, Steps p.tables e below (s₁.setTop (mkF m 3 #[.val (.int vc)] [(.int (32 : Int32)), (.int vc)])) t → Steps p.tables e below (s₁.setTop (entryFrame m #[(.int vc)] 1)) t := by
    intro t k
    refine pre0 t ?_
    show Steps p.tables e below (s₁.setTop (mkF m 0 #[.val (.int vc)] [])) _
    refine XS.iloadN X0.here hx rfl (hb hby d1_0) rfl ?_
    show Steps p.tables e below (s₁.setTop (mkF m 1 #[.val (.int vc)] [(.int vc)])) _
    refine XS.bipush X0.here hx rfl (hb hby d1_1) ?_
    show Steps p.tables e below (s₁.setTop (mkF m 3 #[.val (.int vc)] [(.int (32 : Int32)), (.int vc)])) _
    exact k
  by_cases hc2 : vc = (32 : Int32)
  · obtain ⟨fs, hr, hrun, hended, hW, hsame⟩ := X0.leave (v := some (.int (1 : Int32))) (fun h => by rw [Bd.returns] at h; cases h)
    refine ⟨_, _, pre1 _ ?_, hrun, hended, _, _, rfl, ?_, ⟨_, rfl⟩, hW, hsame.mono (by decide) (by decide)⟩
    · show Steps p.tables e below (s₁.setTop (mkF m 3 #[.val (.int vc)] [(.int (32 : Int32)), (.int vc)])) _
      refine XS.icmpYes X0.here hx rfl (pc0 := 3) (pc' := 24) rfl (hb hby d1_3) rfl (teq hc2).1 (by decide) (by decide) ?_
      show Steps p.tables e below (s₁.setTop (mkF m 24 #[.val (.int vc)] [])) _
      refine XS.iconst X0.here hx rfl (hb hby d1_24) ?_
      show Steps p.tables e below (s₁.setTop (mkF m 25 #[.val (.int vc)] [(.int (1 : Int32))])) _
      refine XS.goto X0.here hx rfl (pc0 := 25) (pc' := 29) rfl (hb hby d1_25) (by decide) (by decide) ?_
      show Steps p.tables e below (s₁.setTop (mkF m 29 #[.val (.int vc)] [(.int (1 : Int32))])) _
      exact retN X0 hx (t := .boolean) Bd.returns (by simp) (hb hby d1_29) hr
    · show Q1 Z vc h0 n0 _ s₁.heap _
      rw [e0]
      exact ⟨by simp [own_ws, hc2], N0, rfl⟩
  · have pre3 : ∀ t, Steps p.tables e below (s₁.setTop (mkF m 9 #[.val (.int vc)] [(.int (9 : Int32)), (.int vc)])) t → Steps p.tables e below (s₁.setTop (entryFrame m #[(.int vc)] 1)) t := by
      intro t k
      refine pre1 t ?_
      show Steps p.tables e below (s₁.setTop (mkF m 3 #[.val (.int vc)] [(.int (32 : Int32)), (.int vc)])) _
      refine XS.icmpNo X0.here hx rfl (hb hby d1_3) rfl (feq hc2).1 ?_
      show Steps p.tables e below (s₁.setTop (mkF m 6 #[.val (.int vc)] [])) _
      refine XS.iloadN X0.here hx rfl (hb hby d1_6) rfl ?_
      show Steps p.tables e below (s₁.setTop (mkF m 7 #[.val (.int vc)] [(.int vc)])) _
      refine XS.bipush X0.here hx rfl (hb hby d1_7) ?_
      show Steps p.tables e below (s₁.setTop (mkF m 9 #[.val (.int vc)] [(.int (9 : Int32)), (.int vc)])) _
      exact k
    by_cases hc4 : vc = (9 : Int32)
    · obtain ⟨fs, hr, hrun, hended, hW, hsame⟩ := X0.leave (v := some (.int (1 : Int32))) (fun h => by rw [Bd.returns] at h; cases h)
      refine ⟨_, _, pre3 _ ?_, hrun, hended, _, _, rfl, ?_, ⟨_, rfl⟩, hW, hsame.mono (by decide) (by decide)⟩
      · show Steps p.tables e below (s₁.setTop (mkF m 9 #[.val (.int vc)] [(.int (9 : Int32)), (.int vc)])) _
        refine XS.icmpYes X0.here hx rfl (pc0 := 9) (pc' := 24) rfl (hb hby d1_9) rfl (teq hc4).1 (by decide) (by decide) ?_
        show Steps p.tables e below (s₁.setTop (mkF m 24 #[.val (.int vc)] [])) _
        refine XS.iconst X0.here hx rfl (hb hby d1_24) ?_
        show Steps p.tables e below (s₁.setTop (mkF m 25 #[.val (.int vc)] [(.int (1 : Int32))])) _
        refine XS.goto X0.here hx rfl (pc0 := 25) (pc' := 29) rfl (hb hby d1_25) (by decide) (by decide) ?_
        show Steps p.tables e below (s₁.setTop (mkF m 29 #[.val (.int vc)] [(.int (1 : Int32))])) _
        exact retN X0 hx (t := .boolean) Bd.returns (by simp) (hb hby d1_29) hr
      · show Q1 Z vc h0 n0 _ s₁.heap _
        rw [e0]
        exact ⟨by simp [own_ws, hc2, hc4], N0, rfl⟩
    · have pre5 : ∀ t, Steps p.tables e below (s₁.setTop (mkF m 15 #[.val (.int vc)] [(.int (10 : Int32)), (.int vc)])) t → Steps p.tables e below (s₁.setTop (entryFrame m #[(.int vc)] 1)) t := by
        intro t k
        refine pre3 t ?_
        show Steps p.tables e below (s₁.setTop (mkF m 9 #[.val (.int vc)] [(.int (9 : Int32)), (.int vc)])) _
        refine XS.icmpNo X0.here hx rfl (hb hby d1_9) rfl (feq hc4).1 ?_
        show Steps p.tables e below (s₁.setTop (mkF m 12 #[.val (.int vc)] [])) _
        refine XS.iloadN X0.here hx rfl (hb hby d1_12) rfl ?_
        show Steps p.tables e below (s₁.setTop (mkF m 13 #[.val (.int vc)] [(.int vc)])) _
        refine XS.bipush X0.here hx rfl (hb hby d1_13) ?_
        show Steps p.tables e below (s₁.setTop (mkF m 15 #[.val (.int vc)] [(.int (10 : Int32)), (.int vc)])) _
        exact k
      by_cases hc6 : vc = (10 : Int32)
      · obtain ⟨fs, hr, hrun, hended, hW, hsame⟩ := X0.leave (v := some (.int (1 : Int32))) (fun h => by rw [Bd.returns] at h; cases h)
        refine ⟨_, _, pre5 _ ?_, hrun, hended, _, _, rfl, ?_, ⟨_, rfl⟩, hW, hsame.mono (by decide) (by decide)⟩
        · show Steps p.tables e below (s₁.setTop (mkF m 15 #[.val (.int vc)] [(.int (10 : Int32)), (.int vc)])) _
          refine XS.icmpYes X0.here hx rfl (pc0 := 15) (pc' := 24) rfl (hb hby d1_15) rfl (teq hc6).1 (by decide) (by decide) ?_
          show Steps p.tables e below (s₁.setTop (mkF m 24 #[.val (.int vc)] [])) _
          refine XS.iconst X0.here hx rfl (hb hby d1_24) ?_
          show Steps p.tables e below (s₁.setTop (mkF m 25 #[.val (.int vc)] [(.int (1 : Int32))])) _
          refine XS.goto X0.here hx rfl (pc0 := 25) (pc' := 29) rfl (hb hby d1_25) (by decide) (by decide) ?_
          show Steps p.tables e below (s₁.setTop (mkF m 29 #[.val (.int vc)] [(.int (1 : Int32))])) _
          exact retN X0 hx (t := .boolean) Bd.returns (by simp) (hb hby d1_29) hr
        · show Q1 Z vc h0 n0 _ s₁.heap _
          rw [e0]
          exact ⟨by simp [own_ws, hc2, hc4, hc6], N0, rfl⟩
      · have pre7 : ∀ t, Steps p.tables e below (s₁.setTop (mkF m 21 #[.val (.int vc)] [(.int (13 : Int32)), (.int vc)])) t → Steps p.tables e below (s₁.setTop (entryFrame m #[(.int vc)] 1)) t := by
          intro t k
          refine pre5 t ?_
          show Steps p.tables e below (s₁.setTop (mkF m 15 #[.val (.int vc)] [(.int (10 : Int32)), (.int vc)])) _
          refine XS.icmpNo X0.here hx rfl (hb hby d1_15) rfl (feq hc6).1 ?_
          show Steps p.tables e below (s₁.setTop (mkF m 18 #[.val (.int vc)] [])) _
          refine XS.iloadN X0.here hx rfl (hb hby d1_18) rfl ?_
          show Steps p.tables e below (s₁.setTop (mkF m 19 #[.val (.int vc)] [(.int vc)])) _
          refine XS.bipush X0.here hx rfl (hb hby d1_19) ?_
          show Steps p.tables e below (s₁.setTop (mkF m 21 #[.val (.int vc)] [(.int (13 : Int32)), (.int vc)])) _
          exact k
        by_cases hc8 : vc = (13 : Int32)
        · obtain ⟨fs, hr, hrun, hended, hW, hsame⟩ := X0.leave (v := some (.int (1 : Int32))) (fun h => by rw [Bd.returns] at h; cases h)
          refine ⟨_, _, pre7 _ ?_, hrun, hended, _, _, rfl, ?_, ⟨_, rfl⟩, hW, hsame.mono (by decide) (by decide)⟩
          · show Steps p.tables e below (s₁.setTop (mkF m 21 #[.val (.int vc)] [(.int (13 : Int32)), (.int vc)])) _
            refine XS.icmpNo X0.here hx rfl (hb hby d1_21) rfl (teq hc8).2 ?_
            show Steps p.tables e below (s₁.setTop (mkF m 24 #[.val (.int vc)] [])) _
            refine XS.iconst X0.here hx rfl (hb hby d1_24) ?_
            show Steps p.tables e below (s₁.setTop (mkF m 25 #[.val (.int vc)] [(.int (1 : Int32))])) _
            refine XS.goto X0.here hx rfl (pc0 := 25) (pc' := 29) rfl (hb hby d1_25) (by decide) (by decide) ?_
            show Steps p.tables e below (s₁.setTop (mkF m 29 #[.val (.int vc)] [(.int (1 : Int32))])) _
            exact retN X0 hx (t := .boolean) Bd.returns (by simp) (hb hby d1_29) hr
          · show Q1 Z vc h0 n0 _ s₁.heap _
            rw [e0]
            exact ⟨by simp [own_ws, hc2, hc4, hc6, hc8], N0, rfl⟩
        · obtain ⟨fs, hr, hrun, hended, hW, hsame⟩ := X0.leave (v := some (.int (0 : Int32))) (fun h => by rw [Bd.returns] at h; cases h)
          refine ⟨_, _, pre7 _ ?_, hrun, hended, _, _, rfl, ?_, ⟨_, rfl⟩, hW, hsame.mono (by decide) (by decide)⟩
          · show Steps p.tables e below (s₁.setTop (mkF m 21 #[.val (.int vc)] [(.int (13 : Int32)), (.int vc)])) _
            refine XS.icmpYes X0.here hx rfl (pc0 := 21) (pc' := 28) rfl (hb hby d1_21) rfl (feq hc8).2 (by decide) (by decide) ?_
            show Steps p.tables e below (s₁.setTop (mkF m 28 #[.val (.int vc)] [])) _
            refine XS.iconst X0.here hx rfl (hb hby d1_28) ?_
            show Steps p.tables e below (s₁.setTop (mkF m 29 #[.val (.int vc)] [(.int (0 : Int32))])) _
            exact retN X0 hx (t := .boolean) Bd.returns (by simp) (hb hby d1_29) hr
          · show Q1 Z vc h0 n0 _ s₁.heap _
            rw [e0]
            exact ⟨by simp [own_ws, hc2, hc4, hc6, hc8], N0, rfl⟩
theorem pn_rm0 : plainName "com/example/nano_xpath/nanoxpath/XmlWhitespaceIsWhitespacePinLaw" = true := by first | (simp [plainName, overriddenIn]; done) | decide +kernel
theorem ef_rm0 (m : MethodId) (vx : Int32) : entryFrame m #[(.int vx)] maxLocals = mkF m 0 #[.val (.int vx), .unset, .unset] [] := by first | (simp [entryFrame, mkF, argsToLocals, Value.category, maxLocals]; done) | rfl
def Q0 (Z : State) (vx : Int32) (h0 : Heap) (n0 : Nat) (v : Option Value) (h : Heap) (L : List Loc) : Prop := v = some (.int 1) ∧ Fr n0 L
set_option maxRecDepth 65536 in
set_option maxHeartbeats 40000000 in
theorem rm0 (l : Launch) (Z : State) (a0 : Array Value) (hw : ∀ d ∈ tables_1, d.before a0 Z = true) (ws : List Jvm.Cond) (vx : Int32) (h0 : Heap) (n0 : Nat) (Z0 : n0 ≤ h0.size) :
    MetFree l x (head1 (Jvm.Cond.code x code maxLocals ret :: ws) room_1) (fun a U => a = #[(.int vx)] ∧ Z.Warmed39 U.vm ∧ U.heap = h0) (fun _ _ _ _ _ => True) (fun _ U o U' => ∃ v L, o = .returned v ∧ Q0 Z vx h0 n0 v U'.heap L ∧ FrameEnd U o U' L room_1.cells room_1.slots) := by
  refine MetFree.of_bodySF (plainFor_of_name pn_rm0) hisR ?_
  intro p e s m args below meth c s₁ Bd hml0 hP hK
  obtain ⟨rfl, hZ, hh⟩ := hP
  have hx := Bd.exec
  have hby := Bd.bytes
  have hml : c.maxLocals = 3 := hml0
  have hown : s.vm.findClass "com/example/nano_xpath/nanoxpath/XmlWhitespaceIsWhitespacePinLaw" = some m.cls := findClass_of_methodNamed Bd.named
  have hnm := (name_of_methodNamed Bd.named Bd.method).1
  have X0 : Stand p l e room_1 s m #[(.int vx)] below meth c s₁ [] 0 0 := Stand.of_body Bd
  have e0 : s₁.heap = h0 := by rw [← hh, Bd.state]; rfl
  have N0 := Fr.nil n0
  have pre0 : ∀ t, Steps p.tables e below (s₁.setTop (mkF m 0 #[.val (.int vx), .unset, .unset] [])) t → Steps p.tables e below (s₁.setTop (entryFrame m #[(.int vx)] maxLocals)) t := fun t k => castTop (ef_rm0 m vx) k
  have pre1 : ∀ t, Steps p.tables e below (s₁.setTop (mkF m 6 #[.val (.int vx), .val (.int ((vx &&& (65535 : Int32)).toUInt32.toUInt16.toUInt32.toInt32)), .unset] [])) t → Steps p.tables e below (s₁.setTop (entryFrame m #[(.int vx)] maxLocals)) t := by
    intro t k
    refine pre0 t ?_
    show Steps p.tables e below (s₁.setTop (mkF m 0 #[.val (.int vx), .unset, .unset] [])) _
    refine XS.iloadN X0.here hx rfl (hb hby at_0) rfl ?_
    show Steps p.tables e below (s₁.setTop (mkF m 1 #[.val (.int vx), .unset, .unset] [(.int vx)])) _
    refine X0.ldcInt hx hown (mvT hZ (hw _ (List.mem_of_getElem? (i := 0) rfl))) (g := (mkF m 1 #[.val (.int vx), .unset, .unset] [(.int vx)])) rfl (hb hby at_1) _ ?_
    show Steps p.tables e below (s₁.setTop (mkF m 3 #[.val (.int vx), .unset, .unset] [(.int (65535 : Int32)), (.int vx)])) _
    refine XS.iand X0.here hx rfl (hb hby at_3) rfl ?_
    show Steps p.tables e below (s₁.setTop (mkF m 4 #[.val (.int vx), .unset, .unset] [(.int (vx &&& (65535 : Int32)))])) _
    refine XS.i2c X0.here hx rfl (hb hby at_4) rfl ?_
    show Steps p.tables e below (s₁.setTop (mkF m 5 #[.val (.int vx), .unset, .unset] [(.int ((vx &&& (65535 : Int32)).toUInt32.toUInt16.toUInt32.toInt32))])) _
    refine XS.istoreN X0.here hx rfl (hb hby at_5) rfl (l' := #[.val (.int vx), .val (.int ((vx &&& (65535 : Int32)).toUInt32.toUInt16.toUInt32.toInt32)), .unset]) rfl ?_
    show Steps p.tables e below (s₁.setTop (mkF m 6 #[.val (.int vx), .val (.int ((vx &&& (65535 : Int32)).toUInt32.toUInt16.toUInt32.toInt32)), .unset] [])) _
    exact k
  obtain ⟨vc, h_vc⟩ : ∃ z : Int32, z = ((vx &&& (65535 : Int32)).toUInt32.toUInt16.toUInt32.toInt32) := ⟨_, rfl⟩
  have pre2 : ∀ t, Steps p.tables e below (s₁.setTop (mkF m 6 #[.val (.int vx), .val (.int vc), .unset] [])) t → Steps p.tables e below (s₁.setTop (entryFrame m #[(.int vx)] maxLocals)) t := by
    subst h_vc
    exact pre1
  obtain ⟨ex, T3, lo3, X3, Nj3, ej3, hj3, pre3⟩ : ∃ (ex : Int32) (T' : State) (lo : List Loc), Stand p l e room_1 s m #[(.int vx)] below meth c T' lo 0 0 ∧ Fr n0 lo ∧ T'.heap = h0 ∧ (ex = own_exp vc) ∧ ∀ t, Steps p.tables e below (T'.setTop (mkF m 29 #[.val (.int vx), .val (.int vc), .unset] [(.int ex)])) t → Steps p.tables e below (s₁.setTop (entryFrame m #[(.int vx)] maxLocals)) t := by
    have pre4 : ∀ t, Steps p.tables e below (s₁.setTop (mkF m 9 #[.val (.int vx), .val (.int vc), .unset] [(.int (64 : Int32)), (.int vc)])) t → Steps p.tables e below (s₁.setTop (entryFrame m #[(.int vx)] maxLocals)) t := by
      intro t k
      refine pre2 t ?_
      show Steps p.tables e below (s₁.setTop (mkF m 6 #[.val (.int vx), .val (.int vc), .unset] [])) _
      refine XS.iloadN X0.here hx rfl (hb hby at_6) rfl ?_
      show Steps p.tables e below (s₁.setTop (mkF m 7 #[.val (.int vx), .val (.int vc), .unset] [(.int vc)])) _
      refine XS.bipush X0.here hx rfl (hb hby at_7) ?_
      show Steps p.tables e below (s₁.setTop (mkF m 9 #[.val (.int vx), .val (.int vc), .unset] [(.int (64 : Int32)), (.int vc)])) _
      exact k
    by_cases hc5 : vc < (64 : Int32)
    · have pre6 : ∀ t, Steps p.tables e below (s₁.setTop (mkF m 21 #[.val (.int vx), .val (.int vc), .unset] [(.int (lcmpW ((((4294977024 : Int64).toUInt64 >>> (vc &&& 0x3f).toInt64.toUInt64).toInt64) &&& (1 : Int64)) (0 : Int64)))])) t → Steps p.tables e below (s₁.setTop (entryFrame m #[(.int vx)] maxLocals)) t := by
        intro t k
        refine pre4 t ?_
        show Steps p.tables e below (s₁.setTop (mkF m 9 #[.val (.int vx), .val (.int vc), .unset] [(.int (64 : Int32)), (.int vc)])) _
        refine XS.icmpNo X0.here hx rfl (hb hby at_9) rfl (tlt hc5).2.1 ?_
        show Steps p.tables e below (s₁.setTop (mkF m 12 #[.val (.int vx), .val (.int vc), .unset] [])) _
        refine X0.ldc2Long hx hown (mvT hZ (hw _ (List.mem_of_getElem? (i := 1) rfl))) (g := (mkF m 12 #[.val (.int vx), .val (.int vc), .unset] [])) rfl (hb hby at_12) _ ?_
        show Steps p.tables e below (s₁.setTop (mkF m 15 #[.val (.int vx), .val (.int vc), .unset] [(.long (4294977024 : Int64))])) _
        refine XS.iloadN X0.here hx rfl (hb hby at_15) rfl ?_
        show Steps p.tables e below (s₁.setTop (mkF m 16 #[.val (.int vx), .val (.int vc), .unset] [(.int vc), (.long (4294977024 : Int64))])) _
        refine XS.lushr X0.here hx rfl (hb hby at_16) rfl ?_
        show Steps p.tables e below (s₁.setTop (mkF m 17 #[.val (.int vx), .val (.int vc), .unset] [(.long (((4294977024 : Int64).toUInt64 >>> (vc &&& 0x3f).toInt64.toUInt64).toInt64))])) _
        refine XS.lconst X0.here hx rfl (hb hby at_17) ?_
        show Steps p.tables e below (s₁.setTop (mkF m 18 #[.val (.int vx), .val (.int vc), .unset] [(.long (1 : Int64)), (.long (((4294977024 : Int64).toUInt64 >>> (vc &&& 0x3f).toInt64.toUInt64).toInt64))])) _
        refine XS.land X0.here hx rfl (hb hby at_18) rfl ?_
        show Steps p.tables e below (s₁.setTop (mkF m 19 #[.val (.int vx), .val (.int vc), .unset] [(.long ((((4294977024 : Int64).toUInt64 >>> (vc &&& 0x3f).toInt64.toUInt64).toInt64) &&& (1 : Int64)))])) _
        refine XS.lconst X0.here hx rfl (hb hby at_19) ?_
        show Steps p.tables e below (s₁.setTop (mkF m 20 #[.val (.int vx), .val (.int vc), .unset] [(.long (0 : Int64)), (.long ((((4294977024 : Int64).toUInt64 >>> (vc &&& 0x3f).toInt64.toUInt64).toInt64) &&& (1 : Int64)))])) _
        refine XS.lcmp X0.here hx rfl (hb hby at_20) rfl ?_
        show Steps p.tables e below (s₁.setTop (mkF m 21 #[.val (.int vx), .val (.int vc), .unset] [(.int (lcmpW ((((4294977024 : Int64).toUInt64 >>> (vc &&& 0x3f).toInt64.toUInt64).toInt64) &&& (1 : Int64)) (0 : Int64)))])) _
        exact k
      by_cases hc7 : ((((4294977024 : Int64).toUInt64 >>> (vc &&& 0x3f).toInt64.toUInt64).toInt64) &&& (1 : Int64)) = (0 : Int64)
      · refine ⟨(0 : Int32), s₁, _, X0, N0, e0, (if_neg (fun q => q.2 hc7)).symm, fun t k => ?_⟩
        refine pre6 t ?_
        show Steps p.tables e below (s₁.setTop (mkF m 21 #[.val (.int vx), .val (.int vc), .unset] [(.int (lcmpW ((((4294977024 : Int64).toUInt64 >>> (vc &&& 0x3f).toInt64.toUInt64).toInt64) &&& (1 : Int64)) (0 : Int64)))])) _
        refine XS.ifYes X0.here hx rfl (pc0 := 21) (pc' := 28) rfl (hb hby at_21) rfl ((if0 _ _).trans (teq ((lw_eq _ _).mpr hc7)).1) (by decide) (by decide) ?_
        show Steps p.tables e below (s₁.setTop (mkF m 28 #[.val (.int vx), .val (.int vc), .unset] [])) _
        refine XS.iconst X0.here hx rfl (hb hby at_28) ?_
        show Steps p.tables e below (s₁.setTop (mkF m 29 #[.val (.int vx), .val (.int vc), .unset] [(.int (0 : Int32))])) _
        exact k
      · refine ⟨(1 : Int32), s₁, _, X0, N0, e0, (if_pos ⟨hc5, hc7⟩).symm, fun t k => ?_⟩
        refine pre6 t ?_
        show Steps p.tables e below (s₁.setTop (mkF m 21 #[.val (.int vx), .val (.int vc), .unset] [(.int (lcmpW ((((4294977024 : Int64).toUInt64 >>> (vc &&& 0x3f).toInt64.toUInt64).toInt64) &&& (1 : Int64)) (0 : Int64)))])) _
        refine XS.ifNo X0.here hx rfl (hb hby at_21) rfl ((if0 _ _).trans (feq (mt (lw_eq _ _).mp hc7)).1) ?_
        show Steps p.tables e below (s₁.setTop (mkF m 24 #[.val (.int vx), .val (.int vc), .unset] [])) _
        refine XS.iconst X0.here hx rfl (hb hby at_24) ?_
        show Steps p.tables e below (s₁.setTop (mkF m 25 #[.val (.int vx), .val (.int vc), .unset] [(.int (1 : Int32))])) _
        refine XS.goto X0.here hx rfl (pc0 := 25) (pc' := 29) rfl (hb hby at_25) (by decide) (by decide) ?_
        show Steps p.tables e below (s₁.setTop (mkF m 29 #[.val (.int vx), .val (.int vc), .unset] [(.int (1 : Int32))])) _
        exact k
    · refine ⟨(0 : Int32), s₁, _, X0, N0, e0, (if_neg (fun q => hc5 q.1)).symm, fun t k => ?_⟩
      refine pre4 t ?_
      show Steps p.tables e below (s₁.setTop (mkF m 9 #[.val (.int vx), .val (.int vc), .unset] [(.int (64 : Int32)), (.int vc)])) _
      refine XS.icmpYes X0.here hx rfl (pc0 := 9) (pc' := 28) rfl (hb hby at_9) rfl (flt hc5).2.1 (by decide) (by decide) ?_
      show Steps p.tables e below (s₁.setTop (mkF m 28 #[.val (.int vx), .val (.int vc), .unset] [])) _
      refine XS.iconst X0.here hx rfl (hb hby at_28) ?_
      show Steps p.tables e below (s₁.setTop (mkF m 29 #[.val (.int vx), .val (.int vc), .unset] [(.int (0 : Int32))])) _
      exact k
  obtain ⟨_, _, ⟨T8, L8, k8, n8⟩, -, X8, ⟨Lc8, hQ8, l8, y8, z8⟩, st8⟩ := Jvm.LawKit.callS X3 hx (y := (⟨"com/example/nano_xpath/nanoxpath/XmlWhitespace", "isWhitespace", "(C)Z"⟩ : MethodName)) hown (mvT hZ (hw _ (List.mem_of_getElem? (i := 2) rfl))) (mvT hZ (hw _ (List.mem_of_getElem? (i := 3) rfl))) (mvT hZ (hw _ (List.mem_of_getElem? (i := 4) rfl))) (mvT hZ (hw _ (List.mem_of_getElem? (i := 5) rfl))) (by decide) (backOf (W := 0) (rm1 l Z a0 hw [] vc h0 n0 Z0 ) hZ (hw _ (List.mem_of_getElem? (i := 5) rfl)) (hw _ (List.mem_of_getElem? (i := 4) rfl)) (by decide) (by decide)) (g := (mkF m 31 #[.val (.int vx), .val (.int vc), .val (.int ex)] [(.int vc)])) rfl (by rw [hml]; rfl) (argsL := [(.int vc)]) (rest := []) (lenOf own_pd0 rfl) rfl (by show 2 * 0 + _ ≤ _; exact Nat.le_of_eq rfl) (hb hby at_31) (fun _ _ => ⟨rfl, ej3, (by decide : 0 + 0 ≤ _), (by decide : 0 + 0 ≤ _)⟩)
  dsimp only [Pt.U, Pt.locs, Pt.cells, Pt.slots] at X8 l8 y8 z8 st8 hQ8
  subst l8 y8 z8
  obtain ⟨rfl, Nq8, hh8⟩ := hQ8
  have Nf8 := Fr.app Nj3 Nq8
  have pre9 : ∀ t, Steps p.tables e below (T8.setTop (mkF m 35 #[.val (.int vx), .val (.int vc), .val (.int ex)] [(.int ex), (.int (own_ws vc))])) t → Steps p.tables e below (s₁.setTop (entryFrame m #[(.int vx)] maxLocals)) t := by
    intro t k
    refine pre3 t ?_
    show Steps p.tables e below (T3.setTop (mkF m 29 #[.val (.int vx), .val (.int vc), .unset] [(.int ex)])) _
    refine XS.istoreN X3.here hx rfl (hb hby at_29) rfl (l' := #[.val (.int vx), .val (.int vc), .val (.int ex)]) rfl ?_
    show Steps p.tables e below (T3.setTop (mkF m 30 #[.val (.int vx), .val (.int vc), .val (.int ex)] [])) _
    refine XS.iloadN X3.here hx rfl (hb hby at_30) rfl ?_
    show Steps p.tables e below (T3.setTop (mkF m 31 #[.val (.int vx), .val (.int vc), .val (.int ex)] [(.int vc)])) _
    refine st8 _ ?_
    show Steps p.tables e below (T8.setTop (mkF m 34 #[.val (.int vx), .val (.int vc), .val (.int ex)] [(.int (own_ws vc))])) _
    refine XS.iloadN X8.here hx rfl (hb hby at_34) rfl ?_
    show Steps p.tables e below (T8.setTop (mkF m 35 #[.val (.int vx), .val (.int vc), .val (.int ex)] [(.int ex), (.int (own_ws vc))])) _
    exact k
  have hd10 : (own_ws vc) = ex := by rw [hj3]; exact own_agree vc (by rw [h_vc]; exact (c_i2c _).2.1)
  obtain ⟨fs, hr, hrun, hended, hW, hsame⟩ := X8.leave (v := some (.int (1 : Int32))) (fun h => by rw [Bd.returns] at h; cases h)
  refine ⟨_, _, pre9 _ ?_, hrun, hended, _, _, rfl, ?_, ⟨_, rfl⟩, hW, hsame.mono (by decide) (by decide)⟩
  · show Steps p.tables e below (T8.setTop (mkF m 35 #[.val (.int vx), .val (.int vc), .val (.int ex)] [(.int ex), (.int (own_ws vc))])) _
    refine XS.icmpNo X8.here hx rfl (hb hby at_35) rfl (teq hd10).2 ?_
    show Steps p.tables e below (T8.setTop (mkF m 38 #[.val (.int vx), .val (.int vc), .val (.int ex)] [])) _
    refine XS.iconst X8.here hx rfl (hb hby at_38) ?_
    show Steps p.tables e below (T8.setTop (mkF m 39 #[.val (.int vx), .val (.int vc), .val (.int ex)] [(.int (1 : Int32))])) _
    refine XS.goto X8.here hx rfl (pc0 := 39) (pc' := 43) rfl (hb hby at_39) (by decide) (by decide) ?_
    show Steps p.tables e below (T8.setTop (mkF m 43 #[.val (.int vx), .val (.int vc), .val (.int ex)] [(.int (1 : Int32))])) _
    exact retN X8 hx (t := .boolean) Bd.returns (by simp) (hb hby at_43) hr
  · show Q0 Z vx h0 n0 _ T8.heap _
    rw [hh8]
    exact ⟨rfl, Nf8⟩
set_option maxRecDepth 65536 in
set_option maxHeartbeats 40000000 in
theorem comes_1 {Post : Tables → Env → Array Value → State → Outcome → State → Prop} (hpost : ∀ tb e args s v u, (limb_1_1.after args s (.returned v) u = true ∧ limb_1_2.after args s (.returned v) u = true ∧ True) → FrameEnd s (.returned v) u (Jvm.fieldLocs frame_1_writes args s ++ Jvm.arrayLocs frame_1_arrays args s ++ Jvm.staticLocs frame_1_statics s) 0 0 → Post tb e args s (.returned v) u) :
    ArmFor flags0 classFile x code maxLocals ret World_1 tables_1 room_1 Calls_1 rest_1 Pre_1 Post := by
  intro l hfl _ _ p e ha hc hk s m args below hf hA hF happ hP
  obtain ⟨hcalls, hrest, hpre⟩ := hP
  obtain ⟨-, -, -, hnamed, -, -, -, hat⟩ := (Spec.applies_iff hf).mp happ
  obtain ⟨hg, hn⟩ := and_e (Cond.before_iff.mp (show (Jvm.Cond.and given_1 narrow_1).before args s = true from hpre))
  obtain ⟨ga1, gb1⟩ := and_e hg
  obtain ⟨w0, rfl⟩ : ∃ w0 : Value, args = #[w0] := by
    have hs : args.size = 1 := by simpa [Cond.value, given_1] using ga1
    obtain ⟨L⟩ := args
    match L, hs with
    | [w0], _ => exact ⟨w0, rfl⟩
  have hw := fun d (hd : d ∈ tables_1) => atoms_spec (ws := Jvm.Cond.code x code maxLocals ret :: tables_1) hat d (List.mem_cons_of_mem _ hd)
  have hfit : Fit s := fun {y c} hc i hi => by
    obtain ⟨ha, rfl⟩ := Array.getElem?_eq_some_iff.mp hc
    have q := List.all_eq_true.mp ((Array.all_eq_true_iff_forall_mem.mp hF) _ (Array.getElem_mem ha)) i (List.mem_range.mpr hi)
    simpa [Array.getElem?_eq_getElem hi] using q
  obtain ⟨i0, ei0⟩ := is_v gb1
  obtain rfl : w0 = (.int i0) := Option.some.inj ei0
  obtain ⟨n, o, h1, h2, h3, _, L, rfl, ⟨rfl, N⟩, hq⟩ := rm0 l s _ hw tables_1 i0 s.heap s.heap.size (Nat.le_refl _)  p e ha hc hk s m _ below hf ((Spec.applies_iff_loose hf).mp happ).1 ⟨rfl, State.Warmed39.refl s, rfl⟩ trivial
  refine ⟨n, _, h1, h2, h3, hpost _ _ _ _ _ _ ⟨Cond.after_iff.mpr rfl, Cond.after_iff.mpr (eq_i res_at (Term.int_eval (1)) rfl), trivial⟩ ⟨hq.1, hq.2.1, (hq.2.2.sift fun y hy => Or.inr (N y hy)).mono (by decide) (by decide)⟩⟩
theorem main_1_1 : Claimed_1_1 := comes_1 fun _ _ _ _ _ _ h hF => ⟨h.1, hF⟩
theorem main_1_2 : Claimed_1_2 := comes_1 fun _ _ _ _ _ _ h hF => ⟨h.2.1, hF⟩
end Jvm.Pilot.@@N@@
namespace Jvm.Pilot.@@N@@
open Jvm Jvm.ClassFile Sem Op Lib Jvm.Free Jvm.Stand Jvm.Pilot.@@N@@.Jvm.D
/-! MADE BY PROGRAM (witnessworld.py) out of the Statement's table words and the real class files: 9 classes; the members and pool entries that the words name. The judged class is class 1, her method 1. -/
namespace start1
open Jvm.ClassFile
def u (s : String) : CpInfo := .utf8 (stringToUtf16 s)
/-- a pool by its gaps: so many unusable entries, then the entry; so many at the end -/
def gap : Nat → List CpInfo → List CpInfo
  | 0, r => r
  | n + 1, r => .unusable :: gap n r
def poolList (es : List (Nat × CpInfo)) (last : Nat) : List CpInfo := es.foldr (fun e r => gap e.1 (e.2 :: r)) (gap last [])
def pool (es : List (Nat × CpInfo)) (last : Nat) : Array CpInfo := ⟨poolList es last⟩
def fileOf (pool : Array CpInfo) (this : Nat) (attrs : Array Attribute := #[]) (ms : Array MethodInfo := #[]) (fl : Nat := 33) (sup : Nat := 0) (ifs : Array Nat := #[]) (fds : Array FieldInfo := #[]) : ClassFile where
  minorVersion := 0
  majorVersion := 65
  constantPool := pool
  accessFlags := fl
  thisClass := this
  superClass := sup
  interfaces := ifs
  fields := fds
  methods := ms
  attributes := attrs
def plain (name : String) (sup : Option ClassId) : Class where
  name := name
  kind := .ordinary
  loader := none
  accessFlags := 33
  super := sup
  interfaces := #[]
  cf := none
  fields := #[]
  methods := #[]
  instanceTypes := #[]
  staticTypes := #[]
  resolved := #[]
  callSites := []
  init := .initialized
  statics := none
  mirror := none

def pool0 : Array CpInfo := pool [(5, u "<init>"), (0, u "()V"), (1, .class_ 10), (1, u "java/lang/Object")] 113

def k0m0 : Method := { name := "<init>", desc := "()V", sig := { parameters := [], returnType := none }, accessFlags := 1, code := none }
/-- java/lang/Object -/
def k0 : Class := { plain "java/lang/Object" none with
  accessFlags := 33
  interfaces := #[]
  cf := some (fileOf pool0 8 #[] #[{ accessFlags := 1, nameIndex := 5, descriptorIndex := 6, attributes := #[] }] 33 0 #[] #[])
  fields := #[]
  methods := #[k0m0]
  instanceTypes := #[]
  staticTypes := #[]
  resolved := Array.replicate 124 none
  statics := none }

def pool1 : Array CpInfo := pool [(2, .class_ 4), (1, u "java/lang/Object"), (0, u "<init>"), (0, u "()V"), (0, .integer 65535), (0, .long 4294977024), (1, .methodref 11 12), (0, .class_ 13), (0, .nameAndType 14 15), (0, u "com/example/nano_xpath/nanoxpath/XmlWhitespace"), (0, u "isWhitespace"), (0, u "(C)Z"), (0, .class_ 17), (0, u "com/example/nano_xpath/nanoxpath/XmlWhitespaceIsWhitespacePinLaw"), (2, u "law"), (0, u "(I)Z")] 3

def k1m0 : Method := { name := "<init>", desc := "()V", sig := { parameters := [], returnType := none }, accessFlags := 2, code := none }
def k1c1 : Code := { maxStack := 4, maxLocals := 3, code := code, exceptionTable := #[], attributes := #[] }
def k1m1 : Method := { name := "law", desc := "(I)Z", sig := { parameters := [.int], returnType := some .boolean }, accessFlags := 9, code := some k1c1 }
/-- com/example/nano_xpath/nanoxpath/XmlWhitespaceIsWhitespacePinLaw -/
def k1 : Class := { plain "com/example/nano_xpath/nanoxpath/XmlWhitespaceIsWhitespacePinLaw" (some 0) with
  accessFlags := 49
  interfaces := #[]
  cf := some (fileOf pool1 16 #[] #[{ accessFlags := 2, nameIndex := 5, descriptorIndex := 6, attributes := #[] }, { accessFlags := 9, nameIndex := 20, descriptorIndex := 21, attributes := #[] }] 49 2 #[] #[])
  fields := #[]
  methods := #[k1m0, k1m1]
  instanceTypes := #[]
  staticTypes := #[]
  resolved := Array.replicate 25 none
  statics := none }

def pool2 : Array CpInfo := pool [(2, .class_ 4), (1, u "java/lang/Object"), (0, u "<init>"), (0, u "()V"), (11, .class_ 20), (1, u "com/example/nano_xpath/nanoxpath/XmlWhitespace"), (0, u "isWhitespace"), (0, u "(C)Z")] 27

def k2m0 : Method := { name := "<init>", desc := "()V", sig := { parameters := [], returnType := none }, accessFlags := 2, code := none }
def k2c1 : Code := { maxStack := 2, maxLocals := 1, code := prog_199_method_2_code, exceptionTable := #[], attributes := #[] }
def k2m1 : Method := { name := "isWhitespace", desc := "(C)Z", sig := { parameters := [.char], returnType := some .boolean }, accessFlags := 8, code := some k2c1 }
/-- com/example/nano_xpath/nanoxpath/XmlWhitespace -/
def k2 : Class := { plain "com/example/nano_xpath/nanoxpath/XmlWhitespace" (some 0) with
  accessFlags := 48
  interfaces := #[]
  cf := some (fileOf pool2 18 #[] #[{ accessFlags := 2, nameIndex := 5, descriptorIndex := 6, attributes := #[] }, { accessFlags := 8, nameIndex := 21, descriptorIndex := 22, attributes := #[] }] 48 2 #[] #[])
  fields := #[]
  methods := #[k2m0, k2m1]
  instanceTypes := #[]
  staticTypes := #[]
  resolved := Array.replicate 50 none
  statics := none }

def pool3 : Array CpInfo := pool [(1, u "java/lang/Cloneable"), (0, .class_ 1), (0, u "java/lang/Object"), (0, .class_ 3)] 3

/-- java/lang/Cloneable -/
def k3 : Class := { plain "java/lang/Cloneable" (some 0) with
  accessFlags := 1537
  interfaces := #[]
  cf := some (fileOf pool3 2 #[] #[] 1537 4 #[] #[])
  fields := #[]
  methods := #[]
  instanceTypes := #[]
  staticTypes := #[]
  resolved := Array.replicate 8 none
  statics := none }

def pool4 : Array CpInfo := pool [(1, u "java/io/Serializable"), (0, .class_ 1), (0, u "java/lang/Object"), (0, .class_ 3)] 3

/-- java/io/Serializable -/
def k4 : Class := { plain "java/io/Serializable" (some 0) with
  accessFlags := 1537
  interfaces := #[]
  cf := some (fileOf pool4 2 #[] #[] 1537 4 #[] #[])
  fields := #[]
  methods := #[]
  instanceTypes := #[]
  staticTypes := #[]
  resolved := Array.replicate 8 none
  statics := none }

/-- the primitive byte -/
def k5 : Class := { plain "byte" none with kind := .primitive 'B', accessFlags := 0x411 }
/-- [B -/
def k6 : Class := { plain "[B" (some 0) with kind := .array 5 .byte, interfaces := #[3, 4], accessFlags := 1041 }

/-- the primitive int -/
def k7 : Class := { plain "int" none with kind := .primitive 'I', accessFlags := 0x411 }
/-- [I -/
def k8 : Class := { plain "[I" (some 0) with kind := .array 7 .int, interfaces := #[3, 4], accessFlags := 1041 }

def heap : Heap := #[]
def classes : Array Class := #[k0, k1, k2, k3, k4, k5, k6, k7, k8]
def interned : List (Array UInt16 × Addr) := []
def slotsUsed : Nat := 0
def theMethod : MethodId := ⟨1, 1⟩
def args0 : Array Value := #[.int 5]
def aboutOver (below : List Frame) : State where
  vm := { classes := classes, interned := interned.toArray }
  heap := heap
  slotsUsed := slotsUsed
  threads := #[{ frames := .invoking theMethod args0 :: below }]
def below0 : List Frame := [.native { method := ⟨0, 0⟩, args := #[] }]
def about1 : State := aboutOver below0
def p0 : Program := .bare "" "" ""
def e0 : Env := launch0.env 0 0 0
theorem w_frames : about1.frames = Frame.invoking theMethod args0 :: below0 := rfl
set_option maxRecDepth 65536 in
theorem w_args : argsFit about1.vm theMethod args0 = true := by decide +kernel
set_option maxRecDepth 65536 in
theorem w_heap : heapFits about1 = true := by decide +kernel
set_option maxRecDepth 65536 in
theorem w_runnable : about1.curStatus? = some .runnable := by decide +kernel
set_option maxRecDepth 65536 in
theorem w_alone : about1.alone = true := by decide +kernel
set_option maxRecDepth 65536 in
theorem w_named : about1.methodNamed? x = some theMethod := by decide +kernel
set_option maxRecDepth 65536 in
theorem w_hears : about1.hears theMethod below0 = true := by decide +kernel
set_option maxRecDepth 65536 in
theorem w_ripe : about1.ripe theMethod args0 below0 = true := by decide +kernel
theorem w_running : about1.status = .running := rfl
set_option maxRecDepth 65536 in
theorem w_room : about1.hasRoom e0.platform room_1 = true :=
  launch0.hasRoom_least _ room_1 (by decide +kernel) (by decide +kernel) (by decide +kernel) (by decide +kernel) (by decide +kernel) (by decide +kernel)
theorem allAtoms_all (ts : List Jvm.Cond) (a : Array Jvm.Value) (st : Jvm.State) : (allAtoms ts).before a st = ts.all (fun c => c.before a st) := by
  induction ts with
  | nil => rfl
  | cons c t ih =>
    show (Jvm.Cond.and c (allAtoms t)).before a st = _
    rw [Jvm.Cond.before_and, ih, List.all_cons]
def words1 : List Jvm.Cond := Jvm.Cond.code x code maxLocals ret :: tables_1
/-- a 'code' word, met by the world's own term for the bytes: nothing is compared byte by byte -/
theorem code_word {y : MethodName} {bytes : ByteArray} {mx : Nat} {rt : Option FieldType} {a : Array Value} {s : State} {m : MethodId} {meth : Method} {c : Code} (h1 : s.methodNamed? y = some m) (h2 : s.vm.method? m = some meth) (h3 : meth.code = some c) (h4 : c.code = bytes)
    (h5 : (c.maxLocals == mx && c.exceptionTable.isEmpty && decide (c.maxStack ≤ mostOperands) && decide (meth.sig.returnType = rt) && !meth.locks && decide (parseMethodDescriptor y.desc = some meth.sig)) = true) : (Jvm.Cond.code y bytes mx rt).before a s = true := by
  simp only [Bool.and_eq_true, beq_iff_eq, Bool.not_eq_true', decide_eq_true_eq] at h5
  obtain ⟨⟨⟨⟨⟨g1, g2⟩, g3⟩, g4⟩, g5⟩, g6⟩ := h5
  simp [Cond.before, Cond.holds, Cond.value, h1, h2, h3, h4, g1, g2, g3, g4, g5, g6]
def isCode : Jvm.Cond → Bool
  | .code _ _ _ _ => true
  | _ => false
theorem all_split {L : List Jvm.Cond} {P : Jvm.Cond → Bool} (h1 : L.all (fun c => isCode c || P c) = true) (h2 : ∀ c ∈ L.filter isCode, P c = true) : L.all P = true := by
  refine List.all_eq_true.mpr fun c hc => ?_
  have h := List.all_eq_true.mp h1 c hc
  rcases Bool.eq_false_or_eq_true (isCode c) with hi | hi
  · exact h2 c (List.mem_filter.mpr ⟨hc, hi⟩)
  · simpa [hi] using h
set_option maxRecDepth 65536 in
theorem w_c0 : (Jvm.Cond.code x code maxLocals ret).before args0 about1 = true := code_word (m := ⟨1, 1⟩) (meth := k1m1) (c := k1c1) (by decide +kernel) rfl rfl rfl (by decide +kernel)
set_option maxRecDepth 65536 in
theorem w_c1 : (Jvm.Cond.code ({ cls := "com/example/nano_xpath/nanoxpath/XmlWhitespace", name := "isWhitespace", desc := "(C)Z" } : Jvm.MethodName) prog_199_method_2_code (1 : Nat) (Option.some Jvm.ClassFile.FieldType.boolean)).before args0 about1 = true := code_word (m := ⟨2, 1⟩) (meth := k2m1) (c := k2c1) (by decide +kernel) rfl rfl rfl (by decide +kernel)
def codes1 : List Jvm.Cond := [Jvm.Cond.code x code maxLocals ret, Jvm.Cond.code ({ cls := "com/example/nano_xpath/nanoxpath/XmlWhitespace", name := "isWhitespace", desc := "(C)Z" } : Jvm.MethodName) prog_199_method_2_code (1 : Nat) (Option.some Jvm.ClassFile.FieldType.boolean)]
set_option maxRecDepth 65536 in
theorem codes_eq : words1.filter isCode = codes1 := rfl
theorem w_codes : ∀ c ∈ words1.filter isCode, c.before args0 about1 = true := by
  rw [codes_eq]
  intro c hc
  simp only [codes1, List.mem_cons, List.not_mem_nil, or_false] at hc
  rcases hc with rfl | rfl
  · exact w_c0
  · exact w_c1
set_option maxRecDepth 65536 in
theorem w_t1 : words1.all (fun c => isCode c || c.before args0 about1) = true := by decide +kernel
theorem w_tables : (allAtoms (Jvm.Cond.code x code maxLocals ret :: tables_1)).before args0 about1 = true := by
  rw [allAtoms_all]
  show words1.all (fun c => c.before args0 about1) = true
  refine all_split ?_ w_codes
  rw [w_t1]
set_option maxRecDepth 65536 in
theorem w_case : (Jvm.Cond.and given_1 narrow_1).before args0 about1 = true := by decide +kernel
theorem w_applies : (headSpec (Jvm.Cond.code x code maxLocals ret :: tables_1) room_1).applies x e0.platform about1 = true :=
  (Spec.applies_iff w_frames).mpr ⟨w_running, w_runnable, w_alone, w_named, w_hears, w_ripe, w_room, w_tables⟩
theorem atStart : AtStart classFile x code maxLocals ret World_1 tables_1 room_1 Calls_1 rest_1 Pre_1 launch0 p0 e0 about1 theMethod args0 below0 :=
  ⟨lists_1, trivial, launch0.admits_env _ _ _, launch0.least_env, fairChoices_fair.cas, fairChoices_fair.clock, w_frames, w_args, w_heap, w_applies, trivial, trivial, w_case⟩
end start1
theorem witness_1 : WitnessClaimed_1 := ⟨start1.p0, start1.e0, start1.about1, start1.theMethod, start1.args0, start1.below0, start1.atStart⟩
end Jvm.Pilot.@@N@@
