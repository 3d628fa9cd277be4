import JvmDerived
import JvmDerived.Pilot.@@N@@Statement
import JvmDerived.Pilot.@@N@@Code
set_option linter.unusedVariables false
set_option linter.unusedSimpArgs false
namespace Jvm.RoadKit
open Sem ClassFile Op Lib Jvm.Stand Jvm.Free Jvm.LawKit
section New
variable {p : Program} {l : Launch} {e : Env} {R : Room} {s : State} {m : MethodId} {args : Array Value} {below : List Frame} {meth : Method} {c : Code} {T : State} {locs : List Loc} {cells slots : Nat}
theorem retI (X : Stand p l e R s m args below meth c T locs cells slots) (hx : p.tables.exec = Jvm.exec) {pc : Nat} {Ls : Array Slot} {z : Int32} {rest : List Value} (hret : meth.sig.returnType = some .int) (hd : decode c.code pc = .ok (.ireturn, 1)) {fs : List Frame}
    (hl : ∀ (f : JFrame) (acts : List Action), f.method = m → f.locked = none → f.entered = [] → (doReturn e (T.setTop f) acts (some (.int z))).1 = T.setFrames fs) : Steps p.tables e below (T.setTop (mkF m pc Ls (.int z :: rest))) (T.setFrames fs) := by
  have hm' : T.vm.method? m = some meth := X.method'
  have hn : narrow .int (.int z) = .int z := rfl
  show Steps p.tables e below (T.setTop { method := m, pc := pc, locals := Ls, stack := _ :: rest, locked := none }) _
  jvm_step X.here [X.here.top, hx, hd, hm', hret, hn]
  first | (intro acts; rw [hl _ acts rfl rfl rfl]) | rw [hl _ _ rfl rfl rfl]
  exact Steps.refl _
end New
end Jvm.RoadKit
namespace Jvm.Pilot.@@N@@
open Jvm Jvm.ClassFile Sem Op Lib Jvm.Free Jvm.Stand Jvm.LawKit Jvm.RoadKit Bundle Jvm.Pilot.@@N@@.Jvm.D
theorem own_getD (q : List Int32) (i : Nat) (d : Int32) : (q.map Value.int).getD i (.int d) = .int (q.getD i d) := by
  induction q generalizing i with
  | nil => rfl
  | cons a r ih => cases i with
    | zero => rfl
    | succ n => simpa using ih n
def own_ws (c : Int32) : Int32 := if c = 32 ∨ c = 9 ∨ c = 10 ∨ c = 13 then 1 else 0
def own_bit (c : Int32) : Int64 := ((1 : Int64) <<< (c &&& 0x3f).toInt64) &&& (4294977024 : Int64)
def own_ref (c : Int32) : Int32 := if ¬ 32 < c ∧ ¬ own_bit c = 0 then 1 else 0
theorem own_small : ∀ k : Fin 33, own_ws (Int32.ofNat k.1) = own_ref (Int32.ofNat k.1) := by decide +kernel
theorem own_agree (c : Int32) (h0 : 0 ≤ c.toInt) : own_ws c = own_ref c := by
  by_cases h : (32 : Int32) < c
  · have h' : 32 < c.toInt := by rw [Int32.lt_iff_toInt_lt] at h; exact h
    have n1 : ¬ c = 32 := fun q => absurd h' (by rw [q]; decide)
    have n2 : ¬ c = 9 := fun q => absurd h' (by rw [q]; decide)
    have n3 : ¬ c = 10 := fun q => absurd h' (by rw [q]; decide)
    have n4 : ¬ c = 13 := fun q => absurd h' (by rw [q]; decide)
    simp [own_ws, own_ref, h, n1, n2, n3, n4]
  · have h' : ¬ 32 < c.toInt := fun q => h (by rw [Int32.lt_iff_toInt_lt]; exact q)
    have e : c = Int32.ofNat c.toInt.toNat := by
      rw [← Int32.toInt_inj, Int32.toInt_ofNat_of_lt (by omega)]; omega
    have := own_small ⟨c.toInt.toNat, by omega⟩
    rw [← e] at this; exact this
theorem own_tab_pos (i : Nat) : 0 ≤ (([32, 9, 10, 13] : List Int32).getD i 0).toInt := by
  match i with
  | 0 => decide
  | 1 => decide
  | 2 => decide
  | 3 => decide
  | n + 4 => simp
theorem own_idx (x : Int32) : ¬ (x &&& (3 : Int32)) < 0 ∧ (x &&& (3 : Int32)) < (4 : Int32) := by
  have h := c_mask x 3 2 (by decide) (by decide)
  rw [Int32.lt_iff_toInt_lt, Int32.lt_iff_toInt_lt, h]
  have e0 : (0 : Int32).toInt = 0 := by decide
  have e4 : (4 : Int32).toInt = 4 := by decide
  rw [e0, e4]; omega
theorem own_pd0 : parseMethodDescriptor "(C)Z" = some ⟨[.char], some .boolean⟩ := by decide +kernel
theorem d2_0 : decode prog_8_method_27_code 0 = .ok (.iload_n 0, 1) := by decide +kernel
theorem d2_1 : decode prog_8_method_27_code 1 = .ok (.bipush 32, 2) := by decide +kernel
theorem d2_3 : decode prog_8_method_27_code 3 = .ok (.if_icmp .eq 21, 3) := by decide +kernel
theorem d2_6 : decode prog_8_method_27_code 6 = .ok (.iload_n 0, 1) := by decide +kernel
theorem d2_7 : decode prog_8_method_27_code 7 = .ok (.bipush 9, 2) := by decide +kernel
theorem d2_9 : decode prog_8_method_27_code 9 = .ok (.if_icmp .eq 15, 3) := by decide +kernel
theorem d2_12 : decode prog_8_method_27_code 12 = .ok (.iload_n 0, 1) := by decide +kernel
theorem d2_13 : decode prog_8_method_27_code 13 = .ok (.bipush 10, 2) := by decide +kernel
theorem d2_15 : decode prog_8_method_27_code 15 = .ok (.if_icmp .eq 9, 3) := by decide +kernel
theorem d2_18 : decode prog_8_method_27_code 18 = .ok (.iload_n 0, 1) := by decide +kernel
theorem d2_19 : decode prog_8_method_27_code 19 = .ok (.bipush 13, 2) := by decide +kernel
theorem d2_21 : decode prog_8_method_27_code 21 = .ok (.if_icmp .ne 7, 3) := by decide +kernel
theorem d2_24 : decode prog_8_method_27_code 24 = .ok (.iconst 1, 1) := by decide +kernel
theorem d2_25 : decode prog_8_method_27_code 25 = .ok (.goto 4, 3) := by decide +kernel
theorem d2_28 : decode prog_8_method_27_code 28 = .ok (.iconst 0, 1) := by decide +kernel
theorem d2_29 : decode prog_8_method_27_code 29 = .ok (.ireturn, 1) := by decide +kernel
theorem pn_rm_ws : plainName "com/example/narrow_grant/narrowgrant/model/XmlItems" = true := by first | (simp [plainName, overriddenIn]; done) | decide +kernel
theorem ef_rm_ws (m : MethodId) (vc : Int32) : entryFrame m #[(.int vc)] 1 = mkF m 0 #[.val (.int vc)] [] := by first | (simp [entryFrame, mkF, argsToLocals, Value.category]; done) | rfl
def Q_ws (Z : State) (vc : Int32) (h0 : Heap) (n0 : Nat) (v : Option Value) (h : Heap) (L : List Loc) : Prop := v = some (.int (own_ws vc)) ∧ Fr n0 L ∧ h = h0
set_option maxRecDepth 65536 in
set_option maxHeartbeats 40000000 in
theorem rm_ws (l : Launch) (Z : State) (a0 : Array Value) (hw : ∀ d ∈ tables_1, d.before a0 Z = true) (ws : List Jvm.Cond) (vc : Int32) (h0 : Heap) (n0 : Nat) (Z0 : n0 ≤ h0.size) :
    MetFree l (⟨"com/example/narrow_grant/narrowgrant/model/XmlItems", "isWhitespace", "(C)Z"⟩ : MethodName) (head1 (Jvm.Cond.code (⟨"com/example/narrow_grant/narrowgrant/model/XmlItems", "isWhitespace", "(C)Z"⟩ : MethodName) prog_8_method_27_code 1 (some .boolean) :: ws) ({ frames := 0, cells := 0, slots := 0, locals := 0 } : Room)) (fun a U => a = #[(.int vc)] ∧ Z.Warmed39 U.vm ∧ U.heap = h0) (fun _ _ _ _ _ => True) (fun _ U o U' => ∃ v L, o = .returned v ∧ Q_ws Z vc h0 n0 v U'.heap L ∧ FrameEnd U o U' L ({ frames := 0, cells := 0, slots := 0, locals := 0 } : Room).cells ({ frames := 0, cells := 0, slots := 0, locals := 0 } : Room).slots) := by
  refine MetFree.of_bodySF (plainFor_of_name pn_rm_ws) hisR ?_
  intro p e s m args below meth c s₁ Bd hml0 hP hK
  obtain ⟨rfl, hZ, hh⟩ := hP
  have hx := Bd.exec
  have hby := Bd.bytes
  have hml : c.maxLocals = 1 := hml0
  have hown : s.vm.findClass "com/example/narrow_grant/narrowgrant/model/XmlItems" = some m.cls := findClass_of_methodNamed Bd.named
  have hnm := (name_of_methodNamed Bd.named Bd.method).1
  have X0 : Stand p l e ({ frames := 0, cells := 0, slots := 0, locals := 0 } : Room) s m #[(.int vc)] below meth c s₁ [] 0 0 := Stand.of_body Bd
  have e0 : s₁.heap = h0 := by rw [← hh, Bd.state]; rfl
  have N0 := Fr.nil n0
  have pre0 : ∀ t, Steps p.tables e below (s₁.setTop (mkF m 0 #[.val (.int vc)] [])) t → Steps p.tables e below (s₁.setTop (entryFrame m #[(.int vc)] 1)) t := fun t k => castTop (ef_rm_ws m vc) k
  have pre1 : ∀ t, Steps p.tables e below (s₁.setTop (mkF m 3 #[.val (.int vc)] [(.int (32 : Int32)), (.int vc)])) t → Steps p.tables e below (s₁.setTop (entryFrame m #[(.int vc)] 1)) t := by
    intro t k
    refine pre0 t ?_
    show Steps p.tables e below (s₁.setTop (mkF m 0 #[.val (.int vc)] [])) _
    refine XS.iloadN X0.here hx rfl (hb hby d2_0) rfl ?_
    show Steps p.tables e below (s₁.setTop (mkF m 1 #[.val (.int vc)] [(.int vc)])) _
    refine XS.bipush X0.here hx rfl (hb hby d2_1) ?_
    show Steps p.tables e below (s₁.setTop (mkF m 3 #[.val (.int vc)] [(.int (32 : Int32)), (.int vc)])) _
    exact k
  by_cases hc2 : vc = (32 : Int32)
  · obtain ⟨fs, hr, hrun, hended, hW, hsame⟩ := X0.leave (v := some (.int (1 : Int32))) (fun h => by rw [Bd.returns] at h; cases h)
    refine ⟨_, _, pre1 _ ?_, hrun, hended, _, _, rfl, ?_, ⟨_, rfl⟩, hW, hsame.mono (by decide) (by decide)⟩
    · show Steps p.tables e below (s₁.setTop (mkF m 3 #[.val (.int vc)] [(.int (32 : Int32)), (.int vc)])) _
      refine XS.icmpYes X0.here hx rfl (pc0 := 3) (pc' := 24) rfl (hb hby d2_3) rfl (teq hc2).1 (by decide) (by decide) ?_
      show Steps p.tables e below (s₁.setTop (mkF m 24 #[.val (.int vc)] [])) _
      refine XS.iconst X0.here hx rfl (hb hby d2_24) ?_
      show Steps p.tables e below (s₁.setTop (mkF m 25 #[.val (.int vc)] [(.int (1 : Int32))])) _
      refine XS.goto X0.here hx rfl (pc0 := 25) (pc' := 29) rfl (hb hby d2_25) (by decide) (by decide) ?_
      show Steps p.tables e below (s₁.setTop (mkF m 29 #[.val (.int vc)] [(.int (1 : Int32))])) _
      exact retN X0 hx (t := .boolean) Bd.returns (by simp) (hb hby d2_29) hr
    · show Q_ws Z vc h0 n0 _ s₁.heap _
      rw [e0]
      exact ⟨by simp [own_ws, hc2], N0, rfl⟩
  · have pre3 : ∀ t, Steps p.tables e below (s₁.setTop (mkF m 9 #[.val (.int vc)] [(.int (9 : Int32)), (.int vc)])) t → Steps p.tables e below (s₁.setTop (entryFrame m #[(.int vc)] 1)) t := by
      intro t k
      refine pre1 t ?_
      show Steps p.tables e below (s₁.setTop (mkF m 3 #[.val (.int vc)] [(.int (32 : Int32)), (.int vc)])) _
      refine XS.icmpNo X0.here hx rfl (hb hby d2_3) rfl (feq hc2).1 ?_
      show Steps p.tables e below (s₁.setTop (mkF m 6 #[.val (.int vc)] [])) _
      refine XS.iloadN X0.here hx rfl (hb hby d2_6) rfl ?_
      show Steps p.tables e below (s₁.setTop (mkF m 7 #[.val (.int vc)] [(.int vc)])) _
      refine XS.bipush X0.here hx rfl (hb hby d2_7) ?_
      show Steps p.tables e below (s₁.setTop (mkF m 9 #[.val (.int vc)] [(.int (9 : Int32)), (.int vc)])) _
      exact k
    by_cases hc4 : vc = (9 : Int32)
    · obtain ⟨fs, hr, hrun, hended, hW, hsame⟩ := X0.leave (v := some (.int (1 : Int32))) (fun h => by rw [Bd.returns] at h; cases h)
      refine ⟨_, _, pre3 _ ?_, hrun, hended, _, _, rfl, ?_, ⟨_, rfl⟩, hW, hsame.mono (by decide) (by decide)⟩
      · show Steps p.tables e below (s₁.setTop (mkF m 9 #[.val (.int vc)] [(.int (9 : Int32)), (.int vc)])) _
        refine XS.icmpYes X0.here hx rfl (pc0 := 9) (pc' := 24) rfl (hb hby d2_9) rfl (teq hc4).1 (by decide) (by decide) ?_
        show Steps p.tables e below (s₁.setTop (mkF m 24 #[.val (.int vc)] [])) _
        refine XS.iconst X0.here hx rfl (hb hby d2_24) ?_
        show Steps p.tables e below (s₁.setTop (mkF m 25 #[.val (.int vc)] [(.int (1 : Int32))])) _
        refine XS.goto X0.here hx rfl (pc0 := 25) (pc' := 29) rfl (hb hby d2_25) (by decide) (by decide) ?_
        show Steps p.tables e below (s₁.setTop (mkF m 29 #[.val (.int vc)] [(.int (1 : Int32))])) _
        exact retN X0 hx (t := .boolean) Bd.returns (by simp) (hb hby d2_29) hr
      · show Q_ws Z vc h0 n0 _ s₁.heap _
        rw [e0]
        exact ⟨by simp [own_ws, hc2, hc4], N0, rfl⟩
    · have pre5 : ∀ t, Steps p.tables e below (s₁.setTop (mkF m 15 #[.val (.int vc)] [(.int (10 : Int32)), (.int vc)])) t → Steps p.tables e below (s₁.setTop (entryFrame m #[(.int vc)] 1)) t := by
        intro t k
        refine pre3 t ?_
        show Steps p.tables e below (s₁.setTop (mkF m 9 #[.val (.int vc)] [(.int (9 : Int32)), (.int vc)])) _
        refine XS.icmpNo X0.here hx rfl (hb hby d2_9) rfl (feq hc4).1 ?_
        show Steps p.tables e below (s₁.setTop (mkF m 12 #[.val (.int vc)] [])) _
        refine XS.iloadN X0.here hx rfl (hb hby d2_12) rfl ?_
        show Steps p.tables e below (s₁.setTop (mkF m 13 #[.val (.int vc)] [(.int vc)])) _
        refine XS.bipush X0.here hx rfl (hb hby d2_13) ?_
        show Steps p.tables e below (s₁.setTop (mkF m 15 #[.val (.int vc)] [(.int (10 : Int32)), (.int vc)])) _
        exact k
      by_cases hc6 : vc = (10 : Int32)
      · obtain ⟨fs, hr, hrun, hended, hW, hsame⟩ := X0.leave (v := some (.int (1 : Int32))) (fun h => by rw [Bd.returns] at h; cases h)
        refine ⟨_, _, pre5 _ ?_, hrun, hended, _, _, rfl, ?_, ⟨_, rfl⟩, hW, hsame.mono (by decide) (by decide)⟩
        · show Steps p.tables e below (s₁.setTop (mkF m 15 #[.val (.int vc)] [(.int (10 : Int32)), (.int vc)])) _
          refine XS.icmpYes X0.here hx rfl (pc0 := 15) (pc' := 24) rfl (hb hby d2_15) rfl (teq hc6).1 (by decide) (by decide) ?_
          show Steps p.tables e below (s₁.setTop (mkF m 24 #[.val (.int vc)] [])) _
          refine XS.iconst X0.here hx rfl (hb hby d2_24) ?_
          show Steps p.tables e below (s₁.setTop (mkF m 25 #[.val (.int vc)] [(.int (1 : Int32))])) _
          refine XS.goto X0.here hx rfl (pc0 := 25) (pc' := 29) rfl (hb hby d2_25) (by decide) (by decide) ?_
          show Steps p.tables e below (s₁.setTop (mkF m 29 #[.val (.int vc)] [(.int (1 : Int32))])) _
          exact retN X0 hx (t := .boolean) Bd.returns (by simp) (hb hby d2_29) hr
        · show Q_ws Z vc h0 n0 _ s₁.heap _
          rw [e0]
          exact ⟨by simp [own_ws, hc2, hc4, hc6], N0, rfl⟩
      · have pre7 : ∀ t, Steps p.tables e below (s₁.setTop (mkF m 21 #[.val (.int vc)] [(.int (13 : Int32)), (.int vc)])) t → Steps p.tables e below (s₁.setTop (entryFrame m #[(.int vc)] 1)) t := by
          intro t k
          refine pre5 t ?_
          show Steps p.tables e below (s₁.setTop (mkF m 15 #[.val (.int vc)] [(.int (10 : Int32)), (.int vc)])) _
          refine XS.icmpNo X0.here hx rfl (hb hby d2_15) rfl (feq hc6).1 ?_
          show Steps p.tables e below (s₁.setTop (mkF m 18 #[.val (.int vc)] [])) _
          refine XS.iloadN X0.here hx rfl (hb hby d2_18) rfl ?_
          show Steps p.tables e below (s₁.setTop (mkF m 19 #[.val (.int vc)] [(.int vc)])) _
          refine XS.bipush X0.here hx rfl (hb hby d2_19) ?_
          show Steps p.tables e below (s₁.setTop (mkF m 21 #[.val (.int vc)] [(.int (13 : Int32)), (.int vc)])) _
          exact k
        by_cases hc8 : vc = (13 : Int32)
        · obtain ⟨fs, hr, hrun, hended, hW, hsame⟩ := X0.leave (v := some (.int (1 : Int32))) (fun h => by rw [Bd.returns] at h; cases h)
          refine ⟨_, _, pre7 _ ?_, hrun, hended, _, _, rfl, ?_, ⟨_, rfl⟩, hW, hsame.mono (by decide) (by decide)⟩
          · show Steps p.tables e below (s₁.setTop (mkF m 21 #[.val (.int vc)] [(.int (13 : Int32)), (.int vc)])) _
            refine XS.icmpNo X0.here hx rfl (hb hby d2_21) rfl (teq hc8).2 ?_
            show Steps p.tables e below (s₁.setTop (mkF m 24 #[.val (.int vc)] [])) _
            refine XS.iconst X0.here hx rfl (hb hby d2_24) ?_
            show Steps p.tables e below (s₁.setTop (mkF m 25 #[.val (.int vc)] [(.int (1 : Int32))])) _
            refine XS.goto X0.here hx rfl (pc0 := 25) (pc' := 29) rfl (hb hby d2_25) (by decide) (by decide) ?_
            show Steps p.tables e below (s₁.setTop (mkF m 29 #[.val (.int vc)] [(.int (1 : Int32))])) _
            exact retN X0 hx (t := .boolean) Bd.returns (by simp) (hb hby d2_29) hr
          · show Q_ws Z vc h0 n0 _ s₁.heap _
            rw [e0]
            exact ⟨by simp [own_ws, hc2, hc4, hc6, hc8], N0, rfl⟩
        · obtain ⟨fs, hr, hrun, hended, hW, hsame⟩ := X0.leave (v := some (.int (0 : Int32))) (fun h => by rw [Bd.returns] at h; cases h)
          refine ⟨_, _, pre7 _ ?_, hrun, hended, _, _, rfl, ?_, ⟨_, rfl⟩, hW, hsame.mono (by decide) (by decide)⟩
          · show Steps p.tables e below (s₁.setTop (mkF m 21 #[.val (.int vc)] [(.int (13 : Int32)), (.int vc)])) _
            refine XS.icmpYes X0.here hx rfl (pc0 := 21) (pc' := 28) rfl (hb hby d2_21) rfl (feq hc8).2 (by decide) (by decide) ?_
            show Steps p.tables e below (s₁.setTop (mkF m 28 #[.val (.int vc)] [])) _
            refine XS.iconst X0.here hx rfl (hb hby d2_28) ?_
            show Steps p.tables e below (s₁.setTop (mkF m 29 #[.val (.int vc)] [(.int (0 : Int32))])) _
            exact retN X0 hx (t := .boolean) Bd.returns (by simp) (hb hby d2_29) hr
          · show Q_ws Z vc h0 n0 _ s₁.heap _
            rw [e0]
            exact ⟨by simp [own_ws, hc2, hc4, hc6, hc8], N0, rfl⟩
theorem d3_0 : decode method_2_code 0 = .ok (.iload_n 0, 1) := by decide +kernel
theorem d3_1 : decode method_2_code 1 = .ok (.bipush 32, 2) := by decide +kernel
theorem d3_3 : decode method_2_code 3 = .ok (.if_icmp .gt 19, 3) := by decide +kernel
theorem d3_6 : decode method_2_code 6 = .ok (.lconst 1, 1) := by decide +kernel
theorem d3_7 : decode method_2_code 7 = .ok (.iload_n 0, 1) := by decide +kernel
theorem d3_8 : decode method_2_code 8 = .ok (.lshl, 1) := by decide +kernel
theorem d3_9 : decode method_2_code 9 = .ok (.ldc2_w 7, 3) := by decide +kernel
theorem d3_12 : decode method_2_code 12 = .ok (.land, 1) := by decide +kernel
theorem d3_13 : decode method_2_code 13 = .ok (.lconst 0, 1) := by decide +kernel
theorem d3_14 : decode method_2_code 14 = .ok (.lcmp, 1) := by decide +kernel
theorem d3_15 : decode method_2_code 15 = .ok (.ifCond .eq 7, 3) := by decide +kernel
theorem d3_18 : decode method_2_code 18 = .ok (.iconst 1, 1) := by decide +kernel
theorem d3_19 : decode method_2_code 19 = .ok (.goto 4, 3) := by decide +kernel
theorem d3_22 : decode method_2_code 22 = .ok (.iconst 0, 1) := by decide +kernel
theorem d3_23 : decode method_2_code 23 = .ok (.ireturn, 1) := by decide +kernel
theorem pn_rm_ref : plainName "com/example/narrow_grant/narrowgrant/model/XmlItemsIsWhitespacePinLaw" = true := by first | (simp [plainName, overriddenIn]; done) | decide +kernel
theorem ef_rm_ref (m : MethodId) (vc : Int32) : entryFrame m #[(.int vc)] 1 = mkF m 0 #[.val (.int vc)] [] := by first | (simp [entryFrame, mkF, argsToLocals, Value.category]; done) | rfl
def Q_ref (Z : State) (vc : Int32) (h0 : Heap) (n0 : Nat) (v : Option Value) (h : Heap) (L : List Loc) : Prop := v = some (.int (own_ref vc)) ∧ Fr n0 L ∧ h = h0
set_option maxRecDepth 65536 in
set_option maxHeartbeats 40000000 in
theorem rm_ref (l : Launch) (Z : State) (a0 : Array Value) (hw : ∀ d ∈ tables_1, d.before a0 Z = true) (ws : List Jvm.Cond) (vc : Int32) (h0 : Heap) (n0 : Nat) (Z0 : n0 ≤ h0.size) :
    MetFree l (⟨"com/example/narrow_grant/narrowgrant/model/XmlItemsIsWhitespacePinLaw", "reference", "(C)Z"⟩ : MethodName) (head1 (Jvm.Cond.code (⟨"com/example/narrow_grant/narrowgrant/model/XmlItemsIsWhitespacePinLaw", "reference", "(C)Z"⟩ : MethodName) method_2_code 1 (some .boolean) :: ws) ({ frames := 0, cells := 0, slots := 0, locals := 0 } : Room)) (fun a U => a = #[(.int vc)] ∧ Z.Warmed39 U.vm ∧ U.heap = h0) (fun _ _ _ _ _ => True) (fun _ U o U' => ∃ v L, o = .returned v ∧ Q_ref Z vc h0 n0 v U'.heap L ∧ FrameEnd U o U' L ({ frames := 0, cells := 0, slots := 0, locals := 0 } : Room).cells ({ frames := 0, cells := 0, slots := 0, locals := 0 } : Room).slots) := by
  refine MetFree.of_bodySF (plainFor_of_name pn_rm_ref) hisR ?_
  intro p e s m args below meth c s₁ Bd hml0 hP hK
  obtain ⟨rfl, hZ, hh⟩ := hP
  have hx := Bd.exec
  have hby := Bd.bytes
  have hml : c.maxLocals = 1 := hml0
  have hown : s.vm.findClass "com/example/narrow_grant/narrowgrant/model/XmlItemsIsWhitespacePinLaw" = some m.cls := findClass_of_methodNamed Bd.named
  have hnm := (name_of_methodNamed Bd.named Bd.method).1
  have X0 : Stand p l e ({ frames := 0, cells := 0, slots := 0, locals := 0 } : Room) s m #[(.int vc)] below meth c s₁ [] 0 0 := Stand.of_body Bd
  have e0 : s₁.heap = h0 := by rw [← hh, Bd.state]; rfl
  have N0 := Fr.nil n0
  have pre0 : ∀ t, Steps p.tables e below (s₁.setTop (mkF m 0 #[.val (.int vc)] [])) t → Steps p.tables e below (s₁.setTop (entryFrame m #[(.int vc)] 1)) t := fun t k => castTop (ef_rm_ref m vc) k
  have pre1 : ∀ t, Steps p.tables e below (s₁.setTop (mkF m 3 #[.val (.int vc)] [(.int (32 : Int32)), (.int vc)])) t → Steps p.tables e below (s₁.setTop (entryFrame m #[(.int vc)] 1)) t := by
    intro t k
    refine pre0 t ?_
    show Steps p.tables e below (s₁.setTop (mkF m 0 #[.val (.int vc)] [])) _
    refine XS.iloadN X0.here hx rfl (hb hby d3_0) rfl ?_
    show Steps p.tables e below (s₁.setTop (mkF m 1 #[.val (.int vc)] [(.int vc)])) _
    refine XS.bipush X0.here hx rfl (hb hby d3_1) ?_
    show Steps p.tables e below (s₁.setTop (mkF m 3 #[.val (.int vc)] [(.int (32 : Int32)), (.int vc)])) _
    exact k
  by_cases hc2 : (32 : Int32) < vc
  · obtain ⟨fs, hr, hrun, hended, hW, hsame⟩ := X0.leave (v := some (.int (0 : Int32))) (fun h => by rw [Bd.returns] at h; cases h)
    refine ⟨_, _, pre1 _ ?_, hrun, hended, _, _, rfl, ?_, ⟨_, rfl⟩, hW, hsame.mono (by decide) (by decide)⟩
    · show Steps p.tables e below (s₁.setTop (mkF m 3 #[.val (.int vc)] [(.int (32 : Int32)), (.int vc)])) _
      refine XS.icmpYes X0.here hx rfl (pc0 := 3) (pc' := 22) rfl (hb hby d3_3) rfl (tlt hc2).2.2.1 (by decide) (by decide) ?_
      show Steps p.tables e below (s₁.setTop (mkF m 22 #[.val (.int vc)] [])) _
      refine XS.iconst X0.here hx rfl (hb hby d3_22) ?_
      show Steps p.tables e below (s₁.setTop (mkF m 23 #[.val (.int vc)] [(.int (0 : Int32))])) _
      exact retN X0 hx (t := .boolean) Bd.returns (by simp) (hb hby d3_23) hr
    · show Q_ref Z vc h0 n0 _ s₁.heap _
      rw [e0]
      exact ⟨congrArg (fun z => some (Value.int z)) (if_neg (fun q => q.1 hc2)).symm, N0, rfl⟩
  · have pre3 : ∀ t, Steps p.tables e below (s₁.setTop (mkF m 15 #[.val (.int vc)] [(.int (lcmpW (((1 : Int64) <<< (vc &&& 0x3f).toInt64) &&& (4294977024 : Int64)) (0 : Int64)))])) t → Steps p.tables e below (s₁.setTop (entryFrame m #[(.int vc)] 1)) t := by
      intro t k
      refine pre1 t ?_
      show Steps p.tables e below (s₁.setTop (mkF m 3 #[.val (.int vc)] [(.int (32 : Int32)), (.int vc)])) _
      refine XS.icmpNo X0.here hx rfl (hb hby d3_3) rfl (flt hc2).2.2.1 ?_
      show Steps p.tables e below (s₁.setTop (mkF m 6 #[.val (.int vc)] [])) _
      refine XS.lconst X0.here hx rfl (hb hby d3_6) ?_
      show Steps p.tables e below (s₁.setTop (mkF m 7 #[.val (.int vc)] [(.long (1 : Int64))])) _
      refine XS.iloadN X0.here hx rfl (hb hby d3_7) rfl ?_
      show Steps p.tables e below (s₁.setTop (mkF m 8 #[.val (.int vc)] [(.int vc), (.long (1 : Int64))])) _
      refine XS.lshl X0.here hx rfl (hb hby d3_8) rfl ?_
      show Steps p.tables e below (s₁.setTop (mkF m 9 #[.val (.int vc)] [(.long ((1 : Int64) <<< (vc &&& 0x3f).toInt64))])) _
      refine X0.ldc2Long hx hown (mvT hZ (hw _ (List.mem_of_getElem? (i := 12) rfl))) (g := (mkF m 9 #[.val (.int vc)] [(.long ((1 : Int64) <<< (vc &&& 0x3f).toInt64))])) rfl (hb hby d3_9) _ ?_
      show Steps p.tables e below (s₁.setTop (mkF m 12 #[.val (.int vc)] [(.long (4294977024 : Int64)), (.long ((1 : Int64) <<< (vc &&& 0x3f).toInt64))])) _
      refine XS.land X0.here hx rfl (hb hby d3_12) rfl ?_
      show Steps p.tables e below (s₁.setTop (mkF m 13 #[.val (.int vc)] [(.long (((1 : Int64) <<< (vc &&& 0x3f).toInt64) &&& (4294977024 : Int64)))])) _
      refine XS.lconst X0.here hx rfl (hb hby d3_13) ?_
      show Steps p.tables e below (s₁.setTop (mkF m 14 #[.val (.int vc)] [(.long (0 : Int64)), (.long (((1 : Int64) <<< (vc &&& 0x3f).toInt64) &&& (4294977024 : Int64)))])) _
      refine XS.lcmp X0.here hx rfl (hb hby d3_14) rfl ?_
      show Steps p.tables e below (s₁.setTop (mkF m 15 #[.val (.int vc)] [(.int (lcmpW (((1 : Int64) <<< (vc &&& 0x3f).toInt64) &&& (4294977024 : Int64)) (0 : Int64)))])) _
      exact k
    by_cases hc4 : (((1 : Int64) <<< (vc &&& 0x3f).toInt64) &&& (4294977024 : Int64)) = (0 : Int64)
    · obtain ⟨fs, hr, hrun, hended, hW, hsame⟩ := X0.leave (v := some (.int (0 : Int32))) (fun h => by rw [Bd.returns] at h; cases h)
      refine ⟨_, _, pre3 _ ?_, hrun, hended, _, _, rfl, ?_, ⟨_, rfl⟩, hW, hsame.mono (by decide) (by decide)⟩
      · show Steps p.tables e below (s₁.setTop (mkF m 15 #[.val (.int vc)] [(.int (lcmpW (((1 : Int64) <<< (vc &&& 0x3f).toInt64) &&& (4294977024 : Int64)) (0 : Int64)))])) _
        refine XS.ifYes X0.here hx rfl (pc0 := 15) (pc' := 22) rfl (hb hby d3_15) rfl ((if0 _ _).trans (teq ((lw_eq _ _).mpr hc4)).1) (by decide) (by decide) ?_
        show Steps p.tables e below (s₁.setTop (mkF m 22 #[.val (.int vc)] [])) _
        refine XS.iconst X0.here hx rfl (hb hby d3_22) ?_
        show Steps p.tables e below (s₁.setTop (mkF m 23 #[.val (.int vc)] [(.int (0 : Int32))])) _
        exact retN X0 hx (t := .boolean) Bd.returns (by simp) (hb hby d3_23) hr
      · show Q_ref Z vc h0 n0 _ s₁.heap _
        rw [e0]
        exact ⟨congrArg (fun z => some (Value.int z)) (if_neg (fun q => q.2 hc4)).symm, N0, rfl⟩
    · obtain ⟨fs, hr, hrun, hended, hW, hsame⟩ := X0.leave (v := some (.int (1 : Int32))) (fun h => by rw [Bd.returns] at h; cases h)
      refine ⟨_, _, pre3 _ ?_, hrun, hended, _, _, rfl, ?_, ⟨_, rfl⟩, hW, hsame.mono (by decide) (by decide)⟩
      · show Steps p.tables e below (s₁.setTop (mkF m 15 #[.val (.int vc)] [(.int (lcmpW (((1 : Int64) <<< (vc &&& 0x3f).toInt64) &&& (4294977024 : Int64)) (0 : Int64)))])) _
        refine XS.ifNo X0.here hx rfl (hb hby d3_15) rfl ((if0 _ _).trans (feq (mt (lw_eq _ _).mp hc4)).1) ?_
        show Steps p.tables e below (s₁.setTop (mkF m 18 #[.val (.int vc)] [])) _
        refine XS.iconst X0.here hx rfl (hb hby d3_18) ?_
        show Steps p.tables e below (s₁.setTop (mkF m 19 #[.val (.int vc)] [(.int (1 : Int32))])) _
        refine XS.goto X0.here hx rfl (pc0 := 19) (pc' := 23) rfl (hb hby d3_19) (by decide) (by decide) ?_
        show Steps p.tables e below (s₁.setTop (mkF m 23 #[.val (.int vc)] [(.int (1 : Int32))])) _
        exact retN X0 hx (t := .boolean) Bd.returns (by simp) (hb hby d3_23) hr
      · show Q_ref Z vc h0 n0 _ s₁.heap _
        rw [e0]
        exact ⟨congrArg (fun z => some (Value.int z)) (if_pos ⟨hc2, hc4⟩).symm, N0, rfl⟩
theorem d1_0 : decode method_3_code 0 = .ok (.iload_n 0, 1) := by decide +kernel
theorem d1_1 : decode method_3_code 1 = .ok (.invokestatic 9, 3) := by decide +kernel
theorem d1_4 : decode method_3_code 4 = .ok (.iload_n 0, 1) := by decide +kernel
theorem d1_5 : decode method_3_code 5 = .ok (.invokestatic 15, 3) := by decide +kernel
theorem d1_8 : decode method_3_code 8 = .ok (.if_icmp .ne 7, 3) := by decide +kernel
theorem d1_11 : decode method_3_code 11 = .ok (.iconst 1, 1) := by decide +kernel
theorem d1_12 : decode method_3_code 12 = .ok (.goto 4, 3) := by decide +kernel
theorem d1_15 : decode method_3_code 15 = .ok (.iconst 0, 1) := by decide +kernel
theorem d1_16 : decode method_3_code 16 = .ok (.ireturn, 1) := by decide +kernel
theorem pn_rm_ag : plainName "com/example/narrow_grant/narrowgrant/model/XmlItemsIsWhitespacePinLaw" = true := by first | (simp [plainName, overriddenIn]; done) | decide +kernel
theorem ef_rm_ag (m : MethodId) (vc : Int32) : entryFrame m #[(.int vc)] 1 = mkF m 0 #[.val (.int vc)] [] := by first | (simp [entryFrame, mkF, argsToLocals, Value.category]; done) | rfl
def Q_ag (Z : State) (vc : Int32) (h0 : Heap) (n0 : Nat) (v : Option Value) (h : Heap) (L : List Loc) : Prop := v = some (.int 1) ∧ Fr n0 L ∧ h = h0
set_option maxRecDepth 65536 in
set_option maxHeartbeats 40000000 in
theorem rm_ag (l : Launch) (Z : State) (a0 : Array Value) (hw : ∀ d ∈ tables_1, d.before a0 Z = true) (ws : List Jvm.Cond) (vc : Int32) (h0 : Heap) (n0 : Nat) (Z0 : n0 ≤ h0.size) (hpos : 0 ≤ vc.toInt) :
    MetFree l (⟨"com/example/narrow_grant/narrowgrant/model/XmlItemsIsWhitespacePinLaw", "agrees", "(C)Z"⟩ : MethodName) (head1 (Jvm.Cond.code (⟨"com/example/narrow_grant/narrowgrant/model/XmlItemsIsWhitespacePinLaw", "agrees", "(C)Z"⟩ : MethodName) method_3_code 1 (some .boolean) :: ws) ({ frames := 1, cells := 0, slots := 0, locals := 20 } : Room)) (fun a U => a = #[(.int vc)] ∧ Z.Warmed39 U.vm ∧ U.heap = h0) (fun _ _ _ _ _ => True) (fun _ U o U' => ∃ v L, o = .returned v ∧ Q_ag Z vc h0 n0 v U'.heap L ∧ FrameEnd U o U' L ({ frames := 1, cells := 0, slots := 0, locals := 20 } : Room).cells ({ frames := 1, cells := 0, slots := 0, locals := 20 } : Room).slots) := by
  refine MetFree.of_bodySF (plainFor_of_name pn_rm_ag) hisR ?_
  intro p e s m args below meth c s₁ Bd hml0 hP hK
  obtain ⟨rfl, hZ, hh⟩ := hP
  have hx := Bd.exec
  have hby := Bd.bytes
  have hml : c.maxLocals = 1 := hml0
  have hown : s.vm.findClass "com/example/narrow_grant/narrowgrant/model/XmlItemsIsWhitespacePinLaw" = some m.cls := findClass_of_methodNamed Bd.named
  have hnm := (name_of_methodNamed Bd.named Bd.method).1
  have X0 : Stand p l e ({ frames := 1, cells := 0, slots := 0, locals := 20 } : Room) s m #[(.int vc)] below meth c s₁ [] 0 0 := Stand.of_body Bd
  have e0 : s₁.heap = h0 := by rw [← hh, Bd.state]; rfl
  have N0 := Fr.nil n0
  have pre0 : ∀ t, Steps p.tables e below (s₁.setTop (mkF m 0 #[.val (.int vc)] [])) t → Steps p.tables e below (s₁.setTop (entryFrame m #[(.int vc)] 1)) t := fun t k => castTop (ef_rm_ag m vc) k
  obtain ⟨_, _, ⟨T1, L1, k1, n1⟩, -, X1, ⟨Lc1, hQ1, l1, y1, z1⟩, st1⟩ := Jvm.LawKit.callS X0 hx (y := (⟨"com/example/narrow_grant/narrowgrant/model/XmlItems", "isWhitespace", "(C)Z"⟩ : MethodName)) hown (mvT hZ (hw _ (List.mem_of_getElem? (i := 5) rfl))) (mvT hZ (hw _ (List.mem_of_getElem? (i := 6) rfl))) (mvT hZ (hw _ (List.mem_of_getElem? (i := 7) rfl))) (mvT hZ (hw _ (List.mem_of_getElem? (i := 8) rfl))) (by decide) (backOf (W := 0) (rm_ws l Z a0 hw [] vc h0 n0 Z0 ) hZ (hw _ (List.mem_of_getElem? (i := 8) rfl)) (hw _ (List.mem_of_getElem? (i := 7) rfl)) (by decide) (by decide)) (g := (mkF m 1 #[.val (.int vc)] [(.int vc)])) rfl (by rw [hml]; rfl) (argsL := [(.int vc)]) (rest := []) (lenOf own_pd0 rfl) rfl (by show 2 * 0 + _ ≤ _; exact Nat.le_of_eq rfl) (hb hby d1_1) (fun _ _ => ⟨rfl, e0, (by decide : 0 + 0 ≤ _), (by decide : 0 + 0 ≤ _)⟩)
  dsimp only [Pt.U, Pt.locs, Pt.cells, Pt.slots] at X1 l1 y1 z1 st1 hQ1
  subst l1 y1 z1
  obtain ⟨rfl, Nq1, hh1⟩ := hQ1
  have Nf1 := Fr.app N0 Nq1
  obtain ⟨_, _, ⟨T2, L2, k2, n2⟩, -, X2, ⟨Lc2, hQ2, l2, y2, z2⟩, st2⟩ := Jvm.LawKit.callS X1 hx (y := (⟨"com/example/narrow_grant/narrowgrant/model/XmlItemsIsWhitespacePinLaw", "reference", "(C)Z"⟩ : MethodName)) hown (mvT hZ (hw _ (List.mem_of_getElem? (i := 9) rfl))) (mvT hZ (hw _ (List.mem_of_getElem? (i := 10) rfl))) (mvT hZ (hw _ (List.mem_of_getElem? (i := 3) rfl))) (mvT hZ (hw _ (List.mem_of_getElem? (i := 11) rfl))) (by decide) (backOf (W := 1) (rm_ref l Z a0 hw [] vc h0 n0 Z0 ) hZ (hw _ (List.mem_of_getElem? (i := 11) rfl)) (hw _ (List.mem_of_getElem? (i := 3) rfl)) (by decide) (by decide)) (g := (mkF m 5 #[.val (.int vc)] [(.int vc), (.int (own_ws vc))])) rfl (by rw [hml]; rfl) (argsL := [(.int vc)]) (rest := [(.int (own_ws vc))]) (lenOf own_pd0 rfl) rfl (by show 2 * 0 + _ ≤ _; exact Nat.le_of_eq rfl) (hb hby d1_5) (fun _ _ => ⟨rfl, hh1, (by decide : 0 + 0 ≤ _), (by decide : 0 + 0 ≤ _)⟩)
  dsimp only [Pt.U, Pt.locs, Pt.cells, Pt.slots] at X2 l2 y2 z2 st2 hQ2
  subst l2 y2 z2
  obtain ⟨rfl, Nq2, hh2⟩ := hQ2
  have Nf2 := Fr.app Nf1 Nq2
  have pre3 : ∀ t, Steps p.tables e below (T2.setTop (mkF m 8 #[.val (.int vc)] [(.int (own_ref vc)), (.int (own_ws vc))])) t → Steps p.tables e below (s₁.setTop (entryFrame m #[(.int vc)] 1)) t := by
    intro t k
    refine pre0 t ?_
    show Steps p.tables e below (s₁.setTop (mkF m 0 #[.val (.int vc)] [])) _
    refine XS.iloadN X0.here hx rfl (hb hby d1_0) rfl ?_
    show Steps p.tables e below (s₁.setTop (mkF m 1 #[.val (.int vc)] [(.int vc)])) _
    refine st1 _ ?_
    show Steps p.tables e below (T1.setTop (mkF m 4 #[.val (.int vc)] [(.int (own_ws vc))])) _
    refine XS.iloadN X1.here hx rfl (hb hby d1_4) rfl ?_
    show Steps p.tables e below (T1.setTop (mkF m 5 #[.val (.int vc)] [(.int vc), (.int (own_ws vc))])) _
    refine st2 _ ?_
    show Steps p.tables e below (T2.setTop (mkF m 8 #[.val (.int vc)] [(.int (own_ref vc)), (.int (own_ws vc))])) _
    exact k
  have hd4 : (own_ws vc) = (own_ref vc) := own_agree vc hpos
  obtain ⟨fs, hr, hrun, hended, hW, hsame⟩ := X2.leave (v := some (.int (1 : Int32))) (fun h => by rw [Bd.returns] at h; cases h)
  refine ⟨_, _, pre3 _ ?_, hrun, hended, _, _, rfl, ?_, ⟨_, rfl⟩, hW, hsame.mono (by decide) (by decide)⟩
  · show Steps p.tables e below (T2.setTop (mkF m 8 #[.val (.int vc)] [(.int (own_ref vc)), (.int (own_ws vc))])) _
    refine XS.icmpNo X2.here hx rfl (hb hby d1_8) rfl (teq hd4).2 ?_
    show Steps p.tables e below (T2.setTop (mkF m 11 #[.val (.int vc)] [])) _
    refine XS.iconst X2.here hx rfl (hb hby d1_11) ?_
    show Steps p.tables e below (T2.setTop (mkF m 12 #[.val (.int vc)] [(.int (1 : Int32))])) _
    refine XS.goto X2.here hx rfl (pc0 := 12) (pc' := 16) rfl (hb hby d1_12) (by decide) (by decide) ?_
    show Steps p.tables e below (T2.setTop (mkF m 16 #[.val (.int vc)] [(.int (1 : Int32))])) _
    exact retN X2 hx (t := .boolean) Bd.returns (by simp) (hb hby d1_16) hr
  · show Q_ag Z vc h0 n0 _ T2.heap _
    rw [hh2]
    exact ⟨rfl, Nf2, rfl⟩
theorem pn_rm0 : plainName "com/example/narrow_grant/narrowgrant/model/XmlItemsIsWhitespacePinLaw" = true := by first | (simp [plainName, overriddenIn]; done) | decide +kernel
theorem ef_rm0 (m : MethodId) (vx : Int32) (vp : Int32) : entryFrame m #[(.int vx), (.int vp)] maxLocals = mkF m 0 #[.val (.int vx), .val (.int vp), .unset, .unset, .unset, .unset] [] := by first | (simp [entryFrame, mkF, argsToLocals, Value.category, maxLocals]; done) | rfl
def Q0 (Z : State) (vx : Int32) (vp : Int32) (h0 : Heap) (n0 : Nat) (v : Option Value) (h : Heap) (L : List Loc) : Prop := v = some (.int 1) ∧ Fr n0 L
set_option maxRecDepth 65536 in
set_option maxHeartbeats 40000000 in
theorem rm0 (l : Launch) (Z : State) (a0 : Array Value) (hw : ∀ d ∈ tables_1, d.before a0 Z = true) (ws : List Jvm.Cond) (vx : Int32) (vp : Int32) (h0 : Heap) (n0 : Nat) (Z0 : n0 ≤ h0.size) :
    MetFree l x (head1 (Jvm.Cond.code x code maxLocals ret :: ws) room_1) (fun a U => a = #[(.int vx), (.int vp)] ∧ Z.Warmed39 U.vm ∧ U.heap = h0) (fun _ _ _ _ _ => True) (fun _ U o U' => ∃ v L, o = .returned v ∧ Q0 Z vx vp h0 n0 v U'.heap L ∧ FrameEnd U o U' L room_1.cells room_1.slots) := by
  refine MetFree.of_bodySF (plainFor_of_name pn_rm0) hisR ?_
  intro p e s m args below meth c s₁ Bd hml0 hP hK
  obtain ⟨rfl, hZ, hh⟩ := hP
  have hx := Bd.exec
  have hby := Bd.bytes
  have hml : c.maxLocals = 6 := hml0
  have hown : s.vm.findClass "com/example/narrow_grant/narrowgrant/model/XmlItemsIsWhitespacePinLaw" = some m.cls := findClass_of_methodNamed Bd.named
  have hnm := (name_of_methodNamed Bd.named Bd.method).1
  have X0 : Stand p l e room_1 s m #[(.int vx), (.int vp)] below meth c s₁ [] 0 0 := Stand.of_body Bd
  have e0 : s₁.heap = h0 := by rw [← hh, Bd.state]; rfl
  have N0 := Fr.nil n0
  have pre0 : ∀ t, Steps p.tables e below (s₁.setTop (mkF m 0 #[.val (.int vx), .val (.int vp), .unset, .unset, .unset, .unset] [])) t → Steps p.tables e below (s₁.setTop (entryFrame m #[(.int vx), (.int vp)] maxLocals)) t := fun t k => castTop (ef_rm0 m vx vp) k
  have pre1 : ∀ t, Steps p.tables e below (s₁.setTop (mkF m 3 #[.val (.int vx), .val (.int vp), .val (.int (vx.toUInt32.toUInt16.toUInt32.toInt32)), .unset, .unset, .unset] [])) t → Steps p.tables e below (s₁.setTop (entryFrame m #[(.int vx), (.int vp)] maxLocals)) t := by
    intro t k
    refine pre0 t ?_
    show Steps p.tables e below (s₁.setTop (mkF m 0 #[.val (.int vx), .val (.int vp), .unset, .unset, .unset, .unset] [])) _
    refine XS.iloadN X0.here hx rfl (hb hby at_0) rfl ?_
    show Steps p.tables e below (s₁.setTop (mkF m 1 #[.val (.int vx), .val (.int vp), .unset, .unset, .unset, .unset] [(.int vx)])) _
    refine XS.i2c X0.here hx rfl (hb hby at_1) rfl ?_
    show Steps p.tables e below (s₁.setTop (mkF m 2 #[.val (.int vx), .val (.int vp), .unset, .unset, .unset, .unset] [(.int (vx.toUInt32.toUInt16.toUInt32.toInt32))])) _
    refine XS.istoreN X0.here hx rfl (hb hby at_2) rfl (l' := #[.val (.int vx), .val (.int vp), .val (.int (vx.toUInt32.toUInt16.toUInt32.toInt32)), .unset, .unset, .unset]) rfl ?_
    show Steps p.tables e below (s₁.setTop (mkF m 3 #[.val (.int vx), .val (.int vp), .val (.int (vx.toUInt32.toUInt16.toUInt32.toInt32)), .unset, .unset, .unset] [])) _
    exact k
  obtain ⟨va, h_va⟩ : ∃ z : Int32, z = (vx.toUInt32.toUInt16.toUInt32.toInt32) := ⟨_, rfl⟩
  have pre2 : ∀ t, Steps p.tables e below (s₁.setTop (mkF m 3 #[.val (.int vx), .val (.int vp), .val (.int va), .unset, .unset, .unset] [])) t → Steps p.tables e below (s₁.setTop (entryFrame m #[(.int vx), (.int vp)] maxLocals)) t := by
    subst h_va
    exact pre1
  obtain ⟨T3, h3, k3, X3, e3, E3, A3, st3⟩ := newP X0 hx hZ (hw _ (List.mem_of_getElem? (i := 0) rfl)) e0 (g := (mkF m 4 #[.val (.int vx), .val (.int vp), .val (.int va), .unset, .unset, .unset] [(.int (4 : Int32))])) rfl (hb hby at_4) rfl (by decide) (cap := 4) (by decide) (by decide) (by decide) (by decide)
  obtain ⟨b3, g3⟩ : ∃ z, z = h0.size := ⟨_, rfl⟩
  rw [← g3] at A3 st3
  have g_b3 : n0 ≤ b3 := Nat.le_trans Z0 (Nat.le_of_eq g3.symm)
  have Zp4 : n0 ≤ h3.size := Nat.le_trans Z0 E3.1
  have V3 : Arv Z h3 b3 k3 .char (4 : Int32) [(.int (0 : Int32)), (.int (0 : Int32)), (.int (0 : Int32)), (.int (0 : Int32))] (.int (0 : Int32)) := (Arv.new A3 (by decide)).pad (pad_rep [] (.int (0 : Int32)) 4)
  obtain ⟨cl5, Ar5, q5, S5, M5, H5, G5⟩ := V3
  have hin5 : ¬ ((0 : Int32) < 0 ∨ cl5.slots.size ≤ ((0 : Int32)).toNatClampNeg) := inb_of S5 ⟨by decide, by decide⟩
  obtain ⟨T6, h6, X6, e6, W6, st6⟩ := stC X3 hx hZ e3 Ar5 (j := (0 : Int32)) hin5 (g := (mkF m 10 #[.val (.int vx), .val (.int vp), .val (.int va), .unset, .unset, .unset] [(.int (32 : Int32)), (.int (0 : Int32)), (.ref b3), (.ref b3)])) rfl rfl (hb hby at_10)
  have N6 := Fr.snoc X6 N0 g_b3
  rw [show nar .char (32 : Int32) = (32 : Int32) from by decide +kernel] at W6
  have V6 : Arv Z h6 b3 k3 .char (4 : Int32) [(.int (32 : Int32)), (.int (0 : Int32)), (.int (0 : Int32)), (.int (0 : Int32))] (.int (0 : Int32)) := Arv.set Ar5 q5 S5 M5 H5 G5 rfl W6 0 rfl (Nat.le_of_ble_eq_true rfl)
  have Zp7 : n0 ≤ h6.size := Nat.le_trans Zp4 (Nat.le_of_eq (Wr.size W6).symm)
  obtain ⟨cl8, Ar8, q8, S8, M8, H8, G8⟩ := V6
  have hin8 : ¬ ((1 : Int32) < 0 ∨ cl8.slots.size ≤ ((1 : Int32)).toNatClampNeg) := inb_of S8 ⟨by decide, by decide⟩
  obtain ⟨T9, h9, X9, e9, W9, st9⟩ := stC X6 hx hZ e6 Ar8 (j := (1 : Int32)) hin8 (g := (mkF m 15 #[.val (.int vx), .val (.int vp), .val (.int va), .unset, .unset, .unset] [(.int (9 : Int32)), (.int (1 : Int32)), (.ref b3), (.ref b3)])) rfl rfl (hb hby at_15)
  have N9 := Fr.snoc X9 N6 g_b3
  rw [show nar .char (9 : Int32) = (9 : Int32) from by decide +kernel] at W9
  have V9 : Arv Z h9 b3 k3 .char (4 : Int32) [(.int (32 : Int32)), (.int (9 : Int32)), (.int (0 : Int32)), (.int (0 : Int32))] (.int (0 : Int32)) := Arv.set Ar8 q8 S8 M8 H8 G8 rfl W9 1 rfl (Nat.le_of_ble_eq_true rfl)
  have Zp10 : n0 ≤ h9.size := Nat.le_trans Zp7 (Nat.le_of_eq (Wr.size W9).symm)
  obtain ⟨cl11, Ar11, q11, S11, M11, H11, G11⟩ := V9
  have hin11 : ¬ ((2 : Int32) < 0 ∨ cl11.slots.size ≤ ((2 : Int32)).toNatClampNeg) := inb_of S11 ⟨by decide, by decide⟩
  obtain ⟨T12, h12, X12, e12, W12, st12⟩ := stC X9 hx hZ e9 Ar11 (j := (2 : Int32)) hin11 (g := (mkF m 20 #[.val (.int vx), .val (.int vp), .val (.int va), .unset, .unset, .unset] [(.int (10 : Int32)), (.int (2 : Int32)), (.ref b3), (.ref b3)])) rfl rfl (hb hby at_20)
  have N12 := Fr.snoc X12 N9 g_b3
  rw [show nar .char (10 : Int32) = (10 : Int32) from by decide +kernel] at W12
  have V12 : Arv Z h12 b3 k3 .char (4 : Int32) [(.int (32 : Int32)), (.int (9 : Int32)), (.int (10 : Int32)), (.int (0 : Int32))] (.int (0 : Int32)) := Arv.set Ar11 q11 S11 M11 H11 G11 rfl W12 2 rfl (Nat.le_of_ble_eq_true rfl)
  have Zp13 : n0 ≤ h12.size := Nat.le_trans Zp10 (Nat.le_of_eq (Wr.size W12).symm)
  obtain ⟨cl14, Ar14, q14, S14, M14, H14, G14⟩ := V12
  have hin14 : ¬ ((3 : Int32) < 0 ∨ cl14.slots.size ≤ ((3 : Int32)).toNatClampNeg) := inb_of S14 ⟨by decide, by decide⟩
  obtain ⟨T15, h15, X15, e15, W15, st15⟩ := stC X12 hx hZ e12 Ar14 (j := (3 : Int32)) hin14 (g := (mkF m 25 #[.val (.int vx), .val (.int vp), .val (.int va), .unset, .unset, .unset] [(.int (13 : Int32)), (.int (3 : Int32)), (.ref b3), (.ref b3)])) rfl rfl (hb hby at_25)
  have N15 := Fr.snoc X15 N12 g_b3
  rw [show nar .char (13 : Int32) = (13 : Int32) from by decide +kernel] at W15
  have V15 : Arv Z h15 b3 k3 .char (4 : Int32) [(.int (32 : Int32)), (.int (9 : Int32)), (.int (10 : Int32)), (.int (13 : Int32))] (.int (0 : Int32)) := Arv.set Ar14 q14 S14 M14 H14 G14 rfl W15 3 rfl (Nat.le_of_ble_eq_true rfl)
  have Zp16 : n0 ≤ h15.size := Nat.le_trans Zp13 (Nat.le_of_eq (Wr.size W15).symm)
  have pre17 : ∀ t, Steps p.tables e below (T15.setTop (mkF m 33 #[.val (.int vx), .val (.int vp), .val (.int va), .val (.ref b3), .unset, .unset] [(.int (((vp.toUInt32 >>> ((1 : Int32) &&& 31).toUInt32).toInt32) &&& (3 : Int32))), (.ref b3)])) t → Steps p.tables e below (s₁.setTop (entryFrame m #[(.int vx), (.int vp)] maxLocals)) t := by
    intro t k
    refine pre2 t ?_
    show Steps p.tables e below (s₁.setTop (mkF m 3 #[.val (.int vx), .val (.int vp), .val (.int va), .unset, .unset, .unset] [])) _
    refine XS.iconst X0.here hx rfl (hb hby at_3) ?_
    show Steps p.tables e below (s₁.setTop (mkF m 4 #[.val (.int vx), .val (.int vp), .val (.int va), .unset, .unset, .unset] [(.int (4 : Int32))])) _
    refine st3 _ ?_
    show Steps p.tables e below (T3.setTop (mkF m 6 #[.val (.int vx), .val (.int vp), .val (.int va), .unset, .unset, .unset] [(.ref b3)])) _
    refine XS.dup X3.here hx rfl (hb hby at_6) rfl rfl ?_
    show Steps p.tables e below (T3.setTop (mkF m 7 #[.val (.int vx), .val (.int vp), .val (.int va), .unset, .unset, .unset] [(.ref b3), (.ref b3)])) _
    refine XS.iconst X3.here hx rfl (hb hby at_7) ?_
    show Steps p.tables e below (T3.setTop (mkF m 8 #[.val (.int vx), .val (.int vp), .val (.int va), .unset, .unset, .unset] [(.int (0 : Int32)), (.ref b3), (.ref b3)])) _
    refine XS.bipush X3.here hx rfl (hb hby at_8) ?_
    show Steps p.tables e below (T3.setTop (mkF m 10 #[.val (.int vx), .val (.int vp), .val (.int va), .unset, .unset, .unset] [(.int (32 : Int32)), (.int (0 : Int32)), (.ref b3), (.ref b3)])) _
    refine st6 _ ?_
    show Steps p.tables e below (T6.setTop (mkF m 11 #[.val (.int vx), .val (.int vp), .val (.int va), .unset, .unset, .unset] [(.ref b3)])) _
    refine XS.dup X6.here hx rfl (hb hby at_11) rfl rfl ?_
    show Steps p.tables e below (T6.setTop (mkF m 12 #[.val (.int vx), .val (.int vp), .val (.int va), .unset, .unset, .unset] [(.ref b3), (.ref b3)])) _
    refine XS.iconst X6.here hx rfl (hb hby at_12) ?_
    show Steps p.tables e below (T6.setTop (mkF m 13 #[.val (.int vx), .val (.int vp), .val (.int va), .unset, .unset, .unset] [(.int (1 : Int32)), (.ref b3), (.ref b3)])) _
    refine XS.bipush X6.here hx rfl (hb hby at_13) ?_
    show Steps p.tables e below (T6.setTop (mkF m 15 #[.val (.int vx), .val (.int vp), .val (.int va), .unset, .unset, .unset] [(.int (9 : Int32)), (.int (1 : Int32)), (.ref b3), (.ref b3)])) _
    refine st9 _ ?_
    show Steps p.tables e below (T9.setTop (mkF m 16 #[.val (.int vx), .val (.int vp), .val (.int va), .unset, .unset, .unset] [(.ref b3)])) _
    refine XS.dup X9.here hx rfl (hb hby at_16) rfl rfl ?_
    show Steps p.tables e below (T9.setTop (mkF m 17 #[.val (.int vx), .val (.int vp), .val (.int va), .unset, .unset, .unset] [(.ref b3), (.ref b3)])) _
    refine XS.iconst X9.here hx rfl (hb hby at_17) ?_
    show Steps p.tables e below (T9.setTop (mkF m 18 #[.val (.int vx), .val (.int vp), .val (.int va), .unset, .unset, .unset] [(.int (2 : Int32)), (.ref b3), (.ref b3)])) _
    refine XS.bipush X9.here hx rfl (hb hby at_18) ?_
    show Steps p.tables e below (T9.setTop (mkF m 20 #[.val (.int vx), .val (.int vp), .val (.int va), .unset, .unset, .unset] [(.int (10 : Int32)), (.int (2 : Int32)), (.ref b3), (.ref b3)])) _
    refine st12 _ ?_
    show Steps p.tables e below (T12.setTop (mkF m 21 #[.val (.int vx), .val (.int vp), .val (.int va), .unset, .unset, .unset] [(.ref b3)])) _
    refine XS.dup X12.here hx rfl (hb hby at_21) rfl rfl ?_
    show Steps p.tables e below (T12.setTop (mkF m 22 #[.val (.int vx), .val (.int vp), .val (.int va), .unset, .unset, .unset] [(.ref b3), (.ref b3)])) _
    refine XS.iconst X12.here hx rfl (hb hby at_22) ?_
    show Steps p.tables e below (T12.setTop (mkF m 23 #[.val (.int vx), .val (.int vp), .val (.int va), .unset, .unset, .unset] [(.int (3 : Int32)), (.ref b3), (.ref b3)])) _
    refine XS.bipush X12.here hx rfl (hb hby at_23) ?_
    show Steps p.tables e below (T12.setTop (mkF m 25 #[.val (.int vx), .val (.int vp), .val (.int va), .unset, .unset, .unset] [(.int (13 : Int32)), (.int (3 : Int32)), (.ref b3), (.ref b3)])) _
    refine st15 _ ?_
    show Steps p.tables e below (T15.setTop (mkF m 26 #[.val (.int vx), .val (.int vp), .val (.int va), .unset, .unset, .unset] [(.ref b3)])) _
    refine XS.astoreN X15.here hx rfl (hb hby at_26) rfl rfl (l' := #[.val (.int vx), .val (.int vp), .val (.int va), .val (.ref b3), .unset, .unset]) rfl ?_
    show Steps p.tables e below (T15.setTop (mkF m 27 #[.val (.int vx), .val (.int vp), .val (.int va), .val (.ref b3), .unset, .unset] [])) _
    refine XS.aloadN X15.here hx rfl (hb hby at_27) rfl rfl ?_
    show Steps p.tables e below (T15.setTop (mkF m 28 #[.val (.int vx), .val (.int vp), .val (.int va), .val (.ref b3), .unset, .unset] [(.ref b3)])) _
    refine XS.iloadN X15.here hx rfl (hb hby at_28) rfl ?_
    show Steps p.tables e below (T15.setTop (mkF m 29 #[.val (.int vx), .val (.int vp), .val (.int va), .val (.ref b3), .unset, .unset] [(.int vp), (.ref b3)])) _
    refine XS.iconst X15.here hx rfl (hb hby at_29) ?_
    show Steps p.tables e below (T15.setTop (mkF m 30 #[.val (.int vx), .val (.int vp), .val (.int va), .val (.ref b3), .unset, .unset] [(.int (1 : Int32)), (.int vp), (.ref b3)])) _
    refine XS.iushr X15.here hx rfl (hb hby at_30) rfl ?_
    show Steps p.tables e below (T15.setTop (mkF m 31 #[.val (.int vx), .val (.int vp), .val (.int va), .val (.ref b3), .unset, .unset] [(.int ((vp.toUInt32 >>> ((1 : Int32) &&& 31).toUInt32).toInt32)), (.ref b3)])) _
    refine XS.iconst X15.here hx rfl (hb hby at_31) ?_
    show Steps p.tables e below (T15.setTop (mkF m 32 #[.val (.int vx), .val (.int vp), .val (.int va), .val (.ref b3), .unset, .unset] [(.int (3 : Int32)), (.int ((vp.toUInt32 >>> ((1 : Int32) &&& 31).toUInt32).toInt32)), (.ref b3)])) _
    refine XS.iand X15.here hx rfl (hb hby at_32) rfl ?_
    show Steps p.tables e below (T15.setTop (mkF m 33 #[.val (.int vx), .val (.int vp), .val (.int va), .val (.ref b3), .unset, .unset] [(.int (((vp.toUInt32 >>> ((1 : Int32) &&& 31).toUInt32).toInt32) &&& (3 : Int32))), (.ref b3)])) _
    exact k
  obtain ⟨vj, h_vj⟩ : ∃ z : Int32, z = (((vp.toUInt32 >>> ((1 : Int32) &&& 31).toUInt32).toInt32) &&& (3 : Int32)) := ⟨_, rfl⟩
  have pre18 : ∀ t, Steps p.tables e below (T15.setTop (mkF m 33 #[.val (.int vx), .val (.int vp), .val (.int va), .val (.ref b3), .unset, .unset] [(.int vj), (.ref b3)])) t → Steps p.tables e below (s₁.setTop (entryFrame m #[(.int vx), (.int vp)] maxLocals)) t := by
    subst h_vj
    exact pre17
  obtain ⟨cl19, Ar19, q19, S19, M19, H19, G19⟩ := V15
  have hin19 : ¬ (vj < 0 ∨ cl19.slots.size ≤ (vj).toNatClampNeg) := inb_of S19 (by rw [h_vj]; exact own_idx _)
  have hat19 : cl19.slots[(vj).toNatClampNeg]? = some (.int (([32, 9, 10, 13] : List Int32).getD (vj).toNatClampNeg 0)) := H19.at hin19 (own_getD [32, 9, 10, 13] _ _)
  have pre20 : ∀ t, Steps p.tables e below (T15.setTop (mkF m 36 #[.val (.int vx), .val (.int vp), .val (.int va), .val (.ref b3), .val (.int (([32, 9, 10, 13] : List Int32).getD (vj).toNatClampNeg 0)), .unset] [])) t → Steps p.tables e below (s₁.setTop (entryFrame m #[(.int vx), (.int vp)] maxLocals)) t := by
    intro t k
    refine pre18 t ?_
    show Steps p.tables e below (T15.setTop (mkF m 33 #[.val (.int vx), .val (.int vp), .val (.int va), .val (.ref b3), .unset, .unset] [(.int vj), (.ref b3)])) _
    refine X15.caload hx (j := vj) (v := (.int (([32, 9, 10, 13] : List Int32).getD (vj).toNatClampNeg 0))) (by rw [e15]; exact Ar19.1) (State.isArrayOf_alike hZ.alike Ar19.2.1) Ar19.2.2 hin19 hat19 (g := (mkF m 33 #[.val (.int vx), .val (.int vp), .val (.int va), .val (.ref b3), .unset, .unset] [(.int vj), (.ref b3)])) rfl rfl (hb hby at_33) _ ?_
    show Steps p.tables e below (T15.setTop (mkF m 34 #[.val (.int vx), .val (.int vp), .val (.int va), .val (.ref b3), .unset, .unset] [(.int (([32, 9, 10, 13] : List Int32).getD (vj).toNatClampNeg 0))])) _
    refine XS.istore X15.here hx rfl (hb hby at_34) rfl (l' := #[.val (.int vx), .val (.int vp), .val (.int va), .val (.ref b3), .val (.int (([32, 9, 10, 13] : List Int32).getD (vj).toNatClampNeg 0)), .unset]) rfl ?_
    show Steps p.tables e below (T15.setTop (mkF m 36 #[.val (.int vx), .val (.int vp), .val (.int va), .val (.ref b3), .val (.int (([32, 9, 10, 13] : List Int32).getD (vj).toNatClampNeg 0)), .unset] [])) _
    exact k
  obtain ⟨vw, h_vw⟩ : ∃ z : Int32, z = (([32, 9, 10, 13] : List Int32).getD (vj).toNatClampNeg 0) := ⟨_, rfl⟩
  have pre21 : ∀ t, Steps p.tables e below (T15.setTop (mkF m 36 #[.val (.int vx), .val (.int vp), .val (.int va), .val (.ref b3), .val (.int vw), .unset] [])) t → Steps p.tables e below (s₁.setTop (entryFrame m #[(.int vx), (.int vp)] maxLocals)) t := by
    subst h_vw
    exact pre20
  obtain ⟨vn, T22, lo22, X22, Nj22, ej22, hj22, pre22⟩ : ∃ (vn : Int32) (T' : State) (lo : List Loc), Stand p l e room_1 s m #[(.int vx), (.int vp)] below meth c T' lo 1 4 ∧ Fr n0 lo ∧ T'.heap = h15 ∧ (0 ≤ vn.toInt) ∧ ∀ t, Steps p.tables e below (T'.setTop (mkF m 55 #[.val (.int vx), .val (.int vp), .val (.int va), .val (.ref b3), .val (.int vw), .unset] [(.int vn)])) t → Steps p.tables e below (s₁.setTop (entryFrame m #[(.int vx), (.int vp)] maxLocals)) t := by
    have pre23 : ∀ t, Steps p.tables e below (T15.setTop (mkF m 39 #[.val (.int vx), .val (.int vp), .val (.int va), .val (.ref b3), .val (.int vw), .unset] [(.int (vp &&& (1 : Int32)))])) t → Steps p.tables e below (s₁.setTop (entryFrame m #[(.int vx), (.int vp)] maxLocals)) t := by
      intro t k
      refine pre21 t ?_
      show Steps p.tables e below (T15.setTop (mkF m 36 #[.val (.int vx), .val (.int vp), .val (.int va), .val (.ref b3), .val (.int vw), .unset] [])) _
      refine XS.iloadN X15.here hx rfl (hb hby at_36) rfl ?_
      show Steps p.tables e below (T15.setTop (mkF m 37 #[.val (.int vx), .val (.int vp), .val (.int va), .val (.ref b3), .val (.int vw), .unset] [(.int vp)])) _
      refine XS.iconst X15.here hx rfl (hb hby at_37) ?_
      show Steps p.tables e below (T15.setTop (mkF m 38 #[.val (.int vx), .val (.int vp), .val (.int va), .val (.ref b3), .val (.int vw), .unset] [(.int (1 : Int32)), (.int vp)])) _
      refine XS.iand X15.here hx rfl (hb hby at_38) rfl ?_
      show Steps p.tables e below (T15.setTop (mkF m 39 #[.val (.int vx), .val (.int vp), .val (.int va), .val (.ref b3), .val (.int vw), .unset] [(.int (vp &&& (1 : Int32)))])) _
      exact k
    by_cases hc24 : (vp &&& (1 : Int32)) = (0 : Int32)
    · refine ⟨((vw - (1 : Int32)).toUInt32.toUInt16.toUInt32.toInt32), T15, _, X15, N15, e15, (c_i2c _).2.1, fun t k => ?_⟩
      refine pre23 t ?_
      show Steps p.tables e below (T15.setTop (mkF m 39 #[.val (.int vx), .val (.int vp), .val (.int va), .val (.ref b3), .val (.int vw), .unset] [(.int (vp &&& (1 : Int32)))])) _
      refine XS.ifYes X15.here hx rfl (pc0 := 39) (pc' := 50) rfl (hb hby at_39) rfl ((if0 _ _).trans (teq hc24).1) (by decide) (by decide) ?_
      show Steps p.tables e below (T15.setTop (mkF m 50 #[.val (.int vx), .val (.int vp), .val (.int va), .val (.ref b3), .val (.int vw), .unset] [])) _
      refine XS.iload X15.here hx rfl (hb hby at_50) rfl ?_
      show Steps p.tables e below (T15.setTop (mkF m 52 #[.val (.int vx), .val (.int vp), .val (.int va), .val (.ref b3), .val (.int vw), .unset] [(.int vw)])) _
      refine XS.iconst X15.here hx rfl (hb hby at_52) ?_
      show Steps p.tables e below (T15.setTop (mkF m 53 #[.val (.int vx), .val (.int vp), .val (.int va), .val (.ref b3), .val (.int vw), .unset] [(.int (1 : Int32)), (.int vw)])) _
      refine XS.isub X15.here hx rfl (hb hby at_53) rfl ?_
      show Steps p.tables e below (T15.setTop (mkF m 54 #[.val (.int vx), .val (.int vp), .val (.int va), .val (.ref b3), .val (.int vw), .unset] [(.int (vw - (1 : Int32)))])) _
      refine XS.i2c X15.here hx rfl (hb hby at_54) rfl ?_
      show Steps p.tables e below (T15.setTop (mkF m 55 #[.val (.int vx), .val (.int vp), .val (.int va), .val (.ref b3), .val (.int vw), .unset] [(.int ((vw - (1 : Int32)).toUInt32.toUInt16.toUInt32.toInt32))])) _
      exact k
    · refine ⟨((vw + (1 : Int32)).toUInt32.toUInt16.toUInt32.toInt32), T15, _, X15, N15, e15, (c_i2c _).2.1, fun t k => ?_⟩
      refine pre23 t ?_
      show Steps p.tables e below (T15.setTop (mkF m 39 #[.val (.int vx), .val (.int vp), .val (.int va), .val (.ref b3), .val (.int vw), .unset] [(.int (vp &&& (1 : Int32)))])) _
      refine XS.ifNo X15.here hx rfl (hb hby at_39) rfl ((if0 _ _).trans (feq hc24).1) ?_
      show Steps p.tables e below (T15.setTop (mkF m 42 #[.val (.int vx), .val (.int vp), .val (.int va), .val (.ref b3), .val (.int vw), .unset] [])) _
      refine XS.iload X15.here hx rfl (hb hby at_42) rfl ?_
      show Steps p.tables e below (T15.setTop (mkF m 44 #[.val (.int vx), .val (.int vp), .val (.int va), .val (.ref b3), .val (.int vw), .unset] [(.int vw)])) _
      refine XS.iconst X15.here hx rfl (hb hby at_44) ?_
      show Steps p.tables e below (T15.setTop (mkF m 45 #[.val (.int vx), .val (.int vp), .val (.int va), .val (.ref b3), .val (.int vw), .unset] [(.int (1 : Int32)), (.int vw)])) _
      refine XS.iadd X15.here hx rfl (hb hby at_45) rfl ?_
      show Steps p.tables e below (T15.setTop (mkF m 46 #[.val (.int vx), .val (.int vp), .val (.int va), .val (.ref b3), .val (.int vw), .unset] [(.int (vw + (1 : Int32)))])) _
      refine XS.i2c X15.here hx rfl (hb hby at_46) rfl ?_
      show Steps p.tables e below (T15.setTop (mkF m 47 #[.val (.int vx), .val (.int vp), .val (.int va), .val (.ref b3), .val (.int vw), .unset] [(.int ((vw + (1 : Int32)).toUInt32.toUInt16.toUInt32.toInt32))])) _
      refine XS.goto X15.here hx rfl (pc0 := 47) (pc' := 55) rfl (hb hby at_47) (by decide) (by decide) ?_
      show Steps p.tables e below (T15.setTop (mkF m 55 #[.val (.int vx), .val (.int vp), .val (.int va), .val (.ref b3), .val (.int vw), .unset] [(.int ((vw + (1 : Int32)).toUInt32.toUInt16.toUInt32.toInt32))])) _
      exact k
  obtain ⟨_, _, ⟨T25, L25, k25, n25⟩, -, X25, ⟨Lc25, hQ25, l25, y25, z25⟩, st25⟩ := Jvm.LawKit.callS X22 hx (y := (⟨"com/example/narrow_grant/narrowgrant/model/XmlItemsIsWhitespacePinLaw", "agrees", "(C)Z"⟩ : MethodName)) hown (mvT hZ (hw _ (List.mem_of_getElem? (i := 1) rfl))) (mvT hZ (hw _ (List.mem_of_getElem? (i := 2) rfl))) (mvT hZ (hw _ (List.mem_of_getElem? (i := 3) rfl))) (mvT hZ (hw _ (List.mem_of_getElem? (i := 4) rfl))) (by decide) (backOf (W := 0) (rm_ag l Z a0 hw [] va h15 n0 Zp16 (by rw [h_va]; exact (c_i2c _).2.1)) hZ (hw _ (List.mem_of_getElem? (i := 4) rfl)) (hw _ (List.mem_of_getElem? (i := 3) rfl)) (by decide) (by decide)) (g := (mkF m 58 #[.val (.int vx), .val (.int vp), .val (.int va), .val (.ref b3), .val (.int vw), .val (.int vn)] [(.int va)])) rfl (by rw [hml]; rfl) (argsL := [(.int va)]) (rest := []) (lenOf own_pd0 rfl) rfl (by show 2 * 0 + _ ≤ _; exact Nat.le_of_eq rfl) (hb hby at_58) (fun _ _ => ⟨rfl, ej22, (by decide : 1 + 0 ≤ _), (by decide : 4 + 0 ≤ _)⟩)
  dsimp only [Pt.U, Pt.locs, Pt.cells, Pt.slots] at X25 l25 y25 z25 st25 hQ25
  subst l25 y25 z25
  obtain ⟨rfl, Nq25, hh25⟩ := hQ25
  have Nf25 := Fr.app Nj22 Nq25
  obtain ⟨_, _, ⟨T26, L26, k26, n26⟩, -, X26, ⟨Lc26, hQ26, l26, y26, z26⟩, st26⟩ := Jvm.LawKit.callS X25 hx (y := (⟨"com/example/narrow_grant/narrowgrant/model/XmlItemsIsWhitespacePinLaw", "agrees", "(C)Z"⟩ : MethodName)) hown (mvT hZ (hw _ (List.mem_of_getElem? (i := 1) rfl))) (mvT hZ (hw _ (List.mem_of_getElem? (i := 2) rfl))) (mvT hZ (hw _ (List.mem_of_getElem? (i := 3) rfl))) (mvT hZ (hw _ (List.mem_of_getElem? (i := 4) rfl))) (by decide) (backOf (W := 0) (rm_ag l Z a0 hw [] vw h15 n0 Zp16 (by rw [h_vw]; exact own_tab_pos _)) hZ (hw _ (List.mem_of_getElem? (i := 4) rfl)) (hw _ (List.mem_of_getElem? (i := 3) rfl)) (by decide) (by decide)) (g := (mkF m 66 #[.val (.int vx), .val (.int vp), .val (.int va), .val (.ref b3), .val (.int vw), .val (.int vn)] [(.int vw)])) rfl (by rw [hml]; rfl) (argsL := [(.int vw)]) (rest := []) (lenOf own_pd0 rfl) rfl (by show 2 * 0 + _ ≤ _; exact Nat.le_of_eq rfl) (hb hby at_66) (fun _ _ => ⟨rfl, hh25, (by decide : 1 + 0 ≤ _), (by decide : 4 + 0 ≤ _)⟩)
  dsimp only [Pt.U, Pt.locs, Pt.cells, Pt.slots] at X26 l26 y26 z26 st26 hQ26
  subst l26 y26 z26
  obtain ⟨rfl, Nq26, hh26⟩ := hQ26
  have Nf26 := Fr.app Nf25 Nq26
  obtain ⟨_, _, ⟨T27, L27, k27, n27⟩, -, X27, ⟨Lc27, hQ27, l27, y27, z27⟩, st27⟩ := Jvm.LawKit.callS X26 hx (y := (⟨"com/example/narrow_grant/narrowgrant/model/XmlItemsIsWhitespacePinLaw", "agrees", "(C)Z"⟩ : MethodName)) hown (mvT hZ (hw _ (List.mem_of_getElem? (i := 1) rfl))) (mvT hZ (hw _ (List.mem_of_getElem? (i := 2) rfl))) (mvT hZ (hw _ (List.mem_of_getElem? (i := 3) rfl))) (mvT hZ (hw _ (List.mem_of_getElem? (i := 4) rfl))) (by decide) (backOf (W := 0) (rm_ag l Z a0 hw [] vn h15 n0 Zp16 hj22) hZ (hw _ (List.mem_of_getElem? (i := 4) rfl)) (hw _ (List.mem_of_getElem? (i := 3) rfl)) (by decide) (by decide)) (g := (mkF m 74 #[.val (.int vx), .val (.int vp), .val (.int va), .val (.ref b3), .val (.int vw), .val (.int vn)] [(.int vn)])) rfl (by rw [hml]; rfl) (argsL := [(.int vn)]) (rest := []) (lenOf own_pd0 rfl) rfl (by show 2 * 0 + _ ≤ _; exact Nat.le_of_eq rfl) (hb hby at_74) (fun _ _ => ⟨rfl, hh26, (by decide : 1 + 0 ≤ _), (by decide : 4 + 0 ≤ _)⟩)
  dsimp only [Pt.U, Pt.locs, Pt.cells, Pt.slots] at X27 l27 y27 z27 st27 hQ27
  subst l27 y27 z27
  obtain ⟨rfl, Nq27, hh27⟩ := hQ27
  have Nf27 := Fr.app Nf26 Nq27
  obtain ⟨fs, hr, hrun, hended, hW, hsame⟩ := X27.leave (v := some (.int (1 : Int32))) (fun h => by rw [Bd.returns] at h; cases h)
  refine ⟨_, _, pre22 _ ?_, hrun, hended, _, _, rfl, ?_, ⟨_, rfl⟩, hW, hsame.mono (by decide) (by decide)⟩
  · show Steps p.tables e below (T22.setTop (mkF m 55 #[.val (.int vx), .val (.int vp), .val (.int va), .val (.ref b3), .val (.int vw), .unset] [(.int vn)])) _
    refine XS.istore X22.here hx rfl (hb hby at_55) rfl (l' := #[.val (.int vx), .val (.int vp), .val (.int va), .val (.ref b3), .val (.int vw), .val (.int vn)]) rfl ?_
    show Steps p.tables e below (T22.setTop (mkF m 57 #[.val (.int vx), .val (.int vp), .val (.int va), .val (.ref b3), .val (.int vw), .val (.int vn)] [])) _
    refine XS.iloadN X22.here hx rfl (hb hby at_57) rfl ?_
    show Steps p.tables e below (T22.setTop (mkF m 58 #[.val (.int vx), .val (.int vp), .val (.int va), .val (.ref b3), .val (.int vw), .val (.int vn)] [(.int va)])) _
    refine st25 _ ?_
    show Steps p.tables e below (T25.setTop (mkF m 61 #[.val (.int vx), .val (.int vp), .val (.int va), .val (.ref b3), .val (.int vw), .val (.int vn)] [(.int (1 : Int32))])) _
    refine XS.ifNo X25.here hx rfl (hb hby at_61) rfl (by decide) ?_
    show Steps p.tables e below (T25.setTop (mkF m 64 #[.val (.int vx), .val (.int vp), .val (.int va), .val (.ref b3), .val (.int vw), .val (.int vn)] [])) _
    refine XS.iload X25.here hx rfl (hb hby at_64) rfl ?_
    show Steps p.tables e below (T25.setTop (mkF m 66 #[.val (.int vx), .val (.int vp), .val (.int va), .val (.ref b3), .val (.int vw), .val (.int vn)] [(.int vw)])) _
    refine st26 _ ?_
    show Steps p.tables e below (T26.setTop (mkF m 69 #[.val (.int vx), .val (.int vp), .val (.int va), .val (.ref b3), .val (.int vw), .val (.int vn)] [(.int (1 : Int32))])) _
    refine XS.ifNo X26.here hx rfl (hb hby at_69) rfl (by decide) ?_
    show Steps p.tables e below (T26.setTop (mkF m 72 #[.val (.int vx), .val (.int vp), .val (.int va), .val (.ref b3), .val (.int vw), .val (.int vn)] [])) _
    refine XS.iload X26.here hx rfl (hb hby at_72) rfl ?_
    show Steps p.tables e below (T26.setTop (mkF m 74 #[.val (.int vx), .val (.int vp), .val (.int va), .val (.ref b3), .val (.int vw), .val (.int vn)] [(.int vn)])) _
    refine st27 _ ?_
    show Steps p.tables e below (T27.setTop (mkF m 77 #[.val (.int vx), .val (.int vp), .val (.int va), .val (.ref b3), .val (.int vw), .val (.int vn)] [(.int (1 : Int32))])) _
    refine XS.ifNo X27.here hx rfl (hb hby at_77) rfl (by decide) ?_
    show Steps p.tables e below (T27.setTop (mkF m 80 #[.val (.int vx), .val (.int vp), .val (.int va), .val (.ref b3), .val (.int vw), .val (.int vn)] [])) _
    refine XS.iconst X27.here hx rfl (hb hby at_80) ?_
    show Steps p.tables e below (T27.setTop (mkF m 81 #[.val (.int vx), .val (.int vp), .val (.int va), .val (.ref b3), .val (.int vw), .val (.int vn)] [(.int (1 : Int32))])) _
    refine XS.goto X27.here hx rfl (pc0 := 81) (pc' := 85) rfl (hb hby at_81) (by decide) (by decide) ?_
    show Steps p.tables e below (T27.setTop (mkF m 85 #[.val (.int vx), .val (.int vp), .val (.int va), .val (.ref b3), .val (.int vw), .val (.int vn)] [(.int (1 : Int32))])) _
    exact retN X27 hx (t := .boolean) Bd.returns (by simp) (hb hby at_85) hr
  · show Q0 Z vx vp h0 n0 _ T27.heap _
    rw [hh27]
    exact ⟨rfl, Nf27⟩
set_option maxRecDepth 65536 in
set_option maxHeartbeats 40000000 in
theorem comes_1 {Post : Tables → Env → Array Value → State → Outcome → State → Prop} (hpost : ∀ tb e args s v u, (limb_1_1.after args s (.returned v) u = true ∧ limb_1_2.after args s (.returned v) u = true ∧ True) → FrameEnd s (.returned v) u (Jvm.fieldLocs frame_1_writes args s ++ Jvm.arrayLocs frame_1_arrays args s ++ Jvm.staticLocs frame_1_statics s) 16 128 → Post tb e args s (.returned v) u) :
    ArmFor flags0 classFile x code maxLocals ret World_1 tables_1 room_1 Calls_1 rest_1 Pre_1 Post := by
  intro l hfl _ _ p e ha hc hk s m args below hf hA hF happ hP
  obtain ⟨hcalls, hrest, hpre⟩ := hP
  obtain ⟨-, -, -, hnamed, -, -, -, hat⟩ := (Spec.applies_iff hf).mp happ
  obtain ⟨hg, hn⟩ := and_e (Cond.before_iff.mp (show (Jvm.Cond.and given_1 narrow_1).before args s = true from hpre))
  obtain ⟨ga1, gb1⟩ := and_e hg
  obtain ⟨ga2, gb2⟩ := and_e gb1
  obtain ⟨w0, w1, rfl⟩ : ∃ w0 w1 : Value, args = #[w0, w1] := by
    have hs : args.size = 2 := by simpa [Cond.value, given_1] using ga1
    obtain ⟨L⟩ := args
    match L, hs with
    | [w0, w1], _ => exact ⟨w0, w1, rfl⟩
  have hw := fun d (hd : d ∈ tables_1) => atoms_spec (ws := Jvm.Cond.code x code maxLocals ret :: tables_1) hat d (List.mem_cons_of_mem _ hd)
  have hfit : Fit s := fun {y c} hc i hi => by
    obtain ⟨ha, rfl⟩ := Array.getElem?_eq_some_iff.mp hc
    have q := List.all_eq_true.mp ((Array.all_eq_true_iff_forall_mem.mp hF) _ (Array.getElem_mem ha)) i (List.mem_range.mpr hi)
    simpa [Array.getElem?_eq_getElem hi] using q
  obtain ⟨i0, ei0⟩ := is_v ga2
  obtain rfl : w0 = (.int i0) := Option.some.inj ei0
  obtain ⟨i1, ei1⟩ := is_v gb2
  obtain rfl : w1 = (.int i1) := Option.some.inj ei1
  obtain ⟨n, o, h1, h2, h3, _, L, rfl, ⟨rfl, N⟩, hq⟩ := rm0 l s _ hw tables_1 i0 i1 s.heap s.heap.size (Nat.le_refl _)  p e ha hc hk s m _ below hf ((Spec.applies_iff_loose hf).mp happ).1 ⟨rfl, State.Warmed39.refl s, rfl⟩ trivial
  refine ⟨n, _, h1, h2, h3, hpost _ _ _ _ _ _ ⟨Cond.after_iff.mpr rfl, Cond.after_iff.mpr (eq_i res_at (Term.int_eval (1)) rfl), trivial⟩ ⟨hq.1, hq.2.1, (hq.2.2.sift fun y hy => Or.inr (N y hy)).mono (by decide) (by decide)⟩⟩
theorem main_1_1 : Claimed_1_1 := comes_1 fun _ _ _ _ _ _ h hF => ⟨h.1, hF⟩
theorem main_1_2 : Claimed_1_2 := comes_1 fun _ _ _ _ _ _ h hF => ⟨h.2.1, hF⟩
end Jvm.Pilot.@@N@@
namespace Jvm.Pilot.@@N@@
open Jvm Jvm.ClassFile Sem Op Lib Jvm.Free Jvm.Stand Jvm.Pilot.@@N@@.Jvm.D
/-! MADE BY PROGRAM (witnessworld.py) out of the Statement's table words and the real class files: 11 classes; the members and pool entries that the words name. The judged class is class 1, her method 3. -/
namespace start1
open Jvm.ClassFile
def u (s : String) : CpInfo := .utf8 (stringToUtf16 s)
/-- a pool by its gaps: so many unusable entries, then the entry; so many at the end -/
def gap : Nat → List CpInfo → List CpInfo
  | 0, r => r
  | n + 1, r => .unusable :: gap n r
def poolList (es : List (Nat × CpInfo)) (last : Nat) : List CpInfo := es.foldr (fun e r => gap e.1 (e.2 :: r)) (gap last [])
def pool (es : List (Nat × CpInfo)) (last : Nat) : Array CpInfo := ⟨poolList es last⟩
def fileOf (pool : Array CpInfo) (this : Nat) (attrs : Array Attribute := #[]) (ms : Array MethodInfo := #[]) (fl : Nat := 33) (sup : Nat := 0) (ifs : Array Nat := #[]) (fds : Array FieldInfo := #[]) : ClassFile where
  minorVersion := 0
  majorVersion := 65
  constantPool := pool
  accessFlags := fl
  thisClass := this
  superClass := sup
  interfaces := ifs
  fields := fds
  methods := ms
  attributes := attrs
def plain (name : String) (sup : Option ClassId) : Class where
  name := name
  kind := .ordinary
  loader := none
  accessFlags := 33
  super := sup
  interfaces := #[]
  cf := none
  fields := #[]
  methods := #[]
  instanceTypes := #[]
  staticTypes := #[]
  resolved := #[]
  callSites := []
  init := .initialized
  statics := none
  mirror := none

def pool0 : Array CpInfo := pool [(5, u "<init>"), (0, u "()V"), (1, .class_ 10), (1, u "java/lang/Object")] 113

def k0m0 : Method := { name := "<init>", desc := "()V", sig := { parameters := [], returnType := none }, accessFlags := 1, code := none }
/-- java/lang/Object -/
def k0 : Class := { plain "java/lang/Object" none with
  accessFlags := 33
  interfaces := #[]
  cf := some (fileOf pool0 8 #[] #[{ accessFlags := 1, nameIndex := 5, descriptorIndex := 6, attributes := #[] }] 33 0 #[] #[])
  fields := #[]
  methods := #[k0m0]
  instanceTypes := #[]
  staticTypes := #[]
  resolved := Array.replicate 124 none
  statics := none }

def pool1 : Array CpInfo := pool [(2, .class_ 4), (1, u "java/lang/Object"), (0, u "<init>"), (0, u "()V"), (0, .long 4294977024), (1, .methodref 10 11), (0, .class_ 12), (0, .nameAndType 13 14), (0, u "com/example/narrow_grant/narrowgrant/model/XmlItems"), (0, u "isWhitespace"), (0, u "(C)Z"), (0, .methodref 16 17), (0, .class_ 18), (0, .nameAndType 19 14), (0, u "com/example/narrow_grant/narrowgrant/model/XmlItemsIsWhitespacePinLaw"), (0, u "reference"), (0, .methodref 16 21), (0, .nameAndType 22 14), (0, u "agrees"), (3, u "law"), (0, u "(II)Z")] 4

def k1m0 : Method := { name := "<init>", desc := "()V", sig := { parameters := [], returnType := none }, accessFlags := 2, code := none }
def k1c1 : Code := { maxStack := 4, maxLocals := 1, code := method_2_code, exceptionTable := #[], attributes := #[] }
def k1m1 : Method := { name := "reference", desc := "(C)Z", sig := { parameters := [.char], returnType := some .boolean }, accessFlags := 10, code := some k1c1 }
def k1c2 : Code := { maxStack := 2, maxLocals := 1, code := method_3_code, exceptionTable := #[], attributes := #[] }
def k1m2 : Method := { name := "agrees", desc := "(C)Z", sig := { parameters := [.char], returnType := some .boolean }, accessFlags := 10, code := some k1c2 }
def k1c3 : Code := { maxStack := 4, maxLocals := 6, code := code, exceptionTable := #[], attributes := #[] }
def k1m3 : Method := { name := "law", desc := "(II)Z", sig := { parameters := [.int, .int], returnType := some .boolean }, accessFlags := 9, code := some k1c3 }
/-- com/example/narrow_grant/narrowgrant/model/XmlItemsIsWhitespacePinLaw -/
def k1 : Class := { plain "com/example/narrow_grant/narrowgrant/model/XmlItemsIsWhitespacePinLaw" (some 0) with
  accessFlags := 49
  interfaces := #[]
  cf := some (fileOf pool1 16 #[] #[{ accessFlags := 2, nameIndex := 5, descriptorIndex := 6, attributes := #[] }, { accessFlags := 10, nameIndex := 19, descriptorIndex := 14, attributes := #[] }, { accessFlags := 10, nameIndex := 22, descriptorIndex := 14, attributes := #[] }, { accessFlags := 9, nameIndex := 26, descriptorIndex := 27, attributes := #[] }] 49 2 #[] #[])
  fields := #[]
  methods := #[k1m0, k1m1, k1m2, k1m3]
  instanceTypes := #[]
  staticTypes := #[]
  resolved := Array.replicate 32 none
  statics := none }

def pool2 : Array CpInfo := pool [(2, .class_ 4), (1, u "java/lang/Object"), (3, .class_ 10), (1, u "com/example/narrow_grant/narrowgrant/model/XmlItems"), (0, u "markupStarts"), (0, u "[I"), (2, u "markupEnds"), (2, u "text"), (0, u "Ljava/lang/String;"), (2, u "from"), (0, u "I"), (2, u "to"), (0, .class_ 28), (0, u "com/example/narrow_grant/narrowgrant/model/XmlItems$Kind"), (2, u "kinds"), (0, u "[Lcom/example/narrow_grant/narrowgrant/model/XmlItems$Kind;"), (2, u "starts"), (2, u "ends"), (2, u "depths"), (2, u "keys"), (2, u "empty"), (0, u "[Z"), (2, u "partners"), (43, u "isWhitespace"), (1, .class_ 98), (0, u "com/example/narrow_grant/narrowgrant/model/XmlItems$Unreadable"), (52, u "size"), (64, .class_ 218), (1, u "com/example/narrow_grant/narrowgrant/model/XmlItems$TagEnd"), (55, u "pieces"), (46, u "(C)Z"), (12, .class_ 336), (1, u "com/example/narrow_grant/narrowgrant/model/XmlItems$AttributeSink"), (19, u "ENTITIES"), (0, u "Ljava/util/Map;"), (64, u "OFFSET"), (0, u "J"), (1, u "PRIME"), (0, u "GOLDEN"), (0, u "OUTSIDE_ROOT"), (29, .class_ 458), (0, u "com/example/narrow_grant/narrowgrant/model/XmlItems$Tag"), (0, .class_ 460), (0, u "com/example/narrow_grant/narrowgrant/model/XmlItems$Attribute")] 34

def k2c0 : Code := { maxStack := 2, maxLocals := 1, code := prog_8_method_27_code, exceptionTable := #[], attributes := #[] }
def k2m0 : Method := { name := "isWhitespace", desc := "(C)Z", sig := { parameters := [.char], returnType := some .boolean }, accessFlags := 8, code := some k2c0 }
/-- com/example/narrow_grant/narrowgrant/model/XmlItems -/
def k2 : Class := { plain "com/example/narrow_grant/narrowgrant/model/XmlItems" (some 0) with
  accessFlags := 48
  interfaces := #[]
  cf := some (fileOf pool2 8 #[.nestMembers #[97, 216, 334, 457, 459, 27]] #[{ accessFlags := 8, nameIndex := 95, descriptorIndex := 321, attributes := #[] }] 48 2 #[] #[{ accessFlags := 26, nameIndex := 422, descriptorIndex := 423, attributes := #[] }, { accessFlags := 26, nameIndex := 425, descriptorIndex := 423, attributes := #[] }, { accessFlags := 26, nameIndex := 426, descriptorIndex := 423, attributes := #[] }, { accessFlags := 26, nameIndex := 427, descriptorIndex := 19, attributes := #[] }, { accessFlags := 26, nameIndex := 356, descriptorIndex := 357, attributes := #[] }, { accessFlags := 18, nameIndex := 18, descriptorIndex := 19, attributes := #[] }, { accessFlags := 18, nameIndex := 22, descriptorIndex := 23, attributes := #[] }, { accessFlags := 18, nameIndex := 26, descriptorIndex := 23, attributes := #[] }, { accessFlags := 2, nameIndex := 151, descriptorIndex := 23, attributes := #[] }, { accessFlags := 2, nameIndex := 31, descriptorIndex := 32, attributes := #[] }, { accessFlags := 2, nameIndex := 35, descriptorIndex := 12, attributes := #[] }, { accessFlags := 2, nameIndex := 38, descriptorIndex := 12, attributes := #[] }, { accessFlags := 2, nameIndex := 41, descriptorIndex := 12, attributes := #[] }, { accessFlags := 2, nameIndex := 44, descriptorIndex := 12, attributes := #[] }, { accessFlags := 2, nameIndex := 47, descriptorIndex := 48, attributes := #[] }, { accessFlags := 2, nameIndex := 51, descriptorIndex := 12, attributes := #[] }, { accessFlags := 2, nameIndex := 274, descriptorIndex := 23, attributes := #[] }, { accessFlags := 2, nameIndex := 11, descriptorIndex := 12, attributes := #[] }, { accessFlags := 2, nameIndex := 15, descriptorIndex := 12, attributes := #[] }])
  fields := #[{ name := "OFFSET", type := .long, accessFlags := 26, slot := 0, constantValue := 0 }, { name := "PRIME", type := .long, accessFlags := 26, slot := 1, constantValue := 0 }, { name := "GOLDEN", type := .long, accessFlags := 26, slot := 2, constantValue := 0 }, { name := "OUTSIDE_ROOT", type := (.object "java/lang/String"), accessFlags := 26, slot := 3, constantValue := 0 }, { name := "ENTITIES", type := (.object "java/util/Map"), accessFlags := 26, slot := 4, constantValue := 0 }, { name := "text", type := (.object "java/lang/String"), accessFlags := 18, slot := 0, constantValue := 0 }, { name := "from", type := .int, accessFlags := 18, slot := 1, constantValue := 0 }, { name := "to", type := .int, accessFlags := 18, slot := 2, constantValue := 0 }, { name := "size", type := .int, accessFlags := 2, slot := 3, constantValue := 0 }, { name := "kinds", type := (.array (.object "com/example/narrow_grant/narrowgrant/model/XmlItems$Kind")), accessFlags := 2, slot := 4, constantValue := 0 }, { name := "starts", type := (.array .int), accessFlags := 2, slot := 5, constantValue := 0 }, { name := "ends", type := (.array .int), accessFlags := 2, slot := 6, constantValue := 0 }, { name := "depths", type := (.array .int), accessFlags := 2, slot := 7, constantValue := 0 }, { name := "keys", type := (.array .int), accessFlags := 2, slot := 8, constantValue := 0 }, { name := "empty", type := (.array .boolean), accessFlags := 2, slot := 9, constantValue := 0 }, { name := "partners", type := (.array .int), accessFlags := 2, slot := 10, constantValue := 0 }, { name := "pieces", type := .int, accessFlags := 2, slot := 11, constantValue := 0 }, { name := "markupStarts", type := (.array .int), accessFlags := 2, slot := 12, constantValue := 0 }, { name := "markupEnds", type := (.array .int), accessFlags := 2, slot := 13, constantValue := 0 }]
  methods := #[k2m0]
  instanceTypes := #[(.object "java/lang/String"), .int, .int, .int, (.array (.object "com/example/narrow_grant/narrowgrant/model/XmlItems$Kind")), (.array .int), (.array .int), (.array .int), (.array .int), (.array .boolean), (.array .int), .int, (.array .int), (.array .int)]
  staticTypes := #[.long, .long, .long, (.object "java/lang/String"), (.object "java/util/Map")]
  resolved := Array.replicate 495 none
  statics := none }

def pool3 : Array CpInfo := pool [(1, u "java/lang/Cloneable"), (0, .class_ 1), (0, u "java/lang/Object"), (0, .class_ 3)] 3

/-- java/lang/Cloneable -/
def k3 : Class := { plain "java/lang/Cloneable" (some 0) with
  accessFlags := 1537
  interfaces := #[]
  cf := some (fileOf pool3 2 #[] #[] 1537 4 #[] #[])
  fields := #[]
  methods := #[]
  instanceTypes := #[]
  staticTypes := #[]
  resolved := Array.replicate 8 none
  statics := none }

def pool4 : Array CpInfo := pool [(1, u "java/io/Serializable"), (0, .class_ 1), (0, u "java/lang/Object"), (0, .class_ 3)] 3

/-- java/io/Serializable -/
def k4 : Class := { plain "java/io/Serializable" (some 0) with
  accessFlags := 1537
  interfaces := #[]
  cf := some (fileOf pool4 2 #[] #[] 1537 4 #[] #[])
  fields := #[]
  methods := #[]
  instanceTypes := #[]
  staticTypes := #[]
  resolved := Array.replicate 8 none
  statics := none }

/-- the primitive byte -/
def k5 : Class := { plain "byte" none with kind := .primitive 'B', accessFlags := 0x411 }
/-- [B -/
def k6 : Class := { plain "[B" (some 0) with kind := .array 5 .byte, interfaces := #[3, 4], accessFlags := 1041 }

/-- the primitive char -/
def k7 : Class := { plain "char" none with kind := .primitive 'C', accessFlags := 0x411 }
/-- [C -/
def k8 : Class := { plain "[C" (some 0) with kind := .array 7 .char, interfaces := #[3, 4], accessFlags := 1041 }

/-- the primitive int -/
def k9 : Class := { plain "int" none with kind := .primitive 'I', accessFlags := 0x411 }
/-- [I -/
def k10 : Class := { plain "[I" (some 0) with kind := .array 9 .int, interfaces := #[3, 4], accessFlags := 1041 }

def heap : Heap := #[]
def classes : Array Class := #[k0, k1, k2, k3, k4, k5, k6, k7, k8, k9, k10]
def interned : List (Array UInt16 × Addr) := []
def slotsUsed : Nat := 0
def theMethod : MethodId := ⟨1, 3⟩
def args0 : Array Value := #[.int 5, .int 7]
def aboutOver (below : List Frame) : State where
  vm := { classes := classes, interned := interned.toArray }
  heap := heap
  slotsUsed := slotsUsed
  threads := #[{ frames := .invoking theMethod args0 :: below }]
def below0 : List Frame := [.native { method := ⟨0, 0⟩, args := #[] }]
def about1 : State := aboutOver below0
def p0 : Program := .bare "" "" ""
def e0 : Env := launch0.env 0 0 0
theorem w_frames : about1.frames = Frame.invoking theMethod args0 :: below0 := rfl
set_option maxRecDepth 65536 in
theorem w_args : argsFit about1.vm theMethod args0 = true := by decide +kernel
set_option maxRecDepth 65536 in
theorem w_heap : heapFits about1 = true := by decide +kernel
set_option maxRecDepth 65536 in
theorem w_runnable : about1.curStatus? = some .runnable := by decide +kernel
set_option maxRecDepth 65536 in
theorem w_alone : about1.alone = true := by decide +kernel
set_option maxRecDepth 65536 in
theorem w_named : about1.methodNamed? x = some theMethod := by decide +kernel
set_option maxRecDepth 65536 in
theorem w_hears : about1.hears theMethod below0 = true := by decide +kernel
set_option maxRecDepth 65536 in
theorem w_ripe : about1.ripe theMethod args0 below0 = true := by decide +kernel
theorem w_running : about1.status = .running := rfl
set_option maxRecDepth 65536 in
theorem w_room : about1.hasRoom e0.platform room_1 = true :=
  launch0.hasRoom_least _ room_1 (by decide +kernel) (by decide +kernel) (by decide +kernel) (by decide +kernel) (by decide +kernel) (by decide +kernel)
theorem allAtoms_all (ts : List Jvm.Cond) (a : Array Jvm.Value) (st : Jvm.State) : (allAtoms ts).before a st = ts.all (fun c => c.before a st) := by
  induction ts with
  | nil => rfl
  | cons c t ih =>
    show (Jvm.Cond.and c (allAtoms t)).before a st = _
    rw [Jvm.Cond.before_and, ih, List.all_cons]
def words1 : List Jvm.Cond := Jvm.Cond.code x code maxLocals ret :: tables_1
/-- a 'code' word, met by the world's own term for the bytes: nothing is compared byte by byte -/
theorem code_word {y : MethodName} {bytes : ByteArray} {mx : Nat} {rt : Option FieldType} {a : Array Value} {s : State} {m : MethodId} {meth : Method} {c : Code} (h1 : s.methodNamed? y = some m) (h2 : s.vm.method? m = some meth) (h3 : meth.code = some c) (h4 : c.code = bytes)
    (h5 : (c.maxLocals == mx && c.exceptionTable.isEmpty && decide (c.maxStack ≤ mostOperands) && decide (meth.sig.returnType = rt) && !meth.locks && decide (parseMethodDescriptor y.desc = some meth.sig)) = true) : (Jvm.Cond.code y bytes mx rt).before a s = true := by
  simp only [Bool.and_eq_true, beq_iff_eq, Bool.not_eq_true', decide_eq_true_eq] at h5
  obtain ⟨⟨⟨⟨⟨g1, g2⟩, g3⟩, g4⟩, g5⟩, g6⟩ := h5
  simp [Cond.before, Cond.holds, Cond.value, h1, h2, h3, h4, g1, g2, g3, g4, g5, g6]
def isCode : Jvm.Cond → Bool
  | .code _ _ _ _ => true
  | _ => false
theorem all_split {L : List Jvm.Cond} {P : Jvm.Cond → Bool} (h1 : L.all (fun c => isCode c || P c) = true) (h2 : ∀ c ∈ L.filter isCode, P c = true) : L.all P = true := by
  refine List.all_eq_true.mpr fun c hc => ?_
  have h := List.all_eq_true.mp h1 c hc
  rcases Bool.eq_false_or_eq_true (isCode c) with hi | hi
  · exact h2 c (List.mem_filter.mpr ⟨hc, hi⟩)
  · simpa [hi] using h
set_option maxRecDepth 65536 in
theorem w_c0 : (Jvm.Cond.code x code maxLocals ret).before args0 about1 = true := code_word (m := ⟨1, 3⟩) (meth := k1m3) (c := k1c3) (by decide +kernel) rfl rfl rfl (by decide +kernel)
set_option maxRecDepth 65536 in
theorem w_c1 : (Jvm.Cond.code ({ cls := "com/example/narrow_grant/narrowgrant/model/XmlItemsIsWhitespacePinLaw", name := "agrees", desc := "(C)Z" } : Jvm.MethodName) method_3_code (1 : Nat) (Option.some Jvm.ClassFile.FieldType.boolean)).before args0 about1 = true := code_word (m := ⟨1, 2⟩) (meth := k1m2) (c := k1c2) (by decide +kernel) rfl rfl rfl (by decide +kernel)
set_option maxRecDepth 65536 in
theorem w_c2 : (Jvm.Cond.code ({ cls := "com/example/narrow_grant/narrowgrant/model/XmlItems", name := "isWhitespace", desc := "(C)Z" } : Jvm.MethodName) prog_8_method_27_code (1 : Nat) (Option.some Jvm.ClassFile.FieldType.boolean)).before args0 about1 = true := code_word (m := ⟨2, 0⟩) (meth := k2m0) (c := k2c0) (by decide +kernel) rfl rfl rfl (by decide +kernel)
set_option maxRecDepth 65536 in
theorem w_c3 : (Jvm.Cond.code ({ cls := "com/example/narrow_grant/narrowgrant/model/XmlItemsIsWhitespacePinLaw", name := "reference", desc := "(C)Z" } : Jvm.MethodName) method_2_code (1 : Nat) (Option.some Jvm.ClassFile.FieldType.boolean)).before args0 about1 = true := code_word (m := ⟨1, 1⟩) (meth := k1m1) (c := k1c1) (by decide +kernel) rfl rfl rfl (by decide +kernel)
def codes1 : List Jvm.Cond := [Jvm.Cond.code x code maxLocals ret, Jvm.Cond.code ({ cls := "com/example/narrow_grant/narrowgrant/model/XmlItemsIsWhitespacePinLaw", name := "agrees", desc := "(C)Z" } : Jvm.MethodName) method_3_code (1 : Nat) (Option.some Jvm.ClassFile.FieldType.boolean), Jvm.Cond.code ({ cls := "com/example/narrow_grant/narrowgrant/model/XmlItems", name := "isWhitespace", desc := "(C)Z" } : Jvm.MethodName) prog_8_method_27_code (1 : Nat) (Option.some Jvm.ClassFile.FieldType.boolean), Jvm.Cond.code ({ cls := "com/example/narrow_grant/narrowgrant/model/XmlItemsIsWhitespacePinLaw", name := "reference", desc := "(C)Z" } : Jvm.MethodName) method_2_code (1 : Nat) (Option.some Jvm.ClassFile.FieldType.boolean)]
set_option maxRecDepth 65536 in
theorem codes_eq : words1.filter isCode = codes1 := rfl
theorem w_codes : ∀ c ∈ words1.filter isCode, c.before args0 about1 = true := by
  rw [codes_eq]
  intro c hc
  simp only [codes1, List.mem_cons, List.not_mem_nil, or_false] at hc
  rcases hc with rfl | rfl | rfl | rfl
  · exact w_c0
  · exact w_c1
  · exact w_c2
  · exact w_c3
set_option maxRecDepth 65536 in
theorem w_t1 : words1.all (fun c => isCode c || c.before args0 about1) = true := by decide +kernel
theorem w_tables : (allAtoms (Jvm.Cond.code x code maxLocals ret :: tables_1)).before args0 about1 = true := by
  rw [allAtoms_all]
  show words1.all (fun c => c.before args0 about1) = true
  refine all_split ?_ w_codes
  rw [w_t1]
set_option maxRecDepth 65536 in
theorem w_case : (Jvm.Cond.and given_1 narrow_1).before args0 about1 = true := by decide +kernel
theorem w_applies : (headSpec (Jvm.Cond.code x code maxLocals ret :: tables_1) room_1).applies x e0.platform about1 = true :=
  (Spec.applies_iff w_frames).mpr ⟨w_running, w_runnable, w_alone, w_named, w_hears, w_ripe, w_room, w_tables⟩
theorem atStart : AtStart classFile x code maxLocals ret World_1 tables_1 room_1 Calls_1 rest_1 Pre_1 launch0 p0 e0 about1 theMethod args0 below0 :=
  ⟨lists_1, trivial, launch0.admits_env _ _ _, launch0.least_env, fairChoices_fair.cas, fairChoices_fair.clock, w_frames, w_args, w_heap, w_applies, trivial, trivial, w_case⟩
end start1
theorem witness_1 : WitnessClaimed_1 := ⟨start1.p0, start1.e0, start1.about1, start1.theMethod, start1.args0, start1.below0, start1.atStart⟩
end Jvm.Pilot.@@N@@
