import JvmDerived
import JvmDerived.Pilot.@@N@@Statement
import JvmDerived.Pilot.@@N@@Code
set_option linter.unusedVariables false
set_option linter.unusedSimpArgs false
namespace Jvm.RoadKit
open Sem ClassFile Op Lib Jvm.Stand Jvm.Free Jvm.LawKit
section New
variable {p : Program} {l : Launch} {e : Env} {R : Room} {s : State} {m : MethodId} {args : Array Value} {below : List Frame} {meth : Method} {c : Code} {T : State} {locs : List Loc} {cells slots : Nat}
theorem retI (X : Stand p l e R s m args below meth c T locs cells slots) (hx : p.tables.exec = Jvm.exec) {pc : Nat} {Ls : Array Slot} {z : Int32} {rest : List Value} (hret : meth.sig.returnType = some .int) (hd : decode c.code pc = .ok (.ireturn, 1)) {fs : List Frame}
    (hl : ∀ (f : JFrame) (acts : List Action), f.method = m → f.locked = none → f.entered = [] → (doReturn e (T.setTop f) acts (some (.int z))).1 = T.setFrames fs) : Steps p.tables e below (T.setTop (mkF m pc Ls (.int z :: rest))) (T.setFrames fs) := by
  have hm' : T.vm.method? m = some meth := X.method'
  have hn : narrow .int (.int z) = .int z := rfl
  show Steps p.tables e below (T.setTop { method := m, pc := pc, locals := Ls, stack := _ :: rest, locked := none }) _
  jvm_step X.here [X.here.top, hx, hd, hm', hret, hn]
  first | (intro acts; rw [hl _ acts rfl rfl rfl]) | rw [hl _ _ rfl rfl rfl]
  exact Steps.refl _
end New
end Jvm.RoadKit
namespace Jvm.Pilot.@@N@@
open Jvm Jvm.ClassFile Sem Op Lib Jvm.Free Jvm.Stand Jvm.LawKit Jvm.RoadKit Bundle Jvm.Pilot.@@N@@.Jvm.D
theorem own_ord {args : Array Value} {s : State} {t : Term} {a : Addr} {C n d : String} {k : Int32} (ev : t.eval args s none [] s = some (.ref a)) (h : (Jvm.Cond.eq (Term.field t C n d) (Term.int k)).value args s none s [] = some true) : s.fieldOf? a C n d = some (.int k) := by
  obtain ⟨x, y, hx, hy, -, k2⟩ := cmp_v (Or.inl h)
  have hy' : y = .int k := (Option.some.inj hy).symm
  subst hy'
  obtain ⟨z, rfl⟩ := k2
  have hz : z = k := gotT (Cond.eq_ints hx hy) h
  subst hz
  rw [← fld_at ev]; exact hx
theorem own_getR (q : List Addr) (i : Nat) (d : Addr) (h : i < q.length) : (q.map Value.ref).getD i .null = .ref (q.getD i d) := by
  induction q generalizing i with
  | nil => exact absurd h (Nat.not_lt_zero _)
  | cons a r ih => cases i with
    | zero => rfl
    | succ n => simpa using ih n (Nat.lt_of_succ_lt_succ h)
theorem own_p {p : Prop} [Decidable p] {a : Int32} (e : a = if p then 1 else 0) (h : ¬ a = 0) : p := Classical.byContradiction fun n => h (e.trans (if_neg n))
theorem own_n {p : Prop} [Decidable p] {a : Int32} (e : a = if p then 1 else 0) (h : a = 0) : ¬ p := fun q => absurd (h.symm.trans (e.trans (if_pos q))) (by decide)
theorem own_ite {p q : Prop} [Decidable p] [Decidable q] (h : p ↔ q) : (if p then (1 : Int32) else 0) = if q then 1 else 0 := by
  by_cases hp : p
  · rw [if_pos hp, if_pos (h.mp hp)]
  · rw [if_neg hp, if_neg (fun x => hp (h.mpr x))]
theorem own_rem (u : Int32) : ¬ ((u &&& (2147483647 : Int32)) % (17 : Int32)) < 0 ∧ ((u &&& (2147483647 : Int32)) % (17 : Int32)) < (17 : Int32) := by
  have hm := c_mask u 2147483647 31 (by decide) (by decide)
  have h : 0 ≤ (u &&& (2147483647 : Int32)).toInt := by rw [hm]; exact Int.emod_nonneg _ (by decide)
  rw [Int32.lt_iff_toInt_lt, Int32.lt_iff_toInt_lt, Int32.toInt_mod]
  have e0 : (0 : Int32).toInt = 0 := by decide
  have e4 : (17 : Int32).toInt = 17 := by decide
  rw [e0, e4, Int.tmod_eq_emod_of_nonneg h]; omega
theorem own_pd0 : parseMethodDescriptor "()Z" = some ⟨[], some .boolean⟩ := by decide +kernel
theorem own_pd1 : parseMethodDescriptor "()Lcom/example/nano_xpath/nanoxpath/AtomicKind;" = some ⟨[], some (.object "com/example/nano_xpath/nanoxpath/AtomicKind")⟩ := by decide +kernel
theorem d1_0 : decode prog_5_method_6_code 0 = .ok (.aload_n 0, 1) := by decide +kernel
theorem d1_1 : decode prog_5_method_6_code 1 = .ok (.getstatic 22, 3) := by decide +kernel
theorem d1_4 : decode prog_5_method_6_code 4 = .ok (.if_acmp .eq 17, 3) := by decide +kernel
theorem d1_7 : decode prog_5_method_6_code 7 = .ok (.aload_n 0, 1) := by decide +kernel
theorem d1_8 : decode prog_5_method_6_code 8 = .ok (.getstatic 25, 3) := by decide +kernel
theorem d1_11 : decode prog_5_method_6_code 11 = .ok (.if_acmp .eq 10, 3) := by decide +kernel
theorem d1_14 : decode prog_5_method_6_code 14 = .ok (.aload_n 0, 1) := by decide +kernel
theorem d1_15 : decode prog_5_method_6_code 15 = .ok (.getstatic 28, 3) := by decide +kernel
theorem d1_18 : decode prog_5_method_6_code 18 = .ok (.if_acmp .ne 7, 3) := by decide +kernel
theorem d1_21 : decode prog_5_method_6_code 21 = .ok (.iconst 1, 1) := by decide +kernel
theorem d1_22 : decode prog_5_method_6_code 22 = .ok (.goto 4, 3) := by decide +kernel
theorem d1_25 : decode prog_5_method_6_code 25 = .ok (.iconst 0, 1) := by decide +kernel
theorem d1_26 : decode prog_5_method_6_code 26 = .ok (.ireturn, 1) := by decide +kernel
theorem pn_rm_isd : plainName "com/example/nano_xpath/nanoxpath/AtomicKind" = true := by first | (simp [plainName, overriddenIn]; done) | decide +kernel
theorem ef_rm_isd (m : MethodId) (va : Addr) : entryFrame m #[(.ref va)] 1 = mkF m 0 #[.val (.ref va)] [] := by first | (simp [entryFrame, mkF, argsToLocals, Value.category]; done) | rfl
def Q_isd (Z : State) (va : Addr) (ad_DURATION : Addr) (ad_YEAR_MONTH_DURATION : Addr) (ad_DAY_TIME_DURATION : Addr) (h0 : Heap) (n0 : Nat) (v : Option Value) (h : Heap) (L : List Loc) : Prop := v = some (.int (if (va = ad_DURATION ∨ va = ad_YEAR_MONTH_DURATION ∨ va = ad_DAY_TIME_DURATION) then 1 else 0)) ∧ Fr n0 L ∧ h = h0
set_option maxRecDepth 65536 in
set_option maxHeartbeats 40000000 in
theorem rm_isd (l : Launch) (Z : State) (a0 : Array Value) (hw : ∀ d ∈ tables_1, d.before a0 Z = true) (ws : List Jvm.Cond) (va : Addr) (ad_DURATION : Addr) (ad_YEAR_MONTH_DURATION : Addr) (ad_DAY_TIME_DURATION : Addr) (h0 : Heap) (n0 : Nat) (Z0 : n0 ≤ h0.size) (S_DURATION : Sta Z h0 "com/example/nano_xpath/nanoxpath/AtomicKind" "DURATION" "Lcom/example/nano_xpath/nanoxpath/AtomicKind;" (.ref ad_DURATION)) (S_YEAR_MONTH_DURATION : Sta Z h0 "com/example/nano_xpath/nanoxpath/AtomicKind" "YEAR_MONTH_DURATION" "Lcom/example/nano_xpath/nanoxpath/AtomicKind;" (.ref ad_YEAR_MONTH_DURATION)) (S_DAY_TIME_DURATION : Sta Z h0 "com/example/nano_xpath/nanoxpath/AtomicKind" "DAY_TIME_DURATION" "Lcom/example/nano_xpath/nanoxpath/AtomicKind;" (.ref ad_DAY_TIME_DURATION)) :
    MetFree l (⟨"com/example/nano_xpath/nanoxpath/AtomicKind", "isDuration", "()Z"⟩ : MethodName) (head1 (Jvm.Cond.code (⟨"com/example/nano_xpath/nanoxpath/AtomicKind", "isDuration", "()Z"⟩ : MethodName) prog_5_method_6_code 1 (some .boolean) :: ws) ({ frames := 0, cells := 0, slots := 0, locals := 0 } : Room)) (fun a U => a = #[(.ref va)] ∧ Z.Warmed39 U.vm ∧ U.heap = h0) (fun _ _ _ _ _ => True) (fun _ U o U' => ∃ v L, o = .returned v ∧ Q_isd Z va ad_DURATION ad_YEAR_MONTH_DURATION ad_DAY_TIME_DURATION h0 n0 v U'.heap L ∧ FrameEnd U o U' L ({ frames := 0, cells := 0, slots := 0, locals := 0 } : Room).cells ({ frames := 0, cells := 0, slots := 0, locals := 0 } : Room).slots) := by
  refine MetFree.of_bodySF (plainFor_of_name pn_rm_isd) hisR ?_
  intro p e s m args below meth c s₁ Bd hml0 hP hK
  obtain ⟨rfl, hZ, hh⟩ := hP
  have hx := Bd.exec
  have hby := Bd.bytes
  have hml : c.maxLocals = 1 := hml0
  have hown : s.vm.findClass "com/example/nano_xpath/nanoxpath/AtomicKind" = some m.cls := findClass_of_methodNamed Bd.named
  have hnm := (name_of_methodNamed Bd.named Bd.method).1
  have X0 : Stand p l e ({ frames := 0, cells := 0, slots := 0, locals := 0 } : Room) s m #[(.ref va)] below meth c s₁ [] 0 0 := Stand.of_body Bd
  have e0 : s₁.heap = h0 := by rw [← hh, Bd.state]; rfl
  have N0 := Fr.nil n0
  have pre0 : ∀ t, Steps p.tables e below (s₁.setTop (mkF m 0 #[.val (.ref va)] [])) t → Steps p.tables e below (s₁.setTop (entryFrame m #[(.ref va)] 1)) t := fun t k => castTop (ef_rm_isd m va) k
  obtain ⟨T1, X1, e1, st1⟩ := getS2 X0 hx hZ hown (host := "") (Or.inl (hw _ (List.mem_of_getElem? (i := 44) rfl))) Via.refl e0 S_DURATION (g := (mkF m 1 #[.val (.ref va)] [(.ref va)])) rfl (hb hby d1_1)
  have pre2 : ∀ t, Steps p.tables e below (T1.setTop (mkF m 4 #[.val (.ref va)] [(.ref ad_DURATION), (.ref va)])) t → Steps p.tables e below (s₁.setTop (entryFrame m #[(.ref va)] 1)) t := by
    intro t k
    refine pre0 t ?_
    show Steps p.tables e below (s₁.setTop (mkF m 0 #[.val (.ref va)] [])) _
    refine XS.aloadN X0.here hx rfl (hb hby d1_0) rfl rfl ?_
    show Steps p.tables e below (s₁.setTop (mkF m 1 #[.val (.ref va)] [(.ref va)])) _
    refine st1 _ ?_
    show Steps p.tables e below (T1.setTop (mkF m 4 #[.val (.ref va)] [(.ref ad_DURATION), (.ref va)])) _
    exact k
  by_cases hc3 : va = ad_DURATION
  · obtain ⟨fs, hr, hrun, hended, hW, hsame⟩ := X1.leave (v := some (.int (1 : Int32))) (fun h => by rw [Bd.returns] at h; cases h)
    refine ⟨_, _, pre2 _ ?_, hrun, hended, _, _, rfl, ?_, ⟨_, rfl⟩, hW, hsame.mono (by decide) (by decide)⟩
    · show Steps p.tables e below (T1.setTop (mkF m 4 #[.val (.ref va)] [(.ref ad_DURATION), (.ref va)])) _
      refine Jvm.RoadKit.acmp (g := (mkF m 4 #[.val (.ref va)] [(.ref ad_DURATION), (.ref va)])) X1 hx rfl rfl rfl (pc0 := 4) (pc' := 21) (same := true) rfl (hb hby d1_4) rfl (decide_eq_true (congrArg Value.ref hc3)) (by decide) (by decide) ?_
      show Steps p.tables e below (T1.setTop (mkF m 21 #[.val (.ref va)] [])) _
      refine XS.iconst X1.here hx rfl (hb hby d1_21) ?_
      show Steps p.tables e below (T1.setTop (mkF m 22 #[.val (.ref va)] [(.int (1 : Int32))])) _
      refine XS.goto X1.here hx rfl (pc0 := 22) (pc' := 26) rfl (hb hby d1_22) (by decide) (by decide) ?_
      show Steps p.tables e below (T1.setTop (mkF m 26 #[.val (.ref va)] [(.int (1 : Int32))])) _
      exact retN X1 hx (t := .boolean) Bd.returns (by simp) (hb hby d1_26) hr
    · show Q_isd Z va ad_DURATION ad_YEAR_MONTH_DURATION ad_DAY_TIME_DURATION h0 n0 _ T1.heap _
      rw [e1]
      exact ⟨by simp [hc3], N0, rfl⟩
  · obtain ⟨T4, X4, e4, st4⟩ := getS2 X1 hx hZ hown (host := "") (Or.inl (hw _ (List.mem_of_getElem? (i := 45) rfl))) Via.refl e1 S_YEAR_MONTH_DURATION (g := (mkF m 8 #[.val (.ref va)] [(.ref va)])) rfl (hb hby d1_8)
    have pre5 : ∀ t, Steps p.tables e below (T4.setTop (mkF m 11 #[.val (.ref va)] [(.ref ad_YEAR_MONTH_DURATION), (.ref va)])) t → Steps p.tables e below (s₁.setTop (entryFrame m #[(.ref va)] 1)) t := by
      intro t k
      refine pre2 t ?_
      show Steps p.tables e below (T1.setTop (mkF m 4 #[.val (.ref va)] [(.ref ad_DURATION), (.ref va)])) _
      refine Jvm.RoadKit.acmp (g := (mkF m 4 #[.val (.ref va)] [(.ref ad_DURATION), (.ref va)])) X1 hx rfl rfl rfl (pc0 := 4) (pc' := 7) (same := false) rfl (hb hby d1_4) rfl (decide_eq_false fun q => hc3 (Value.ref.inj q)) (by decide) (by decide) ?_
      show Steps p.tables e below (T1.setTop (mkF m 7 #[.val (.ref va)] [])) _
      refine XS.aloadN X1.here hx rfl (hb hby d1_7) rfl rfl ?_
      show Steps p.tables e below (T1.setTop (mkF m 8 #[.val (.ref va)] [(.ref va)])) _
      refine st4 _ ?_
      show Steps p.tables e below (T4.setTop (mkF m 11 #[.val (.ref va)] [(.ref ad_YEAR_MONTH_DURATION), (.ref va)])) _
      exact k
    by_cases hc6 : va = ad_YEAR_MONTH_DURATION
    · obtain ⟨fs, hr, hrun, hended, hW, hsame⟩ := X4.leave (v := some (.int (1 : Int32))) (fun h => by rw [Bd.returns] at h; cases h)
      refine ⟨_, _, pre5 _ ?_, hrun, hended, _, _, rfl, ?_, ⟨_, rfl⟩, hW, hsame.mono (by decide) (by decide)⟩
      · show Steps p.tables e below (T4.setTop (mkF m 11 #[.val (.ref va)] [(.ref ad_YEAR_MONTH_DURATION), (.ref va)])) _
        refine Jvm.RoadKit.acmp (g := (mkF m 11 #[.val (.ref va)] [(.ref ad_YEAR_MONTH_DURATION), (.ref va)])) X4 hx rfl rfl rfl (pc0 := 11) (pc' := 21) (same := true) rfl (hb hby d1_11) rfl (decide_eq_true (congrArg Value.ref hc6)) (by decide) (by decide) ?_
        show Steps p.tables e below (T4.setTop (mkF m 21 #[.val (.ref va)] [])) _
        refine XS.iconst X4.here hx rfl (hb hby d1_21) ?_
        show Steps p.tables e below (T4.setTop (mkF m 22 #[.val (.ref va)] [(.int (1 : Int32))])) _
        refine XS.goto X4.here hx rfl (pc0 := 22) (pc' := 26) rfl (hb hby d1_22) (by decide) (by decide) ?_
        show Steps p.tables e below (T4.setTop (mkF m 26 #[.val (.ref va)] [(.int (1 : Int32))])) _
        exact retN X4 hx (t := .boolean) Bd.returns (by simp) (hb hby d1_26) hr
      · show Q_isd Z va ad_DURATION ad_YEAR_MONTH_DURATION ad_DAY_TIME_DURATION h0 n0 _ T4.heap _
        rw [e4]
        exact ⟨by simp [hc3, hc6], N0, rfl⟩
    · obtain ⟨T7, X7, e7, st7⟩ := getS2 X4 hx hZ hown (host := "") (Or.inl (hw _ (List.mem_of_getElem? (i := 46) rfl))) Via.refl e4 S_DAY_TIME_DURATION (g := (mkF m 15 #[.val (.ref va)] [(.ref va)])) rfl (hb hby d1_15)
      have pre8 : ∀ t, Steps p.tables e below (T7.setTop (mkF m 18 #[.val (.ref va)] [(.ref ad_DAY_TIME_DURATION), (.ref va)])) t → Steps p.tables e below (s₁.setTop (entryFrame m #[(.ref va)] 1)) t := by
        intro t k
        refine pre5 t ?_
        show Steps p.tables e below (T4.setTop (mkF m 11 #[.val (.ref va)] [(.ref ad_YEAR_MONTH_DURATION), (.ref va)])) _
        refine Jvm.RoadKit.acmp (g := (mkF m 11 #[.val (.ref va)] [(.ref ad_YEAR_MONTH_DURATION), (.ref va)])) X4 hx rfl rfl rfl (pc0 := 11) (pc' := 14) (same := false) rfl (hb hby d1_11) rfl (decide_eq_false fun q => hc6 (Value.ref.inj q)) (by decide) (by decide) ?_
        show Steps p.tables e below (T4.setTop (mkF m 14 #[.val (.ref va)] [])) _
        refine XS.aloadN X4.here hx rfl (hb hby d1_14) rfl rfl ?_
        show Steps p.tables e below (T4.setTop (mkF m 15 #[.val (.ref va)] [(.ref va)])) _
        refine st7 _ ?_
        show Steps p.tables e below (T7.setTop (mkF m 18 #[.val (.ref va)] [(.ref ad_DAY_TIME_DURATION), (.ref va)])) _
        exact k
      by_cases hc9 : va = ad_DAY_TIME_DURATION
      · obtain ⟨fs, hr, hrun, hended, hW, hsame⟩ := X7.leave (v := some (.int (1 : Int32))) (fun h => by rw [Bd.returns] at h; cases h)
        refine ⟨_, _, pre8 _ ?_, hrun, hended, _, _, rfl, ?_, ⟨_, rfl⟩, hW, hsame.mono (by decide) (by decide)⟩
        · show Steps p.tables e below (T7.setTop (mkF m 18 #[.val (.ref va)] [(.ref ad_DAY_TIME_DURATION), (.ref va)])) _
          refine Jvm.RoadKit.acmp (g := (mkF m 18 #[.val (.ref va)] [(.ref ad_DAY_TIME_DURATION), (.ref va)])) X7 hx rfl rfl rfl (pc0 := 18) (pc' := 21) (same := true) rfl (hb hby d1_18) rfl (decide_eq_true (congrArg Value.ref hc9)) (by decide) (by decide) ?_
          show Steps p.tables e below (T7.setTop (mkF m 21 #[.val (.ref va)] [])) _
          refine XS.iconst X7.here hx rfl (hb hby d1_21) ?_
          show Steps p.tables e below (T7.setTop (mkF m 22 #[.val (.ref va)] [(.int (1 : Int32))])) _
          refine XS.goto X7.here hx rfl (pc0 := 22) (pc' := 26) rfl (hb hby d1_22) (by decide) (by decide) ?_
          show Steps p.tables e below (T7.setTop (mkF m 26 #[.val (.ref va)] [(.int (1 : Int32))])) _
          exact retN X7 hx (t := .boolean) Bd.returns (by simp) (hb hby d1_26) hr
        · show Q_isd Z va ad_DURATION ad_YEAR_MONTH_DURATION ad_DAY_TIME_DURATION h0 n0 _ T7.heap _
          rw [e7]
          exact ⟨by simp [hc3, hc6, hc9], N0, rfl⟩
      · obtain ⟨fs, hr, hrun, hended, hW, hsame⟩ := X7.leave (v := some (.int (0 : Int32))) (fun h => by rw [Bd.returns] at h; cases h)
        refine ⟨_, _, pre8 _ ?_, hrun, hended, _, _, rfl, ?_, ⟨_, rfl⟩, hW, hsame.mono (by decide) (by decide)⟩
        · show Steps p.tables e below (T7.setTop (mkF m 18 #[.val (.ref va)] [(.ref ad_DAY_TIME_DURATION), (.ref va)])) _
          refine Jvm.RoadKit.acmp (g := (mkF m 18 #[.val (.ref va)] [(.ref ad_DAY_TIME_DURATION), (.ref va)])) X7 hx rfl rfl rfl (pc0 := 18) (pc' := 25) (same := false) rfl (hb hby d1_18) rfl (decide_eq_false fun q => hc9 (Value.ref.inj q)) (by decide) (by decide) ?_
          show Steps p.tables e below (T7.setTop (mkF m 25 #[.val (.ref va)] [])) _
          refine XS.iconst X7.here hx rfl (hb hby d1_25) ?_
          show Steps p.tables e below (T7.setTop (mkF m 26 #[.val (.ref va)] [(.int (0 : Int32))])) _
          exact retN X7 hx (t := .boolean) Bd.returns (by simp) (hb hby d1_26) hr
        · show Q_isd Z va ad_DURATION ad_YEAR_MONTH_DURATION ad_DAY_TIME_DURATION h0 n0 _ T7.heap _
          rw [e7]
          exact ⟨by simp [hc3, hc6, hc9], N0, rfl⟩
theorem d2_0 : decode prog_5_method_7_code 0 = .ok (.aload_n 0, 1) := by decide +kernel
theorem d2_1 : decode prog_5_method_7_code 1 = .ok (.invokevirtual 166, 3) := by decide +kernel
theorem d2_4 : decode prog_5_method_7_code 4 = .ok (.ifCond .eq 9, 3) := by decide +kernel
theorem d2_7 : decode prog_5_method_7_code 7 = .ok (.getstatic 22, 3) := by decide +kernel
theorem d2_10 : decode prog_5_method_7_code 10 = .ok (.goto 4, 3) := by decide +kernel
theorem d2_13 : decode prog_5_method_7_code 13 = .ok (.aload_n 0, 1) := by decide +kernel
theorem d2_14 : decode prog_5_method_7_code 14 = .ok (.areturn, 1) := by decide +kernel
theorem pn_rm_eqk : plainName "com/example/nano_xpath/nanoxpath/AtomicKind" = true := by first | (simp [plainName, overriddenIn]; done) | decide +kernel
theorem ef_rm_eqk (m : MethodId) (va : Addr) : entryFrame m #[(.ref va)] 1 = mkF m 0 #[.val (.ref va)] [] := by first | (simp [entryFrame, mkF, argsToLocals, Value.category]; done) | rfl
def Q_eqk (Z : State) (va : Addr) (ad_DURATION : Addr) (ad_YEAR_MONTH_DURATION : Addr) (ad_DAY_TIME_DURATION : Addr) (h0 : Heap) (n0 : Nat) (v : Option Value) (h : Heap) (L : List Loc) : Prop := v = some (.ref (if (va = ad_DURATION ∨ va = ad_YEAR_MONTH_DURATION ∨ va = ad_DAY_TIME_DURATION) then ad_DURATION else va)) ∧ Fr n0 L ∧ h = h0
set_option maxRecDepth 65536 in
set_option maxHeartbeats 40000000 in
theorem rm_eqk (l : Launch) (Z : State) (a0 : Array Value) (hw : ∀ d ∈ tables_1, d.before a0 Z = true) (ws : List Jvm.Cond) (va : Addr) (ad_DURATION : Addr) (ad_YEAR_MONTH_DURATION : Addr) (ad_DAY_TIME_DURATION : Addr) (h0 : Heap) (n0 : Nat) (Z0 : n0 ≤ h0.size) (S_DURATION : Sta Z h0 "com/example/nano_xpath/nanoxpath/AtomicKind" "DURATION" "Lcom/example/nano_xpath/nanoxpath/AtomicKind;" (.ref ad_DURATION)) (S_YEAR_MONTH_DURATION : Sta Z h0 "com/example/nano_xpath/nanoxpath/AtomicKind" "YEAR_MONTH_DURATION" "Lcom/example/nano_xpath/nanoxpath/AtomicKind;" (.ref ad_YEAR_MONTH_DURATION)) (S_DAY_TIME_DURATION : Sta Z h0 "com/example/nano_xpath/nanoxpath/AtomicKind" "DAY_TIME_DURATION" "Lcom/example/nano_xpath/nanoxpath/AtomicKind;" (.ref ad_DAY_TIME_DURATION)) (E_a : Exa Z h0 va "com/example/nano_xpath/nanoxpath/AtomicKind") :
    MetFree l (⟨"com/example/nano_xpath/nanoxpath/AtomicKind", "equalityKind", "()Lcom/example/nano_xpath/nanoxpath/AtomicKind;"⟩ : MethodName) (head1 (Jvm.Cond.code (⟨"com/example/nano_xpath/nanoxpath/AtomicKind", "equalityKind", "()Lcom/example/nano_xpath/nanoxpath/AtomicKind;"⟩ : MethodName) prog_5_method_7_code 1 (some (.object "com/example/nano_xpath/nanoxpath/AtomicKind")) :: ws) ({ frames := 1, cells := 0, slots := 0, locals := 12 } : Room)) (fun a U => a = #[(.ref va)] ∧ Z.Warmed39 U.vm ∧ U.heap = h0) (fun _ _ _ _ _ => True) (fun _ U o U' => ∃ v L, o = .returned v ∧ Q_eqk Z va ad_DURATION ad_YEAR_MONTH_DURATION ad_DAY_TIME_DURATION h0 n0 v U'.heap L ∧ FrameEnd U o U' L ({ frames := 1, cells := 0, slots := 0, locals := 12 } : Room).cells ({ frames := 1, cells := 0, slots := 0, locals := 12 } : Room).slots) := by
  refine MetFree.of_bodySF (plainFor_of_name pn_rm_eqk) hisR ?_
  intro p e s m args below meth c s₁ Bd hml0 hP hK
  obtain ⟨rfl, hZ, hh⟩ := hP
  have hx := Bd.exec
  have hby := Bd.bytes
  have hml : c.maxLocals = 1 := hml0
  have hown : s.vm.findClass "com/example/nano_xpath/nanoxpath/AtomicKind" = some m.cls := findClass_of_methodNamed Bd.named
  have hnm := (name_of_methodNamed Bd.named Bd.method).1
  have X0 : Stand p l e ({ frames := 1, cells := 0, slots := 0, locals := 12 } : Room) s m #[(.ref va)] below meth c s₁ [] 0 0 := Stand.of_body Bd
  have e0 : s₁.heap = h0 := by rw [← hh, Bd.state]; rfl
  have N0 := Fr.nil n0
  have pre0 : ∀ t, Steps p.tables e below (s₁.setTop (mkF m 0 #[.val (.ref va)] [])) t → Steps p.tables e below (s₁.setTop (entryFrame m #[(.ref va)] 1)) t := fun t k => castTop (ef_rm_eqk m va) k
  obtain ⟨cq2, kq2, q2a, q2b, q2c⟩ := isOf hZ e0 E_a
  obtain ⟨_, _, ⟨T1, L1, k1, n1⟩, -, X1, ⟨Lc1, hQ1, l1, y1, z1⟩, st1⟩ := X0.virtualBack hx (y := (⟨"com/example/nano_xpath/nanoxpath/AtomicKind", "isDuration", "()Z"⟩ : MethodName)) (z := (⟨"com/example/nano_xpath/nanoxpath/AtomicKind", "isDuration", "()Z"⟩ : MethodName)) hown (mvT hZ (hw _ (List.mem_of_getElem? (i := 52) rfl))) (mvT hZ (hw _ (List.mem_of_getElem? (i := 40) rfl))) (notFace_of_selects (args := #[]) (mvT hZ (hw _ (List.mem_of_getElem? (i := 42) rfl)))) (mvT hZ (hw _ (List.mem_of_getElem? (i := 42) rfl))) (mvT hZ (hw _ (List.mem_of_getElem? (i := 41) rfl))) (by decide) (backOf (W := 0) (rm_isd l Z a0 hw [] va ad_DURATION ad_YEAR_MONTH_DURATION ad_DAY_TIME_DURATION h0 n0 Z0 S_DURATION S_YEAR_MONTH_DURATION S_DAY_TIME_DURATION) hZ (hw _ (List.mem_of_getElem? (i := 43) rfl)) (hw _ (List.mem_of_getElem? (i := 3) rfl)) (by decide) (by decide)) q2a q2c (g := (mkF m 1 #[.val (.ref va)] [(.ref va)])) rfl (by rw [hml]; rfl) (Steps.refl _) (argsL := []) (rest := []) (lenOf own_pd0 rfl) rfl (by show 2 * 0 + _ ≤ _; exact Nat.le_of_eq rfl) (hb hby d2_1) (fun _ _ => ⟨rfl, e0, (by decide : 0 + 0 ≤ _), (by decide : 0 + 0 ≤ _)⟩)
  dsimp only [Pt.U, Pt.locs, Pt.cells, Pt.slots] at X1 l1 y1 z1 st1 hQ1
  subst l1 y1 z1
  obtain ⟨rfl, Nq1, hh1⟩ := hQ1
  have Nf1 := Fr.app N0 Nq1
  have pre3 : ∀ t, Steps p.tables e below (T1.setTop (mkF m 4 #[.val (.ref va)] [(.int (if (va = ad_DURATION ∨ va = ad_YEAR_MONTH_DURATION ∨ va = ad_DAY_TIME_DURATION) then 1 else 0))])) t → Steps p.tables e below (s₁.setTop (entryFrame m #[(.ref va)] 1)) t := by
    intro t k
    refine pre0 t ?_
    show Steps p.tables e below (s₁.setTop (mkF m 0 #[.val (.ref va)] [])) _
    refine XS.aloadN X0.here hx rfl (hb hby d2_0) rfl rfl ?_
    show Steps p.tables e below (s₁.setTop (mkF m 1 #[.val (.ref va)] [(.ref va)])) _
    refine st1.trans ?_
    show Steps p.tables e below (T1.setTop (mkF m 4 #[.val (.ref va)] [(.int (if (va = ad_DURATION ∨ va = ad_YEAR_MONTH_DURATION ∨ va = ad_DAY_TIME_DURATION) then 1 else 0))])) _
    exact k
  by_cases hc4 : (if (va = ad_DURATION ∨ va = ad_YEAR_MONTH_DURATION ∨ va = ad_DAY_TIME_DURATION) then 1 else 0) = (0 : Int32)
  · obtain ⟨fs, hr, hrun, hended, hW, hsame⟩ := X1.leave (v := some (.ref va)) (fun h => by rw [Bd.returns] at h; cases h)
    refine ⟨_, _, pre3 _ ?_, hrun, hended, _, _, rfl, ?_, ⟨_, rfl⟩, hW, hsame.mono (by decide) (by decide)⟩
    · show Steps p.tables e below (T1.setTop (mkF m 4 #[.val (.ref va)] [(.int (if (va = ad_DURATION ∨ va = ad_YEAR_MONTH_DURATION ∨ va = ad_DAY_TIME_DURATION) then 1 else 0))])) _
      refine XS.ifYes X1.here hx rfl (pc0 := 4) (pc' := 13) rfl (hb hby d2_4) rfl ((if0 _ _).trans (teq hc4).1) (by decide) (by decide) ?_
      show Steps p.tables e below (T1.setTop (mkF m 13 #[.val (.ref va)] [])) _
      refine XS.aloadN X1.here hx rfl (hb hby d2_13) rfl rfl ?_
      show Steps p.tables e below (T1.setTop (mkF m 14 #[.val (.ref va)] [(.ref va)])) _
      jvm_step X1.here [X1.here.top, hx, (hb hby d2_14), X1.method', Bd.returns, Value.isRef, FieldType.isReference]
      first | (intro acts; rw [hr _ acts rfl rfl rfl]) | rw [hr _ _ rfl rfl rfl]
      exact Steps.refl _
    · show Q_eqk Z va ad_DURATION ad_YEAR_MONTH_DURATION ad_DAY_TIME_DURATION h0 n0 _ T1.heap _
      rw [hh1]
      exact ⟨by rw [if_neg (own_n rfl hc4)], Nf1, rfl⟩
  · obtain ⟨T5, X5, e5, st5⟩ := getS2 X1 hx hZ hown (host := "") (Or.inl (hw _ (List.mem_of_getElem? (i := 44) rfl))) Via.refl hh1 S_DURATION (g := (mkF m 7 #[.val (.ref va)] [])) rfl (hb hby d2_7)
    obtain ⟨fs, hr, hrun, hended, hW, hsame⟩ := X5.leave (v := some (.ref ad_DURATION)) (fun h => by rw [Bd.returns] at h; cases h)
    refine ⟨_, _, pre3 _ ?_, hrun, hended, _, _, rfl, ?_, ⟨_, rfl⟩, hW, hsame.mono (by decide) (by decide)⟩
    · show Steps p.tables e below (T1.setTop (mkF m 4 #[.val (.ref va)] [(.int (if (va = ad_DURATION ∨ va = ad_YEAR_MONTH_DURATION ∨ va = ad_DAY_TIME_DURATION) then 1 else 0))])) _
      refine XS.ifNo X1.here hx rfl (hb hby d2_4) rfl ((if0 _ _).trans (feq hc4).1) ?_
      show Steps p.tables e below (T1.setTop (mkF m 7 #[.val (.ref va)] [])) _
      refine st5 _ ?_
      show Steps p.tables e below (T5.setTop (mkF m 10 #[.val (.ref va)] [(.ref ad_DURATION)])) _
      refine XS.goto X5.here hx rfl (pc0 := 10) (pc' := 14) rfl (hb hby d2_10) (by decide) (by decide) ?_
      show Steps p.tables e below (T5.setTop (mkF m 14 #[.val (.ref va)] [(.ref ad_DURATION)])) _
      jvm_step X5.here [X5.here.top, hx, (hb hby d2_14), X5.method', Bd.returns, Value.isRef, FieldType.isReference]
      first | (intro acts; rw [hr _ acts rfl rfl rfl]) | rw [hr _ _ rfl rfl rfl]
      exact Steps.refl _
    · show Q_eqk Z va ad_DURATION ad_YEAR_MONTH_DURATION ad_DAY_TIME_DURATION h0 n0 _ T5.heap _
      rw [e5]
      exact ⟨by rw [if_pos (own_p rfl hc4)], Nf1, rfl⟩
theorem pn_rm0 : plainName "com/example/nano_xpath/nanoxpath/AtomicKindIsDurationPinLaw" = true := by first | (simp [plainName, overriddenIn]; done) | decide +kernel
theorem ef_rm0 (m : MethodId) (vx : Int32) : entryFrame m #[(.int vx)] maxLocals = mkF m 0 #[.val (.int vx), .unset, .unset, .unset, .unset, .unset, .unset] [] := by first | (simp [entryFrame, mkF, argsToLocals, Value.category, maxLocals]; done) | rfl
def Q0 (Z : State) (vx : Int32) (ad_NUMBER : Addr) (ad_STRING : Addr) (ad_BOOLEAN : Addr) (ad_DATE_TIME : Addr) (ad_DATE : Addr) (ad_TIME : Addr) (ad_DURATION : Addr) (ad_YEAR_MONTH_DURATION : Addr) (ad_DAY_TIME_DURATION : Addr) (ad_G_YEAR_MONTH : Addr) (ad_G_YEAR : Addr) (ad_G_MONTH_DAY : Addr) (ad_G_DAY : Addr) (ad_G_MONTH : Addr) (ad_HEX_BINARY : Addr) (ad_BASE64_BINARY : Addr) (ad_QNAME : Addr) (h0 : Heap) (n0 : Nat) (v : Option Value) (h : Heap) (L : List Loc) : Prop := v = some (.int 1) ∧ Fr n0 L
set_option maxRecDepth 65536 in
set_option maxHeartbeats 40000000 in
theorem rm0 (l : Launch) (Z : State) (a0 : Array Value) (hw : ∀ d ∈ tables_1, d.before a0 Z = true) (ws : List Jvm.Cond) (vx : Int32) (ad_NUMBER : Addr) (ad_STRING : Addr) (ad_BOOLEAN : Addr) (ad_DATE_TIME : Addr) (ad_DATE : Addr) (ad_TIME : Addr) (ad_DURATION : Addr) (ad_YEAR_MONTH_DURATION : Addr) (ad_DAY_TIME_DURATION : Addr) (ad_G_YEAR_MONTH : Addr) (ad_G_YEAR : Addr) (ad_G_MONTH_DAY : Addr) (ad_G_DAY : Addr) (ad_G_MONTH : Addr) (ad_HEX_BINARY : Addr) (ad_BASE64_BINARY : Addr) (ad_QNAME : Addr) (h0 : Heap) (n0 : Nat) (Z0 : n0 ≤ h0.size) (S_NUMBER : Sta Z h0 "com/example/nano_xpath/nanoxpath/AtomicKind" "NUMBER" "Lcom/example/nano_xpath/nanoxpath/AtomicKind;" (.ref ad_NUMBER)) (S_STRING : Sta Z h0 "com/example/nano_xpath/nanoxpath/AtomicKind" "STRING" "Lcom/example/nano_xpath/nanoxpath/AtomicKind;" (.ref ad_STRING)) (S_BOOLEAN : Sta Z h0 "com/example/nano_xpath/nanoxpath/AtomicKind" "BOOLEAN" "Lcom/example/nano_xpath/nanoxpath/AtomicKind;" (.ref ad_BOOLEAN)) (S_DATE_TIME : Sta Z h0 "com/example/nano_xpath/nanoxpath/AtomicKind" "DATE_TIME" "Lcom/example/nano_xpath/nanoxpath/AtomicKind;" (.ref ad_DATE_TIME)) (S_DATE : Sta Z h0 "com/example/nano_xpath/nanoxpath/AtomicKind" "DATE" "Lcom/example/nano_xpath/nanoxpath/AtomicKind;" (.ref ad_DATE)) (S_TIME : Sta Z h0 "com/example/nano_xpath/nanoxpath/AtomicKind" "TIME" "Lcom/example/nano_xpath/nanoxpath/AtomicKind;" (.ref ad_TIME)) (S_DURATION : Sta Z h0 "com/example/nano_xpath/nanoxpath/AtomicKind" "DURATION" "Lcom/example/nano_xpath/nanoxpath/AtomicKind;" (.ref ad_DURATION)) (S_YEAR_MONTH_DURATION : Sta Z h0 "com/example/nano_xpath/nanoxpath/AtomicKind" "YEAR_MONTH_DURATION" "Lcom/example/nano_xpath/nanoxpath/AtomicKind;" (.ref ad_YEAR_MONTH_DURATION)) (S_DAY_TIME_DURATION : Sta Z h0 "com/example/nano_xpath/nanoxpath/AtomicKind" "DAY_TIME_DURATION" "Lcom/example/nano_xpath/nanoxpath/AtomicKind;" (.ref ad_DAY_TIME_DURATION)) (S_G_YEAR_MONTH : Sta Z h0 "com/example/nano_xpath/nanoxpath/AtomicKind" "G_YEAR_MONTH" "Lcom/example/nano_xpath/nanoxpath/AtomicKind;" (.ref ad_G_YEAR_MONTH)) (S_G_YEAR : Sta Z h0 "com/example/nano_xpath/nanoxpath/AtomicKind" "G_YEAR" "Lcom/example/nano_xpath/nanoxpath/AtomicKind;" (.ref ad_G_YEAR)) (S_G_MONTH_DAY : Sta Z h0 "com/example/nano_xpath/nanoxpath/AtomicKind" "G_MONTH_DAY" "Lcom/example/nano_xpath/nanoxpath/AtomicKind;" (.ref ad_G_MONTH_DAY)) (S_G_DAY : Sta Z h0 "com/example/nano_xpath/nanoxpath/AtomicKind" "G_DAY" "Lcom/example/nano_xpath/nanoxpath/AtomicKind;" (.ref ad_G_DAY)) (S_G_MONTH : Sta Z h0 "com/example/nano_xpath/nanoxpath/AtomicKind" "G_MONTH" "Lcom/example/nano_xpath/nanoxpath/AtomicKind;" (.ref ad_G_MONTH)) (S_HEX_BINARY : Sta Z h0 "com/example/nano_xpath/nanoxpath/AtomicKind" "HEX_BINARY" "Lcom/example/nano_xpath/nanoxpath/AtomicKind;" (.ref ad_HEX_BINARY)) (S_BASE64_BINARY : Sta Z h0 "com/example/nano_xpath/nanoxpath/AtomicKind" "BASE64_BINARY" "Lcom/example/nano_xpath/nanoxpath/AtomicKind;" (.ref ad_BASE64_BINARY)) (S_QNAME : Sta Z h0 "com/example/nano_xpath/nanoxpath/AtomicKind" "QNAME" "Lcom/example/nano_xpath/nanoxpath/AtomicKind;" (.ref ad_QNAME)) (E_NUMBER : Exa Z h0 ad_NUMBER "com/example/nano_xpath/nanoxpath/AtomicKind") (E_STRING : Exa Z h0 ad_STRING "com/example/nano_xpath/nanoxpath/AtomicKind") (E_BOOLEAN : Exa Z h0 ad_BOOLEAN "com/example/nano_xpath/nanoxpath/AtomicKind") (E_DATE_TIME : Exa Z h0 ad_DATE_TIME "com/example/nano_xpath/nanoxpath/AtomicKind") (E_DATE : Exa Z h0 ad_DATE "com/example/nano_xpath/nanoxpath/AtomicKind") (E_TIME : Exa Z h0 ad_TIME "com/example/nano_xpath/nanoxpath/AtomicKind") (E_DURATION : Exa Z h0 ad_DURATION "com/example/nano_xpath/nanoxpath/AtomicKind") (E_YEAR_MONTH_DURATION : Exa Z h0 ad_YEAR_MONTH_DURATION "com/example/nano_xpath/nanoxpath/AtomicKind") (E_DAY_TIME_DURATION : Exa Z h0 ad_DAY_TIME_DURATION "com/example/nano_xpath/nanoxpath/AtomicKind") (E_G_YEAR_MONTH : Exa Z h0 ad_G_YEAR_MONTH "com/example/nano_xpath/nanoxpath/AtomicKind") (E_G_YEAR : Exa Z h0 ad_G_YEAR "com/example/nano_xpath/nanoxpath/AtomicKind") (E_G_MONTH_DAY : Exa Z h0 ad_G_MONTH_DAY "com/example/nano_xpath/nanoxpath/AtomicKind") (E_G_DAY : Exa Z h0 ad_G_DAY "com/example/nano_xpath/nanoxpath/AtomicKind") (E_G_MONTH : Exa Z h0 ad_G_MONTH "com/example/nano_xpath/nanoxpath/AtomicKind") (E_HEX_BINARY : Exa Z h0 ad_HEX_BINARY "com/example/nano_xpath/nanoxpath/AtomicKind") (E_BASE64_BINARY : Exa Z h0 ad_BASE64_BINARY "com/example/nano_xpath/nanoxpath/AtomicKind") (E_QNAME : Exa Z h0 ad_QNAME "com/example/nano_xpath/nanoxpath/AtomicKind") (O_NUMBER : Fld Z h0 ad_NUMBER "java/lang/Enum" "ordinal" "I" (.int (0 : Int32))) (O_STRING : Fld Z h0 ad_STRING "java/lang/Enum" "ordinal" "I" (.int (1 : Int32))) (O_BOOLEAN : Fld Z h0 ad_BOOLEAN "java/lang/Enum" "ordinal" "I" (.int (2 : Int32))) (O_DATE_TIME : Fld Z h0 ad_DATE_TIME "java/lang/Enum" "ordinal" "I" (.int (3 : Int32))) (O_DATE : Fld Z h0 ad_DATE "java/lang/Enum" "ordinal" "I" (.int (4 : Int32))) (O_TIME : Fld Z h0 ad_TIME "java/lang/Enum" "ordinal" "I" (.int (5 : Int32))) (O_DURATION : Fld Z h0 ad_DURATION "java/lang/Enum" "ordinal" "I" (.int (6 : Int32))) (O_YEAR_MONTH_DURATION : Fld Z h0 ad_YEAR_MONTH_DURATION "java/lang/Enum" "ordinal" "I" (.int (7 : Int32))) (O_DAY_TIME_DURATION : Fld Z h0 ad_DAY_TIME_DURATION "java/lang/Enum" "ordinal" "I" (.int (8 : Int32))) (O_G_YEAR_MONTH : Fld Z h0 ad_G_YEAR_MONTH "java/lang/Enum" "ordinal" "I" (.int (9 : Int32))) (O_G_YEAR : Fld Z h0 ad_G_YEAR "java/lang/Enum" "ordinal" "I" (.int (10 : Int32))) (O_G_MONTH_DAY : Fld Z h0 ad_G_MONTH_DAY "java/lang/Enum" "ordinal" "I" (.int (11 : Int32))) (O_G_DAY : Fld Z h0 ad_G_DAY "java/lang/Enum" "ordinal" "I" (.int (12 : Int32))) (O_G_MONTH : Fld Z h0 ad_G_MONTH "java/lang/Enum" "ordinal" "I" (.int (13 : Int32))) (O_HEX_BINARY : Fld Z h0 ad_HEX_BINARY "java/lang/Enum" "ordinal" "I" (.int (14 : Int32))) (O_BASE64_BINARY : Fld Z h0 ad_BASE64_BINARY "java/lang/Enum" "ordinal" "I" (.int (15 : Int32))) (O_QNAME : Fld Z h0 ad_QNAME "java/lang/Enum" "ordinal" "I" (.int (16 : Int32))) :
    MetFree l x (head1 (Jvm.Cond.code x code maxLocals ret :: ws) room_1) (fun a U => a = #[(.int vx)] ∧ Z.Warmed39 U.vm ∧ U.heap = h0) (fun _ _ _ _ _ => True) (fun _ U o U' => ∃ v L, o = .returned v ∧ Q0 Z vx ad_NUMBER ad_STRING ad_BOOLEAN ad_DATE_TIME ad_DATE ad_TIME ad_DURATION ad_YEAR_MONTH_DURATION ad_DAY_TIME_DURATION ad_G_YEAR_MONTH ad_G_YEAR ad_G_MONTH_DAY ad_G_DAY ad_G_MONTH ad_HEX_BINARY ad_BASE64_BINARY ad_QNAME h0 n0 v U'.heap L ∧ FrameEnd U o U' L room_1.cells room_1.slots) := by
  refine MetFree.of_bodySF (plainFor_of_name pn_rm0) hisR ?_
  intro p e s m args below meth c s₁ Bd hml0 hP hK
  obtain ⟨rfl, hZ, hh⟩ := hP
  have hx := Bd.exec
  have hby := Bd.bytes
  have hml : c.maxLocals = 7 := hml0
  have hown : s.vm.findClass "com/example/nano_xpath/nanoxpath/AtomicKindIsDurationPinLaw" = some m.cls := findClass_of_methodNamed Bd.named
  have hnm := (name_of_methodNamed Bd.named Bd.method).1
  have X0 : Stand p l e room_1 s m #[(.int vx)] below meth c s₁ [] 0 0 := Stand.of_body Bd
  have e0 : s₁.heap = h0 := by rw [← hh, Bd.state]; rfl
  have N0 := Fr.nil n0
  have pre0 : ∀ t, Steps p.tables e below (s₁.setTop (mkF m 0 #[.val (.int vx), .unset, .unset, .unset, .unset, .unset, .unset] [])) t → Steps p.tables e below (s₁.setTop (entryFrame m #[(.int vx)] maxLocals)) t := fun t k => castTop (ef_rm0 m vx) k
  obtain ⟨T1, h1, k1, X1, e1, E1, A1, O1, st1⟩ := newR X0 hx hZ hown (hw _ (List.mem_of_getElem? (i := 0) rfl)) (hw _ (List.mem_of_getElem? (i := 1) rfl)) e0 (g := (mkF m 2 #[.val (.int vx), .unset, .unset, .unset, .unset, .unset, .unset] [(.int (17 : Int32))])) rfl (hb hby at_2) rfl (by decide) (cap := 17) (by decide) (by decide) (by decide) (by decide)
  obtain ⟨b1, g1⟩ : ∃ z, z = h0.size := ⟨_, rfl⟩
  rw [← g1] at A1 st1
  have g_b1 : n0 ≤ b1 := Nat.le_trans Z0 (Nat.le_of_eq g1.symm)
  have Zp2 : n0 ≤ h1.size := Nat.le_trans Z0 E1.1
  have V1 : Arv Z h1 b1 k1 (.object "com/example/nano_xpath/nanoxpath/AtomicKind") (17 : Int32) [.null, .null, .null, .null, .null, .null, .null, .null, .null, .null, .null, .null, .null, .null, .null, .null, .null] .null := (Arv.new A1 (by decide)).pad (pad_rep [] .null 17)
  have Fc3 := (Sta.ext E1 S_NUMBER)
  obtain ⟨T4, X4, e4, st4⟩ := getS2 X1 hx hZ hown (host := "") (Or.inl (hw _ (List.mem_of_getElem? (i := 2) rfl))) Via.refl e1 Fc3 (g := (mkF m 7 #[.val (.int vx), .unset, .unset, .unset, .unset, .unset, .unset] [(.int (0 : Int32)), (.ref b1), (.ref b1)])) rfl (hb hby at_7)
  obtain ⟨cl5, Ar5, q5, S5, M5, H5, G5⟩ := V1
  have hin5 : ¬ ((0 : Int32) < 0 ∨ cl5.slots.size ≤ ((0 : Int32)).toNatClampNeg) := inb_of S5 ⟨by decide, by decide⟩
  have Fc6 := (Exa.ext E1 E_NUMBER)
  obtain ⟨T7, h7, X7, e7, W7, st7⟩ := stR X4 hx hZ e4 Ar5 (j := (0 : Int32)) hin5 rfl (Sto.ofV Ar5 q5 O1 (Ins.self Fc6)) (g := (mkF m 10 #[.val (.int vx), .unset, .unset, .unset, .unset, .unset, .unset] [(.ref ad_NUMBER), (.int (0 : Int32)), (.ref b1), (.ref b1)])) rfl rfl (hb hby at_10)
  have N7 := Fr.snoc X7 N0 g_b1
  have V7 : Arv Z h7 b1 k1 (.object "com/example/nano_xpath/nanoxpath/AtomicKind") (17 : Int32) [(.ref ad_NUMBER), .null, .null, .null, .null, .null, .null, .null, .null, .null, .null, .null, .null, .null, .null, .null, .null] .null := Arv.set Ar5 q5 S5 M5 H5 G5 rfl W7 0 rfl (Nat.le_of_ble_eq_true rfl)
  have Zp8 : n0 ≤ h7.size := Nat.le_trans Zp2 (Nat.le_of_eq (Wr.size W7).symm)
  have Fc9 := (Sta.wr W7 (Sta.ext E1 S_STRING))
  obtain ⟨T10, X10, e10, st10⟩ := getS2 X7 hx hZ hown (host := "") (Or.inl (hw _ (List.mem_of_getElem? (i := 6) rfl))) Via.refl e7 Fc9 (g := (mkF m 13 #[.val (.int vx), .unset, .unset, .unset, .unset, .unset, .unset] [(.int (1 : Int32)), (.ref b1), (.ref b1)])) rfl (hb hby at_13)
  obtain ⟨cl11, Ar11, q11, S11, M11, H11, G11⟩ := V7
  have hin11 : ¬ ((1 : Int32) < 0 ∨ cl11.slots.size ≤ ((1 : Int32)).toNatClampNeg) := inb_of S11 ⟨by decide, by decide⟩
  have Fc12 := (Exa.wr W7 (Exa.ext E1 E_STRING))
  obtain ⟨T13, h13, X13, e13, W13, st13⟩ := stR X10 hx hZ e10 Ar11 (j := (1 : Int32)) hin11 rfl (Sto.ofV Ar11 q11 O1 (Ins.self Fc12)) (g := (mkF m 16 #[.val (.int vx), .unset, .unset, .unset, .unset, .unset, .unset] [(.ref ad_STRING), (.int (1 : Int32)), (.ref b1), (.ref b1)])) rfl rfl (hb hby at_16)
  have N13 := Fr.snoc X13 N7 g_b1
  have V13 : Arv Z h13 b1 k1 (.object "com/example/nano_xpath/nanoxpath/AtomicKind") (17 : Int32) [(.ref ad_NUMBER), (.ref ad_STRING), .null, .null, .null, .null, .null, .null, .null, .null, .null, .null, .null, .null, .null, .null, .null] .null := Arv.set Ar11 q11 S11 M11 H11 G11 rfl W13 1 rfl (Nat.le_of_ble_eq_true rfl)
  have Zp14 : n0 ≤ h13.size := Nat.le_trans Zp8 (Nat.le_of_eq (Wr.size W13).symm)
  have Fc15 := (Sta.wr W13 (Sta.wr W7 (Sta.ext E1 S_BOOLEAN)))
  obtain ⟨T16, X16, e16, st16⟩ := getS2 X13 hx hZ hown (host := "") (Or.inl (hw _ (List.mem_of_getElem? (i := 8) rfl))) Via.refl e13 Fc15 (g := (mkF m 19 #[.val (.int vx), .unset, .unset, .unset, .unset, .unset, .unset] [(.int (2 : Int32)), (.ref b1), (.ref b1)])) rfl (hb hby at_19)
  obtain ⟨cl17, Ar17, q17, S17, M17, H17, G17⟩ := V13
  have hin17 : ¬ ((2 : Int32) < 0 ∨ cl17.slots.size ≤ ((2 : Int32)).toNatClampNeg) := inb_of S17 ⟨by decide, by decide⟩
  have Fc18 := (Exa.wr W13 (Exa.wr W7 (Exa.ext E1 E_BOOLEAN)))
  obtain ⟨T19, h19, X19, e19, W19, st19⟩ := stR X16 hx hZ e16 Ar17 (j := (2 : Int32)) hin17 rfl (Sto.ofV Ar17 q17 O1 (Ins.self Fc18)) (g := (mkF m 22 #[.val (.int vx), .unset, .unset, .unset, .unset, .unset, .unset] [(.ref ad_BOOLEAN), (.int (2 : Int32)), (.ref b1), (.ref b1)])) rfl rfl (hb hby at_22)
  have N19 := Fr.snoc X19 N13 g_b1
  have V19 : Arv Z h19 b1 k1 (.object "com/example/nano_xpath/nanoxpath/AtomicKind") (17 : Int32) [(.ref ad_NUMBER), (.ref ad_STRING), (.ref ad_BOOLEAN), .null, .null, .null, .null, .null, .null, .null, .null, .null, .null, .null, .null, .null, .null] .null := Arv.set Ar17 q17 S17 M17 H17 G17 rfl W19 2 rfl (Nat.le_of_ble_eq_true rfl)
  have Zp20 : n0 ≤ h19.size := Nat.le_trans Zp14 (Nat.le_of_eq (Wr.size W19).symm)
  have Fc21 := (Sta.wr W19 (Sta.wr W13 (Sta.wr W7 (Sta.ext E1 S_DATE_TIME))))
  obtain ⟨T22, X22, e22, st22⟩ := getS2 X19 hx hZ hown (host := "") (Or.inl (hw _ (List.mem_of_getElem? (i := 10) rfl))) Via.refl e19 Fc21 (g := (mkF m 25 #[.val (.int vx), .unset, .unset, .unset, .unset, .unset, .unset] [(.int (3 : Int32)), (.ref b1), (.ref b1)])) rfl (hb hby at_25)
  obtain ⟨cl23, Ar23, q23, S23, M23, H23, G23⟩ := V19
  have hin23 : ¬ ((3 : Int32) < 0 ∨ cl23.slots.size ≤ ((3 : Int32)).toNatClampNeg) := inb_of S23 ⟨by decide, by decide⟩
  have Fc24 := (Exa.wr W19 (Exa.wr W13 (Exa.wr W7 (Exa.ext E1 E_DATE_TIME))))
  obtain ⟨T25, h25, X25, e25, W25, st25⟩ := stR X22 hx hZ e22 Ar23 (j := (3 : Int32)) hin23 rfl (Sto.ofV Ar23 q23 O1 (Ins.self Fc24)) (g := (mkF m 28 #[.val (.int vx), .unset, .unset, .unset, .unset, .unset, .unset] [(.ref ad_DATE_TIME), (.int (3 : Int32)), (.ref b1), (.ref b1)])) rfl rfl (hb hby at_28)
  have N25 := Fr.snoc X25 N19 g_b1
  have V25 : Arv Z h25 b1 k1 (.object "com/example/nano_xpath/nanoxpath/AtomicKind") (17 : Int32) [(.ref ad_NUMBER), (.ref ad_STRING), (.ref ad_BOOLEAN), (.ref ad_DATE_TIME), .null, .null, .null, .null, .null, .null, .null, .null, .null, .null, .null, .null, .null] .null := Arv.set Ar23 q23 S23 M23 H23 G23 rfl W25 3 rfl (Nat.le_of_ble_eq_true rfl)
  have Zp26 : n0 ≤ h25.size := Nat.le_trans Zp20 (Nat.le_of_eq (Wr.size W25).symm)
  have Fc27 := (Sta.wr W25 (Sta.wr W19 (Sta.wr W13 (Sta.wr W7 (Sta.ext E1 S_DATE)))))
  obtain ⟨T28, X28, e28, st28⟩ := getS2 X25 hx hZ hown (host := "") (Or.inl (hw _ (List.mem_of_getElem? (i := 12) rfl))) Via.refl e25 Fc27 (g := (mkF m 31 #[.val (.int vx), .unset, .unset, .unset, .unset, .unset, .unset] [(.int (4 : Int32)), (.ref b1), (.ref b1)])) rfl (hb hby at_31)
  obtain ⟨cl29, Ar29, q29, S29, M29, H29, G29⟩ := V25
  have hin29 : ¬ ((4 : Int32) < 0 ∨ cl29.slots.size ≤ ((4 : Int32)).toNatClampNeg) := inb_of S29 ⟨by decide, by decide⟩
  have Fc30 := (Exa.wr W25 (Exa.wr W19 (Exa.wr W13 (Exa.wr W7 (Exa.ext E1 E_DATE)))))
  obtain ⟨T31, h31, X31, e31, W31, st31⟩ := stR X28 hx hZ e28 Ar29 (j := (4 : Int32)) hin29 rfl (Sto.ofV Ar29 q29 O1 (Ins.self Fc30)) (g := (mkF m 34 #[.val (.int vx), .unset, .unset, .unset, .unset, .unset, .unset] [(.ref ad_DATE), (.int (4 : Int32)), (.ref b1), (.ref b1)])) rfl rfl (hb hby at_34)
  have N31 := Fr.snoc X31 N25 g_b1
  have V31 : Arv Z h31 b1 k1 (.object "com/example/nano_xpath/nanoxpath/AtomicKind") (17 : Int32) [(.ref ad_NUMBER), (.ref ad_STRING), (.ref ad_BOOLEAN), (.ref ad_DATE_TIME), (.ref ad_DATE), .null, .null, .null, .null, .null, .null, .null, .null, .null, .null, .null, .null] .null := Arv.set Ar29 q29 S29 M29 H29 G29 rfl W31 4 rfl (Nat.le_of_ble_eq_true rfl)
  have Zp32 : n0 ≤ h31.size := Nat.le_trans Zp26 (Nat.le_of_eq (Wr.size W31).symm)
  have Fc33 := (Sta.wr W31 (Sta.wr W25 (Sta.wr W19 (Sta.wr W13 (Sta.wr W7 (Sta.ext E1 S_TIME))))))
  obtain ⟨T34, X34, e34, st34⟩ := getS2 X31 hx hZ hown (host := "") (Or.inl (hw _ (List.mem_of_getElem? (i := 14) rfl))) Via.refl e31 Fc33 (g := (mkF m 37 #[.val (.int vx), .unset, .unset, .unset, .unset, .unset, .unset] [(.int (5 : Int32)), (.ref b1), (.ref b1)])) rfl (hb hby at_37)
  obtain ⟨cl35, Ar35, q35, S35, M35, H35, G35⟩ := V31
  have hin35 : ¬ ((5 : Int32) < 0 ∨ cl35.slots.size ≤ ((5 : Int32)).toNatClampNeg) := inb_of S35 ⟨by decide, by decide⟩
  have Fc36 := (Exa.wr W31 (Exa.wr W25 (Exa.wr W19 (Exa.wr W13 (Exa.wr W7 (Exa.ext E1 E_TIME))))))
  obtain ⟨T37, h37, X37, e37, W37, st37⟩ := stR X34 hx hZ e34 Ar35 (j := (5 : Int32)) hin35 rfl (Sto.ofV Ar35 q35 O1 (Ins.self Fc36)) (g := (mkF m 40 #[.val (.int vx), .unset, .unset, .unset, .unset, .unset, .unset] [(.ref ad_TIME), (.int (5 : Int32)), (.ref b1), (.ref b1)])) rfl rfl (hb hby at_40)
  have N37 := Fr.snoc X37 N31 g_b1
  have V37 : Arv Z h37 b1 k1 (.object "com/example/nano_xpath/nanoxpath/AtomicKind") (17 : Int32) [(.ref ad_NUMBER), (.ref ad_STRING), (.ref ad_BOOLEAN), (.ref ad_DATE_TIME), (.ref ad_DATE), (.ref ad_TIME), .null, .null, .null, .null, .null, .null, .null, .null, .null, .null, .null] .null := Arv.set Ar35 q35 S35 M35 H35 G35 rfl W37 5 rfl (Nat.le_of_ble_eq_true rfl)
  have Zp38 : n0 ≤ h37.size := Nat.le_trans Zp32 (Nat.le_of_eq (Wr.size W37).symm)
  have Fc39 := (Sta.wr W37 (Sta.wr W31 (Sta.wr W25 (Sta.wr W19 (Sta.wr W13 (Sta.wr W7 (Sta.ext E1 S_DURATION)))))))
  obtain ⟨T40, X40, e40, st40⟩ := getS2 X37 hx hZ hown (host := "") (Or.inl (hw _ (List.mem_of_getElem? (i := 16) rfl))) Via.refl e37 Fc39 (g := (mkF m 44 #[.val (.int vx), .unset, .unset, .unset, .unset, .unset, .unset] [(.int (6 : Int32)), (.ref b1), (.ref b1)])) rfl (hb hby at_44)
  obtain ⟨cl41, Ar41, q41, S41, M41, H41, G41⟩ := V37
  have hin41 : ¬ ((6 : Int32) < 0 ∨ cl41.slots.size ≤ ((6 : Int32)).toNatClampNeg) := inb_of S41 ⟨by decide, by decide⟩
  have Fc42 := (Exa.wr W37 (Exa.wr W31 (Exa.wr W25 (Exa.wr W19 (Exa.wr W13 (Exa.wr W7 (Exa.ext E1 E_DURATION)))))))
  obtain ⟨T43, h43, X43, e43, W43, st43⟩ := stR X40 hx hZ e40 Ar41 (j := (6 : Int32)) hin41 rfl (Sto.ofV Ar41 q41 O1 (Ins.self Fc42)) (g := (mkF m 47 #[.val (.int vx), .unset, .unset, .unset, .unset, .unset, .unset] [(.ref ad_DURATION), (.int (6 : Int32)), (.ref b1), (.ref b1)])) rfl rfl (hb hby at_47)
  have N43 := Fr.snoc X43 N37 g_b1
  have V43 : Arv Z h43 b1 k1 (.object "com/example/nano_xpath/nanoxpath/AtomicKind") (17 : Int32) [(.ref ad_NUMBER), (.ref ad_STRING), (.ref ad_BOOLEAN), (.ref ad_DATE_TIME), (.ref ad_DATE), (.ref ad_TIME), (.ref ad_DURATION), .null, .null, .null, .null, .null, .null, .null, .null, .null, .null] .null := Arv.set Ar41 q41 S41 M41 H41 G41 rfl W43 6 rfl (Nat.le_of_ble_eq_true rfl)
  have Zp44 : n0 ≤ h43.size := Nat.le_trans Zp38 (Nat.le_of_eq (Wr.size W43).symm)
  have Fc45 := (Sta.wr W43 (Sta.wr W37 (Sta.wr W31 (Sta.wr W25 (Sta.wr W19 (Sta.wr W13 (Sta.wr W7 (Sta.ext E1 S_YEAR_MONTH_DURATION))))))))
  obtain ⟨T46, X46, e46, st46⟩ := getS2 X43 hx hZ hown (host := "") (Or.inl (hw _ (List.mem_of_getElem? (i := 18) rfl))) Via.refl e43 Fc45 (g := (mkF m 51 #[.val (.int vx), .unset, .unset, .unset, .unset, .unset, .unset] [(.int (7 : Int32)), (.ref b1), (.ref b1)])) rfl (hb hby at_51)
  obtain ⟨cl47, Ar47, q47, S47, M47, H47, G47⟩ := V43
  have hin47 : ¬ ((7 : Int32) < 0 ∨ cl47.slots.size ≤ ((7 : Int32)).toNatClampNeg) := inb_of S47 ⟨by decide, by decide⟩
  have Fc48 := (Exa.wr W43 (Exa.wr W37 (Exa.wr W31 (Exa.wr W25 (Exa.wr W19 (Exa.wr W13 (Exa.wr W7 (Exa.ext E1 E_YEAR_MONTH_DURATION))))))))
  obtain ⟨T49, h49, X49, e49, W49, st49⟩ := stR X46 hx hZ e46 Ar47 (j := (7 : Int32)) hin47 rfl (Sto.ofV Ar47 q47 O1 (Ins.self Fc48)) (g := (mkF m 54 #[.val (.int vx), .unset, .unset, .unset, .unset, .unset, .unset] [(.ref ad_YEAR_MONTH_DURATION), (.int (7 : Int32)), (.ref b1), (.ref b1)])) rfl rfl (hb hby at_54)
  have N49 := Fr.snoc X49 N43 g_b1
  have V49 : Arv Z h49 b1 k1 (.object "com/example/nano_xpath/nanoxpath/AtomicKind") (17 : Int32) [(.ref ad_NUMBER), (.ref ad_STRING), (.ref ad_BOOLEAN), (.ref ad_DATE_TIME), (.ref ad_DATE), (.ref ad_TIME), (.ref ad_DURATION), (.ref ad_YEAR_MONTH_DURATION), .null, .null, .null, .null, .null, .null, .null, .null, .null] .null := Arv.set Ar47 q47 S47 M47 H47 G47 rfl W49 7 rfl (Nat.le_of_ble_eq_true rfl)
  have Zp50 : n0 ≤ h49.size := Nat.le_trans Zp44 (Nat.le_of_eq (Wr.size W49).symm)
  have Fc51 := (Sta.wr W49 (Sta.wr W43 (Sta.wr W37 (Sta.wr W31 (Sta.wr W25 (Sta.wr W19 (Sta.wr W13 (Sta.wr W7 (Sta.ext E1 S_DAY_TIME_DURATION)))))))))
  obtain ⟨T52, X52, e52, st52⟩ := getS2 X49 hx hZ hown (host := "") (Or.inl (hw _ (List.mem_of_getElem? (i := 20) rfl))) Via.refl e49 Fc51 (g := (mkF m 58 #[.val (.int vx), .unset, .unset, .unset, .unset, .unset, .unset] [(.int (8 : Int32)), (.ref b1), (.ref b1)])) rfl (hb hby at_58)
  obtain ⟨cl53, Ar53, q53, S53, M53, H53, G53⟩ := V49
  have hin53 : ¬ ((8 : Int32) < 0 ∨ cl53.slots.size ≤ ((8 : Int32)).toNatClampNeg) := inb_of S53 ⟨by decide, by decide⟩
  have Fc54 := (Exa.wr W49 (Exa.wr W43 (Exa.wr W37 (Exa.wr W31 (Exa.wr W25 (Exa.wr W19 (Exa.wr W13 (Exa.wr W7 (Exa.ext E1 E_DAY_TIME_DURATION)))))))))
  obtain ⟨T55, h55, X55, e55, W55, st55⟩ := stR X52 hx hZ e52 Ar53 (j := (8 : Int32)) hin53 rfl (Sto.ofV Ar53 q53 O1 (Ins.self Fc54)) (g := (mkF m 61 #[.val (.int vx), .unset, .unset, .unset, .unset, .unset, .unset] [(.ref ad_DAY_TIME_DURATION), (.int (8 : Int32)), (.ref b1), (.ref b1)])) rfl rfl (hb hby at_61)
  have N55 := Fr.snoc X55 N49 g_b1
  have V55 : Arv Z h55 b1 k1 (.object "com/example/nano_xpath/nanoxpath/AtomicKind") (17 : Int32) [(.ref ad_NUMBER), (.ref ad_STRING), (.ref ad_BOOLEAN), (.ref ad_DATE_TIME), (.ref ad_DATE), (.ref ad_TIME), (.ref ad_DURATION), (.ref ad_YEAR_MONTH_DURATION), (.ref ad_DAY_TIME_DURATION), .null, .null, .null, .null, .null, .null, .null, .null] .null := Arv.set Ar53 q53 S53 M53 H53 G53 rfl W55 8 rfl (Nat.le_of_ble_eq_true rfl)
  have Zp56 : n0 ≤ h55.size := Nat.le_trans Zp50 (Nat.le_of_eq (Wr.size W55).symm)
  have Fc57 := (Sta.wr W55 (Sta.wr W49 (Sta.wr W43 (Sta.wr W37 (Sta.wr W31 (Sta.wr W25 (Sta.wr W19 (Sta.wr W13 (Sta.wr W7 (Sta.ext E1 S_G_YEAR_MONTH))))))))))
  obtain ⟨T58, X58, e58, st58⟩ := getS2 X55 hx hZ hown (host := "") (Or.inl (hw _ (List.mem_of_getElem? (i := 22) rfl))) Via.refl e55 Fc57 (g := (mkF m 65 #[.val (.int vx), .unset, .unset, .unset, .unset, .unset, .unset] [(.int (9 : Int32)), (.ref b1), (.ref b1)])) rfl (hb hby at_65)
  obtain ⟨cl59, Ar59, q59, S59, M59, H59, G59⟩ := V55
  have hin59 : ¬ ((9 : Int32) < 0 ∨ cl59.slots.size ≤ ((9 : Int32)).toNatClampNeg) := inb_of S59 ⟨by decide, by decide⟩
  have Fc60 := (Exa.wr W55 (Exa.wr W49 (Exa.wr W43 (Exa.wr W37 (Exa.wr W31 (Exa.wr W25 (Exa.wr W19 (Exa.wr W13 (Exa.wr W7 (Exa.ext E1 E_G_YEAR_MONTH))))))))))
  obtain ⟨T61, h61, X61, e61, W61, st61⟩ := stR X58 hx hZ e58 Ar59 (j := (9 : Int32)) hin59 rfl (Sto.ofV Ar59 q59 O1 (Ins.self Fc60)) (g := (mkF m 68 #[.val (.int vx), .unset, .unset, .unset, .unset, .unset, .unset] [(.ref ad_G_YEAR_MONTH), (.int (9 : Int32)), (.ref b1), (.ref b1)])) rfl rfl (hb hby at_68)
  have N61 := Fr.snoc X61 N55 g_b1
  have V61 : Arv Z h61 b1 k1 (.object "com/example/nano_xpath/nanoxpath/AtomicKind") (17 : Int32) [(.ref ad_NUMBER), (.ref ad_STRING), (.ref ad_BOOLEAN), (.ref ad_DATE_TIME), (.ref ad_DATE), (.ref ad_TIME), (.ref ad_DURATION), (.ref ad_YEAR_MONTH_DURATION), (.ref ad_DAY_TIME_DURATION), (.ref ad_G_YEAR_MONTH), .null, .null, .null, .null, .null, .null, .null] .null := Arv.set Ar59 q59 S59 M59 H59 G59 rfl W61 9 rfl (Nat.le_of_ble_eq_true rfl)
  have Zp62 : n0 ≤ h61.size := Nat.le_trans Zp56 (Nat.le_of_eq (Wr.size W61).symm)
  have Fc63 := (Sta.wr W61 (Sta.wr W55 (Sta.wr W49 (Sta.wr W43 (Sta.wr W37 (Sta.wr W31 (Sta.wr W25 (Sta.wr W19 (Sta.wr W13 (Sta.wr W7 (Sta.ext E1 S_G_YEAR)))))))))))
  obtain ⟨T64, X64, e64, st64⟩ := getS2 X61 hx hZ hown (host := "") (Or.inl (hw _ (List.mem_of_getElem? (i := 24) rfl))) Via.refl e61 Fc63 (g := (mkF m 72 #[.val (.int vx), .unset, .unset, .unset, .unset, .unset, .unset] [(.int (10 : Int32)), (.ref b1), (.ref b1)])) rfl (hb hby at_72)
  obtain ⟨cl65, Ar65, q65, S65, M65, H65, G65⟩ := V61
  have hin65 : ¬ ((10 : Int32) < 0 ∨ cl65.slots.size ≤ ((10 : Int32)).toNatClampNeg) := inb_of S65 ⟨by decide, by decide⟩
  have Fc66 := (Exa.wr W61 (Exa.wr W55 (Exa.wr W49 (Exa.wr W43 (Exa.wr W37 (Exa.wr W31 (Exa.wr W25 (Exa.wr W19 (Exa.wr W13 (Exa.wr W7 (Exa.ext E1 E_G_YEAR)))))))))))
  obtain ⟨T67, h67, X67, e67, W67, st67⟩ := stR X64 hx hZ e64 Ar65 (j := (10 : Int32)) hin65 rfl (Sto.ofV Ar65 q65 O1 (Ins.self Fc66)) (g := (mkF m 75 #[.val (.int vx), .unset, .unset, .unset, .unset, .unset, .unset] [(.ref ad_G_YEAR), (.int (10 : Int32)), (.ref b1), (.ref b1)])) rfl rfl (hb hby at_75)
  have N67 := Fr.snoc X67 N61 g_b1
  have V67 : Arv Z h67 b1 k1 (.object "com/example/nano_xpath/nanoxpath/AtomicKind") (17 : Int32) [(.ref ad_NUMBER), (.ref ad_STRING), (.ref ad_BOOLEAN), (.ref ad_DATE_TIME), (.ref ad_DATE), (.ref ad_TIME), (.ref ad_DURATION), (.ref ad_YEAR_MONTH_DURATION), (.ref ad_DAY_TIME_DURATION), (.ref ad_G_YEAR_MONTH), (.ref ad_G_YEAR), .null, .null, .null, .null, .null, .null] .null := Arv.set Ar65 q65 S65 M65 H65 G65 rfl W67 10 rfl (Nat.le_of_ble_eq_true rfl)
  have Zp68 : n0 ≤ h67.size := Nat.le_trans Zp62 (Nat.le_of_eq (Wr.size W67).symm)
  have Fc69 := (Sta.wr W67 (Sta.wr W61 (Sta.wr W55 (Sta.wr W49 (Sta.wr W43 (Sta.wr W37 (Sta.wr W31 (Sta.wr W25 (Sta.wr W19 (Sta.wr W13 (Sta.wr W7 (Sta.ext E1 S_G_MONTH_DAY))))))))))))
  obtain ⟨T70, X70, e70, st70⟩ := getS2 X67 hx hZ hown (host := "") (Or.inl (hw _ (List.mem_of_getElem? (i := 26) rfl))) Via.refl e67 Fc69 (g := (mkF m 79 #[.val (.int vx), .unset, .unset, .unset, .unset, .unset, .unset] [(.int (11 : Int32)), (.ref b1), (.ref b1)])) rfl (hb hby at_79)
  obtain ⟨cl71, Ar71, q71, S71, M71, H71, G71⟩ := V67
  have hin71 : ¬ ((11 : Int32) < 0 ∨ cl71.slots.size ≤ ((11 : Int32)).toNatClampNeg) := inb_of S71 ⟨by decide, by decide⟩
  have Fc72 := (Exa.wr W67 (Exa.wr W61 (Exa.wr W55 (Exa.wr W49 (Exa.wr W43 (Exa.wr W37 (Exa.wr W31 (Exa.wr W25 (Exa.wr W19 (Exa.wr W13 (Exa.wr W7 (Exa.ext E1 E_G_MONTH_DAY))))))))))))
  obtain ⟨T73, h73, X73, e73, W73, st73⟩ := stR X70 hx hZ e70 Ar71 (j := (11 : Int32)) hin71 rfl (Sto.ofV Ar71 q71 O1 (Ins.self Fc72)) (g := (mkF m 82 #[.val (.int vx), .unset, .unset, .unset, .unset, .unset, .unset] [(.ref ad_G_MONTH_DAY), (.int (11 : Int32)), (.ref b1), (.ref b1)])) rfl rfl (hb hby at_82)
  have N73 := Fr.snoc X73 N67 g_b1
  have V73 : Arv Z h73 b1 k1 (.object "com/example/nano_xpath/nanoxpath/AtomicKind") (17 : Int32) [(.ref ad_NUMBER), (.ref ad_STRING), (.ref ad_BOOLEAN), (.ref ad_DATE_TIME), (.ref ad_DATE), (.ref ad_TIME), (.ref ad_DURATION), (.ref ad_YEAR_MONTH_DURATION), (.ref ad_DAY_TIME_DURATION), (.ref ad_G_YEAR_MONTH), (.ref ad_G_YEAR), (.ref ad_G_MONTH_DAY), .null, .null, .null, .null, .null] .null := Arv.set Ar71 q71 S71 M71 H71 G71 rfl W73 11 rfl (Nat.le_of_ble_eq_true rfl)
  have Zp74 : n0 ≤ h73.size := Nat.le_trans Zp68 (Nat.le_of_eq (Wr.size W73).symm)
  have Fc75 := (Sta.wr W73 (Sta.wr W67 (Sta.wr W61 (Sta.wr W55 (Sta.wr W49 (Sta.wr W43 (Sta.wr W37 (Sta.wr W31 (Sta.wr W25 (Sta.wr W19 (Sta.wr W13 (Sta.wr W7 (Sta.ext E1 S_G_DAY)))))))))))))
  obtain ⟨T76, X76, e76, st76⟩ := getS2 X73 hx hZ hown (host := "") (Or.inl (hw _ (List.mem_of_getElem? (i := 28) rfl))) Via.refl e73 Fc75 (g := (mkF m 86 #[.val (.int vx), .unset, .unset, .unset, .unset, .unset, .unset] [(.int (12 : Int32)), (.ref b1), (.ref b1)])) rfl (hb hby at_86)
  obtain ⟨cl77, Ar77, q77, S77, M77, H77, G77⟩ := V73
  have hin77 : ¬ ((12 : Int32) < 0 ∨ cl77.slots.size ≤ ((12 : Int32)).toNatClampNeg) := inb_of S77 ⟨by decide, by decide⟩
  have Fc78 := (Exa.wr W73 (Exa.wr W67 (Exa.wr W61 (Exa.wr W55 (Exa.wr W49 (Exa.wr W43 (Exa.wr W37 (Exa.wr W31 (Exa.wr W25 (Exa.wr W19 (Exa.wr W13 (Exa.wr W7 (Exa.ext E1 E_G_DAY)))))))))))))
  obtain ⟨T79, h79, X79, e79, W79, st79⟩ := stR X76 hx hZ e76 Ar77 (j := (12 : Int32)) hin77 rfl (Sto.ofV Ar77 q77 O1 (Ins.self Fc78)) (g := (mkF m 89 #[.val (.int vx), .unset, .unset, .unset, .unset, .unset, .unset] [(.ref ad_G_DAY), (.int (12 : Int32)), (.ref b1), (.ref b1)])) rfl rfl (hb hby at_89)
  have N79 := Fr.snoc X79 N73 g_b1
  have V79 : Arv Z h79 b1 k1 (.object "com/example/nano_xpath/nanoxpath/AtomicKind") (17 : Int32) [(.ref ad_NUMBER), (.ref ad_STRING), (.ref ad_BOOLEAN), (.ref ad_DATE_TIME), (.ref ad_DATE), (.ref ad_TIME), (.ref ad_DURATION), (.ref ad_YEAR_MONTH_DURATION), (.ref ad_DAY_TIME_DURATION), (.ref ad_G_YEAR_MONTH), (.ref ad_G_YEAR), (.ref ad_G_MONTH_DAY), (.ref ad_G_DAY), .null, .null, .null, .null] .null := Arv.set Ar77 q77 S77 M77 H77 G77 rfl W79 12 rfl (Nat.le_of_ble_eq_true rfl)
  have Zp80 : n0 ≤ h79.size := Nat.le_trans Zp74 (Nat.le_of_eq (Wr.size W79).symm)
  have Fc81 := (Sta.wr W79 (Sta.wr W73 (Sta.wr W67 (Sta.wr W61 (Sta.wr W55 (Sta.wr W49 (Sta.wr W43 (Sta.wr W37 (Sta.wr W31 (Sta.wr W25 (Sta.wr W19 (Sta.wr W13 (Sta.wr W7 (Sta.ext E1 S_G_MONTH))))))))))))))
  obtain ⟨T82, X82, e82, st82⟩ := getS2 X79 hx hZ hown (host := "") (Or.inl (hw _ (List.mem_of_getElem? (i := 30) rfl))) Via.refl e79 Fc81 (g := (mkF m 93 #[.val (.int vx), .unset, .unset, .unset, .unset, .unset, .unset] [(.int (13 : Int32)), (.ref b1), (.ref b1)])) rfl (hb hby at_93)
  obtain ⟨cl83, Ar83, q83, S83, M83, H83, G83⟩ := V79
  have hin83 : ¬ ((13 : Int32) < 0 ∨ cl83.slots.size ≤ ((13 : Int32)).toNatClampNeg) := inb_of S83 ⟨by decide, by decide⟩
  have Fc84 := (Exa.wr W79 (Exa.wr W73 (Exa.wr W67 (Exa.wr W61 (Exa.wr W55 (Exa.wr W49 (Exa.wr W43 (Exa.wr W37 (Exa.wr W31 (Exa.wr W25 (Exa.wr W19 (Exa.wr W13 (Exa.wr W7 (Exa.ext E1 E_G_MONTH))))))))))))))
  obtain ⟨T85, h85, X85, e85, W85, st85⟩ := stR X82 hx hZ e82 Ar83 (j := (13 : Int32)) hin83 rfl (Sto.ofV Ar83 q83 O1 (Ins.self Fc84)) (g := (mkF m 96 #[.val (.int vx), .unset, .unset, .unset, .unset, .unset, .unset] [(.ref ad_G_MONTH), (.int (13 : Int32)), (.ref b1), (.ref b1)])) rfl rfl (hb hby at_96)
  have N85 := Fr.snoc X85 N79 g_b1
  have V85 : Arv Z h85 b1 k1 (.object "com/example/nano_xpath/nanoxpath/AtomicKind") (17 : Int32) [(.ref ad_NUMBER), (.ref ad_STRING), (.ref ad_BOOLEAN), (.ref ad_DATE_TIME), (.ref ad_DATE), (.ref ad_TIME), (.ref ad_DURATION), (.ref ad_YEAR_MONTH_DURATION), (.ref ad_DAY_TIME_DURATION), (.ref ad_G_YEAR_MONTH), (.ref ad_G_YEAR), (.ref ad_G_MONTH_DAY), (.ref ad_G_DAY), (.ref ad_G_MONTH), .null, .null, .null] .null := Arv.set Ar83 q83 S83 M83 H83 G83 rfl W85 13 rfl (Nat.le_of_ble_eq_true rfl)
  have Zp86 : n0 ≤ h85.size := Nat.le_trans Zp80 (Nat.le_of_eq (Wr.size W85).symm)
  have Fc87 := (Sta.wr W85 (Sta.wr W79 (Sta.wr W73 (Sta.wr W67 (Sta.wr W61 (Sta.wr W55 (Sta.wr W49 (Sta.wr W43 (Sta.wr W37 (Sta.wr W31 (Sta.wr W25 (Sta.wr W19 (Sta.wr W13 (Sta.wr W7 (Sta.ext E1 S_HEX_BINARY)))))))))))))))
  obtain ⟨T88, X88, e88, st88⟩ := getS2 X85 hx hZ hown (host := "") (Or.inl (hw _ (List.mem_of_getElem? (i := 32) rfl))) Via.refl e85 Fc87 (g := (mkF m 100 #[.val (.int vx), .unset, .unset, .unset, .unset, .unset, .unset] [(.int (14 : Int32)), (.ref b1), (.ref b1)])) rfl (hb hby at_100)
  obtain ⟨cl89, Ar89, q89, S89, M89, H89, G89⟩ := V85
  have hin89 : ¬ ((14 : Int32) < 0 ∨ cl89.slots.size ≤ ((14 : Int32)).toNatClampNeg) := inb_of S89 ⟨by decide, by decide⟩
  have Fc90 := (Exa.wr W85 (Exa.wr W79 (Exa.wr W73 (Exa.wr W67 (Exa.wr W61 (Exa.wr W55 (Exa.wr W49 (Exa.wr W43 (Exa.wr W37 (Exa.wr W31 (Exa.wr W25 (Exa.wr W19 (Exa.wr W13 (Exa.wr W7 (Exa.ext E1 E_HEX_BINARY)))))))))))))))
  obtain ⟨T91, h91, X91, e91, W91, st91⟩ := stR X88 hx hZ e88 Ar89 (j := (14 : Int32)) hin89 rfl (Sto.ofV Ar89 q89 O1 (Ins.self Fc90)) (g := (mkF m 103 #[.val (.int vx), .unset, .unset, .unset, .unset, .unset, .unset] [(.ref ad_HEX_BINARY), (.int (14 : Int32)), (.ref b1), (.ref b1)])) rfl rfl (hb hby at_103)
  have N91 := Fr.snoc X91 N85 g_b1
  have V91 : Arv Z h91 b1 k1 (.object "com/example/nano_xpath/nanoxpath/AtomicKind") (17 : Int32) [(.ref ad_NUMBER), (.ref ad_STRING), (.ref ad_BOOLEAN), (.ref ad_DATE_TIME), (.ref ad_DATE), (.ref ad_TIME), (.ref ad_DURATION), (.ref ad_YEAR_MONTH_DURATION), (.ref ad_DAY_TIME_DURATION), (.ref ad_G_YEAR_MONTH), (.ref ad_G_YEAR), (.ref ad_G_MONTH_DAY), (.ref ad_G_DAY), (.ref ad_G_MONTH), (.ref ad_HEX_BINARY), .null, .null] .null := Arv.set Ar89 q89 S89 M89 H89 G89 rfl W91 14 rfl (Nat.le_of_ble_eq_true rfl)
  have Zp92 : n0 ≤ h91.size := Nat.le_trans Zp86 (Nat.le_of_eq (Wr.size W91).symm)
  have Fc93 := (Sta.wr W91 (Sta.wr W85 (Sta.wr W79 (Sta.wr W73 (Sta.wr W67 (Sta.wr W61 (Sta.wr W55 (Sta.wr W49 (Sta.wr W43 (Sta.wr W37 (Sta.wr W31 (Sta.wr W25 (Sta.wr W19 (Sta.wr W13 (Sta.wr W7 (Sta.ext E1 S_BASE64_BINARY))))))))))))))))
  obtain ⟨T94, X94, e94, st94⟩ := getS2 X91 hx hZ hown (host := "") (Or.inl (hw _ (List.mem_of_getElem? (i := 34) rfl))) Via.refl e91 Fc93 (g := (mkF m 107 #[.val (.int vx), .unset, .unset, .unset, .unset, .unset, .unset] [(.int (15 : Int32)), (.ref b1), (.ref b1)])) rfl (hb hby at_107)
  obtain ⟨cl95, Ar95, q95, S95, M95, H95, G95⟩ := V91
  have hin95 : ¬ ((15 : Int32) < 0 ∨ cl95.slots.size ≤ ((15 : Int32)).toNatClampNeg) := inb_of S95 ⟨by decide, by decide⟩
  have Fc96 := (Exa.wr W91 (Exa.wr W85 (Exa.wr W79 (Exa.wr W73 (Exa.wr W67 (Exa.wr W61 (Exa.wr W55 (Exa.wr W49 (Exa.wr W43 (Exa.wr W37 (Exa.wr W31 (Exa.wr W25 (Exa.wr W19 (Exa.wr W13 (Exa.wr W7 (Exa.ext E1 E_BASE64_BINARY))))))))))))))))
  obtain ⟨T97, h97, X97, e97, W97, st97⟩ := stR X94 hx hZ e94 Ar95 (j := (15 : Int32)) hin95 rfl (Sto.ofV Ar95 q95 O1 (Ins.self Fc96)) (g := (mkF m 110 #[.val (.int vx), .unset, .unset, .unset, .unset, .unset, .unset] [(.ref ad_BASE64_BINARY), (.int (15 : Int32)), (.ref b1), (.ref b1)])) rfl rfl (hb hby at_110)
  have N97 := Fr.snoc X97 N91 g_b1
  have V97 : Arv Z h97 b1 k1 (.object "com/example/nano_xpath/nanoxpath/AtomicKind") (17 : Int32) [(.ref ad_NUMBER), (.ref ad_STRING), (.ref ad_BOOLEAN), (.ref ad_DATE_TIME), (.ref ad_DATE), (.ref ad_TIME), (.ref ad_DURATION), (.ref ad_YEAR_MONTH_DURATION), (.ref ad_DAY_TIME_DURATION), (.ref ad_G_YEAR_MONTH), (.ref ad_G_YEAR), (.ref ad_G_MONTH_DAY), (.ref ad_G_DAY), (.ref ad_G_MONTH), (.ref ad_HEX_BINARY), (.ref ad_BASE64_BINARY), .null] .null := Arv.set Ar95 q95 S95 M95 H95 G95 rfl W97 15 rfl (Nat.le_of_ble_eq_true rfl)
  have Zp98 : n0 ≤ h97.size := Nat.le_trans Zp92 (Nat.le_of_eq (Wr.size W97).symm)
  have Fc99 := (Sta.wr W97 (Sta.wr W91 (Sta.wr W85 (Sta.wr W79 (Sta.wr W73 (Sta.wr W67 (Sta.wr W61 (Sta.wr W55 (Sta.wr W49 (Sta.wr W43 (Sta.wr W37 (Sta.wr W31 (Sta.wr W25 (Sta.wr W19 (Sta.wr W13 (Sta.wr W7 (Sta.ext E1 S_QNAME)))))))))))))))))
  obtain ⟨T100, X100, e100, st100⟩ := getS2 X97 hx hZ hown (host := "") (Or.inl (hw _ (List.mem_of_getElem? (i := 36) rfl))) Via.refl e97 Fc99 (g := (mkF m 114 #[.val (.int vx), .unset, .unset, .unset, .unset, .unset, .unset] [(.int (16 : Int32)), (.ref b1), (.ref b1)])) rfl (hb hby at_114)
  obtain ⟨cl101, Ar101, q101, S101, M101, H101, G101⟩ := V97
  have hin101 : ¬ ((16 : Int32) < 0 ∨ cl101.slots.size ≤ ((16 : Int32)).toNatClampNeg) := inb_of S101 ⟨by decide, by decide⟩
  have Fc102 := (Exa.wr W97 (Exa.wr W91 (Exa.wr W85 (Exa.wr W79 (Exa.wr W73 (Exa.wr W67 (Exa.wr W61 (Exa.wr W55 (Exa.wr W49 (Exa.wr W43 (Exa.wr W37 (Exa.wr W31 (Exa.wr W25 (Exa.wr W19 (Exa.wr W13 (Exa.wr W7 (Exa.ext E1 E_QNAME)))))))))))))))))
  obtain ⟨T103, h103, X103, e103, W103, st103⟩ := stR X100 hx hZ e100 Ar101 (j := (16 : Int32)) hin101 rfl (Sto.ofV Ar101 q101 O1 (Ins.self Fc102)) (g := (mkF m 117 #[.val (.int vx), .unset, .unset, .unset, .unset, .unset, .unset] [(.ref ad_QNAME), (.int (16 : Int32)), (.ref b1), (.ref b1)])) rfl rfl (hb hby at_117)
  have N103 := Fr.snoc X103 N97 g_b1
  have V103 : Arv Z h103 b1 k1 (.object "com/example/nano_xpath/nanoxpath/AtomicKind") (17 : Int32) [(.ref ad_NUMBER), (.ref ad_STRING), (.ref ad_BOOLEAN), (.ref ad_DATE_TIME), (.ref ad_DATE), (.ref ad_TIME), (.ref ad_DURATION), (.ref ad_YEAR_MONTH_DURATION), (.ref ad_DAY_TIME_DURATION), (.ref ad_G_YEAR_MONTH), (.ref ad_G_YEAR), (.ref ad_G_MONTH_DAY), (.ref ad_G_DAY), (.ref ad_G_MONTH), (.ref ad_HEX_BINARY), (.ref ad_BASE64_BINARY), (.ref ad_QNAME)] .null := Arv.set Ar101 q101 S101 M101 H101 G101 rfl W103 16 rfl (Nat.le_of_ble_eq_true rfl)
  have Zp104 : n0 ≤ h103.size := Nat.le_trans Zp98 (Nat.le_of_eq (Wr.size W103).symm)
  have pre105 : ∀ t, Steps p.tables e below (T103.setTop (mkF m 127 #[.val (.int vx), .val (.ref b1), .val (.int ((vx &&& (2147483647 : Int32)) % (17 : Int32))), .unset, .unset, .unset, .unset] [])) t → Steps p.tables e below (s₁.setTop (entryFrame m #[(.int vx)] maxLocals)) t := by
    intro t k
    refine pre0 t ?_
    show Steps p.tables e below (s₁.setTop (mkF m 0 #[.val (.int vx), .unset, .unset, .unset, .unset, .unset, .unset] [])) _
    refine XS.bipush X0.here hx rfl (hb hby at_0) ?_
    show Steps p.tables e below (s₁.setTop (mkF m 2 #[.val (.int vx), .unset, .unset, .unset, .unset, .unset, .unset] [(.int (17 : Int32))])) _
    refine st1 _ ?_
    show Steps p.tables e below (T1.setTop (mkF m 5 #[.val (.int vx), .unset, .unset, .unset, .unset, .unset, .unset] [(.ref b1)])) _
    refine XS.dup X1.here hx rfl (hb hby at_5) rfl rfl ?_
    show Steps p.tables e below (T1.setTop (mkF m 6 #[.val (.int vx), .unset, .unset, .unset, .unset, .unset, .unset] [(.ref b1), (.ref b1)])) _
    refine XS.iconst X1.here hx rfl (hb hby at_6) ?_
    show Steps p.tables e below (T1.setTop (mkF m 7 #[.val (.int vx), .unset, .unset, .unset, .unset, .unset, .unset] [(.int (0 : Int32)), (.ref b1), (.ref b1)])) _
    refine st4 _ ?_
    show Steps p.tables e below (T4.setTop (mkF m 10 #[.val (.int vx), .unset, .unset, .unset, .unset, .unset, .unset] [(.ref ad_NUMBER), (.int (0 : Int32)), (.ref b1), (.ref b1)])) _
    refine st7 _ ?_
    show Steps p.tables e below (T7.setTop (mkF m 11 #[.val (.int vx), .unset, .unset, .unset, .unset, .unset, .unset] [(.ref b1)])) _
    refine XS.dup X7.here hx rfl (hb hby at_11) rfl rfl ?_
    show Steps p.tables e below (T7.setTop (mkF m 12 #[.val (.int vx), .unset, .unset, .unset, .unset, .unset, .unset] [(.ref b1), (.ref b1)])) _
    refine XS.iconst X7.here hx rfl (hb hby at_12) ?_
    show Steps p.tables e below (T7.setTop (mkF m 13 #[.val (.int vx), .unset, .unset, .unset, .unset, .unset, .unset] [(.int (1 : Int32)), (.ref b1), (.ref b1)])) _
    refine st10 _ ?_
    show Steps p.tables e below (T10.setTop (mkF m 16 #[.val (.int vx), .unset, .unset, .unset, .unset, .unset, .unset] [(.ref ad_STRING), (.int (1 : Int32)), (.ref b1), (.ref b1)])) _
    refine st13 _ ?_
    show Steps p.tables e below (T13.setTop (mkF m 17 #[.val (.int vx), .unset, .unset, .unset, .unset, .unset, .unset] [(.ref b1)])) _
    refine XS.dup X13.here hx rfl (hb hby at_17) rfl rfl ?_
    show Steps p.tables e below (T13.setTop (mkF m 18 #[.val (.int vx), .unset, .unset, .unset, .unset, .unset, .unset] [(.ref b1), (.ref b1)])) _
    refine XS.iconst X13.here hx rfl (hb hby at_18) ?_
    show Steps p.tables e below (T13.setTop (mkF m 19 #[.val (.int vx), .unset, .unset, .unset, .unset, .unset, .unset] [(.int (2 : Int32)), (.ref b1), (.ref b1)])) _
    refine st16 _ ?_
    show Steps p.tables e below (T16.setTop (mkF m 22 #[.val (.int vx), .unset, .unset, .unset, .unset, .unset, .unset] [(.ref ad_BOOLEAN), (.int (2 : Int32)), (.ref b1), (.ref b1)])) _
    refine st19 _ ?_
    show Steps p.tables e below (T19.setTop (mkF m 23 #[.val (.int vx), .unset, .unset, .unset, .unset, .unset, .unset] [(.ref b1)])) _
    refine XS.dup X19.here hx rfl (hb hby at_23) rfl rfl ?_
    show Steps p.tables e below (T19.setTop (mkF m 24 #[.val (.int vx), .unset, .unset, .unset, .unset, .unset, .unset] [(.ref b1), (.ref b1)])) _
    refine XS.iconst X19.here hx rfl (hb hby at_24) ?_
    show Steps p.tables e below (T19.setTop (mkF m 25 #[.val (.int vx), .unset, .unset, .unset, .unset, .unset, .unset] [(.int (3 : Int32)), (.ref b1), (.ref b1)])) _
    refine st22 _ ?_
    show Steps p.tables e below (T22.setTop (mkF m 28 #[.val (.int vx), .unset, .unset, .unset, .unset, .unset, .unset] [(.ref ad_DATE_TIME), (.int (3 : Int32)), (.ref b1), (.ref b1)])) _
    refine st25 _ ?_
    show Steps p.tables e below (T25.setTop (mkF m 29 #[.val (.int vx), .unset, .unset, .unset, .unset, .unset, .unset] [(.ref b1)])) _
    refine XS.dup X25.here hx rfl (hb hby at_29) rfl rfl ?_
    show Steps p.tables e below (T25.setTop (mkF m 30 #[.val (.int vx), .unset, .unset, .unset, .unset, .unset, .unset] [(.ref b1), (.ref b1)])) _
    refine XS.iconst X25.here hx rfl (hb hby at_30) ?_
    show Steps p.tables e below (T25.setTop (mkF m 31 #[.val (.int vx), .unset, .unset, .unset, .unset, .unset, .unset] [(.int (4 : Int32)), (.ref b1), (.ref b1)])) _
    refine st28 _ ?_
    show Steps p.tables e below (T28.setTop (mkF m 34 #[.val (.int vx), .unset, .unset, .unset, .unset, .unset, .unset] [(.ref ad_DATE), (.int (4 : Int32)), (.ref b1), (.ref b1)])) _
    refine st31 _ ?_
    show Steps p.tables e below (T31.setTop (mkF m 35 #[.val (.int vx), .unset, .unset, .unset, .unset, .unset, .unset] [(.ref b1)])) _
    refine XS.dup X31.here hx rfl (hb hby at_35) rfl rfl ?_
    show Steps p.tables e below (T31.setTop (mkF m 36 #[.val (.int vx), .unset, .unset, .unset, .unset, .unset, .unset] [(.ref b1), (.ref b1)])) _
    refine XS.iconst X31.here hx rfl (hb hby at_36) ?_
    show Steps p.tables e below (T31.setTop (mkF m 37 #[.val (.int vx), .unset, .unset, .unset, .unset, .unset, .unset] [(.int (5 : Int32)), (.ref b1), (.ref b1)])) _
    refine st34 _ ?_
    show Steps p.tables e below (T34.setTop (mkF m 40 #[.val (.int vx), .unset, .unset, .unset, .unset, .unset, .unset] [(.ref ad_TIME), (.int (5 : Int32)), (.ref b1), (.ref b1)])) _
    refine st37 _ ?_
    show Steps p.tables e below (T37.setTop (mkF m 41 #[.val (.int vx), .unset, .unset, .unset, .unset, .unset, .unset] [(.ref b1)])) _
    refine XS.dup X37.here hx rfl (hb hby at_41) rfl rfl ?_
    show Steps p.tables e below (T37.setTop (mkF m 42 #[.val (.int vx), .unset, .unset, .unset, .unset, .unset, .unset] [(.ref b1), (.ref b1)])) _
    refine XS.bipush X37.here hx rfl (hb hby at_42) ?_
    show Steps p.tables e below (T37.setTop (mkF m 44 #[.val (.int vx), .unset, .unset, .unset, .unset, .unset, .unset] [(.int (6 : Int32)), (.ref b1), (.ref b1)])) _
    refine st40 _ ?_
    show Steps p.tables e below (T40.setTop (mkF m 47 #[.val (.int vx), .unset, .unset, .unset, .unset, .unset, .unset] [(.ref ad_DURATION), (.int (6 : Int32)), (.ref b1), (.ref b1)])) _
    refine st43 _ ?_
    show Steps p.tables e below (T43.setTop (mkF m 48 #[.val (.int vx), .unset, .unset, .unset, .unset, .unset, .unset] [(.ref b1)])) _
    refine XS.dup X43.here hx rfl (hb hby at_48) rfl rfl ?_
    show Steps p.tables e below (T43.setTop (mkF m 49 #[.val (.int vx), .unset, .unset, .unset, .unset, .unset, .unset] [(.ref b1), (.ref b1)])) _
    refine XS.bipush X43.here hx rfl (hb hby at_49) ?_
    show Steps p.tables e below (T43.setTop (mkF m 51 #[.val (.int vx), .unset, .unset, .unset, .unset, .unset, .unset] [(.int (7 : Int32)), (.ref b1), (.ref b1)])) _
    refine st46 _ ?_
    show Steps p.tables e below (T46.setTop (mkF m 54 #[.val (.int vx), .unset, .unset, .unset, .unset, .unset, .unset] [(.ref ad_YEAR_MONTH_DURATION), (.int (7 : Int32)), (.ref b1), (.ref b1)])) _
    refine st49 _ ?_
    show Steps p.tables e below (T49.setTop (mkF m 55 #[.val (.int vx), .unset, .unset, .unset, .unset, .unset, .unset] [(.ref b1)])) _
    refine XS.dup X49.here hx rfl (hb hby at_55) rfl rfl ?_
    show Steps p.tables e below (T49.setTop (mkF m 56 #[.val (.int vx), .unset, .unset, .unset, .unset, .unset, .unset] [(.ref b1), (.ref b1)])) _
    refine XS.bipush X49.here hx rfl (hb hby at_56) ?_
    show Steps p.tables e below (T49.setTop (mkF m 58 #[.val (.int vx), .unset, .unset, .unset, .unset, .unset, .unset] [(.int (8 : Int32)), (.ref b1), (.ref b1)])) _
    refine st52 _ ?_
    show Steps p.tables e below (T52.setTop (mkF m 61 #[.val (.int vx), .unset, .unset, .unset, .unset, .unset, .unset] [(.ref ad_DAY_TIME_DURATION), (.int (8 : Int32)), (.ref b1), (.ref b1)])) _
    refine st55 _ ?_
    show Steps p.tables e below (T55.setTop (mkF m 62 #[.val (.int vx), .unset, .unset, .unset, .unset, .unset, .unset] [(.ref b1)])) _
    refine XS.dup X55.here hx rfl (hb hby at_62) rfl rfl ?_
    show Steps p.tables e below (T55.setTop (mkF m 63 #[.val (.int vx), .unset, .unset, .unset, .unset, .unset, .unset] [(.ref b1), (.ref b1)])) _
    refine XS.bipush X55.here hx rfl (hb hby at_63) ?_
    show Steps p.tables e below (T55.setTop (mkF m 65 #[.val (.int vx), .unset, .unset, .unset, .unset, .unset, .unset] [(.int (9 : Int32)), (.ref b1), (.ref b1)])) _
    refine st58 _ ?_
    show Steps p.tables e below (T58.setTop (mkF m 68 #[.val (.int vx), .unset, .unset, .unset, .unset, .unset, .unset] [(.ref ad_G_YEAR_MONTH), (.int (9 : Int32)), (.ref b1), (.ref b1)])) _
    refine st61 _ ?_
    show Steps p.tables e below (T61.setTop (mkF m 69 #[.val (.int vx), .unset, .unset, .unset, .unset, .unset, .unset] [(.ref b1)])) _
    refine XS.dup X61.here hx rfl (hb hby at_69) rfl rfl ?_
    show Steps p.tables e below (T61.setTop (mkF m 70 #[.val (.int vx), .unset, .unset, .unset, .unset, .unset, .unset] [(.ref b1), (.ref b1)])) _
    refine XS.bipush X61.here hx rfl (hb hby at_70) ?_
    show Steps p.tables e below (T61.setTop (mkF m 72 #[.val (.int vx), .unset, .unset, .unset, .unset, .unset, .unset] [(.int (10 : Int32)), (.ref b1), (.ref b1)])) _
    refine st64 _ ?_
    show Steps p.tables e below (T64.setTop (mkF m 75 #[.val (.int vx), .unset, .unset, .unset, .unset, .unset, .unset] [(.ref ad_G_YEAR), (.int (10 : Int32)), (.ref b1), (.ref b1)])) _
    refine st67 _ ?_
    show Steps p.tables e below (T67.setTop (mkF m 76 #[.val (.int vx), .unset, .unset, .unset, .unset, .unset, .unset] [(.ref b1)])) _
    refine XS.dup X67.here hx rfl (hb hby at_76) rfl rfl ?_
    show Steps p.tables e below (T67.setTop (mkF m 77 #[.val (.int vx), .unset, .unset, .unset, .unset, .unset, .unset] [(.ref b1), (.ref b1)])) _
    refine XS.bipush X67.here hx rfl (hb hby at_77) ?_
    show Steps p.tables e below (T67.setTop (mkF m 79 #[.val (.int vx), .unset, .unset, .unset, .unset, .unset, .unset] [(.int (11 : Int32)), (.ref b1), (.ref b1)])) _
    refine st70 _ ?_
    show Steps p.tables e below (T70.setTop (mkF m 82 #[.val (.int vx), .unset, .unset, .unset, .unset, .unset, .unset] [(.ref ad_G_MONTH_DAY), (.int (11 : Int32)), (.ref b1), (.ref b1)])) _
    refine st73 _ ?_
    show Steps p.tables e below (T73.setTop (mkF m 83 #[.val (.int vx), .unset, .unset, .unset, .unset, .unset, .unset] [(.ref b1)])) _
    refine XS.dup X73.here hx rfl (hb hby at_83) rfl rfl ?_
    show Steps p.tables e below (T73.setTop (mkF m 84 #[.val (.int vx), .unset, .unset, .unset, .unset, .unset, .unset] [(.ref b1), (.ref b1)])) _
    refine XS.bipush X73.here hx rfl (hb hby at_84) ?_
    show Steps p.tables e below (T73.setTop (mkF m 86 #[.val (.int vx), .unset, .unset, .unset, .unset, .unset, .unset] [(.int (12 : Int32)), (.ref b1), (.ref b1)])) _
    refine st76 _ ?_
    show Steps p.tables e below (T76.setTop (mkF m 89 #[.val (.int vx), .unset, .unset, .unset, .unset, .unset, .unset] [(.ref ad_G_DAY), (.int (12 : Int32)), (.ref b1), (.ref b1)])) _
    refine st79 _ ?_
    show Steps p.tables e below (T79.setTop (mkF m 90 #[.val (.int vx), .unset, .unset, .unset, .unset, .unset, .unset] [(.ref b1)])) _
    refine XS.dup X79.here hx rfl (hb hby at_90) rfl rfl ?_
    show Steps p.tables e below (T79.setTop (mkF m 91 #[.val (.int vx), .unset, .unset, .unset, .unset, .unset, .unset] [(.ref b1), (.ref b1)])) _
    refine XS.bipush X79.here hx rfl (hb hby at_91) ?_
    show Steps p.tables e below (T79.setTop (mkF m 93 #[.val (.int vx), .unset, .unset, .unset, .unset, .unset, .unset] [(.int (13 : Int32)), (.ref b1), (.ref b1)])) _
    refine st82 _ ?_
    show Steps p.tables e below (T82.setTop (mkF m 96 #[.val (.int vx), .unset, .unset, .unset, .unset, .unset, .unset] [(.ref ad_G_MONTH), (.int (13 : Int32)), (.ref b1), (.ref b1)])) _
    refine st85 _ ?_
    show Steps p.tables e below (T85.setTop (mkF m 97 #[.val (.int vx), .unset, .unset, .unset, .unset, .unset, .unset] [(.ref b1)])) _
    refine XS.dup X85.here hx rfl (hb hby at_97) rfl rfl ?_
    show Steps p.tables e below (T85.setTop (mkF m 98 #[.val (.int vx), .unset, .unset, .unset, .unset, .unset, .unset] [(.ref b1), (.ref b1)])) _
    refine XS.bipush X85.here hx rfl (hb hby at_98) ?_
    show Steps p.tables e below (T85.setTop (mkF m 100 #[.val (.int vx), .unset, .unset, .unset, .unset, .unset, .unset] [(.int (14 : Int32)), (.ref b1), (.ref b1)])) _
    refine st88 _ ?_
    show Steps p.tables e below (T88.setTop (mkF m 103 #[.val (.int vx), .unset, .unset, .unset, .unset, .unset, .unset] [(.ref ad_HEX_BINARY), (.int (14 : Int32)), (.ref b1), (.ref b1)])) _
    refine st91 _ ?_
    show Steps p.tables e below (T91.setTop (mkF m 104 #[.val (.int vx), .unset, .unset, .unset, .unset, .unset, .unset] [(.ref b1)])) _
    refine XS.dup X91.here hx rfl (hb hby at_104) rfl rfl ?_
    show Steps p.tables e below (T91.setTop (mkF m 105 #[.val (.int vx), .unset, .unset, .unset, .unset, .unset, .unset] [(.ref b1), (.ref b1)])) _
    refine XS.bipush X91.here hx rfl (hb hby at_105) ?_
    show Steps p.tables e below (T91.setTop (mkF m 107 #[.val (.int vx), .unset, .unset, .unset, .unset, .unset, .unset] [(.int (15 : Int32)), (.ref b1), (.ref b1)])) _
    refine st94 _ ?_
    show Steps p.tables e below (T94.setTop (mkF m 110 #[.val (.int vx), .unset, .unset, .unset, .unset, .unset, .unset] [(.ref ad_BASE64_BINARY), (.int (15 : Int32)), (.ref b1), (.ref b1)])) _
    refine st97 _ ?_
    show Steps p.tables e below (T97.setTop (mkF m 111 #[.val (.int vx), .unset, .unset, .unset, .unset, .unset, .unset] [(.ref b1)])) _
    refine XS.dup X97.here hx rfl (hb hby at_111) rfl rfl ?_
    show Steps p.tables e below (T97.setTop (mkF m 112 #[.val (.int vx), .unset, .unset, .unset, .unset, .unset, .unset] [(.ref b1), (.ref b1)])) _
    refine XS.bipush X97.here hx rfl (hb hby at_112) ?_
    show Steps p.tables e below (T97.setTop (mkF m 114 #[.val (.int vx), .unset, .unset, .unset, .unset, .unset, .unset] [(.int (16 : Int32)), (.ref b1), (.ref b1)])) _
    refine st100 _ ?_
    show Steps p.tables e below (T100.setTop (mkF m 117 #[.val (.int vx), .unset, .unset, .unset, .unset, .unset, .unset] [(.ref ad_QNAME), (.int (16 : Int32)), (.ref b1), (.ref b1)])) _
    refine st103 _ ?_
    show Steps p.tables e below (T103.setTop (mkF m 118 #[.val (.int vx), .unset, .unset, .unset, .unset, .unset, .unset] [(.ref b1)])) _
    refine XS.astoreN X103.here hx rfl (hb hby at_118) rfl rfl (l' := #[.val (.int vx), .val (.ref b1), .unset, .unset, .unset, .unset, .unset]) rfl ?_
    show Steps p.tables e below (T103.setTop (mkF m 119 #[.val (.int vx), .val (.ref b1), .unset, .unset, .unset, .unset, .unset] [])) _
    refine XS.iloadN X103.here hx rfl (hb hby at_119) rfl ?_
    show Steps p.tables e below (T103.setTop (mkF m 120 #[.val (.int vx), .val (.ref b1), .unset, .unset, .unset, .unset, .unset] [(.int vx)])) _
    refine X103.ldcInt hx hown (mvT hZ (hw _ (List.mem_of_getElem? (i := 38) rfl))) (g := (mkF m 120 #[.val (.int vx), .val (.ref b1), .unset, .unset, .unset, .unset, .unset] [(.int vx)])) rfl (hb hby at_120) _ ?_
    show Steps p.tables e below (T103.setTop (mkF m 122 #[.val (.int vx), .val (.ref b1), .unset, .unset, .unset, .unset, .unset] [(.int (2147483647 : Int32)), (.int vx)])) _
    refine XS.iand X103.here hx rfl (hb hby at_122) rfl ?_
    show Steps p.tables e below (T103.setTop (mkF m 123 #[.val (.int vx), .val (.ref b1), .unset, .unset, .unset, .unset, .unset] [(.int (vx &&& (2147483647 : Int32)))])) _
    refine XS.bipush X103.here hx rfl (hb hby at_123) ?_
    show Steps p.tables e below (T103.setTop (mkF m 125 #[.val (.int vx), .val (.ref b1), .unset, .unset, .unset, .unset, .unset] [(.int (17 : Int32)), (.int (vx &&& (2147483647 : Int32)))])) _
    refine iremM (g := (mkF m 125 #[.val (.int vx), .val (.ref b1), .unset, .unset, .unset, .unset, .unset] [(.int (17 : Int32)), (.int (vx &&& (2147483647 : Int32)))])) X103 hx rfl (hb hby at_125) rfl (by decide) ?_
    show Steps p.tables e below (T103.setTop (mkF m 126 #[.val (.int vx), .val (.ref b1), .unset, .unset, .unset, .unset, .unset] [(.int ((vx &&& (2147483647 : Int32)) % (17 : Int32)))])) _
    refine XS.istoreN X103.here hx rfl (hb hby at_126) rfl (l' := #[.val (.int vx), .val (.ref b1), .val (.int ((vx &&& (2147483647 : Int32)) % (17 : Int32))), .unset, .unset, .unset, .unset]) rfl ?_
    show Steps p.tables e below (T103.setTop (mkF m 127 #[.val (.int vx), .val (.ref b1), .val (.int ((vx &&& (2147483647 : Int32)) % (17 : Int32))), .unset, .unset, .unset, .unset] [])) _
    exact k
  obtain ⟨vj, h_vj⟩ : ∃ z : Int32, z = ((vx &&& (2147483647 : Int32)) % (17 : Int32)) := ⟨_, rfl⟩
  have pre106 : ∀ t, Steps p.tables e below (T103.setTop (mkF m 127 #[.val (.int vx), .val (.ref b1), .val (.int vj), .unset, .unset, .unset, .unset] [])) t → Steps p.tables e below (s₁.setTop (entryFrame m #[(.int vx)] maxLocals)) t := by
    subst h_vj
    exact pre105
  have hj := own_rem vx
  rw [← h_vj] at hj
  have hjn : vj.toNatClampNeg < 17 := by have q := hj.2; have q1 := hj.1; rw [Int32.lt_iff_toInt_lt, show (17 : Int32).toInt = 17 from by decide] at q; rw [Int32.lt_iff_toInt_lt, show (0 : Int32).toInt = 0 from by decide] at q1; show vj.toInt.toNat < 17; omega
  obtain ⟨cl107, Ar107, q107, S107, M107, H107, G107⟩ := V103
  have hin107 : ¬ (vj < 0 ∨ cl107.slots.size ≤ (vj).toNatClampNeg) := inb_of S107 hj
  have hat107 : cl107.slots[(vj).toNatClampNeg]? = some (.ref (([ad_NUMBER, ad_STRING, ad_BOOLEAN, ad_DATE_TIME, ad_DATE, ad_TIME, ad_DURATION, ad_YEAR_MONTH_DURATION, ad_DAY_TIME_DURATION, ad_G_YEAR_MONTH, ad_G_YEAR, ad_G_MONTH_DAY, ad_G_DAY, ad_G_MONTH, ad_HEX_BINARY, ad_BASE64_BINARY, ad_QNAME] : List Addr).getD (vj).toNatClampNeg ad_NUMBER)) := H107.at hin107 (own_getR ([ad_NUMBER, ad_STRING, ad_BOOLEAN, ad_DATE_TIME, ad_DATE, ad_TIME, ad_DURATION, ad_YEAR_MONTH_DURATION, ad_DAY_TIME_DURATION, ad_G_YEAR_MONTH, ad_G_YEAR, ad_G_MONTH_DAY, ad_G_DAY, ad_G_MONTH, ad_HEX_BINARY, ad_BASE64_BINARY, ad_QNAME] : List Addr) _ ad_NUMBER hjn)
  have pre108 : ∀ t, Steps p.tables e below (T103.setTop (mkF m 130 #[.val (.int vx), .val (.ref b1), .val (.int vj), .unset, .unset, .unset, .unset] [(.ref (([ad_NUMBER, ad_STRING, ad_BOOLEAN, ad_DATE_TIME, ad_DATE, ad_TIME, ad_DURATION, ad_YEAR_MONTH_DURATION, ad_DAY_TIME_DURATION, ad_G_YEAR_MONTH, ad_G_YEAR, ad_G_MONTH_DAY, ad_G_DAY, ad_G_MONTH, ad_HEX_BINARY, ad_BASE64_BINARY, ad_QNAME] : List Addr).getD (vj).toNatClampNeg ad_NUMBER))])) t → Steps p.tables e below (s₁.setTop (entryFrame m #[(.int vx)] maxLocals)) t := by
    intro t k
    refine pre106 t ?_
    show Steps p.tables e below (T103.setTop (mkF m 127 #[.val (.int vx), .val (.ref b1), .val (.int vj), .unset, .unset, .unset, .unset] [])) _
    refine XS.aloadN X103.here hx rfl (hb hby at_127) rfl rfl ?_
    show Steps p.tables e below (T103.setTop (mkF m 128 #[.val (.int vx), .val (.ref b1), .val (.int vj), .unset, .unset, .unset, .unset] [(.ref b1)])) _
    refine XS.iloadN X103.here hx rfl (hb hby at_128) rfl ?_
    show Steps p.tables e below (T103.setTop (mkF m 129 #[.val (.int vx), .val (.ref b1), .val (.int vj), .unset, .unset, .unset, .unset] [(.int vj), (.ref b1)])) _
    refine X103.aaload hx (j := vj) (v := (.ref (([ad_NUMBER, ad_STRING, ad_BOOLEAN, ad_DATE_TIME, ad_DATE, ad_TIME, ad_DURATION, ad_YEAR_MONTH_DURATION, ad_DAY_TIME_DURATION, ad_G_YEAR_MONTH, ad_G_YEAR, ad_G_MONTH_DAY, ad_G_DAY, ad_G_MONTH, ad_HEX_BINARY, ad_BASE64_BINARY, ad_QNAME] : List Addr).getD (vj).toNatClampNeg ad_NUMBER))) (by rw [e103]; exact Ar107.1) (State.isArrayOf_alike hZ.alike Ar107.2.1) rfl Ar107.2.2 hin107 hat107 (g := (mkF m 129 #[.val (.int vx), .val (.ref b1), .val (.int vj), .unset, .unset, .unset, .unset] [(.int vj), (.ref b1)])) rfl rfl (hb hby at_129) _ ?_
    show Steps p.tables e below (T103.setTop (mkF m 130 #[.val (.int vx), .val (.ref b1), .val (.int vj), .unset, .unset, .unset, .unset] [(.ref (([ad_NUMBER, ad_STRING, ad_BOOLEAN, ad_DATE_TIME, ad_DATE, ad_TIME, ad_DURATION, ad_YEAR_MONTH_DURATION, ad_DAY_TIME_DURATION, ad_G_YEAR_MONTH, ad_G_YEAR, ad_G_MONTH_DAY, ad_G_DAY, ad_G_MONTH, ad_HEX_BINARY, ad_BASE64_BINARY, ad_QNAME] : List Addr).getD (vj).toNatClampNeg ad_NUMBER))])) _
    exact k
  obtain ⟨vo, h_vo⟩ : ∃ z : Addr, z = (([ad_NUMBER, ad_STRING, ad_BOOLEAN, ad_DATE_TIME, ad_DATE, ad_TIME, ad_DURATION, ad_YEAR_MONTH_DURATION, ad_DAY_TIME_DURATION, ad_G_YEAR_MONTH, ad_G_YEAR, ad_G_MONTH_DAY, ad_G_DAY, ad_G_MONTH, ad_HEX_BINARY, ad_BASE64_BINARY, ad_QNAME] : List Addr).getD (vj).toNatClampNeg ad_NUMBER) := ⟨_, rfl⟩
  have pre109 : ∀ t, Steps p.tables e below (T103.setTop (mkF m 130 #[.val (.int vx), .val (.ref b1), .val (.int vj), .unset, .unset, .unset, .unset] [(.ref vo)])) t → Steps p.tables e below (s₁.setTop (entryFrame m #[(.int vx)] maxLocals)) t := by
    subst h_vo
    exact pre108
  have Ei : ∀ i : Nat, i < 17 → Exa Z h0 (([ad_NUMBER, ad_STRING, ad_BOOLEAN, ad_DATE_TIME, ad_DATE, ad_TIME, ad_DURATION, ad_YEAR_MONTH_DURATION, ad_DAY_TIME_DURATION, ad_G_YEAR_MONTH, ad_G_YEAR, ad_G_MONTH_DAY, ad_G_DAY, ad_G_MONTH, ad_HEX_BINARY, ad_BASE64_BINARY, ad_QNAME] : List Addr).getD i ad_NUMBER) "com/example/nano_xpath/nanoxpath/AtomicKind" := by
    intro i hi
    match i, hi with
    | 0, _ => exact E_NUMBER
    | 1, _ => exact E_STRING
    | 2, _ => exact E_BOOLEAN
    | 3, _ => exact E_DATE_TIME
    | 4, _ => exact E_DATE
    | 5, _ => exact E_TIME
    | 6, _ => exact E_DURATION
    | 7, _ => exact E_YEAR_MONTH_DURATION
    | 8, _ => exact E_DAY_TIME_DURATION
    | 9, _ => exact E_G_YEAR_MONTH
    | 10, _ => exact E_G_YEAR
    | 11, _ => exact E_G_MONTH_DAY
    | 12, _ => exact E_G_DAY
    | 13, _ => exact E_G_MONTH
    | 14, _ => exact E_HEX_BINARY
    | 15, _ => exact E_BASE64_BINARY
    | 16, _ => exact E_QNAME
    | k + 17, hk => exact absurd hk (by omega)
  have Oi : ∀ i : Nat, i < 17 → Fld Z h0 (([ad_NUMBER, ad_STRING, ad_BOOLEAN, ad_DATE_TIME, ad_DATE, ad_TIME, ad_DURATION, ad_YEAR_MONTH_DURATION, ad_DAY_TIME_DURATION, ad_G_YEAR_MONTH, ad_G_YEAR, ad_G_MONTH_DAY, ad_G_DAY, ad_G_MONTH, ad_HEX_BINARY, ad_BASE64_BINARY, ad_QNAME] : List Addr).getD i ad_NUMBER) "java/lang/Enum" "ordinal" "I" (.int i.toInt32) := by
    intro i hi
    match i, hi with
    | 0, _ => exact O_NUMBER
    | 1, _ => exact O_STRING
    | 2, _ => exact O_BOOLEAN
    | 3, _ => exact O_DATE_TIME
    | 4, _ => exact O_DATE
    | 5, _ => exact O_TIME
    | 6, _ => exact O_DURATION
    | 7, _ => exact O_YEAR_MONTH_DURATION
    | 8, _ => exact O_DAY_TIME_DURATION
    | 9, _ => exact O_G_YEAR_MONTH
    | 10, _ => exact O_G_YEAR
    | 11, _ => exact O_G_MONTH_DAY
    | 12, _ => exact O_G_DAY
    | 13, _ => exact O_G_MONTH
    | 14, _ => exact O_HEX_BINARY
    | 15, _ => exact O_BASE64_BINARY
    | 16, _ => exact O_QNAME
    | k + 17, hk => exact absurd hk (by omega)
  have Eo := Ei _ hjn
  have Oo := Oi _ hjn
  rw [← h_vo] at Eo Oo
  rw [(back32 hj.1).1] at Oo
  have hvj : vj.toInt = (vj.toNatClampNeg : Int) := by have q := hj.1; rw [Int32.lt_iff_toInt_lt, show (0 : Int32).toInt = 0 from by decide] at q; show vj.toInt = (vj.toInt.toNat : Int); omega
  have hiff : (vo = ad_DURATION ∨ vo = ad_YEAR_MONTH_DURATION ∨ vo = ad_DAY_TIME_DURATION) ↔ ¬ vj < 6 ∧ ¬ 8 < vj := by
    constructor
    · intro q
      have q' : vj = 6 ∨ vj = 7 ∨ vj = 8 := by
        refine Classical.byContradiction fun nn => ?_
        rw [not_or, not_or] at nn
        rcases q with q | q | q
        · exact Oo.ne O_DURATION (fun z => nn.1 (Value.int.inj z)) q
        · exact Oo.ne O_YEAR_MONTH_DURATION (fun z => nn.2.1 (Value.int.inj z)) q
        · exact Oo.ne O_DAY_TIME_DURATION (fun z => nn.2.2 (Value.int.inj z)) q
      rcases q' with q' | q' | q' <;> rw [q'] <;> decide
    · intro q
      rw [Int32.lt_iff_toInt_lt, Int32.lt_iff_toInt_lt, show (6 : Int32).toInt = 6 from by decide, show (8 : Int32).toInt = 8 from by decide] at q
      have r : vj.toNatClampNeg = 6 ∨ vj.toNatClampNeg = 7 ∨ vj.toNatClampNeg = 8 := by omega
      rcases r with r | r | r
      · left; rw [h_vo, r]; rfl
      · right; left; rw [h_vo, r]; rfl
      · right; right; rw [h_vo, r]; rfl
  have pre110 : ∀ t, Steps p.tables e below (T103.setTop (mkF m 131 #[.val (.int vx), .val (.ref b1), .val (.int vj), .val (.ref vo), .unset, .unset, .unset] [])) t → Steps p.tables e below (s₁.setTop (entryFrame m #[(.int vx)] maxLocals)) t := by
    intro t k
    refine pre109 t ?_
    show Steps p.tables e below (T103.setTop (mkF m 130 #[.val (.int vx), .val (.ref b1), .val (.int vj), .unset, .unset, .unset, .unset] [(.ref vo)])) _
    refine XS.astoreN X103.here hx rfl (hb hby at_130) rfl rfl (l' := #[.val (.int vx), .val (.ref b1), .val (.int vj), .val (.ref vo), .unset, .unset, .unset]) rfl ?_
    show Steps p.tables e below (T103.setTop (mkF m 131 #[.val (.int vx), .val (.ref b1), .val (.int vj), .val (.ref vo), .unset, .unset, .unset] [])) _
    exact k
  obtain ⟨ve, T111, lo111, X111, Nj111, ej111, hj111, pre111⟩ : ∃ (ve : Int32) (T' : State) (lo : List Loc), Stand p l e room_1 s m #[(.int vx)] below meth c T' lo 1 17 ∧ Fr n0 lo ∧ T'.heap = h103 ∧ (ve = if ¬ vj < 6 ∧ ¬ 8 < vj then 1 else 0) ∧ ∀ t, Steps p.tables e below (T'.setTop (mkF m 148 #[.val (.int vx), .val (.ref b1), .val (.int vj), .val (.ref vo), .unset, .unset, .unset] [(.int ve)])) t → Steps p.tables e below (s₁.setTop (entryFrame m #[(.int vx)] maxLocals)) t := by
    have pre112 : ∀ t, Steps p.tables e below (T103.setTop (mkF m 134 #[.val (.int vx), .val (.ref b1), .val (.int vj), .val (.ref vo), .unset, .unset, .unset] [(.int (6 : Int32)), (.int vj)])) t → Steps p.tables e below (s₁.setTop (entryFrame m #[(.int vx)] maxLocals)) t := by
      intro t k
      refine pre110 t ?_
      show Steps p.tables e below (T103.setTop (mkF m 131 #[.val (.int vx), .val (.ref b1), .val (.int vj), .val (.ref vo), .unset, .unset, .unset] [])) _
      refine XS.iloadN X103.here hx rfl (hb hby at_131) rfl ?_
      show Steps p.tables e below (T103.setTop (mkF m 132 #[.val (.int vx), .val (.ref b1), .val (.int vj), .val (.ref vo), .unset, .unset, .unset] [(.int vj)])) _
      refine XS.bipush X103.here hx rfl (hb hby at_132) ?_
      show Steps p.tables e below (T103.setTop (mkF m 134 #[.val (.int vx), .val (.ref b1), .val (.int vj), .val (.ref vo), .unset, .unset, .unset] [(.int (6 : Int32)), (.int vj)])) _
      exact k
    by_cases hc113 : vj < (6 : Int32)
    · refine ⟨(0 : Int32), T103, _, X103, N103, e103, (by simp [hc113]), fun t k => ?_⟩
      refine pre112 t ?_
      show Steps p.tables e below (T103.setTop (mkF m 134 #[.val (.int vx), .val (.ref b1), .val (.int vj), .val (.ref vo), .unset, .unset, .unset] [(.int (6 : Int32)), (.int vj)])) _
      refine XS.icmpYes X103.here hx rfl (pc0 := 134) (pc' := 147) rfl (hb hby at_134) rfl (tlt hc113).1 (by decide) (by decide) ?_
      show Steps p.tables e below (T103.setTop (mkF m 147 #[.val (.int vx), .val (.ref b1), .val (.int vj), .val (.ref vo), .unset, .unset, .unset] [])) _
      refine XS.iconst X103.here hx rfl (hb hby at_147) ?_
      show Steps p.tables e below (T103.setTop (mkF m 148 #[.val (.int vx), .val (.ref b1), .val (.int vj), .val (.ref vo), .unset, .unset, .unset] [(.int (0 : Int32))])) _
      exact k
    · have pre114 : ∀ t, Steps p.tables e below (T103.setTop (mkF m 140 #[.val (.int vx), .val (.ref b1), .val (.int vj), .val (.ref vo), .unset, .unset, .unset] [(.int (8 : Int32)), (.int vj)])) t → Steps p.tables e below (s₁.setTop (entryFrame m #[(.int vx)] maxLocals)) t := by
        intro t k
        refine pre112 t ?_
        show Steps p.tables e below (T103.setTop (mkF m 134 #[.val (.int vx), .val (.ref b1), .val (.int vj), .val (.ref vo), .unset, .unset, .unset] [(.int (6 : Int32)), (.int vj)])) _
        refine XS.icmpNo X103.here hx rfl (hb hby at_134) rfl (flt hc113).1 ?_
        show Steps p.tables e below (T103.setTop (mkF m 137 #[.val (.int vx), .val (.ref b1), .val (.int vj), .val (.ref vo), .unset, .unset, .unset] [])) _
        refine XS.iloadN X103.here hx rfl (hb hby at_137) rfl ?_
        show Steps p.tables e below (T103.setTop (mkF m 138 #[.val (.int vx), .val (.ref b1), .val (.int vj), .val (.ref vo), .unset, .unset, .unset] [(.int vj)])) _
        refine XS.bipush X103.here hx rfl (hb hby at_138) ?_
        show Steps p.tables e below (T103.setTop (mkF m 140 #[.val (.int vx), .val (.ref b1), .val (.int vj), .val (.ref vo), .unset, .unset, .unset] [(.int (8 : Int32)), (.int vj)])) _
        exact k
      by_cases hc115 : (8 : Int32) < vj
      · refine ⟨(0 : Int32), T103, _, X103, N103, e103, (by simp [hc113, hc115]), fun t k => ?_⟩
        refine pre114 t ?_
        show Steps p.tables e below (T103.setTop (mkF m 140 #[.val (.int vx), .val (.ref b1), .val (.int vj), .val (.ref vo), .unset, .unset, .unset] [(.int (8 : Int32)), (.int vj)])) _
        refine XS.icmpYes X103.here hx rfl (pc0 := 140) (pc' := 147) rfl (hb hby at_140) rfl (tlt hc115).2.2.1 (by decide) (by decide) ?_
        show Steps p.tables e below (T103.setTop (mkF m 147 #[.val (.int vx), .val (.ref b1), .val (.int vj), .val (.ref vo), .unset, .unset, .unset] [])) _
        refine XS.iconst X103.here hx rfl (hb hby at_147) ?_
        show Steps p.tables e below (T103.setTop (mkF m 148 #[.val (.int vx), .val (.ref b1), .val (.int vj), .val (.ref vo), .unset, .unset, .unset] [(.int (0 : Int32))])) _
        exact k
      · refine ⟨(1 : Int32), T103, _, X103, N103, e103, (by simp [hc113, hc115]), fun t k => ?_⟩
        refine pre114 t ?_
        show Steps p.tables e below (T103.setTop (mkF m 140 #[.val (.int vx), .val (.ref b1), .val (.int vj), .val (.ref vo), .unset, .unset, .unset] [(.int (8 : Int32)), (.int vj)])) _
        refine XS.icmpNo X103.here hx rfl (hb hby at_140) rfl (flt hc115).2.2.1 ?_
        show Steps p.tables e below (T103.setTop (mkF m 143 #[.val (.int vx), .val (.ref b1), .val (.int vj), .val (.ref vo), .unset, .unset, .unset] [])) _
        refine XS.iconst X103.here hx rfl (hb hby at_143) ?_
        show Steps p.tables e below (T103.setTop (mkF m 144 #[.val (.int vx), .val (.ref b1), .val (.int vj), .val (.ref vo), .unset, .unset, .unset] [(.int (1 : Int32))])) _
        refine XS.goto X103.here hx rfl (pc0 := 144) (pc' := 148) rfl (hb hby at_144) (by decide) (by decide) ?_
        show Steps p.tables e below (T103.setTop (mkF m 148 #[.val (.int vx), .val (.ref b1), .val (.int vj), .val (.ref vo), .unset, .unset, .unset] [(.int (1 : Int32))])) _
        exact k
  have Fc116 := (Sta.wr W103 (Sta.wr W97 (Sta.wr W91 (Sta.wr W85 (Sta.wr W79 (Sta.wr W73 (Sta.wr W67 (Sta.wr W61 (Sta.wr W55 (Sta.wr W49 (Sta.wr W43 Fc39)))))))))))
  have Fc117 := (Sta.wr W103 (Sta.wr W97 (Sta.wr W91 (Sta.wr W85 (Sta.wr W79 (Sta.wr W73 (Sta.wr W67 (Sta.wr W61 (Sta.wr W55 (Sta.wr W49 Fc45))))))))))
  have Fc118 := (Sta.wr W103 (Sta.wr W97 (Sta.wr W91 (Sta.wr W85 (Sta.wr W79 (Sta.wr W73 (Sta.wr W67 (Sta.wr W61 (Sta.wr W55 Fc51)))))))))
  have Fc121 := (Exa.wr W103 (Exa.wr W97 (Exa.wr W91 (Exa.wr W85 (Exa.wr W79 (Exa.wr W73 (Exa.wr W67 (Exa.wr W61 (Exa.wr W55 (Exa.wr W49 (Exa.wr W43 (Exa.wr W37 (Exa.wr W31 (Exa.wr W25 (Exa.wr W19 (Exa.wr W13 (Exa.wr W7 (Exa.ext E1 Eo))))))))))))))))))
  obtain ⟨cq120, kq120, q120a, q120b, q120c⟩ := isOf hZ ej111 Fc121
  obtain ⟨_, _, ⟨T119, L119, k119, n119⟩, -, X119, ⟨Lc119, hQ119, l119, y119, z119⟩, st119⟩ := X111.virtualBack hx (y := (⟨"com/example/nano_xpath/nanoxpath/AtomicKind", "isDuration", "()Z"⟩ : MethodName)) (z := (⟨"com/example/nano_xpath/nanoxpath/AtomicKind", "isDuration", "()Z"⟩ : MethodName)) hown (mvT hZ (hw _ (List.mem_of_getElem? (i := 39) rfl))) (mvT hZ (hw _ (List.mem_of_getElem? (i := 40) rfl))) (notFace_of_selects (args := #[]) (mvT hZ (hw _ (List.mem_of_getElem? (i := 42) rfl)))) (mvT hZ (hw _ (List.mem_of_getElem? (i := 42) rfl))) (mvT hZ (hw _ (List.mem_of_getElem? (i := 41) rfl))) (by decide) (backOf (W := 0) (rm_isd l Z a0 hw [] vo ad_DURATION ad_YEAR_MONTH_DURATION ad_DAY_TIME_DURATION h103 n0 Zp104 Fc116 Fc117 Fc118) hZ (hw _ (List.mem_of_getElem? (i := 43) rfl)) (hw _ (List.mem_of_getElem? (i := 3) rfl)) (by decide) (by decide)) q120a q120c (g := (mkF m 151 #[.val (.int vx), .val (.ref b1), .val (.int vj), .val (.ref vo), .val (.int ve), .unset, .unset] [(.ref vo)])) rfl (by rw [hml]; rfl) (Steps.refl _) (argsL := []) (rest := []) (lenOf own_pd0 rfl) rfl (by show 2 * 0 + _ ≤ _; exact Nat.le_of_eq rfl) (hb hby at_151) (fun _ _ => ⟨rfl, ej111, (by decide : 1 + 0 ≤ _), (by decide : 17 + 0 ≤ _)⟩)
  dsimp only [Pt.U, Pt.locs, Pt.cells, Pt.slots] at X119 l119 y119 z119 st119 hQ119
  subst l119 y119 z119
  obtain ⟨rfl, Nq119, hh119⟩ := hQ119
  have Nf119 := Fr.app Nj111 Nq119
  have pre122 : ∀ t, Steps p.tables e below (T119.setTop (mkF m 160 #[.val (.int vx), .val (.ref b1), .val (.int vj), .val (.ref vo), .val (.int ve), .val (.int (if (vo = ad_DURATION ∨ vo = ad_YEAR_MONTH_DURATION ∨ vo = ad_DAY_TIME_DURATION) then 1 else 0)), .unset] [(.int ve), (.int (if (vo = ad_DURATION ∨ vo = ad_YEAR_MONTH_DURATION ∨ vo = ad_DAY_TIME_DURATION) then 1 else 0))])) t → Steps p.tables e below (s₁.setTop (entryFrame m #[(.int vx)] maxLocals)) t := by
    intro t k
    refine pre111 t ?_
    show Steps p.tables e below (T111.setTop (mkF m 148 #[.val (.int vx), .val (.ref b1), .val (.int vj), .val (.ref vo), .unset, .unset, .unset] [(.int ve)])) _
    refine XS.istore X111.here hx rfl (hb hby at_148) rfl (l' := #[.val (.int vx), .val (.ref b1), .val (.int vj), .val (.ref vo), .val (.int ve), .unset, .unset]) rfl ?_
    show Steps p.tables e below (T111.setTop (mkF m 150 #[.val (.int vx), .val (.ref b1), .val (.int vj), .val (.ref vo), .val (.int ve), .unset, .unset] [])) _
    refine XS.aloadN X111.here hx rfl (hb hby at_150) rfl rfl ?_
    show Steps p.tables e below (T111.setTop (mkF m 151 #[.val (.int vx), .val (.ref b1), .val (.int vj), .val (.ref vo), .val (.int ve), .unset, .unset] [(.ref vo)])) _
    refine st119.trans ?_
    show Steps p.tables e below (T119.setTop (mkF m 154 #[.val (.int vx), .val (.ref b1), .val (.int vj), .val (.ref vo), .val (.int ve), .unset, .unset] [(.int (if (vo = ad_DURATION ∨ vo = ad_YEAR_MONTH_DURATION ∨ vo = ad_DAY_TIME_DURATION) then 1 else 0))])) _
    refine XS.istore X119.here hx rfl (hb hby at_154) rfl (l' := #[.val (.int vx), .val (.ref b1), .val (.int vj), .val (.ref vo), .val (.int ve), .val (.int (if (vo = ad_DURATION ∨ vo = ad_YEAR_MONTH_DURATION ∨ vo = ad_DAY_TIME_DURATION) then 1 else 0)), .unset]) rfl ?_
    show Steps p.tables e below (T119.setTop (mkF m 156 #[.val (.int vx), .val (.ref b1), .val (.int vj), .val (.ref vo), .val (.int ve), .val (.int (if (vo = ad_DURATION ∨ vo = ad_YEAR_MONTH_DURATION ∨ vo = ad_DAY_TIME_DURATION) then 1 else 0)), .unset] [])) _
    refine XS.iload X119.here hx rfl (hb hby at_156) rfl ?_
    show Steps p.tables e below (T119.setTop (mkF m 158 #[.val (.int vx), .val (.ref b1), .val (.int vj), .val (.ref vo), .val (.int ve), .val (.int (if (vo = ad_DURATION ∨ vo = ad_YEAR_MONTH_DURATION ∨ vo = ad_DAY_TIME_DURATION) then 1 else 0)), .unset] [(.int (if (vo = ad_DURATION ∨ vo = ad_YEAR_MONTH_DURATION ∨ vo = ad_DAY_TIME_DURATION) then 1 else 0))])) _
    refine XS.iload X119.here hx rfl (hb hby at_158) rfl ?_
    show Steps p.tables e below (T119.setTop (mkF m 160 #[.val (.int vx), .val (.ref b1), .val (.int vj), .val (.ref vo), .val (.int ve), .val (.int (if (vo = ad_DURATION ∨ vo = ad_YEAR_MONTH_DURATION ∨ vo = ad_DAY_TIME_DURATION) then 1 else 0)), .unset] [(.int ve), (.int (if (vo = ad_DURATION ∨ vo = ad_YEAR_MONTH_DURATION ∨ vo = ad_DAY_TIME_DURATION) then 1 else 0))])) _
    exact k
  have hd123 : (if (vo = ad_DURATION ∨ vo = ad_YEAR_MONTH_DURATION ∨ vo = ad_DAY_TIME_DURATION) then 1 else 0) = ve := by rw [hj111]; exact own_ite hiff
  obtain ⟨cq125, kq125, q125a, q125b, q125c⟩ := isOf hZ hh119 Fc121
  obtain ⟨_, _, ⟨T124, L124, k124, n124⟩, -, X124, ⟨Lc124, hQ124, l124, y124, z124⟩, st124⟩ := X119.virtualBack hx (y := (⟨"com/example/nano_xpath/nanoxpath/AtomicKind", "equalityKind", "()Lcom/example/nano_xpath/nanoxpath/AtomicKind;"⟩ : MethodName)) (z := (⟨"com/example/nano_xpath/nanoxpath/AtomicKind", "equalityKind", "()Lcom/example/nano_xpath/nanoxpath/AtomicKind;"⟩ : MethodName)) hown (mvT hZ (hw _ (List.mem_of_getElem? (i := 47) rfl))) (mvT hZ (hw _ (List.mem_of_getElem? (i := 48) rfl))) (notFace_of_selects (args := #[]) (mvT hZ (hw _ (List.mem_of_getElem? (i := 50) rfl)))) (mvT hZ (hw _ (List.mem_of_getElem? (i := 50) rfl))) (mvT hZ (hw _ (List.mem_of_getElem? (i := 49) rfl))) (by decide) (backOf (W := 0) (rm_eqk l Z a0 hw [] vo ad_DURATION ad_YEAR_MONTH_DURATION ad_DAY_TIME_DURATION h103 n0 Zp104 Fc116 Fc117 Fc118 Fc121) hZ (hw _ (List.mem_of_getElem? (i := 51) rfl)) (hw _ (List.mem_of_getElem? (i := 3) rfl)) (by decide) (by decide)) q125a q125c (g := (mkF m 166 #[.val (.int vx), .val (.ref b1), .val (.int vj), .val (.ref vo), .val (.int ve), .val (.int (if (vo = ad_DURATION ∨ vo = ad_YEAR_MONTH_DURATION ∨ vo = ad_DAY_TIME_DURATION) then 1 else 0)), .unset] [(.ref vo)])) rfl (by rw [hml]; rfl) (Steps.refl _) (argsL := []) (rest := []) (lenOf own_pd1 rfl) rfl (by show 2 * 0 + _ ≤ _; exact Nat.le_of_eq rfl) (hb hby at_166) (fun _ _ => ⟨rfl, hh119, (by decide : 1 + 0 ≤ _), (by decide : 17 + 0 ≤ _)⟩)
  dsimp only [Pt.U, Pt.locs, Pt.cells, Pt.slots] at X124 l124 y124 z124 st124 hQ124
  subst l124 y124 z124
  obtain ⟨rfl, Nq124, hh124⟩ := hQ124
  have Nf124 := Fr.app Nf119 Nq124
  have pre126 : ∀ t, Steps p.tables e below (T124.setTop (mkF m 173 #[.val (.int vx), .val (.ref b1), .val (.int vj), .val (.ref vo), .val (.int ve), .val (.int (if (vo = ad_DURATION ∨ vo = ad_YEAR_MONTH_DURATION ∨ vo = ad_DAY_TIME_DURATION) then 1 else 0)), .val (.ref (if (vo = ad_DURATION ∨ vo = ad_YEAR_MONTH_DURATION ∨ vo = ad_DAY_TIME_DURATION) then ad_DURATION else vo))] [(.int ve)])) t → Steps p.tables e below (s₁.setTop (entryFrame m #[(.int vx)] maxLocals)) t := by
    intro t k
    refine pre122 t ?_
    show Steps p.tables e below (T119.setTop (mkF m 160 #[.val (.int vx), .val (.ref b1), .val (.int vj), .val (.ref vo), .val (.int ve), .val (.int (if (vo = ad_DURATION ∨ vo = ad_YEAR_MONTH_DURATION ∨ vo = ad_DAY_TIME_DURATION) then 1 else 0)), .unset] [(.int ve), (.int (if (vo = ad_DURATION ∨ vo = ad_YEAR_MONTH_DURATION ∨ vo = ad_DAY_TIME_DURATION) then 1 else 0))])) _
    refine XS.icmpYes X119.here hx rfl (pc0 := 160) (pc' := 165) rfl (hb hby at_160) rfl (teq hd123).1 (by decide) (by decide) ?_
    show Steps p.tables e below (T119.setTop (mkF m 165 #[.val (.int vx), .val (.ref b1), .val (.int vj), .val (.ref vo), .val (.int ve), .val (.int (if (vo = ad_DURATION ∨ vo = ad_YEAR_MONTH_DURATION ∨ vo = ad_DAY_TIME_DURATION) then 1 else 0)), .unset] [])) _
    refine XS.aloadN X119.here hx rfl (hb hby at_165) rfl rfl ?_
    show Steps p.tables e below (T119.setTop (mkF m 166 #[.val (.int vx), .val (.ref b1), .val (.int vj), .val (.ref vo), .val (.int ve), .val (.int (if (vo = ad_DURATION ∨ vo = ad_YEAR_MONTH_DURATION ∨ vo = ad_DAY_TIME_DURATION) then 1 else 0)), .unset] [(.ref vo)])) _
    refine st124.trans ?_
    show Steps p.tables e below (T124.setTop (mkF m 169 #[.val (.int vx), .val (.ref b1), .val (.int vj), .val (.ref vo), .val (.int ve), .val (.int (if (vo = ad_DURATION ∨ vo = ad_YEAR_MONTH_DURATION ∨ vo = ad_DAY_TIME_DURATION) then 1 else 0)), .unset] [(.ref (if (vo = ad_DURATION ∨ vo = ad_YEAR_MONTH_DURATION ∨ vo = ad_DAY_TIME_DURATION) then ad_DURATION else vo))])) _
    refine XS.astore X124.here hx rfl (hb hby at_169) rfl rfl (l' := #[.val (.int vx), .val (.ref b1), .val (.int vj), .val (.ref vo), .val (.int ve), .val (.int (if (vo = ad_DURATION ∨ vo = ad_YEAR_MONTH_DURATION ∨ vo = ad_DAY_TIME_DURATION) then 1 else 0)), .val (.ref (if (vo = ad_DURATION ∨ vo = ad_YEAR_MONTH_DURATION ∨ vo = ad_DAY_TIME_DURATION) then ad_DURATION else vo))]) rfl ?_
    show Steps p.tables e below (T124.setTop (mkF m 171 #[.val (.int vx), .val (.ref b1), .val (.int vj), .val (.ref vo), .val (.int ve), .val (.int (if (vo = ad_DURATION ∨ vo = ad_YEAR_MONTH_DURATION ∨ vo = ad_DAY_TIME_DURATION) then 1 else 0)), .val (.ref (if (vo = ad_DURATION ∨ vo = ad_YEAR_MONTH_DURATION ∨ vo = ad_DAY_TIME_DURATION) then ad_DURATION else vo))] [])) _
    refine XS.iload X124.here hx rfl (hb hby at_171) rfl ?_
    show Steps p.tables e below (T124.setTop (mkF m 173 #[.val (.int vx), .val (.ref b1), .val (.int vj), .val (.ref vo), .val (.int ve), .val (.int (if (vo = ad_DURATION ∨ vo = ad_YEAR_MONTH_DURATION ∨ vo = ad_DAY_TIME_DURATION) then 1 else 0)), .val (.ref (if (vo = ad_DURATION ∨ vo = ad_YEAR_MONTH_DURATION ∨ vo = ad_DAY_TIME_DURATION) then ad_DURATION else vo))] [(.int ve)])) _
    exact k
  by_cases hc127 : ve = (0 : Int32)
  · have pre128 : ∀ t, Steps p.tables e below (T124.setTop (mkF m 193 #[.val (.int vx), .val (.ref b1), .val (.int vj), .val (.ref vo), .val (.int ve), .val (.int (if (vo = ad_DURATION ∨ vo = ad_YEAR_MONTH_DURATION ∨ vo = ad_DAY_TIME_DURATION) then 1 else 0)), .val (.ref (if (vo = ad_DURATION ∨ vo = ad_YEAR_MONTH_DURATION ∨ vo = ad_DAY_TIME_DURATION) then ad_DURATION else vo))] [(.ref vo), (.ref (if (vo = ad_DURATION ∨ vo = ad_YEAR_MONTH_DURATION ∨ vo = ad_DAY_TIME_DURATION) then ad_DURATION else vo))])) t → Steps p.tables e below (s₁.setTop (entryFrame m #[(.int vx)] maxLocals)) t := by
      intro t k
      refine pre126 t ?_
      show Steps p.tables e below (T124.setTop (mkF m 173 #[.val (.int vx), .val (.ref b1), .val (.int vj), .val (.ref vo), .val (.int ve), .val (.int (if (vo = ad_DURATION ∨ vo = ad_YEAR_MONTH_DURATION ∨ vo = ad_DAY_TIME_DURATION) then 1 else 0)), .val (.ref (if (vo = ad_DURATION ∨ vo = ad_YEAR_MONTH_DURATION ∨ vo = ad_DAY_TIME_DURATION) then ad_DURATION else vo))] [(.int ve)])) _
      refine XS.ifYes X124.here hx rfl (pc0 := 173) (pc' := 190) rfl (hb hby at_173) rfl ((if0 _ _).trans (teq hc127).1) (by decide) (by decide) ?_
      show Steps p.tables e below (T124.setTop (mkF m 190 #[.val (.int vx), .val (.ref b1), .val (.int vj), .val (.ref vo), .val (.int ve), .val (.int (if (vo = ad_DURATION ∨ vo = ad_YEAR_MONTH_DURATION ∨ vo = ad_DAY_TIME_DURATION) then 1 else 0)), .val (.ref (if (vo = ad_DURATION ∨ vo = ad_YEAR_MONTH_DURATION ∨ vo = ad_DAY_TIME_DURATION) then ad_DURATION else vo))] [])) _
      refine XS.aload X124.here hx rfl (hb hby at_190) rfl rfl ?_
      show Steps p.tables e below (T124.setTop (mkF m 192 #[.val (.int vx), .val (.ref b1), .val (.int vj), .val (.ref vo), .val (.int ve), .val (.int (if (vo = ad_DURATION ∨ vo = ad_YEAR_MONTH_DURATION ∨ vo = ad_DAY_TIME_DURATION) then 1 else 0)), .val (.ref (if (vo = ad_DURATION ∨ vo = ad_YEAR_MONTH_DURATION ∨ vo = ad_DAY_TIME_DURATION) then ad_DURATION else vo))] [(.ref (if (vo = ad_DURATION ∨ vo = ad_YEAR_MONTH_DURATION ∨ vo = ad_DAY_TIME_DURATION) then ad_DURATION else vo))])) _
      refine XS.aloadN X124.here hx rfl (hb hby at_192) rfl rfl ?_
      show Steps p.tables e below (T124.setTop (mkF m 193 #[.val (.int vx), .val (.ref b1), .val (.int vj), .val (.ref vo), .val (.int ve), .val (.int (if (vo = ad_DURATION ∨ vo = ad_YEAR_MONTH_DURATION ∨ vo = ad_DAY_TIME_DURATION) then 1 else 0)), .val (.ref (if (vo = ad_DURATION ∨ vo = ad_YEAR_MONTH_DURATION ∨ vo = ad_DAY_TIME_DURATION) then ad_DURATION else vo))] [(.ref vo), (.ref (if (vo = ad_DURATION ∨ vo = ad_YEAR_MONTH_DURATION ∨ vo = ad_DAY_TIME_DURATION) then ad_DURATION else vo))])) _
      exact k
    have hd129 : (if (vo = ad_DURATION ∨ vo = ad_YEAR_MONTH_DURATION ∨ vo = ad_DAY_TIME_DURATION) then ad_DURATION else vo) = vo := if_neg (fun q => own_n hj111 hc127 (hiff.mp q))
    obtain ⟨fs, hr, hrun, hended, hW, hsame⟩ := X124.leave (v := some (.int (1 : Int32))) (fun h => by rw [Bd.returns] at h; cases h)
    refine ⟨_, _, pre128 _ ?_, hrun, hended, _, _, rfl, ?_, ⟨_, rfl⟩, hW, hsame.mono (by decide) (by decide)⟩
    · show Steps p.tables e below (T124.setTop (mkF m 193 #[.val (.int vx), .val (.ref b1), .val (.int vj), .val (.ref vo), .val (.int ve), .val (.int (if (vo = ad_DURATION ∨ vo = ad_YEAR_MONTH_DURATION ∨ vo = ad_DAY_TIME_DURATION) then 1 else 0)), .val (.ref (if (vo = ad_DURATION ∨ vo = ad_YEAR_MONTH_DURATION ∨ vo = ad_DAY_TIME_DURATION) then ad_DURATION else vo))] [(.ref vo), (.ref (if (vo = ad_DURATION ∨ vo = ad_YEAR_MONTH_DURATION ∨ vo = ad_DAY_TIME_DURATION) then ad_DURATION else vo))])) _
      refine Jvm.RoadKit.acmp (g := (mkF m 193 #[.val (.int vx), .val (.ref b1), .val (.int vj), .val (.ref vo), .val (.int ve), .val (.int (if (vo = ad_DURATION ∨ vo = ad_YEAR_MONTH_DURATION ∨ vo = ad_DAY_TIME_DURATION) then 1 else 0)), .val (.ref (if (vo = ad_DURATION ∨ vo = ad_YEAR_MONTH_DURATION ∨ vo = ad_DAY_TIME_DURATION) then ad_DURATION else vo))] [(.ref vo), (.ref (if (vo = ad_DURATION ∨ vo = ad_YEAR_MONTH_DURATION ∨ vo = ad_DAY_TIME_DURATION) then ad_DURATION else vo))])) X124 hx rfl rfl rfl (pc0 := 193) (pc' := 196) (same := true) rfl (hb hby at_193) rfl (decide_eq_true (congrArg Value.ref hd129)) (by decide) (by decide) ?_
      show Steps p.tables e below (T124.setTop (mkF m 196 #[.val (.int vx), .val (.ref b1), .val (.int vj), .val (.ref vo), .val (.int ve), .val (.int (if (vo = ad_DURATION ∨ vo = ad_YEAR_MONTH_DURATION ∨ vo = ad_DAY_TIME_DURATION) then 1 else 0)), .val (.ref (if (vo = ad_DURATION ∨ vo = ad_YEAR_MONTH_DURATION ∨ vo = ad_DAY_TIME_DURATION) then ad_DURATION else vo))] [])) _
      refine XS.iconst X124.here hx rfl (hb hby at_196) ?_
      show Steps p.tables e below (T124.setTop (mkF m 197 #[.val (.int vx), .val (.ref b1), .val (.int vj), .val (.ref vo), .val (.int ve), .val (.int (if (vo = ad_DURATION ∨ vo = ad_YEAR_MONTH_DURATION ∨ vo = ad_DAY_TIME_DURATION) then 1 else 0)), .val (.ref (if (vo = ad_DURATION ∨ vo = ad_YEAR_MONTH_DURATION ∨ vo = ad_DAY_TIME_DURATION) then ad_DURATION else vo))] [(.int (1 : Int32))])) _
      refine XS.goto X124.here hx rfl (pc0 := 197) (pc' := 201) rfl (hb hby at_197) (by decide) (by decide) ?_
      show Steps p.tables e below (T124.setTop (mkF m 201 #[.val (.int vx), .val (.ref b1), .val (.int vj), .val (.ref vo), .val (.int ve), .val (.int (if (vo = ad_DURATION ∨ vo = ad_YEAR_MONTH_DURATION ∨ vo = ad_DAY_TIME_DURATION) then 1 else 0)), .val (.ref (if (vo = ad_DURATION ∨ vo = ad_YEAR_MONTH_DURATION ∨ vo = ad_DAY_TIME_DURATION) then ad_DURATION else vo))] [(.int (1 : Int32))])) _
      exact retN X124 hx (t := .boolean) Bd.returns (by simp) (hb hby at_201) hr
    · show Q0 Z vx ad_NUMBER ad_STRING ad_BOOLEAN ad_DATE_TIME ad_DATE ad_TIME ad_DURATION ad_YEAR_MONTH_DURATION ad_DAY_TIME_DURATION ad_G_YEAR_MONTH ad_G_YEAR ad_G_MONTH_DAY ad_G_DAY ad_G_MONTH ad_HEX_BINARY ad_BASE64_BINARY ad_QNAME h0 n0 _ T124.heap _
      rw [hh124]
      exact ⟨rfl, Nf124⟩
  · obtain ⟨T130, X130, e130, st130⟩ := getS2 X124 hx hZ hown (host := "") (Or.inl (hw _ (List.mem_of_getElem? (i := 16) rfl))) Via.refl hh124 Fc116 (g := (mkF m 178 #[.val (.int vx), .val (.ref b1), .val (.int vj), .val (.ref vo), .val (.int ve), .val (.int (if (vo = ad_DURATION ∨ vo = ad_YEAR_MONTH_DURATION ∨ vo = ad_DAY_TIME_DURATION) then 1 else 0)), .val (.ref (if (vo = ad_DURATION ∨ vo = ad_YEAR_MONTH_DURATION ∨ vo = ad_DAY_TIME_DURATION) then ad_DURATION else vo))] [(.ref (if (vo = ad_DURATION ∨ vo = ad_YEAR_MONTH_DURATION ∨ vo = ad_DAY_TIME_DURATION) then ad_DURATION else vo))])) rfl (hb hby at_178)
    have pre131 : ∀ t, Steps p.tables e below (T130.setTop (mkF m 181 #[.val (.int vx), .val (.ref b1), .val (.int vj), .val (.ref vo), .val (.int ve), .val (.int (if (vo = ad_DURATION ∨ vo = ad_YEAR_MONTH_DURATION ∨ vo = ad_DAY_TIME_DURATION) then 1 else 0)), .val (.ref (if (vo = ad_DURATION ∨ vo = ad_YEAR_MONTH_DURATION ∨ vo = ad_DAY_TIME_DURATION) then ad_DURATION else vo))] [(.ref ad_DURATION), (.ref (if (vo = ad_DURATION ∨ vo = ad_YEAR_MONTH_DURATION ∨ vo = ad_DAY_TIME_DURATION) then ad_DURATION else vo))])) t → Steps p.tables e below (s₁.setTop (entryFrame m #[(.int vx)] maxLocals)) t := by
      intro t k
      refine pre126 t ?_
      show Steps p.tables e below (T124.setTop (mkF m 173 #[.val (.int vx), .val (.ref b1), .val (.int vj), .val (.ref vo), .val (.int ve), .val (.int (if (vo = ad_DURATION ∨ vo = ad_YEAR_MONTH_DURATION ∨ vo = ad_DAY_TIME_DURATION) then 1 else 0)), .val (.ref (if (vo = ad_DURATION ∨ vo = ad_YEAR_MONTH_DURATION ∨ vo = ad_DAY_TIME_DURATION) then ad_DURATION else vo))] [(.int ve)])) _
      refine XS.ifNo X124.here hx rfl (hb hby at_173) rfl ((if0 _ _).trans (feq hc127).1) ?_
      show Steps p.tables e below (T124.setTop (mkF m 176 #[.val (.int vx), .val (.ref b1), .val (.int vj), .val (.ref vo), .val (.int ve), .val (.int (if (vo = ad_DURATION ∨ vo = ad_YEAR_MONTH_DURATION ∨ vo = ad_DAY_TIME_DURATION) then 1 else 0)), .val (.ref (if (vo = ad_DURATION ∨ vo = ad_YEAR_MONTH_DURATION ∨ vo = ad_DAY_TIME_DURATION) then ad_DURATION else vo))] [])) _
      refine XS.aload X124.here hx rfl (hb hby at_176) rfl rfl ?_
      show Steps p.tables e below (T124.setTop (mkF m 178 #[.val (.int vx), .val (.ref b1), .val (.int vj), .val (.ref vo), .val (.int ve), .val (.int (if (vo = ad_DURATION ∨ vo = ad_YEAR_MONTH_DURATION ∨ vo = ad_DAY_TIME_DURATION) then 1 else 0)), .val (.ref (if (vo = ad_DURATION ∨ vo = ad_YEAR_MONTH_DURATION ∨ vo = ad_DAY_TIME_DURATION) then ad_DURATION else vo))] [(.ref (if (vo = ad_DURATION ∨ vo = ad_YEAR_MONTH_DURATION ∨ vo = ad_DAY_TIME_DURATION) then ad_DURATION else vo))])) _
      refine st130 _ ?_
      show Steps p.tables e below (T130.setTop (mkF m 181 #[.val (.int vx), .val (.ref b1), .val (.int vj), .val (.ref vo), .val (.int ve), .val (.int (if (vo = ad_DURATION ∨ vo = ad_YEAR_MONTH_DURATION ∨ vo = ad_DAY_TIME_DURATION) then 1 else 0)), .val (.ref (if (vo = ad_DURATION ∨ vo = ad_YEAR_MONTH_DURATION ∨ vo = ad_DAY_TIME_DURATION) then ad_DURATION else vo))] [(.ref ad_DURATION), (.ref (if (vo = ad_DURATION ∨ vo = ad_YEAR_MONTH_DURATION ∨ vo = ad_DAY_TIME_DURATION) then ad_DURATION else vo))])) _
      exact k
    have hd132 : (if (vo = ad_DURATION ∨ vo = ad_YEAR_MONTH_DURATION ∨ vo = ad_DAY_TIME_DURATION) then ad_DURATION else vo) = ad_DURATION := if_pos (hiff.mpr (own_p hj111 hc127))
    obtain ⟨fs, hr, hrun, hended, hW, hsame⟩ := X130.leave (v := some (.int (1 : Int32))) (fun h => by rw [Bd.returns] at h; cases h)
    refine ⟨_, _, pre131 _ ?_, hrun, hended, _, _, rfl, ?_, ⟨_, rfl⟩, hW, hsame.mono (by decide) (by decide)⟩
    · show Steps p.tables e below (T130.setTop (mkF m 181 #[.val (.int vx), .val (.ref b1), .val (.int vj), .val (.ref vo), .val (.int ve), .val (.int (if (vo = ad_DURATION ∨ vo = ad_YEAR_MONTH_DURATION ∨ vo = ad_DAY_TIME_DURATION) then 1 else 0)), .val (.ref (if (vo = ad_DURATION ∨ vo = ad_YEAR_MONTH_DURATION ∨ vo = ad_DAY_TIME_DURATION) then ad_DURATION else vo))] [(.ref ad_DURATION), (.ref (if (vo = ad_DURATION ∨ vo = ad_YEAR_MONTH_DURATION ∨ vo = ad_DAY_TIME_DURATION) then ad_DURATION else vo))])) _
      refine Jvm.RoadKit.acmp (g := (mkF m 181 #[.val (.int vx), .val (.ref b1), .val (.int vj), .val (.ref vo), .val (.int ve), .val (.int (if (vo = ad_DURATION ∨ vo = ad_YEAR_MONTH_DURATION ∨ vo = ad_DAY_TIME_DURATION) then 1 else 0)), .val (.ref (if (vo = ad_DURATION ∨ vo = ad_YEAR_MONTH_DURATION ∨ vo = ad_DAY_TIME_DURATION) then ad_DURATION else vo))] [(.ref ad_DURATION), (.ref (if (vo = ad_DURATION ∨ vo = ad_YEAR_MONTH_DURATION ∨ vo = ad_DAY_TIME_DURATION) then ad_DURATION else vo))])) X130 hx rfl rfl rfl (pc0 := 181) (pc' := 184) (same := true) rfl (hb hby at_181) rfl (decide_eq_true (congrArg Value.ref hd132)) (by decide) (by decide) ?_
      show Steps p.tables e below (T130.setTop (mkF m 184 #[.val (.int vx), .val (.ref b1), .val (.int vj), .val (.ref vo), .val (.int ve), .val (.int (if (vo = ad_DURATION ∨ vo = ad_YEAR_MONTH_DURATION ∨ vo = ad_DAY_TIME_DURATION) then 1 else 0)), .val (.ref (if (vo = ad_DURATION ∨ vo = ad_YEAR_MONTH_DURATION ∨ vo = ad_DAY_TIME_DURATION) then ad_DURATION else vo))] [])) _
      refine XS.iconst X130.here hx rfl (hb hby at_184) ?_
      show Steps p.tables e below (T130.setTop (mkF m 185 #[.val (.int vx), .val (.ref b1), .val (.int vj), .val (.ref vo), .val (.int ve), .val (.int (if (vo = ad_DURATION ∨ vo = ad_YEAR_MONTH_DURATION ∨ vo = ad_DAY_TIME_DURATION) then 1 else 0)), .val (.ref (if (vo = ad_DURATION ∨ vo = ad_YEAR_MONTH_DURATION ∨ vo = ad_DAY_TIME_DURATION) then ad_DURATION else vo))] [(.int (1 : Int32))])) _
      refine XS.goto X130.here hx rfl (pc0 := 185) (pc' := 189) rfl (hb hby at_185) (by decide) (by decide) ?_
      show Steps p.tables e below (T130.setTop (mkF m 189 #[.val (.int vx), .val (.ref b1), .val (.int vj), .val (.ref vo), .val (.int ve), .val (.int (if (vo = ad_DURATION ∨ vo = ad_YEAR_MONTH_DURATION ∨ vo = ad_DAY_TIME_DURATION) then 1 else 0)), .val (.ref (if (vo = ad_DURATION ∨ vo = ad_YEAR_MONTH_DURATION ∨ vo = ad_DAY_TIME_DURATION) then ad_DURATION else vo))] [(.int (1 : Int32))])) _
      exact retN X130 hx (t := .boolean) Bd.returns (by simp) (hb hby at_189) hr
    · show Q0 Z vx ad_NUMBER ad_STRING ad_BOOLEAN ad_DATE_TIME ad_DATE ad_TIME ad_DURATION ad_YEAR_MONTH_DURATION ad_DAY_TIME_DURATION ad_G_YEAR_MONTH ad_G_YEAR ad_G_MONTH_DAY ad_G_DAY ad_G_MONTH ad_HEX_BINARY ad_BASE64_BINARY ad_QNAME h0 n0 _ T130.heap _
      rw [e130]
      exact ⟨rfl, Nf124⟩
set_option maxRecDepth 65536 in
set_option maxHeartbeats 40000000 in
theorem comes_1 {Post : Tables → Env → Array Value → State → Outcome → State → Prop} (hpost : ∀ tb e args s v u, (limb_1_1.after args s (.returned v) u = true ∧ limb_1_2.after args s (.returned v) u = true ∧ True) → FrameEnd s (.returned v) u (Jvm.fieldLocs frame_1_writes args s ++ Jvm.arrayLocs frame_1_arrays args s ++ Jvm.staticLocs frame_1_statics s) 16 128 → Post tb e args s (.returned v) u) :
    ArmFor flags0 classFile x code maxLocals ret World_1 tables_1 room_1 Calls_1 rest_1 Pre_1 Post := by
  intro l hfl _ _ p e ha hc hk s m args below hf hA hF happ hP
  obtain ⟨hcalls, hrest, hpre⟩ := hP
  obtain ⟨-, -, -, hnamed, -, -, -, hat⟩ := (Spec.applies_iff hf).mp happ
  obtain ⟨hg, hn⟩ := and_e (Cond.before_iff.mp (show (Jvm.Cond.and given_1 narrow_1).before args s = true from hpre))
  obtain ⟨ga1, gb1⟩ := and_e hg
  obtain ⟨w0, rfl⟩ : ∃ w0 : Value, args = #[w0] := by
    have hs : args.size = 1 := by simpa [Cond.value, given_1] using ga1
    obtain ⟨L⟩ := args
    match L, hs with
    | [w0], _ => exact ⟨w0, rfl⟩
  have hw := fun d (hd : d ∈ tables_1) => atoms_spec (ws := Jvm.Cond.code x code maxLocals ret :: tables_1) hat d (List.mem_cons_of_mem _ hd)
  have hfit : Fit s := fun {y c} hc i hi => by
    obtain ⟨ha, rfl⟩ := Array.getElem?_eq_some_iff.mp hc
    have q := List.all_eq_true.mp ((Array.all_eq_true_iff_forall_mem.mp hF) _ (Array.getElem_mem ha)) i (List.mem_range.mpr hi)
    simpa [Array.getElem?_eq_getElem hi] using q
  obtain ⟨i0, ei0⟩ := is_v gb1
  obtain rfl : w0 = (.int i0) := Option.some.inj ei0
  obtain ⟨na1, nb1⟩ := and_e hn
  obtain ⟨na2, nb2⟩ := and_e nb1
  obtain ⟨na3, nb3⟩ := and_e nb2
  obtain ⟨na4, nb4⟩ := and_e nb3
  obtain ⟨na5, nb5⟩ := and_e nb4
  obtain ⟨na6, nb6⟩ := and_e nb5
  obtain ⟨na7, nb7⟩ := and_e nb6
  obtain ⟨na8, nb8⟩ := and_e nb7
  obtain ⟨na9, nb9⟩ := and_e nb8
  obtain ⟨na10, nb10⟩ := and_e nb9
  obtain ⟨na11, nb11⟩ := and_e nb10
  obtain ⟨na12, nb12⟩ := and_e nb11
  obtain ⟨na13, nb13⟩ := and_e nb12
  obtain ⟨na14, nb14⟩ := and_e nb13
  obtain ⟨na15, nb15⟩ := and_e nb14
  obtain ⟨na16, nb16⟩ := and_e nb15
  obtain ⟨na17, nb17⟩ := and_e nb16
  obtain ⟨na18, nb18⟩ := and_e nb17
  obtain ⟨na19, nb19⟩ := and_e nb18
  obtain ⟨na20, nb20⟩ := and_e nb19
  obtain ⟨na21, nb21⟩ := and_e nb20
  obtain ⟨na22, nb22⟩ := and_e nb21
  obtain ⟨na23, nb23⟩ := and_e nb22
  obtain ⟨na24, nb24⟩ := and_e nb23
  obtain ⟨na25, nb25⟩ := and_e nb24
  obtain ⟨na26, nb26⟩ := and_e nb25
  obtain ⟨na27, nb27⟩ := and_e nb26
  obtain ⟨na28, nb28⟩ := and_e nb27
  obtain ⟨na29, nb29⟩ := and_e nb28
  obtain ⟨na30, nb30⟩ := and_e nb29
  obtain ⟨na31, nb31⟩ := and_e nb30
  obtain ⟨na32, nb32⟩ := and_e nb31
  obtain ⟨na33, nb33⟩ := and_e nb32
  obtain ⟨ad_NUMBER, ev_NUMBER⟩ := exa_v na1
  have E_NUMBER := Exa.start ev_NUMBER na1
  have S_NUMBER := Sta.start ev_NUMBER (Or.inr ⟨(hw _ (List.mem_of_getElem? (i := 3) rfl)), (hw _ (List.mem_of_getElem? (i := 4) rfl))⟩)
  have O_NUMBER : Fld s s.heap ad_NUMBER "java/lang/Enum" "ordinal" "I" (.int (0 : Int32)) := Fld.start (own_ord ev_NUMBER na18)
  obtain ⟨ad_STRING, ev_STRING⟩ := exa_v na2
  have E_STRING := Exa.start ev_STRING na2
  have S_STRING := Sta.start ev_STRING (Or.inr ⟨(hw _ (List.mem_of_getElem? (i := 3) rfl)), (hw _ (List.mem_of_getElem? (i := 7) rfl))⟩)
  have O_STRING : Fld s s.heap ad_STRING "java/lang/Enum" "ordinal" "I" (.int (1 : Int32)) := Fld.start (own_ord ev_STRING na26)
  obtain ⟨ad_BOOLEAN, ev_BOOLEAN⟩ := exa_v na3
  have E_BOOLEAN := Exa.start ev_BOOLEAN na3
  have S_BOOLEAN := Sta.start ev_BOOLEAN (Or.inr ⟨(hw _ (List.mem_of_getElem? (i := 3) rfl)), (hw _ (List.mem_of_getElem? (i := 9) rfl))⟩)
  have O_BOOLEAN : Fld s s.heap ad_BOOLEAN "java/lang/Enum" "ordinal" "I" (.int (2 : Int32)) := Fld.start (own_ord ev_BOOLEAN na24)
  obtain ⟨ad_DATE_TIME, ev_DATE_TIME⟩ := exa_v na4
  have E_DATE_TIME := Exa.start ev_DATE_TIME na4
  have S_DATE_TIME := Sta.start ev_DATE_TIME (Or.inr ⟨(hw _ (List.mem_of_getElem? (i := 3) rfl)), (hw _ (List.mem_of_getElem? (i := 11) rfl))⟩)
  have O_DATE_TIME : Fld s s.heap ad_DATE_TIME "java/lang/Enum" "ordinal" "I" (.int (3 : Int32)) := Fld.start (own_ord ev_DATE_TIME na22)
  obtain ⟨ad_DATE, ev_DATE⟩ := exa_v na5
  have E_DATE := Exa.start ev_DATE na5
  have S_DATE := Sta.start ev_DATE (Or.inr ⟨(hw _ (List.mem_of_getElem? (i := 3) rfl)), (hw _ (List.mem_of_getElem? (i := 13) rfl))⟩)
  have O_DATE : Fld s s.heap ad_DATE "java/lang/Enum" "ordinal" "I" (.int (4 : Int32)) := Fld.start (own_ord ev_DATE na28)
  obtain ⟨ad_TIME, ev_TIME⟩ := exa_v na6
  have E_TIME := Exa.start ev_TIME na6
  have S_TIME := Sta.start ev_TIME (Or.inr ⟨(hw _ (List.mem_of_getElem? (i := 3) rfl)), (hw _ (List.mem_of_getElem? (i := 15) rfl))⟩)
  have O_TIME : Fld s s.heap ad_TIME "java/lang/Enum" "ordinal" "I" (.int (5 : Int32)) := Fld.start (own_ord ev_TIME na32)
  obtain ⟨ad_DURATION, ev_DURATION⟩ := exa_v na7
  have E_DURATION := Exa.start ev_DURATION na7
  have S_DURATION := Sta.start ev_DURATION (Or.inr ⟨(hw _ (List.mem_of_getElem? (i := 3) rfl)), (hw _ (List.mem_of_getElem? (i := 17) rfl))⟩)
  have O_DURATION : Fld s s.heap ad_DURATION "java/lang/Enum" "ordinal" "I" (.int (6 : Int32)) := Fld.start (own_ord ev_DURATION na19)
  obtain ⟨ad_YEAR_MONTH_DURATION, ev_YEAR_MONTH_DURATION⟩ := exa_v na8
  have E_YEAR_MONTH_DURATION := Exa.start ev_YEAR_MONTH_DURATION na8
  have S_YEAR_MONTH_DURATION := Sta.start ev_YEAR_MONTH_DURATION (Or.inr ⟨(hw _ (List.mem_of_getElem? (i := 3) rfl)), (hw _ (List.mem_of_getElem? (i := 19) rfl))⟩)
  have O_YEAR_MONTH_DURATION : Fld s s.heap ad_YEAR_MONTH_DURATION "java/lang/Enum" "ordinal" "I" (.int (7 : Int32)) := Fld.start (own_ord ev_YEAR_MONTH_DURATION na20)
  obtain ⟨ad_DAY_TIME_DURATION, ev_DAY_TIME_DURATION⟩ := exa_v na9
  have E_DAY_TIME_DURATION := Exa.start ev_DAY_TIME_DURATION na9
  have S_DAY_TIME_DURATION := Sta.start ev_DAY_TIME_DURATION (Or.inr ⟨(hw _ (List.mem_of_getElem? (i := 3) rfl)), (hw _ (List.mem_of_getElem? (i := 21) rfl))⟩)
  have O_DAY_TIME_DURATION : Fld s s.heap ad_DAY_TIME_DURATION "java/lang/Enum" "ordinal" "I" (.int (8 : Int32)) := Fld.start (own_ord ev_DAY_TIME_DURATION na21)
  obtain ⟨ad_G_YEAR_MONTH, ev_G_YEAR_MONTH⟩ := exa_v na10
  have E_G_YEAR_MONTH := Exa.start ev_G_YEAR_MONTH na10
  have S_G_YEAR_MONTH := Sta.start ev_G_YEAR_MONTH (Or.inr ⟨(hw _ (List.mem_of_getElem? (i := 3) rfl)), (hw _ (List.mem_of_getElem? (i := 23) rfl))⟩)
  have O_G_YEAR_MONTH : Fld s s.heap ad_G_YEAR_MONTH "java/lang/Enum" "ordinal" "I" (.int (9 : Int32)) := Fld.start (own_ord ev_G_YEAR_MONTH na23)
  obtain ⟨ad_G_YEAR, ev_G_YEAR⟩ := exa_v na11
  have E_G_YEAR := Exa.start ev_G_YEAR na11
  have S_G_YEAR := Sta.start ev_G_YEAR (Or.inr ⟨(hw _ (List.mem_of_getElem? (i := 3) rfl)), (hw _ (List.mem_of_getElem? (i := 25) rfl))⟩)
  have O_G_YEAR : Fld s s.heap ad_G_YEAR "java/lang/Enum" "ordinal" "I" (.int (10 : Int32)) := Fld.start (own_ord ev_G_YEAR na29)
  obtain ⟨ad_G_MONTH_DAY, ev_G_MONTH_DAY⟩ := exa_v na12
  have E_G_MONTH_DAY := Exa.start ev_G_MONTH_DAY na12
  have S_G_MONTH_DAY := Sta.start ev_G_MONTH_DAY (Or.inr ⟨(hw _ (List.mem_of_getElem? (i := 3) rfl)), (hw _ (List.mem_of_getElem? (i := 27) rfl))⟩)
  have O_G_MONTH_DAY : Fld s s.heap ad_G_MONTH_DAY "java/lang/Enum" "ordinal" "I" (.int (11 : Int32)) := Fld.start (own_ord ev_G_MONTH_DAY na25)
  obtain ⟨ad_G_DAY, ev_G_DAY⟩ := exa_v na13
  have E_G_DAY := Exa.start ev_G_DAY na13
  have S_G_DAY := Sta.start ev_G_DAY (Or.inr ⟨(hw _ (List.mem_of_getElem? (i := 3) rfl)), (hw _ (List.mem_of_getElem? (i := 29) rfl))⟩)
  have O_G_DAY : Fld s s.heap ad_G_DAY "java/lang/Enum" "ordinal" "I" (.int (12 : Int32)) := Fld.start (own_ord ev_G_DAY nb33)
  obtain ⟨ad_G_MONTH, ev_G_MONTH⟩ := exa_v na14
  have E_G_MONTH := Exa.start ev_G_MONTH na14
  have S_G_MONTH := Sta.start ev_G_MONTH (Or.inr ⟨(hw _ (List.mem_of_getElem? (i := 3) rfl)), (hw _ (List.mem_of_getElem? (i := 31) rfl))⟩)
  have O_G_MONTH : Fld s s.heap ad_G_MONTH "java/lang/Enum" "ordinal" "I" (.int (13 : Int32)) := Fld.start (own_ord ev_G_MONTH na27)
  obtain ⟨ad_HEX_BINARY, ev_HEX_BINARY⟩ := exa_v na15
  have E_HEX_BINARY := Exa.start ev_HEX_BINARY na15
  have S_HEX_BINARY := Sta.start ev_HEX_BINARY (Or.inr ⟨(hw _ (List.mem_of_getElem? (i := 3) rfl)), (hw _ (List.mem_of_getElem? (i := 33) rfl))⟩)
  have O_HEX_BINARY : Fld s s.heap ad_HEX_BINARY "java/lang/Enum" "ordinal" "I" (.int (14 : Int32)) := Fld.start (own_ord ev_HEX_BINARY na33)
  obtain ⟨ad_BASE64_BINARY, ev_BASE64_BINARY⟩ := exa_v na16
  have E_BASE64_BINARY := Exa.start ev_BASE64_BINARY na16
  have S_BASE64_BINARY := Sta.start ev_BASE64_BINARY (Or.inr ⟨(hw _ (List.mem_of_getElem? (i := 3) rfl)), (hw _ (List.mem_of_getElem? (i := 35) rfl))⟩)
  have O_BASE64_BINARY : Fld s s.heap ad_BASE64_BINARY "java/lang/Enum" "ordinal" "I" (.int (15 : Int32)) := Fld.start (own_ord ev_BASE64_BINARY na31)
  obtain ⟨ad_QNAME, ev_QNAME⟩ := exa_v na17
  have E_QNAME := Exa.start ev_QNAME na17
  have S_QNAME := Sta.start ev_QNAME (Or.inr ⟨(hw _ (List.mem_of_getElem? (i := 3) rfl)), (hw _ (List.mem_of_getElem? (i := 37) rfl))⟩)
  have O_QNAME : Fld s s.heap ad_QNAME "java/lang/Enum" "ordinal" "I" (.int (16 : Int32)) := Fld.start (own_ord ev_QNAME na30)
  obtain ⟨n, o, h1, h2, h3, _, L, rfl, ⟨rfl, N⟩, hq⟩ := rm0 l s _ hw tables_1 i0 ad_NUMBER ad_STRING ad_BOOLEAN ad_DATE_TIME ad_DATE ad_TIME ad_DURATION ad_YEAR_MONTH_DURATION ad_DAY_TIME_DURATION ad_G_YEAR_MONTH ad_G_YEAR ad_G_MONTH_DAY ad_G_DAY ad_G_MONTH ad_HEX_BINARY ad_BASE64_BINARY ad_QNAME s.heap s.heap.size (Nat.le_refl _) S_NUMBER S_STRING S_BOOLEAN S_DATE_TIME S_DATE S_TIME S_DURATION S_YEAR_MONTH_DURATION S_DAY_TIME_DURATION S_G_YEAR_MONTH S_G_YEAR S_G_MONTH_DAY S_G_DAY S_G_MONTH S_HEX_BINARY S_BASE64_BINARY S_QNAME E_NUMBER E_STRING E_BOOLEAN E_DATE_TIME E_DATE E_TIME E_DURATION E_YEAR_MONTH_DURATION E_DAY_TIME_DURATION E_G_YEAR_MONTH E_G_YEAR E_G_MONTH_DAY E_G_DAY E_G_MONTH E_HEX_BINARY E_BASE64_BINARY E_QNAME O_NUMBER O_STRING O_BOOLEAN O_DATE_TIME O_DATE O_TIME O_DURATION O_YEAR_MONTH_DURATION O_DAY_TIME_DURATION O_G_YEAR_MONTH O_G_YEAR O_G_MONTH_DAY O_G_DAY O_G_MONTH O_HEX_BINARY O_BASE64_BINARY O_QNAME p e ha hc hk s m _ below hf ((Spec.applies_iff_loose hf).mp happ).1 ⟨rfl, State.Warmed39.refl s, rfl⟩ trivial
  refine ⟨n, _, h1, h2, h3, hpost _ _ _ _ _ _ ⟨Cond.after_iff.mpr rfl, Cond.after_iff.mpr (eq_i res_at (Term.int_eval (1)) rfl), trivial⟩ ⟨hq.1, hq.2.1, (hq.2.2.sift fun y hy => Or.inr (N y hy)).mono (by decide) (by decide)⟩⟩
theorem main_1_1 : Claimed_1_1 := comes_1 fun _ _ _ _ _ _ h hF => ⟨h.1, hF⟩
theorem main_1_2 : Claimed_1_2 := comes_1 fun _ _ _ _ _ _ h hF => ⟨h.2.1, hF⟩
end Jvm.Pilot.@@N@@
namespace Jvm.Pilot.@@N@@
open Jvm Jvm.ClassFile Sem Op Lib Jvm.Free Jvm.Stand Jvm.Pilot.@@N@@.Jvm.D
/-! MADE BY PROGRAM (witnessworld.py) out of the Statement's table words and the real class files: 13 classes; the members and pool entries that the words name. The judged class is class 1, her method 1. -/
namespace start1
open Jvm.ClassFile
def u (s : String) : CpInfo := .utf8 (stringToUtf16 s)
/-- a pool by its gaps: so many unusable entries, then the entry; so many at the end -/
def gap : Nat → List CpInfo → List CpInfo
  | 0, r => r
  | n + 1, r => .unusable :: gap n r
def poolList (es : List (Nat × CpInfo)) (last : Nat) : List CpInfo := es.foldr (fun e r => gap e.1 (e.2 :: r)) (gap last [])
def pool (es : List (Nat × CpInfo)) (last : Nat) : Array CpInfo := ⟨poolList es last⟩
def fileOf (pool : Array CpInfo) (this : Nat) (attrs : Array Attribute := #[]) (ms : Array MethodInfo := #[]) (fl : Nat := 33) (sup : Nat := 0) (ifs : Array Nat := #[]) (fds : Array FieldInfo := #[]) : ClassFile where
  minorVersion := 0
  majorVersion := 65
  constantPool := pool
  accessFlags := fl
  thisClass := this
  superClass := sup
  interfaces := ifs
  fields := fds
  methods := ms
  attributes := attrs
def plain (name : String) (sup : Option ClassId) : Class where
  name := name
  kind := .ordinary
  loader := none
  accessFlags := 33
  super := sup
  interfaces := #[]
  cf := none
  fields := #[]
  methods := #[]
  instanceTypes := #[]
  staticTypes := #[]
  resolved := #[]
  callSites := []
  init := .initialized
  statics := none
  mirror := none

def pool0 : Array CpInfo := pool [(5, u "<init>"), (0, u "()V"), (1, .class_ 10), (1, u "java/lang/Object")] 113

def k0m0 : Method := { name := "<init>", desc := "()V", sig := { parameters := [], returnType := none }, accessFlags := 1, code := none }
/-- java/lang/Object -/
def k0 : Class := { plain "java/lang/Object" none with
  accessFlags := 33
  interfaces := #[]
  cf := some (fileOf pool0 8 #[] #[{ accessFlags := 1, nameIndex := 5, descriptorIndex := 6, attributes := #[] }] 33 0 #[] #[])
  fields := #[]
  methods := #[k0m0]
  instanceTypes := #[]
  staticTypes := #[]
  resolved := Array.replicate 124 none
  statics := none }

def pool1 : Array CpInfo := pool [(2, .class_ 4), (1, u "java/lang/Object"), (0, u "<init>"), (0, u "()V"), (0, .class_ 8), (0, u "com/example/nano_xpath/nanoxpath/AtomicKind"), (0, .fieldref 7 10), (0, .nameAndType 11 12), (0, u "NUMBER"), (0, u "Lcom/example/nano_xpath/nanoxpath/AtomicKind;"), (0, .fieldref 7 14), (0, .nameAndType 15 12), (0, u "STRING"), (0, .fieldref 7 17), (0, .nameAndType 18 12), (0, u "BOOLEAN"), (0, .fieldref 7 20), (0, .nameAndType 21 12), (0, u "DATE_TIME"), (0, .fieldref 7 23), (0, .nameAndType 24 12), (0, u "DATE"), (0, .fieldref 7 26), (0, .nameAndType 27 12), (0, u "TIME"), (0, .fieldref 7 29), (0, .nameAndType 30 12), (0, u "DURATION"), (0, .fieldref 7 32), (0, .nameAndType 33 12), (0, u "YEAR_MONTH_DURATION"), (0, .fieldref 7 35), (0, .nameAndType 36 12), (0, u "DAY_TIME_DURATION"), (0, .fieldref 7 38), (0, .nameAndType 39 12), (0, u "G_YEAR_MONTH"), (0, .fieldref 7 41), (0, .nameAndType 42 12), (0, u "G_YEAR"), (0, .fieldref 7 44), (0, .nameAndType 45 12), (0, u "G_MONTH_DAY"), (0, .fieldref 7 47), (0, .nameAndType 48 12), (0, u "G_DAY"), (0, .fieldref 7 50), (0, .nameAndType 51 12), (0, u "G_MONTH"), (0, .fieldref 7 53), (0, .nameAndType 54 12), (0, u "HEX_BINARY"), (0, .fieldref 7 56), (0, .nameAndType 57 12), (0, u "BASE64_BINARY"), (0, .fieldref 7 59), (0, .nameAndType 60 12), (0, u "QNAME"), (0, .integer 2147483647), (0, .methodref 7 63), (0, .nameAndType 64 65), (0, u "isDuration"), (0, u "()Z"), (0, .methodref 7 67), (0, .nameAndType 68 69), (0, u "equalityKind"), (0, u "()Lcom/example/nano_xpath/nanoxpath/AtomicKind;"), (0, .class_ 71), (0, u "com/example/nano_xpath/nanoxpath/AtomicKindIsDurationPinLaw"), (2, u "law"), (0, u "(I)Z")] 5

def k1m0 : Method := { name := "<init>", desc := "()V", sig := { parameters := [], returnType := none }, accessFlags := 2, code := none }
def k1c1 : Code := { maxStack := 4, maxLocals := 7, code := code, exceptionTable := #[], attributes := #[] }
def k1m1 : Method := { name := "law", desc := "(I)Z", sig := { parameters := [.int], returnType := some .boolean }, accessFlags := 9, code := some k1c1 }
/-- com/example/nano_xpath/nanoxpath/AtomicKindIsDurationPinLaw -/
def k1 : Class := { plain "com/example/nano_xpath/nanoxpath/AtomicKindIsDurationPinLaw" (some 0) with
  accessFlags := 49
  interfaces := #[]
  cf := some (fileOf pool1 70 #[] #[{ accessFlags := 2, nameIndex := 5, descriptorIndex := 6, attributes := #[] }, { accessFlags := 9, nameIndex := 74, descriptorIndex := 75, attributes := #[] }] 49 2 #[] #[])
  fields := #[]
  methods := #[k1m0, k1m1]
  instanceTypes := #[]
  staticTypes := #[]
  resolved := Array.replicate 81 none
  statics := none }

def pool2 : Array CpInfo := pool [(1, .class_ 2), (0, u "java/lang/constant/Constable"), (0, .class_ 4), (0, u "java/lang/Object")] 6

/-- java/lang/constant/Constable -/
def k2 : Class := { plain "java/lang/constant/Constable" (some 0) with
  accessFlags := 1537
  interfaces := #[]
  cf := some (fileOf pool2 1 #[] #[] 1537 3 #[] #[])
  fields := #[]
  methods := #[]
  instanceTypes := #[]
  staticTypes := #[]
  resolved := Array.replicate 11 none
  statics := none }

def pool3 : Array CpInfo := pool [(1, .class_ 2), (0, u "java/lang/Comparable"), (0, .class_ 4), (0, u "java/lang/Object")] 7

/-- java/lang/Comparable -/
def k3 : Class := { plain "java/lang/Comparable" (some 0) with
  accessFlags := 1537
  interfaces := #[]
  cf := some (fileOf pool3 1 #[] #[] 1537 3 #[] #[])
  fields := #[]
  methods := #[]
  instanceTypes := #[]
  staticTypes := #[]
  resolved := Array.replicate 12 none
  statics := none }

def pool4 : Array CpInfo := pool [(1, .class_ 2), (0, u "java/io/Serializable"), (0, .class_ 4), (0, u "java/lang/Object")] 2

/-- java/io/Serializable -/
def k4 : Class := { plain "java/io/Serializable" (some 0) with
  accessFlags := 1537
  interfaces := #[]
  cf := some (fileOf pool4 1 #[] #[] 1537 3 #[] #[])
  fields := #[]
  methods := #[]
  instanceTypes := #[]
  staticTypes := #[]
  resolved := Array.replicate 7 none
  statics := none }

def pool5 : Array CpInfo := pool [(2, .class_ 4), (1, u "java/lang/Enum"), (0, u "name"), (0, u "Ljava/lang/String;"), (2, u "ordinal"), (0, u "I"), (1, .class_ 14), (1, u "java/lang/Object"), (4, u "hash"), (86, .class_ 108), (1, u "java/lang/Enum$EnumDesc"), (2, .class_ 112), (0, u "java/lang/constant/Constable"), (0, .class_ 114), (0, u "java/lang/Comparable"), (0, .class_ 116), (0, u "java/io/Serializable")] 87

/-- java/lang/Enum -/
def k5 : Class := { plain "java/lang/Enum" (some 0) with
  accessFlags := 1057
  interfaces := #[2, 3, 4]
  cf := some (fileOf pool5 2 #[.nestMembers #[106]] #[] 1057 12 #[111, 113, 115] #[{ accessFlags := 18, nameIndex := 5, descriptorIndex := 6, attributes := #[] }, { accessFlags := 18, nameIndex := 9, descriptorIndex := 10, attributes := #[] }, { accessFlags := 2, nameIndex := 19, descriptorIndex := 10, attributes := #[] }])
  fields := #[{ name := "name", type := (.object "java/lang/String"), accessFlags := 18, slot := 0, constantValue := 0 }, { name := "ordinal", type := .int, accessFlags := 18, slot := 1, constantValue := 0 }, { name := "hash", type := .int, accessFlags := 2, slot := 2, constantValue := 0 }]
  methods := #[]
  instanceTypes := #[(.object "java/lang/String"), .int, .int]
  staticTypes := #[]
  resolved := Array.replicate 204 none
  statics := none }

def pool6 : Array CpInfo := pool [(1, .class_ 2), (0, u "com/example/nano_xpath/nanoxpath/AtomicKind"), (2, u "NUMBER"), (0, u "Lcom/example/nano_xpath/nanoxpath/AtomicKind;"), (2, u "STRING"), (2, u "BOOLEAN"), (2, u "DATE_TIME"), (2, u "DATE"), (2, u "TIME"), (0, .fieldref 1 23), (0, .nameAndType 24 6), (0, u "DURATION"), (0, .fieldref 1 26), (0, .nameAndType 27 6), (0, u "YEAR_MONTH_DURATION"), (0, .fieldref 1 29), (0, .nameAndType 30 6), (0, u "DAY_TIME_DURATION"), (2, u "G_YEAR_MONTH"), (2, u "G_YEAR"), (2, u "G_MONTH_DAY"), (2, u "G_DAY"), (2, u "G_MONTH"), (2, u "HEX_BINARY"), (2, u "BASE64_BINARY"), (2, u "QNAME"), (2, u "$VALUES"), (0, u "[Lcom/example/nano_xpath/nanoxpath/AtomicKind;"), (6, .class_ 67), (1, u "java/lang/Enum"), (8, u "ordered"), (0, u "Z"), (2, u "order"), (0, u "Lcom/example/nano_xpath/nanoxpath/AtomicKind$Order;"), (2, u "key"), (0, u "Lcom/example/nano_xpath/nanoxpath/AtomicKind$Key;"), (64, .class_ 152), (1, u "com/example/nano_xpath/nanoxpath/AtomicKind$1"), (13, .methodref 1 167), (0, .nameAndType 168 169), (0, u "isDuration"), (0, u "()Z"), (1, .class_ 173), (1, u "com/example/nano_xpath/nanoxpath/AtomicKind$Order"), (3, .class_ 179), (1, u "com/example/nano_xpath/nanoxpath/AtomicKind$Key"), (120, u "equalityKind"), (0, u "()Lcom/example/nano_xpath/nanoxpath/AtomicKind;")] 77

def k6c0 : Code := { maxStack := 2, maxLocals := 1, code := prog_5_method_6_code, exceptionTable := #[], attributes := #[] }
def k6m0 : Method := { name := "isDuration", desc := "()Z", sig := { parameters := [], returnType := some .boolean }, accessFlags := 0, code := some k6c0 }
def k6c1 : Code := { maxStack := 1, maxLocals := 1, code := prog_5_method_7_code, exceptionTable := #[], attributes := #[] }
def k6m1 : Method := { name := "equalityKind", desc := "()Lcom/example/nano_xpath/nanoxpath/AtomicKind;", sig := { parameters := [], returnType := some (.object "com/example/nano_xpath/nanoxpath/AtomicKind") }, accessFlags := 0, code := some k6c1 }
/-- com/example/nano_xpath/nanoxpath/AtomicKind -/
def k6 : Class := { plain "com/example/nano_xpath/nanoxpath/AtomicKind" (some 5) with
  accessFlags := 16432
  interfaces := #[]
  cf := some (fileOf pool6 1 #[.nestMembers #[150, 177, 171]] #[{ accessFlags := 0, nameIndex := 168, descriptorIndex := 169, attributes := #[] }, { accessFlags := 0, nameIndex := 300, descriptorIndex := 301, attributes := #[] }] 16432 65 #[] #[{ accessFlags := 16409, nameIndex := 5, descriptorIndex := 6, attributes := #[] }, { accessFlags := 16409, nameIndex := 9, descriptorIndex := 6, attributes := #[] }, { accessFlags := 16409, nameIndex := 12, descriptorIndex := 6, attributes := #[] }, { accessFlags := 16409, nameIndex := 15, descriptorIndex := 6, attributes := #[] }, { accessFlags := 16409, nameIndex := 18, descriptorIndex := 6, attributes := #[] }, { accessFlags := 16409, nameIndex := 21, descriptorIndex := 6, attributes := #[] }, { accessFlags := 16409, nameIndex := 24, descriptorIndex := 6, attributes := #[] }, { accessFlags := 16409, nameIndex := 27, descriptorIndex := 6, attributes := #[] }, { accessFlags := 16409, nameIndex := 30, descriptorIndex := 6, attributes := #[] }, { accessFlags := 16409, nameIndex := 33, descriptorIndex := 6, attributes := #[] }, { accessFlags := 16409, nameIndex := 36, descriptorIndex := 6, attributes := #[] }, { accessFlags := 16409, nameIndex := 39, descriptorIndex := 6, attributes := #[] }, { accessFlags := 16409, nameIndex := 42, descriptorIndex := 6, attributes := #[] }, { accessFlags := 16409, nameIndex := 45, descriptorIndex := 6, attributes := #[] }, { accessFlags := 16409, nameIndex := 48, descriptorIndex := 6, attributes := #[] }, { accessFlags := 16409, nameIndex := 51, descriptorIndex := 6, attributes := #[] }, { accessFlags := 16409, nameIndex := 54, descriptorIndex := 6, attributes := #[] }, { accessFlags := 18, nameIndex := 76, descriptorIndex := 77, attributes := #[] }, { accessFlags := 18, nameIndex := 80, descriptorIndex := 81, attributes := #[] }, { accessFlags := 18, nameIndex := 84, descriptorIndex := 85, attributes := #[] }, { accessFlags := 4122, nameIndex := 57, descriptorIndex := 58, attributes := #[] }])
  fields := #[{ name := "NUMBER", type := (.object "com/example/nano_xpath/nanoxpath/AtomicKind"), accessFlags := 16409, slot := 0, constantValue := 0 }, { name := "STRING", type := (.object "com/example/nano_xpath/nanoxpath/AtomicKind"), accessFlags := 16409, slot := 1, constantValue := 0 }, { name := "BOOLEAN", type := (.object "com/example/nano_xpath/nanoxpath/AtomicKind"), accessFlags := 16409, slot := 2, constantValue := 0 }, { name := "DATE_TIME", type := (.object "com/example/nano_xpath/nanoxpath/AtomicKind"), accessFlags := 16409, slot := 3, constantValue := 0 }, { name := "DATE", type := (.object "com/example/nano_xpath/nanoxpath/AtomicKind"), accessFlags := 16409, slot := 4, constantValue := 0 }, { name := "TIME", type := (.object "com/example/nano_xpath/nanoxpath/AtomicKind"), accessFlags := 16409, slot := 5, constantValue := 0 }, { name := "DURATION", type := (.object "com/example/nano_xpath/nanoxpath/AtomicKind"), accessFlags := 16409, slot := 6, constantValue := 0 }, { name := "YEAR_MONTH_DURATION", type := (.object "com/example/nano_xpath/nanoxpath/AtomicKind"), accessFlags := 16409, slot := 7, constantValue := 0 }, { name := "DAY_TIME_DURATION", type := (.object "com/example/nano_xpath/nanoxpath/AtomicKind"), accessFlags := 16409, slot := 8, constantValue := 0 }, { name := "G_YEAR_MONTH", type := (.object "com/example/nano_xpath/nanoxpath/AtomicKind"), accessFlags := 16409, slot := 9, constantValue := 0 }, { name := "G_YEAR", type := (.object "com/example/nano_xpath/nanoxpath/AtomicKind"), accessFlags := 16409, slot := 10, constantValue := 0 }, { name := "G_MONTH_DAY", type := (.object "com/example/nano_xpath/nanoxpath/AtomicKind"), accessFlags := 16409, slot := 11, constantValue := 0 }, { name := "G_DAY", type := (.object "com/example/nano_xpath/nanoxpath/AtomicKind"), accessFlags := 16409, slot := 12, constantValue := 0 }, { name := "G_MONTH", type := (.object "com/example/nano_xpath/nanoxpath/AtomicKind"), accessFlags := 16409, slot := 13, constantValue := 0 }, { name := "HEX_BINARY", type := (.object "com/example/nano_xpath/nanoxpath/AtomicKind"), accessFlags := 16409, slot := 14, constantValue := 0 }, { name := "BASE64_BINARY", type := (.object "com/example/nano_xpath/nanoxpath/AtomicKind"), accessFlags := 16409, slot := 15, constantValue := 0 }, { name := "QNAME", type := (.object "com/example/nano_xpath/nanoxpath/AtomicKind"), accessFlags := 16409, slot := 16, constantValue := 0 }, { name := "ordered", type := .boolean, accessFlags := 18, slot := 3, constantValue := 0 }, { name := "order", type := (.object "com/example/nano_xpath/nanoxpath/AtomicKind$Order"), accessFlags := 18, slot := 4, constantValue := 0 }, { name := "key", type := (.object "com/example/nano_xpath/nanoxpath/AtomicKind$Key"), accessFlags := 18, slot := 5, constantValue := 0 }, { name := "$VALUES", type := (.array (.object "com/example/nano_xpath/nanoxpath/AtomicKind")), accessFlags := 4122, slot := 17, constantValue := 0 }]
  methods := #[k6m0, k6m1]
  instanceTypes := #[(.object "java/lang/String"), .int, .int, .boolean, (.object "com/example/nano_xpath/nanoxpath/AtomicKind$Order"), (.object "com/example/nano_xpath/nanoxpath/AtomicKind$Key")]
  staticTypes := #[(.object "com/example/nano_xpath/nanoxpath/AtomicKind"), (.object "com/example/nano_xpath/nanoxpath/AtomicKind"), (.object "com/example/nano_xpath/nanoxpath/AtomicKind"), (.object "com/example/nano_xpath/nanoxpath/AtomicKind"), (.object "com/example/nano_xpath/nanoxpath/AtomicKind"), (.object "com/example/nano_xpath/nanoxpath/AtomicKind"), (.object "com/example/nano_xpath/nanoxpath/AtomicKind"), (.object "com/example/nano_xpath/nanoxpath/AtomicKind"), (.object "com/example/nano_xpath/nanoxpath/AtomicKind"), (.object "com/example/nano_xpath/nanoxpath/AtomicKind"), (.object "com/example/nano_xpath/nanoxpath/AtomicKind"), (.object "com/example/nano_xpath/nanoxpath/AtomicKind"), (.object "com/example/nano_xpath/nanoxpath/AtomicKind"), (.object "com/example/nano_xpath/nanoxpath/AtomicKind"), (.object "com/example/nano_xpath/nanoxpath/AtomicKind"), (.object "com/example/nano_xpath/nanoxpath/AtomicKind"), (.object "com/example/nano_xpath/nanoxpath/AtomicKind"), (.array (.object "com/example/nano_xpath/nanoxpath/AtomicKind"))]
  resolved := Array.replicate 379 none
  statics := some 0 }

def pool7 : Array CpInfo := pool [(1, u "java/lang/Cloneable"), (0, .class_ 1), (0, u "java/lang/Object"), (0, .class_ 3)] 3

/-- java/lang/Cloneable -/
def k7 : Class := { plain "java/lang/Cloneable" (some 0) with
  accessFlags := 1537
  interfaces := #[]
  cf := some (fileOf pool7 2 #[] #[] 1537 4 #[] #[])
  fields := #[]
  methods := #[]
  instanceTypes := #[]
  staticTypes := #[]
  resolved := Array.replicate 8 none
  statics := none }

/-- the primitive byte -/
def k8 : Class := { plain "byte" none with kind := .primitive 'B', accessFlags := 0x411 }
/-- [B -/
def k9 : Class := { plain "[B" (some 0) with kind := .array 8 .byte, interfaces := #[7, 4], accessFlags := 1041 }

/-- the primitive int -/
def k10 : Class := { plain "int" none with kind := .primitive 'I', accessFlags := 0x411 }
/-- [I -/
def k11 : Class := { plain "[I" (some 0) with kind := .array 10 .int, interfaces := #[7, 4], accessFlags := 1041 }

/-- [Lcom/example/nano_xpath/nanoxpath/AtomicKind; -/
def k12 : Class := { plain "[Lcom/example/nano_xpath/nanoxpath/AtomicKind;" (some 0) with kind := .array 6 (.object "com/example/nano_xpath/nanoxpath/AtomicKind"), interfaces := #[7, 4], accessFlags := 1041 }

def heap : Heap := #[{ cls := 6, slots := #[.ref 1, .ref 2, .ref 3, .ref 4, .ref 5, .ref 6, .ref 7, .ref 8, .ref 9, .ref 10, .ref 11, .ref 12, .ref 13, .ref 14, .ref 15, .ref 16, .ref 17, .null], vm := .statics 6 },
  { cls := 6, slots := #[.null, .int 0, .int 0, .int 0, .null, .null], vm := .none },
  { cls := 6, slots := #[.null, .int 1, .int 0, .int 0, .null, .null], vm := .none },
  { cls := 6, slots := #[.null, .int 2, .int 0, .int 0, .null, .null], vm := .none },
  { cls := 6, slots := #[.null, .int 3, .int 0, .int 0, .null, .null], vm := .none },
  { cls := 6, slots := #[.null, .int 4, .int 0, .int 0, .null, .null], vm := .none },
  { cls := 6, slots := #[.null, .int 5, .int 0, .int 0, .null, .null], vm := .none },
  { cls := 6, slots := #[.null, .int 6, .int 0, .int 0, .null, .null], vm := .none },
  { cls := 6, slots := #[.null, .int 7, .int 0, .int 0, .null, .null], vm := .none },
  { cls := 6, slots := #[.null, .int 8, .int 0, .int 0, .null, .null], vm := .none },
  { cls := 6, slots := #[.null, .int 9, .int 0, .int 0, .null, .null], vm := .none },
  { cls := 6, slots := #[.null, .int 10, .int 0, .int 0, .null, .null], vm := .none },
  { cls := 6, slots := #[.null, .int 11, .int 0, .int 0, .null, .null], vm := .none },
  { cls := 6, slots := #[.null, .int 12, .int 0, .int 0, .null, .null], vm := .none },
  { cls := 6, slots := #[.null, .int 13, .int 0, .int 0, .null, .null], vm := .none },
  { cls := 6, slots := #[.null, .int 14, .int 0, .int 0, .null, .null], vm := .none },
  { cls := 6, slots := #[.null, .int 15, .int 0, .int 0, .null, .null], vm := .none },
  { cls := 6, slots := #[.null, .int 16, .int 0, .int 0, .null, .null], vm := .none }]
def classes : Array Class := #[k0, k1, k2, k3, k4, k5, k6, k7, k8, k9, k10, k11, k12]
def interned : List (Array UInt16 × Addr) := []
def slotsUsed : Nat := 120
def theMethod : MethodId := ⟨1, 1⟩
def args0 : Array Value := #[.int 5]
def aboutOver (below : List Frame) : State where
  vm := { classes := classes, interned := interned.toArray }
  heap := heap
  slotsUsed := slotsUsed
  threads := #[{ frames := .invoking theMethod args0 :: below }]
def below0 : List Frame := [.native { method := ⟨0, 0⟩, args := #[] }]
def about1 : State := aboutOver below0
def p0 : Program := .bare "" "" ""
def e0 : Env := launch0.env 0 0 0
theorem w_frames : about1.frames = Frame.invoking theMethod args0 :: below0 := rfl
set_option maxRecDepth 65536 in
theorem w_args : argsFit about1.vm theMethod args0 = true := by decide +kernel
set_option maxRecDepth 65536 in
theorem w_heap : heapFits about1 = true := by decide +kernel
set_option maxRecDepth 65536 in
theorem w_runnable : about1.curStatus? = some .runnable := by decide +kernel
set_option maxRecDepth 65536 in
theorem w_alone : about1.alone = true := by decide +kernel
set_option maxRecDepth 65536 in
theorem w_named : about1.methodNamed? x = some theMethod := by decide +kernel
set_option maxRecDepth 65536 in
theorem w_hears : about1.hears theMethod below0 = true := by decide +kernel
set_option maxRecDepth 65536 in
theorem w_ripe : about1.ripe theMethod args0 below0 = true := by decide +kernel
theorem w_running : about1.status = .running := rfl
set_option maxRecDepth 65536 in
theorem w_room : about1.hasRoom e0.platform room_1 = true :=
  launch0.hasRoom_least _ room_1 (by decide +kernel) (by decide +kernel) (by decide +kernel) (by decide +kernel) (by decide +kernel) (by decide +kernel)
theorem allAtoms_all (ts : List Jvm.Cond) (a : Array Jvm.Value) (st : Jvm.State) : (allAtoms ts).before a st = ts.all (fun c => c.before a st) := by
  induction ts with
  | nil => rfl
  | cons c t ih =>
    show (Jvm.Cond.and c (allAtoms t)).before a st = _
    rw [Jvm.Cond.before_and, ih, List.all_cons]
def words1 : List Jvm.Cond := Jvm.Cond.code x code maxLocals ret :: tables_1
/-- a 'code' word, met by the world's own term for the bytes: nothing is compared byte by byte -/
theorem code_word {y : MethodName} {bytes : ByteArray} {mx : Nat} {rt : Option FieldType} {a : Array Value} {s : State} {m : MethodId} {meth : Method} {c : Code} (h1 : s.methodNamed? y = some m) (h2 : s.vm.method? m = some meth) (h3 : meth.code = some c) (h4 : c.code = bytes)
    (h5 : (c.maxLocals == mx && c.exceptionTable.isEmpty && decide (c.maxStack ≤ mostOperands) && decide (meth.sig.returnType = rt) && !meth.locks && decide (parseMethodDescriptor y.desc = some meth.sig)) = true) : (Jvm.Cond.code y bytes mx rt).before a s = true := by
  simp only [Bool.and_eq_true, beq_iff_eq, Bool.not_eq_true', decide_eq_true_eq] at h5
  obtain ⟨⟨⟨⟨⟨g1, g2⟩, g3⟩, g4⟩, g5⟩, g6⟩ := h5
  simp [Cond.before, Cond.holds, Cond.value, h1, h2, h3, h4, g1, g2, g3, g4, g5, g6]
def isCode : Jvm.Cond → Bool
  | .code _ _ _ _ => true
  | _ => false
theorem all_split {L : List Jvm.Cond} {P : Jvm.Cond → Bool} (h1 : L.all (fun c => isCode c || P c) = true) (h2 : ∀ c ∈ L.filter isCode, P c = true) : L.all P = true := by
  refine List.all_eq_true.mpr fun c hc => ?_
  have h := List.all_eq_true.mp h1 c hc
  rcases Bool.eq_false_or_eq_true (isCode c) with hi | hi
  · exact h2 c (List.mem_filter.mpr ⟨hc, hi⟩)
  · simpa [hi] using h
set_option maxRecDepth 65536 in
theorem w_c0 : (Jvm.Cond.code x code maxLocals ret).before args0 about1 = true := code_word (m := ⟨1, 1⟩) (meth := k1m1) (c := k1c1) (by decide +kernel) rfl rfl rfl (by decide +kernel)
set_option maxRecDepth 65536 in
theorem w_c1 : (Jvm.Cond.code ({ cls := "com/example/nano_xpath/nanoxpath/AtomicKind", name := "isDuration", desc := "()Z" } : Jvm.MethodName) prog_5_method_6_code (1 : Nat) (Option.some Jvm.ClassFile.FieldType.boolean)).before args0 about1 = true := code_word (m := ⟨6, 0⟩) (meth := k6m0) (c := k6c0) (by decide +kernel) rfl rfl rfl (by decide +kernel)
set_option maxRecDepth 65536 in
theorem w_c2 : (Jvm.Cond.code ({ cls := "com/example/nano_xpath/nanoxpath/AtomicKind", name := "equalityKind", desc := "()Lcom/example/nano_xpath/nanoxpath/AtomicKind;" } : Jvm.MethodName) prog_5_method_7_code (1 : Nat) (Option.some (Jvm.ClassFile.FieldType.object "com/example/nano_xpath/nanoxpath/AtomicKind"))).before args0 about1 = true := code_word (m := ⟨6, 1⟩) (meth := k6m1) (c := k6c1) (by decide +kernel) rfl rfl rfl (by decide +kernel)
def codes1 : List Jvm.Cond := [Jvm.Cond.code x code maxLocals ret, Jvm.Cond.code ({ cls := "com/example/nano_xpath/nanoxpath/AtomicKind", name := "isDuration", desc := "()Z" } : Jvm.MethodName) prog_5_method_6_code (1 : Nat) (Option.some Jvm.ClassFile.FieldType.boolean), Jvm.Cond.code ({ cls := "com/example/nano_xpath/nanoxpath/AtomicKind", name := "equalityKind", desc := "()Lcom/example/nano_xpath/nanoxpath/AtomicKind;" } : Jvm.MethodName) prog_5_method_7_code (1 : Nat) (Option.some (Jvm.ClassFile.FieldType.object "com/example/nano_xpath/nanoxpath/AtomicKind"))]
set_option maxRecDepth 65536 in
theorem codes_eq : words1.filter isCode = codes1 := rfl
theorem w_codes : ∀ c ∈ words1.filter isCode, c.before args0 about1 = true := by
  rw [codes_eq]
  intro c hc
  simp only [codes1, List.mem_cons, List.not_mem_nil, or_false] at hc
  rcases hc with rfl | rfl | rfl
  · exact w_c0
  · exact w_c1
  · exact w_c2
set_option maxRecDepth 65536 in
theorem w_t1 : (words1.take 24).all (fun c => isCode c || c.before args0 about1) = true := by decide +kernel
set_option maxRecDepth 65536 in
theorem w_t2 : ((words1.drop 24).take 24).all (fun c => isCode c || c.before args0 about1) = true := by decide +kernel
set_option maxRecDepth 65536 in
theorem w_t3 : ((words1.drop 24).drop 24).all (fun c => isCode c || c.before args0 about1) = true := by decide +kernel
theorem w_tables : (allAtoms (Jvm.Cond.code x code maxLocals ret :: tables_1)).before args0 about1 = true := by
  rw [allAtoms_all]
  show words1.all (fun c => c.before args0 about1) = true
  refine all_split ?_ w_codes
  rw [← List.take_append_drop 24 words1, List.all_append, w_t1, ← List.take_append_drop 24 (words1.drop 24), List.all_append, w_t2, w_t3]
  rfl
set_option maxRecDepth 65536 in
theorem w_case : (Jvm.Cond.and given_1 narrow_1).before args0 about1 = true := by decide +kernel
theorem w_applies : (headSpec (Jvm.Cond.code x code maxLocals ret :: tables_1) room_1).applies x e0.platform about1 = true :=
  (Spec.applies_iff w_frames).mpr ⟨w_running, w_runnable, w_alone, w_named, w_hears, w_ripe, w_room, w_tables⟩
theorem atStart : AtStart classFile x code maxLocals ret World_1 tables_1 room_1 Calls_1 rest_1 Pre_1 launch0 p0 e0 about1 theMethod args0 below0 :=
  ⟨lists_1, trivial, launch0.admits_env _ _ _, launch0.least_env, fairChoices_fair.cas, fairChoices_fair.clock, w_frames, w_args, w_heap, w_applies, trivial, trivial, w_case⟩
end start1
theorem witness_1 : WitnessClaimed_1 := ⟨start1.p0, start1.e0, start1.about1, start1.theMethod, start1.args0, start1.below0, start1.atStart⟩
end Jvm.Pilot.@@N@@
