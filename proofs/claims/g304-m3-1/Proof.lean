import JvmDerived
import JvmDerived.Pilot.@@N@@Statement
import JvmDerived.Pilot.@@N@@Code
set_option linter.unusedVariables false
set_option linter.unusedSimpArgs false
namespace Jvm.RoadKit
open Sem ClassFile Op Lib Jvm.Stand Jvm.Free Jvm.LawKit
section New
variable {p : Program} {l : Launch} {e : Env} {R : Room} {s : State} {m : MethodId} {args : Array Value} {below : List Frame} {meth : Method} {c : Code} {T : State} {locs : List Loc} {cells slots : Nat}
theorem retI (X : Stand p l e R s m args below meth c T locs cells slots) (hx : p.tables.exec = Jvm.exec) {pc : Nat} {Ls : Array Slot} {z : Int32} {rest : List Value} (hret : meth.sig.returnType = some .int) (hd : decode c.code pc = .ok (.ireturn, 1)) {fs : List Frame}
    (hl : ∀ (f : JFrame) (acts : List Action), f.method = m → f.locked = none → f.entered = [] → (doReturn e (T.setTop f) acts (some (.int z))).1 = T.setFrames fs) : Steps p.tables e below (T.setTop (mkF m pc Ls (.int z :: rest))) (T.setFrames fs) := by
  have hm' : T.vm.method? m = some meth := X.method'
  have hn : narrow .int (.int z) = .int z := rfl
  show Steps p.tables e below (T.setTop { method := m, pc := pc, locals := Ls, stack := _ :: rest, locked := none }) _
  jvm_step X.here [X.here.top, hx, hd, hm', hret, hn]
  first | (intro acts; rw [hl _ acts rfl rfl rfl]) | rw [hl _ _ rfl rfl rfl]
  exact Steps.refl _
end New
end Jvm.RoadKit
namespace Jvm.Pilot.@@N@@
open Jvm Jvm.ClassFile Sem Op Lib Jvm.Free Jvm.Stand Jvm.LawKit Jvm.RoadKit Bundle Jvm.Pilot.@@N@@.Jvm.D
theorem own_rem (x d : Int64) (hd : 0 < d.toInt) : 0 ≤ ((x &&& (9223372036854775807 : Int64)) - ((x &&& (9223372036854775807 : Int64)) / d) * d).toInt ∧ ((x &&& (9223372036854775807 : Int64)) - ((x &&& (9223372036854775807 : Int64)) / d) * d).toInt < d.toInt := by
  have hm := c_maskL x 9223372036854775807 63 (by decide) (by decide)
  have h0 : 0 ≤ (x &&& (9223372036854775807 : Int64)).toInt := by rw [hm]; exact Int.emod_nonneg _ (by decide)
  rw [(c_lrem _ d d.toInt rfl).1 h0]
  exact ⟨Int.emod_nonneg _ (by omega), Int.emod_lt_of_pos _ hd⟩
theorem own_add {x y : Int64} (h1 : -9223372036854775808 ≤ x.toInt + y.toInt) (h2 : x.toInt + y.toInt < 9223372036854775808) : (x + y).toInt = x.toInt + y.toInt := by
  have := c_ladd x y; have := rng64 (x + y); omega
theorem own_sub {x y : Int64} (h1 : -9223372036854775808 ≤ x.toInt - y.toInt) (h2 : x.toInt - y.toInt < 9223372036854775808) : (x - y).toInt = x.toInt - y.toInt := by
  have := c_lsub x y; have := rng64 (x - y); omega
theorem own_nz {x : Int64} (h : 0 < x.toInt) : x ≠ 0 := fun q => by rw [q] at h; exact absurd h (by decide)
theorem own_one : (1 : Int64).toInt = 1 := by decide
theorem own_zero : (0 : Int64).toInt = 0 := by decide
theorem own_mil : (1000000 : Int64).toInt = 1000000 := by decide
theorem own_jlt {x y : Int64} (h : ¬ x.toInt < y.toInt) : ¬ x < y := by rw [Int64.lt_iff_toInt_lt]; exact h
theorem own_jeq {x y : Int64} (h : x.toInt = y.toInt) : x = y := Int64.toInt_inj.mp h
def own_ok (t u s : Int64) : Prop := 0 ≤ t.toInt ∧ t.toInt ≤ 1000000 ∧ 0 ≤ u.toInt ∧ 0 ≤ s.toInt ∧ u.toInt + s.toInt ≤ t.toInt
theorem own_ok_add {t u s : Int64} (h : own_ok t u s) : (u + s).toInt = u.toInt + s.toInt := by
  obtain ⟨a, b, c, d, e⟩ := h; exact own_add (by omega) (by omega)
theorem own_av {t u s : Int64} (h : own_ok t u s) : (t - u - s).toInt = t.toInt - u.toInt - s.toInt := by
  obtain ⟨a, b, c, d, e⟩ := h
  have h1 : (t - u).toInt = t.toInt - u.toInt := own_sub (by omega) (by omega)
  rw [own_sub (by omega) (by omega), h1]
theorem own_ok_hold {t u s n : Int64} (h : own_ok t u s) (q : 1 ≤ n.toInt ∧ n.toInt ≤ ((t - u) - s).toInt) : own_ok t (u + n) s := by
  have e := own_av h
  obtain ⟨a, b, c, d, f⟩ := h
  have e2 : (u + n).toInt = u.toInt + n.toInt := own_add (by omega) (by omega)
  exact ⟨a, b, by omega, d, by omega⟩
theorem own_pd0 : parseMethodDescriptor "(J)J" = some ⟨[.long], some .long⟩ := by decide +kernel
theorem own_pd1 : parseMethodDescriptor "()J" = some ⟨[], some .long⟩ := by decide +kernel
theorem own_pd2 : parseMethodDescriptor "(JJJ)V" = some ⟨[.long, .long, .long], none⟩ := by decide +kernel
theorem own_pd3 : parseMethodDescriptor "(J)Lcom/example/turnstyle/turnstyle/domain/Stock;" = some ⟨[.long], some (.object "com/example/turnstyle/turnstyle/domain/Stock")⟩ := by decide +kernel
theorem d3_0 : decode prog_12_method_2_code 0 = .ok (.lload_n 0, 1) := by decide +kernel
theorem d3_1 : decode prog_12_method_2_code 1 = .ok (.lconst 0, 1) := by decide +kernel
theorem d3_2 : decode prog_12_method_2_code 2 = .ok (.lcmp, 1) := by decide +kernel
theorem d3_3 : decode prog_12_method_2_code 3 = .ok (.ifCond .lt 11, 3) := by decide +kernel
theorem d3_6 : decode prog_12_method_2_code 6 = .ok (.lload_n 0, 1) := by decide +kernel
theorem d3_7 : decode prog_12_method_2_code 7 = .ok (.ldc2_w 30, 3) := by decide +kernel
theorem d3_10 : decode prog_12_method_2_code 10 = .ok (.lcmp, 1) := by decide +kernel
theorem d3_11 : decode prog_12_method_2_code 11 = .ok (.ifCond .le 13, 3) := by decide +kernel
theorem d3_14 : decode prog_12_method_2_code 14 = .ok (.new 13, 3) := by decide +kernel
theorem d3_17 : decode prog_12_method_2_code 17 = .ok (.dup, 1) := by decide +kernel
theorem d3_18 : decode prog_12_method_2_code 18 = .ok (.ldc 32, 2) := by decide +kernel
theorem d3_20 : decode prog_12_method_2_code 20 = .ok (.invokespecial 17, 3) := by decide +kernel
theorem d3_23 : decode prog_12_method_2_code 23 = .ok (.athrow, 1) := by decide +kernel
theorem d3_24 : decode prog_12_method_2_code 24 = .ok (.lload_n 0, 1) := by decide +kernel
theorem d3_25 : decode prog_12_method_2_code 25 = .ok (.lreturn, 1) := by decide +kernel
theorem pn_rm_rq : plainName "com/example/turnstyle/turnstyle/domain/Stock" = true := by first | (simp [plainName, overriddenIn]; done) | decide +kernel
theorem ef_rm_rq (m : MethodId) (vt : Int64) : entryFrame m #[(.long vt)] 2 = mkF m 0 #[.val (.long vt), .second] [] := by first | (simp [entryFrame, mkF, argsToLocals, Value.category]; done) | rfl
def Q_rq (Z : State) (vt : Int64) (h0 : Heap) (n0 : Nat) (v : Option Value) (h : Heap) (L : List Loc) : Prop := v = some (.long vt) ∧ Fr n0 L ∧ h = h0
set_option maxRecDepth 65536 in
set_option maxHeartbeats 40000000 in
theorem rm_rq (l : Launch) (Z : State) (a0 : Array Value) (hw : ∀ d ∈ tables_1, d.before a0 Z = true) (ws : List Jvm.Cond) (vt : Int64) (h0 : Heap) (n0 : Nat) (Z0 : n0 ≤ h0.size) (hp : 0 ≤ vt.toInt ∧ vt.toInt ≤ 1000000) :
    MetFree l (⟨"com/example/turnstyle/turnstyle/domain/Stock", "requireTotal", "(J)J"⟩ : MethodName) (head1 (Jvm.Cond.code (⟨"com/example/turnstyle/turnstyle/domain/Stock", "requireTotal", "(J)J"⟩ : MethodName) prog_12_method_2_code 2 (some .long) :: ws) ({ frames := 0, cells := 0, slots := 0, locals := 0 } : Room)) (fun a U => a = #[(.long vt)] ∧ Z.Warmed39 U.vm ∧ U.heap = h0) (fun _ _ _ _ _ => True) (fun _ U o U' => ∃ v L, o = .returned v ∧ Q_rq Z vt h0 n0 v U'.heap L ∧ FrameEnd U o U' L ({ frames := 0, cells := 0, slots := 0, locals := 0 } : Room).cells ({ frames := 0, cells := 0, slots := 0, locals := 0 } : Room).slots) := by
  refine MetFree.of_bodySF (plainFor_of_name pn_rm_rq) hisR ?_
  intro p e s m args below meth c s₁ Bd hml0 hP hK
  obtain ⟨rfl, hZ, hh⟩ := hP
  have hx := Bd.exec
  have hby := Bd.bytes
  have hml : c.maxLocals = 2 := hml0
  have hown : s.vm.findClass "com/example/turnstyle/turnstyle/domain/Stock" = some m.cls := findClass_of_methodNamed Bd.named
  have hnm := (name_of_methodNamed Bd.named Bd.method).1
  have X0 : Stand p l e ({ frames := 0, cells := 0, slots := 0, locals := 0 } : Room) s m #[(.long vt)] below meth c s₁ [] 0 0 := Stand.of_body Bd
  have e0 : s₁.heap = h0 := by rw [← hh, Bd.state]; rfl
  have N0 := Fr.nil n0
  have pre0 : ∀ t, Steps p.tables e below (s₁.setTop (mkF m 0 #[.val (.long vt), .second] [])) t → Steps p.tables e below (s₁.setTop (entryFrame m #[(.long vt)] 2)) t := fun t k => castTop (ef_rm_rq m vt) k
  have pre1 : ∀ t, Steps p.tables e below (s₁.setTop (mkF m 3 #[.val (.long vt), .second] [(.int (lcmpW vt (0 : Int64)))])) t → Steps p.tables e below (s₁.setTop (entryFrame m #[(.long vt)] 2)) t := by
    intro t k
    refine pre0 t ?_
    show Steps p.tables e below (s₁.setTop (mkF m 0 #[.val (.long vt), .second] [])) _
    refine XS.lloadN X0.here hx rfl (hb hby d3_0) rfl ?_
    show Steps p.tables e below (s₁.setTop (mkF m 1 #[.val (.long vt), .second] [(.long vt)])) _
    refine XS.lconst X0.here hx rfl (hb hby d3_1) ?_
    show Steps p.tables e below (s₁.setTop (mkF m 2 #[.val (.long vt), .second] [(.long (0 : Int64)), (.long vt)])) _
    refine XS.lcmp X0.here hx rfl (hb hby d3_2) rfl ?_
    show Steps p.tables e below (s₁.setTop (mkF m 3 #[.val (.long vt), .second] [(.int (lcmpW vt (0 : Int64)))])) _
    exact k
  have hd2 : ¬ (vt < (0 : Int64)) := own_jlt (by rw [own_zero]; omega)
  have pre3 : ∀ t, Steps p.tables e below (s₁.setTop (mkF m 11 #[.val (.long vt), .second] [(.int (lcmpW vt (1000000 : Int64)))])) t → Steps p.tables e below (s₁.setTop (entryFrame m #[(.long vt)] 2)) t := by
    intro t k
    refine pre1 t ?_
    show Steps p.tables e below (s₁.setTop (mkF m 3 #[.val (.long vt), .second] [(.int (lcmpW vt (0 : Int64)))])) _
    refine XS.ifNo X0.here hx rfl (hb hby d3_3) rfl ((if0 _ _).trans (flt (mt (lw_lt _ _).mp hd2)).1) ?_
    show Steps p.tables e below (s₁.setTop (mkF m 6 #[.val (.long vt), .second] [])) _
    refine XS.lloadN X0.here hx rfl (hb hby d3_6) rfl ?_
    show Steps p.tables e below (s₁.setTop (mkF m 7 #[.val (.long vt), .second] [(.long vt)])) _
    refine X0.ldc2Long hx hown (mvT hZ (hw _ (List.mem_of_getElem? (i := 14) rfl))) (g := (mkF m 7 #[.val (.long vt), .second] [(.long vt)])) rfl (hb hby d3_7) _ ?_
    show Steps p.tables e below (s₁.setTop (mkF m 10 #[.val (.long vt), .second] [(.long (1000000 : Int64)), (.long vt)])) _
    refine XS.lcmp X0.here hx rfl (hb hby d3_10) rfl ?_
    show Steps p.tables e below (s₁.setTop (mkF m 11 #[.val (.long vt), .second] [(.int (lcmpW vt (1000000 : Int64)))])) _
    exact k
  have hd4 : ¬ ((1000000 : Int64) < vt) := own_jlt (by rw [own_mil]; omega)
  obtain ⟨fs, hr, hrun, hended, hW, hsame⟩ := X0.leave (v := some (.long vt)) (fun h => by rw [Bd.returns] at h; cases h)
  refine ⟨_, _, pre3 _ ?_, hrun, hended, _, _, rfl, ?_, ⟨_, rfl⟩, hW, hsame.mono (by decide) (by decide)⟩
  · show Steps p.tables e below (s₁.setTop (mkF m 11 #[.val (.long vt), .second] [(.int (lcmpW vt (1000000 : Int64)))])) _
    refine XS.ifYes X0.here hx rfl (pc0 := 11) (pc' := 24) rfl (hb hby d3_11) rfl ((if0 _ _).trans (flt (mt (lw_gt _ _).mp hd4)).2.2.2) (by decide) (by decide) ?_
    show Steps p.tables e below (s₁.setTop (mkF m 24 #[.val (.long vt), .second] [])) _
    refine XS.lloadN X0.here hx rfl (hb hby d3_24) rfl ?_
    show Steps p.tables e below (s₁.setTop (mkF m 25 #[.val (.long vt), .second] [(.long vt)])) _
    jvm_step X0.here [X0.here.top, hx, (hb hby d3_25), X0.method', Bd.returns, narrow]
    first | (intro acts; rw [hr _ acts rfl rfl rfl]) | rw [hr _ _ rfl rfl rfl]
    exact Steps.refl _
  · show Q_rq Z vt h0 n0 _ s₁.heap _
    rw [e0]
    exact ⟨rfl, N0, rfl⟩
theorem d1_0 : decode prog_12_method_1_code 0 = .ok (.aload_n 0, 1) := by decide +kernel
theorem d1_1 : decode prog_12_method_1_code 1 = .ok (.invokespecial 1, 3) := by decide +kernel
theorem d1_4 : decode prog_12_method_1_code 4 = .ok (.lload_n 1, 1) := by decide +kernel
theorem d1_5 : decode prog_12_method_1_code 5 = .ok (.invokestatic 7, 3) := by decide +kernel
theorem d1_8 : decode prog_12_method_1_code 8 = .ok (.pop2, 1) := by decide +kernel
theorem d1_9 : decode prog_12_method_1_code 9 = .ok (.lload_n 3, 1) := by decide +kernel
theorem d1_10 : decode prog_12_method_1_code 10 = .ok (.lconst 0, 1) := by decide +kernel
theorem d1_11 : decode prog_12_method_1_code 11 = .ok (.lcmp, 1) := by decide +kernel
theorem d1_12 : decode prog_12_method_1_code 12 = .ok (.ifCond .lt 19, 3) := by decide +kernel
theorem d1_15 : decode prog_12_method_1_code 15 = .ok (.lload 5, 2) := by decide +kernel
theorem d1_17 : decode prog_12_method_1_code 17 = .ok (.lconst 0, 1) := by decide +kernel
theorem d1_18 : decode prog_12_method_1_code 18 = .ok (.lcmp, 1) := by decide +kernel
theorem d1_19 : decode prog_12_method_1_code 19 = .ok (.ifCond .lt 12, 3) := by decide +kernel
theorem d1_22 : decode prog_12_method_1_code 22 = .ok (.lload_n 3, 1) := by decide +kernel
theorem d1_23 : decode prog_12_method_1_code 23 = .ok (.lload 5, 2) := by decide +kernel
theorem d1_25 : decode prog_12_method_1_code 25 = .ok (.ladd, 1) := by decide +kernel
theorem d1_26 : decode prog_12_method_1_code 26 = .ok (.lload_n 1, 1) := by decide +kernel
theorem d1_27 : decode prog_12_method_1_code 27 = .ok (.lcmp, 1) := by decide +kernel
theorem d1_28 : decode prog_12_method_1_code 28 = .ok (.ifCond .le 13, 3) := by decide +kernel
theorem d1_31 : decode prog_12_method_1_code 31 = .ok (.new 13, 3) := by decide +kernel
theorem d1_34 : decode prog_12_method_1_code 34 = .ok (.dup, 1) := by decide +kernel
theorem d1_35 : decode prog_12_method_1_code 35 = .ok (.ldc 15, 2) := by decide +kernel
theorem d1_37 : decode prog_12_method_1_code 37 = .ok (.invokespecial 17, 3) := by decide +kernel
theorem d1_40 : decode prog_12_method_1_code 40 = .ok (.athrow, 1) := by decide +kernel
theorem d1_41 : decode prog_12_method_1_code 41 = .ok (.aload_n 0, 1) := by decide +kernel
theorem d1_42 : decode prog_12_method_1_code 42 = .ok (.lload_n 1, 1) := by decide +kernel
theorem d1_43 : decode prog_12_method_1_code 43 = .ok (.putfield 20, 3) := by decide +kernel
theorem d1_46 : decode prog_12_method_1_code 46 = .ok (.aload_n 0, 1) := by decide +kernel
theorem d1_47 : decode prog_12_method_1_code 47 = .ok (.lload_n 3, 1) := by decide +kernel
theorem d1_48 : decode prog_12_method_1_code 48 = .ok (.putfield 24, 3) := by decide +kernel
theorem d1_51 : decode prog_12_method_1_code 51 = .ok (.aload_n 0, 1) := by decide +kernel
theorem d1_52 : decode prog_12_method_1_code 52 = .ok (.lload 5, 2) := by decide +kernel
theorem d1_54 : decode prog_12_method_1_code 54 = .ok (.putfield 27, 3) := by decide +kernel
theorem d1_57 : decode prog_12_method_1_code 57 = .ok (.return_, 1) := by decide +kernel
theorem pn_rm_in : plainName "com/example/turnstyle/turnstyle/domain/Stock" = true := by first | (simp [plainName, overriddenIn]; done) | decide +kernel
theorem ef_rm_in (m : MethodId) (va : Addr) (vt : Int64) (vu : Int64) (vs : Int64) : entryFrame m #[(.ref va), (.long vt), (.long vu), (.long vs)] 7 = mkF m 0 #[.val (.ref va), .val (.long vt), .second, .val (.long vu), .second, .val (.long vs), .second] [] := by first | (simp [entryFrame, mkF, argsToLocals, Value.category]; done) | rfl
def Q_in (Z : State) (va : Addr) (vt : Int64) (vu : Int64) (vs : Int64) (h0 : Heap) (n0 : Nat) (v : Option Value) (h : Heap) (L : List Loc) : Prop := v = none ∧ Fr n0 L ∧ Keep h0 h [va] ∧ Exa Z h va "com/example/turnstyle/turnstyle/domain/Stock" ∧ Fld Z h va "com/example/turnstyle/turnstyle/domain/Stock" "total" "J" (.long vt) ∧ Fld Z h va "com/example/turnstyle/turnstyle/domain/Stock" "held" "J" (.long vu) ∧ Fld Z h va "com/example/turnstyle/turnstyle/domain/Stock" "sold" "J" (.long vs)
set_option maxRecDepth 65536 in
set_option maxHeartbeats 40000000 in
theorem rm_in (l : Launch) (Z : State) (a0 : Array Value) (hw : ∀ d ∈ tables_1, d.before a0 Z = true) (ws : List Jvm.Cond) (va : Addr) (vt : Int64) (vu : Int64) (vs : Int64) (h0 : Heap) (n0 : Nat) (Z0 : n0 ≤ h0.size) (E_va : Exa Z h0 va "com/example/turnstyle/turnstyle/domain/Stock") (g_va : n0 ≤ va) (F_total : Fld Z h0 va "com/example/turnstyle/turnstyle/domain/Stock" "total" "J" (.long (0 : Int64))) (F_held : Fld Z h0 va "com/example/turnstyle/turnstyle/domain/Stock" "held" "J" (.long (0 : Int64))) (F_sold : Fld Z h0 va "com/example/turnstyle/turnstyle/domain/Stock" "sold" "J" (.long (0 : Int64))) (hp : own_ok vt vu vs) :
    MetFree l (⟨"com/example/turnstyle/turnstyle/domain/Stock", "<init>", "(JJJ)V"⟩ : MethodName) (head1 (Jvm.Cond.code (⟨"com/example/turnstyle/turnstyle/domain/Stock", "<init>", "(JJJ)V"⟩ : MethodName) prog_12_method_1_code 7 none :: ws) ({ frames := 1, cells := 0, slots := 0, locals := 13 } : Room)) (fun a U => a = #[(.ref va), (.long vt), (.long vu), (.long vs)] ∧ Z.Warmed39 U.vm ∧ U.heap = h0) (fun _ _ _ _ _ => True) (fun _ U o U' => ∃ v L, o = .returned v ∧ Q_in Z va vt vu vs h0 n0 v U'.heap L ∧ FrameEnd U o U' L ({ frames := 1, cells := 0, slots := 0, locals := 13 } : Room).cells ({ frames := 1, cells := 0, slots := 0, locals := 13 } : Room).slots) := by
  refine MetFree.of_bodySF (plainFor_of_name pn_rm_in) hisR ?_
  intro p e s m args below meth c s₁ Bd hml0 hP hK
  obtain ⟨rfl, hZ, hh⟩ := hP
  have hx := Bd.exec
  have hby := Bd.bytes
  have hml : c.maxLocals = 7 := hml0
  have hown : s.vm.findClass "com/example/turnstyle/turnstyle/domain/Stock" = some m.cls := findClass_of_methodNamed Bd.named
  have hnm := (name_of_methodNamed Bd.named Bd.method).1
  have X0 : Stand p l e ({ frames := 1, cells := 0, slots := 0, locals := 13 } : Room) s m #[(.ref va), (.long vt), (.long vu), (.long vs)] below meth c s₁ [] 0 0 := Stand.of_body Bd
  have e0 : s₁.heap = h0 := by rw [← hh, Bd.state]; rfl
  have N0 := Fr.nil n0
  have pre0 : ∀ t, Steps p.tables e below (s₁.setTop (mkF m 0 #[.val (.ref va), .val (.long vt), .second, .val (.long vu), .second, .val (.long vs), .second] [])) t → Steps p.tables e below (s₁.setTop (entryFrame m #[(.ref va), (.long vt), (.long vu), (.long vs)] 7)) t := fun t k => castTop (ef_rm_in m va vt vu vs) k
  obtain ⟨T1, X1, e1, st1⟩ := initO X0 hx hZ hown (hw _ (List.mem_of_getElem? (i := 8) rfl)) (hw _ (List.mem_of_getElem? (i := 9) rfl)) (hw _ (List.mem_of_getElem? (i := 10) rfl)) e0 (g := (mkF m 1 #[.val (.ref va), .val (.long vt), .second, .val (.long vu), .second, .val (.long vs), .second] [(.ref va)])) rfl (by rw [hml]; rfl) rfl (hb hby d1_1) (by decide) (W := 0) (by show 2 * 0 + _ ≤ _; exact Nat.le_of_eq rfl) (by decide)
  obtain ⟨_, _, ⟨T2, L2, k2, n2⟩, -, X2, ⟨Lc2, hQ2, l2, y2, z2⟩, st2⟩ := Jvm.LawKit.callS X1 hx (y := (⟨"com/example/turnstyle/turnstyle/domain/Stock", "requireTotal", "(J)J"⟩ : MethodName)) hown (mvT hZ (hw _ (List.mem_of_getElem? (i := 11) rfl))) (mvT hZ (hw _ (List.mem_of_getElem? (i := 12) rfl))) (mvT hZ (hw _ (List.mem_of_getElem? (i := 4) rfl))) (mvT hZ (hw _ (List.mem_of_getElem? (i := 13) rfl))) (by decide) (backOf (W := 0) (rm_rq l Z a0 hw [] vt h0 n0 Z0 ⟨hp.1, hp.2.1⟩) hZ (hw _ (List.mem_of_getElem? (i := 13) rfl)) (hw _ (List.mem_of_getElem? (i := 4) rfl)) (by decide) (by decide)) (g := (mkF m 5 #[.val (.ref va), .val (.long vt), .second, .val (.long vu), .second, .val (.long vs), .second] [(.long vt)])) rfl (by rw [hml]; rfl) (argsL := [(.long vt)]) (rest := []) (lenOf own_pd0 rfl) rfl (by show 2 * 0 + _ ≤ _; exact Nat.le_of_eq rfl) (hb hby d1_5) (fun _ _ => ⟨rfl, e1, (by decide : 0 + 0 ≤ _), (by decide : 0 + 0 ≤ _)⟩)
  dsimp only [Pt.U, Pt.locs, Pt.cells, Pt.slots] at X2 l2 y2 z2 st2 hQ2
  subst l2 y2 z2
  obtain ⟨rfl, Nq2, hh2⟩ := hQ2
  have Nf2 := Fr.app N0 Nq2
  have pre3 : ∀ t, Steps p.tables e below (T2.setTop (mkF m 12 #[.val (.ref va), .val (.long vt), .second, .val (.long vu), .second, .val (.long vs), .second] [(.int (lcmpW vu (0 : Int64)))])) t → Steps p.tables e below (s₁.setTop (entryFrame m #[(.ref va), (.long vt), (.long vu), (.long vs)] 7)) t := by
    intro t k
    refine pre0 t ?_
    show Steps p.tables e below (s₁.setTop (mkF m 0 #[.val (.ref va), .val (.long vt), .second, .val (.long vu), .second, .val (.long vs), .second] [])) _
    refine XS.aloadN X0.here hx rfl (hb hby d1_0) rfl rfl ?_
    show Steps p.tables e below (s₁.setTop (mkF m 1 #[.val (.ref va), .val (.long vt), .second, .val (.long vu), .second, .val (.long vs), .second] [(.ref va)])) _
    refine st1 _ ?_
    show Steps p.tables e below (T1.setTop (mkF m 4 #[.val (.ref va), .val (.long vt), .second, .val (.long vu), .second, .val (.long vs), .second] [])) _
    refine XS.lloadN X1.here hx rfl (hb hby d1_4) rfl ?_
    show Steps p.tables e below (T1.setTop (mkF m 5 #[.val (.ref va), .val (.long vt), .second, .val (.long vu), .second, .val (.long vs), .second] [(.long vt)])) _
    refine st2 _ ?_
    show Steps p.tables e below (T2.setTop (mkF m 8 #[.val (.ref va), .val (.long vt), .second, .val (.long vu), .second, .val (.long vs), .second] [(.long vt)])) _
    jvm_step X2.here [X2.here.top, hx, (hb hby d1_8), Value.category]
    show Steps p.tables e below (T2.setTop (mkF m 9 #[.val (.ref va), .val (.long vt), .second, .val (.long vu), .second, .val (.long vs), .second] [])) _
    refine XS.lloadN X2.here hx rfl (hb hby d1_9) rfl ?_
    show Steps p.tables e below (T2.setTop (mkF m 10 #[.val (.ref va), .val (.long vt), .second, .val (.long vu), .second, .val (.long vs), .second] [(.long vu)])) _
    refine XS.lconst X2.here hx rfl (hb hby d1_10) ?_
    show Steps p.tables e below (T2.setTop (mkF m 11 #[.val (.ref va), .val (.long vt), .second, .val (.long vu), .second, .val (.long vs), .second] [(.long (0 : Int64)), (.long vu)])) _
    refine XS.lcmp X2.here hx rfl (hb hby d1_11) rfl ?_
    show Steps p.tables e below (T2.setTop (mkF m 12 #[.val (.ref va), .val (.long vt), .second, .val (.long vu), .second, .val (.long vs), .second] [(.int (lcmpW vu (0 : Int64)))])) _
    exact k
  have hd4 : ¬ (vu < (0 : Int64)) := own_jlt (by rw [own_zero]; have := hp.2.2.1; omega)
  have pre5 : ∀ t, Steps p.tables e below (T2.setTop (mkF m 19 #[.val (.ref va), .val (.long vt), .second, .val (.long vu), .second, .val (.long vs), .second] [(.int (lcmpW vs (0 : Int64)))])) t → Steps p.tables e below (s₁.setTop (entryFrame m #[(.ref va), (.long vt), (.long vu), (.long vs)] 7)) t := by
    intro t k
    refine pre3 t ?_
    show Steps p.tables e below (T2.setTop (mkF m 12 #[.val (.ref va), .val (.long vt), .second, .val (.long vu), .second, .val (.long vs), .second] [(.int (lcmpW vu (0 : Int64)))])) _
    refine XS.ifNo X2.here hx rfl (hb hby d1_12) rfl ((if0 _ _).trans (flt (mt (lw_lt _ _).mp hd4)).1) ?_
    show Steps p.tables e below (T2.setTop (mkF m 15 #[.val (.ref va), .val (.long vt), .second, .val (.long vu), .second, .val (.long vs), .second] [])) _
    refine XS.lload X2.here hx rfl (hb hby d1_15) rfl ?_
    show Steps p.tables e below (T2.setTop (mkF m 17 #[.val (.ref va), .val (.long vt), .second, .val (.long vu), .second, .val (.long vs), .second] [(.long vs)])) _
    refine XS.lconst X2.here hx rfl (hb hby d1_17) ?_
    show Steps p.tables e below (T2.setTop (mkF m 18 #[.val (.ref va), .val (.long vt), .second, .val (.long vu), .second, .val (.long vs), .second] [(.long (0 : Int64)), (.long vs)])) _
    refine XS.lcmp X2.here hx rfl (hb hby d1_18) rfl ?_
    show Steps p.tables e below (T2.setTop (mkF m 19 #[.val (.ref va), .val (.long vt), .second, .val (.long vu), .second, .val (.long vs), .second] [(.int (lcmpW vs (0 : Int64)))])) _
    exact k
  have hd6 : ¬ (vs < (0 : Int64)) := own_jlt (by rw [own_zero]; have := hp.2.2.2.1; omega)
  have pre7 : ∀ t, Steps p.tables e below (T2.setTop (mkF m 28 #[.val (.ref va), .val (.long vt), .second, .val (.long vu), .second, .val (.long vs), .second] [(.int (lcmpW (vu + vs) vt))])) t → Steps p.tables e below (s₁.setTop (entryFrame m #[(.ref va), (.long vt), (.long vu), (.long vs)] 7)) t := by
    intro t k
    refine pre5 t ?_
    show Steps p.tables e below (T2.setTop (mkF m 19 #[.val (.ref va), .val (.long vt), .second, .val (.long vu), .second, .val (.long vs), .second] [(.int (lcmpW vs (0 : Int64)))])) _
    refine XS.ifNo X2.here hx rfl (hb hby d1_19) rfl ((if0 _ _).trans (flt (mt (lw_lt _ _).mp hd6)).1) ?_
    show Steps p.tables e below (T2.setTop (mkF m 22 #[.val (.ref va), .val (.long vt), .second, .val (.long vu), .second, .val (.long vs), .second] [])) _
    refine XS.lloadN X2.here hx rfl (hb hby d1_22) rfl ?_
    show Steps p.tables e below (T2.setTop (mkF m 23 #[.val (.ref va), .val (.long vt), .second, .val (.long vu), .second, .val (.long vs), .second] [(.long vu)])) _
    refine XS.lload X2.here hx rfl (hb hby d1_23) rfl ?_
    show Steps p.tables e below (T2.setTop (mkF m 25 #[.val (.ref va), .val (.long vt), .second, .val (.long vu), .second, .val (.long vs), .second] [(.long vs), (.long vu)])) _
    refine XS.ladd X2.here hx rfl (hb hby d1_25) rfl ?_
    show Steps p.tables e below (T2.setTop (mkF m 26 #[.val (.ref va), .val (.long vt), .second, .val (.long vu), .second, .val (.long vs), .second] [(.long (vu + vs))])) _
    refine XS.lloadN X2.here hx rfl (hb hby d1_26) rfl ?_
    show Steps p.tables e below (T2.setTop (mkF m 27 #[.val (.ref va), .val (.long vt), .second, .val (.long vu), .second, .val (.long vs), .second] [(.long vt), (.long (vu + vs))])) _
    refine XS.lcmp X2.here hx rfl (hb hby d1_27) rfl ?_
    show Steps p.tables e below (T2.setTop (mkF m 28 #[.val (.ref va), .val (.long vt), .second, .val (.long vu), .second, .val (.long vs), .second] [(.int (lcmpW (vu + vs) vt))])) _
    exact k
  have hd8 : ¬ (vt < (vu + vs)) := own_jlt (by rw [own_ok_add hp]; have := hp.2.2.2.2; omega)
  obtain ⟨T9, h9, X9, e9, W9, st9⟩ := putF X2 hx hZ hown (host := "") (Or.inl (hw _ (List.mem_of_getElem? (i := 15) rfl))) Via.refl hh2 F_total E_va (Or.inr ⟨(hw _ (List.mem_of_getElem? (i := 16) rfl)), rfl, hnm⟩) (hw _ (List.mem_of_getElem? (i := 3) rfl)) (ty := .long) (by decide) rfl rfl (g := (mkF m 43 #[.val (.ref va), .val (.long vt), .second, .val (.long vu), .second, .val (.long vs), .second] [(.long vt), (.ref va)])) rfl rfl (hb hby d1_43)
  have N9 := Fr.snoc X9 Nf2 g_va
  have Fw9 := Fld.same W9 F_total
  have Zp10 : n0 ≤ h9.size := Nat.le_trans Z0 (Nat.le_of_eq (Wr.size W9).symm)
  have Fc11 := (Fld.other W9 F_held (Or.inr (slot_ne (Or.inr (hw _ (List.mem_of_getElem? (i := 18) rfl))) (Or.inr (hw _ (List.mem_of_getElem? (i := 16) rfl))) (by decide) (t := .long) (t' := .long) (by decide) (by decide))))
  have Fc12 := (Exa.wr W9 E_va)
  obtain ⟨T13, h13, X13, e13, W13, st13⟩ := putF X9 hx hZ hown (host := "") (Or.inl (hw _ (List.mem_of_getElem? (i := 17) rfl))) Via.refl e9 Fc11 Fc12 (Or.inr ⟨(hw _ (List.mem_of_getElem? (i := 18) rfl)), rfl, hnm⟩) (hw _ (List.mem_of_getElem? (i := 3) rfl)) (ty := .long) (by decide) rfl rfl (g := (mkF m 48 #[.val (.ref va), .val (.long vt), .second, .val (.long vu), .second, .val (.long vs), .second] [(.long vu), (.ref va)])) rfl rfl (hb hby d1_48)
  have N13 := Fr.snoc X13 N9 g_va
  have Fw13 := Fld.same W13 Fc11
  have Zp14 : n0 ≤ h13.size := Nat.le_trans Zp10 (Nat.le_of_eq (Wr.size W13).symm)
  have Fc15 := (Fld.other W13 (Fld.other W9 F_sold (Or.inr (slot_ne (Or.inr (hw _ (List.mem_of_getElem? (i := 20) rfl))) (Or.inr (hw _ (List.mem_of_getElem? (i := 16) rfl))) (by decide) (t := .long) (t' := .long) (by decide) (by decide)))) (Or.inr (slot_ne (Or.inr (hw _ (List.mem_of_getElem? (i := 20) rfl))) (Or.inr (hw _ (List.mem_of_getElem? (i := 18) rfl))) (by decide) (t := .long) (t' := .long) (by decide) (by decide))))
  have Fc16 := (Exa.wr W13 Fc12)
  obtain ⟨T17, h17, X17, e17, W17, st17⟩ := putF X13 hx hZ hown (host := "") (Or.inl (hw _ (List.mem_of_getElem? (i := 19) rfl))) Via.refl e13 Fc15 Fc16 (Or.inr ⟨(hw _ (List.mem_of_getElem? (i := 20) rfl)), rfl, hnm⟩) (hw _ (List.mem_of_getElem? (i := 3) rfl)) (ty := .long) (by decide) rfl rfl (g := (mkF m 54 #[.val (.ref va), .val (.long vt), .second, .val (.long vu), .second, .val (.long vs), .second] [(.long vs), (.ref va)])) rfl rfl (hb hby d1_54)
  have N17 := Fr.snoc X17 N13 g_va
  have Fw17 := Fld.same W17 Fc15
  have Zp18 : n0 ≤ h17.size := Nat.le_trans Zp14 (Nat.le_of_eq (Wr.size W17).symm)
  obtain ⟨fs, hr, hrun, hended, hW, hsame⟩ := X17.leave (v := none) (fun _ => rfl)
  refine ⟨_, _, pre7 _ ?_, hrun, hended, _, _, rfl, ?_, ⟨_, rfl⟩, hW, hsame.mono (by decide) (by decide)⟩
  · show Steps p.tables e below (T2.setTop (mkF m 28 #[.val (.ref va), .val (.long vt), .second, .val (.long vu), .second, .val (.long vs), .second] [(.int (lcmpW (vu + vs) vt))])) _
    refine XS.ifYes X2.here hx rfl (pc0 := 28) (pc' := 41) rfl (hb hby d1_28) rfl ((if0 _ _).trans (flt (mt (lw_gt _ _).mp hd8)).2.2.2) (by decide) (by decide) ?_
    show Steps p.tables e below (T2.setTop (mkF m 41 #[.val (.ref va), .val (.long vt), .second, .val (.long vu), .second, .val (.long vs), .second] [])) _
    refine XS.aloadN X2.here hx rfl (hb hby d1_41) rfl rfl ?_
    show Steps p.tables e below (T2.setTop (mkF m 42 #[.val (.ref va), .val (.long vt), .second, .val (.long vu), .second, .val (.long vs), .second] [(.ref va)])) _
    refine XS.lloadN X2.here hx rfl (hb hby d1_42) rfl ?_
    show Steps p.tables e below (T2.setTop (mkF m 43 #[.val (.ref va), .val (.long vt), .second, .val (.long vu), .second, .val (.long vs), .second] [(.long vt), (.ref va)])) _
    refine st9 _ ?_
    show Steps p.tables e below (T9.setTop (mkF m 46 #[.val (.ref va), .val (.long vt), .second, .val (.long vu), .second, .val (.long vs), .second] [])) _
    refine XS.aloadN X9.here hx rfl (hb hby d1_46) rfl rfl ?_
    show Steps p.tables e below (T9.setTop (mkF m 47 #[.val (.ref va), .val (.long vt), .second, .val (.long vu), .second, .val (.long vs), .second] [(.ref va)])) _
    refine XS.lloadN X9.here hx rfl (hb hby d1_47) rfl ?_
    show Steps p.tables e below (T9.setTop (mkF m 48 #[.val (.ref va), .val (.long vt), .second, .val (.long vu), .second, .val (.long vs), .second] [(.long vu), (.ref va)])) _
    refine st13 _ ?_
    show Steps p.tables e below (T13.setTop (mkF m 51 #[.val (.ref va), .val (.long vt), .second, .val (.long vu), .second, .val (.long vs), .second] [])) _
    refine XS.aloadN X13.here hx rfl (hb hby d1_51) rfl rfl ?_
    show Steps p.tables e below (T13.setTop (mkF m 52 #[.val (.ref va), .val (.long vt), .second, .val (.long vu), .second, .val (.long vs), .second] [(.ref va)])) _
    refine XS.lload X13.here hx rfl (hb hby d1_52) rfl ?_
    show Steps p.tables e below (T13.setTop (mkF m 54 #[.val (.ref va), .val (.long vt), .second, .val (.long vu), .second, .val (.long vs), .second] [(.long vs), (.ref va)])) _
    refine st17 _ ?_
    show Steps p.tables e below (T17.setTop (mkF m 57 #[.val (.ref va), .val (.long vt), .second, .val (.long vu), .second, .val (.long vs), .second] [])) _
    exact X17.returnOut hx Bd.returns (hb hby d1_57) hr
  · show Q_in Z va vt vu vs h0 n0 _ T17.heap _
    rw [e17]
    have Kc19 := (Keep.refl h0 [va]).wr W9 (Or.inl (List.mem_of_getElem? (i := 0) rfl))
    have Kc20 := Kc19.wr W13 (Or.inl (List.mem_of_getElem? (i := 0) rfl))
    have Kc21 := Kc20.wr W17 (Or.inl (List.mem_of_getElem? (i := 0) rfl))
    have Fc22 := (Exa.wr W17 Fc16)
    have Fc23 := (Fld.other W17 (Fld.other W13 Fw9 (Or.inr (slot_ne (Or.inr (hw _ (List.mem_of_getElem? (i := 16) rfl))) (Or.inr (hw _ (List.mem_of_getElem? (i := 18) rfl))) (by decide) (t := .long) (t' := .long) (by decide) (by decide)))) (Or.inr (slot_ne (Or.inr (hw _ (List.mem_of_getElem? (i := 16) rfl))) (Or.inr (hw _ (List.mem_of_getElem? (i := 20) rfl))) (by decide) (t := .long) (t' := .long) (by decide) (by decide))))
    have Fc24 := (Fld.other W17 Fw13 (Or.inr (slot_ne (Or.inr (hw _ (List.mem_of_getElem? (i := 18) rfl))) (Or.inr (hw _ (List.mem_of_getElem? (i := 20) rfl))) (by decide) (t := .long) (t' := .long) (by decide) (by decide))))
    exact ⟨rfl, N17, Kc21, Fc22, Fc23, Fc24, Fw17⟩
theorem d4_0 : decode prog_12_method_3_code 0 = .ok (.aload_n 0, 1) := by decide +kernel
theorem d4_1 : decode prog_12_method_3_code 1 = .ok (.getfield 20, 3) := by decide +kernel
theorem d4_4 : decode prog_12_method_3_code 4 = .ok (.aload_n 0, 1) := by decide +kernel
theorem d4_5 : decode prog_12_method_3_code 5 = .ok (.getfield 24, 3) := by decide +kernel
theorem d4_8 : decode prog_12_method_3_code 8 = .ok (.lsub, 1) := by decide +kernel
theorem d4_9 : decode prog_12_method_3_code 9 = .ok (.aload_n 0, 1) := by decide +kernel
theorem d4_10 : decode prog_12_method_3_code 10 = .ok (.getfield 27, 3) := by decide +kernel
theorem d4_13 : decode prog_12_method_3_code 13 = .ok (.lsub, 1) := by decide +kernel
theorem d4_14 : decode prog_12_method_3_code 14 = .ok (.lreturn, 1) := by decide +kernel
theorem pn_rm_ga : plainName "com/example/turnstyle/turnstyle/domain/Stock" = true := by first | (simp [plainName, overriddenIn]; done) | decide +kernel
theorem ef_rm_ga (m : MethodId) (va : Addr) : entryFrame m #[(.ref va)] 1 = mkF m 0 #[.val (.ref va)] [] := by first | (simp [entryFrame, mkF, argsToLocals, Value.category]; done) | rfl
def Q_ga (Z : State) (va : Addr) (vt : Int64) (vu : Int64) (vs : Int64) (h0 : Heap) (n0 : Nat) (v : Option Value) (h : Heap) (L : List Loc) : Prop := v = some (.long ((vt - vu) - vs)) ∧ Fr n0 L ∧ h = h0
set_option maxRecDepth 65536 in
set_option maxHeartbeats 40000000 in
theorem rm_ga (l : Launch) (Z : State) (a0 : Array Value) (hw : ∀ d ∈ tables_1, d.before a0 Z = true) (ws : List Jvm.Cond) (va : Addr) (vt : Int64) (vu : Int64) (vs : Int64) (h0 : Heap) (n0 : Nat) (Z0 : n0 ≤ h0.size) (F_t : Fld Z h0 va "com/example/turnstyle/turnstyle/domain/Stock" "total" "J" (.long vt)) (F_u : Fld Z h0 va "com/example/turnstyle/turnstyle/domain/Stock" "held" "J" (.long vu)) (F_s : Fld Z h0 va "com/example/turnstyle/turnstyle/domain/Stock" "sold" "J" (.long vs)) :
    MetFree l (⟨"com/example/turnstyle/turnstyle/domain/Stock", "getAvailable", "()J"⟩ : MethodName) (head1 (Jvm.Cond.code (⟨"com/example/turnstyle/turnstyle/domain/Stock", "getAvailable", "()J"⟩ : MethodName) prog_12_method_3_code 1 (some .long) :: ws) ({ frames := 0, cells := 0, slots := 0, locals := 0 } : Room)) (fun a U => a = #[(.ref va)] ∧ Z.Warmed39 U.vm ∧ U.heap = h0) (fun _ _ _ _ _ => True) (fun _ U o U' => ∃ v L, o = .returned v ∧ Q_ga Z va vt vu vs h0 n0 v U'.heap L ∧ FrameEnd U o U' L ({ frames := 0, cells := 0, slots := 0, locals := 0 } : Room).cells ({ frames := 0, cells := 0, slots := 0, locals := 0 } : Room).slots) := by
  refine MetFree.of_bodySF (plainFor_of_name pn_rm_ga) hisR ?_
  intro p e s m args below meth c s₁ Bd hml0 hP hK
  obtain ⟨rfl, hZ, hh⟩ := hP
  have hx := Bd.exec
  have hby := Bd.bytes
  have hml : c.maxLocals = 1 := hml0
  have hown : s.vm.findClass "com/example/turnstyle/turnstyle/domain/Stock" = some m.cls := findClass_of_methodNamed Bd.named
  have hnm := (name_of_methodNamed Bd.named Bd.method).1
  have X0 : Stand p l e ({ frames := 0, cells := 0, slots := 0, locals := 0 } : Room) s m #[(.ref va)] below meth c s₁ [] 0 0 := Stand.of_body Bd
  have e0 : s₁.heap = h0 := by rw [← hh, Bd.state]; rfl
  have N0 := Fr.nil n0
  have pre0 : ∀ t, Steps p.tables e below (s₁.setTop (mkF m 0 #[.val (.ref va)] [])) t → Steps p.tables e below (s₁.setTop (entryFrame m #[(.ref va)] 1)) t := fun t k => castTop (ef_rm_ga m va) k
  obtain ⟨T1, X1, e1, st1⟩ := getF X0 hx hZ hown (host := "") (Or.inl (hw _ (List.mem_of_getElem? (i := 15) rfl))) Via.refl e0 F_t (g := (mkF m 1 #[.val (.ref va)] [(.ref va)])) rfl rfl (hb hby d4_1)
  obtain ⟨T2, X2, e2, st2⟩ := getF X1 hx hZ hown (host := "") (Or.inl (hw _ (List.mem_of_getElem? (i := 17) rfl))) Via.refl e1 F_u (g := (mkF m 5 #[.val (.ref va)] [(.ref va), (.long vt)])) rfl rfl (hb hby d4_5)
  obtain ⟨T3, X3, e3, st3⟩ := getF X2 hx hZ hown (host := "") (Or.inl (hw _ (List.mem_of_getElem? (i := 19) rfl))) Via.refl e2 F_s (g := (mkF m 10 #[.val (.ref va)] [(.ref va), (.long (vt - vu))])) rfl rfl (hb hby d4_10)
  obtain ⟨fs, hr, hrun, hended, hW, hsame⟩ := X3.leave (v := some (.long ((vt - vu) - vs))) (fun h => by rw [Bd.returns] at h; cases h)
  refine ⟨_, _, pre0 _ ?_, hrun, hended, _, _, rfl, ?_, ⟨_, rfl⟩, hW, hsame.mono (by decide) (by decide)⟩
  · show Steps p.tables e below (s₁.setTop (mkF m 0 #[.val (.ref va)] [])) _
    refine XS.aloadN X0.here hx rfl (hb hby d4_0) rfl rfl ?_
    show Steps p.tables e below (s₁.setTop (mkF m 1 #[.val (.ref va)] [(.ref va)])) _
    refine st1 _ ?_
    show Steps p.tables e below (T1.setTop (mkF m 4 #[.val (.ref va)] [(.long vt)])) _
    refine XS.aloadN X1.here hx rfl (hb hby d4_4) rfl rfl ?_
    show Steps p.tables e below (T1.setTop (mkF m 5 #[.val (.ref va)] [(.ref va), (.long vt)])) _
    refine st2 _ ?_
    show Steps p.tables e below (T2.setTop (mkF m 8 #[.val (.ref va)] [(.long vu), (.long vt)])) _
    refine XS.lsub X2.here hx rfl (hb hby d4_8) rfl ?_
    show Steps p.tables e below (T2.setTop (mkF m 9 #[.val (.ref va)] [(.long (vt - vu))])) _
    refine XS.aloadN X2.here hx rfl (hb hby d4_9) rfl rfl ?_
    show Steps p.tables e below (T2.setTop (mkF m 10 #[.val (.ref va)] [(.ref va), (.long (vt - vu))])) _
    refine st3 _ ?_
    show Steps p.tables e below (T3.setTop (mkF m 13 #[.val (.ref va)] [(.long vs), (.long (vt - vu))])) _
    refine XS.lsub X3.here hx rfl (hb hby d4_13) rfl ?_
    show Steps p.tables e below (T3.setTop (mkF m 14 #[.val (.ref va)] [(.long ((vt - vu) - vs))])) _
    jvm_step X3.here [X3.here.top, hx, (hb hby d4_14), X3.method', Bd.returns, narrow]
    first | (intro acts; rw [hr _ acts rfl rfl rfl]) | rw [hr _ _ rfl rfl rfl]
    exact Steps.refl _
  · show Q_ga Z va vt vu vs h0 n0 _ T3.heap _
    rw [e3]
    exact ⟨rfl, N0, rfl⟩
theorem d5_0 : decode prog_12_method_5_code 0 = .ok (.lload_n 1, 1) := by decide +kernel
theorem d5_1 : decode prog_12_method_5_code 1 = .ok (.lconst 1, 1) := by decide +kernel
theorem d5_2 : decode prog_12_method_5_code 2 = .ok (.lcmp, 1) := by decide +kernel
theorem d5_3 : decode prog_12_method_5_code 3 = .ok (.ifCond .lt 12, 3) := by decide +kernel
theorem d5_6 : decode prog_12_method_5_code 6 = .ok (.lload_n 1, 1) := by decide +kernel
theorem d5_7 : decode prog_12_method_5_code 7 = .ok (.aload_n 0, 1) := by decide +kernel
theorem d5_8 : decode prog_12_method_5_code 8 = .ok (.invokevirtual 34, 3) := by decide +kernel
theorem d5_11 : decode prog_12_method_5_code 11 = .ok (.lcmp, 1) := by decide +kernel
theorem d5_12 : decode prog_12_method_5_code 12 = .ok (.ifCond .le 13, 3) := by decide +kernel
theorem d5_15 : decode prog_12_method_5_code 15 = .ok (.new 13, 3) := by decide +kernel
theorem d5_18 : decode prog_12_method_5_code 18 = .ok (.dup, 1) := by decide +kernel
theorem d5_19 : decode prog_12_method_5_code 19 = .ok (.ldc 38, 2) := by decide +kernel
theorem d5_21 : decode prog_12_method_5_code 21 = .ok (.invokespecial 17, 3) := by decide +kernel
theorem d5_24 : decode prog_12_method_5_code 24 = .ok (.athrow, 1) := by decide +kernel
theorem d5_25 : decode prog_12_method_5_code 25 = .ok (.new 8, 3) := by decide +kernel
theorem d5_28 : decode prog_12_method_5_code 28 = .ok (.dup, 1) := by decide +kernel
theorem d5_29 : decode prog_12_method_5_code 29 = .ok (.aload_n 0, 1) := by decide +kernel
theorem d5_30 : decode prog_12_method_5_code 30 = .ok (.getfield 20, 3) := by decide +kernel
theorem d5_33 : decode prog_12_method_5_code 33 = .ok (.aload_n 0, 1) := by decide +kernel
theorem d5_34 : decode prog_12_method_5_code 34 = .ok (.getfield 24, 3) := by decide +kernel
theorem d5_37 : decode prog_12_method_5_code 37 = .ok (.lload_n 1, 1) := by decide +kernel
theorem d5_38 : decode prog_12_method_5_code 38 = .ok (.ladd, 1) := by decide +kernel
theorem d5_39 : decode prog_12_method_5_code 39 = .ok (.aload_n 0, 1) := by decide +kernel
theorem d5_40 : decode prog_12_method_5_code 40 = .ok (.getfield 27, 3) := by decide +kernel
theorem d5_43 : decode prog_12_method_5_code 43 = .ok (.invokespecial 40, 3) := by decide +kernel
theorem d5_46 : decode prog_12_method_5_code 46 = .ok (.areturn, 1) := by decide +kernel
theorem pn_rm_ah : plainName "com/example/turnstyle/turnstyle/domain/Stock" = true := by first | (simp [plainName, overriddenIn]; done) | decide +kernel
theorem ef_rm_ah (m : MethodId) (va : Addr) (vn : Int64) : entryFrame m #[(.ref va), (.long vn)] 3 = mkF m 0 #[.val (.ref va), .val (.long vn), .second] [] := by first | (simp [entryFrame, mkF, argsToLocals, Value.category]; done) | rfl
def Q_ah (Z : State) (va : Addr) (vn : Int64) (vt : Int64) (vu : Int64) (vs : Int64) (h0 : Heap) (n0 : Nat) (v : Option Value) (h : Heap) (L : List Loc) : Prop := ∃ b : Addr, v = some (.ref b) ∧ Fr n0 L ∧ Keep h0 h [] ∧ n0 ≤ b ∧ h0.size ≤ b ∧ Exa Z h b "com/example/turnstyle/turnstyle/domain/Stock" ∧ Fld Z h b "com/example/turnstyle/turnstyle/domain/Stock" "total" "J" (.long vt) ∧ Fld Z h b "com/example/turnstyle/turnstyle/domain/Stock" "held" "J" (.long (vu + vn)) ∧ Fld Z h b "com/example/turnstyle/turnstyle/domain/Stock" "sold" "J" (.long vs)
set_option maxRecDepth 65536 in
set_option maxHeartbeats 40000000 in
theorem rm_ah (l : Launch) (Z : State) (a0 : Array Value) (hw : ∀ d ∈ tables_1, d.before a0 Z = true) (ws : List Jvm.Cond) (va : Addr) (vn : Int64) (vt : Int64) (vu : Int64) (vs : Int64) (h0 : Heap) (n0 : Nat) (Z0 : n0 ≤ h0.size) (F_t : Fld Z h0 va "com/example/turnstyle/turnstyle/domain/Stock" "total" "J" (.long vt)) (F_u : Fld Z h0 va "com/example/turnstyle/turnstyle/domain/Stock" "held" "J" (.long vu)) (F_s : Fld Z h0 va "com/example/turnstyle/turnstyle/domain/Stock" "sold" "J" (.long vs)) (E_a : Exa Z h0 va "com/example/turnstyle/turnstyle/domain/Stock") (hp : own_ok vt vu vs) (hq : 1 ≤ vn.toInt ∧ vn.toInt ≤ ((vt - vu) - vs).toInt) :
    MetFree l (⟨"com/example/turnstyle/turnstyle/domain/Stock", "afterHolding", "(J)Lcom/example/turnstyle/turnstyle/domain/Stock;"⟩ : MethodName) (head1 (Jvm.Cond.code (⟨"com/example/turnstyle/turnstyle/domain/Stock", "afterHolding", "(J)Lcom/example/turnstyle/turnstyle/domain/Stock;"⟩ : MethodName) prog_12_method_5_code 3 (some (.object "com/example/turnstyle/turnstyle/domain/Stock")) :: ws) ({ frames := 2, cells := 1, slots := 3, locals := 32 } : Room)) (fun a U => a = #[(.ref va), (.long vn)] ∧ Z.Warmed39 U.vm ∧ U.heap = h0) (fun _ _ _ _ _ => True) (fun _ U o U' => ∃ v L, o = .returned v ∧ Q_ah Z va vn vt vu vs h0 n0 v U'.heap L ∧ FrameEnd U o U' L ({ frames := 2, cells := 1, slots := 3, locals := 32 } : Room).cells ({ frames := 2, cells := 1, slots := 3, locals := 32 } : Room).slots) := by
  refine MetFree.of_bodySF (plainFor_of_name pn_rm_ah) hisR ?_
  intro p e s m args below meth c s₁ Bd hml0 hP hK
  obtain ⟨rfl, hZ, hh⟩ := hP
  have hx := Bd.exec
  have hby := Bd.bytes
  have hml : c.maxLocals = 3 := hml0
  have hown : s.vm.findClass "com/example/turnstyle/turnstyle/domain/Stock" = some m.cls := findClass_of_methodNamed Bd.named
  have hnm := (name_of_methodNamed Bd.named Bd.method).1
  have X0 : Stand p l e ({ frames := 2, cells := 1, slots := 3, locals := 32 } : Room) s m #[(.ref va), (.long vn)] below meth c s₁ [] 0 0 := Stand.of_body Bd
  have e0 : s₁.heap = h0 := by rw [← hh, Bd.state]; rfl
  have N0 := Fr.nil n0
  have pre0 : ∀ t, Steps p.tables e below (s₁.setTop (mkF m 0 #[.val (.ref va), .val (.long vn), .second] [])) t → Steps p.tables e below (s₁.setTop (entryFrame m #[(.ref va), (.long vn)] 3)) t := fun t k => castTop (ef_rm_ah m va vn) k
  have pre1 : ∀ t, Steps p.tables e below (s₁.setTop (mkF m 3 #[.val (.ref va), .val (.long vn), .second] [(.int (lcmpW vn (1 : Int64)))])) t → Steps p.tables e below (s₁.setTop (entryFrame m #[(.ref va), (.long vn)] 3)) t := by
    intro t k
    refine pre0 t ?_
    show Steps p.tables e below (s₁.setTop (mkF m 0 #[.val (.ref va), .val (.long vn), .second] [])) _
    refine XS.lloadN X0.here hx rfl (hb hby d5_0) rfl ?_
    show Steps p.tables e below (s₁.setTop (mkF m 1 #[.val (.ref va), .val (.long vn), .second] [(.long vn)])) _
    refine XS.lconst X0.here hx rfl (hb hby d5_1) ?_
    show Steps p.tables e below (s₁.setTop (mkF m 2 #[.val (.ref va), .val (.long vn), .second] [(.long (1 : Int64)), (.long vn)])) _
    refine XS.lcmp X0.here hx rfl (hb hby d5_2) rfl ?_
    show Steps p.tables e below (s₁.setTop (mkF m 3 #[.val (.ref va), .val (.long vn), .second] [(.int (lcmpW vn (1 : Int64)))])) _
    exact k
  have hd2 : ¬ (vn < (1 : Int64)) := own_jlt (by rw [own_one]; omega)
  obtain ⟨cq4, kq4, q4a, q4b, q4c⟩ := isOf hZ e0 E_a
  obtain ⟨_, _, ⟨T3, L3, k3, n3⟩, -, X3, ⟨Lc3, hQ3, l3, y3, z3⟩, st3⟩ := X0.virtualBack hx (y := (⟨"com/example/turnstyle/turnstyle/domain/Stock", "getAvailable", "()J"⟩ : MethodName)) (z := (⟨"com/example/turnstyle/turnstyle/domain/Stock", "getAvailable", "()J"⟩ : MethodName)) hown (mvT hZ (hw _ (List.mem_of_getElem? (i := 31) rfl))) (mvT hZ (hw _ (List.mem_of_getElem? (i := 22) rfl))) (notFace_of_selects (args := #[]) (mvT hZ (hw _ (List.mem_of_getElem? (i := 24) rfl)))) (mvT hZ (hw _ (List.mem_of_getElem? (i := 24) rfl))) (mvT hZ (hw _ (List.mem_of_getElem? (i := 23) rfl))) (by decide) (backOf (W := 2) (rm_ga l Z a0 hw [] va vt vu vs h0 n0 Z0 F_t F_u F_s) hZ (hw _ (List.mem_of_getElem? (i := 25) rfl)) (hw _ (List.mem_of_getElem? (i := 4) rfl)) (by decide) (by decide)) q4a q4c (g := (mkF m 8 #[.val (.ref va), .val (.long vn), .second] [(.ref va), (.long vn)])) rfl (by rw [hml]; rfl) (Steps.refl _) (argsL := []) (rest := [(.long vn)]) (lenOf own_pd1 rfl) rfl (by show 2 * 0 + _ ≤ _; exact Nat.le_of_eq rfl) (hb hby d5_8) (fun _ _ => ⟨rfl, e0, (by decide : 0 + 0 ≤ _), (by decide : 0 + 0 ≤ _)⟩)
  dsimp only [Pt.U, Pt.locs, Pt.cells, Pt.slots] at X3 l3 y3 z3 st3 hQ3
  subst l3 y3 z3
  obtain ⟨rfl, Nq3, hh3⟩ := hQ3
  have Nf3 := Fr.app N0 Nq3
  have pre5 : ∀ t, Steps p.tables e below (T3.setTop (mkF m 12 #[.val (.ref va), .val (.long vn), .second] [(.int (lcmpW vn ((vt - vu) - vs)))])) t → Steps p.tables e below (s₁.setTop (entryFrame m #[(.ref va), (.long vn)] 3)) t := by
    intro t k
    refine pre1 t ?_
    show Steps p.tables e below (s₁.setTop (mkF m 3 #[.val (.ref va), .val (.long vn), .second] [(.int (lcmpW vn (1 : Int64)))])) _
    refine XS.ifNo X0.here hx rfl (hb hby d5_3) rfl ((if0 _ _).trans (flt (mt (lw_lt _ _).mp hd2)).1) ?_
    show Steps p.tables e below (s₁.setTop (mkF m 6 #[.val (.ref va), .val (.long vn), .second] [])) _
    refine XS.lloadN X0.here hx rfl (hb hby d5_6) rfl ?_
    show Steps p.tables e below (s₁.setTop (mkF m 7 #[.val (.ref va), .val (.long vn), .second] [(.long vn)])) _
    refine XS.aloadN X0.here hx rfl (hb hby d5_7) rfl rfl ?_
    show Steps p.tables e below (s₁.setTop (mkF m 8 #[.val (.ref va), .val (.long vn), .second] [(.ref va), (.long vn)])) _
    refine st3.trans ?_
    show Steps p.tables e below (T3.setTop (mkF m 11 #[.val (.ref va), .val (.long vn), .second] [(.long ((vt - vu) - vs)), (.long vn)])) _
    refine XS.lcmp X3.here hx rfl (hb hby d5_11) rfl ?_
    show Steps p.tables e below (T3.setTop (mkF m 12 #[.val (.ref va), .val (.long vn), .second] [(.int (lcmpW vn ((vt - vu) - vs)))])) _
    exact k
  have hd6 : ¬ (((vt - vu) - vs) < vn) := own_jlt (by omega)
  obtain ⟨T7, h7, X7, e7, E7, A7, D7, U7, st7⟩ := newO X3 hx hZ hown (hw _ (List.mem_of_getElem? (i := 32) rfl)) (hw _ (List.mem_of_getElem? (i := 3) rfl)) (hw _ (List.mem_of_getElem? (i := 4) rfl)) hh3 (g := (mkF m 25 #[.val (.ref va), .val (.long vn), .second] [])) rfl (hb hby d5_25) (by decide) (by decide)
  obtain ⟨b7, g7⟩ : ∃ z, z = h0.size := ⟨_, rfl⟩
  rw [← g7] at A7 D7 U7 st7
  have g_b7 : n0 ≤ b7 := Nat.le_trans Z0 (Nat.le_of_eq g7.symm)
  have Zp8 : n0 ≤ h7.size := Nat.le_trans Z0 E7.1
  have Fn9 : Fld Z h7 b7 "com/example/turnstyle/turnstyle/domain/Stock" "total" "J" (.long (0 : Int64)) := D7 (Or.inr (hw _ (List.mem_of_getElem? (i := 16) rfl))) (ty := .long) (by decide)
  have Fn10 : Fld Z h7 b7 "com/example/turnstyle/turnstyle/domain/Stock" "held" "J" (.long (0 : Int64)) := D7 (Or.inr (hw _ (List.mem_of_getElem? (i := 18) rfl))) (ty := .long) (by decide)
  have Fn11 : Fld Z h7 b7 "com/example/turnstyle/turnstyle/domain/Stock" "sold" "J" (.long (0 : Int64)) := D7 (Or.inr (hw _ (List.mem_of_getElem? (i := 20) rfl))) (ty := .long) (by decide)
  have sz_b7 : h0.size ≤ b7 := Nat.le_of_eq g7.symm
  have Fc12 := (Fld.ext E7 F_t)
  obtain ⟨T13, X13, e13, st13⟩ := getF X7 hx hZ hown (host := "") (Or.inl (hw _ (List.mem_of_getElem? (i := 15) rfl))) Via.refl e7 Fc12 (g := (mkF m 30 #[.val (.ref va), .val (.long vn), .second] [(.ref va), (.ref b7), (.ref b7)])) rfl rfl (hb hby d5_30)
  have Fc14 := (Fld.ext E7 F_u)
  obtain ⟨T15, X15, e15, st15⟩ := getF X13 hx hZ hown (host := "") (Or.inl (hw _ (List.mem_of_getElem? (i := 17) rfl))) Via.refl e13 Fc14 (g := (mkF m 34 #[.val (.ref va), .val (.long vn), .second] [(.ref va), (.long vt), (.ref b7), (.ref b7)])) rfl rfl (hb hby d5_34)
  have Fc16 := (Fld.ext E7 F_s)
  obtain ⟨T17, X17, e17, st17⟩ := getF X15 hx hZ hown (host := "") (Or.inl (hw _ (List.mem_of_getElem? (i := 19) rfl))) Via.refl e15 Fc16 (g := (mkF m 40 #[.val (.ref va), .val (.long vn), .second] [(.ref va), (.long (vu + vn)), (.long vt), (.ref b7), (.ref b7)])) rfl rfl (hb hby d5_40)
  obtain ⟨_, _, ⟨T18, L18, k18, n18⟩, -, X18, ⟨Lc18, hQ18, l18, y18, z18⟩, st18⟩ := X17.specialBack hx (y := (⟨"com/example/turnstyle/turnstyle/domain/Stock", "<init>", "(JJJ)V"⟩ : MethodName)) rfl hown (mvT hZ (hw _ (List.mem_of_getElem? (i := 33) rfl))) (mvT hZ (hw _ (List.mem_of_getElem? (i := 6) rfl))) (mvT hZ (hw _ (List.mem_of_getElem? (i := 7) rfl))) (by decide) (backOf (W := 1) (rm_in l Z a0 hw [] b7 vt (vu + vn) vs h7 n0 Zp8 A7 g_b7 Fn9 Fn10 Fn11 (own_ok_hold hp hq)) hZ (hw _ (List.mem_of_getElem? (i := 7) rfl)) (hw _ (List.mem_of_getElem? (i := 4) rfl)) (by decide) (by decide)) (g := (mkF m 43 #[.val (.ref va), .val (.long vn), .second] [(.long vs), (.long (vu + vn)), (.long vt), (.ref b7), (.ref b7)])) rfl (by rw [hml]; rfl) (Steps.refl _) (a := b7) (argsL := [(.long vt), (.long (vu + vn)), (.long vs)]) (rest := [(.ref b7)]) (lenOf own_pd2 rfl) rfl (by show 2 * 0 + _ ≤ _; exact Nat.le_of_eq rfl) (hb hby d5_43) (fun _ _ => ⟨rfl, e17, (by decide : 1 + 0 ≤ _), (by decide : 3 + 0 ≤ _)⟩)
  dsimp only [Pt.U, Pt.locs, Pt.cells, Pt.slots] at X18 l18 y18 z18 st18 hQ18
  subst l18 y18 z18
  obtain ⟨rfl, Nq18, K18, Ex18, Fx18_0, Fx18_1, Fx18_2⟩ := hQ18
  have Nf18 := Fr.app Nf3 Nq18
  have Zp19 : n0 ≤ T18.heap.size := Nat.le_trans Zp8 K18.1
  obtain ⟨fs, hr, hrun, hended, hW, hsame⟩ := X18.leave (v := some (.ref b7)) (fun h => by rw [Bd.returns] at h; cases h)
  refine ⟨_, _, pre5 _ ?_, hrun, hended, _, _, rfl, ?_, ⟨_, rfl⟩, hW, hsame.mono (by decide) (by decide)⟩
  · show Steps p.tables e below (T3.setTop (mkF m 12 #[.val (.ref va), .val (.long vn), .second] [(.int (lcmpW vn ((vt - vu) - vs)))])) _
    refine XS.ifYes X3.here hx rfl (pc0 := 12) (pc' := 25) rfl (hb hby d5_12) rfl ((if0 _ _).trans (flt (mt (lw_gt _ _).mp hd6)).2.2.2) (by decide) (by decide) ?_
    show Steps p.tables e below (T3.setTop (mkF m 25 #[.val (.ref va), .val (.long vn), .second] [])) _
    refine st7 _ ?_
    show Steps p.tables e below (T7.setTop (mkF m 28 #[.val (.ref va), .val (.long vn), .second] [(.ref b7)])) _
    refine XS.dup X7.here hx rfl (hb hby d5_28) rfl rfl ?_
    show Steps p.tables e below (T7.setTop (mkF m 29 #[.val (.ref va), .val (.long vn), .second] [(.ref b7), (.ref b7)])) _
    refine XS.aloadN X7.here hx rfl (hb hby d5_29) rfl rfl ?_
    show Steps p.tables e below (T7.setTop (mkF m 30 #[.val (.ref va), .val (.long vn), .second] [(.ref va), (.ref b7), (.ref b7)])) _
    refine st13 _ ?_
    show Steps p.tables e below (T13.setTop (mkF m 33 #[.val (.ref va), .val (.long vn), .second] [(.long vt), (.ref b7), (.ref b7)])) _
    refine XS.aloadN X13.here hx rfl (hb hby d5_33) rfl rfl ?_
    show Steps p.tables e below (T13.setTop (mkF m 34 #[.val (.ref va), .val (.long vn), .second] [(.ref va), (.long vt), (.ref b7), (.ref b7)])) _
    refine st15 _ ?_
    show Steps p.tables e below (T15.setTop (mkF m 37 #[.val (.ref va), .val (.long vn), .second] [(.long vu), (.long vt), (.ref b7), (.ref b7)])) _
    refine XS.lloadN X15.here hx rfl (hb hby d5_37) rfl ?_
    show Steps p.tables e below (T15.setTop (mkF m 38 #[.val (.ref va), .val (.long vn), .second] [(.long vn), (.long vu), (.long vt), (.ref b7), (.ref b7)])) _
    refine XS.ladd X15.here hx rfl (hb hby d5_38) rfl ?_
    show Steps p.tables e below (T15.setTop (mkF m 39 #[.val (.ref va), .val (.long vn), .second] [(.long (vu + vn)), (.long vt), (.ref b7), (.ref b7)])) _
    refine XS.aloadN X15.here hx rfl (hb hby d5_39) rfl rfl ?_
    show Steps p.tables e below (T15.setTop (mkF m 40 #[.val (.ref va), .val (.long vn), .second] [(.ref va), (.long (vu + vn)), (.long vt), (.ref b7), (.ref b7)])) _
    refine st17 _ ?_
    show Steps p.tables e below (T17.setTop (mkF m 43 #[.val (.ref va), .val (.long vn), .second] [(.long vs), (.long (vu + vn)), (.long vt), (.ref b7), (.ref b7)])) _
    refine st18.trans ?_
    show Steps p.tables e below (T18.setTop (mkF m 46 #[.val (.ref va), .val (.long vn), .second] [(.ref b7)])) _
    jvm_step X18.here [X18.here.top, hx, (hb hby d5_46), X18.method', Bd.returns, Value.isRef, FieldType.isReference]
    first | (intro acts; rw [hr _ acts rfl rfl rfl]) | rw [hr _ _ rfl rfl rfl]
    exact Steps.refl _
  · show Q_ah Z va vn vt vu vs h0 n0 _ T18.heap _
    have Kc20 := (Keep.refl h0 []).ext E7
    have Kc21 := Kc20.trans K18 (allS (Or.inr (Nat.le_trans (Keep.refl h0 []).1 (Nat.le_of_eq g7.symm))) all0)
    exact ⟨b7, rfl, Nf18, Kc21, g_b7, sz_b7, Ex18, Fx18_0, Fx18_1, Fx18_2⟩
theorem pn_rm0 : plainName "com/example/turnstyle/turnstyle/domain/StockGetAvailablePinLaw" = true := by first | (simp [plainName, overriddenIn]; done) | decide +kernel
theorem ef_rm0 (m : MethodId) (va : Int64) (vb : Int64) (vc : Int64) (vd : Int64) : entryFrame m #[(.long va), (.long vb), (.long vc), (.long vd)] maxLocals = mkF m 0 #[.val (.long va), .second, .val (.long vb), .second, .val (.long vc), .second, .val (.long vd), .second, .unset, .unset, .unset, .unset, .unset, .unset, .unset, .unset, .unset, .unset, .unset, .unset] [] := by first | (simp [entryFrame, mkF, argsToLocals, Value.category, maxLocals]; done) | rfl
def Q0 (Z : State) (va : Int64) (vb : Int64) (vc : Int64) (vd : Int64) (h0 : Heap) (n0 : Nat) (v : Option Value) (h : Heap) (L : List Loc) : Prop := v = some (.int 1) ∧ Fr n0 L
set_option maxRecDepth 65536 in
set_option maxHeartbeats 40000000 in
theorem rm0 (l : Launch) (Z : State) (a0 : Array Value) (hw : ∀ d ∈ tables_1, d.before a0 Z = true) (ws : List Jvm.Cond) (va : Int64) (vb : Int64) (vc : Int64) (vd : Int64) (h0 : Heap) (n0 : Nat) (Z0 : n0 ≤ h0.size) :
    MetFree l x (head1 (Jvm.Cond.code x code maxLocals ret :: ws) room_1) (fun a U => a = #[(.long va), (.long vb), (.long vc), (.long vd)] ∧ Z.Warmed39 U.vm ∧ U.heap = h0) (fun _ _ _ _ _ => True) (fun _ U o U' => ∃ v L, o = .returned v ∧ Q0 Z va vb vc vd h0 n0 v U'.heap L ∧ FrameEnd U o U' L room_1.cells room_1.slots) := by
  refine MetFree.of_bodySF (plainFor_of_name pn_rm0) hisR ?_
  intro p e s m args below meth c s₁ Bd hml0 hP hK
  obtain ⟨rfl, hZ, hh⟩ := hP
  have hx := Bd.exec
  have hby := Bd.bytes
  have hml : c.maxLocals = 20 := hml0
  have hown : s.vm.findClass "com/example/turnstyle/turnstyle/domain/StockGetAvailablePinLaw" = some m.cls := findClass_of_methodNamed Bd.named
  have hnm := (name_of_methodNamed Bd.named Bd.method).1
  have X0 : Stand p l e room_1 s m #[(.long va), (.long vb), (.long vc), (.long vd)] below meth c s₁ [] 0 0 := Stand.of_body Bd
  have e0 : s₁.heap = h0 := by rw [← hh, Bd.state]; rfl
  have N0 := Fr.nil n0
  have pre0 : ∀ t, Steps p.tables e below (s₁.setTop (mkF m 0 #[.val (.long va), .second, .val (.long vb), .second, .val (.long vc), .second, .val (.long vd), .second, .unset, .unset, .unset, .unset, .unset, .unset, .unset, .unset, .unset, .unset, .unset, .unset] [])) t → Steps p.tables e below (s₁.setTop (entryFrame m #[(.long va), (.long vb), (.long vc), (.long vd)] maxLocals)) t := fun t k => castTop (ef_rm0 m va vb vc vd) k
  have pre1 : ∀ t, Steps p.tables e below (s₁.setTop (mkF m 11 #[.val (.long va), .second, .val (.long vb), .second, .val (.long vc), .second, .val (.long vd), .second, .val (.long ((va &&& (9223372036854775807 : Int64)) - ((va &&& (9223372036854775807 : Int64)) / (1000001 : Int64)) * (1000001 : Int64))), .second, .unset, .unset, .unset, .unset, .unset, .unset, .unset, .unset, .unset, .unset] [])) t → Steps p.tables e below (s₁.setTop (entryFrame m #[(.long va), (.long vb), (.long vc), (.long vd)] maxLocals)) t := by
    intro t k
    refine pre0 t ?_
    show Steps p.tables e below (s₁.setTop (mkF m 0 #[.val (.long va), .second, .val (.long vb), .second, .val (.long vc), .second, .val (.long vd), .second, .unset, .unset, .unset, .unset, .unset, .unset, .unset, .unset, .unset, .unset, .unset, .unset] [])) _
    refine XS.lloadN X0.here hx rfl (hb hby at_0) rfl ?_
    show Steps p.tables e below (s₁.setTop (mkF m 1 #[.val (.long va), .second, .val (.long vb), .second, .val (.long vc), .second, .val (.long vd), .second, .unset, .unset, .unset, .unset, .unset, .unset, .unset, .unset, .unset, .unset, .unset, .unset] [(.long va)])) _
    refine X0.ldc2Long hx hown (mvT hZ (hw _ (List.mem_of_getElem? (i := 0) rfl))) (g := (mkF m 1 #[.val (.long va), .second, .val (.long vb), .second, .val (.long vc), .second, .val (.long vd), .second, .unset, .unset, .unset, .unset, .unset, .unset, .unset, .unset, .unset, .unset, .unset, .unset] [(.long va)])) rfl (hb hby at_1) _ ?_
    show Steps p.tables e below (s₁.setTop (mkF m 4 #[.val (.long va), .second, .val (.long vb), .second, .val (.long vc), .second, .val (.long vd), .second, .unset, .unset, .unset, .unset, .unset, .unset, .unset, .unset, .unset, .unset, .unset, .unset] [(.long (9223372036854775807 : Int64)), (.long va)])) _
    refine XS.land X0.here hx rfl (hb hby at_4) rfl ?_
    show Steps p.tables e below (s₁.setTop (mkF m 5 #[.val (.long va), .second, .val (.long vb), .second, .val (.long vc), .second, .val (.long vd), .second, .unset, .unset, .unset, .unset, .unset, .unset, .unset, .unset, .unset, .unset, .unset, .unset] [(.long (va &&& (9223372036854775807 : Int64)))])) _
    refine X0.ldc2Long hx hown (mvT hZ (hw _ (List.mem_of_getElem? (i := 1) rfl))) (g := (mkF m 5 #[.val (.long va), .second, .val (.long vb), .second, .val (.long vc), .second, .val (.long vd), .second, .unset, .unset, .unset, .unset, .unset, .unset, .unset, .unset, .unset, .unset, .unset, .unset] [(.long (va &&& (9223372036854775807 : Int64)))])) rfl (hb hby at_5) _ ?_
    show Steps p.tables e below (s₁.setTop (mkF m 8 #[.val (.long va), .second, .val (.long vb), .second, .val (.long vc), .second, .val (.long vd), .second, .unset, .unset, .unset, .unset, .unset, .unset, .unset, .unset, .unset, .unset, .unset, .unset] [(.long (1000001 : Int64)), (.long (va &&& (9223372036854775807 : Int64)))])) _
    refine XS.lrem X0.here hx rfl (hb hby at_8) rfl (by decide) ?_
    show Steps p.tables e below (s₁.setTop (mkF m 9 #[.val (.long va), .second, .val (.long vb), .second, .val (.long vc), .second, .val (.long vd), .second, .unset, .unset, .unset, .unset, .unset, .unset, .unset, .unset, .unset, .unset, .unset, .unset] [(.long ((va &&& (9223372036854775807 : Int64)) - ((va &&& (9223372036854775807 : Int64)) / (1000001 : Int64)) * (1000001 : Int64)))])) _
    refine XS.lstore X0.here hx rfl (hb hby at_9) rfl (l' := #[.val (.long va), .second, .val (.long vb), .second, .val (.long vc), .second, .val (.long vd), .second, .val (.long ((va &&& (9223372036854775807 : Int64)) - ((va &&& (9223372036854775807 : Int64)) / (1000001 : Int64)) * (1000001 : Int64))), .second, .unset, .unset, .unset, .unset, .unset, .unset, .unset, .unset, .unset, .unset]) rfl ?_
    show Steps p.tables e below (s₁.setTop (mkF m 11 #[.val (.long va), .second, .val (.long vb), .second, .val (.long vc), .second, .val (.long vd), .second, .val (.long ((va &&& (9223372036854775807 : Int64)) - ((va &&& (9223372036854775807 : Int64)) / (1000001 : Int64)) * (1000001 : Int64))), .second, .unset, .unset, .unset, .unset, .unset, .unset, .unset, .unset, .unset, .unset] [])) _
    exact k
  obtain ⟨vt, h_vt⟩ : ∃ z : Int64, z = ((va &&& (9223372036854775807 : Int64)) - ((va &&& (9223372036854775807 : Int64)) / (1000001 : Int64)) * (1000001 : Int64)) := ⟨_, rfl⟩
  have pre2 : ∀ t, Steps p.tables e below (s₁.setTop (mkF m 11 #[.val (.long va), .second, .val (.long vb), .second, .val (.long vc), .second, .val (.long vd), .second, .val (.long vt), .second, .unset, .unset, .unset, .unset, .unset, .unset, .unset, .unset, .unset, .unset] [])) t → Steps p.tables e below (s₁.setTop (entryFrame m #[(.long va), (.long vb), (.long vc), (.long vd)] maxLocals)) t := by
    subst h_vt
    exact pre1
  have b1 : 0 ≤ vt.toInt ∧ vt.toInt ≤ 1000000 := by have q := own_rem va 1000001 (by decide); rw [← h_vt, show (1000001 : Int64).toInt = 1000001 from by decide] at q; omega
  have a1 : (vt + (1 : Int64)).toInt = vt.toInt + 1 := by rw [own_add (by rw [own_one]; omega) (by rw [own_one]; omega), own_one]
  have pre3 : ∀ t, Steps p.tables e below (s₁.setTop (mkF m 23 #[.val (.long va), .second, .val (.long vb), .second, .val (.long vc), .second, .val (.long vd), .second, .val (.long vt), .second, .val (.long ((vb &&& (9223372036854775807 : Int64)) - ((vb &&& (9223372036854775807 : Int64)) / (vt + (1 : Int64))) * (vt + (1 : Int64)))), .second, .unset, .unset, .unset, .unset, .unset, .unset, .unset, .unset] [])) t → Steps p.tables e below (s₁.setTop (entryFrame m #[(.long va), (.long vb), (.long vc), (.long vd)] maxLocals)) t := by
    intro t k
    refine pre2 t ?_
    show Steps p.tables e below (s₁.setTop (mkF m 11 #[.val (.long va), .second, .val (.long vb), .second, .val (.long vc), .second, .val (.long vd), .second, .val (.long vt), .second, .unset, .unset, .unset, .unset, .unset, .unset, .unset, .unset, .unset, .unset] [])) _
    refine XS.lloadN X0.here hx rfl (hb hby at_11) rfl ?_
    show Steps p.tables e below (s₁.setTop (mkF m 12 #[.val (.long va), .second, .val (.long vb), .second, .val (.long vc), .second, .val (.long vd), .second, .val (.long vt), .second, .unset, .unset, .unset, .unset, .unset, .unset, .unset, .unset, .unset, .unset] [(.long vb)])) _
    refine X0.ldc2Long hx hown (mvT hZ (hw _ (List.mem_of_getElem? (i := 0) rfl))) (g := (mkF m 12 #[.val (.long va), .second, .val (.long vb), .second, .val (.long vc), .second, .val (.long vd), .second, .val (.long vt), .second, .unset, .unset, .unset, .unset, .unset, .unset, .unset, .unset, .unset, .unset] [(.long vb)])) rfl (hb hby at_12) _ ?_
    show Steps p.tables e below (s₁.setTop (mkF m 15 #[.val (.long va), .second, .val (.long vb), .second, .val (.long vc), .second, .val (.long vd), .second, .val (.long vt), .second, .unset, .unset, .unset, .unset, .unset, .unset, .unset, .unset, .unset, .unset] [(.long (9223372036854775807 : Int64)), (.long vb)])) _
    refine XS.land X0.here hx rfl (hb hby at_15) rfl ?_
    show Steps p.tables e below (s₁.setTop (mkF m 16 #[.val (.long va), .second, .val (.long vb), .second, .val (.long vc), .second, .val (.long vd), .second, .val (.long vt), .second, .unset, .unset, .unset, .unset, .unset, .unset, .unset, .unset, .unset, .unset] [(.long (vb &&& (9223372036854775807 : Int64)))])) _
    refine XS.lload X0.here hx rfl (hb hby at_16) rfl ?_
    show Steps p.tables e below (s₁.setTop (mkF m 18 #[.val (.long va), .second, .val (.long vb), .second, .val (.long vc), .second, .val (.long vd), .second, .val (.long vt), .second, .unset, .unset, .unset, .unset, .unset, .unset, .unset, .unset, .unset, .unset] [(.long vt), (.long (vb &&& (9223372036854775807 : Int64)))])) _
    refine XS.lconst X0.here hx rfl (hb hby at_18) ?_
    show Steps p.tables e below (s₁.setTop (mkF m 19 #[.val (.long va), .second, .val (.long vb), .second, .val (.long vc), .second, .val (.long vd), .second, .val (.long vt), .second, .unset, .unset, .unset, .unset, .unset, .unset, .unset, .unset, .unset, .unset] [(.long (1 : Int64)), (.long vt), (.long (vb &&& (9223372036854775807 : Int64)))])) _
    refine XS.ladd X0.here hx rfl (hb hby at_19) rfl ?_
    show Steps p.tables e below (s₁.setTop (mkF m 20 #[.val (.long va), .second, .val (.long vb), .second, .val (.long vc), .second, .val (.long vd), .second, .val (.long vt), .second, .unset, .unset, .unset, .unset, .unset, .unset, .unset, .unset, .unset, .unset] [(.long (vt + (1 : Int64))), (.long (vb &&& (9223372036854775807 : Int64)))])) _
    refine XS.lrem X0.here hx rfl (hb hby at_20) rfl (own_nz (by omega)) ?_
    show Steps p.tables e below (s₁.setTop (mkF m 21 #[.val (.long va), .second, .val (.long vb), .second, .val (.long vc), .second, .val (.long vd), .second, .val (.long vt), .second, .unset, .unset, .unset, .unset, .unset, .unset, .unset, .unset, .unset, .unset] [(.long ((vb &&& (9223372036854775807 : Int64)) - ((vb &&& (9223372036854775807 : Int64)) / (vt + (1 : Int64))) * (vt + (1 : Int64))))])) _
    refine XS.lstore X0.here hx rfl (hb hby at_21) rfl (l' := #[.val (.long va), .second, .val (.long vb), .second, .val (.long vc), .second, .val (.long vd), .second, .val (.long vt), .second, .val (.long ((vb &&& (9223372036854775807 : Int64)) - ((vb &&& (9223372036854775807 : Int64)) / (vt + (1 : Int64))) * (vt + (1 : Int64)))), .second, .unset, .unset, .unset, .unset, .unset, .unset, .unset, .unset]) rfl ?_
    show Steps p.tables e below (s₁.setTop (mkF m 23 #[.val (.long va), .second, .val (.long vb), .second, .val (.long vc), .second, .val (.long vd), .second, .val (.long vt), .second, .val (.long ((vb &&& (9223372036854775807 : Int64)) - ((vb &&& (9223372036854775807 : Int64)) / (vt + (1 : Int64))) * (vt + (1 : Int64)))), .second, .unset, .unset, .unset, .unset, .unset, .unset, .unset, .unset] [])) _
    exact k
  obtain ⟨vu, h_vu⟩ : ∃ z : Int64, z = ((vb &&& (9223372036854775807 : Int64)) - ((vb &&& (9223372036854775807 : Int64)) / (vt + (1 : Int64))) * (vt + (1 : Int64))) := ⟨_, rfl⟩
  have pre4 : ∀ t, Steps p.tables e below (s₁.setTop (mkF m 23 #[.val (.long va), .second, .val (.long vb), .second, .val (.long vc), .second, .val (.long vd), .second, .val (.long vt), .second, .val (.long vu), .second, .unset, .unset, .unset, .unset, .unset, .unset, .unset, .unset] [])) t → Steps p.tables e below (s₁.setTop (entryFrame m #[(.long va), (.long vb), (.long vc), (.long vd)] maxLocals)) t := by
    subst h_vu
    exact pre3
  have b2 : 0 ≤ vu.toInt ∧ vu.toInt ≤ vt.toInt := by have q := own_rem vb (vt + (1 : Int64)) (by omega); rw [← h_vu] at q; omega
  have aa0 : (vt - vu).toInt = vt.toInt - vu.toInt := own_sub (by omega) (by omega)
  have a2 : ((vt - vu) + (1 : Int64)).toInt = vt.toInt - vu.toInt + 1 := by rw [own_add (by rw [own_one]; omega) (by rw [own_one]; omega), own_one, aa0]
  have pre5 : ∀ t, Steps p.tables e below (s₁.setTop (mkF m 39 #[.val (.long va), .second, .val (.long vb), .second, .val (.long vc), .second, .val (.long vd), .second, .val (.long vt), .second, .val (.long vu), .second, .val (.long ((vc &&& (9223372036854775807 : Int64)) - ((vc &&& (9223372036854775807 : Int64)) / ((vt - vu) + (1 : Int64))) * ((vt - vu) + (1 : Int64)))), .second, .unset, .unset, .unset, .unset, .unset, .unset] [])) t → Steps p.tables e below (s₁.setTop (entryFrame m #[(.long va), (.long vb), (.long vc), (.long vd)] maxLocals)) t := by
    intro t k
    refine pre4 t ?_
    show Steps p.tables e below (s₁.setTop (mkF m 23 #[.val (.long va), .second, .val (.long vb), .second, .val (.long vc), .second, .val (.long vd), .second, .val (.long vt), .second, .val (.long vu), .second, .unset, .unset, .unset, .unset, .unset, .unset, .unset, .unset] [])) _
    refine XS.lload X0.here hx rfl (hb hby at_23) rfl ?_
    show Steps p.tables e below (s₁.setTop (mkF m 25 #[.val (.long va), .second, .val (.long vb), .second, .val (.long vc), .second, .val (.long vd), .second, .val (.long vt), .second, .val (.long vu), .second, .unset, .unset, .unset, .unset, .unset, .unset, .unset, .unset] [(.long vc)])) _
    refine X0.ldc2Long hx hown (mvT hZ (hw _ (List.mem_of_getElem? (i := 0) rfl))) (g := (mkF m 25 #[.val (.long va), .second, .val (.long vb), .second, .val (.long vc), .second, .val (.long vd), .second, .val (.long vt), .second, .val (.long vu), .second, .unset, .unset, .unset, .unset, .unset, .unset, .unset, .unset] [(.long vc)])) rfl (hb hby at_25) _ ?_
    show Steps p.tables e below (s₁.setTop (mkF m 28 #[.val (.long va), .second, .val (.long vb), .second, .val (.long vc), .second, .val (.long vd), .second, .val (.long vt), .second, .val (.long vu), .second, .unset, .unset, .unset, .unset, .unset, .unset, .unset, .unset] [(.long (9223372036854775807 : Int64)), (.long vc)])) _
    refine XS.land X0.here hx rfl (hb hby at_28) rfl ?_
    show Steps p.tables e below (s₁.setTop (mkF m 29 #[.val (.long va), .second, .val (.long vb), .second, .val (.long vc), .second, .val (.long vd), .second, .val (.long vt), .second, .val (.long vu), .second, .unset, .unset, .unset, .unset, .unset, .unset, .unset, .unset] [(.long (vc &&& (9223372036854775807 : Int64)))])) _
    refine XS.lload X0.here hx rfl (hb hby at_29) rfl ?_
    show Steps p.tables e below (s₁.setTop (mkF m 31 #[.val (.long va), .second, .val (.long vb), .second, .val (.long vc), .second, .val (.long vd), .second, .val (.long vt), .second, .val (.long vu), .second, .unset, .unset, .unset, .unset, .unset, .unset, .unset, .unset] [(.long vt), (.long (vc &&& (9223372036854775807 : Int64)))])) _
    refine XS.lload X0.here hx rfl (hb hby at_31) rfl ?_
    show Steps p.tables e below (s₁.setTop (mkF m 33 #[.val (.long va), .second, .val (.long vb), .second, .val (.long vc), .second, .val (.long vd), .second, .val (.long vt), .second, .val (.long vu), .second, .unset, .unset, .unset, .unset, .unset, .unset, .unset, .unset] [(.long vu), (.long vt), (.long (vc &&& (9223372036854775807 : Int64)))])) _
    refine XS.lsub X0.here hx rfl (hb hby at_33) rfl ?_
    show Steps p.tables e below (s₁.setTop (mkF m 34 #[.val (.long va), .second, .val (.long vb), .second, .val (.long vc), .second, .val (.long vd), .second, .val (.long vt), .second, .val (.long vu), .second, .unset, .unset, .unset, .unset, .unset, .unset, .unset, .unset] [(.long (vt - vu)), (.long (vc &&& (9223372036854775807 : Int64)))])) _
    refine XS.lconst X0.here hx rfl (hb hby at_34) ?_
    show Steps p.tables e below (s₁.setTop (mkF m 35 #[.val (.long va), .second, .val (.long vb), .second, .val (.long vc), .second, .val (.long vd), .second, .val (.long vt), .second, .val (.long vu), .second, .unset, .unset, .unset, .unset, .unset, .unset, .unset, .unset] [(.long (1 : Int64)), (.long (vt - vu)), (.long (vc &&& (9223372036854775807 : Int64)))])) _
    refine XS.ladd X0.here hx rfl (hb hby at_35) rfl ?_
    show Steps p.tables e below (s₁.setTop (mkF m 36 #[.val (.long va), .second, .val (.long vb), .second, .val (.long vc), .second, .val (.long vd), .second, .val (.long vt), .second, .val (.long vu), .second, .unset, .unset, .unset, .unset, .unset, .unset, .unset, .unset] [(.long ((vt - vu) + (1 : Int64))), (.long (vc &&& (9223372036854775807 : Int64)))])) _
    refine XS.lrem X0.here hx rfl (hb hby at_36) rfl (own_nz (by omega)) ?_
    show Steps p.tables e below (s₁.setTop (mkF m 37 #[.val (.long va), .second, .val (.long vb), .second, .val (.long vc), .second, .val (.long vd), .second, .val (.long vt), .second, .val (.long vu), .second, .unset, .unset, .unset, .unset, .unset, .unset, .unset, .unset] [(.long ((vc &&& (9223372036854775807 : Int64)) - ((vc &&& (9223372036854775807 : Int64)) / ((vt - vu) + (1 : Int64))) * ((vt - vu) + (1 : Int64))))])) _
    refine XS.lstore X0.here hx rfl (hb hby at_37) rfl (l' := #[.val (.long va), .second, .val (.long vb), .second, .val (.long vc), .second, .val (.long vd), .second, .val (.long vt), .second, .val (.long vu), .second, .val (.long ((vc &&& (9223372036854775807 : Int64)) - ((vc &&& (9223372036854775807 : Int64)) / ((vt - vu) + (1 : Int64))) * ((vt - vu) + (1 : Int64)))), .second, .unset, .unset, .unset, .unset, .unset, .unset]) rfl ?_
    show Steps p.tables e below (s₁.setTop (mkF m 39 #[.val (.long va), .second, .val (.long vb), .second, .val (.long vc), .second, .val (.long vd), .second, .val (.long vt), .second, .val (.long vu), .second, .val (.long ((vc &&& (9223372036854775807 : Int64)) - ((vc &&& (9223372036854775807 : Int64)) / ((vt - vu) + (1 : Int64))) * ((vt - vu) + (1 : Int64)))), .second, .unset, .unset, .unset, .unset, .unset, .unset] [])) _
    exact k
  obtain ⟨vs, h_vs⟩ : ∃ z : Int64, z = ((vc &&& (9223372036854775807 : Int64)) - ((vc &&& (9223372036854775807 : Int64)) / ((vt - vu) + (1 : Int64))) * ((vt - vu) + (1 : Int64))) := ⟨_, rfl⟩
  have pre6 : ∀ t, Steps p.tables e below (s₁.setTop (mkF m 39 #[.val (.long va), .second, .val (.long vb), .second, .val (.long vc), .second, .val (.long vd), .second, .val (.long vt), .second, .val (.long vu), .second, .val (.long vs), .second, .unset, .unset, .unset, .unset, .unset, .unset] [])) t → Steps p.tables e below (s₁.setTop (entryFrame m #[(.long va), (.long vb), (.long vc), (.long vd)] maxLocals)) t := by
    subst h_vs
    exact pre5
  have b3 : 0 ≤ vs.toInt ∧ vs.toInt ≤ vt.toInt - vu.toInt := by have q := own_rem vc ((vt - vu) + (1 : Int64)) (by omega); rw [← h_vs] at q; omega
  have hok : own_ok vt vu vs := ⟨b1.1, b1.2, b2.1, b3.1, by omega⟩
  have hav := own_av hok
  obtain ⟨T7, h7, X7, e7, E7, A7, D7, U7, st7⟩ := newO X0 hx hZ hown (hw _ (List.mem_of_getElem? (i := 2) rfl)) (hw _ (List.mem_of_getElem? (i := 3) rfl)) (hw _ (List.mem_of_getElem? (i := 4) rfl)) e0 (g := (mkF m 39 #[.val (.long va), .second, .val (.long vb), .second, .val (.long vc), .second, .val (.long vd), .second, .val (.long vt), .second, .val (.long vu), .second, .val (.long vs), .second, .unset, .unset, .unset, .unset, .unset, .unset] [])) rfl (hb hby at_39) (by decide) (by decide)
  obtain ⟨b7, g7⟩ : ∃ z, z = h0.size := ⟨_, rfl⟩
  rw [← g7] at A7 D7 U7 st7
  have g_b7 : n0 ≤ b7 := Nat.le_trans Z0 (Nat.le_of_eq g7.symm)
  have Zp8 : n0 ≤ h7.size := Nat.le_trans Z0 E7.1
  have Fn9 : Fld Z h7 b7 "com/example/turnstyle/turnstyle/domain/Stock" "total" "J" (.long (0 : Int64)) := D7 (Or.inr (hw _ (List.mem_of_getElem? (i := 16) rfl))) (ty := .long) (by decide)
  have Fn10 : Fld Z h7 b7 "com/example/turnstyle/turnstyle/domain/Stock" "held" "J" (.long (0 : Int64)) := D7 (Or.inr (hw _ (List.mem_of_getElem? (i := 18) rfl))) (ty := .long) (by decide)
  have Fn11 : Fld Z h7 b7 "com/example/turnstyle/turnstyle/domain/Stock" "sold" "J" (.long (0 : Int64)) := D7 (Or.inr (hw _ (List.mem_of_getElem? (i := 20) rfl))) (ty := .long) (by decide)
  obtain ⟨_, _, ⟨T12, L12, k12, n12⟩, -, X12, ⟨Lc12, hQ12, l12, y12, z12⟩, st12⟩ := X7.specialBack hx (y := (⟨"com/example/turnstyle/turnstyle/domain/Stock", "<init>", "(JJJ)V"⟩ : MethodName)) rfl hown (mvT hZ (hw _ (List.mem_of_getElem? (i := 5) rfl))) (mvT hZ (hw _ (List.mem_of_getElem? (i := 6) rfl))) (mvT hZ (hw _ (List.mem_of_getElem? (i := 7) rfl))) (by decide) (backOf (W := 1) (rm_in l Z a0 hw [] b7 vt vu vs h7 n0 Zp8 A7 g_b7 Fn9 Fn10 Fn11 hok) hZ (hw _ (List.mem_of_getElem? (i := 7) rfl)) (hw _ (List.mem_of_getElem? (i := 4) rfl)) (by decide) (by decide)) (g := (mkF m 49 #[.val (.long va), .second, .val (.long vb), .second, .val (.long vc), .second, .val (.long vd), .second, .val (.long vt), .second, .val (.long vu), .second, .val (.long vs), .second, .unset, .unset, .unset, .unset, .unset, .unset] [(.long vs), (.long vu), (.long vt), (.ref b7), (.ref b7)])) rfl (by rw [hml]; rfl) (Steps.refl _) (a := b7) (argsL := [(.long vt), (.long vu), (.long vs)]) (rest := [(.ref b7)]) (lenOf own_pd2 rfl) rfl (by show 2 * 0 + _ ≤ _; exact Nat.le_of_eq rfl) (hb hby at_49) (fun _ _ => ⟨rfl, e7, (by decide : 1 + 0 ≤ _), (by decide : 3 + 0 ≤ _)⟩)
  dsimp only [Pt.U, Pt.locs, Pt.cells, Pt.slots] at X12 l12 y12 z12 st12 hQ12
  subst l12 y12 z12
  obtain ⟨rfl, Nq12, K12, Ex12, Fx12_0, Fx12_1, Fx12_2⟩ := hQ12
  have Nf12 := Fr.app N0 Nq12
  have Zp13 : n0 ≤ T12.heap.size := Nat.le_trans Zp8 K12.1
  obtain ⟨cq15, kq15, q15a, q15b, q15c⟩ := isOf hZ rfl Ex12
  obtain ⟨_, _, ⟨T14, L14, k14, n14⟩, -, X14, ⟨Lc14, hQ14, l14, y14, z14⟩, st14⟩ := X12.virtualBack hx (y := (⟨"com/example/turnstyle/turnstyle/domain/Stock", "getAvailable", "()J"⟩ : MethodName)) (z := (⟨"com/example/turnstyle/turnstyle/domain/Stock", "getAvailable", "()J"⟩ : MethodName)) hown (mvT hZ (hw _ (List.mem_of_getElem? (i := 21) rfl))) (mvT hZ (hw _ (List.mem_of_getElem? (i := 22) rfl))) (notFace_of_selects (args := #[]) (mvT hZ (hw _ (List.mem_of_getElem? (i := 24) rfl)))) (mvT hZ (hw _ (List.mem_of_getElem? (i := 24) rfl))) (mvT hZ (hw _ (List.mem_of_getElem? (i := 23) rfl))) (by decide) (backOf (W := 0) (rm_ga l Z a0 hw [] b7 vt vu vs T12.heap n0 Zp13 Fx12_0 Fx12_1 Fx12_2) hZ (hw _ (List.mem_of_getElem? (i := 25) rfl)) (hw _ (List.mem_of_getElem? (i := 4) rfl)) (by decide) (by decide)) q15a q15c (g := (mkF m 56 #[.val (.long va), .second, .val (.long vb), .second, .val (.long vc), .second, .val (.long vd), .second, .val (.long vt), .second, .val (.long vu), .second, .val (.long vs), .second, .val (.ref b7), .unset, .unset, .unset, .unset, .unset] [(.ref b7)])) rfl (by rw [hml]; rfl) (Steps.refl _) (argsL := []) (rest := []) (lenOf own_pd1 rfl) rfl (by show 2 * 0 + _ ≤ _; exact Nat.le_of_eq rfl) (hb hby at_56) (fun _ _ => ⟨rfl, rfl, (by decide : 1 + 0 ≤ _), (by decide : 3 + 0 ≤ _)⟩)
  dsimp only [Pt.U, Pt.locs, Pt.cells, Pt.slots] at X14 l14 y14 z14 st14 hQ14
  subst l14 y14 z14
  obtain ⟨rfl, Nq14, hh14⟩ := hQ14
  have Nf14 := Fr.app Nf12 Nq14
  have pre16 : ∀ t, Steps p.tables e below (T14.setTop (mkF m 61 #[.val (.long va), .second, .val (.long vb), .second, .val (.long vc), .second, .val (.long vd), .second, .val (.long vt), .second, .val (.long vu), .second, .val (.long vs), .second, .val (.ref b7), .val (.long ((vt - vu) - vs)), .second, .unset, .unset, .unset] [])) t → Steps p.tables e below (s₁.setTop (entryFrame m #[(.long va), (.long vb), (.long vc), (.long vd)] maxLocals)) t := by
    intro t k
    refine pre6 t ?_
    show Steps p.tables e below (s₁.setTop (mkF m 39 #[.val (.long va), .second, .val (.long vb), .second, .val (.long vc), .second, .val (.long vd), .second, .val (.long vt), .second, .val (.long vu), .second, .val (.long vs), .second, .unset, .unset, .unset, .unset, .unset, .unset] [])) _
    refine st7 _ ?_
    show Steps p.tables e below (T7.setTop (mkF m 42 #[.val (.long va), .second, .val (.long vb), .second, .val (.long vc), .second, .val (.long vd), .second, .val (.long vt), .second, .val (.long vu), .second, .val (.long vs), .second, .unset, .unset, .unset, .unset, .unset, .unset] [(.ref b7)])) _
    refine XS.dup X7.here hx rfl (hb hby at_42) rfl rfl ?_
    show Steps p.tables e below (T7.setTop (mkF m 43 #[.val (.long va), .second, .val (.long vb), .second, .val (.long vc), .second, .val (.long vd), .second, .val (.long vt), .second, .val (.long vu), .second, .val (.long vs), .second, .unset, .unset, .unset, .unset, .unset, .unset] [(.ref b7), (.ref b7)])) _
    refine XS.lload X7.here hx rfl (hb hby at_43) rfl ?_
    show Steps p.tables e below (T7.setTop (mkF m 45 #[.val (.long va), .second, .val (.long vb), .second, .val (.long vc), .second, .val (.long vd), .second, .val (.long vt), .second, .val (.long vu), .second, .val (.long vs), .second, .unset, .unset, .unset, .unset, .unset, .unset] [(.long vt), (.ref b7), (.ref b7)])) _
    refine XS.lload X7.here hx rfl (hb hby at_45) rfl ?_
    show Steps p.tables e below (T7.setTop (mkF m 47 #[.val (.long va), .second, .val (.long vb), .second, .val (.long vc), .second, .val (.long vd), .second, .val (.long vt), .second, .val (.long vu), .second, .val (.long vs), .second, .unset, .unset, .unset, .unset, .unset, .unset] [(.long vu), (.long vt), (.ref b7), (.ref b7)])) _
    refine XS.lload X7.here hx rfl (hb hby at_47) rfl ?_
    show Steps p.tables e below (T7.setTop (mkF m 49 #[.val (.long va), .second, .val (.long vb), .second, .val (.long vc), .second, .val (.long vd), .second, .val (.long vt), .second, .val (.long vu), .second, .val (.long vs), .second, .unset, .unset, .unset, .unset, .unset, .unset] [(.long vs), (.long vu), (.long vt), (.ref b7), (.ref b7)])) _
    refine st12.trans ?_
    show Steps p.tables e below (T12.setTop (mkF m 52 #[.val (.long va), .second, .val (.long vb), .second, .val (.long vc), .second, .val (.long vd), .second, .val (.long vt), .second, .val (.long vu), .second, .val (.long vs), .second, .unset, .unset, .unset, .unset, .unset, .unset] [(.ref b7)])) _
    refine XS.astore X12.here hx rfl (hb hby at_52) rfl rfl (l' := #[.val (.long va), .second, .val (.long vb), .second, .val (.long vc), .second, .val (.long vd), .second, .val (.long vt), .second, .val (.long vu), .second, .val (.long vs), .second, .val (.ref b7), .unset, .unset, .unset, .unset, .unset]) rfl ?_
    show Steps p.tables e below (T12.setTop (mkF m 54 #[.val (.long va), .second, .val (.long vb), .second, .val (.long vc), .second, .val (.long vd), .second, .val (.long vt), .second, .val (.long vu), .second, .val (.long vs), .second, .val (.ref b7), .unset, .unset, .unset, .unset, .unset] [])) _
    refine XS.aload X12.here hx rfl (hb hby at_54) rfl rfl ?_
    show Steps p.tables e below (T12.setTop (mkF m 56 #[.val (.long va), .second, .val (.long vb), .second, .val (.long vc), .second, .val (.long vd), .second, .val (.long vt), .second, .val (.long vu), .second, .val (.long vs), .second, .val (.ref b7), .unset, .unset, .unset, .unset, .unset] [(.ref b7)])) _
    refine st14.trans ?_
    show Steps p.tables e below (T14.setTop (mkF m 59 #[.val (.long va), .second, .val (.long vb), .second, .val (.long vc), .second, .val (.long vd), .second, .val (.long vt), .second, .val (.long vu), .second, .val (.long vs), .second, .val (.ref b7), .unset, .unset, .unset, .unset, .unset] [(.long ((vt - vu) - vs))])) _
    refine XS.lstore X14.here hx rfl (hb hby at_59) rfl (l' := #[.val (.long va), .second, .val (.long vb), .second, .val (.long vc), .second, .val (.long vd), .second, .val (.long vt), .second, .val (.long vu), .second, .val (.long vs), .second, .val (.ref b7), .val (.long ((vt - vu) - vs)), .second, .unset, .unset, .unset]) rfl ?_
    show Steps p.tables e below (T14.setTop (mkF m 61 #[.val (.long va), .second, .val (.long vb), .second, .val (.long vc), .second, .val (.long vd), .second, .val (.long vt), .second, .val (.long vu), .second, .val (.long vs), .second, .val (.ref b7), .val (.long ((vt - vu) - vs)), .second, .unset, .unset, .unset] [])) _
    exact k
  obtain ⟨vav, h_vav⟩ : ∃ z : Int64, z = ((vt - vu) - vs) := ⟨_, rfl⟩
  have pre17 : ∀ t, Steps p.tables e below (T14.setTop (mkF m 61 #[.val (.long va), .second, .val (.long vb), .second, .val (.long vc), .second, .val (.long vd), .second, .val (.long vt), .second, .val (.long vu), .second, .val (.long vs), .second, .val (.ref b7), .val (.long vav), .second, .unset, .unset, .unset] [])) t → Steps p.tables e below (s₁.setTop (entryFrame m #[(.long va), (.long vb), (.long vc), (.long vd)] maxLocals)) t := by
    subst h_vav
    exact pre16
  rw [← h_vav] at hav
  have s1 : (vav + vu).toInt = vav.toInt + vu.toInt := own_add (by omega) (by omega)
  have s2 : ((vav + vu) + vs).toInt = vt.toInt := by rw [own_add (by omega) (by omega), s1]; omega
  have pre18 : ∀ t, Steps p.tables e below (T14.setTop (mkF m 65 #[.val (.long va), .second, .val (.long vb), .second, .val (.long vc), .second, .val (.long vd), .second, .val (.long vt), .second, .val (.long vu), .second, .val (.long vs), .second, .val (.ref b7), .val (.long vav), .second, .unset, .unset, .unset] [(.int (lcmpW vav (0 : Int64)))])) t → Steps p.tables e below (s₁.setTop (entryFrame m #[(.long va), (.long vb), (.long vc), (.long vd)] maxLocals)) t := by
    intro t k
    refine pre17 t ?_
    show Steps p.tables e below (T14.setTop (mkF m 61 #[.val (.long va), .second, .val (.long vb), .second, .val (.long vc), .second, .val (.long vd), .second, .val (.long vt), .second, .val (.long vu), .second, .val (.long vs), .second, .val (.ref b7), .val (.long vav), .second, .unset, .unset, .unset] [])) _
    refine XS.lload X14.here hx rfl (hb hby at_61) rfl ?_
    show Steps p.tables e below (T14.setTop (mkF m 63 #[.val (.long va), .second, .val (.long vb), .second, .val (.long vc), .second, .val (.long vd), .second, .val (.long vt), .second, .val (.long vu), .second, .val (.long vs), .second, .val (.ref b7), .val (.long vav), .second, .unset, .unset, .unset] [(.long vav)])) _
    refine XS.lconst X14.here hx rfl (hb hby at_63) ?_
    show Steps p.tables e below (T14.setTop (mkF m 64 #[.val (.long va), .second, .val (.long vb), .second, .val (.long vc), .second, .val (.long vd), .second, .val (.long vt), .second, .val (.long vu), .second, .val (.long vs), .second, .val (.ref b7), .val (.long vav), .second, .unset, .unset, .unset] [(.long (0 : Int64)), (.long vav)])) _
    refine XS.lcmp X14.here hx rfl (hb hby at_64) rfl ?_
    show Steps p.tables e below (T14.setTop (mkF m 65 #[.val (.long va), .second, .val (.long vb), .second, .val (.long vc), .second, .val (.long vd), .second, .val (.long vt), .second, .val (.long vu), .second, .val (.long vs), .second, .val (.ref b7), .val (.long vav), .second, .unset, .unset, .unset] [(.int (lcmpW vav (0 : Int64)))])) _
    exact k
  have hd19 : ¬ (vav < (0 : Int64)) := own_jlt (by rw [own_zero]; omega)
  have pre20 : ∀ t, Steps p.tables e below (T14.setTop (mkF m 73 #[.val (.long va), .second, .val (.long vb), .second, .val (.long vc), .second, .val (.long vd), .second, .val (.long vt), .second, .val (.long vu), .second, .val (.long vs), .second, .val (.ref b7), .val (.long vav), .second, .unset, .unset, .unset] [(.int (lcmpW vav vt))])) t → Steps p.tables e below (s₁.setTop (entryFrame m #[(.long va), (.long vb), (.long vc), (.long vd)] maxLocals)) t := by
    intro t k
    refine pre18 t ?_
    show Steps p.tables e below (T14.setTop (mkF m 65 #[.val (.long va), .second, .val (.long vb), .second, .val (.long vc), .second, .val (.long vd), .second, .val (.long vt), .second, .val (.long vu), .second, .val (.long vs), .second, .val (.ref b7), .val (.long vav), .second, .unset, .unset, .unset] [(.int (lcmpW vav (0 : Int64)))])) _
    refine XS.ifNo X14.here hx rfl (hb hby at_65) rfl ((if0 _ _).trans (flt (mt (lw_lt _ _).mp hd19)).1) ?_
    show Steps p.tables e below (T14.setTop (mkF m 68 #[.val (.long va), .second, .val (.long vb), .second, .val (.long vc), .second, .val (.long vd), .second, .val (.long vt), .second, .val (.long vu), .second, .val (.long vs), .second, .val (.ref b7), .val (.long vav), .second, .unset, .unset, .unset] [])) _
    refine XS.lload X14.here hx rfl (hb hby at_68) rfl ?_
    show Steps p.tables e below (T14.setTop (mkF m 70 #[.val (.long va), .second, .val (.long vb), .second, .val (.long vc), .second, .val (.long vd), .second, .val (.long vt), .second, .val (.long vu), .second, .val (.long vs), .second, .val (.ref b7), .val (.long vav), .second, .unset, .unset, .unset] [(.long vav)])) _
    refine XS.lload X14.here hx rfl (hb hby at_70) rfl ?_
    show Steps p.tables e below (T14.setTop (mkF m 72 #[.val (.long va), .second, .val (.long vb), .second, .val (.long vc), .second, .val (.long vd), .second, .val (.long vt), .second, .val (.long vu), .second, .val (.long vs), .second, .val (.ref b7), .val (.long vav), .second, .unset, .unset, .unset] [(.long vt), (.long vav)])) _
    refine XS.lcmp X14.here hx rfl (hb hby at_72) rfl ?_
    show Steps p.tables e below (T14.setTop (mkF m 73 #[.val (.long va), .second, .val (.long vb), .second, .val (.long vc), .second, .val (.long vd), .second, .val (.long vt), .second, .val (.long vu), .second, .val (.long vs), .second, .val (.ref b7), .val (.long vav), .second, .unset, .unset, .unset] [(.int (lcmpW vav vt))])) _
    exact k
  have hd21 : ¬ (vt < vav) := own_jlt (by omega)
  have pre22 : ∀ t, Steps p.tables e below (T14.setTop (mkF m 89 #[.val (.long va), .second, .val (.long vb), .second, .val (.long vc), .second, .val (.long vd), .second, .val (.long vt), .second, .val (.long vu), .second, .val (.long vs), .second, .val (.ref b7), .val (.long vav), .second, .unset, .unset, .unset] [(.int (lcmpW ((vav + vu) + vs) vt))])) t → Steps p.tables e below (s₁.setTop (entryFrame m #[(.long va), (.long vb), (.long vc), (.long vd)] maxLocals)) t := by
    intro t k
    refine pre20 t ?_
    show Steps p.tables e below (T14.setTop (mkF m 73 #[.val (.long va), .second, .val (.long vb), .second, .val (.long vc), .second, .val (.long vd), .second, .val (.long vt), .second, .val (.long vu), .second, .val (.long vs), .second, .val (.ref b7), .val (.long vav), .second, .unset, .unset, .unset] [(.int (lcmpW vav vt))])) _
    refine XS.ifYes X14.here hx rfl (pc0 := 73) (pc' := 78) rfl (hb hby at_73) rfl ((if0 _ _).trans (flt (mt (lw_gt _ _).mp hd21)).2.2.2) (by decide) (by decide) ?_
    show Steps p.tables e below (T14.setTop (mkF m 78 #[.val (.long va), .second, .val (.long vb), .second, .val (.long vc), .second, .val (.long vd), .second, .val (.long vt), .second, .val (.long vu), .second, .val (.long vs), .second, .val (.ref b7), .val (.long vav), .second, .unset, .unset, .unset] [])) _
    refine XS.lload X14.here hx rfl (hb hby at_78) rfl ?_
    show Steps p.tables e below (T14.setTop (mkF m 80 #[.val (.long va), .second, .val (.long vb), .second, .val (.long vc), .second, .val (.long vd), .second, .val (.long vt), .second, .val (.long vu), .second, .val (.long vs), .second, .val (.ref b7), .val (.long vav), .second, .unset, .unset, .unset] [(.long vav)])) _
    refine XS.lload X14.here hx rfl (hb hby at_80) rfl ?_
    show Steps p.tables e below (T14.setTop (mkF m 82 #[.val (.long va), .second, .val (.long vb), .second, .val (.long vc), .second, .val (.long vd), .second, .val (.long vt), .second, .val (.long vu), .second, .val (.long vs), .second, .val (.ref b7), .val (.long vav), .second, .unset, .unset, .unset] [(.long vu), (.long vav)])) _
    refine XS.ladd X14.here hx rfl (hb hby at_82) rfl ?_
    show Steps p.tables e below (T14.setTop (mkF m 83 #[.val (.long va), .second, .val (.long vb), .second, .val (.long vc), .second, .val (.long vd), .second, .val (.long vt), .second, .val (.long vu), .second, .val (.long vs), .second, .val (.ref b7), .val (.long vav), .second, .unset, .unset, .unset] [(.long (vav + vu))])) _
    refine XS.lload X14.here hx rfl (hb hby at_83) rfl ?_
    show Steps p.tables e below (T14.setTop (mkF m 85 #[.val (.long va), .second, .val (.long vb), .second, .val (.long vc), .second, .val (.long vd), .second, .val (.long vt), .second, .val (.long vu), .second, .val (.long vs), .second, .val (.ref b7), .val (.long vav), .second, .unset, .unset, .unset] [(.long vs), (.long (vav + vu))])) _
    refine XS.ladd X14.here hx rfl (hb hby at_85) rfl ?_
    show Steps p.tables e below (T14.setTop (mkF m 86 #[.val (.long va), .second, .val (.long vb), .second, .val (.long vc), .second, .val (.long vd), .second, .val (.long vt), .second, .val (.long vu), .second, .val (.long vs), .second, .val (.ref b7), .val (.long vav), .second, .unset, .unset, .unset] [(.long ((vav + vu) + vs))])) _
    refine XS.lload X14.here hx rfl (hb hby at_86) rfl ?_
    show Steps p.tables e below (T14.setTop (mkF m 88 #[.val (.long va), .second, .val (.long vb), .second, .val (.long vc), .second, .val (.long vd), .second, .val (.long vt), .second, .val (.long vu), .second, .val (.long vs), .second, .val (.ref b7), .val (.long vav), .second, .unset, .unset, .unset] [(.long vt), (.long ((vav + vu) + vs))])) _
    refine XS.lcmp X14.here hx rfl (hb hby at_88) rfl ?_
    show Steps p.tables e below (T14.setTop (mkF m 89 #[.val (.long va), .second, .val (.long vb), .second, .val (.long vc), .second, .val (.long vd), .second, .val (.long vt), .second, .val (.long vu), .second, .val (.long vs), .second, .val (.ref b7), .val (.long vav), .second, .unset, .unset, .unset] [(.int (lcmpW ((vav + vu) + vs) vt))])) _
    exact k
  have hd23 : ((vav + vu) + vs) = vt := own_jeq s2
  have pre24 : ∀ t, Steps p.tables e below (T14.setTop (mkF m 98 #[.val (.long va), .second, .val (.long vb), .second, .val (.long vc), .second, .val (.long vd), .second, .val (.long vt), .second, .val (.long vu), .second, .val (.long vs), .second, .val (.ref b7), .val (.long vav), .second, .unset, .unset, .unset] [(.int (lcmpW vav (1 : Int64)))])) t → Steps p.tables e below (s₁.setTop (entryFrame m #[(.long va), (.long vb), (.long vc), (.long vd)] maxLocals)) t := by
    intro t k
    refine pre22 t ?_
    show Steps p.tables e below (T14.setTop (mkF m 89 #[.val (.long va), .second, .val (.long vb), .second, .val (.long vc), .second, .val (.long vd), .second, .val (.long vt), .second, .val (.long vu), .second, .val (.long vs), .second, .val (.ref b7), .val (.long vav), .second, .unset, .unset, .unset] [(.int (lcmpW ((vav + vu) + vs) vt))])) _
    refine XS.ifYes X14.here hx rfl (pc0 := 89) (pc' := 94) rfl (hb hby at_89) rfl ((if0 _ _).trans (teq ((lw_eq _ _).mpr hd23)).1) (by decide) (by decide) ?_
    show Steps p.tables e below (T14.setTop (mkF m 94 #[.val (.long va), .second, .val (.long vb), .second, .val (.long vc), .second, .val (.long vd), .second, .val (.long vt), .second, .val (.long vu), .second, .val (.long vs), .second, .val (.ref b7), .val (.long vav), .second, .unset, .unset, .unset] [])) _
    refine XS.lload X14.here hx rfl (hb hby at_94) rfl ?_
    show Steps p.tables e below (T14.setTop (mkF m 96 #[.val (.long va), .second, .val (.long vb), .second, .val (.long vc), .second, .val (.long vd), .second, .val (.long vt), .second, .val (.long vu), .second, .val (.long vs), .second, .val (.ref b7), .val (.long vav), .second, .unset, .unset, .unset] [(.long vav)])) _
    refine XS.lconst X14.here hx rfl (hb hby at_96) ?_
    show Steps p.tables e below (T14.setTop (mkF m 97 #[.val (.long va), .second, .val (.long vb), .second, .val (.long vc), .second, .val (.long vd), .second, .val (.long vt), .second, .val (.long vu), .second, .val (.long vs), .second, .val (.ref b7), .val (.long vav), .second, .unset, .unset, .unset] [(.long (1 : Int64)), (.long vav)])) _
    refine XS.lcmp X14.here hx rfl (hb hby at_97) rfl ?_
    show Steps p.tables e below (T14.setTop (mkF m 98 #[.val (.long va), .second, .val (.long vb), .second, .val (.long vc), .second, .val (.long vd), .second, .val (.long vt), .second, .val (.long vu), .second, .val (.long vs), .second, .val (.ref b7), .val (.long vav), .second, .unset, .unset, .unset] [(.int (lcmpW vav (1 : Int64)))])) _
    exact k
  by_cases hc25 : vav < (1 : Int64)
  · have pre26 : ∀ t, Steps p.tables e below (T14.setTop (mkF m 109 #[.val (.long va), .second, .val (.long vb), .second, .val (.long vc), .second, .val (.long vd), .second, .val (.long vt), .second, .val (.long vu), .second, .val (.long vs), .second, .val (.ref b7), .val (.long vav), .second, .unset, .unset, .unset] [(.int (lcmpW (vu + vs) vt))])) t → Steps p.tables e below (s₁.setTop (entryFrame m #[(.long va), (.long vb), (.long vc), (.long vd)] maxLocals)) t := by
      intro t k
      refine pre24 t ?_
      show Steps p.tables e below (T14.setTop (mkF m 98 #[.val (.long va), .second, .val (.long vb), .second, .val (.long vc), .second, .val (.long vd), .second, .val (.long vt), .second, .val (.long vu), .second, .val (.long vs), .second, .val (.ref b7), .val (.long vav), .second, .unset, .unset, .unset] [(.int (lcmpW vav (1 : Int64)))])) _
      refine XS.ifNo X14.here hx rfl (hb hby at_98) rfl ((if0 _ _).trans (tlt ((lw_lt _ _).mpr hc25)).2.1) ?_
      show Steps p.tables e below (T14.setTop (mkF m 101 #[.val (.long va), .second, .val (.long vb), .second, .val (.long vc), .second, .val (.long vd), .second, .val (.long vt), .second, .val (.long vu), .second, .val (.long vs), .second, .val (.ref b7), .val (.long vav), .second, .unset, .unset, .unset] [])) _
      refine XS.lload X14.here hx rfl (hb hby at_101) rfl ?_
      show Steps p.tables e below (T14.setTop (mkF m 103 #[.val (.long va), .second, .val (.long vb), .second, .val (.long vc), .second, .val (.long vd), .second, .val (.long vt), .second, .val (.long vu), .second, .val (.long vs), .second, .val (.ref b7), .val (.long vav), .second, .unset, .unset, .unset] [(.long vu)])) _
      refine XS.lload X14.here hx rfl (hb hby at_103) rfl ?_
      show Steps p.tables e below (T14.setTop (mkF m 105 #[.val (.long va), .second, .val (.long vb), .second, .val (.long vc), .second, .val (.long vd), .second, .val (.long vt), .second, .val (.long vu), .second, .val (.long vs), .second, .val (.ref b7), .val (.long vav), .second, .unset, .unset, .unset] [(.long vs), (.long vu)])) _
      refine XS.ladd X14.here hx rfl (hb hby at_105) rfl ?_
      show Steps p.tables e below (T14.setTop (mkF m 106 #[.val (.long va), .second, .val (.long vb), .second, .val (.long vc), .second, .val (.long vd), .second, .val (.long vt), .second, .val (.long vu), .second, .val (.long vs), .second, .val (.ref b7), .val (.long vav), .second, .unset, .unset, .unset] [(.long (vu + vs))])) _
      refine XS.lload X14.here hx rfl (hb hby at_106) rfl ?_
      show Steps p.tables e below (T14.setTop (mkF m 108 #[.val (.long va), .second, .val (.long vb), .second, .val (.long vc), .second, .val (.long vd), .second, .val (.long vt), .second, .val (.long vu), .second, .val (.long vs), .second, .val (.ref b7), .val (.long vav), .second, .unset, .unset, .unset] [(.long vt), (.long (vu + vs))])) _
      refine XS.lcmp X14.here hx rfl (hb hby at_108) rfl ?_
      show Steps p.tables e below (T14.setTop (mkF m 109 #[.val (.long va), .second, .val (.long vb), .second, .val (.long vc), .second, .val (.long vd), .second, .val (.long vt), .second, .val (.long vu), .second, .val (.long vs), .second, .val (.ref b7), .val (.long vav), .second, .unset, .unset, .unset] [(.int (lcmpW (vu + vs) vt))])) _
      exact k
    have hd27 : (vu + vs) = vt := own_jeq (by rw [own_ok_add hok]; have q := hc25; rw [Int64.lt_iff_toInt_lt, own_one] at q; omega)
    obtain ⟨fs, hr, hrun, hended, hW, hsame⟩ := X14.leave (v := some (.int (1 : Int32))) (fun h => by rw [Bd.returns] at h; cases h)
    refine ⟨_, _, pre26 _ ?_, hrun, hended, _, _, rfl, ?_, ⟨_, rfl⟩, hW, hsame.mono (by decide) (by decide)⟩
    · show Steps p.tables e below (T14.setTop (mkF m 109 #[.val (.long va), .second, .val (.long vb), .second, .val (.long vc), .second, .val (.long vd), .second, .val (.long vt), .second, .val (.long vu), .second, .val (.long vs), .second, .val (.ref b7), .val (.long vav), .second, .unset, .unset, .unset] [(.int (lcmpW (vu + vs) vt))])) _
      refine XS.ifNo X14.here hx rfl (hb hby at_109) rfl ((if0 _ _).trans (teq ((lw_eq _ _).mpr hd27)).2) ?_
      show Steps p.tables e below (T14.setTop (mkF m 112 #[.val (.long va), .second, .val (.long vb), .second, .val (.long vc), .second, .val (.long vd), .second, .val (.long vt), .second, .val (.long vu), .second, .val (.long vs), .second, .val (.ref b7), .val (.long vav), .second, .unset, .unset, .unset] [])) _
      refine XS.iconst X14.here hx rfl (hb hby at_112) ?_
      show Steps p.tables e below (T14.setTop (mkF m 113 #[.val (.long va), .second, .val (.long vb), .second, .val (.long vc), .second, .val (.long vd), .second, .val (.long vt), .second, .val (.long vu), .second, .val (.long vs), .second, .val (.ref b7), .val (.long vav), .second, .unset, .unset, .unset] [(.int (1 : Int32))])) _
      refine XS.goto X14.here hx rfl (pc0 := 113) (pc' := 117) rfl (hb hby at_113) (by decide) (by decide) ?_
      show Steps p.tables e below (T14.setTop (mkF m 117 #[.val (.long va), .second, .val (.long vb), .second, .val (.long vc), .second, .val (.long vd), .second, .val (.long vt), .second, .val (.long vu), .second, .val (.long vs), .second, .val (.ref b7), .val (.long vav), .second, .unset, .unset, .unset] [(.int (1 : Int32))])) _
      exact retN X14 hx (t := .boolean) Bd.returns (by simp) (hb hby at_117) hr
    · show Q0 Z va vb vc vd h0 n0 _ T14.heap _
      rw [hh14]
      exact ⟨rfl, Nf14⟩
  · have b4 : 1 ≤ vav.toInt := by have q := hc25; rw [Int64.lt_iff_toInt_lt, own_one] at q; omega
    have pre28 : ∀ t, Steps p.tables e below (T14.setTop (mkF m 131 #[.val (.long va), .second, .val (.long vb), .second, .val (.long vc), .second, .val (.long vd), .second, .val (.long vt), .second, .val (.long vu), .second, .val (.long vs), .second, .val (.ref b7), .val (.long vav), .second, .val (.long ((1 : Int64) + ((vd &&& (9223372036854775807 : Int64)) - ((vd &&& (9223372036854775807 : Int64)) / vav) * vav))), .second, .unset] [])) t → Steps p.tables e below (s₁.setTop (entryFrame m #[(.long va), (.long vb), (.long vc), (.long vd)] maxLocals)) t := by
      intro t k
      refine pre24 t ?_
      show Steps p.tables e below (T14.setTop (mkF m 98 #[.val (.long va), .second, .val (.long vb), .second, .val (.long vc), .second, .val (.long vd), .second, .val (.long vt), .second, .val (.long vu), .second, .val (.long vs), .second, .val (.ref b7), .val (.long vav), .second, .unset, .unset, .unset] [(.int (lcmpW vav (1 : Int64)))])) _
      refine XS.ifYes X14.here hx rfl (pc0 := 98) (pc' := 118) rfl (hb hby at_98) rfl ((if0 _ _).trans (flt (mt (lw_lt _ _).mp hc25)).2.1) (by decide) (by decide) ?_
      show Steps p.tables e below (T14.setTop (mkF m 118 #[.val (.long va), .second, .val (.long vb), .second, .val (.long vc), .second, .val (.long vd), .second, .val (.long vt), .second, .val (.long vu), .second, .val (.long vs), .second, .val (.ref b7), .val (.long vav), .second, .unset, .unset, .unset] [])) _
      refine XS.lconst X14.here hx rfl (hb hby at_118) ?_
      show Steps p.tables e below (T14.setTop (mkF m 119 #[.val (.long va), .second, .val (.long vb), .second, .val (.long vc), .second, .val (.long vd), .second, .val (.long vt), .second, .val (.long vu), .second, .val (.long vs), .second, .val (.ref b7), .val (.long vav), .second, .unset, .unset, .unset] [(.long (1 : Int64))])) _
      refine XS.lload X14.here hx rfl (hb hby at_119) rfl ?_
      show Steps p.tables e below (T14.setTop (mkF m 121 #[.val (.long va), .second, .val (.long vb), .second, .val (.long vc), .second, .val (.long vd), .second, .val (.long vt), .second, .val (.long vu), .second, .val (.long vs), .second, .val (.ref b7), .val (.long vav), .second, .unset, .unset, .unset] [(.long vd), (.long (1 : Int64))])) _
      refine X14.ldc2Long hx hown (mvT hZ (hw _ (List.mem_of_getElem? (i := 0) rfl))) (g := (mkF m 121 #[.val (.long va), .second, .val (.long vb), .second, .val (.long vc), .second, .val (.long vd), .second, .val (.long vt), .second, .val (.long vu), .second, .val (.long vs), .second, .val (.ref b7), .val (.long vav), .second, .unset, .unset, .unset] [(.long vd), (.long (1 : Int64))])) rfl (hb hby at_121) _ ?_
      show Steps p.tables e below (T14.setTop (mkF m 124 #[.val (.long va), .second, .val (.long vb), .second, .val (.long vc), .second, .val (.long vd), .second, .val (.long vt), .second, .val (.long vu), .second, .val (.long vs), .second, .val (.ref b7), .val (.long vav), .second, .unset, .unset, .unset] [(.long (9223372036854775807 : Int64)), (.long vd), (.long (1 : Int64))])) _
      refine XS.land X14.here hx rfl (hb hby at_124) rfl ?_
      show Steps p.tables e below (T14.setTop (mkF m 125 #[.val (.long va), .second, .val (.long vb), .second, .val (.long vc), .second, .val (.long vd), .second, .val (.long vt), .second, .val (.long vu), .second, .val (.long vs), .second, .val (.ref b7), .val (.long vav), .second, .unset, .unset, .unset] [(.long (vd &&& (9223372036854775807 : Int64))), (.long (1 : Int64))])) _
      refine XS.lload X14.here hx rfl (hb hby at_125) rfl ?_
      show Steps p.tables e below (T14.setTop (mkF m 127 #[.val (.long va), .second, .val (.long vb), .second, .val (.long vc), .second, .val (.long vd), .second, .val (.long vt), .second, .val (.long vu), .second, .val (.long vs), .second, .val (.ref b7), .val (.long vav), .second, .unset, .unset, .unset] [(.long vav), (.long (vd &&& (9223372036854775807 : Int64))), (.long (1 : Int64))])) _
      refine XS.lrem X14.here hx rfl (hb hby at_127) rfl (own_nz (by omega)) ?_
      show Steps p.tables e below (T14.setTop (mkF m 128 #[.val (.long va), .second, .val (.long vb), .second, .val (.long vc), .second, .val (.long vd), .second, .val (.long vt), .second, .val (.long vu), .second, .val (.long vs), .second, .val (.ref b7), .val (.long vav), .second, .unset, .unset, .unset] [(.long ((vd &&& (9223372036854775807 : Int64)) - ((vd &&& (9223372036854775807 : Int64)) / vav) * vav)), (.long (1 : Int64))])) _
      refine XS.ladd X14.here hx rfl (hb hby at_128) rfl ?_
      show Steps p.tables e below (T14.setTop (mkF m 129 #[.val (.long va), .second, .val (.long vb), .second, .val (.long vc), .second, .val (.long vd), .second, .val (.long vt), .second, .val (.long vu), .second, .val (.long vs), .second, .val (.ref b7), .val (.long vav), .second, .unset, .unset, .unset] [(.long ((1 : Int64) + ((vd &&& (9223372036854775807 : Int64)) - ((vd &&& (9223372036854775807 : Int64)) / vav) * vav)))])) _
      refine XS.lstore X14.here hx rfl (hb hby at_129) rfl (l' := #[.val (.long va), .second, .val (.long vb), .second, .val (.long vc), .second, .val (.long vd), .second, .val (.long vt), .second, .val (.long vu), .second, .val (.long vs), .second, .val (.ref b7), .val (.long vav), .second, .val (.long ((1 : Int64) + ((vd &&& (9223372036854775807 : Int64)) - ((vd &&& (9223372036854775807 : Int64)) / vav) * vav))), .second, .unset]) rfl ?_
      show Steps p.tables e below (T14.setTop (mkF m 131 #[.val (.long va), .second, .val (.long vb), .second, .val (.long vc), .second, .val (.long vd), .second, .val (.long vt), .second, .val (.long vu), .second, .val (.long vs), .second, .val (.ref b7), .val (.long vav), .second, .val (.long ((1 : Int64) + ((vd &&& (9223372036854775807 : Int64)) - ((vd &&& (9223372036854775807 : Int64)) / vav) * vav))), .second, .unset] [])) _
      exact k
    obtain ⟨vn, h_vn⟩ : ∃ z : Int64, z = ((1 : Int64) + ((vd &&& (9223372036854775807 : Int64)) - ((vd &&& (9223372036854775807 : Int64)) / vav) * vav)) := ⟨_, rfl⟩
    have pre29 : ∀ t, Steps p.tables e below (T14.setTop (mkF m 131 #[.val (.long va), .second, .val (.long vb), .second, .val (.long vc), .second, .val (.long vd), .second, .val (.long vt), .second, .val (.long vu), .second, .val (.long vs), .second, .val (.ref b7), .val (.long vav), .second, .val (.long vn), .second, .unset] [])) t → Steps p.tables e below (s₁.setTop (entryFrame m #[(.long va), (.long vb), (.long vc), (.long vd)] maxLocals)) t := by
      subst h_vn
      exact pre28
    have b5 : 1 ≤ vn.toInt ∧ vn.toInt ≤ vav.toInt := by have q := own_rem vd vav (by omega); rw [h_vn, own_add (by rw [own_one]; omega) (by rw [own_one]; omega), own_one]; omega
    obtain ⟨cq31, kq31, q31a, q31b, q31c⟩ := isOf hZ hh14 Ex12
    obtain ⟨_, _, ⟨T30, L30, k30, n30⟩, -, X30, ⟨Lc30, hQ30, l30, y30, z30⟩, st30⟩ := X14.virtualBack hx (y := (⟨"com/example/turnstyle/turnstyle/domain/Stock", "afterHolding", "(J)Lcom/example/turnstyle/turnstyle/domain/Stock;"⟩ : MethodName)) (z := (⟨"com/example/turnstyle/turnstyle/domain/Stock", "afterHolding", "(J)Lcom/example/turnstyle/turnstyle/domain/Stock;"⟩ : MethodName)) hown (mvT hZ (hw _ (List.mem_of_getElem? (i := 26) rfl))) (mvT hZ (hw _ (List.mem_of_getElem? (i := 27) rfl))) (notFace_of_selects (args := #[]) (mvT hZ (hw _ (List.mem_of_getElem? (i := 29) rfl)))) (mvT hZ (hw _ (List.mem_of_getElem? (i := 29) rfl))) (mvT hZ (hw _ (List.mem_of_getElem? (i := 28) rfl))) (by decide) (backOf (W := 0) (rm_ah l Z a0 hw [] b7 vn vt vu vs T12.heap n0 Zp13 Fx12_0 Fx12_1 Fx12_2 Ex12 hok (by rw [← h_vav]; exact b5)) hZ (hw _ (List.mem_of_getElem? (i := 30) rfl)) (hw _ (List.mem_of_getElem? (i := 4) rfl)) (by decide) (by decide)) q31a q31c (g := (mkF m 135 #[.val (.long va), .second, .val (.long vb), .second, .val (.long vc), .second, .val (.long vd), .second, .val (.long vt), .second, .val (.long vu), .second, .val (.long vs), .second, .val (.ref b7), .val (.long vav), .second, .val (.long vn), .second, .unset] [(.long vn), (.ref b7)])) rfl (by rw [hml]; rfl) (Steps.refl _) (argsL := [(.long vn)]) (rest := []) (lenOf own_pd3 rfl) rfl (by show 2 * 0 + _ ≤ _; exact Nat.le_of_eq rfl) (hb hby at_135) (fun _ _ => ⟨rfl, hh14, (by decide : 1 + 1 ≤ _), (by decide : 3 + 3 ≤ _)⟩)
    dsimp only [Pt.U, Pt.locs, Pt.cells, Pt.slots] at X30 l30 y30 z30 st30 hQ30
    subst l30 y30 z30
    obtain ⟨b30, rfl, Nq30, K30, g_b30, sz_b30, Ex30, Fx30_0, Fx30_1, Fx30_2⟩ := hQ30
    have Nf30 := Fr.app Nf14 Nq30
    have Zp32 : n0 ≤ T30.heap.size := Nat.le_trans Zp13 K30.1
    obtain ⟨cq34, kq34, q34a, q34b, q34c⟩ := isOf hZ rfl Ex30
    obtain ⟨_, _, ⟨T33, L33, k33, n33⟩, -, X33, ⟨Lc33, hQ33, l33, y33, z33⟩, st33⟩ := X30.virtualBack hx (y := (⟨"com/example/turnstyle/turnstyle/domain/Stock", "getAvailable", "()J"⟩ : MethodName)) (z := (⟨"com/example/turnstyle/turnstyle/domain/Stock", "getAvailable", "()J"⟩ : MethodName)) hown (mvT hZ (hw _ (List.mem_of_getElem? (i := 21) rfl))) (mvT hZ (hw _ (List.mem_of_getElem? (i := 22) rfl))) (notFace_of_selects (args := #[]) (mvT hZ (hw _ (List.mem_of_getElem? (i := 24) rfl)))) (mvT hZ (hw _ (List.mem_of_getElem? (i := 24) rfl))) (mvT hZ (hw _ (List.mem_of_getElem? (i := 23) rfl))) (by decide) (backOf (W := 0) (rm_ga l Z a0 hw [] b30 vt (vu + vn) vs T30.heap n0 Zp32 Fx30_0 Fx30_1 Fx30_2) hZ (hw _ (List.mem_of_getElem? (i := 25) rfl)) (hw _ (List.mem_of_getElem? (i := 4) rfl)) (by decide) (by decide)) q34a q34c (g := (mkF m 142 #[.val (.long va), .second, .val (.long vb), .second, .val (.long vc), .second, .val (.long vd), .second, .val (.long vt), .second, .val (.long vu), .second, .val (.long vs), .second, .val (.ref b7), .val (.long vav), .second, .val (.long vn), .second, .val (.ref b30)] [(.ref b30)])) rfl (by rw [hml]; rfl) (Steps.refl _) (argsL := []) (rest := []) (lenOf own_pd1 rfl) rfl (by show 2 * 0 + _ ≤ _; exact Nat.le_of_eq rfl) (hb hby at_142) (fun _ _ => ⟨rfl, rfl, (by decide : 2 + 0 ≤ _), (by decide : 6 + 0 ≤ _)⟩)
    dsimp only [Pt.U, Pt.locs, Pt.cells, Pt.slots] at X33 l33 y33 z33 st33 hQ33
    subst l33 y33 z33
    obtain ⟨rfl, Nq33, hh33⟩ := hQ33
    have Nf33 := Fr.app Nf30 Nq33
    have pre35 : ∀ t, Steps p.tables e below (T33.setTop (mkF m 151 #[.val (.long va), .second, .val (.long vb), .second, .val (.long vc), .second, .val (.long vd), .second, .val (.long vt), .second, .val (.long vu), .second, .val (.long vs), .second, .val (.ref b7), .val (.long vav), .second, .val (.long vn), .second, .val (.ref b30)] [(.int (lcmpW ((vt - (vu + vn)) - vs) (vav - vn)))])) t → Steps p.tables e below (s₁.setTop (entryFrame m #[(.long va), (.long vb), (.long vc), (.long vd)] maxLocals)) t := by
      intro t k
      refine pre29 t ?_
      show Steps p.tables e below (T14.setTop (mkF m 131 #[.val (.long va), .second, .val (.long vb), .second, .val (.long vc), .second, .val (.long vd), .second, .val (.long vt), .second, .val (.long vu), .second, .val (.long vs), .second, .val (.ref b7), .val (.long vav), .second, .val (.long vn), .second, .unset] [])) _
      refine XS.aload X14.here hx rfl (hb hby at_131) rfl rfl ?_
      show Steps p.tables e below (T14.setTop (mkF m 133 #[.val (.long va), .second, .val (.long vb), .second, .val (.long vc), .second, .val (.long vd), .second, .val (.long vt), .second, .val (.long vu), .second, .val (.long vs), .second, .val (.ref b7), .val (.long vav), .second, .val (.long vn), .second, .unset] [(.ref b7)])) _
      refine XS.lload X14.here hx rfl (hb hby at_133) rfl ?_
      show Steps p.tables e below (T14.setTop (mkF m 135 #[.val (.long va), .second, .val (.long vb), .second, .val (.long vc), .second, .val (.long vd), .second, .val (.long vt), .second, .val (.long vu), .second, .val (.long vs), .second, .val (.ref b7), .val (.long vav), .second, .val (.long vn), .second, .unset] [(.long vn), (.ref b7)])) _
      refine st30.trans ?_
      show Steps p.tables e below (T30.setTop (mkF m 138 #[.val (.long va), .second, .val (.long vb), .second, .val (.long vc), .second, .val (.long vd), .second, .val (.long vt), .second, .val (.long vu), .second, .val (.long vs), .second, .val (.ref b7), .val (.long vav), .second, .val (.long vn), .second, .unset] [(.ref b30)])) _
      refine XS.astore X30.here hx rfl (hb hby at_138) rfl rfl (l' := #[.val (.long va), .second, .val (.long vb), .second, .val (.long vc), .second, .val (.long vd), .second, .val (.long vt), .second, .val (.long vu), .second, .val (.long vs), .second, .val (.ref b7), .val (.long vav), .second, .val (.long vn), .second, .val (.ref b30)]) rfl ?_
      show Steps p.tables e below (T30.setTop (mkF m 140 #[.val (.long va), .second, .val (.long vb), .second, .val (.long vc), .second, .val (.long vd), .second, .val (.long vt), .second, .val (.long vu), .second, .val (.long vs), .second, .val (.ref b7), .val (.long vav), .second, .val (.long vn), .second, .val (.ref b30)] [])) _
      refine XS.aload X30.here hx rfl (hb hby at_140) rfl rfl ?_
      show Steps p.tables e below (T30.setTop (mkF m 142 #[.val (.long va), .second, .val (.long vb), .second, .val (.long vc), .second, .val (.long vd), .second, .val (.long vt), .second, .val (.long vu), .second, .val (.long vs), .second, .val (.ref b7), .val (.long vav), .second, .val (.long vn), .second, .val (.ref b30)] [(.ref b30)])) _
      refine st33.trans ?_
      show Steps p.tables e below (T33.setTop (mkF m 145 #[.val (.long va), .second, .val (.long vb), .second, .val (.long vc), .second, .val (.long vd), .second, .val (.long vt), .second, .val (.long vu), .second, .val (.long vs), .second, .val (.ref b7), .val (.long vav), .second, .val (.long vn), .second, .val (.ref b30)] [(.long ((vt - (vu + vn)) - vs))])) _
      refine XS.lload X33.here hx rfl (hb hby at_145) rfl ?_
      show Steps p.tables e below (T33.setTop (mkF m 147 #[.val (.long va), .second, .val (.long vb), .second, .val (.long vc), .second, .val (.long vd), .second, .val (.long vt), .second, .val (.long vu), .second, .val (.long vs), .second, .val (.ref b7), .val (.long vav), .second, .val (.long vn), .second, .val (.ref b30)] [(.long vav), (.long ((vt - (vu + vn)) - vs))])) _
      refine XS.lload X33.here hx rfl (hb hby at_147) rfl ?_
      show Steps p.tables e below (T33.setTop (mkF m 149 #[.val (.long va), .second, .val (.long vb), .second, .val (.long vc), .second, .val (.long vd), .second, .val (.long vt), .second, .val (.long vu), .second, .val (.long vs), .second, .val (.ref b7), .val (.long vav), .second, .val (.long vn), .second, .val (.ref b30)] [(.long vn), (.long vav), (.long ((vt - (vu + vn)) - vs))])) _
      refine XS.lsub X33.here hx rfl (hb hby at_149) rfl ?_
      show Steps p.tables e below (T33.setTop (mkF m 150 #[.val (.long va), .second, .val (.long vb), .second, .val (.long vc), .second, .val (.long vd), .second, .val (.long vt), .second, .val (.long vu), .second, .val (.long vs), .second, .val (.ref b7), .val (.long vav), .second, .val (.long vn), .second, .val (.ref b30)] [(.long (vav - vn)), (.long ((vt - (vu + vn)) - vs))])) _
      refine XS.lcmp X33.here hx rfl (hb hby at_150) rfl ?_
      show Steps p.tables e below (T33.setTop (mkF m 151 #[.val (.long va), .second, .val (.long vb), .second, .val (.long vc), .second, .val (.long vd), .second, .val (.long vt), .second, .val (.long vu), .second, .val (.long vs), .second, .val (.ref b7), .val (.long vav), .second, .val (.long vn), .second, .val (.ref b30)] [(.int (lcmpW ((vt - (vu + vn)) - vs) (vav - vn)))])) _
      exact k
    have hd36 : ((vt - (vu + vn)) - vs) = (vav - vn) := own_jeq (by rw [own_av (own_ok_hold hok (by rw [← h_vav]; exact b5)), own_add (by omega) (by omega), own_sub (by omega) (by omega)]; omega)
    obtain ⟨fs, hr, hrun, hended, hW, hsame⟩ := X33.leave (v := some (.int (1 : Int32))) (fun h => by rw [Bd.returns] at h; cases h)
    refine ⟨_, _, pre35 _ ?_, hrun, hended, _, _, rfl, ?_, ⟨_, rfl⟩, hW, hsame.mono (by decide) (by decide)⟩
    · show Steps p.tables e below (T33.setTop (mkF m 151 #[.val (.long va), .second, .val (.long vb), .second, .val (.long vc), .second, .val (.long vd), .second, .val (.long vt), .second, .val (.long vu), .second, .val (.long vs), .second, .val (.ref b7), .val (.long vav), .second, .val (.long vn), .second, .val (.ref b30)] [(.int (lcmpW ((vt - (vu + vn)) - vs) (vav - vn)))])) _
      refine XS.ifNo X33.here hx rfl (hb hby at_151) rfl ((if0 _ _).trans (teq ((lw_eq _ _).mpr hd36)).2) ?_
      show Steps p.tables e below (T33.setTop (mkF m 154 #[.val (.long va), .second, .val (.long vb), .second, .val (.long vc), .second, .val (.long vd), .second, .val (.long vt), .second, .val (.long vu), .second, .val (.long vs), .second, .val (.ref b7), .val (.long vav), .second, .val (.long vn), .second, .val (.ref b30)] [])) _
      refine XS.iconst X33.here hx rfl (hb hby at_154) ?_
      show Steps p.tables e below (T33.setTop (mkF m 155 #[.val (.long va), .second, .val (.long vb), .second, .val (.long vc), .second, .val (.long vd), .second, .val (.long vt), .second, .val (.long vu), .second, .val (.long vs), .second, .val (.ref b7), .val (.long vav), .second, .val (.long vn), .second, .val (.ref b30)] [(.int (1 : Int32))])) _
      refine XS.goto X33.here hx rfl (pc0 := 155) (pc' := 159) rfl (hb hby at_155) (by decide) (by decide) ?_
      show Steps p.tables e below (T33.setTop (mkF m 159 #[.val (.long va), .second, .val (.long vb), .second, .val (.long vc), .second, .val (.long vd), .second, .val (.long vt), .second, .val (.long vu), .second, .val (.long vs), .second, .val (.ref b7), .val (.long vav), .second, .val (.long vn), .second, .val (.ref b30)] [(.int (1 : Int32))])) _
      exact retN X33 hx (t := .boolean) Bd.returns (by simp) (hb hby at_159) hr
    · show Q0 Z va vb vc vd h0 n0 _ T33.heap _
      rw [hh33]
      exact ⟨rfl, Nf33⟩
set_option maxRecDepth 65536 in
set_option maxHeartbeats 40000000 in
theorem comes_1 {Post : Tables → Env → Array Value → State → Outcome → State → Prop} (hpost : ∀ tb e args s v u, (limb_1_1.after args s (.returned v) u = true ∧ limb_1_2.after args s (.returned v) u = true ∧ True) → FrameEnd s (.returned v) u (Jvm.fieldLocs frame_1_writes args s ++ Jvm.arrayLocs frame_1_arrays args s ++ Jvm.staticLocs frame_1_statics s) 16 128 → Post tb e args s (.returned v) u) :
    ArmFor flags0 classFile x code maxLocals ret World_1 tables_1 room_1 Calls_1 rest_1 Pre_1 Post := by
  intro l hfl _ _ p e ha hc hk s m args below hf hA hF happ hP
  obtain ⟨hcalls, hrest, hpre⟩ := hP
  obtain ⟨-, -, -, hnamed, -, -, -, hat⟩ := (Spec.applies_iff hf).mp happ
  obtain ⟨hg, hn⟩ := and_e (Cond.before_iff.mp (show (Jvm.Cond.and given_1 narrow_1).before args s = true from hpre))
  obtain ⟨ga1, gb1⟩ := and_e hg
  obtain ⟨ga2, gb2⟩ := and_e gb1
  obtain ⟨ga3, gb3⟩ := and_e gb2
  obtain ⟨ga4, gb4⟩ := and_e gb3
  obtain ⟨w0, w1, w2, w3, rfl⟩ : ∃ w0 w1 w2 w3 : Value, args = #[w0, w1, w2, w3] := by
    have hs : args.size = 4 := by simpa [Cond.value, given_1] using ga1
    obtain ⟨L⟩ := args
    match L, hs with
    | [w0, w1, w2, w3], _ => exact ⟨w0, w1, w2, w3, rfl⟩
  have hw := fun d (hd : d ∈ tables_1) => atoms_spec (ws := Jvm.Cond.code x code maxLocals ret :: tables_1) hat d (List.mem_cons_of_mem _ hd)
  have hfit : Fit s := fun {y c} hc i hi => by
    obtain ⟨ha, rfl⟩ := Array.getElem?_eq_some_iff.mp hc
    have q := List.all_eq_true.mp ((Array.all_eq_true_iff_forall_mem.mp hF) _ (Array.getElem_mem ha)) i (List.mem_range.mpr hi)
    simpa [Array.getElem?_eq_getElem hi] using q
  obtain ⟨i0, ei0⟩ := isL_v ga2
  obtain rfl : w0 = (.long i0) := Option.some.inj ei0
  obtain ⟨i1, ei1⟩ := isL_v ga3
  obtain rfl : w1 = (.long i1) := Option.some.inj ei1
  obtain ⟨i2, ei2⟩ := isL_v ga4
  obtain rfl : w2 = (.long i2) := Option.some.inj ei2
  obtain ⟨i3, ei3⟩ := isL_v gb4
  obtain rfl : w3 = (.long i3) := Option.some.inj ei3
  obtain ⟨n, o, h1, h2, h3, _, L, rfl, ⟨rfl, N⟩, hq⟩ := rm0 l s _ hw tables_1 i0 i1 i2 i3 s.heap s.heap.size (Nat.le_refl _)  p e ha hc hk s m _ below hf ((Spec.applies_iff_loose hf).mp happ).1 ⟨rfl, State.Warmed39.refl s, rfl⟩ trivial
  refine ⟨n, _, h1, h2, h3, hpost _ _ _ _ _ _ ⟨Cond.after_iff.mpr rfl, Cond.after_iff.mpr (eq_i res_at (Term.int_eval (1)) rfl), trivial⟩ ⟨hq.1, hq.2.1, (hq.2.2.sift fun y hy => Or.inr (N y hy)).mono (by decide) (by decide)⟩⟩
theorem main_1_1 : Claimed_1_1 := comes_1 fun _ _ _ _ _ _ h hF => ⟨h.1, hF⟩
theorem main_1_2 : Claimed_1_2 := comes_1 fun _ _ _ _ _ _ h hF => ⟨h.2.1, hF⟩
end Jvm.Pilot.@@N@@
namespace Jvm.Pilot.@@N@@
open Jvm Jvm.ClassFile Sem Op Lib Jvm.Free Jvm.Stand Jvm.Pilot.@@N@@.Jvm.D
/-! MADE BY PROGRAM (witnessworld.py) out of the Statement's table words and the real class files: 9 classes; the members and pool entries that the words name. The judged class is class 1, her method 1. -/
namespace start1
open Jvm.ClassFile
def u (s : String) : CpInfo := .utf8 (stringToUtf16 s)
/-- a pool by its gaps: so many unusable entries, then the entry; so many at the end -/
def gap : Nat → List CpInfo → List CpInfo
  | 0, r => r
  | n + 1, r => .unusable :: gap n r
def poolList (es : List (Nat × CpInfo)) (last : Nat) : List CpInfo := es.foldr (fun e r => gap e.1 (e.2 :: r)) (gap last [])
def pool (es : List (Nat × CpInfo)) (last : Nat) : Array CpInfo := ⟨poolList es last⟩
def fileOf (pool : Array CpInfo) (this : Nat) (attrs : Array Attribute := #[]) (ms : Array MethodInfo := #[]) (fl : Nat := 33) (sup : Nat := 0) (ifs : Array Nat := #[]) (fds : Array FieldInfo := #[]) : ClassFile where
  minorVersion := 0
  majorVersion := 65
  constantPool := pool
  accessFlags := fl
  thisClass := this
  superClass := sup
  interfaces := ifs
  fields := fds
  methods := ms
  attributes := attrs
def plain (name : String) (sup : Option ClassId) : Class where
  name := name
  kind := .ordinary
  loader := none
  accessFlags := 33
  super := sup
  interfaces := #[]
  cf := none
  fields := #[]
  methods := #[]
  instanceTypes := #[]
  staticTypes := #[]
  resolved := #[]
  callSites := []
  init := .initialized
  statics := none
  mirror := none

def pool0 : Array CpInfo := pool [(5, u "<init>"), (0, u "()V"), (1, .class_ 10), (1, u "java/lang/Object")] 113

def k0c0 : Code := { maxStack := 0, maxLocals := 1, code := object_method_1_code, exceptionTable := #[], attributes := #[] }
def k0m0 : Method := { name := "<init>", desc := "()V", sig := { parameters := [], returnType := none }, accessFlags := 1, code := some k0c0 }
/-- java/lang/Object -/
def k0 : Class := { plain "java/lang/Object" none with
  accessFlags := 33
  interfaces := #[]
  cf := some (fileOf pool0 8 #[] #[{ accessFlags := 1, nameIndex := 5, descriptorIndex := 6, attributes := #[] }] 33 0 #[] #[])
  fields := #[]
  methods := #[k0m0]
  instanceTypes := #[]
  staticTypes := #[]
  resolved := Array.replicate 124 none
  statics := none }

def pool1 : Array CpInfo := pool [(2, .class_ 4), (1, u "java/lang/Object"), (0, u "<init>"), (0, u "()V"), (0, .long 9223372036854775807), (1, .class_ 10), (0, u "com/example/turnstyle/turnstyle/domain/Stock"), (0, .long 1000001), (1, .methodref 9 14), (0, .nameAndType 5 15), (0, u "(JJJ)V"), (0, .methodref 9 17), (0, .nameAndType 18 19), (0, u "getAvailable"), (0, u "()J"), (0, .methodref 9 21), (0, .nameAndType 22 23), (0, u "afterHolding"), (0, u "(J)Lcom/example/turnstyle/turnstyle/domain/Stock;"), (0, .class_ 25), (0, u "com/example/turnstyle/turnstyle/domain/StockGetAvailablePinLaw"), (2, u "law"), (0, u "(JJJJ)Z")] 3

def k1m0 : Method := { name := "<init>", desc := "()V", sig := { parameters := [], returnType := none }, accessFlags := 1, code := none }
def k1c1 : Code := { maxStack := 8, maxLocals := 20, code := code, exceptionTable := #[], attributes := #[] }
def k1m1 : Method := { name := "law", desc := "(JJJJ)Z", sig := { parameters := [.long, .long, .long, .long], returnType := some .boolean }, accessFlags := 9, code := some k1c1 }
/-- com/example/turnstyle/turnstyle/domain/StockGetAvailablePinLaw -/
def k1 : Class := { plain "com/example/turnstyle/turnstyle/domain/StockGetAvailablePinLaw" (some 0) with
  accessFlags := 49
  interfaces := #[]
  cf := some (fileOf pool1 24 #[] #[{ accessFlags := 1, nameIndex := 5, descriptorIndex := 6, attributes := #[] }, { accessFlags := 9, nameIndex := 28, descriptorIndex := 29, attributes := #[] }] 49 2 #[] #[])
  fields := #[]
  methods := #[k1m0, k1m1]
  instanceTypes := #[]
  staticTypes := #[]
  resolved := Array.replicate 33 none
  statics := none }

def pool2 : Array CpInfo := pool [(1, .methodref 2 3), (0, .class_ 4), (0, .nameAndType 5 6), (0, u "java/lang/Object"), (0, u "<init>"), (0, u "()V"), (0, .methodref 8 9), (0, .class_ 10), (0, .nameAndType 11 12), (0, u "com/example/turnstyle/turnstyle/domain/Stock"), (0, u "requireTotal"), (0, u "(J)J"), (7, .fieldref 8 21), (0, .nameAndType 22 23), (0, u "total"), (0, u "J"), (0, .fieldref 8 25), (0, .nameAndType 26 23), (0, u "held"), (0, .fieldref 8 28), (0, .nameAndType 29 23), (0, u "sold"), (0, .long 1000000), (3, .methodref 8 35), (0, .nameAndType 36 37), (0, u "getAvailable"), (0, u "()J"), (2, .methodref 8 41), (0, .nameAndType 5 42), (0, u "(JJJ)V"), (5, u "MAX_TOTAL"), (6, u "afterHolding"), (0, u "(J)Lcom/example/turnstyle/turnstyle/domain/Stock;")] 7

def k2c0 : Code := { maxStack := 4, maxLocals := 7, code := prog_12_method_1_code, exceptionTable := #[], attributes := #[] }
def k2m0 : Method := { name := "<init>", desc := "(JJJ)V", sig := { parameters := [.long, .long, .long], returnType := none }, accessFlags := 1, code := some k2c0 }
def k2c1 : Code := { maxStack := 4, maxLocals := 2, code := prog_12_method_2_code, exceptionTable := #[], attributes := #[] }
def k2m1 : Method := { name := "requireTotal", desc := "(J)J", sig := { parameters := [.long], returnType := some .long }, accessFlags := 9, code := some k2c1 }
def k2c2 : Code := { maxStack := 4, maxLocals := 1, code := prog_12_method_3_code, exceptionTable := #[], attributes := #[] }
def k2m2 : Method := { name := "getAvailable", desc := "()J", sig := { parameters := [], returnType := some .long }, accessFlags := 1, code := some k2c2 }
def k2c3 : Code := { maxStack := 8, maxLocals := 3, code := prog_12_method_5_code, exceptionTable := #[], attributes := #[] }
def k2m3 : Method := { name := "afterHolding", desc := "(J)Lcom/example/turnstyle/turnstyle/domain/Stock;", sig := { parameters := [.long], returnType := some (.object "com/example/turnstyle/turnstyle/domain/Stock") }, accessFlags := 1, code := some k2c3 }
/-- com/example/turnstyle/turnstyle/domain/Stock -/
def k2 : Class := { plain "com/example/turnstyle/turnstyle/domain/Stock" (some 0) with
  accessFlags := 49
  interfaces := #[]
  cf := some (fileOf pool2 8 #[] #[{ accessFlags := 1, nameIndex := 5, descriptorIndex := 42, attributes := #[] }, { accessFlags := 9, nameIndex := 11, descriptorIndex := 12, attributes := #[] }, { accessFlags := 1, nameIndex := 36, descriptorIndex := 37, attributes := #[] }, { accessFlags := 1, nameIndex := 55, descriptorIndex := 56, attributes := #[] }] 49 2 #[] #[{ accessFlags := 25, nameIndex := 48, descriptorIndex := 23, attributes := #[] }, { accessFlags := 18, nameIndex := 22, descriptorIndex := 23, attributes := #[] }, { accessFlags := 18, nameIndex := 26, descriptorIndex := 23, attributes := #[] }, { accessFlags := 18, nameIndex := 29, descriptorIndex := 23, attributes := #[] }])
  fields := #[{ name := "MAX_TOTAL", type := .long, accessFlags := 25, slot := 0, constantValue := 0 }, { name := "total", type := .long, accessFlags := 18, slot := 0, constantValue := 0 }, { name := "held", type := .long, accessFlags := 18, slot := 1, constantValue := 0 }, { name := "sold", type := .long, accessFlags := 18, slot := 2, constantValue := 0 }]
  methods := #[k2m0, k2m1, k2m2, k2m3]
  instanceTypes := #[.long, .long, .long]
  staticTypes := #[.long]
  resolved := Array.replicate 64 none
  statics := none }

def pool3 : Array CpInfo := pool [(1, u "java/lang/Cloneable"), (0, .class_ 1), (0, u "java/lang/Object"), (0, .class_ 3)] 3

/-- java/lang/Cloneable -/
def k3 : Class := { plain "java/lang/Cloneable" (some 0) with
  accessFlags := 1537
  interfaces := #[]
  cf := some (fileOf pool3 2 #[] #[] 1537 4 #[] #[])
  fields := #[]
  methods := #[]
  instanceTypes := #[]
  staticTypes := #[]
  resolved := Array.replicate 8 none
  statics := none }

def pool4 : Array CpInfo := pool [(1, u "java/io/Serializable"), (0, .class_ 1), (0, u "java/lang/Object"), (0, .class_ 3)] 3

/-- java/io/Serializable -/
def k4 : Class := { plain "java/io/Serializable" (some 0) with
  accessFlags := 1537
  interfaces := #[]
  cf := some (fileOf pool4 2 #[] #[] 1537 4 #[] #[])
  fields := #[]
  methods := #[]
  instanceTypes := #[]
  staticTypes := #[]
  resolved := Array.replicate 8 none
  statics := none }

/-- the primitive byte -/
def k5 : Class := { plain "byte" none with kind := .primitive 'B', accessFlags := 0x411 }
/-- [B -/
def k6 : Class := { plain "[B" (some 0) with kind := .array 5 .byte, interfaces := #[3, 4], accessFlags := 1041 }

/-- the primitive int -/
def k7 : Class := { plain "int" none with kind := .primitive 'I', accessFlags := 0x411 }
/-- [I -/
def k8 : Class := { plain "[I" (some 0) with kind := .array 7 .int, interfaces := #[3, 4], accessFlags := 1041 }

def heap : Heap := #[]
def classes : Array Class := #[k0, k1, k2, k3, k4, k5, k6, k7, k8]
def interned : List (Array UInt16 × Addr) := []
def slotsUsed : Nat := 0
def theMethod : MethodId := ⟨1, 1⟩
def args0 : Array Value := #[.long 5, .long 6, .long 7, .long 8]
def aboutOver (below : List Frame) : State where
  vm := { classes := classes, interned := interned.toArray }
  heap := heap
  slotsUsed := slotsUsed
  threads := #[{ frames := .invoking theMethod args0 :: below }]
def below0 : List Frame := [.native { method := ⟨0, 0⟩, args := #[] }]
def about1 : State := aboutOver below0
def p0 : Program := .bare "" "" ""
def e0 : Env := launch0.env 0 0 0
theorem w_frames : about1.frames = Frame.invoking theMethod args0 :: below0 := rfl
set_option maxRecDepth 65536 in
theorem w_args : argsFit about1.vm theMethod args0 = true := by decide +kernel
set_option maxRecDepth 65536 in
theorem w_heap : heapFits about1 = true := by decide +kernel
set_option maxRecDepth 65536 in
theorem w_runnable : about1.curStatus? = some .runnable := by decide +kernel
set_option maxRecDepth 65536 in
theorem w_alone : about1.alone = true := by decide +kernel
set_option maxRecDepth 65536 in
theorem w_named : about1.methodNamed? x = some theMethod := by decide +kernel
set_option maxRecDepth 65536 in
theorem w_hears : about1.hears theMethod below0 = true := by decide +kernel
set_option maxRecDepth 65536 in
theorem w_ripe : about1.ripe theMethod args0 below0 = true := by decide +kernel
theorem w_running : about1.status = .running := rfl
set_option maxRecDepth 65536 in
theorem w_room : about1.hasRoom e0.platform room_1 = true :=
  launch0.hasRoom_least _ room_1 (by decide +kernel) (by decide +kernel) (by decide +kernel) (by decide +kernel) (by decide +kernel) (by decide +kernel)
theorem allAtoms_all (ts : List Jvm.Cond) (a : Array Jvm.Value) (st : Jvm.State) : (allAtoms ts).before a st = ts.all (fun c => c.before a st) := by
  induction ts with
  | nil => rfl
  | cons c t ih =>
    show (Jvm.Cond.and c (allAtoms t)).before a st = _
    rw [Jvm.Cond.before_and, ih, List.all_cons]
def words1 : List Jvm.Cond := Jvm.Cond.code x code maxLocals ret :: tables_1
/-- a 'code' word, met by the world's own term for the bytes: nothing is compared byte by byte -/
theorem code_word {y : MethodName} {bytes : ByteArray} {mx : Nat} {rt : Option FieldType} {a : Array Value} {s : State} {m : MethodId} {meth : Method} {c : Code} (h1 : s.methodNamed? y = some m) (h2 : s.vm.method? m = some meth) (h3 : meth.code = some c) (h4 : c.code = bytes)
    (h5 : (c.maxLocals == mx && c.exceptionTable.isEmpty && decide (c.maxStack ≤ mostOperands) && decide (meth.sig.returnType = rt) && !meth.locks && decide (parseMethodDescriptor y.desc = some meth.sig)) = true) : (Jvm.Cond.code y bytes mx rt).before a s = true := by
  simp only [Bool.and_eq_true, beq_iff_eq, Bool.not_eq_true', decide_eq_true_eq] at h5
  obtain ⟨⟨⟨⟨⟨g1, g2⟩, g3⟩, g4⟩, g5⟩, g6⟩ := h5
  simp [Cond.before, Cond.holds, Cond.value, h1, h2, h3, h4, g1, g2, g3, g4, g5, g6]
def isCode : Jvm.Cond → Bool
  | .code _ _ _ _ => true
  | _ => false
theorem all_split {L : List Jvm.Cond} {P : Jvm.Cond → Bool} (h1 : L.all (fun c => isCode c || P c) = true) (h2 : ∀ c ∈ L.filter isCode, P c = true) : L.all P = true := by
  refine List.all_eq_true.mpr fun c hc => ?_
  have h := List.all_eq_true.mp h1 c hc
  rcases Bool.eq_false_or_eq_true (isCode c) with hi | hi
  · exact h2 c (List.mem_filter.mpr ⟨hc, hi⟩)
  · simpa [hi] using h
set_option maxRecDepth 65536 in
theorem w_c0 : (Jvm.Cond.code x code maxLocals ret).before args0 about1 = true := code_word (m := ⟨1, 1⟩) (meth := k1m1) (c := k1c1) (by decide +kernel) rfl rfl rfl (by decide +kernel)
set_option maxRecDepth 65536 in
theorem w_c1 : (Jvm.Cond.code ({ cls := "com/example/turnstyle/turnstyle/domain/Stock", name := "<init>", desc := "(JJJ)V" } : Jvm.MethodName) prog_12_method_1_code (7 : Nat) (Option.none : Option Jvm.ClassFile.FieldType)).before args0 about1 = true := code_word (m := ⟨2, 0⟩) (meth := k2m0) (c := k2c0) (by decide +kernel) rfl rfl rfl (by decide +kernel)
set_option maxRecDepth 65536 in
theorem w_c2 : (Jvm.Cond.code ({ cls := "java/lang/Object", name := "<init>", desc := "()V" } : Jvm.MethodName) object_method_1_code (1 : Nat) (Option.none : Option Jvm.ClassFile.FieldType)).before args0 about1 = true := code_word (m := ⟨0, 0⟩) (meth := k0m0) (c := k0c0) (by decide +kernel) rfl rfl rfl (by decide +kernel)
set_option maxRecDepth 65536 in
theorem w_c3 : (Jvm.Cond.code ({ cls := "com/example/turnstyle/turnstyle/domain/Stock", name := "requireTotal", desc := "(J)J" } : Jvm.MethodName) prog_12_method_2_code (2 : Nat) (Option.some Jvm.ClassFile.FieldType.long)).before args0 about1 = true := code_word (m := ⟨2, 1⟩) (meth := k2m1) (c := k2c1) (by decide +kernel) rfl rfl rfl (by decide +kernel)
set_option maxRecDepth 65536 in
theorem w_c4 : (Jvm.Cond.code ({ cls := "com/example/turnstyle/turnstyle/domain/Stock", name := "getAvailable", desc := "()J" } : Jvm.MethodName) prog_12_method_3_code (1 : Nat) (Option.some Jvm.ClassFile.FieldType.long)).before args0 about1 = true := code_word (m := ⟨2, 2⟩) (meth := k2m2) (c := k2c2) (by decide +kernel) rfl rfl rfl (by decide +kernel)
set_option maxRecDepth 65536 in
theorem w_c5 : (Jvm.Cond.code ({ cls := "com/example/turnstyle/turnstyle/domain/Stock", name := "afterHolding", desc := "(J)Lcom/example/turnstyle/turnstyle/domain/Stock;" } : Jvm.MethodName) prog_12_method_5_code (3 : Nat) (Option.some (Jvm.ClassFile.FieldType.object "com/example/turnstyle/turnstyle/domain/Stock"))).before args0 about1 = true := code_word (m := ⟨2, 3⟩) (meth := k2m3) (c := k2c3) (by decide +kernel) rfl rfl rfl (by decide +kernel)
def codes1 : List Jvm.Cond := [Jvm.Cond.code x code maxLocals ret, Jvm.Cond.code ({ cls := "com/example/turnstyle/turnstyle/domain/Stock", name := "<init>", desc := "(JJJ)V" } : Jvm.MethodName) prog_12_method_1_code (7 : Nat) (Option.none : Option Jvm.ClassFile.FieldType), Jvm.Cond.code ({ cls := "java/lang/Object", name := "<init>", desc := "()V" } : Jvm.MethodName) object_method_1_code (1 : Nat) (Option.none : Option Jvm.ClassFile.FieldType), Jvm.Cond.code ({ cls := "com/example/turnstyle/turnstyle/domain/Stock", name := "requireTotal", desc := "(J)J" } : Jvm.MethodName) prog_12_method_2_code (2 : Nat) (Option.some Jvm.ClassFile.FieldType.long), Jvm.Cond.code ({ cls := "com/example/turnstyle/turnstyle/domain/Stock", name := "getAvailable", desc := "()J" } : Jvm.MethodName) prog_12_method_3_code (1 : Nat) (Option.some Jvm.ClassFile.FieldType.long), Jvm.Cond.code ({ cls := "com/example/turnstyle/turnstyle/domain/Stock", name := "afterHolding", desc := "(J)Lcom/example/turnstyle/turnstyle/domain/Stock;" } : Jvm.MethodName) prog_12_method_5_code (3 : Nat) (Option.some (Jvm.ClassFile.FieldType.object "com/example/turnstyle/turnstyle/domain/Stock"))]
set_option maxRecDepth 65536 in
theorem codes_eq : words1.filter isCode = codes1 := rfl
theorem w_codes : ∀ c ∈ words1.filter isCode, c.before args0 about1 = true := by
  rw [codes_eq]
  intro c hc
  simp only [codes1, List.mem_cons, List.not_mem_nil, or_false] at hc
  rcases hc with rfl | rfl | rfl | rfl | rfl | rfl
  · exact w_c0
  · exact w_c1
  · exact w_c2
  · exact w_c3
  · exact w_c4
  · exact w_c5
set_option maxRecDepth 65536 in
theorem w_t1 : (words1.take 24).all (fun c => isCode c || c.before args0 about1) = true := by decide +kernel
set_option maxRecDepth 65536 in
theorem w_t2 : (words1.drop 24).all (fun c => isCode c || c.before args0 about1) = true := by decide +kernel
theorem w_tables : (allAtoms (Jvm.Cond.code x code maxLocals ret :: tables_1)).before args0 about1 = true := by
  rw [allAtoms_all]
  show words1.all (fun c => c.before args0 about1) = true
  refine all_split ?_ w_codes
  rw [← List.take_append_drop 24 words1, List.all_append, w_t1, w_t2]
  rfl
set_option maxRecDepth 65536 in
theorem w_case : (Jvm.Cond.and given_1 narrow_1).before args0 about1 = true := by decide +kernel
theorem w_applies : (headSpec (Jvm.Cond.code x code maxLocals ret :: tables_1) room_1).applies x e0.platform about1 = true :=
  (Spec.applies_iff w_frames).mpr ⟨w_running, w_runnable, w_alone, w_named, w_hears, w_ripe, w_room, w_tables⟩
theorem atStart : AtStart classFile x code maxLocals ret World_1 tables_1 room_1 Calls_1 rest_1 Pre_1 launch0 p0 e0 about1 theMethod args0 below0 :=
  ⟨lists_1, trivial, launch0.admits_env _ _ _, launch0.least_env, fairChoices_fair.cas, fairChoices_fair.clock, w_frames, w_args, w_heap, w_applies, trivial, trivial, w_case⟩
end start1
theorem witness_1 : WitnessClaimed_1 := ⟨start1.p0, start1.e0, start1.about1, start1.theMethod, start1.args0, start1.below0, start1.atStart⟩
end Jvm.Pilot.@@N@@
